import PyProof.Rows.All
import Wide.All
import OpenK.AllK
import Wide.FinOn
import KE.KDictOf
import KE.KLcPair
import KE.KSortTup
import PyProof.AttrMissHeap
import PyProof.ZipIter
import PySem.Challenge.RW_sr0088_01
set_option Elab.async false
set_option maxRecDepth 100000
set_option maxHeartbeats 0
set_option linter.unusedVariables false
set_option linter.unusedSimpArgs false
set_option linter.unusedSectionVars false
open PySem.Challenge
section
open PySem PySem.W PyProof.Rows PySem.Calls
namespace Mine
theorem bt {a b : Bool} (h1 : a = true) (h2 : b = true) : (a && b) = true := by rw [h1, h2]; rfl
theorem said_ok : OpenLaw.wellSaid rw_sr0088_01 = true := by
 refine (congrFun Fast.te9446332074065402090 _).trans ?_
 unfold Fast.tw9446332074065402090 Fast.tw17960256430627541270 Fast.tw2436336058641802641 Fast.tw12908688711261696721
 repeat' with_reducible refine bt ?_ ?_
 all_goals as_aux_lemma => kernel_rfl
end Mine
end
section
open PySem PySem.W PyProof.Rows
namespace Mine
noncomputable abbrev sn (s : String) : Str := Str.ofString s
noncomputable def a0 : Arguments := { posonlyargs := [], args := [], vararg := none, kwonlyargs := [], kw_defaults := [], kwarg := none, defaults := [] }
noncomputable def s0 : Stmt := .Pass ⟨0, 0, 0, 0⟩
noncomputable def nth {α : Type} (d : α) : List α -> Nat -> α
 | [], _ => d
 | x :: _, 0 => x
 | _ :: r, n + 1 => nth d r n
noncomputable def stm (p : Program) (i : Nat) : Stmt := nth s0 p.main.body i
noncomputable def clB : Stmt -> List Stmt
 | .ClassDef _ _ _ b _ _ _ _ _ _ _ => b
 | _ => []
noncomputable def cst (p : Program) (i j : Nat) : Stmt := nth s0 (clB (stm p i)) j
noncomputable def fdA : Stmt -> Arguments
 | .FunctionDef _ a _ _ _ _ _ _ _ _ => a
 | _ => a0
noncomputable def fdB : Stmt -> List Stmt
 | .FunctionDef _ _ b _ _ _ _ _ _ _ => b
 | _ => []
noncomputable def fdS : Stmt -> Scope
 | .FunctionDef _ _ _ _ _ _ s _ _ _ => s
 | _ => default
noncomputable def sE (P : Params) (x : Str) (t : Tok) (v : Value) : DictEntry := ⟨PyData.keyHash P x, .str x t, v⟩
noncomputable def e0 : Str := ⟨#[]⟩
noncomputable def dct (es : List DictEntry) (n : Nat) : Obj := ⟨.type "dict", none, .dict ⟨es⟩ n, ⟨[]⟩⟩
noncomputable def entsA : Nat -> List (Int × Str) -> List DictEntry
 | _, [] => []
 | t, e :: r => ⟨hashInt e.1, .int e.1 t, .str e.2 (t + 1)⟩ :: entsA (t + 3) r
noncomputable def entsB : Nat -> List (Int × Str) -> List DictEntry
 | _, [] => []
 | t, e :: r => ⟨hashInt e.1, .int e.1 t, .str e.2 (t + 1)⟩ :: entsB (t + 2) r
noncomputable def midsOf : Nat -> List (List (Int × Str)) -> List Obj
 | _, [] => []
 | t, c :: r => dct (entsA t c) c.length :: midsOf (t + 3 * c.length) r
noncomputable def mainOf : Nat -> List (List (Int × Str)) -> List DictEntry
 | _, [] => []
 | t, c :: r => entsA t c ++ mainOf (t + 3 * c.length) r
noncomputable def tabOf : List (Option Expr) -> List Expr -> List (Int × Str)
 | some (.Constant (.int k) _ _) :: ks, .Constant (.str x) _ _ :: vs => (k, x) :: tabOf ks vs
 | _, _ => []
noncomputable def tabSt : Stmt -> List (Int × Str)
 | .Assign _ (.Dict ks vs _) _ => tabOf ks vs
 | _ => []
noncomputable def b3tab (p : Program) : List (Int × Str) := tabSt (stm p 15)
noncomputable def chunk17 (n : Nat) (l : List (Int × Str)) : List (List (Int × Str)) := match n with
 | 0 => []
 | n + 1 => l.take 17 :: chunk17 n (l.drop 17)
noncomputable def b3c (p : Program) : List (Int × Str) := (b3tab p).take 17
noncomputable def b3cs (p : Program) : List (List (Int × Str)) := chunk17 37 ((b3tab p).drop 17)
noncomputable def b3r (p : Program) : List (Int × Str) := (b3tab p).drop 646
noncomputable def b3ents (p : Program) : List DictEntry := mainOf 647 (b3c p :: b3cs p) ++ entsB 2585 (b3r p)
noncomputable def b3subs (p : Program) : List Obj := midsOf 698 (b3cs p) ++ [dct (entsB 2585 (b3r p)) 4]
abbrev OF := Program -> Params -> Obj
abbrev BF := Program -> Params -> BT
noncomputable def o0 : OF := fun p P => ⟨.type "dict", .none, .dict ⟨[sE P (sn "__name__") 1 (.str (sn "builtins") 160),
 sE P (sn "__doc__") 2 (.builtin "builtins.__doc__:str#opaque"),
 sE P (sn "__package__") 3 (.builtin "builtins.__package__:str#opaque"),
 sE P (sn "__loader__") 4 (.builtin "builtins.__loader__:shared#opaque"),
 sE P (sn "__spec__") 5 (.builtin "builtins.__spec__#opaque"),
 sE P (sn "__build_class__") 6 (.builtin "__build_class__"),
 sE P (sn "__import__") 7 (.builtin "__import__"),
 sE P (sn "abs") 8 (.builtin "abs"),
 sE P (sn "all") 9 (.builtin "all"),
 sE P (sn "any") 10 (.builtin "any"),
 sE P (sn "ascii") 11 (.builtin "ascii"),
 sE P (sn "bin") 12 (.builtin "bin"),
 sE P (sn "breakpoint") 13 (.builtin "breakpoint"),
 sE P (sn "callable") 14 (.builtin "callable"),
 sE P (sn "chr") 15 (.builtin "chr"),
 sE P (sn "compile") 16 (.builtin "compile"),
 sE P (sn "delattr") 17 (.builtin "delattr"),
 sE P (sn "dir") 18 (.builtin "dir"),
 sE P (sn "divmod") 19 (.builtin "divmod"),
 sE P (sn "eval") 20 (.builtin "eval"),
 sE P (sn "exec") 21 (.builtin "exec"),
 sE P (sn "format") 22 (.builtin "format"),
 sE P (sn "getattr") 23 (.builtin "getattr"),
 sE P (sn "globals") 24 (.builtin "globals"),
 sE P (sn "hasattr") 25 (.builtin "hasattr"),
 sE P (sn "hash") 26 (.builtin "hash"),
 sE P (sn "hex") 27 (.builtin "hex"),
 sE P (sn "id") 28 (.builtin "id"),
 sE P (sn "input") 29 (.builtin "input"),
 sE P (sn "isinstance") 30 (.builtin "isinstance"),
 sE P (sn "issubclass") 31 (.builtin "issubclass"),
 sE P (sn "iter") 32 (.builtin "iter"),
 sE P (sn "aiter") 33 (.builtin "aiter"),
 sE P (sn "len") 34 (.builtin "len"),
 sE P (sn "locals") 35 (.builtin "locals"),
 sE P (sn "max") 36 (.builtin "max"),
 sE P (sn "min") 37 (.builtin "min"),
 sE P (sn "next") 38 (.builtin "next"),
 sE P (sn "anext") 39 (.builtin "anext"),
 sE P (sn "oct") 40 (.builtin "oct"),
 sE P (sn "ord") 41 (.builtin "ord"),
 sE P (sn "pow") 42 (.builtin "pow"),
 sE P (sn "print") 43 (.builtin "print"),
 sE P (sn "repr") 44 (.builtin "repr"),
 sE P (sn "round") 45 (.builtin "round"),
 sE P (sn "setattr") 46 (.builtin "setattr"),
 sE P (sn "sorted") 47 (.builtin "sorted"),
 sE P (sn "sum") 48 (.builtin "sum"),
 sE P (sn "vars") 49 (.builtin "vars"),
 sE P (sn "None") 50 (.none),
 sE P (sn "Ellipsis") 51 (.ellipsis),
 sE P (sn "NotImplemented") 52 (.notImplemented),
 sE P (sn "False") 53 (.bool false),
 sE P (sn "True") 54 (.bool true),
 sE P (sn "bool") 55 (.type "bool"),
 sE P (sn "memoryview") 56 (.type "memoryview"),
 sE P (sn "bytearray") 57 (.type "bytearray"),
 sE P (sn "bytes") 58 (.type "bytes"),
 sE P (sn "classmethod") 59 (.type "classmethod"),
 sE P (sn "complex") 60 (.type "complex"),
 sE P (sn "dict") 61 (.type "dict"),
 sE P (sn "enumerate") 62 (.type "enumerate"),
 sE P (sn "filter") 63 (.type "filter"),
 sE P (sn "float") 64 (.type "float"),
 sE P (sn "frozenset") 65 (.type "frozenset"),
 sE P (sn "property") 66 (.type "property"),
 sE P (sn "int") 67 (.type "int"),
 sE P (sn "list") 68 (.type "list"),
 sE P (sn "map") 69 (.type "map"),
 sE P (sn "object") 70 (.type "object"),
 sE P (sn "range") 71 (.type "range"),
 sE P (sn "reversed") 72 (.type "reversed"),
 sE P (sn "set") 73 (.type "set"),
 sE P (sn "slice") 74 (.type "slice"),
 sE P (sn "staticmethod") 75 (.type "staticmethod"),
 sE P (sn "str") 76 (.type "str"),
 sE P (sn "super") 77 (.type "super"),
 sE P (sn "tuple") 78 (.type "tuple"),
 sE P (sn "type") 79 (.type "type"),
 sE P (sn "zip") 80 (.type "zip"),
 sE P (sn "__debug__") 81 (.bool true),
 sE P (sn "BaseException") 82 (.type "BaseException"),
 sE P (sn "BaseExceptionGroup") 83 (.type "BaseExceptionGroup"),
 sE P (sn "Exception") 84 (.type "Exception"),
 sE P (sn "GeneratorExit") 85 (.type "GeneratorExit"),
 sE P (sn "KeyboardInterrupt") 86 (.type "KeyboardInterrupt"),
 sE P (sn "SystemExit") 87 (.type "SystemExit"),
 sE P (sn "ArithmeticError") 88 (.type "ArithmeticError"),
 sE P (sn "AssertionError") 89 (.type "AssertionError"),
 sE P (sn "AttributeError") 90 (.type "AttributeError"),
 sE P (sn "BufferError") 91 (.type "BufferError"),
 sE P (sn "EOFError") 92 (.type "EOFError"),
 sE P (sn "ImportError") 93 (.type "ImportError"),
 sE P (sn "LookupError") 94 (.type "LookupError"),
 sE P (sn "MemoryError") 95 (.type "MemoryError"),
 sE P (sn "NameError") 96 (.type "NameError"),
 sE P (sn "OSError") 97 (.type "OSError"),
 sE P (sn "ReferenceError") 98 (.type "ReferenceError"),
 sE P (sn "RuntimeError") 99 (.type "RuntimeError"),
 sE P (sn "StopAsyncIteration") 100 (.type "StopAsyncIteration"),
 sE P (sn "StopIteration") 101 (.type "StopIteration"),
 sE P (sn "SyntaxError") 102 (.type "SyntaxError"),
 sE P (sn "SystemError") 103 (.type "SystemError"),
 sE P (sn "TypeError") 104 (.type "TypeError"),
 sE P (sn "ValueError") 105 (.type "ValueError"),
 sE P (sn "Warning") 106 (.type "Warning"),
 sE P (sn "FloatingPointError") 107 (.type "FloatingPointError"),
 sE P (sn "OverflowError") 108 (.type "OverflowError"),
 sE P (sn "ZeroDivisionError") 109 (.type "ZeroDivisionError"),
 sE P (sn "BytesWarning") 110 (.type "BytesWarning"),
 sE P (sn "DeprecationWarning") 111 (.type "DeprecationWarning"),
 sE P (sn "EncodingWarning") 112 (.type "EncodingWarning"),
 sE P (sn "FutureWarning") 113 (.type "FutureWarning"),
 sE P (sn "ImportWarning") 114 (.type "ImportWarning"),
 sE P (sn "PendingDeprecationWarning") 115 (.type "PendingDeprecationWarning"),
 sE P (sn "ResourceWarning") 116 (.type "ResourceWarning"),
 sE P (sn "RuntimeWarning") 117 (.type "RuntimeWarning"),
 sE P (sn "SyntaxWarning") 118 (.type "SyntaxWarning"),
 sE P (sn "UnicodeWarning") 119 (.type "UnicodeWarning"),
 sE P (sn "UserWarning") 120 (.type "UserWarning"),
 sE P (sn "BlockingIOError") 121 (.type "BlockingIOError"),
 sE P (sn "ChildProcessError") 122 (.type "ChildProcessError"),
 sE P (sn "ConnectionError") 123 (.type "ConnectionError"),
 sE P (sn "FileExistsError") 124 (.type "FileExistsError"),
 sE P (sn "FileNotFoundError") 125 (.type "FileNotFoundError"),
 sE P (sn "InterruptedError") 126 (.type "InterruptedError"),
 sE P (sn "IsADirectoryError") 127 (.type "IsADirectoryError"),
 sE P (sn "NotADirectoryError") 128 (.type "NotADirectoryError"),
 sE P (sn "PermissionError") 129 (.type "PermissionError"),
 sE P (sn "ProcessLookupError") 130 (.type "ProcessLookupError"),
 sE P (sn "TimeoutError") 131 (.type "TimeoutError"),
 sE P (sn "IndentationError") 132 (.type "IndentationError"),
 sE P (sn "_IncompleteInputError") 133 (.type "_IncompleteInputError"),
 sE P (sn "IndexError") 134 (.type "IndexError"),
 sE P (sn "KeyError") 135 (.type "KeyError"),
 sE P (sn "ModuleNotFoundError") 136 (.type "ModuleNotFoundError"),
 sE P (sn "NotImplementedError") 137 (.type "NotImplementedError"),
 sE P (sn "PythonFinalizationError") 138 (.type "PythonFinalizationError"),
 sE P (sn "RecursionError") 139 (.type "RecursionError"),
 sE P (sn "UnboundLocalError") 140 (.type "UnboundLocalError"),
 sE P (sn "UnicodeError") 141 (.type "UnicodeError"),
 sE P (sn "BrokenPipeError") 142 (.type "BrokenPipeError"),
 sE P (sn "ConnectionAbortedError") 143 (.type "ConnectionAbortedError"),
 sE P (sn "ConnectionRefusedError") 144 (.type "ConnectionRefusedError"),
 sE P (sn "ConnectionResetError") 145 (.type "ConnectionResetError"),
 sE P (sn "TabError") 146 (.type "TabError"),
 sE P (sn "UnicodeDecodeError") 147 (.type "UnicodeDecodeError"),
 sE P (sn "UnicodeEncodeError") 148 (.type "UnicodeEncodeError"),
 sE P (sn "UnicodeTranslateError") 149 (.type "UnicodeTranslateError"),
 sE P (sn "ExceptionGroup") 150 (.type "ExceptionGroup"),
 sE P (sn "EnvironmentError") 151 (.type "OSError"),
 sE P (sn "IOError") 152 (.type "OSError"),
 sE P (sn "open") 153 (.builtin "open"),
 sE P (sn "quit") 154 (.builtin "builtins.quit#opaque"),
 sE P (sn "exit") 155 (.builtin "builtins.exit#opaque"),
 sE P (sn "copyright") 156 (.builtin "builtins.copyright#opaque"),
 sE P (sn "credits") 157 (.builtin "builtins.credits#opaque"),
 sE P (sn "license") 158 (.builtin "builtins.license#opaque"),
 sE P (sn "help") 159 (.builtin "builtins.help#opaque")]⟩ 159, ⟨[]⟩⟩
noncomputable def o1 : OF := fun p P => ⟨.type "dict", .none, .dict ⟨[sE P (sn "builtins") 162 (.ref 4),
 sE P (sn "__main__") 163 (.ref 5),
 sE P (sn "_sre") 244 (.ref 12)]⟩ 3, ⟨[]⟩⟩
noncomputable def o2 : OF := fun p P => ⟨.none, .none, .dict ⟨[sE P ⟨#[105,109,112,111,114,116,46,108,111,97,100,101,100,46,95,115,114,101]⟩ 183 (.bool true),
 sE P (sn "class._frozen_importlib.BuiltinImporter") 185 (.ref 14),
 sE P ⟨#[119,97,116,99,104,101,100,46,105,109,112,111,114,116]⟩ 206 (.ref 18),
 sE P (sn "class._frozen_importlib.ModuleSpec") 216 (.ref 22),
 sE P (sn "sys.modules.booked-epoch") 245 (.int 3 0),
 sE P ⟨#[105,109,112,111,114,116,46,108,97,116,101,114,45,108,97,105,100,46,95,115,114,101]⟩ 270 (.bool true),
 sE P (sn "watched.library") 272 (.ref 27),
 sE P (sn "watched.library-objects") 0 (.str ⟨#[12]⟩ 0),
 sE P (sn "watched.library-deep._sre") 273 (.str ⟨#[4,0,0,11,4,0,0,11,4,0,0,3,4,0,0,11,8,4,100,105,99,116,2]⟩ 0)]⟩ 9, ⟨[]⟩⟩
noncomputable def o3 : OF := fun p P => ⟨.type "dict", .none, .dict ⟨[sE P (sn "__name__") 165 (.str (sn "law_sr0088_01") 2606),
 sE P (sn "__doc__") 166 (.none),
 sE P (sn "__package__") 167 (.none),
 sE P (sn "__loader__") 168 (.builtin "__main__.__loader__#opaque"),
 sE P (sn "__spec__") 169 (.none),
 sE P (sn "__annotations__") 170 (.ref 6),
 sE P (sn "__builtins__") 171 (.ref 4),
 sE P (sn "__file__") 173 (.str (sn "/claim/cut.py") 172),
 sE P (sn "__cached__") 174 (.none),
 sE P (sn "_sre") 275 (.ref 12),
 sE P (sn "_wall") 288 (.ref 38),
 sE P (sn "tspecials") 324 (.ref 43),
 sE P (sn "_name_disallowed_re") 350 (.ref 48),
 sE P (sn "_value_disallowed_re") 384 (.ref 53),
 sE P (sn "_formatparam") 394 (.ref 61),
 sE P (sn "Headers") 551 (.ref 182),
 sE P (sn "ELLIPSIS_MARKER") 555 (.str (sn "...") 554),
 sE P (sn "_ellipsis_match") 567 (.ref 193),
 sE P (sn "_strip_exception_details") 577 (.ref 200),
 sE P (sn "b1_set") 639 (.ref 208),
 sE P (sn "in_table_b1") 646 (.ref 218),
 sE P (sn "b3_exceptions") 2597 (.ref 219),
 sE P (sn "map_table_b3") 2605 (.ref 264),
 sE P (sn "_law_row") 2613 (.ref 269),
 sE P (sn "_law_read") 2627 (.ref 276),
 sE P (sn "_law_takes") 2637 (.ref 283),
 sE P (sn "_law_keep") 2643 (.ref 288),
 sE P (sn "law") 2649 (.ref 293)]⟩ 28, ⟨[]⟩⟩
noncomputable def o4 : OF := fun p P => ⟨.type "module", (.some (0)), .plain, ⟨[]⟩⟩
noncomputable def o5 : OF := fun p P => ⟨.type "module", (.some (3)), .plain, ⟨[]⟩⟩
noncomputable def o6 : OF := fun p P => ⟨.type "dict", .none, .dict ⟨[]⟩ 0, ⟨[]⟩⟩
noncomputable def o7 : OF := fun p P => ⟨.type "tuple", .none, .seq ⟨[]⟩ 0, ⟨[]⟩⟩
noncomputable def o8 : OF := fun p P => ⟨.none, .none, .fields ⟨[]⟩, ⟨[]⟩⟩
noncomputable def o9 : OF := fun p P => ⟨.type "code", .none, .fields ⟨[.str (sn "<module>") 176, .str (sn "<module>") 177, .str (sn "/claim/cut.py") 178, .int 1 0, .int 0 0, .int 0 0, .int 0 0, .int 0 0, .ref 7, .bool false, .int 175 0, .ref 8, .none, .none, .none, .none, .int 179 0, .int 1 0, .str (sn "/claim/cut.py") 180]⟩, ⟨[]⟩⟩
noncomputable def o10 : OF := fun p P => ⟨.type "frame", .none, .plain, ⟨[(.some (.ref 9)), (.some (.ref 3)), (.some (.ref 3)), .none, (.some (.str (sn "__main__") 164)), .none, (.some (.ref 0))]⟩⟩
noncomputable def o11 : OF := fun p P => ⟨.type "dict", .none, .dict ⟨[sE P (sn "__name__") 247 (.str (sn "_sre") 246),
 sE P (sn "__doc__") 248 (.none),
 sE P (sn "__package__") 250 (.str e0 249),
 sE P (sn "__loader__") 251 (.builtin "off-the-table:_sre.__loader__:shared#opaque"),
 sE P (sn "__spec__") 252 (.builtin "off-the-table:_sre.__spec__:shared#opaque"),
 sE P (sn "compile") 253 (.builtin "_sre.compile"),
 sE P (sn "template") 254 (.builtin "off-the-table:_sre.template:shared#opaque"),
 sE P (sn "getcodesize") 255 (.builtin "off-the-table:_sre.getcodesize:shared#opaque"),
 sE P (sn "ascii_iscased") 256 (.builtin "off-the-table:_sre.ascii_iscased:shared#opaque"),
 sE P (sn "unicode_iscased") 257 (.builtin "off-the-table:_sre.unicode_iscased:shared#opaque"),
 sE P (sn "ascii_tolower") 258 (.builtin "off-the-table:_sre.ascii_tolower:shared#opaque"),
 sE P (sn "unicode_tolower") 259 (.builtin "off-the-table:_sre.unicode_tolower:shared#opaque"),
 sE P (sn "MAGIC") 261 (.int 20230612 260),
 sE P (sn "CODESIZE") 263 (.int 4 262),
 sE P (sn "MAXREPEAT") 265 (.int 4294967295 264),
 sE P (sn "MAXGROUPS") 267 (.int 1073741823 266),
 sE P (sn "copyright") 269 (.str (sn " SRE 2.2.2 Copyright (c) 1997-2002 by Secret Labs AB ") 268)]⟩ 17, ⟨[]⟩⟩
noncomputable def o12 : OF := fun p P => ⟨.type "module", (.some (11)), .plain, ⟨[]⟩⟩
noncomputable def o13 : OF := fun p P => ⟨.type "dict", .none, .dict ⟨[sE P (sn "__module__") 189 (.str (sn "_frozen_importlib") 186),
 sE P (sn "__firstlineno__") 190 (.int 971 187),
 sE P (sn "__doc__") 191 (.builtin "_frozen_importlib.BuiltinImporter.__doc__:str#opaque"),
 sE P (sn "_ORIGIN") 192 (.str (sn "built-in") 188),
 sE P (sn "find_spec") 193 (.builtin "_frozen_importlib.BuiltinImporter.find_spec#opaque"),
 sE P (sn "create_module") 194 (.builtin "_frozen_importlib.BuiltinImporter.create_module#opaque"),
 sE P (sn "exec_module") 195 (.builtin "_frozen_importlib.BuiltinImporter.exec_module#opaque"),
 sE P (sn "get_code") 196 (.builtin "_frozen_importlib.BuiltinImporter.get_code#opaque"),
 sE P (sn "get_source") 197 (.builtin "_frozen_importlib.BuiltinImporter.get_source#opaque"),
 sE P (sn "is_package") 198 (.builtin "_frozen_importlib.BuiltinImporter.is_package#opaque"),
 sE P (sn "load_module") 199 (.builtin "_frozen_importlib.BuiltinImporter.load_module#opaque"),
 sE P (sn "__static_attributes__") 200 (.ref 15),
 sE P (sn "__dict__") 202 (.ref 16),
 sE P (sn "__weakref__") 204 (.ref 17)]⟩ 14, ⟨[]⟩⟩
noncomputable def o14 : OF := fun p P => ⟨.type "type", .none, .cls { name := (sn "BuiltinImporter"), bases := [.type "object"], mro := [.ref 14, .type "object"], ns := 13, qualname := (sn "BuiltinImporter"), hasDict := true, slotNames := [], subclasses := [], abstract := false, collection := .none, hasDel := false }, ⟨[]⟩⟩
noncomputable def o15 : OF := fun p P => ⟨.type "tuple", .none, .seq ⟨[]⟩ 0, ⟨[]⟩⟩
noncomputable def o16 : OF := fun p P => ⟨.type "getset_descriptor", .none, .fields ⟨[.str (sn "__dict__") 201, .ref 14, .builtin "function.__dict__", .builtin "function.__dict__#set"]⟩, ⟨[]⟩⟩
noncomputable def o17 : OF := fun p P => ⟨.type "getset_descriptor", .none, .fields ⟨[.str (sn "__weakref__") 203, .ref 14, .builtin "ExceptionGroup.__weakref__", .none]⟩, ⟨[]⟩⟩
noncomputable def o18 : OF := fun p P => ⟨.none, .none, .seq ⟨[.int 13 0, .str ⟨#[6,189,10,95,95,109,111,100,117,108,101,95,95,6,186,17,95,102,114,111,122,101,110,95,105,109,112,111,114,116,108,105,98,6,190,15,95,95,102,105,114,115,116,108,105,110,101,110,111,95,95,4,187,0,971,6,191,7,95,95,100,111,99,95,95,9,52,95,102,114,111,122,101,110,95,105,109,112,111,114,116,108,105,98,46,66,117,105,108,116,105,110,73,109,112,111,114,116,101,114,46,95,95,100,111,99,95,95,58,115,116,114,35,111,112,97,113,117,101,6,192,7,95,79,82,73,71,73,78,6,188,8,98,117,105,108,116,45,105,110,6,193,9,102,105,110,100,95,115,112,101,99,9,50,95,102,114,111,122,101,110,95,105,109,112,111,114,116,108,105,98,46,66,117,105,108,116,105,110,73,109,112,111,114,116,101,114,46,102,105,110,100,95,115,112,101,99,35,111,112,97,113,117,101,6,194,13,99,114,101,97,116,101,95,109,111,100,117,108,101,9,54,95,102,114,111,122,101,110,95,105,109,112,111,114,116,108,105,98,46,66,117,105,108,116,105,110,73,109,112,111,114,116,101,114,46,99,114,101,97,116,101,95,109,111,100,117,108,101,35,111,112,97,113,117,101,6,195,11,101,120,101,99,95,109,111,100,117,108,101,9,52,95,102,114,111,122,101,110,95,105,109,112,111,114,116,108,105,98,46,66,117,105,108,116,105,110,73,109,112,111,114,116,101,114,46,101,120,101,99,95,109,111,100,117,108,101,35,111,112,97,113,117,101,6,196,8,103,101,116,95,99,111,100,101,9,49,95,102,114,111,122,101,110,95,105,109,112,111,114,116,108,105,98,46,66,117,105,108,116,105,110,73,109,112,111,114,116,101,114,46,103,101,116,95,99,111,100,101,35,111,112,97,113,117,101,6,197,10,103,101,116,95,115,111,117,114,99,101,9,51,95,102,114,111,122,101,110,95,105,109,112,111,114,116,108,105,98,46,66,117,105,108,116,105,110,73,109,112,111,114,116,101,114,46,103,101,116,95,115,111,117,114,99,101,35,111,112,97,113,117,101,6,198,10,105,115,95,112,97,99,107,97,103,101,9,51,95,102,114,111,122,101,110,95,105,109,112,111,114,116,108,105,98,46,66,117,105,108,116,105,110,73,109,112,111,114,116,101,114,46,105,115,95,112,97,99,107,97,103,101,35,111,112,97,113,117,101,6,199,11,108,111,97,100,95,109,111,100,117,108,101,9,52,95,102,114,111,122,101,110,95,105,109,112,111,114,116,108,105,98,46,66,117,105,108,116,105,110,73,109,112,111,114,116,101,114,46,108,111,97,100,95,109,111,100,117,108,101,35,111,112,97,113,117,101,6,200,21,95,95,115,116,97,116,105,99,95,97,116,116,114,105,98,117,116,101,115,95,95,4,0,0,15,6,202,8,95,95,100,105,99,116,95,95,4,0,0,16,6,204,11,95,95,119,101,97,107,114,101,102,95,95,4,0,0,17]⟩ 0, .bool true, .bool true, .str e0 205, .int 21 0, .str ⟨#[6,227,10,95,95,109,111,100,117,108,101,95,95,6,217,17,95,102,114,111,122,101,110,95,105,109,112,111,114,116,108,105,98,6,228,15,95,95,102,105,114,115,116,108,105,110,101,110,111,95,95,4,218,0,562,6,229,7,95,95,100,111,99,95,95,9,47,95,102,114,111,122,101,110,95,105,109,112,111,114,116,108,105,98,46,77,111,100,117,108,101,83,112,101,99,46,95,95,100,111,99,95,95,58,115,116,114,35,111,112,97,113,117,101,6,230,8,95,95,105,110,105,116,95,95,9,44,95,102,114,111,122,101,110,95,105,109,112,111,114,116,108,105,98,46,77,111,100,117,108,101,83,112,101,99,46,95,95,105,110,105,116,95,95,35,111,112,97,113,117,101,6,231,8,95,95,114,101,112,114,95,95,9,44,95,102,114,111,122,101,110,95,105,109,112,111,114,116,108,105,98,46,77,111,100,117,108,101,83,112,101,99,46,95,95,114,101,112,114,95,95,35,111,112,97,113,117,101,6,232,6,95,95,101,113,95,95,9,42,95,102,114,111,122,101,110,95,105,109,112,111,114,116,108,105,98,46,77,111,100,117,108,101,83,112,101,99,46,95,95,101,113,95,95,35,111,112,97,113,117,101,6,233,6,99,97,99,104,101,100,9,42,95,102,114,111,122,101,110,95,105,109,112,111,114,116,108,105,98,46,77,111,100,117,108,101,83,112,101,99,46,99,97,99,104,101,100,35,111,112,97,113,117,101,6,234,6,112,97,114,101,110,116,9,42,95,102,114,111,122,101,110,95,105,109,112,111,114,116,108,105,98,46,77,111,100,117,108,101,83,112,101,99,46,112,97,114,101,110,116,35,111,112,97,113,117,101,6,235,12,104,97,115,95,108,111,99,97,116,105,111,110,9,48,95,102,114,111,122,101,110,95,105,109,112,111,114,116,108,105,98,46,77,111,100,117,108,101,83,112,101,99,46,104,97,115,95,108,111,99,97,116,105,111,110,35,111,112,97,113,117,101,6,236,21,95,95,115,116,97,116,105,99,95,97,116,116,114,105,98,117,116,101,115,95,95,4,0,0,23,6,238,8,95,95,100,105,99,116,95,95,4,0,0,24,6,240,11,95,95,119,101,97,107,114,101,102,95,95,4,0,0,25,6,241,8,95,95,104,97,115,104,95,95,0]⟩ 0, .bool true, .bool true, .str e0 242]⟩ 1, ⟨[]⟩⟩
noncomputable def o19 : OF := fun p P => ⟨.type "list", .none, .seq ⟨[]⟩ 0, ⟨[]⟩⟩
noncomputable def o20 : OF := fun p P => ⟨.type "dict", .none, .dict ⟨[sE P (sn "name") 208 (.str (sn "_sre") 207),
 sE P (sn "loader") 209 (.ref 14),
 sE P (sn "origin") 210 (.str (sn "built-in") 184),
 sE P (sn "loader_state") 211 (.none),
 sE P (sn "submodule_search_locations") 212 (.none),
 sE P (sn "_uninitialized_submodules") 213 (.ref 19),
 sE P (sn "_set_fileattr") 214 (.bool false),
 sE P (sn "_cached") 215 (.none),
 sE P (sn "_initializing") 243 (.bool false)]⟩ 9, ⟨[]⟩⟩
noncomputable def o21 : OF := fun p P => ⟨.type "dict", .none, .dict ⟨[sE P (sn "__module__") 227 (.str (sn "_frozen_importlib") 217),
 sE P (sn "__firstlineno__") 228 (.int 562 218),
 sE P (sn "__doc__") 229 (.builtin "_frozen_importlib.ModuleSpec.__doc__:str#opaque"),
 sE P (sn "__init__") 230 (.builtin "_frozen_importlib.ModuleSpec.__init__#opaque"),
 sE P (sn "__repr__") 231 (.builtin "_frozen_importlib.ModuleSpec.__repr__#opaque"),
 sE P (sn "__eq__") 232 (.builtin "_frozen_importlib.ModuleSpec.__eq__#opaque"),
 sE P (sn "cached") 233 (.builtin "_frozen_importlib.ModuleSpec.cached#opaque"),
 sE P (sn "parent") 234 (.builtin "_frozen_importlib.ModuleSpec.parent#opaque"),
 sE P (sn "has_location") 235 (.builtin "_frozen_importlib.ModuleSpec.has_location#opaque"),
 sE P (sn "__static_attributes__") 236 (.ref 23),
 sE P (sn "__dict__") 238 (.ref 24),
 sE P (sn "__weakref__") 240 (.ref 25),
 sE P (sn "__hash__") 241 (.none)]⟩ 13, ⟨[]⟩⟩
noncomputable def o22 : OF := fun p P => ⟨.type "type", .none, .cls { name := (sn "ModuleSpec"), bases := [.type "object"], mro := [.ref 22, .type "object"], ns := 21, qualname := (sn "ModuleSpec"), hasDict := true, slotNames := [], subclasses := [], abstract := false, collection := .none, hasDel := false }, ⟨[]⟩⟩
noncomputable def o23 : OF := fun p P => ⟨.type "tuple", .none, .seq ⟨[.str (sn "_cached") 219, .str (sn "_set_fileattr") 220, .str (sn "_uninitialized_submodules") 221, .str (sn "loader") 222, .str (sn "loader_state") 223, .str (sn "name") 224, .str (sn "origin") 225, .str (sn "submodule_search_locations") 226]⟩ 0, ⟨[]⟩⟩
noncomputable def o24 : OF := fun p P => ⟨.type "getset_descriptor", .none, .fields ⟨[.str (sn "__dict__") 237, .ref 22, .builtin "function.__dict__", .builtin "function.__dict__#set"]⟩, ⟨[]⟩⟩
noncomputable def o25 : OF := fun p P => ⟨.type "getset_descriptor", .none, .fields ⟨[.str (sn "__weakref__") 239, .ref 22, .builtin "ExceptionGroup.__weakref__", .none]⟩, ⟨[]⟩⟩
noncomputable def o26 : OF := fun p P => ⟨.ref 22, (.some (20)), .plain, ⟨[]⟩⟩
noncomputable def o27 : OF := fun p P => ⟨.none, .none, .seq ⟨[.int 11 0, .str ⟨#[6,247,8,95,95,110,97,109,101,95,95,6,246,4,95,115,114,101,6,248,7,95,95,100,111,99,95,95,0,6,250,11,95,95,112,97,99,107,97,103,101,95,95,6,249,0,6,251,10,95,95,108,111,97,100,101,114,95,95,4,0,0,14,6,252,8,95,95,115,112,101,99,95,95,4,0,0,26,6,253,7,99,111,109,112,105,108,101,9,12,95,115,114,101,46,99,111,109,112,105,108,101,6,254,8,116,101,109,112,108,97,116,101,9,13,95,115,114,101,46,116,101,109,112,108,97,116,101,6,255,11,103,101,116,99,111,100,101,115,105,122,101,9,16,95,115,114,101,46,103,101,116,99,111,100,101,115,105,122,101,6,256,13,97,115,99,105,105,95,105,115,99,97,115,101,100,9,18,95,115,114,101,46,97,115,99,105,105,95,105,115,99,97,115,101,100,6,257,15,117,110,105,99,111,100,101,95,105,115,99,97,115,101,100,9,20,95,115,114,101,46,117,110,105,99,111,100,101,95,105,115,99,97,115,101,100,6,258,13,97,115,99,105,105,95,116,111,108,111,119,101,114,9,18,95,115,114,101,46,97,115,99,105,105,95,116,111,108,111,119,101,114,6,259,15,117,110,105,99,111,100,101,95,116,111,108,111,119,101,114,9,20,95,115,114,101,46,117,110,105,99,111,100,101,95,116,111,108,111,119,101,114,6,261,5,77,65,71,73,67,4,260,0,20230612,6,263,8,67,79,68,69,83,73,90,69,4,262,0,4,6,265,9,77,65,88,82,69,80,69,65,84,4,264,0,4294967295,6,267,9,77,65,88,71,82,79,85,80,83,4,266,0,1073741823,6,269,9,99,111,112,121,114,105,103,104,116,6,268,53,32,83,82,69,32,50,46,50,46,50,32,67,111,112,121,114,105,103,104,116,32,40,99,41,32,49,57,57,55,45,50,48,48,50,32,98,121,32,83,101,99,114,101,116,32,76,97,98,115,32,65,66,32]⟩ 0, .bool true, .bool false, .str (sn "_sre") 271]⟩ 0, ⟨[]⟩⟩
noncomputable def o28 : OF := fun p P => ⟨.type "tuple", .none, .seq ⟨[]⟩ 0, ⟨[]⟩⟩
noncomputable def o29 : OF := fun p P => ⟨.none, .none, .fields ⟨[.int 2 0, .int 0 0, .ref 37, .int 9 0, .int 0 0, .ref 60, .int 18 0, .int 0 0, .ref 67, .int 102 0, .int 0 0, .ref 192, .int 130 0, .int 0 0, .ref 199, .int 144 0, .int 0 0, .ref 217, .int 147 0, .int 0 0, .ref 263, .int 153 0, .int 0 0, .ref 268, .int 165 0, .int 0 0, .ref 275, .int 181 0, .int 0 0, .ref 282, .int 186 0, .int 0 0, .ref 287, .int 193 0, .int 0 0, .ref 292]⟩, ⟨[]⟩⟩
noncomputable def o30 : OF := fun p P => ⟨.type "code", .none, .fields ⟨[.str (sn "<module>") 277, .str (sn "<module>") 278, .str (sn "/claim/cut.py") 279, .int 1 0, .int 0 0, .int 0 0, .int 0 0, .int 0 0, .ref 28, .bool false, .int 276 0, .ref 29, .none, .none, .none, .none, .int 280 0, .int 1 0, .str (sn "/claim/cut.py") 281]⟩, ⟨[]⟩⟩
noncomputable def o31 : OF := fun p P => ⟨.type "frame", .none, .plain, ⟨[(.some (.ref 30)), (.some (.ref 3)), (.some (.ref 3)), .none, (.some (.str (sn "__main__") 164)), .none, (.some (.ref 0))]⟩⟩
noncomputable def o32 : OF := fun p P => ⟨.type "tuple", .none, .seq ⟨[]⟩ 0, ⟨[]⟩⟩
noncomputable def o33 : OF := fun p P => ⟨.none, .none, .fields ⟨[]⟩, ⟨[]⟩⟩
noncomputable def o34 : OF := fun p P => ⟨.type "tuple", .none, .seq ⟨[.str (sn "k") 285]⟩ 0, ⟨[]⟩⟩
noncomputable def o35 : OF := fun p P => ⟨.type "tuple", .none, .seq ⟨[]⟩ 0, ⟨[]⟩⟩
noncomputable def o36 : OF := fun p P => ⟨.none, .none, .func { name := (sn "_wall"), qualname := (sn "_wall"), params := fdA (stm p 1), body := .stmts (fdB (stm p 1)), scope := fdS (stm p 1), globals := 0, closure := [], defaults := .none, kwdefaults := .none, doc := .none, pyModule := .none, annotations := .none, code := .none, closureTuple := .none, builtins := 0 }, ⟨[]⟩⟩
noncomputable def o37 : OF := fun p P => ⟨.type "code", .none, .fields ⟨[.str (sn "_wall") 282, .str (sn "_wall") 283, .str (sn "/claim/cut.py") 284, .int 2 0, .int 1 0, .int 0 0, .int 0 0, .int 3 0, .ref 32, .bool true, .int 276 0, .ref 33, .none, .ref 34, .ref 35, .ref 36, .int 286 0, .int 2 0, .str (sn "/claim/cut.py") 287]⟩, ⟨[]⟩⟩
noncomputable def o38 : OF := fun p P => ⟨.type "function", .none, .func { name := (sn "_wall"), qualname := (sn "_wall"), params := fdA (stm p 1), body := .stmts (fdB (stm p 1)), scope := fdS (stm p 1), globals := 3, closure := [], defaults := .none, kwdefaults := .none, doc := .none, pyModule := .str (sn "__main__") 164, annotations := .none, code := .ref 37, closureTuple := .none, builtins := 0 }, ⟨[]⟩⟩
noncomputable def o39 : OF := fun p P => ⟨.type "list", .none, .seq ⟨[.int 14 294, .int 14 295, .int 4 296, .int 1 297, .int 1 298, .int 9 299, .int 0 300, .int 4227896069 301, .int 939524097 302, .int 0 303, .int 0 304, .int 0 305, .int 0 306, .int 0 307, .int 0 308, .int 13 309, .int 11 310, .int 9 311, .int 0 312, .int 4227896069 313, .int 939524097 314, .int 0 315, .int 0 316, .int 0 317, .int 0 318, .int 0 319, .int 0 320, .int 1 321]⟩ 0, ⟨[]⟩⟩
noncomputable def o40 : OF := fun p P => ⟨.type "dict", .none, .dict ⟨[]⟩ 0, ⟨[]⟩⟩
noncomputable def o41 : OF := fun p P => ⟨.type "tuple", .none, .seq ⟨[.none]⟩ 0, ⟨[]⟩⟩
noncomputable def o42 : OF := fun p P => ⟨.type "tuple", .none, .seq ⟨[.int 14 0, .int 14 0, .int 4 0, .int 1 0, .int 1 0, .int 9 0, .int 0 0, .int 4227896069 0, .int 939524097 0, .int 0 0, .int 0 0, .int 0 0, .int 0 0, .int 0 0, .int 0 0, .int 13 0, .int 11 0, .int 9 0, .int 0 0, .int 4227896069 0, .int 939524097 0, .int 0 0, .int 0 0, .int 0 0, .int 0 0, .int 0 0, .int 0 0, .int 1 0]⟩ 0, ⟨[]⟩⟩
noncomputable def o43 : OF := fun p P => ⟨.type "re.Pattern", .none, .fields ⟨[.str ⟨#[91,32,92,40,92,41,60,62,64,44,59,58,92,92,34,47,92,91,92,93,92,63,61,93]⟩ 292, .int 32 323, .int 0 0, .none, .none, .ref 42, .int 0 0]⟩, ⟨[]⟩⟩
noncomputable def o44 : OF := fun p P => ⟨.type "list", .none, .seq ⟨[.int 14 328, .int 10 329, .int 4 330, .int 1 331, .int 1 332, .int 22 333, .int 0 334, .int 31 335, .int 16 336, .int 127 337, .int 0 338, .int 13 339, .int 7 340, .int 22 341, .int 0 342, .int 31 343, .int 16 344, .int 127 345, .int 0 346, .int 1 347]⟩ 0, ⟨[]⟩⟩
noncomputable def o45 : OF := fun p P => ⟨.type "dict", .none, .dict ⟨[]⟩ 0, ⟨[]⟩⟩
noncomputable def o46 : OF := fun p P => ⟨.type "tuple", .none, .seq ⟨[.none]⟩ 0, ⟨[]⟩⟩
noncomputable def o47 : OF := fun p P => ⟨.type "tuple", .none, .seq ⟨[.int 14 0, .int 10 0, .int 4 0, .int 1 0, .int 1 0, .int 22 0, .int 0 0, .int 31 0, .int 16 0, .int 127 0, .int 0 0, .int 13 0, .int 7 0, .int 22 0, .int 0 0, .int 31 0, .int 16 0, .int 127 0, .int 0 0, .int 1 0]⟩ 0, ⟨[]⟩⟩
noncomputable def o48 : OF := fun p P => ⟨.type "re.Pattern", .none, .fields ⟨[.str ⟨#[91,92,120,48,48,45,92,120,49,70,92,120,55,70,93]⟩ 326, .int 32 349, .int 0 0, .none, .none, .ref 47, .int 0 0]⟩, ⟨[]⟩⟩
noncomputable def o49 : OF := fun p P => ⟨.type "list", .none, .seq ⟨[.int 14 354, .int 14 355, .int 4 356, .int 1 357, .int 1 358, .int 9 359, .int 4294966783 360, .int 0 361, .int 0 362, .int 2147483648 363, .int 0 364, .int 0 365, .int 0 366, .int 0 367, .int 0 368, .int 13 369, .int 11 370, .int 9 371, .int 4294966783 372, .int 0 373, .int 0 374, .int 2147483648 375, .int 0 376, .int 0 377, .int 0 378, .int 0 379, .int 0 380, .int 1 381]⟩ 0, ⟨[]⟩⟩
noncomputable def o50 : OF := fun p P => ⟨.type "dict", .none, .dict ⟨[]⟩ 0, ⟨[]⟩⟩
noncomputable def o51 : OF := fun p P => ⟨.type "tuple", .none, .seq ⟨[.none]⟩ 0, ⟨[]⟩⟩
noncomputable def o52 : OF := fun p P => ⟨.type "tuple", .none, .seq ⟨[.int 14 0, .int 14 0, .int 4 0, .int 1 0, .int 1 0, .int 9 0, .int 4294966783 0, .int 0 0, .int 0 0, .int 2147483648 0, .int 0 0, .int 0 0, .int 0 0, .int 0 0, .int 0 0, .int 13 0, .int 11 0, .int 9 0, .int 4294966783 0, .int 0 0, .int 0 0, .int 2147483648 0, .int 0 0, .int 0 0, .int 0 0, .int 0 0, .int 0 0, .int 1 0]⟩ 0, ⟨[]⟩⟩
noncomputable def o53 : OF := fun p P => ⟨.type "re.Pattern", .none, .fields ⟨[.str ⟨#[91,92,120,48,48,45,92,120,48,56,92,120,48,65,45,92,120,49,70,92,120,55,70,93]⟩ 352, .int 32 383, .int 0 0, .none, .none, .ref 52, .int 0 0]⟩, ⟨[]⟩⟩
noncomputable def o54 : OF := fun p P => ⟨.type "tuple", .none, .seq ⟨[.none, .int 1 385]⟩ 0, ⟨[]⟩⟩
noncomputable def o55 : OF := fun p P => ⟨.type "tuple", .none, .seq ⟨[]⟩ 0, ⟨[]⟩⟩
noncomputable def o56 : OF := fun p P => ⟨.none, .none, .fields ⟨[]⟩, ⟨[]⟩⟩
noncomputable def o57 : OF := fun p P => ⟨.type "tuple", .none, .seq ⟨[.str (sn "param") 389, .str (sn "value") 390, .str (sn "quote") 391]⟩ 0, ⟨[]⟩⟩
noncomputable def o58 : OF := fun p P => ⟨.type "tuple", .none, .seq ⟨[]⟩ 0, ⟨[]⟩⟩
noncomputable def o59 : OF := fun p P => ⟨.none, .none, .func { name := (sn "_formatparam"), qualname := (sn "_formatparam"), params := fdA (stm p 6), body := .stmts (fdB (stm p 6)), scope := fdS (stm p 6), globals := 0, closure := [], defaults := .none, kwdefaults := .none, doc := .none, pyModule := .none, annotations := .none, code := .none, closureTuple := .none, builtins := 0 }, ⟨[]⟩⟩
noncomputable def o60 : OF := fun p P => ⟨.type "code", .none, .fields ⟨[.str (sn "_formatparam") 386, .str (sn "_formatparam") 387, .str (sn "/claim/cut.py") 388, .int 9 0, .int 3 0, .int 0 0, .int 0 0, .int 3 0, .ref 55, .bool true, .int 276 0, .ref 56, .none, .ref 57, .ref 58, .ref 59, .int 392 0, .int 9 0, .str (sn "/claim/cut.py") 393]⟩, ⟨[]⟩⟩
noncomputable def o61 : OF := fun p P => ⟨.type "function", .none, .func { name := (sn "_formatparam"), qualname := (sn "_formatparam"), params := fdA (stm p 6), body := .stmts (fdB (stm p 6)), scope := fdS (stm p 6), globals := 3, closure := [], defaults := .ref 54, kwdefaults := .none, doc := .none, pyModule := .str (sn "cpy313.wsgiref.headers") 289, annotations := .none, code := .ref 60, closureTuple := .none, builtins := 0 }, ⟨[]⟩⟩
noncomputable def o62 : OF := fun p P => ⟨.type "tuple", .none, .seq ⟨[]⟩ 0, ⟨[]⟩⟩
noncomputable def o63 : OF := fun p P => ⟨.type "builtin_function_or_method", .none, .fields ⟨[.builtin "type.__prepare__", .type "type"]⟩, ⟨[]⟩⟩
noncomputable def o64 : OF := fun p P => ⟨.type "dict", .none, .dict ⟨[sE P (sn "__module__") 402 (.str (sn "cpy313.wsgiref.headers") 289),
 sE P (sn "__qualname__") 404 (.str (sn "Headers") 403),
 sE P (sn "__firstlineno__") 406 (.int 18 405),
 sE P (sn "__init__") 416 (.ref 76),
 sE P (sn "_convert_string_type") 426 (.ref 83),
 sE P (sn "__len__") 433 (.ref 90),
 sE P (sn "__setitem__") 442 (.ref 97),
 sE P (sn "__delitem__") 448 (.ref 102),
 sE P (sn "__getitem__") 456 (.ref 109),
 sE P (sn "__contains__") 464 (.ref 116),
 sE P (sn "get_all") 470 (.ref 121),
 sE P (sn "get") 481 (.ref 129),
 sE P (sn "keys") 487 (.ref 134),
 sE P (sn "values") 493 (.ref 139),
 sE P (sn "items") 500 (.ref 146),
 sE P (sn "__repr__") 507 (.ref 153),
 sE P (sn "__str__") 513 (.ref 158),
 sE P (sn "__bytes__") 520 (.ref 165),
 sE P (sn "setdefault") 529 (.ref 172),
 sE P (sn "add_header") 542 (.ref 179),
 sE P (sn "__static_attributes__") 544 (.ref 180)]⟩ 21, ⟨[]⟩⟩
noncomputable def o65 : OF := fun p P => ⟨.type "tuple", .none, .seq ⟨[]⟩ 0, ⟨[]⟩⟩
noncomputable def o66 : OF := fun p P => ⟨.none, .none, .fields ⟨[.int 20 0, .int 4 0, .ref 75, .int 30 0, .int 4 0, .ref 82, .int 38 0, .int 4 0, .ref 89, .int 41 0, .int 4 0, .ref 96, .int 45 0, .int 4 0, .ref 101, .int 49 0, .int 4 0, .ref 108, .int 52 0, .int 4 0, .ref 115, .int 55 0, .int 4 0, .ref 120, .int 59 0, .int 4 0, .ref 128, .int 66 0, .int 4 0, .ref 133, .int 69 0, .int 4 0, .ref 138, .int 72 0, .int 4 0, .ref 145, .int 75 0, .int 4 0, .ref 152, .int 78 0, .int 4 0, .ref 157, .int 81 0, .int 4 0, .ref 164, .int 84 0, .int 4 0, .ref 171, .int 87 0, .int 4 0, .ref 178]⟩, ⟨[]⟩⟩
noncomputable def o67 : OF := fun p P => ⟨.type "code", .none, .fields ⟨[.str (sn "Headers") 397, .str (sn "Headers") 398, .str (sn "/claim/cut.py") 399, .int 18 0, .int 0 0, .int 0 0, .int 0 0, .int 0 0, .ref 65, .bool false, .int 276 0, .ref 66, .none, .none, .none, .none, .int 400 0, .int 18 0, .str (sn "/claim/cut.py") 401]⟩, ⟨[]⟩⟩
noncomputable def o68 : OF := fun p P => ⟨.type "frame", .none, .plain, ⟨[(.some (.ref 67)), (.some (.ref 3)), (.some (.ref 64)), .none, (.some (.str (sn "cpy313.wsgiref.headers") 289)), .none, (.some (.ref 0))]⟩⟩
noncomputable def o69 : OF := fun p P => ⟨.type "tuple", .none, .seq ⟨[.none]⟩ 0, ⟨[]⟩⟩
noncomputable def o70 : OF := fun p P => ⟨.type "tuple", .none, .seq ⟨[]⟩ 0, ⟨[]⟩⟩
noncomputable def o71 : OF := fun p P => ⟨.none, .none, .fields ⟨[]⟩, ⟨[]⟩⟩
noncomputable def o72 : OF := fun p P => ⟨.type "tuple", .none, .seq ⟨[.str (sn "self") 410, .str (sn "headers") 411, .str (sn "k") 412, .str (sn "v") 413]⟩ 0, ⟨[]⟩⟩
noncomputable def o73 : OF := fun p P => ⟨.type "tuple", .none, .seq ⟨[]⟩ 0, ⟨[]⟩⟩
noncomputable def o74 : OF := fun p P => ⟨.none, .none, .func { name := (sn "__init__"), qualname := (sn "Headers.__init__"), params := fdA (cst p 7 0), body := .stmts (fdB (cst p 7 0)), scope := fdS (cst p 7 0), globals := 0, closure := [], defaults := .none, kwdefaults := .none, doc := .none, pyModule := .none, annotations := .none, code := .none, closureTuple := .none, builtins := 0 }, ⟨[]⟩⟩
noncomputable def o75 : OF := fun p P => ⟨.type "code", .none, .fields ⟨[.str (sn "__init__") 407, .str (sn "Headers.__init__") 408, .str (sn "/claim/cut.py") 409, .int 20 0, .int 2 0, .int 0 0, .int 0 0, .int 3 0, .ref 70, .bool true, .int 276 0, .ref 71, .none, .ref 72, .ref 73, .ref 74, .int 414 0, .int 20 0, .str (sn "/claim/cut.py") 415]⟩, ⟨[]⟩⟩
noncomputable def o76 : OF := fun p P => ⟨.type "function", .none, .func { name := (sn "__init__"), qualname := (sn "Headers.__init__"), params := fdA (cst p 7 0), body := .stmts (fdB (cst p 7 0)), scope := fdS (cst p 7 0), globals := 3, closure := [], defaults := .ref 69, kwdefaults := .none, doc := .none, pyModule := .str (sn "cpy313.wsgiref.headers") 289, annotations := .none, code := .ref 75, closureTuple := .none, builtins := 0 }, ⟨[]⟩⟩
noncomputable def o77 : OF := fun p P => ⟨.type "tuple", .none, .seq ⟨[]⟩ 0, ⟨[]⟩⟩
noncomputable def o78 : OF := fun p P => ⟨.none, .none, .fields ⟨[]⟩, ⟨[]⟩⟩
noncomputable def o79 : OF := fun p P => ⟨.type "tuple", .none, .seq ⟨[.str (sn "self") 420, .str (sn "value") 421, .str (sn "name") 422, .str (sn "regex") 423]⟩ 0, ⟨[]⟩⟩
noncomputable def o80 : OF := fun p P => ⟨.type "tuple", .none, .seq ⟨[]⟩ 0, ⟨[]⟩⟩
noncomputable def o81 : OF := fun p P => ⟨.none, .none, .func { name := (sn "_convert_string_type"), qualname := (sn "Headers._convert_string_type"), params := fdA (cst p 7 1), body := .stmts (fdB (cst p 7 1)), scope := fdS (cst p 7 1), globals := 0, closure := [], defaults := .none, kwdefaults := .none, doc := .none, pyModule := .none, annotations := .none, code := .none, closureTuple := .none, builtins := 0 }, ⟨[]⟩⟩
noncomputable def o82 : OF := fun p P => ⟨.type "code", .none, .fields ⟨[.str (sn "_convert_string_type") 417, .str (sn "Headers._convert_string_type") 418, .str (sn "/claim/cut.py") 419, .int 30 0, .int 2 0, .int 0 0, .int 1 0, .int 3 0, .ref 77, .bool true, .int 276 0, .ref 78, .none, .ref 79, .ref 80, .ref 81, .int 424 0, .int 30 0, .str (sn "/claim/cut.py") 425]⟩, ⟨[]⟩⟩
noncomputable def o83 : OF := fun p P => ⟨.type "function", .none, .func { name := (sn "_convert_string_type"), qualname := (sn "Headers._convert_string_type"), params := fdA (cst p 7 1), body := .stmts (fdB (cst p 7 1)), scope := fdS (cst p 7 1), globals := 3, closure := [], defaults := .none, kwdefaults := .none, doc := .none, pyModule := .str (sn "cpy313.wsgiref.headers") 289, annotations := .none, code := .ref 82, closureTuple := .none, builtins := 0 }, ⟨[]⟩⟩
noncomputable def o84 : OF := fun p P => ⟨.type "tuple", .none, .seq ⟨[]⟩ 0, ⟨[]⟩⟩
noncomputable def o85 : OF := fun p P => ⟨.none, .none, .fields ⟨[]⟩, ⟨[]⟩⟩
noncomputable def o86 : OF := fun p P => ⟨.type "tuple", .none, .seq ⟨[.str (sn "self") 430]⟩ 0, ⟨[]⟩⟩
noncomputable def o87 : OF := fun p P => ⟨.type "tuple", .none, .seq ⟨[]⟩ 0, ⟨[]⟩⟩
noncomputable def o88 : OF := fun p P => ⟨.none, .none, .func { name := (sn "__len__"), qualname := (sn "Headers.__len__"), params := fdA (cst p 7 2), body := .stmts (fdB (cst p 7 2)), scope := fdS (cst p 7 2), globals := 0, closure := [], defaults := .none, kwdefaults := .none, doc := .none, pyModule := .none, annotations := .none, code := .none, closureTuple := .none, builtins := 0 }, ⟨[]⟩⟩
noncomputable def o89 : OF := fun p P => ⟨.type "code", .none, .fields ⟨[.str (sn "__len__") 427, .str (sn "Headers.__len__") 428, .str (sn "/claim/cut.py") 429, .int 38 0, .int 1 0, .int 0 0, .int 0 0, .int 3 0, .ref 84, .bool true, .int 276 0, .ref 85, .none, .ref 86, .ref 87, .ref 88, .int 431 0, .int 38 0, .str (sn "/claim/cut.py") 432]⟩, ⟨[]⟩⟩
noncomputable def o90 : OF := fun p P => ⟨.type "function", .none, .func { name := (sn "__len__"), qualname := (sn "Headers.__len__"), params := fdA (cst p 7 2), body := .stmts (fdB (cst p 7 2)), scope := fdS (cst p 7 2), globals := 3, closure := [], defaults := .none, kwdefaults := .none, doc := .none, pyModule := .str (sn "cpy313.wsgiref.headers") 289, annotations := .none, code := .ref 89, closureTuple := .none, builtins := 0 }, ⟨[]⟩⟩
noncomputable def o91 : OF := fun p P => ⟨.type "tuple", .none, .seq ⟨[]⟩ 0, ⟨[]⟩⟩
noncomputable def o92 : OF := fun p P => ⟨.none, .none, .fields ⟨[]⟩, ⟨[]⟩⟩
noncomputable def o93 : OF := fun p P => ⟨.type "tuple", .none, .seq ⟨[.str (sn "self") 437, .str (sn "name") 438, .str (sn "val") 439]⟩ 0, ⟨[]⟩⟩
noncomputable def o94 : OF := fun p P => ⟨.type "tuple", .none, .seq ⟨[]⟩ 0, ⟨[]⟩⟩
noncomputable def o95 : OF := fun p P => ⟨.none, .none, .func { name := (sn "__setitem__"), qualname := (sn "Headers.__setitem__"), params := fdA (cst p 7 3), body := .stmts (fdB (cst p 7 3)), scope := fdS (cst p 7 3), globals := 0, closure := [], defaults := .none, kwdefaults := .none, doc := .none, pyModule := .none, annotations := .none, code := .none, closureTuple := .none, builtins := 0 }, ⟨[]⟩⟩
noncomputable def o96 : OF := fun p P => ⟨.type "code", .none, .fields ⟨[.str (sn "__setitem__") 434, .str (sn "Headers.__setitem__") 435, .str (sn "/claim/cut.py") 436, .int 41 0, .int 3 0, .int 0 0, .int 0 0, .int 3 0, .ref 91, .bool true, .int 276 0, .ref 92, .none, .ref 93, .ref 94, .ref 95, .int 440 0, .int 41 0, .str (sn "/claim/cut.py") 441]⟩, ⟨[]⟩⟩
noncomputable def o97 : OF := fun p P => ⟨.type "function", .none, .func { name := (sn "__setitem__"), qualname := (sn "Headers.__setitem__"), params := fdA (cst p 7 3), body := .stmts (fdB (cst p 7 3)), scope := fdS (cst p 7 3), globals := 3, closure := [], defaults := .none, kwdefaults := .none, doc := .none, pyModule := .str (sn "cpy313.wsgiref.headers") 289, annotations := .none, code := .ref 96, closureTuple := .none, builtins := 0 }, ⟨[]⟩⟩
noncomputable def o98 : OF := fun p P => ⟨.type "tuple", .none, .seq ⟨[]⟩ 0, ⟨[]⟩⟩
noncomputable def o99 : OF := fun p P => ⟨.none, .none, .fields ⟨[]⟩, ⟨[]⟩⟩
noncomputable def o100 : OF := fun p P => ⟨.none, .none, .func { name := (sn "__delitem__"), qualname := (sn "Headers.__delitem__"), params := fdA (cst p 7 4), body := .stmts (fdB (cst p 7 4)), scope := fdS (cst p 7 4), globals := 0, closure := [], defaults := .none, kwdefaults := .none, doc := .none, pyModule := .none, annotations := .none, code := .none, closureTuple := .none, builtins := 0 }, ⟨[]⟩⟩
noncomputable def o101 : OF := fun p P => ⟨.type "code", .none, .fields ⟨[.str (sn "__delitem__") 443, .str (sn "Headers.__delitem__") 444, .str (sn "/claim/cut.py") 445, .int 45 0, .int 2 0, .int 0 0, .int 0 0, .int 3 0, .ref 98, .bool true, .int 276 0, .ref 99, .none, .none, .none, .ref 100, .int 446 0, .int 45 0, .str (sn "/claim/cut.py") 447]⟩, ⟨[]⟩⟩
noncomputable def o102 : OF := fun p P => ⟨.type "function", .none, .func { name := (sn "__delitem__"), qualname := (sn "Headers.__delitem__"), params := fdA (cst p 7 4), body := .stmts (fdB (cst p 7 4)), scope := fdS (cst p 7 4), globals := 3, closure := [], defaults := .none, kwdefaults := .none, doc := .none, pyModule := .str (sn "cpy313.wsgiref.headers") 289, annotations := .none, code := .ref 101, closureTuple := .none, builtins := 0 }, ⟨[]⟩⟩
noncomputable def o103 : OF := fun p P => ⟨.type "tuple", .none, .seq ⟨[]⟩ 0, ⟨[]⟩⟩
noncomputable def o104 : OF := fun p P => ⟨.none, .none, .fields ⟨[]⟩, ⟨[]⟩⟩
noncomputable def o105 : OF := fun p P => ⟨.type "tuple", .none, .seq ⟨[.str (sn "self") 452, .str (sn "name") 453]⟩ 0, ⟨[]⟩⟩
noncomputable def o106 : OF := fun p P => ⟨.type "tuple", .none, .seq ⟨[]⟩ 0, ⟨[]⟩⟩
noncomputable def o107 : OF := fun p P => ⟨.none, .none, .func { name := (sn "__getitem__"), qualname := (sn "Headers.__getitem__"), params := fdA (cst p 7 5), body := .stmts (fdB (cst p 7 5)), scope := fdS (cst p 7 5), globals := 0, closure := [], defaults := .none, kwdefaults := .none, doc := .none, pyModule := .none, annotations := .none, code := .none, closureTuple := .none, builtins := 0 }, ⟨[]⟩⟩
noncomputable def o108 : OF := fun p P => ⟨.type "code", .none, .fields ⟨[.str (sn "__getitem__") 449, .str (sn "Headers.__getitem__") 450, .str (sn "/claim/cut.py") 451, .int 49 0, .int 2 0, .int 0 0, .int 0 0, .int 3 0, .ref 103, .bool true, .int 276 0, .ref 104, .none, .ref 105, .ref 106, .ref 107, .int 454 0, .int 49 0, .str (sn "/claim/cut.py") 455]⟩, ⟨[]⟩⟩
noncomputable def o109 : OF := fun p P => ⟨.type "function", .none, .func { name := (sn "__getitem__"), qualname := (sn "Headers.__getitem__"), params := fdA (cst p 7 5), body := .stmts (fdB (cst p 7 5)), scope := fdS (cst p 7 5), globals := 3, closure := [], defaults := .none, kwdefaults := .none, doc := .none, pyModule := .str (sn "cpy313.wsgiref.headers") 289, annotations := .none, code := .ref 108, closureTuple := .none, builtins := 0 }, ⟨[]⟩⟩
noncomputable def o110 : OF := fun p P => ⟨.type "tuple", .none, .seq ⟨[]⟩ 0, ⟨[]⟩⟩
noncomputable def o111 : OF := fun p P => ⟨.none, .none, .fields ⟨[]⟩, ⟨[]⟩⟩
noncomputable def o112 : OF := fun p P => ⟨.type "tuple", .none, .seq ⟨[.str (sn "self") 460, .str (sn "name") 461]⟩ 0, ⟨[]⟩⟩
noncomputable def o113 : OF := fun p P => ⟨.type "tuple", .none, .seq ⟨[]⟩ 0, ⟨[]⟩⟩
noncomputable def o114 : OF := fun p P => ⟨.none, .none, .func { name := (sn "__contains__"), qualname := (sn "Headers.__contains__"), params := fdA (cst p 7 6), body := .stmts (fdB (cst p 7 6)), scope := fdS (cst p 7 6), globals := 0, closure := [], defaults := .none, kwdefaults := .none, doc := .none, pyModule := .none, annotations := .none, code := .none, closureTuple := .none, builtins := 0 }, ⟨[]⟩⟩
noncomputable def o115 : OF := fun p P => ⟨.type "code", .none, .fields ⟨[.str (sn "__contains__") 457, .str (sn "Headers.__contains__") 458, .str (sn "/claim/cut.py") 459, .int 52 0, .int 2 0, .int 0 0, .int 0 0, .int 3 0, .ref 110, .bool true, .int 276 0, .ref 111, .none, .ref 112, .ref 113, .ref 114, .int 462 0, .int 52 0, .str (sn "/claim/cut.py") 463]⟩, ⟨[]⟩⟩
noncomputable def o116 : OF := fun p P => ⟨.type "function", .none, .func { name := (sn "__contains__"), qualname := (sn "Headers.__contains__"), params := fdA (cst p 7 6), body := .stmts (fdB (cst p 7 6)), scope := fdS (cst p 7 6), globals := 3, closure := [], defaults := .none, kwdefaults := .none, doc := .none, pyModule := .str (sn "cpy313.wsgiref.headers") 289, annotations := .none, code := .ref 115, closureTuple := .none, builtins := 0 }, ⟨[]⟩⟩
noncomputable def o117 : OF := fun p P => ⟨.type "tuple", .none, .seq ⟨[]⟩ 0, ⟨[]⟩⟩
noncomputable def o118 : OF := fun p P => ⟨.none, .none, .fields ⟨[]⟩, ⟨[]⟩⟩
noncomputable def o119 : OF := fun p P => ⟨.none, .none, .func { name := (sn "get_all"), qualname := (sn "Headers.get_all"), params := fdA (cst p 7 7), body := .stmts (fdB (cst p 7 7)), scope := fdS (cst p 7 7), globals := 0, closure := [], defaults := .none, kwdefaults := .none, doc := .none, pyModule := .none, annotations := .none, code := .none, closureTuple := .none, builtins := 0 }, ⟨[]⟩⟩
noncomputable def o120 : OF := fun p P => ⟨.type "code", .none, .fields ⟨[.str (sn "get_all") 465, .str (sn "Headers.get_all") 466, .str (sn "/claim/cut.py") 467, .int 55 0, .int 2 0, .int 0 0, .int 0 0, .int 3 0, .ref 117, .bool true, .int 276 0, .ref 118, .none, .none, .none, .ref 119, .int 468 0, .int 55 0, .str (sn "/claim/cut.py") 469]⟩, ⟨[]⟩⟩
noncomputable def o121 : OF := fun p P => ⟨.type "function", .none, .func { name := (sn "get_all"), qualname := (sn "Headers.get_all"), params := fdA (cst p 7 7), body := .stmts (fdB (cst p 7 7)), scope := fdS (cst p 7 7), globals := 3, closure := [], defaults := .none, kwdefaults := .none, doc := .none, pyModule := .str (sn "cpy313.wsgiref.headers") 289, annotations := .none, code := .ref 120, closureTuple := .none, builtins := 0 }, ⟨[]⟩⟩
noncomputable def o122 : OF := fun p P => ⟨.type "tuple", .none, .seq ⟨[.none]⟩ 0, ⟨[]⟩⟩
noncomputable def o123 : OF := fun p P => ⟨.type "tuple", .none, .seq ⟨[]⟩ 0, ⟨[]⟩⟩
noncomputable def o124 : OF := fun p P => ⟨.none, .none, .fields ⟨[]⟩, ⟨[]⟩⟩
noncomputable def o125 : OF := fun p P => ⟨.type "tuple", .none, .seq ⟨[.str (sn "self") 474, .str (sn "name") 475, .str (sn "default") 476, .str (sn "k") 477, .str (sn "v") 478]⟩ 0, ⟨[]⟩⟩
noncomputable def o126 : OF := fun p P => ⟨.type "tuple", .none, .seq ⟨[]⟩ 0, ⟨[]⟩⟩
noncomputable def o127 : OF := fun p P => ⟨.none, .none, .func { name := (sn "get"), qualname := (sn "Headers.get"), params := fdA (cst p 7 8), body := .stmts (fdB (cst p 7 8)), scope := fdS (cst p 7 8), globals := 0, closure := [], defaults := .none, kwdefaults := .none, doc := .none, pyModule := .none, annotations := .none, code := .none, closureTuple := .none, builtins := 0 }, ⟨[]⟩⟩
noncomputable def o128 : OF := fun p P => ⟨.type "code", .none, .fields ⟨[.str (sn "get") 471, .str (sn "Headers.get") 472, .str (sn "/claim/cut.py") 473, .int 59 0, .int 3 0, .int 0 0, .int 0 0, .int 3 0, .ref 123, .bool true, .int 276 0, .ref 124, .none, .ref 125, .ref 126, .ref 127, .int 479 0, .int 59 0, .str (sn "/claim/cut.py") 480]⟩, ⟨[]⟩⟩
noncomputable def o129 : OF := fun p P => ⟨.type "function", .none, .func { name := (sn "get"), qualname := (sn "Headers.get"), params := fdA (cst p 7 8), body := .stmts (fdB (cst p 7 8)), scope := fdS (cst p 7 8), globals := 3, closure := [], defaults := .ref 122, kwdefaults := .none, doc := .none, pyModule := .str (sn "cpy313.wsgiref.headers") 289, annotations := .none, code := .ref 128, closureTuple := .none, builtins := 0 }, ⟨[]⟩⟩
noncomputable def o130 : OF := fun p P => ⟨.type "tuple", .none, .seq ⟨[]⟩ 0, ⟨[]⟩⟩
noncomputable def o131 : OF := fun p P => ⟨.none, .none, .fields ⟨[]⟩, ⟨[]⟩⟩
noncomputable def o132 : OF := fun p P => ⟨.none, .none, .func { name := (sn "keys"), qualname := (sn "Headers.keys"), params := fdA (cst p 7 9), body := .stmts (fdB (cst p 7 9)), scope := fdS (cst p 7 9), globals := 0, closure := [], defaults := .none, kwdefaults := .none, doc := .none, pyModule := .none, annotations := .none, code := .none, closureTuple := .none, builtins := 0 }, ⟨[]⟩⟩
noncomputable def o133 : OF := fun p P => ⟨.type "code", .none, .fields ⟨[.str (sn "keys") 482, .str (sn "Headers.keys") 483, .str (sn "/claim/cut.py") 484, .int 66 0, .int 1 0, .int 0 0, .int 0 0, .int 3 0, .ref 130, .bool true, .int 276 0, .ref 131, .none, .none, .none, .ref 132, .int 485 0, .int 66 0, .str (sn "/claim/cut.py") 486]⟩, ⟨[]⟩⟩
noncomputable def o134 : OF := fun p P => ⟨.type "function", .none, .func { name := (sn "keys"), qualname := (sn "Headers.keys"), params := fdA (cst p 7 9), body := .stmts (fdB (cst p 7 9)), scope := fdS (cst p 7 9), globals := 3, closure := [], defaults := .none, kwdefaults := .none, doc := .none, pyModule := .str (sn "cpy313.wsgiref.headers") 289, annotations := .none, code := .ref 133, closureTuple := .none, builtins := 0 }, ⟨[]⟩⟩
noncomputable def o135 : OF := fun p P => ⟨.type "tuple", .none, .seq ⟨[]⟩ 0, ⟨[]⟩⟩
noncomputable def o136 : OF := fun p P => ⟨.none, .none, .fields ⟨[]⟩, ⟨[]⟩⟩
noncomputable def o137 : OF := fun p P => ⟨.none, .none, .func { name := (sn "values"), qualname := (sn "Headers.values"), params := fdA (cst p 7 10), body := .stmts (fdB (cst p 7 10)), scope := fdS (cst p 7 10), globals := 0, closure := [], defaults := .none, kwdefaults := .none, doc := .none, pyModule := .none, annotations := .none, code := .none, closureTuple := .none, builtins := 0 }, ⟨[]⟩⟩
noncomputable def o138 : OF := fun p P => ⟨.type "code", .none, .fields ⟨[.str (sn "values") 488, .str (sn "Headers.values") 489, .str (sn "/claim/cut.py") 490, .int 69 0, .int 1 0, .int 0 0, .int 0 0, .int 3 0, .ref 135, .bool true, .int 276 0, .ref 136, .none, .none, .none, .ref 137, .int 491 0, .int 69 0, .str (sn "/claim/cut.py") 492]⟩, ⟨[]⟩⟩
noncomputable def o139 : OF := fun p P => ⟨.type "function", .none, .func { name := (sn "values"), qualname := (sn "Headers.values"), params := fdA (cst p 7 10), body := .stmts (fdB (cst p 7 10)), scope := fdS (cst p 7 10), globals := 3, closure := [], defaults := .none, kwdefaults := .none, doc := .none, pyModule := .str (sn "cpy313.wsgiref.headers") 289, annotations := .none, code := .ref 138, closureTuple := .none, builtins := 0 }, ⟨[]⟩⟩
noncomputable def o140 : OF := fun p P => ⟨.type "tuple", .none, .seq ⟨[]⟩ 0, ⟨[]⟩⟩
noncomputable def o141 : OF := fun p P => ⟨.none, .none, .fields ⟨[]⟩, ⟨[]⟩⟩
noncomputable def o142 : OF := fun p P => ⟨.type "tuple", .none, .seq ⟨[.str (sn "self") 497]⟩ 0, ⟨[]⟩⟩
noncomputable def o143 : OF := fun p P => ⟨.type "tuple", .none, .seq ⟨[]⟩ 0, ⟨[]⟩⟩
noncomputable def o144 : OF := fun p P => ⟨.none, .none, .func { name := (sn "items"), qualname := (sn "Headers.items"), params := fdA (cst p 7 11), body := .stmts (fdB (cst p 7 11)), scope := fdS (cst p 7 11), globals := 0, closure := [], defaults := .none, kwdefaults := .none, doc := .none, pyModule := .none, annotations := .none, code := .none, closureTuple := .none, builtins := 0 }, ⟨[]⟩⟩
noncomputable def o145 : OF := fun p P => ⟨.type "code", .none, .fields ⟨[.str (sn "items") 494, .str (sn "Headers.items") 495, .str (sn "/claim/cut.py") 496, .int 72 0, .int 1 0, .int 0 0, .int 0 0, .int 3 0, .ref 140, .bool true, .int 276 0, .ref 141, .none, .ref 142, .ref 143, .ref 144, .int 498 0, .int 72 0, .str (sn "/claim/cut.py") 499]⟩, ⟨[]⟩⟩
noncomputable def o146 : OF := fun p P => ⟨.type "function", .none, .func { name := (sn "items"), qualname := (sn "Headers.items"), params := fdA (cst p 7 11), body := .stmts (fdB (cst p 7 11)), scope := fdS (cst p 7 11), globals := 3, closure := [], defaults := .none, kwdefaults := .none, doc := .none, pyModule := .str (sn "cpy313.wsgiref.headers") 289, annotations := .none, code := .ref 145, closureTuple := .none, builtins := 0 }, ⟨[]⟩⟩
noncomputable def o147 : OF := fun p P => ⟨.type "tuple", .none, .seq ⟨[]⟩ 0, ⟨[]⟩⟩
noncomputable def o148 : OF := fun p P => ⟨.none, .none, .fields ⟨[]⟩, ⟨[]⟩⟩
noncomputable def o149 : OF := fun p P => ⟨.type "tuple", .none, .seq ⟨[.str (sn "self") 504]⟩ 0, ⟨[]⟩⟩
noncomputable def o150 : OF := fun p P => ⟨.type "tuple", .none, .seq ⟨[]⟩ 0, ⟨[]⟩⟩
noncomputable def o151 : OF := fun p P => ⟨.none, .none, .func { name := (sn "__repr__"), qualname := (sn "Headers.__repr__"), params := fdA (cst p 7 12), body := .stmts (fdB (cst p 7 12)), scope := fdS (cst p 7 12), globals := 0, closure := [], defaults := .none, kwdefaults := .none, doc := .none, pyModule := .none, annotations := .none, code := .none, closureTuple := .none, builtins := 0 }, ⟨[]⟩⟩
noncomputable def o152 : OF := fun p P => ⟨.type "code", .none, .fields ⟨[.str (sn "__repr__") 501, .str (sn "Headers.__repr__") 502, .str (sn "/claim/cut.py") 503, .int 75 0, .int 1 0, .int 0 0, .int 0 0, .int 3 0, .ref 147, .bool true, .int 276 0, .ref 148, .none, .ref 149, .ref 150, .ref 151, .int 505 0, .int 75 0, .str (sn "/claim/cut.py") 506]⟩, ⟨[]⟩⟩
noncomputable def o153 : OF := fun p P => ⟨.type "function", .none, .func { name := (sn "__repr__"), qualname := (sn "Headers.__repr__"), params := fdA (cst p 7 12), body := .stmts (fdB (cst p 7 12)), scope := fdS (cst p 7 12), globals := 3, closure := [], defaults := .none, kwdefaults := .none, doc := .none, pyModule := .str (sn "cpy313.wsgiref.headers") 289, annotations := .none, code := .ref 152, closureTuple := .none, builtins := 0 }, ⟨[]⟩⟩
noncomputable def o154 : OF := fun p P => ⟨.type "tuple", .none, .seq ⟨[]⟩ 0, ⟨[]⟩⟩
noncomputable def o155 : OF := fun p P => ⟨.none, .none, .fields ⟨[]⟩, ⟨[]⟩⟩
noncomputable def o156 : OF := fun p P => ⟨.none, .none, .func { name := (sn "__str__"), qualname := (sn "Headers.__str__"), params := fdA (cst p 7 13), body := .stmts (fdB (cst p 7 13)), scope := fdS (cst p 7 13), globals := 0, closure := [], defaults := .none, kwdefaults := .none, doc := .none, pyModule := .none, annotations := .none, code := .none, closureTuple := .none, builtins := 0 }, ⟨[]⟩⟩
noncomputable def o157 : OF := fun p P => ⟨.type "code", .none, .fields ⟨[.str (sn "__str__") 508, .str (sn "Headers.__str__") 509, .str (sn "/claim/cut.py") 510, .int 78 0, .int 1 0, .int 0 0, .int 0 0, .int 3 0, .ref 154, .bool true, .int 276 0, .ref 155, .none, .none, .none, .ref 156, .int 511 0, .int 78 0, .str (sn "/claim/cut.py") 512]⟩, ⟨[]⟩⟩
noncomputable def o158 : OF := fun p P => ⟨.type "function", .none, .func { name := (sn "__str__"), qualname := (sn "Headers.__str__"), params := fdA (cst p 7 13), body := .stmts (fdB (cst p 7 13)), scope := fdS (cst p 7 13), globals := 3, closure := [], defaults := .none, kwdefaults := .none, doc := .none, pyModule := .str (sn "cpy313.wsgiref.headers") 289, annotations := .none, code := .ref 157, closureTuple := .none, builtins := 0 }, ⟨[]⟩⟩
noncomputable def o159 : OF := fun p P => ⟨.type "tuple", .none, .seq ⟨[]⟩ 0, ⟨[]⟩⟩
noncomputable def o160 : OF := fun p P => ⟨.none, .none, .fields ⟨[]⟩, ⟨[]⟩⟩
noncomputable def o161 : OF := fun p P => ⟨.type "tuple", .none, .seq ⟨[.str (sn "self") 517]⟩ 0, ⟨[]⟩⟩
noncomputable def o162 : OF := fun p P => ⟨.type "tuple", .none, .seq ⟨[]⟩ 0, ⟨[]⟩⟩
noncomputable def o163 : OF := fun p P => ⟨.none, .none, .func { name := (sn "__bytes__"), qualname := (sn "Headers.__bytes__"), params := fdA (cst p 7 14), body := .stmts (fdB (cst p 7 14)), scope := fdS (cst p 7 14), globals := 0, closure := [], defaults := .none, kwdefaults := .none, doc := .none, pyModule := .none, annotations := .none, code := .none, closureTuple := .none, builtins := 0 }, ⟨[]⟩⟩
noncomputable def o164 : OF := fun p P => ⟨.type "code", .none, .fields ⟨[.str (sn "__bytes__") 514, .str (sn "Headers.__bytes__") 515, .str (sn "/claim/cut.py") 516, .int 81 0, .int 1 0, .int 0 0, .int 0 0, .int 3 0, .ref 159, .bool true, .int 276 0, .ref 160, .none, .ref 161, .ref 162, .ref 163, .int 518 0, .int 81 0, .str (sn "/claim/cut.py") 519]⟩, ⟨[]⟩⟩
noncomputable def o165 : OF := fun p P => ⟨.type "function", .none, .func { name := (sn "__bytes__"), qualname := (sn "Headers.__bytes__"), params := fdA (cst p 7 14), body := .stmts (fdB (cst p 7 14)), scope := fdS (cst p 7 14), globals := 3, closure := [], defaults := .none, kwdefaults := .none, doc := .none, pyModule := .str (sn "cpy313.wsgiref.headers") 289, annotations := .none, code := .ref 164, closureTuple := .none, builtins := 0 }, ⟨[]⟩⟩
noncomputable def o166 : OF := fun p P => ⟨.type "tuple", .none, .seq ⟨[]⟩ 0, ⟨[]⟩⟩
noncomputable def o167 : OF := fun p P => ⟨.none, .none, .fields ⟨[]⟩, ⟨[]⟩⟩
noncomputable def o168 : OF := fun p P => ⟨.type "tuple", .none, .seq ⟨[.str (sn "self") 524, .str (sn "name") 525, .str (sn "value") 526]⟩ 0, ⟨[]⟩⟩
noncomputable def o169 : OF := fun p P => ⟨.type "tuple", .none, .seq ⟨[]⟩ 0, ⟨[]⟩⟩
noncomputable def o170 : OF := fun p P => ⟨.none, .none, .func { name := (sn "setdefault"), qualname := (sn "Headers.setdefault"), params := fdA (cst p 7 15), body := .stmts (fdB (cst p 7 15)), scope := fdS (cst p 7 15), globals := 0, closure := [], defaults := .none, kwdefaults := .none, doc := .none, pyModule := .none, annotations := .none, code := .none, closureTuple := .none, builtins := 0 }, ⟨[]⟩⟩
noncomputable def o171 : OF := fun p P => ⟨.type "code", .none, .fields ⟨[.str (sn "setdefault") 521, .str (sn "Headers.setdefault") 522, .str (sn "/claim/cut.py") 523, .int 84 0, .int 3 0, .int 0 0, .int 0 0, .int 3 0, .ref 166, .bool true, .int 276 0, .ref 167, .none, .ref 168, .ref 169, .ref 170, .int 527 0, .int 84 0, .str (sn "/claim/cut.py") 528]⟩, ⟨[]⟩⟩
noncomputable def o172 : OF := fun p P => ⟨.type "function", .none, .func { name := (sn "setdefault"), qualname := (sn "Headers.setdefault"), params := fdA (cst p 7 15), body := .stmts (fdB (cst p 7 15)), scope := fdS (cst p 7 15), globals := 3, closure := [], defaults := .none, kwdefaults := .none, doc := .none, pyModule := .str (sn "cpy313.wsgiref.headers") 289, annotations := .none, code := .ref 171, closureTuple := .none, builtins := 0 }, ⟨[]⟩⟩
noncomputable def o173 : OF := fun p P => ⟨.type "tuple", .none, .seq ⟨[]⟩ 0, ⟨[]⟩⟩
noncomputable def o174 : OF := fun p P => ⟨.none, .none, .fields ⟨[]⟩, ⟨[]⟩⟩
noncomputable def o175 : OF := fun p P => ⟨.type "tuple", .none, .seq ⟨[.str (sn "self") 533, .str (sn "_name") 534, .str (sn "_value") 535, .str (sn "_params") 536, .str (sn "parts") 537, .str (sn "k") 538, .str (sn "v") 539]⟩ 0, ⟨[]⟩⟩
noncomputable def o176 : OF := fun p P => ⟨.type "tuple", .none, .seq ⟨[]⟩ 0, ⟨[]⟩⟩
noncomputable def o177 : OF := fun p P => ⟨.none, .none, .func { name := (sn "add_header"), qualname := (sn "Headers.add_header"), params := fdA (cst p 7 16), body := .stmts (fdB (cst p 7 16)), scope := fdS (cst p 7 16), globals := 0, closure := [], defaults := .none, kwdefaults := .none, doc := .none, pyModule := .none, annotations := .none, code := .none, closureTuple := .none, builtins := 0 }, ⟨[]⟩⟩
noncomputable def o178 : OF := fun p P => ⟨.type "code", .none, .fields ⟨[.str (sn "add_header") 530, .str (sn "Headers.add_header") 531, .str (sn "/claim/cut.py") 532, .int 87 0, .int 3 0, .int 0 0, .int 0 0, .int 11 0, .ref 173, .bool true, .int 276 0, .ref 174, .none, .ref 175, .ref 176, .ref 177, .int 540 0, .int 87 0, .str (sn "/claim/cut.py") 541]⟩, ⟨[]⟩⟩
noncomputable def o179 : OF := fun p P => ⟨.type "function", .none, .func { name := (sn "add_header"), qualname := (sn "Headers.add_header"), params := fdA (cst p 7 16), body := .stmts (fdB (cst p 7 16)), scope := fdS (cst p 7 16), globals := 3, closure := [], defaults := .none, kwdefaults := .none, doc := .none, pyModule := .str (sn "cpy313.wsgiref.headers") 289, annotations := .none, code := .ref 178, closureTuple := .none, builtins := 0 }, ⟨[]⟩⟩
noncomputable def o180 : OF := fun p P => ⟨.type "tuple", .none, .seq ⟨[.str (sn "_headers") 543]⟩ 0, ⟨[]⟩⟩
noncomputable def o181 : OF := fun p P => ⟨.type "dict", .none, .dict ⟨[sE P (sn "__module__") 402 (.str (sn "cpy313.wsgiref.headers") 289),
 sE P (sn "__firstlineno__") 406 (.int 18 405),
 sE P (sn "__init__") 416 (.ref 76),
 sE P (sn "_convert_string_type") 426 (.ref 83),
 sE P (sn "__len__") 433 (.ref 90),
 sE P (sn "__setitem__") 442 (.ref 97),
 sE P (sn "__delitem__") 448 (.ref 102),
 sE P (sn "__getitem__") 456 (.ref 109),
 sE P (sn "__contains__") 464 (.ref 116),
 sE P (sn "get_all") 470 (.ref 121),
 sE P (sn "get") 481 (.ref 129),
 sE P (sn "keys") 487 (.ref 134),
 sE P (sn "values") 493 (.ref 139),
 sE P (sn "items") 500 (.ref 146),
 sE P (sn "__repr__") 507 (.ref 153),
 sE P (sn "__str__") 513 (.ref 158),
 sE P (sn "__bytes__") 520 (.ref 165),
 sE P (sn "setdefault") 529 (.ref 172),
 sE P (sn "add_header") 542 (.ref 179),
 sE P (sn "__static_attributes__") 544 (.ref 180),
 sE P (sn "__dict__") 546 (.ref 183),
 sE P (sn "__weakref__") 548 (.ref 184),
 sE P (sn "__doc__") 549 (.none)]⟩ 4, ⟨[]⟩⟩
noncomputable def o182 : OF := fun p P => ⟨.type "type", .none, .cls { name := (sn "Headers"), bases := [.type "object"], mro := [.ref 182, .type "object"], ns := 181, qualname := (sn "Headers"), hasDict := true, slotNames := [], subclasses := [], abstract := false, collection := .none, hasDel := false }, ⟨[.none, .none, (.some (.str (sn "Headers") 395)), (.some (.str (sn "Headers") 403)), (.some (.builtin "object.__new__")), (.some (.bool true))]⟩⟩
noncomputable def o183 : OF := fun p P => ⟨.type "getset_descriptor", .none, .fields ⟨[.str (sn "__dict__") 545, .ref 182, .builtin "function.__dict__", .builtin "function.__dict__#set"]⟩, ⟨[]⟩⟩
noncomputable def o184 : OF := fun p P => ⟨.type "getset_descriptor", .none, .fields ⟨[.str (sn "__weakref__") 547, .ref 182, .builtin "ExceptionGroup.__weakref__", .none]⟩, ⟨[]⟩⟩
noncomputable def o185 : OF := fun p P => ⟨.type "super", .none, .fields ⟨[.ref 182, .ref 182, .ref 182]⟩, ⟨[]⟩⟩
noncomputable def o186 : OF := fun p P => ⟨.type "builtin_function_or_method", .none, .fields ⟨[.builtin "object.__init_subclass__", .ref 182]⟩, ⟨[]⟩⟩
noncomputable def o187 : OF := fun p P => ⟨.type "tuple", .none, .seq ⟨[]⟩ 0, ⟨[]⟩⟩
noncomputable def o188 : OF := fun p P => ⟨.none, .none, .fields ⟨[]⟩, ⟨[]⟩⟩
noncomputable def o189 : OF := fun p P => ⟨.type "tuple", .none, .seq ⟨[.str (sn "want") 559, .str (sn "got") 560, .str (sn "ws") 561, .str (sn "startpos") 562, .str (sn "endpos") 563, .str (sn "w") 564]⟩ 0, ⟨[]⟩⟩
noncomputable def o190 : OF := fun p P => ⟨.type "tuple", .none, .seq ⟨[]⟩ 0, ⟨[]⟩⟩
noncomputable def o191 : OF := fun p P => ⟨.none, .none, .func { name := (sn "_ellipsis_match"), qualname := (sn "_ellipsis_match"), params := fdA (stm p 10), body := .stmts (fdB (stm p 10)), scope := fdS (stm p 10), globals := 0, closure := [], defaults := .none, kwdefaults := .none, doc := .none, pyModule := .none, annotations := .none, code := .none, closureTuple := .none, builtins := 0 }, ⟨[]⟩⟩
noncomputable def o192 : OF := fun p P => ⟨.type "code", .none, .fields ⟨[.str (sn "_ellipsis_match") 556, .str (sn "_ellipsis_match") 557, .str (sn "/claim/cut.py") 558, .int 102 0, .int 2 0, .int 0 0, .int 0 0, .int 3 0, .ref 187, .bool true, .int 276 0, .ref 188, .none, .ref 189, .ref 190, .ref 191, .int 565 0, .int 102 0, .str (sn "/claim/cut.py") 566]⟩, ⟨[]⟩⟩
noncomputable def o193 : OF := fun p P => ⟨.type "function", .none, .func { name := (sn "_ellipsis_match"), qualname := (sn "_ellipsis_match"), params := fdA (stm p 10), body := .stmts (fdB (stm p 10)), scope := fdS (stm p 10), globals := 3, closure := [], defaults := .none, kwdefaults := .none, doc := .none, pyModule := .str (sn "cpy313.doctest") 552, annotations := .none, code := .ref 192, closureTuple := .none, builtins := 0 }, ⟨[]⟩⟩
noncomputable def o194 : OF := fun p P => ⟨.type "tuple", .none, .seq ⟨[]⟩ 0, ⟨[]⟩⟩
noncomputable def o195 : OF := fun p P => ⟨.none, .none, .fields ⟨[]⟩, ⟨[]⟩⟩
noncomputable def o196 : OF := fun p P => ⟨.type "tuple", .none, .seq ⟨[.str (sn "msg") 571, .str (sn "start") 572, .str (sn "end") 573, .str (sn "i") 574]⟩ 0, ⟨[]⟩⟩
noncomputable def o197 : OF := fun p P => ⟨.type "tuple", .none, .seq ⟨[]⟩ 0, ⟨[]⟩⟩
noncomputable def o198 : OF := fun p P => ⟨.none, .none, .func { name := (sn "_strip_exception_details"), qualname := (sn "_strip_exception_details"), params := fdA (stm p 11), body := .stmts (fdB (stm p 11)), scope := fdS (stm p 11), globals := 0, closure := [], defaults := .none, kwdefaults := .none, doc := .none, pyModule := .none, annotations := .none, code := .none, closureTuple := .none, builtins := 0 }, ⟨[]⟩⟩
noncomputable def o199 : OF := fun p P => ⟨.type "code", .none, .fields ⟨[.str (sn "_strip_exception_details") 568, .str (sn "_strip_exception_details") 569, .str (sn "/claim/cut.py") 570, .int 130 0, .int 1 0, .int 0 0, .int 0 0, .int 3 0, .ref 194, .bool true, .int 276 0, .ref 195, .none, .ref 196, .ref 197, .ref 198, .int 575 0, .int 130 0, .str (sn "/claim/cut.py") 576]⟩, ⟨[]⟩⟩
noncomputable def o200 : OF := fun p P => ⟨.type "function", .none, .func { name := (sn "_strip_exception_details"), qualname := (sn "_strip_exception_details"), params := fdA (stm p 11), body := .stmts (fdB (stm p 11)), scope := fdS (stm p 11), globals := 3, closure := [], defaults := .none, kwdefaults := .none, doc := .none, pyModule := .str (sn "cpy313.doctest") 552, annotations := .none, code := .ref 199, closureTuple := .none, builtins := 0 }, ⟨[]⟩⟩
noncomputable def o201 : OF := fun p P => ⟨.type "list", .none, .seq ⟨[.int 173 580, .int 847 581, .int 6150 582, .int 6155 583, .int 6156 584, .int 6157 585, .int 8203 586, .int 8204 587, .int 8205 588, .int 8288 589, .int 65279 590]⟩ 0, ⟨[]⟩⟩
noncomputable def o202 : OF := fun p P => ⟨.type "range", .none, .fields ⟨[.int 65024 591, .int 65040 592, .int 1 593]⟩, ⟨[]⟩⟩
noncomputable def o203 : OF := fun p P => ⟨.type "list", .none, .seq ⟨[.int 65024 596, .int 65025 597, .int 65026 598, .int 65027 599, .int 65028 600, .int 65029 601, .int 65030 602, .int 65031 603, .int 65032 604, .int 65033 605, .int 65034 606, .int 65035 607, .int 65036 608, .int 65037 609, .int 65038 610, .int 65039 611]⟩ 18, ⟨[]⟩⟩
noncomputable def o204 : OF := fun p P => ⟨.type "range_iterator", .none, .fields ⟨[.int 65040 0, .int 0 0, .int 1 0]⟩, ⟨[]⟩⟩
noncomputable def o205 : OF := fun p P => ⟨.type "tuple", .none, .seq ⟨[]⟩ 0, ⟨[]⟩⟩
noncomputable def o206 : OF := fun p P => ⟨.type "StopIteration", .none, .fields ⟨[.ref 205, .none, .none, .none, .bool false, .none]⟩, ⟨[]⟩⟩
noncomputable def o207 : OF := fun p P => ⟨.type "list", .none, .seq ⟨[.int 173 580, .int 847 581, .int 6150 582, .int 6155 583, .int 6156 584, .int 6157 585, .int 8203 586, .int 8204 587, .int 8205 588, .int 8288 589, .int 65279 590, .int 65024 596, .int 65025 597, .int 65026 598, .int 65027 599, .int 65028 600, .int 65029 601, .int 65030 602, .int 65031 603, .int 65032 604, .int 65033 605, .int 65034 606, .int 65035 607, .int 65036 608, .int 65037 609, .int 65038 610, .int 65039 611]⟩ 0, ⟨[]⟩⟩
noncomputable def o208 : OF := fun p P => ⟨.type "set", .none, .set ⟨[(65024, .int 65024 596), (65025, .int 65025 597), (65026, .int 65026 598), (65027, .int 65027 599), (65028, .int 65028 600), (65029, .int 65029 601), (6150, .int 6150 582), (65030, .int 65030 602), (65031, .int 65031 603), (65032, .int 65032 604), (65033, .int 65033 605), (6155, .int 6155 583), (6156, .int 6156 584), (6157, .int 6157 585), (8203, .int 8203 586), (8204, .int 8204 587), (8205, .int 8205 588), (65034, .int 65034 606), (65035, .int 65035 607), (65036, .int 65036 608), (65037, .int 65037 609), (65038, .int 65038 610), (65039, .int 65039 611), (173, .int 173 580), (847, .int 847 581), (8288, .int 8288 589), (65279, .int 65279 590)]⟩ 29 { mask := 127, place := ⟨[0, 1, 2, 3, 4, 5, 6, 7, 8, 9, 10, 11, 12, 13, 14, 15, 16, 17, 18, 19, 20, 21, 22, 45, 79, 96, 127]⟩, dummies := ⟨[]⟩, finger := 0, led := Bool.not (P.followText "set-order"), moves := 2, plain := true }, ⟨[]⟩⟩
noncomputable def o209 : OF := fun p P => ⟨.type "list_iterator", .none, .fields ⟨[.none, .int 27 0]⟩, ⟨[]⟩⟩
noncomputable def o210 : OF := fun p P => ⟨.type "tuple", .none, .seq ⟨[]⟩ 0, ⟨[]⟩⟩
noncomputable def o211 : OF := fun p P => ⟨.type "StopIteration", .none, .fields ⟨[.ref 210, .none, .none, .none, .bool false, .none]⟩, ⟨[]⟩⟩
noncomputable def o212 : OF := fun p P => ⟨.type "tuple", .none, .seq ⟨[]⟩ 0, ⟨[]⟩⟩
noncomputable def o213 : OF := fun p P => ⟨.none, .none, .fields ⟨[]⟩, ⟨[]⟩⟩
noncomputable def o214 : OF := fun p P => ⟨.type "tuple", .none, .seq ⟨[.str (sn "code") 643]⟩ 0, ⟨[]⟩⟩
noncomputable def o215 : OF := fun p P => ⟨.type "tuple", .none, .seq ⟨[]⟩ 0, ⟨[]⟩⟩
noncomputable def o216 : OF := fun p P => ⟨.none, .none, .func { name := (sn "in_table_b1"), qualname := (sn "in_table_b1"), params := fdA (stm p 14), body := .stmts (fdB (stm p 14)), scope := fdS (stm p 14), globals := 0, closure := [], defaults := .none, kwdefaults := .none, doc := .none, pyModule := .none, annotations := .none, code := .none, closureTuple := .none, builtins := 0 }, ⟨[]⟩⟩
noncomputable def o217 : OF := fun p P => ⟨.type "code", .none, .fields ⟨[.str (sn "in_table_b1") 640, .str (sn "in_table_b1") 641, .str (sn "/claim/cut.py") 642, .int 144 0, .int 1 0, .int 0 0, .int 0 0, .int 3 0, .ref 212, .bool true, .int 276 0, .ref 213, .none, .ref 214, .ref 215, .ref 216, .int 644 0, .int 144 0, .str (sn "/claim/cut.py") 645]⟩, ⟨[]⟩⟩
noncomputable def o218 : OF := fun p P => ⟨.type "function", .none, .func { name := (sn "in_table_b1"), qualname := (sn "in_table_b1"), params := fdA (stm p 14), body := .stmts (fdB (stm p 14)), scope := fdS (stm p 14), globals := 3, closure := [], defaults := .none, kwdefaults := .none, doc := .none, pyModule := .str (sn "cpy313.stringprep") 578, annotations := .none, code := .ref 217, closureTuple := .none, builtins := 0 }, ⟨[]⟩⟩
noncomputable def o219 : OF := fun p P => dct (b3ents p) 650
noncomputable def o220 : OF := fun p P => nth (dct [] 0) (b3subs p) 0
noncomputable def o221 : OF := fun p P => nth (dct [] 0) (b3subs p) 1
noncomputable def o222 : OF := fun p P => nth (dct [] 0) (b3subs p) 2
noncomputable def o223 : OF := fun p P => nth (dct [] 0) (b3subs p) 3
noncomputable def o224 : OF := fun p P => nth (dct [] 0) (b3subs p) 4
noncomputable def o225 : OF := fun p P => nth (dct [] 0) (b3subs p) 5
noncomputable def o226 : OF := fun p P => nth (dct [] 0) (b3subs p) 6
noncomputable def o227 : OF := fun p P => nth (dct [] 0) (b3subs p) 7
noncomputable def o228 : OF := fun p P => nth (dct [] 0) (b3subs p) 8
noncomputable def o229 : OF := fun p P => nth (dct [] 0) (b3subs p) 9
noncomputable def o230 : OF := fun p P => nth (dct [] 0) (b3subs p) 10
noncomputable def o231 : OF := fun p P => nth (dct [] 0) (b3subs p) 11
noncomputable def o232 : OF := fun p P => nth (dct [] 0) (b3subs p) 12
noncomputable def o233 : OF := fun p P => nth (dct [] 0) (b3subs p) 13
noncomputable def o234 : OF := fun p P => nth (dct [] 0) (b3subs p) 14
noncomputable def o235 : OF := fun p P => nth (dct [] 0) (b3subs p) 15
noncomputable def o236 : OF := fun p P => nth (dct [] 0) (b3subs p) 16
noncomputable def o237 : OF := fun p P => nth (dct [] 0) (b3subs p) 17
noncomputable def o238 : OF := fun p P => nth (dct [] 0) (b3subs p) 18
noncomputable def o239 : OF := fun p P => nth (dct [] 0) (b3subs p) 19
noncomputable def o240 : OF := fun p P => nth (dct [] 0) (b3subs p) 20
noncomputable def o241 : OF := fun p P => nth (dct [] 0) (b3subs p) 21
noncomputable def o242 : OF := fun p P => nth (dct [] 0) (b3subs p) 22
noncomputable def o243 : OF := fun p P => nth (dct [] 0) (b3subs p) 23
noncomputable def o244 : OF := fun p P => nth (dct [] 0) (b3subs p) 24
noncomputable def o245 : OF := fun p P => nth (dct [] 0) (b3subs p) 25
noncomputable def o246 : OF := fun p P => nth (dct [] 0) (b3subs p) 26
noncomputable def o247 : OF := fun p P => nth (dct [] 0) (b3subs p) 27
noncomputable def o248 : OF := fun p P => nth (dct [] 0) (b3subs p) 28
noncomputable def o249 : OF := fun p P => nth (dct [] 0) (b3subs p) 29
noncomputable def o250 : OF := fun p P => nth (dct [] 0) (b3subs p) 30
noncomputable def o251 : OF := fun p P => nth (dct [] 0) (b3subs p) 31
noncomputable def o252 : OF := fun p P => nth (dct [] 0) (b3subs p) 32
noncomputable def o253 : OF := fun p P => nth (dct [] 0) (b3subs p) 33
noncomputable def o254 : OF := fun p P => nth (dct [] 0) (b3subs p) 34
noncomputable def o255 : OF := fun p P => nth (dct [] 0) (b3subs p) 35
noncomputable def o256 : OF := fun p P => nth (dct [] 0) (b3subs p) 36
noncomputable def o257 : OF := fun p P => nth (dct [] 0) (b3subs p) 37
noncomputable def o258 : OF := fun p P => ⟨.type "tuple", .none, .seq ⟨[]⟩ 0, ⟨[]⟩⟩
noncomputable def o259 : OF := fun p P => ⟨.none, .none, .fields ⟨[]⟩, ⟨[]⟩⟩
noncomputable def o260 : OF := fun p P => ⟨.type "tuple", .none, .seq ⟨[.str (sn "code") 2601, .str (sn "r") 2602]⟩ 0, ⟨[]⟩⟩
noncomputable def o261 : OF := fun p P => ⟨.type "tuple", .none, .seq ⟨[]⟩ 0, ⟨[]⟩⟩
noncomputable def o262 : OF := fun p P => ⟨.none, .none, .func { name := (sn "map_table_b3"), qualname := (sn "map_table_b3"), params := fdA (stm p 16), body := .stmts (fdB (stm p 16)), scope := fdS (stm p 16), globals := 0, closure := [], defaults := .none, kwdefaults := .none, doc := .none, pyModule := .none, annotations := .none, code := .none, closureTuple := .none, builtins := 0 }, ⟨[]⟩⟩
noncomputable def o263 : OF := fun p P => ⟨.type "code", .none, .fields ⟨[.str (sn "map_table_b3") 2598, .str (sn "map_table_b3") 2599, .str (sn "/claim/cut.py") 2600, .int 147 0, .int 1 0, .int 0 0, .int 0 0, .int 3 0, .ref 258, .bool true, .int 276 0, .ref 259, .none, .ref 260, .ref 261, .ref 262, .int 2603 0, .int 147 0, .str (sn "/claim/cut.py") 2604]⟩, ⟨[]⟩⟩
noncomputable def o264 : OF := fun p P => ⟨.type "function", .none, .func { name := (sn "map_table_b3"), qualname := (sn "map_table_b3"), params := fdA (stm p 16), body := .stmts (fdB (stm p 16)), scope := fdS (stm p 16), globals := 3, closure := [], defaults := .none, kwdefaults := .none, doc := .none, pyModule := .str (sn "cpy313.stringprep") 578, annotations := .none, code := .ref 263, closureTuple := .none, builtins := 0 }, ⟨[]⟩⟩
noncomputable def o265 : OF := fun p P => ⟨.type "tuple", .none, .seq ⟨[]⟩ 0, ⟨[]⟩⟩
noncomputable def o266 : OF := fun p P => ⟨.none, .none, .fields ⟨[]⟩, ⟨[]⟩⟩
noncomputable def o267 : OF := fun p P => ⟨.none, .none, .func { name := (sn "_law_row"), qualname := (sn "_law_row"), params := fdA (stm p 18), body := .stmts (fdB (stm p 18)), scope := fdS (stm p 18), globals := 0, closure := [], defaults := .none, kwdefaults := .none, doc := .none, pyModule := .none, annotations := .none, code := .none, closureTuple := .none, builtins := 0 }, ⟨[]⟩⟩
noncomputable def o268 : OF := fun p P => ⟨.type "code", .none, .fields ⟨[.str (sn "_law_row") 2608, .str (sn "_law_row") 2609, .str (sn "/claim/cut.py") 2610, .int 153 0, .int 1 0, .int 0 0, .int 0 0, .int 3 0, .ref 265, .bool true, .int 276 0, .ref 266, .none, .none, .none, .ref 267, .int 2611 0, .int 153 0, .str (sn "/claim/cut.py") 2612]⟩, ⟨[]⟩⟩
noncomputable def o269 : OF := fun p P => ⟨.type "function", .none, .func { name := (sn "_law_row"), qualname := (sn "_law_row"), params := fdA (stm p 18), body := .stmts (fdB (stm p 18)), scope := fdS (stm p 18), globals := 3, closure := [], defaults := .none, kwdefaults := .none, doc := .none, pyModule := .str (sn "law_sr0088_01") 2606, annotations := .none, code := .ref 268, closureTuple := .none, builtins := 0 }, ⟨[]⟩⟩
noncomputable def o270 : OF := fun p P => ⟨.type "tuple", .none, .seq ⟨[]⟩ 0, ⟨[]⟩⟩
noncomputable def o271 : OF := fun p P => ⟨.none, .none, .fields ⟨[]⟩, ⟨[]⟩⟩
noncomputable def o272 : OF := fun p P => ⟨.type "tuple", .none, .seq ⟨[.str (sn "want") 2617, .str (sn "letters") 2618, .str (sn "stay") 2619, .str (sn "sample") 2620, .str (sn "dots") 2621, .str (sn "sign") 2622, .str (sn "steps") 2623, .str (sn "k") 2624]⟩ 0, ⟨[]⟩⟩
noncomputable def o273 : OF := fun p P => ⟨.type "tuple", .none, .seq ⟨[]⟩ 0, ⟨[]⟩⟩
noncomputable def o274 : OF := fun p P => ⟨.none, .none, .func { name := (sn "_law_read"), qualname := (sn "_law_read"), params := fdA (stm p 19), body := .stmts (fdB (stm p 19)), scope := fdS (stm p 19), globals := 0, closure := [], defaults := .none, kwdefaults := .none, doc := .none, pyModule := .none, annotations := .none, code := .none, closureTuple := .none, builtins := 0 }, ⟨[]⟩⟩
noncomputable def o275 : OF := fun p P => ⟨.type "code", .none, .fields ⟨[.str (sn "_law_read") 2614, .str (sn "_law_read") 2615, .str (sn "/claim/cut.py") 2616, .int 165 0, .int 1 0, .int 0 0, .int 0 0, .int 3 0, .ref 270, .bool true, .int 276 0, .ref 271, .none, .ref 272, .ref 273, .ref 274, .int 2625 0, .int 165 0, .str (sn "/claim/cut.py") 2626]⟩, ⟨[]⟩⟩
noncomputable def o276 : OF := fun p P => ⟨.type "function", .none, .func { name := (sn "_law_read"), qualname := (sn "_law_read"), params := fdA (stm p 19), body := .stmts (fdB (stm p 19)), scope := fdS (stm p 19), globals := 3, closure := [], defaults := .none, kwdefaults := .none, doc := .none, pyModule := .str (sn "law_sr0088_01") 2606, annotations := .none, code := .ref 275, closureTuple := .none, builtins := 0 }, ⟨[]⟩⟩
noncomputable def o277 : OF := fun p P => ⟨.type "tuple", .none, .seq ⟨[]⟩ 0, ⟨[]⟩⟩
noncomputable def o278 : OF := fun p P => ⟨.none, .none, .fields ⟨[]⟩, ⟨[]⟩⟩
noncomputable def o279 : OF := fun p P => ⟨.type "tuple", .none, .seq ⟨[.str (sn "read") 2631, .str (sn "text") 2632, .str (sn "places") 2633, .str (sn "sign") 2634]⟩ 0, ⟨[]⟩⟩
noncomputable def o280 : OF := fun p P => ⟨.type "tuple", .none, .seq ⟨[]⟩ 0, ⟨[]⟩⟩
noncomputable def o281 : OF := fun p P => ⟨.none, .none, .func { name := (sn "_law_takes"), qualname := (sn "_law_takes"), params := fdA (stm p 20), body := .stmts (fdB (stm p 20)), scope := fdS (stm p 20), globals := 0, closure := [], defaults := .none, kwdefaults := .none, doc := .none, pyModule := .none, annotations := .none, code := .none, closureTuple := .none, builtins := 0 }, ⟨[]⟩⟩
noncomputable def o282 : OF := fun p P => ⟨.type "code", .none, .fields ⟨[.str (sn "_law_takes") 2628, .str (sn "_law_takes") 2629, .str (sn "/claim/cut.py") 2630, .int 181 0, .int 2 0, .int 0 0, .int 0 0, .int 3 0, .ref 277, .bool true, .int 276 0, .ref 278, .none, .ref 279, .ref 280, .ref 281, .int 2635 0, .int 181 0, .str (sn "/claim/cut.py") 2636]⟩, ⟨[]⟩⟩
noncomputable def o283 : OF := fun p P => ⟨.type "function", .none, .func { name := (sn "_law_takes"), qualname := (sn "_law_takes"), params := fdA (stm p 20), body := .stmts (fdB (stm p 20)), scope := fdS (stm p 20), globals := 3, closure := [], defaults := .none, kwdefaults := .none, doc := .none, pyModule := .str (sn "law_sr0088_01") 2606, annotations := .none, code := .ref 282, closureTuple := .none, builtins := 0 }, ⟨[]⟩⟩
noncomputable def o284 : OF := fun p P => ⟨.type "tuple", .none, .seq ⟨[]⟩ 0, ⟨[]⟩⟩
noncomputable def o285 : OF := fun p P => ⟨.none, .none, .fields ⟨[]⟩, ⟨[]⟩⟩
noncomputable def o286 : OF := fun p P => ⟨.none, .none, .func { name := (sn "_law_keep"), qualname := (sn "_law_keep"), params := fdA (stm p 21), body := .stmts (fdB (stm p 21)), scope := fdS (stm p 21), globals := 0, closure := [], defaults := .none, kwdefaults := .none, doc := .none, pyModule := .none, annotations := .none, code := .none, closureTuple := .none, builtins := 0 }, ⟨[]⟩⟩
noncomputable def o287 : OF := fun p P => ⟨.type "code", .none, .fields ⟨[.str (sn "_law_keep") 2638, .str (sn "_law_keep") 2639, .str (sn "/claim/cut.py") 2640, .int 186 0, .int 4 0, .int 0 0, .int 0 0, .int 3 0, .ref 284, .bool true, .int 276 0, .ref 285, .none, .none, .none, .ref 286, .int 2641 0, .int 186 0, .str (sn "/claim/cut.py") 2642]⟩, ⟨[]⟩⟩
noncomputable def o288 : OF := fun p P => ⟨.type "function", .none, .func { name := (sn "_law_keep"), qualname := (sn "_law_keep"), params := fdA (stm p 21), body := .stmts (fdB (stm p 21)), scope := fdS (stm p 21), globals := 3, closure := [], defaults := .none, kwdefaults := .none, doc := .none, pyModule := .str (sn "law_sr0088_01") 2606, annotations := .none, code := .ref 287, closureTuple := .none, builtins := 0 }, ⟨[]⟩⟩
noncomputable def o289 : OF := fun p P => ⟨.type "tuple", .none, .seq ⟨[]⟩ 0, ⟨[]⟩⟩
noncomputable def o290 : OF := fun p P => ⟨.none, .none, .fields ⟨[]⟩, ⟨[]⟩⟩
noncomputable def o291 : OF := fun p P => ⟨.none, .none, .func { name := (sn "law"), qualname := (sn "law"), params := fdA (stm p 22), body := .stmts (fdB (stm p 22)), scope := fdS (stm p 22), globals := 0, closure := [], defaults := .none, kwdefaults := .none, doc := .none, pyModule := .none, annotations := .none, code := .none, closureTuple := .none, builtins := 0 }, ⟨[]⟩⟩
noncomputable def o292 : OF := fun p P => ⟨.type "code", .none, .fields ⟨[.str (sn "law") 2644, .str (sn "law") 2645, .str (sn "/claim/cut.py") 2646, .int 193 0, .int 1 0, .int 0 0, .int 0 0, .int 3 0, .ref 289, .bool true, .int 276 0, .ref 290, .none, .none, .none, .ref 291, .int 2647 0, .int 193 0, .str (sn "/claim/cut.py") 2648]⟩, ⟨[]⟩⟩
noncomputable def o293 : OF := fun p P => ⟨.type "function", .none, .func { name := (sn "law"), qualname := (sn "law"), params := fdA (stm p 22), body := .stmts (fdB (stm p 22)), scope := fdS (stm p 22), globals := 3, closure := [], defaults := .none, kwdefaults := .none, doc := .none, pyModule := .str (sn "law_sr0088_01") 2606, annotations := .none, code := .ref 292, closureTuple := .none, builtins := 0 }, ⟨[]⟩⟩
end Mine
namespace Mine
noncomputable def R3 (P : Params) : List DictEntry := []
noncomputable def o3_0 : OF := fun p P => ⟨.type "dict", .none, .dict ⟨R3 P ++ [sE P (sn "__name__") 165 (.str (sn "__main__") 164),
 sE P (sn "__doc__") 166 (.none),
 sE P (sn "__package__") 167 (.none),
 sE P (sn "__loader__") 168 (.builtin "__main__.__loader__#opaque"),
 sE P (sn "__spec__") 169 (.none),
 sE P (sn "__annotations__") 170 (.ref 6),
 sE P (sn "__builtins__") 171 (.ref 4),
 sE P (sn "__file__") 173 (.str (sn "/claim/cut.py") 172),
 sE P (sn "__cached__") 174 (.none),
 sE P (sn "_sre") 275 (.ref 12)]⟩ 10, ⟨[]⟩⟩
noncomputable def o3_1 : OF := fun p P => ⟨.type "dict", .none, .dict ⟨R3 P ++ [sE P (sn "__name__") 165 (.str (sn "__main__") 164),
 sE P (sn "__doc__") 166 (.none),
 sE P (sn "__package__") 167 (.none),
 sE P (sn "__loader__") 168 (.builtin "__main__.__loader__#opaque"),
 sE P (sn "__spec__") 169 (.none),
 sE P (sn "__annotations__") 170 (.ref 6),
 sE P (sn "__builtins__") 171 (.ref 4),
 sE P (sn "__file__") 173 (.str (sn "/claim/cut.py") 172),
 sE P (sn "__cached__") 174 (.none),
 sE P (sn "_sre") 275 (.ref 12)]⟩ 10, ⟨[]⟩⟩
noncomputable def o29_1 : OF := fun p P => ⟨.none, .none, .fields ⟨[]⟩, ⟨[]⟩⟩
noncomputable def o3_2 : OF := fun p P => ⟨.type "dict", .none, .dict ⟨R3 P ++ [sE P (sn "__name__") 165 (.str (sn "__main__") 164),
 sE P (sn "__doc__") 166 (.none),
 sE P (sn "__package__") 167 (.none),
 sE P (sn "__loader__") 168 (.builtin "__main__.__loader__#opaque"),
 sE P (sn "__spec__") 169 (.none),
 sE P (sn "__annotations__") 170 (.ref 6),
 sE P (sn "__builtins__") 171 (.ref 4),
 sE P (sn "__file__") 173 (.str (sn "/claim/cut.py") 172),
 sE P (sn "__cached__") 174 (.none),
 sE P (sn "_sre") 275 (.ref 12)]⟩ 10, ⟨[]⟩⟩
noncomputable def o29_2 : OF := fun p P => ⟨.none, .none, .fields ⟨[]⟩, ⟨[]⟩⟩
noncomputable def o3_8 : OF := fun p P => ⟨.type "dict", .none, .dict ⟨R3 P ++ [sE P (sn "__name__") 165 (.str (sn "cpy313.wsgiref.headers") 289),
 sE P (sn "__doc__") 166 (.none),
 sE P (sn "__package__") 167 (.none),
 sE P (sn "__loader__") 168 (.builtin "__main__.__loader__#opaque"),
 sE P (sn "__spec__") 169 (.none),
 sE P (sn "__annotations__") 170 (.ref 6),
 sE P (sn "__builtins__") 171 (.ref 4),
 sE P (sn "__file__") 173 (.str (sn "/claim/cut.py") 172),
 sE P (sn "__cached__") 174 (.none),
 sE P (sn "_sre") 275 (.ref 12),
 sE P (sn "_wall") 288 (.ref 38),
 sE P (sn "tspecials") 324 (.ref 43),
 sE P (sn "_name_disallowed_re") 350 (.ref 48),
 sE P (sn "_value_disallowed_re") 384 (.ref 53),
 sE P (sn "_formatparam") 394 (.ref 61)]⟩ 15, ⟨[]⟩⟩
noncomputable def o29_8 : OF := fun p P => ⟨.none, .none, .fields ⟨[.int 2 0, .int 0 0, .ref 37, .int 9 0, .int 0 0, .ref 60]⟩, ⟨[]⟩⟩
noncomputable def o3_9 : OF := fun p P => ⟨.type "dict", .none, .dict ⟨R3 P ++ [sE P (sn "__name__") 165 (.str (sn "cpy313.wsgiref.headers") 289),
 sE P (sn "__doc__") 166 (.none),
 sE P (sn "__package__") 167 (.none),
 sE P (sn "__loader__") 168 (.builtin "__main__.__loader__#opaque"),
 sE P (sn "__spec__") 169 (.none),
 sE P (sn "__annotations__") 170 (.ref 6),
 sE P (sn "__builtins__") 171 (.ref 4),
 sE P (sn "__file__") 173 (.str (sn "/claim/cut.py") 172),
 sE P (sn "__cached__") 174 (.none),
 sE P (sn "_sre") 275 (.ref 12),
 sE P (sn "_wall") 288 (.ref 38),
 sE P (sn "tspecials") 324 (.ref 43),
 sE P (sn "_name_disallowed_re") 350 (.ref 48),
 sE P (sn "_value_disallowed_re") 384 (.ref 53),
 sE P (sn "_formatparam") 394 (.ref 61),
 sE P (sn "Headers") 551 (.ref 182)]⟩ 16, ⟨[]⟩⟩
noncomputable def o29_9 : OF := fun p P => ⟨.none, .none, .fields ⟨[.int 2 0, .int 0 0, .ref 37, .int 9 0, .int 0 0, .ref 60, .int 18 0, .int 0 0, .ref 67]⟩, ⟨[]⟩⟩
noncomputable def o3_14 : OF := fun p P => ⟨.type "dict", .none, .dict ⟨R3 P ++ [sE P (sn "__name__") 165 (.str (sn "cpy313.stringprep") 578),
 sE P (sn "__doc__") 166 (.none),
 sE P (sn "__package__") 167 (.none),
 sE P (sn "__loader__") 168 (.builtin "__main__.__loader__#opaque"),
 sE P (sn "__spec__") 169 (.none),
 sE P (sn "__annotations__") 170 (.ref 6),
 sE P (sn "__builtins__") 171 (.ref 4),
 sE P (sn "__file__") 173 (.str (sn "/claim/cut.py") 172),
 sE P (sn "__cached__") 174 (.none),
 sE P (sn "_sre") 275 (.ref 12),
 sE P (sn "_wall") 288 (.ref 38),
 sE P (sn "tspecials") 324 (.ref 43),
 sE P (sn "_name_disallowed_re") 350 (.ref 48),
 sE P (sn "_value_disallowed_re") 384 (.ref 53),
 sE P (sn "_formatparam") 394 (.ref 61),
 sE P (sn "Headers") 551 (.ref 182),
 sE P (sn "ELLIPSIS_MARKER") 555 (.str (sn "...") 554),
 sE P (sn "_ellipsis_match") 567 (.ref 193),
 sE P (sn "_strip_exception_details") 577 (.ref 200)]⟩ 19, ⟨[]⟩⟩
noncomputable def o29_14 : OF := fun p P => ⟨.none, .none, .fields ⟨[.int 2 0, .int 0 0, .ref 37, .int 9 0, .int 0 0, .ref 60, .int 18 0, .int 0 0, .ref 67, .int 102 0, .int 0 0, .ref 192, .int 130 0, .int 0 0, .ref 199]⟩, ⟨[]⟩⟩
noncomputable def o3_15 : OF := fun p P => ⟨.type "dict", .none, .dict ⟨R3 P ++ [sE P (sn "__name__") 165 (.str (sn "cpy313.stringprep") 578),
 sE P (sn "__doc__") 166 (.none),
 sE P (sn "__package__") 167 (.none),
 sE P (sn "__loader__") 168 (.builtin "__main__.__loader__#opaque"),
 sE P (sn "__spec__") 169 (.none),
 sE P (sn "__annotations__") 170 (.ref 6),
 sE P (sn "__builtins__") 171 (.ref 4),
 sE P (sn "__file__") 173 (.str (sn "/claim/cut.py") 172),
 sE P (sn "__cached__") 174 (.none),
 sE P (sn "_sre") 275 (.ref 12),
 sE P (sn "_wall") 288 (.ref 38),
 sE P (sn "tspecials") 324 (.ref 43),
 sE P (sn "_name_disallowed_re") 350 (.ref 48),
 sE P (sn "_value_disallowed_re") 384 (.ref 53),
 sE P (sn "_formatparam") 394 (.ref 61),
 sE P (sn "Headers") 551 (.ref 182),
 sE P (sn "ELLIPSIS_MARKER") 555 (.str (sn "...") 554),
 sE P (sn "_ellipsis_match") 567 (.ref 193),
 sE P (sn "_strip_exception_details") 577 (.ref 200),
 sE P (sn "b1_set") 639 (.ref 208)]⟩ 20, ⟨[]⟩⟩
noncomputable def o29_15 : OF := fun p P => ⟨.none, .none, .fields ⟨[.int 2 0, .int 0 0, .ref 37, .int 9 0, .int 0 0, .ref 60, .int 18 0, .int 0 0, .ref 67, .int 102 0, .int 0 0, .ref 192, .int 130 0, .int 0 0, .ref 199]⟩, ⟨[]⟩⟩
noncomputable def o3_16 : OF := fun p P => ⟨.type "dict", .none, .dict ⟨R3 P ++ [sE P (sn "__name__") 165 (.str (sn "cpy313.stringprep") 578),
 sE P (sn "__doc__") 166 (.none),
 sE P (sn "__package__") 167 (.none),
 sE P (sn "__loader__") 168 (.builtin "__main__.__loader__#opaque"),
 sE P (sn "__spec__") 169 (.none),
 sE P (sn "__annotations__") 170 (.ref 6),
 sE P (sn "__builtins__") 171 (.ref 4),
 sE P (sn "__file__") 173 (.str (sn "/claim/cut.py") 172),
 sE P (sn "__cached__") 174 (.none),
 sE P (sn "_sre") 275 (.ref 12),
 sE P (sn "_wall") 288 (.ref 38),
 sE P (sn "tspecials") 324 (.ref 43),
 sE P (sn "_name_disallowed_re") 350 (.ref 48),
 sE P (sn "_value_disallowed_re") 384 (.ref 53),
 sE P (sn "_formatparam") 394 (.ref 61),
 sE P (sn "Headers") 551 (.ref 182),
 sE P (sn "ELLIPSIS_MARKER") 555 (.str (sn "...") 554),
 sE P (sn "_ellipsis_match") 567 (.ref 193),
 sE P (sn "_strip_exception_details") 577 (.ref 200),
 sE P (sn "b1_set") 639 (.ref 208),
 sE P (sn "in_table_b1") 646 (.ref 218)]⟩ 21, ⟨[]⟩⟩
noncomputable def o29_16 : OF := fun p P => ⟨.none, .none, .fields ⟨[.int 2 0, .int 0 0, .ref 37, .int 9 0, .int 0 0, .ref 60, .int 18 0, .int 0 0, .ref 67, .int 102 0, .int 0 0, .ref 192, .int 130 0, .int 0 0, .ref 199, .int 144 0, .int 0 0, .ref 217]⟩, ⟨[]⟩⟩
noncomputable def o3_17 : OF := fun p P => ⟨.type "dict", .none, .dict ⟨R3 P ++ [sE P (sn "__name__") 165 (.str (sn "cpy313.stringprep") 578),
 sE P (sn "__doc__") 166 (.none),
 sE P (sn "__package__") 167 (.none),
 sE P (sn "__loader__") 168 (.builtin "__main__.__loader__#opaque"),
 sE P (sn "__spec__") 169 (.none),
 sE P (sn "__annotations__") 170 (.ref 6),
 sE P (sn "__builtins__") 171 (.ref 4),
 sE P (sn "__file__") 173 (.str (sn "/claim/cut.py") 172),
 sE P (sn "__cached__") 174 (.none),
 sE P (sn "_sre") 275 (.ref 12),
 sE P (sn "_wall") 288 (.ref 38),
 sE P (sn "tspecials") 324 (.ref 43),
 sE P (sn "_name_disallowed_re") 350 (.ref 48),
 sE P (sn "_value_disallowed_re") 384 (.ref 53),
 sE P (sn "_formatparam") 394 (.ref 61),
 sE P (sn "Headers") 551 (.ref 182),
 sE P (sn "ELLIPSIS_MARKER") 555 (.str (sn "...") 554),
 sE P (sn "_ellipsis_match") 567 (.ref 193),
 sE P (sn "_strip_exception_details") 577 (.ref 200),
 sE P (sn "b1_set") 639 (.ref 208),
 sE P (sn "in_table_b1") 646 (.ref 218),
 sE P (sn "b3_exceptions") 2597 (.ref 219)]⟩ 22, ⟨[]⟩⟩
noncomputable def o29_17 : OF := fun p P => ⟨.none, .none, .fields ⟨[.int 2 0, .int 0 0, .ref 37, .int 9 0, .int 0 0, .ref 60, .int 18 0, .int 0 0, .ref 67, .int 102 0, .int 0 0, .ref 192, .int 130 0, .int 0 0, .ref 199, .int 144 0, .int 0 0, .ref 217]⟩, ⟨[]⟩⟩
noncomputable def o11_e : OF := fun p P => ⟨.type "dict", .none, .dict ⟨[sE P (sn "__name__") 247 (.str (sn "_sre") 246),
 sE P (sn "__doc__") 248 (.none),
 sE P (sn "__package__") 250 (.str e0 249),
 sE P (sn "__loader__") 251 (.ref 14),
 sE P (sn "__spec__") 252 (.ref 26),
 sE P (sn "compile") 253 (.builtin "_sre.compile"),
 sE P (sn "template") 254 (.builtin "_sre.template"),
 sE P (sn "getcodesize") 255 (.builtin "_sre.getcodesize"),
 sE P (sn "ascii_iscased") 256 (.builtin "_sre.ascii_iscased"),
 sE P (sn "unicode_iscased") 257 (.builtin "_sre.unicode_iscased"),
 sE P (sn "ascii_tolower") 258 (.builtin "_sre.ascii_tolower"),
 sE P (sn "unicode_tolower") 259 (.builtin "_sre.unicode_tolower"),
 sE P (sn "MAGIC") 261 (.int 20230612 260),
 sE P (sn "CODESIZE") 263 (.int 4 262),
 sE P (sn "MAXREPEAT") 265 (.int 4294967295 264),
 sE P (sn "MAXGROUPS") 267 (.int 1073741823 266),
 sE P (sn "copyright") 269 (.str (sn " SRE 2.2.2 Copyright (c) 1997-2002 by Secret Labs AB ") 268)]⟩ 17, ⟨[]⟩⟩
noncomputable def u0 : BF := fun p P => (.node (o7 p P) (.node (o15 p P) .nil .nil) (.node (o23 p P) .nil .nil))
noncomputable def u1 : BF := fun p P => (.node (o11 p P) (.node (o19 p P) .nil .nil) (.node (o27 p P) .nil .nil))
noncomputable def u2 : BF := fun p P => (.node (o9 p P) (.node (o17 p P) .nil .nil) (.node (o25 p P) .nil .nil))
noncomputable def u3 : BF := fun p P => (.node (o5 p P) (u2 p P) (.node (o13 p P) (.node (o21 p P) .nil .nil) .nil))
noncomputable def u4 : BF := fun p P => (.node (o8 p P) (.node (o16 p P) .nil .nil) (.node (o24 p P) .nil .nil))
noncomputable def u5 : BF := fun p P => (.node (o10 p P) (.node (o18 p P) .nil .nil) (.node (o26 p P) .nil .nil))
noncomputable def u6 : BF := fun p P => (.node (o2 p P) (.node (o4 p P) (u4 p P) (.node (o12 p P) (.node (o20 p P) .nil .nil) .nil)) (.node (o6 p P) (u5 p P) (.node (o14 p P) (.node (o22 p P) .nil .nil) .nil)))
noncomputable def u7 : BF := fun p P => (.node (o7 p P) (.node (o15 p P) (.node (o31 p P) .nil .nil) .nil) (.node (o23 p P) .nil .nil))
noncomputable def u8 : BF := fun p P => (.node (o2 p P) (.node (o4 p P) (u4 p P) (.node (o12 p P) (.node (o20 p P) .nil .nil) (.node (o28 p P) .nil .nil))) (.node (o6 p P) (u5 p P) (.node (o14 p P) (.node (o22 p P) .nil .nil) (.node (o30 p P) .nil .nil))))
noncomputable def u9 : BF := fun p P => (.node (o47 p P) (.node (o79 p P) (.node (o143 p P) .nil .nil) .nil) (.node (o111 p P) (.node (o175 p P) .nil .nil) .nil))
noncomputable def u10 : BF := fun p P => (.node (o55 p P) (.node (o87 p P) (.node (o151 p P) .nil .nil) .nil) (.node (o119 p P) (.node (o183 p P) .nil .nil) .nil))
noncomputable def u11 : BF := fun p P => (.node (o51 p P) (.node (o83 p P) (.node (o147 p P) .nil .nil) .nil) (.node (o115 p P) (.node (o179 p P) .nil .nil) .nil))
noncomputable def u12 : BF := fun p P => (.node (o43 p P) (.node (o75 p P) (.node (o139 p P) .nil .nil) .nil) (.node (o107 p P) (.node (o171 p P) .nil .nil) .nil))
noncomputable def u13 : BF := fun p P => (.node (o49 p P) (.node (o81 p P) (.node (o145 p P) .nil .nil) .nil) (.node (o113 p P) (.node (o177 p P) .nil .nil) .nil))
noncomputable def u14 : BF := fun p P => (.node (o57 p P) (.node (o89 p P) (.node (o153 p P) .nil .nil) .nil) (.node (o121 p P) (.node (o185 p P) .nil .nil) .nil))
noncomputable def u15 : BF := fun p P => (.node (o25 p P) (.node (o41 p P) (.node (o73 p P) (.node (o137 p P) .nil .nil) .nil) (.node (o105 p P) (.node (o169 p P) .nil .nil) .nil)) (u14 p P))
noncomputable def u16 : BF := fun p P => (.node (o53 p P) (.node (o85 p P) (.node (o149 p P) .nil .nil) .nil) (.node (o117 p P) (.node (o181 p P) .nil .nil) .nil))
noncomputable def u17 : BF := fun p P => (.node (o45 p P) (.node (o77 p P) (.node (o141 p P) .nil .nil) .nil) (.node (o109 p P) (.node (o173 p P) .nil .nil) .nil))
noncomputable def u18 : BF := fun p P => (.node (o48 p P) (.node (o80 p P) (.node (o144 p P) .nil .nil) .nil) (.node (o112 p P) (.node (o176 p P) .nil .nil) .nil))
noncomputable def u19 : BF := fun p P => (.node (o56 p P) (.node (o88 p P) (.node (o152 p P) .nil .nil) .nil) (.node (o120 p P) (.node (o184 p P) .nil .nil) .nil))
noncomputable def u20 : BF := fun p P => (.node (o52 p P) (.node (o84 p P) (.node (o148 p P) .nil .nil) .nil) (.node (o116 p P) (.node (o180 p P) .nil .nil) .nil))
noncomputable def u21 : BF := fun p P => (.node (o44 p P) (.node (o76 p P) (.node (o140 p P) .nil .nil) .nil) (.node (o108 p P) (.node (o172 p P) .nil .nil) .nil))
noncomputable def u22 : BF := fun p P => (.node (o50 p P) (.node (o82 p P) (.node (o146 p P) .nil .nil) .nil) (.node (o114 p P) (.node (o178 p P) .nil .nil) .nil))
noncomputable def u23 : BF := fun p P => (.node (o58 p P) (.node (o90 p P) (.node (o154 p P) .nil .nil) .nil) (.node (o122 p P) (.node (o186 p P) .nil .nil) .nil))
noncomputable def u24 : BF := fun p P => (.node (o26 p P) (.node (o42 p P) (.node (o74 p P) (.node (o138 p P) .nil .nil) .nil) (.node (o106 p P) (.node (o170 p P) .nil .nil) .nil)) (u23 p P))
noncomputable def u25 : BF := fun p P => (.node (o54 p P) (.node (o86 p P) (.node (o150 p P) .nil .nil) .nil) (.node (o118 p P) (.node (o182 p P) .nil .nil) .nil))
noncomputable def u26 : BF := fun p P => (.node (o46 p P) (.node (o78 p P) (.node (o142 p P) .nil .nil) .nil) (.node (o110 p P) (.node (o174 p P) .nil .nil) .nil))
noncomputable def u27 : BF := fun p P => (.node (o31 p P) (.node (o63 p P) (.node (o127 p P) .nil .nil) (.node (o191 p P) .nil .nil)) (.node (o95 p P) (.node (o159 p P) .nil .nil) .nil))
noncomputable def u28 : BF := fun p P => (.node (o71 p P) (.node (o135 p P) .nil .nil) (.node (o199 p P) .nil .nil))
noncomputable def u29 : BF := fun p P => (.node (o39 p P) (u28 p P) (.node (o103 p P) (.node (o167 p P) .nil .nil) .nil))
noncomputable def u30 : BF := fun p P => (.node (o23 p P) (u29 p P) (u10 p P))
noncomputable def u31 : BF := fun p P => (.node (o67 p P) (.node (o131 p P) .nil .nil) (.node (o195 p P) .nil .nil))
noncomputable def u32 : BF := fun p P => (.node (o35 p P) (u31 p P) (.node (o99 p P) (.node (o163 p P) .nil .nil) .nil))
noncomputable def u33 : BF := fun p P => (.node (o59 p P) (.node (o91 p P) (.node (o155 p P) .nil .nil) .nil) (.node (o123 p P) (.node (o187 p P) .nil .nil) .nil))
noncomputable def u34 : BF := fun p P => (.node (o33 p P) (.node (o65 p P) (.node (o129 p P) .nil .nil) (.node (o193 p P) .nil .nil)) (.node (o97 p P) (.node (o161 p P) .nil .nil) .nil))
noncomputable def u35 : BF := fun p P => (.node (o69 p P) (.node (o133 p P) .nil .nil) (.node (o197 p P) .nil .nil))
noncomputable def u36 : BF := fun p P => (.node (o37 p P) (u35 p P) (.node (o101 p P) (.node (o165 p P) .nil .nil) .nil))
noncomputable def u37 : BF := fun p P => (.node (o21 p P) (u36 p P) (u16 p P))
noncomputable def u38 : BF := fun p P => (.node (o61 p P) (.node (o93 p P) (.node (o157 p P) .nil .nil) .nil) (.node (o125 p P) (.node (o189 p P) .nil .nil) .nil))
noncomputable def u39 : BF := fun p P => (.node (o32 p P) (.node (o64 p P) (.node (o128 p P) .nil .nil) (.node (o192 p P) .nil .nil)) (.node (o96 p P) (.node (o160 p P) .nil .nil) .nil))
noncomputable def u40 : BF := fun p P => (.node (o72 p P) (.node (o136 p P) .nil .nil) (.node (o200 p P) .nil .nil))
noncomputable def u41 : BF := fun p P => (.node (o40 p P) (u40 p P) (.node (o104 p P) (.node (o168 p P) .nil .nil) .nil))
noncomputable def u42 : BF := fun p P => (.node (o24 p P) (u41 p P) (u19 p P))
noncomputable def u43 : BF := fun p P => (.node (o68 p P) (.node (o132 p P) .nil .nil) (.node (o196 p P) .nil .nil))
noncomputable def u44 : BF := fun p P => (.node (o36 p P) (u43 p P) (.node (o100 p P) (.node (o164 p P) .nil .nil) .nil))
noncomputable def u45 : BF := fun p P => (.node (o20 p P) (u44 p P) (u20 p P))
noncomputable def u46 : BF := fun p P => (.node (o60 p P) (.node (o92 p P) (.node (o156 p P) .nil .nil) .nil) (.node (o124 p P) (.node (o188 p P) .nil .nil) .nil))
noncomputable def u47 : BF := fun p P => (.node (o66 p P) (.node (o130 p P) .nil .nil) (.node (o194 p P) .nil .nil))
noncomputable def u48 : BF := fun p P => (.node (o34 p P) (u47 p P) (.node (o98 p P) (.node (o162 p P) .nil .nil) .nil))
noncomputable def u49 : BF := fun p P => (.node (o70 p P) (.node (o134 p P) .nil .nil) (.node (o198 p P) .nil .nil))
noncomputable def u50 : BF := fun p P => (.node (o38 p P) (u49 p P) (.node (o102 p P) (.node (o166 p P) .nil .nil) .nil))
noncomputable def u51 : BF := fun p P => (.node (o22 p P) (u50 p P) (u25 p P))
noncomputable def u52 : BF := fun p P => (.node (o62 p P) (.node (o94 p P) (.node (o158 p P) .nil .nil) .nil) (.node (o126 p P) (.node (o190 p P) .nil .nil) .nil))
noncomputable def u53 : BF := fun p P => (.node (o79 p P) (.node (o143 p P) .nil .nil) (.node (o207 p P) .nil .nil))
noncomputable def u54 : BF := fun p P => (.node (o15 p P) (u27 p P) (.node (o47 p P) (u53 p P) (.node (o111 p P) (.node (o175 p P) .nil .nil) .nil)))
noncomputable def u55 : BF := fun p P => (.node (o83 p P) (.node (o147 p P) .nil .nil) (.node (o211 p P) .nil .nil))
noncomputable def u56 : BF := fun p P => (.node (o75 p P) (.node (o139 p P) .nil .nil) (.node (o203 p P) .nil .nil))
noncomputable def u57 : BF := fun p P => (.node (o11 p P) (.node (o19 p P) (u32 p P) (.node (o51 p P) (u55 p P) (.node (o115 p P) (.node (o179 p P) .nil .nil) .nil))) (.node (o27 p P) (.node (o43 p P) (u56 p P) (.node (o107 p P) (.node (o171 p P) .nil .nil) .nil)) (u33 p P)))
noncomputable def u58 : BF := fun p P => (.node (o81 p P) (.node (o145 p P) .nil .nil) (.node (o209 p P) .nil .nil))
noncomputable def u59 : BF := fun p P => (.node (o17 p P) (u34 p P) (.node (o49 p P) (u58 p P) (.node (o113 p P) (.node (o177 p P) .nil .nil) .nil)))
noncomputable def u60 : BF := fun p P => (.node (o73 p P) (.node (o137 p P) .nil .nil) (.node (o201 p P) .nil .nil))
noncomputable def u61 : BF := fun p P => (.node (o41 p P) (u60 p P) (.node (o105 p P) (.node (o169 p P) .nil .nil) .nil))
noncomputable def u62 : BF := fun p P => (.node (o77 p P) (.node (o141 p P) .nil .nil) (.node (o205 p P) .nil .nil))
noncomputable def u63 : BF := fun p P => (.node (o45 p P) (u62 p P) (.node (o109 p P) (.node (o173 p P) .nil .nil) .nil))
noncomputable def u64 : BF := fun p P => (.node (o80 p P) (.node (o144 p P) .nil .nil) (.node (o208 p P) .nil .nil))
noncomputable def u65 : BF := fun p P => (.node (o16 p P) (u39 p P) (.node (o48 p P) (u64 p P) (.node (o112 p P) (.node (o176 p P) .nil .nil) .nil)))
noncomputable def u66 : BF := fun p P => (.node (o76 p P) (.node (o140 p P) .nil .nil) (.node (o204 p P) .nil .nil))
noncomputable def u67 : BF := fun p P => (.node (o28 p P) (.node (o44 p P) (u66 p P) (.node (o108 p P) (.node (o172 p P) .nil .nil) .nil)) (u46 p P))
noncomputable def u68 : BF := fun p P => (.node (o82 p P) (.node (o146 p P) .nil .nil) (.node (o210 p P) .nil .nil))
noncomputable def u69 : BF := fun p P => (.node (o18 p P) (u48 p P) (.node (o50 p P) (u68 p P) (.node (o114 p P) (.node (o178 p P) .nil .nil) .nil)))
noncomputable def u70 : BF := fun p P => (.node (o74 p P) (.node (o138 p P) .nil .nil) (.node (o202 p P) .nil .nil))
noncomputable def u71 : BF := fun p P => (.node (o42 p P) (u70 p P) (.node (o106 p P) (.node (o170 p P) .nil .nil) .nil))
noncomputable def u72 : BF := fun p P => (.node (o78 p P) (.node (o142 p P) .nil .nil) (.node (o206 p P) .nil .nil))
noncomputable def u73 : BF := fun p P => (.node (o30 p P) (.node (o46 p P) (u72 p P) (.node (o110 p P) (.node (o174 p P) .nil .nil) .nil)) (u52 p P))
noncomputable def u74 : BF := fun p P => (.node (o87 p P) (.node (o151 p P) .nil .nil) (.node (o215 p P) .nil .nil))
noncomputable def u75 : BF := fun p P => (.node (o89 p P) (.node (o153 p P) .nil .nil) (.node (o217 p P) .nil .nil))
noncomputable def u76 : BF := fun p P => (.node (o85 p P) (.node (o149 p P) .nil .nil) (.node (o213 p P) .nil .nil))
noncomputable def u77 : BF := fun p P => (.node (o88 p P) (.node (o152 p P) .nil .nil) (.node (o216 p P) .nil .nil))
noncomputable def u78 : BF := fun p P => (.node (o84 p P) (.node (o148 p P) .nil .nil) (.node (o212 p P) .nil .nil))
noncomputable def u79 : BF := fun p P => (.node (o90 p P) (.node (o154 p P) .nil .nil) (.node (o218 p P) .nil .nil))
noncomputable def u80 : BF := fun p P => (.node (o86 p P) (.node (o150 p P) .nil .nil) (.node (o214 p P) .nil .nil))
noncomputable def u81 : BF := fun p P => (.node (o63 p P) (.node (o127 p P) (.node (o255 p P) .nil .nil) .nil) (.node (o191 p P) .nil .nil))
noncomputable def u82 : BF := fun p P => (.node (o111 p P) (.node (o175 p P) .nil .nil) (.node (o239 p P) .nil .nil))
noncomputable def u83 : BF := fun p P => (.node (o103 p P) (.node (o167 p P) .nil .nil) (.node (o231 p P) .nil .nil))
noncomputable def u84 : BF := fun p P => (.node (o119 p P) (.node (o183 p P) .nil .nil) (.node (o247 p P) .nil .nil))
noncomputable def u85 : BF := fun p P => (.node (o7 p P) (.node (o15 p P) (.node (o31 p P) (u81 p P) (.node (o95 p P) (.node (o159 p P) .nil .nil) (.node (o223 p P) .nil .nil))) (.node (o47 p P) (u53 p P) (u82 p P))) (.node (o23 p P) (.node (o39 p P) (u28 p P) (u83 p P)) (.node (o55 p P) (u74 p P) (u84 p P))))
noncomputable def u86 : BF := fun p P => (.node (o115 p P) (.node (o179 p P) .nil .nil) (.node (o243 p P) .nil .nil))
noncomputable def u87 : BF := fun p P => (.node (o107 p P) (.node (o171 p P) .nil .nil) (.node (o235 p P) .nil .nil))
noncomputable def u88 : BF := fun p P => (.node (o123 p P) (.node (o187 p P) .nil .nil) (.node (o251 p P) .nil .nil))
noncomputable def u89 : BF := fun p P => (.node (o11 p P) (.node (o19 p P) (.node (o35 p P) (u31 p P) (.node (o99 p P) (.node (o163 p P) .nil .nil) (.node (o227 p P) .nil .nil))) (.node (o51 p P) (u55 p P) (u86 p P))) (.node (o27 p P) (.node (o43 p P) (u56 p P) (u87 p P)) (.node (o59 p P) (.node (o91 p P) (.node (o155 p P) .nil .nil) (.node (o219 p P) .nil .nil)) (u88 p P))))
noncomputable def u90 : BF := fun p P => (.node (o65 p P) (.node (o129 p P) (.node (o257 p P) .nil .nil) .nil) (.node (o193 p P) .nil .nil))
noncomputable def u91 : BF := fun p P => (.node (o113 p P) (.node (o177 p P) .nil .nil) (.node (o241 p P) .nil .nil))
noncomputable def u92 : BF := fun p P => (.node (o105 p P) (.node (o169 p P) .nil .nil) (.node (o233 p P) .nil .nil))
noncomputable def u93 : BF := fun p P => (.node (o121 p P) (.node (o185 p P) .nil .nil) (.node (o249 p P) .nil .nil))
noncomputable def u94 : BF := fun p P => (.node (o9 p P) (.node (o17 p P) (.node (o33 p P) (u90 p P) (.node (o97 p P) (.node (o161 p P) .nil .nil) (.node (o225 p P) .nil .nil))) (.node (o49 p P) (u58 p P) (u91 p P))) (.node (o25 p P) (.node (o41 p P) (u60 p P) (u92 p P)) (.node (o57 p P) (u75 p P) (u93 p P))))
noncomputable def u95 : BF := fun p P => (.node (o117 p P) (.node (o181 p P) .nil .nil) (.node (o245 p P) .nil .nil))
noncomputable def u96 : BF := fun p P => (.node (o21 p P) (.node (o37 p P) (u35 p P) (.node (o101 p P) (.node (o165 p P) .nil .nil) (.node (o229 p P) .nil .nil))) (.node (o53 p P) (u76 p P) (u95 p P)))
noncomputable def u97 : BF := fun p P => (.node (o109 p P) (.node (o173 p P) .nil .nil) (.node (o237 p P) .nil .nil))
noncomputable def u98 : BF := fun p P => (.node (o45 p P) (u62 p P) (u97 p P))
noncomputable def u99 : BF := fun p P => (.node (o125 p P) (.node (o189 p P) .nil .nil) (.node (o253 p P) .nil .nil))
noncomputable def u100 : BF := fun p P => (.node (o61 p P) (.node (o93 p P) (.node (o157 p P) .nil .nil) (.node (o221 p P) .nil .nil)) (u99 p P))
noncomputable def u101 : BF := fun p P => (.node (o64 p P) (.node (o128 p P) (.node (o256 p P) .nil .nil) .nil) (.node (o192 p P) .nil .nil))
noncomputable def u102 : BF := fun p P => (.node (o112 p P) (.node (o176 p P) .nil .nil) (.node (o240 p P) .nil .nil))
noncomputable def u103 : BF := fun p P => (.node (o104 p P) (.node (o168 p P) .nil .nil) (.node (o232 p P) .nil .nil))
noncomputable def u104 : BF := fun p P => (.node (o120 p P) (.node (o184 p P) .nil .nil) (.node (o248 p P) .nil .nil))
noncomputable def u105 : BF := fun p P => (.node (o116 p P) (.node (o180 p P) .nil .nil) (.node (o244 p P) .nil .nil))
noncomputable def u106 : BF := fun p P => (.node (o108 p P) (.node (o172 p P) .nil .nil) (.node (o236 p P) .nil .nil))
noncomputable def u107 : BF := fun p P => (.node (o124 p P) (.node (o188 p P) .nil .nil) (.node (o252 p P) .nil .nil))
noncomputable def u108 : BF := fun p P => (.node (o114 p P) (.node (o178 p P) .nil .nil) (.node (o242 p P) .nil .nil))
noncomputable def u109 : BF := fun p P => (.node (o106 p P) (.node (o170 p P) .nil .nil) (.node (o234 p P) .nil .nil))
noncomputable def u110 : BF := fun p P => (.node (o122 p P) (.node (o186 p P) .nil .nil) (.node (o250 p P) .nil .nil))
noncomputable def u111 : BF := fun p P => (.node (o102 p P) (.node (o166 p P) .nil .nil) (.node (o230 p P) .nil .nil))
noncomputable def u112 : BF := fun p P => (.node (o118 p P) (.node (o182 p P) .nil .nil) (.node (o246 p P) .nil .nil))
noncomputable def u113 : BF := fun p P => (.node (o110 p P) (.node (o174 p P) .nil .nil) (.node (o238 p P) .nil .nil))
noncomputable def u114 : BF := fun p P => (.node (o126 p P) (.node (o190 p P) .nil .nil) (.node (o254 p P) .nil .nil))
noncomputable def u115 : BF := fun p P => (.node (o2 p P) (.node (o4 p P) (.node (o8 p P) (.node (o16 p P) (.node (o32 p P) (u101 p P) (.node (o96 p P) (.node (o160 p P) .nil .nil) (.node (o224 p P) .nil .nil))) (.node (o48 p P) (u64 p P) (u102 p P))) (.node (o24 p P) (.node (o40 p P) (u40 p P) (u103 p P)) (.node (o56 p P) (u77 p P) (u104 p P)))) (.node (o12 p P) (.node (o20 p P) (.node (o36 p P) (u43 p P) (.node (o100 p P) (.node (o164 p P) .nil .nil) (.node (o228 p P) .nil .nil))) (.node (o52 p P) (u78 p P) (u105 p P))) (.node (o28 p P) (.node (o44 p P) (u66 p P) (u106 p P)) (.node (o60 p P) (.node (o92 p P) (.node (o156 p P) .nil .nil) (.node (o220 p P) .nil .nil)) (u107 p P))))) (.node (o6 p P) (.node (o10 p P) (.node (o18 p P) (.node (o34 p P) (u47 p P) (.node (o98 p P) (.node (o162 p P) .nil .nil) (.node (o226 p P) .nil .nil))) (.node (o50 p P) (u68 p P) (u108 p P))) (.node (o26 p P) (.node (o42 p P) (u70 p P) (u109 p P)) (.node (o58 p P) (u79 p P) (u110 p P)))) (.node (o14 p P) (.node (o22 p P) (.node (o38 p P) (u49 p P) (u111 p P)) (.node (o54 p P) (u80 p P) (u112 p P))) (.node (o30 p P) (.node (o46 p P) (u72 p P) (u113 p P)) (.node (o62 p P) (.node (o94 p P) (.node (o158 p P) .nil .nil) (.node (o222 p P) .nil .nil)) (u114 p P))))))
noncomputable def tr0 : BF := fun p P => (.node (o0 p P) (.node (o1 p P) (.node (o3_0 p P) (u0 p P) (u1 p P)) (u3 p P)) (u6 p P))
noncomputable def tr1 : BF := fun p P => (.node (o0 p P) (.node (o1 p P) (.node (o3_1 p P) (u7 p P) (u1 p P)) (.node (o5 p P) (u2 p P) (.node (o13 p P) (.node (o21 p P) .nil .nil) (.node (o29_1 p P) .nil .nil)))) (u8 p P))
noncomputable def tr2 : BF := fun p P => (.node (o0 p P) (.node (o1 p P) (.node (o3_2 p P) (u7 p P) (u1 p P)) (.node (o5 p P) (u2 p P) (.node (o13 p P) (.node (o21 p P) .nil .nil) (.node (o29_2 p P) .nil .nil)))) (u8 p P))
noncomputable def tr8 : BF := fun p P => (.node (o0 p P) (.node (o1 p P) (.node (o3_8 p P) (.node (o7 p P) (.node (o15 p P) (.node (o31 p P) .nil .nil) (.node (o47 p P) .nil .nil)) (.node (o23 p P) (.node (o39 p P) .nil .nil) (.node (o55 p P) .nil .nil))) (.node (o11 p P) (.node (o19 p P) (.node (o35 p P) .nil .nil) (.node (o51 p P) .nil .nil)) (.node (o27 p P) (.node (o43 p P) .nil .nil) (.node (o59 p P) .nil .nil)))) (.node (o5 p P) (.node (o9 p P) (.node (o17 p P) (.node (o33 p P) .nil .nil) (.node (o49 p P) .nil .nil)) (.node (o25 p P) (.node (o41 p P) .nil .nil) (.node (o57 p P) .nil .nil))) (.node (o13 p P) (.node (o21 p P) (.node (o37 p P) .nil .nil) (.node (o53 p P) .nil .nil)) (.node (o29_8 p P) (.node (o45 p P) .nil .nil) (.node (o61 p P) .nil .nil))))) (.node (o2 p P) (.node (o4 p P) (.node (o8 p P) (.node (o16 p P) (.node (o32 p P) .nil .nil) (.node (o48 p P) .nil .nil)) (.node (o24 p P) (.node (o40 p P) .nil .nil) (.node (o56 p P) .nil .nil))) (.node (o12 p P) (.node (o20 p P) (.node (o36 p P) .nil .nil) (.node (o52 p P) .nil .nil)) (.node (o28 p P) (.node (o44 p P) .nil .nil) (.node (o60 p P) .nil .nil)))) (.node (o6 p P) (.node (o10 p P) (.node (o18 p P) (.node (o34 p P) .nil .nil) (.node (o50 p P) .nil .nil)) (.node (o26 p P) (.node (o42 p P) .nil .nil) (.node (o58 p P) .nil .nil))) (.node (o14 p P) (.node (o22 p P) (.node (o38 p P) .nil .nil) (.node (o54 p P) .nil .nil)) (.node (o30 p P) (.node (o46 p P) .nil .nil) .nil)))))
noncomputable def tr9 : BF := fun p P => (.node (o0 p P) (.node (o1 p P) (.node (o3_9 p P) (.node (o7 p P) (.node (o15 p P) (.node (o31 p P) (.node (o63 p P) (.node (o127 p P) .nil .nil) .nil) (.node (o95 p P) (.node (o159 p P) .nil .nil) .nil)) (u9 p P)) (.node (o23 p P) (.node (o39 p P) (.node (o71 p P) (.node (o135 p P) .nil .nil) .nil) (.node (o103 p P) (.node (o167 p P) .nil .nil) .nil)) (u10 p P))) (.node (o11 p P) (.node (o19 p P) (.node (o35 p P) (.node (o67 p P) (.node (o131 p P) .nil .nil) .nil) (.node (o99 p P) (.node (o163 p P) .nil .nil) .nil)) (u11 p P)) (.node (o27 p P) (u12 p P) (.node (o59 p P) (.node (o91 p P) (.node (o155 p P) .nil .nil) .nil) (.node (o123 p P) .nil .nil))))) (.node (o5 p P) (.node (o9 p P) (.node (o17 p P) (.node (o33 p P) (.node (o65 p P) (.node (o129 p P) .nil .nil) .nil) (.node (o97 p P) (.node (o161 p P) .nil .nil) .nil)) (u13 p P)) (u15 p P)) (.node (o13 p P) (.node (o21 p P) (.node (o37 p P) (.node (o69 p P) (.node (o133 p P) .nil .nil) .nil) (.node (o101 p P) (.node (o165 p P) .nil .nil) .nil)) (u16 p P)) (.node (o29_9 p P) (u17 p P) (.node (o61 p P) (.node (o93 p P) (.node (o157 p P) .nil .nil) .nil) (.node (o125 p P) .nil .nil)))))) (.node (o2 p P) (.node (o4 p P) (.node (o8 p P) (.node (o16 p P) (.node (o32 p P) (.node (o64 p P) (.node (o128 p P) .nil .nil) .nil) (.node (o96 p P) (.node (o160 p P) .nil .nil) .nil)) (u18 p P)) (.node (o24 p P) (.node (o40 p P) (.node (o72 p P) (.node (o136 p P) .nil .nil) .nil) (.node (o104 p P) (.node (o168 p P) .nil .nil) .nil)) (u19 p P))) (.node (o12 p P) (.node (o20 p P) (.node (o36 p P) (.node (o68 p P) (.node (o132 p P) .nil .nil) .nil) (.node (o100 p P) (.node (o164 p P) .nil .nil) .nil)) (u20 p P)) (.node (o28 p P) (u21 p P) (.node (o60 p P) (.node (o92 p P) (.node (o156 p P) .nil .nil) .nil) (.node (o124 p P) .nil .nil))))) (.node (o6 p P) (.node (o10 p P) (.node (o18 p P) (.node (o34 p P) (.node (o66 p P) (.node (o130 p P) .nil .nil) .nil) (.node (o98 p P) (.node (o162 p P) .nil .nil) .nil)) (u22 p P)) (u24 p P)) (.node (o14 p P) (.node (o22 p P) (.node (o38 p P) (.node (o70 p P) (.node (o134 p P) .nil .nil) .nil) (.node (o102 p P) (.node (o166 p P) .nil .nil) .nil)) (u25 p P)) (.node (o30 p P) (u26 p P) (.node (o62 p P) (.node (o94 p P) (.node (o158 p P) .nil .nil) .nil) (.node (o126 p P) .nil .nil)))))))
noncomputable def tr14 : BF := fun p P => (.node (o0 p P) (.node (o1 p P) (.node (o3_14 p P) (.node (o7 p P) (.node (o15 p P) (u27 p P) (u9 p P)) (u30 p P)) (.node (o11 p P) (.node (o19 p P) (u32 p P) (u11 p P)) (.node (o27 p P) (u12 p P) (u33 p P)))) (.node (o5 p P) (.node (o9 p P) (.node (o17 p P) (u34 p P) (u13 p P)) (u15 p P)) (.node (o13 p P) (u37 p P) (.node (o29_14 p P) (u17 p P) (u38 p P))))) (.node (o2 p P) (.node (o4 p P) (.node (o8 p P) (.node (o16 p P) (u39 p P) (u18 p P)) (u42 p P)) (.node (o12 p P) (u45 p P) (.node (o28 p P) (u21 p P) (u46 p P)))) (.node (o6 p P) (.node (o10 p P) (.node (o18 p P) (u48 p P) (u22 p P)) (u24 p P)) (.node (o14 p P) (u51 p P) (.node (o30 p P) (u26 p P) (u52 p P))))))
noncomputable def tr15 : BF := fun p P => (.node (o0 p P) (.node (o1 p P) (.node (o3_15 p P) (.node (o7 p P) (u54 p P) (u30 p P)) (u57 p P)) (.node (o5 p P) (.node (o9 p P) (u59 p P) (.node (o25 p P) (u61 p P) (u14 p P))) (.node (o13 p P) (u37 p P) (.node (o29_15 p P) (u63 p P) (u38 p P))))) (.node (o2 p P) (.node (o4 p P) (.node (o8 p P) (u65 p P) (u42 p P)) (.node (o12 p P) (u45 p P) (u67 p P))) (.node (o6 p P) (.node (o10 p P) (u69 p P) (.node (o26 p P) (u71 p P) (u23 p P))) (.node (o14 p P) (u51 p P) (u73 p P)))))
noncomputable def tr16 : BF := fun p P => (.node (o0 p P) (.node (o1 p P) (.node (o3_16 p P) (.node (o7 p P) (u54 p P) (.node (o23 p P) (u29 p P) (.node (o55 p P) (u74 p P) (.node (o119 p P) (.node (o183 p P) .nil .nil) .nil)))) (u57 p P)) (.node (o5 p P) (.node (o9 p P) (u59 p P) (.node (o25 p P) (u61 p P) (.node (o57 p P) (u75 p P) (.node (o121 p P) (.node (o185 p P) .nil .nil) .nil)))) (.node (o13 p P) (.node (o21 p P) (u36 p P) (.node (o53 p P) (u76 p P) (.node (o117 p P) (.node (o181 p P) .nil .nil) .nil))) (.node (o29_16 p P) (u63 p P) (u38 p P))))) (.node (o2 p P) (.node (o4 p P) (.node (o8 p P) (u65 p P) (.node (o24 p P) (u41 p P) (.node (o56 p P) (u77 p P) (.node (o120 p P) (.node (o184 p P) .nil .nil) .nil)))) (.node (o12 p P) (.node (o20 p P) (u44 p P) (.node (o52 p P) (u78 p P) (.node (o116 p P) (.node (o180 p P) .nil .nil) .nil))) (u67 p P))) (.node (o6 p P) (.node (o10 p P) (u69 p P) (.node (o26 p P) (u71 p P) (.node (o58 p P) (u79 p P) (.node (o122 p P) (.node (o186 p P) .nil .nil) .nil)))) (.node (o14 p P) (.node (o22 p P) (u50 p P) (.node (o54 p P) (u80 p P) (.node (o118 p P) (.node (o182 p P) .nil .nil) .nil))) (u73 p P)))))
noncomputable def tr17 : BF := fun p P => (.node (o0 p P) (.node (o1 p P) (.node (o3_17 p P) (u85 p P) (u89 p P)) (.node (o5 p P) (u94 p P) (.node (o13 p P) (u96 p P) (.node (o29_17 p P) (u98 p P) (u100 p P))))) (u115 p P))
noncomputable def tr24 : BF := fun p P => (.node (o0 p P) (.node (o1 p P) (.node (o3 p P) (.node (o7 p P) (.node (o15 p P) (.node (o31 p P) (u81 p P) (.node (o95 p P) (.node (o159 p P) (.node (o287 p P) .nil .nil) .nil) (.node (o223 p P) .nil .nil))) (.node (o47 p P) (.node (o79 p P) (.node (o143 p P) (.node (o271 p P) .nil .nil) .nil) (.node (o207 p P) .nil .nil)) (u82 p P))) (.node (o23 p P) (.node (o39 p P) (.node (o71 p P) (.node (o135 p P) (.node (o263 p P) .nil .nil) .nil) (.node (o199 p P) .nil .nil)) (u83 p P)) (.node (o55 p P) (.node (o87 p P) (.node (o151 p P) (.node (o279 p P) .nil .nil) .nil) (.node (o215 p P) .nil .nil)) (u84 p P)))) (.node (o11 p P) (.node (o19 p P) (.node (o35 p P) (.node (o67 p P) (.node (o131 p P) (.node (o259 p P) .nil .nil) .nil) (.node (o195 p P) .nil .nil)) (.node (o99 p P) (.node (o163 p P) (.node (o291 p P) .nil .nil) .nil) (.node (o227 p P) .nil .nil))) (.node (o51 p P) (.node (o83 p P) (.node (o147 p P) (.node (o275 p P) .nil .nil) .nil) (.node (o211 p P) .nil .nil)) (u86 p P))) (.node (o27 p P) (.node (o43 p P) (.node (o75 p P) (.node (o139 p P) (.node (o267 p P) .nil .nil) .nil) (.node (o203 p P) .nil .nil)) (u87 p P)) (.node (o59 p P) (.node (o91 p P) (.node (o155 p P) (.node (o283 p P) .nil .nil) .nil) (.node (o219 p P) .nil .nil)) (u88 p P))))) (.node (o5 p P) (.node (o9 p P) (.node (o17 p P) (.node (o33 p P) (u90 p P) (.node (o97 p P) (.node (o161 p P) (.node (o289 p P) .nil .nil) .nil) (.node (o225 p P) .nil .nil))) (.node (o49 p P) (.node (o81 p P) (.node (o145 p P) (.node (o273 p P) .nil .nil) .nil) (.node (o209 p P) .nil .nil)) (u91 p P))) (.node (o25 p P) (.node (o41 p P) (.node (o73 p P) (.node (o137 p P) (.node (o265 p P) .nil .nil) .nil) (.node (o201 p P) .nil .nil)) (u92 p P)) (.node (o57 p P) (.node (o89 p P) (.node (o153 p P) (.node (o281 p P) .nil .nil) .nil) (.node (o217 p P) .nil .nil)) (u93 p P)))) (.node (o13 p P) (.node (o21 p P) (.node (o37 p P) (.node (o69 p P) (.node (o133 p P) (.node (o261 p P) .nil .nil) .nil) (.node (o197 p P) .nil .nil)) (.node (o101 p P) (.node (o165 p P) (.node (o293 p P) .nil .nil) .nil) (.node (o229 p P) .nil .nil))) (.node (o53 p P) (.node (o85 p P) (.node (o149 p P) (.node (o277 p P) .nil .nil) .nil) (.node (o213 p P) .nil .nil)) (u95 p P))) (.node (o29 p P) (.node (o45 p P) (.node (o77 p P) (.node (o141 p P) (.node (o269 p P) .nil .nil) .nil) (.node (o205 p P) .nil .nil)) (u97 p P)) (.node (o61 p P) (.node (o93 p P) (.node (o157 p P) (.node (o285 p P) .nil .nil) .nil) (.node (o221 p P) .nil .nil)) (u99 p P)))))) (.node (o2 p P) (.node (o4 p P) (.node (o8 p P) (.node (o16 p P) (.node (o32 p P) (u101 p P) (.node (o96 p P) (.node (o160 p P) (.node (o288 p P) .nil .nil) .nil) (.node (o224 p P) .nil .nil))) (.node (o48 p P) (.node (o80 p P) (.node (o144 p P) (.node (o272 p P) .nil .nil) .nil) (.node (o208 p P) .nil .nil)) (u102 p P))) (.node (o24 p P) (.node (o40 p P) (.node (o72 p P) (.node (o136 p P) (.node (o264 p P) .nil .nil) .nil) (.node (o200 p P) .nil .nil)) (u103 p P)) (.node (o56 p P) (.node (o88 p P) (.node (o152 p P) (.node (o280 p P) .nil .nil) .nil) (.node (o216 p P) .nil .nil)) (u104 p P)))) (.node (o12 p P) (.node (o20 p P) (.node (o36 p P) (.node (o68 p P) (.node (o132 p P) (.node (o260 p P) .nil .nil) .nil) (.node (o196 p P) .nil .nil)) (.node (o100 p P) (.node (o164 p P) (.node (o292 p P) .nil .nil) .nil) (.node (o228 p P) .nil .nil))) (.node (o52 p P) (.node (o84 p P) (.node (o148 p P) (.node (o276 p P) .nil .nil) .nil) (.node (o212 p P) .nil .nil)) (u105 p P))) (.node (o28 p P) (.node (o44 p P) (.node (o76 p P) (.node (o140 p P) (.node (o268 p P) .nil .nil) .nil) (.node (o204 p P) .nil .nil)) (u106 p P)) (.node (o60 p P) (.node (o92 p P) (.node (o156 p P) (.node (o284 p P) .nil .nil) .nil) (.node (o220 p P) .nil .nil)) (u107 p P))))) (.node (o6 p P) (.node (o10 p P) (.node (o18 p P) (.node (o34 p P) (.node (o66 p P) (.node (o130 p P) (.node (o258 p P) .nil .nil) .nil) (.node (o194 p P) .nil .nil)) (.node (o98 p P) (.node (o162 p P) (.node (o290 p P) .nil .nil) .nil) (.node (o226 p P) .nil .nil))) (.node (o50 p P) (.node (o82 p P) (.node (o146 p P) (.node (o274 p P) .nil .nil) .nil) (.node (o210 p P) .nil .nil)) (u108 p P))) (.node (o26 p P) (.node (o42 p P) (.node (o74 p P) (.node (o138 p P) (.node (o266 p P) .nil .nil) .nil) (.node (o202 p P) .nil .nil)) (u109 p P)) (.node (o58 p P) (.node (o90 p P) (.node (o154 p P) (.node (o282 p P) .nil .nil) .nil) (.node (o218 p P) .nil .nil)) (u110 p P)))) (.node (o14 p P) (.node (o22 p P) (.node (o38 p P) (.node (o70 p P) (.node (o134 p P) (.node (o262 p P) .nil .nil) .nil) (.node (o198 p P) .nil .nil)) (u111 p P)) (.node (o54 p P) (.node (o86 p P) (.node (o150 p P) (.node (o278 p P) .nil .nil) .nil) (.node (o214 p P) .nil .nil)) (u112 p P))) (.node (o30 p P) (.node (o46 p P) (.node (o78 p P) (.node (o142 p P) (.node (o270 p P) .nil .nil) .nil) (.node (o206 p P) .nil .nil)) (u113 p P)) (.node (o62 p P) (.node (o94 p P) (.node (o158 p P) (.node (o286 p P) .nil .nil) .nil) (.node (o222 p P) .nil .nil)) (u114 p P)))))))
noncomputable def tr16b : BF := fun p P => (.node (o0 p P) (.node (o1 p P) (.node (o3_16 p P) (u85 p P) (u89 p P)) (.node (o5 p P) (u94 p P) (.node (o13 p P) (u96 p P) (.node (o29_16 p P) (u98 p P) (u100 p P))))) (u115 p P))
noncomputable def tre : BF := fun p P => (.node (o0 p P) (.node (o1 p P) (.node (o3_0 p P) (u0 p P) (.node (o11_e p P) (.node (o19 p P) .nil .nil) (.node (o27 p P) .nil .nil))) (u3 p P)) (u6 p P))
end Mine
end
section
open PySem PySem.W PyProof.Rows PySem.Calls
namespace Mine
/-! exact runs of the top: x, from s at p, hands a at s' and p' -/
section
variable {pr : Program} {w : World} {n₀ : Nat} {ann : Option Value}
noncomputable def Go (pr : Program) (w : World) (n₀ : Nat) (ann : Option Value) (n : Nat) {α : Type} (x : Sem α) (s : Shared) (p : Pos) (a : α) (s' : Shared) (p' : Pos) : Prop :=
 ∀ (K : α -> Sem Fin) (H : Value -> Sem Fin) (gd : Bool -> Bool) (lv : List Value -> List Value) (c : Code) (B : List Frame),
   ∀ N r, topRun table pr w n₀ ann N s' ⟨K a, c, p', B⟩ = some r -> topRun table pr w n₀ ann (n + N) s ⟨x.wrap K H gd lv, c, p, B⟩ = some r
theorem tr_step {s s2 : Shared} {t t2 : Thread} {N : Nat} {r : Shared} (h1 : through t = false) (h2 : stepOk n₀ ann t = true) (h3 : step (denote table) pr w s t = .go s2 t2)
   (h : topRun table pr w n₀ ann N s2 t2 = some r) : topRun table pr w n₀ ann (1 + N) s t = some r := by
 rw [Nat.add_comm]
 unfold topRun
 rw [h1, h2, h3]
 exact h
variable {α β : Type} {s s' s'' : Shared} {p p' p'' : Pos} {n n1 n2 m : Nat}
theorem Go.le {x : Sem α} {a : α} (h : Go pr w n₀ ann n x s p a s' p') (hn : n <= m) : Go pr w n₀ ann m x s p a s' p' := fun K H gd lv c B N r k => by
 have q := topRun_mono (m - n) _ _ _ _ (h K H gd lv c B N r k)
 rw [show n + N + (m - n) = m + N by lia] at q
 exact q
theorem Go.pure {a : α} : Go pr w n₀ ann 0 (Pure.pure a : Sem α) s p a s p := fun K H gd lv c B N r h => by rw [Nat.zero_add]; exact h
theorem Go.bind {x : Sem α} {f : α -> Sem β} {a : α} {b : β} (h1 : Go pr w n₀ ann n1 x s p a s' p') (h2 : Go pr w n₀ ann n2 (f a) s' p' b s'' p'') : Go pr w n₀ ann (n1 + n2) (x >>= f) s p b s'' p'' := fun K H gd lv c B N r h => by
 have k2 := h2 K H gd lv c B
 have k1 := h1 (fun a => (f a).wrap K H gd lv) (fun e => (Sem.raise e : Sem β).wrap K H gd lv) (fun g => gd (id g)) (fun l => lv (id l)) c B
 rw [Sem.bind_eq_wrap', Sem.wrap_wrap, Nat.add_assoc]
 exact k1 _ _ (k2 _ _ h)
theorem Go.thenPure {x : Sem α} {f : α -> Sem β} {b : β} (a : α) (hf : f a = Pure.pure b) (h1 : Go pr w n₀ ann n x s p a s' p') : Go pr w n₀ ann n (x >>= f) s p b s' p' :=
 Go.le (Go.bind h1 (hf ▸ Go.pure)) (Nat.le_refl _)
theorem Go.keep {x : Sem α} {a : α} {vs : List Value} (h1 : Go pr w n₀ ann n x s p a s' p') : Go pr w n₀ ann n (x.keep vs) s p a s' p' := fun K H gd lv c B N r h => by
 have k1 := h1 K H (fun g => gd (id g)) (fun l => lv (vs ++ l)) c B
 rw [Sem.keep_eq_wrap, Sem.wrap_wrap]
 exact k1 _ _ h
theorem Go.holding {x : Sem α} {a : α} {vs : List Value} (h1 : Go pr w n₀ ann n x s p a s' p') : Go pr w n₀ ann n (holding vs x) s p a s' p' := by
 unfold PySem.holding
 split
 . exact h1
 . exact h1.keep
theorem Go.onRaise {x : Sem α} {a : α} {k : Value -> Sem Unit} (h1 : Go pr w n₀ ann n x s p a s' p') : Go pr w n₀ ann n (x.onRaise k) s p a s' p' := fun K H gd lv c B N r h => by
 have k1 := h1 K (fun e => ((k e).bind fun _ => (Sem.raise e : Sem α)).wrap K H gd lv) (fun g => gd (id g)) (fun l => lv (id l)) c B
 rw [Sem.onRaise_eq_wrap, Sem.wrap_wrap]
 exact k1 _ _ h
theorem Go.tryCatch {x : Sem α} {a : α} {k : Value -> Sem α} (h1 : Go pr w n₀ ann n x s p a s' p') : Go pr w n₀ ann n (x.tryCatch k) s p a s' p' := fun K H gd lv c B N r h => by
 have k1 := h1 K (fun e => (k e).wrap K H gd lv) (fun g => gd true) (fun l => lv (id l)) c B
 rw [Sem.tryCatch_eq_wrap, Sem.wrap_wrap]
 exact k1 _ _ h
theorem calm_of {cur : Sem Fin} {c : Code} {q : Pos} {B : List Frame} (h : (match cur with | .pure _ | .yield .. | .fork .. | .await .. | .register .. | .update .. | .os .. => false | _ => true) = true) :
   stepOk n₀ ann ⟨cur, c, q, B⟩ = true /\ through ⟨cur, c, q, B⟩ = false := by
 cases cur <;> first | exact Bool.noConfusion (h : false = true) | (refine ⟨rfl, ?_⟩; show (_ && false) = false; exact Bool.and_false _)
theorem Go.rule {tag : String} : Go pr w n₀ ann 1 (rule tag) s p () s p := fun K H gd lv c B N r h => by
 obtain ⟨a, b⟩ := calm_of (n₀ := n₀) (ann := ann) (cur := .rule tag fun x => K x) (c := c) (q := p) (B := B) rfl
 exact tr_step b a rfl h
theorem Go.standAt {q : Pos} : Go pr w n₀ ann 1 (standAt q) s p () s q := fun K H gd lv c B N r h => by
 obtain ⟨a, b⟩ := calm_of (n₀ := n₀) (ann := ann) (cur := .at q fun x => K x) (c := c) (q := p) (B := B) rfl
 exact tr_step b a rfl h
theorem Go.ask : Go pr w n₀ ann 1 ask s p ⟨pr, w.params⟩ s p := fun K H gd lv c B N r h => by
 obtain ⟨a, b⟩ := calm_of (n₀ := n₀) (ann := ann) (cur := .ask fun x => K x) (c := c) (q := p) (B := B) rfl
 exact tr_step b a rfl h
theorem Go.fresh : Go pr w n₀ ann 1 fresh s p s.toks { s with toks := s.toks + 1 } p := fun K H gd lv c B N r h => by
 obtain ⟨a, b⟩ := calm_of (n₀ := n₀) (ann := ann) (cur := .fresh fun x => K x) (c := c) (q := p) (B := B) rfl
 exact tr_step b a rfl h
theorem Go.alloc {o : Obj} : Go pr w n₀ ann 1 (alloc o) s p s.heap.objs.size { s with heap := s.heap.push o } p := fun K H gd lv c B N r h => by
 obtain ⟨a, b⟩ := calm_of (n₀ := n₀) (ann := ann) (cur := .alloc o fun x => K x) (c := c) (q := p) (B := B) rfl
 exact tr_step b a rfl h
theorem Go.loadPart {a : Addr} {part : Option Value} {o : Obj} (ho : s.heap.get? a = some o) : Go pr w n₀ ann 1 (loadPart a part) s p o s p := fun K H gd lv c B N r h => by
 obtain ⟨x, y⟩ := calm_of (n₀ := n₀) (ann := ann) (cur := .load a part fun x => K x) (c := c) (q := p) (B := B) rfl
 refine tr_step y x ?_ h
 show step (denote table) pr w s ⟨.load a part fun x => K x, c, p, B⟩ = _
 simp only [step, ho]
theorem Go.load {a : Addr} {o : Obj} (ho : s.heap.get? a = some o) : Go pr w n₀ ann 1 (load a) s p o s p := Go.loadPart (part := none) ho
theorem Go.updatePart {a : Addr} {part : Option Value} {f : Obj -> Obj} {o : Obj} (ho : s.heap.get? a = some o) (hn : n₀ <= a) : Go pr w n₀ ann 1 (updatePart a part f) s p () { s with heap := s.heap.update a f } p := fun K H gd lv c B N r h => by
 refine tr_step (t := ⟨.update a part f fun x => K x, c, p, B⟩) (by show (_ && false) = false; exact Bool.and_false _) ?_ ?_ h
 . show (true && (Nat.ble n₀ a || _ || _ || _)) = true
   rw [Nat.ble_eq_true_of_le hn]; rfl
 . show step (denote table) pr w s ⟨.update a part f fun x => K x, c, p, B⟩ = _
   simp only [step, ho, Option.isSome_some, if_true]
theorem Go.eq {x y : Sem α} {a : α} (e : x = y) (h : Go pr w n₀ ann n y s p a s' p') : Go pr w n₀ ann n x s p a s' p' := e ▸ h
noncomputable def GoC (pr : Program) (w : World) (n₀ : Nat) (ann : Option Value) (n : Nat) (c : Code) (s : Shared) (p : Pos) (f : Flow) (s' : Shared) : Prop :=
 ∀ (k : Result -> Sem Fin) (h : Option Value) (g : Bool) (l : List Value) (cd : Code) (p₀ : Pos) (kept : List Value) (B : List Frame),
   ∀ N r, topRun table pr w n₀ ann N s' ⟨k (.ok f), cd, p₀, B⟩ = some r -> topRun table pr w n₀ ann (n + N) s ⟨denote table c, c, p, .ret k h g l cd p₀ kept :: B⟩ = some r
theorem wrap_id (x : Sem Fin) : x.wrap Sem.pure Sem.raise id id = x := by
 rw [<- Sem.bind_eq_wrap]
 exact bind_pure (m := Sem) x
theorem GoC.tree {c : Code} {f : Flow} (h : Go pr w n₀ ann n (denote table c) s p (.done f) s' p') : GoC pr w n₀ ann (n + 1) c s p f s' := fun k hd g l cd p₀ kept B N r z => by
 have q := h Sem.pure Sem.raise id id c (.ret k hd g l cd p₀ kept :: B)
 rw [wrap_id] at q
 rw [Nat.add_assoc]
 refine q _ _ (tr_step (t := ⟨.pure (.done f), c, p', .ret k hd g l cd p₀ kept :: B⟩) rfl rfl rfl z)
theorem GoC.again {c c₂ : Code} {f : Flow} (h : Go pr w n₀ ann n (denote table c) s p (.again c₂) s' p') (hq : Thread.calm ⟨.pure (.again c₂), default, default, []⟩ = true) (h2 : GoC pr w n₀ ann n2 c₂ s' p' f s'') : GoC pr w n₀ ann (n + (1 + n2)) c s p f s'' := fun k hd g l cd p₀ kept B N r z => by
 have q := h Sem.pure Sem.raise id id c (.ret k hd g l cd p₀ kept :: B)
 rw [wrap_id] at q
 have q2 := h2 k hd g l cd p₀ (keptBy c c₂ l kept) B
 rw [Nat.add_assoc, Nat.add_assoc]
 refine q _ _ (tr_step (t := ⟨.pure (.again c₂), c, p', .ret k hd g l cd p₀ kept :: B⟩) rfl ?_ ?_ (q2 _ _ z))
 . show (Thread.calm _ && true) = true
   rw [Bool.and_true]; exact hq
 . exact step_again
theorem step_call {c cd : Code} {hd : Option Value} {g : Bool} {l : List Value} {k : Result -> Sem Fin} {B : List Frame} : ∃ kept, step (denote table) pr w s ⟨.call c hd g l k, cd, p, B⟩ = .go s ⟨denote table c, c, p, .ret k hd g l cd p kept :: B⟩ := by
 obtain ⟨heap, gens, drawn, toks, os⟩ := s
 exact ⟨_, rfl⟩
theorem Go.run {c : Code} {hd : Option Value} {f : Flow} (h : GoC pr w n₀ ann n c s p f s') : Go pr w n₀ ann (1 + n) (run c hd) s p f s' p := fun K H gd lv cd B N r z => by
 obtain ⟨kept, e⟩ := step_call (pr := pr) (w := w) (s := s) (p := p) (c := c) (cd := cd) (hd := hd) (g := gd false) (l := lv []) (k := fun x => ((match x with | .ok f => .pure f | .error e => .raise e) : Sem Flow).wrap K H gd lv) (B := B)
 have q := h (fun x => ((match x with | .ok f => .pure f | .error e => .raise e) : Sem Flow).wrap K H gd lv) hd (gd false) (lv []) cd p kept B
 rw [Nat.add_assoc]
 refine tr_step (t := ⟨.call c hd (gd false) (lv []) _, cd, p, B⟩) (by show (_ && false) = false; exact Bool.and_false _) rfl e (q _ _ z)
theorem Go.callV {f v : Value} {pos : List Value} {kw : List (Str × Value)} (h : GoC pr w n₀ ann n (.call f ⟨pos, kw⟩) s p (.ret v) s') : Go pr w n₀ ann (1 + n) (call f pos kw) s p v s' p := by
 unfold PySem.call PySem.runValue
 exact Go.le (Go.bind (Go.run h) Go.pure) (Nat.le_refl _)
end
section
variable {pr : Program} {w : World} {n₀ : Nat} {ann : Option Value} {α β : Type} {s s' s'' : Shared} {p p' p'' : Pos}
theorem special_int_hash {k : Int} {t : Tok} : specialOf (.int k t) "__hash__" = pure (some (.builtin "int.__hash__")) := by
 unfold specialOf
 show (pure (.type "int") >>= fun a => typeLookup a "__hash__") = _
 rw [pure_bind]; exact slot_int_hash.lookup
theorem check_int_hash {k : Int} {t : Tok} : checkBuiltinCall "int.__hash__" ⟨[.int k t], []⟩ = pure () := by kernel_rfl!
theorem den_int_hash {k : Int} {t : Tok} : denote table (.builtin "int.__hash__" ⟨[.int k t], []⟩) = (do ret (<- mkInt (rawHash k))) := by
 rw [denote, entry_int_hash]
 kernel_rfl!
theorem den_call_int_hash {k : Int} {t : Tok} : denote table (.call (.builtin "int.__hash__") ⟨[.int k t], []⟩) = (do checkBuiltinCall "int.__hash__" ⟨[.int k t], []⟩; again (.builtin "int.__hash__" ⟨[.int k t], []⟩)) := by
 rw [denote]; rfl
theorem go_int_hash {k : Int} {t : Tok} : GoC pr w n₀ ann (0 + (1 + (1 + 1))) (.call (.builtin "int.__hash__") ⟨[.int k t], []⟩) s p (.ret (.int (rawHash k) s.toks)) { s with toks := s.toks + 1 } := by
 refine GoC.again (c₂ := .builtin "int.__hash__" ⟨[.int k t], []⟩) (s' := s) (p' := p) ?_ (by kernel_rfl!) ?_
 . rw [den_call_int_hash, check_int_hash]
   exact Go.le (Go.bind Go.pure Go.pure) (Nat.le_refl _)
 . refine GoC.tree (p' := p) ?_
   rw [den_int_hash]
   exact Go.le (Go.bind (Go.bind Go.fresh Go.pure) Go.pure) (Nat.le_refl _)
theorem go_pyHash_int {k : Int} {t : Tok} : Go pr w n₀ ann 40 (pyHash (.int k t)) s p (hashInt k) { s with toks := s.toks + 1 } p := by
 have hr := rawHash_range k
 unfold pyHash
 show Go pr w n₀ ann 40 (pyHashByItsType (.int k t)) _ _ _ _ _
 unfold pyHashByItsType
 have hv : [Value.int k t].any Value.onHeap = false := rfl
 apply Go.le (m := 40)
 . apply Go.bind (a := ()) (s' := s) (p' := p)
   . rw [cRoomFor, if_neg (by rw [hv]; exact Bool.false_ne_true)]; exact Go.pure
   rw [special_int_hash]
   simp only [pure_bind]
   rw [if_neg (by decide)]
   simp only [pure_bind, Option.isNone_some, Bool.false_eq_true, if_false]
   apply Go.bind (a := some (.int (rawHash k) s.toks)) (s' := { s with toks := s.toks + 1 }) (p' := p)
   . unfold callSpecialIfBoundUnlessNone?
     apply Go.holding
     apply Go.bind (a := some (.builtin "int.__hash__", [.int k t])) (s' := s) (p' := p)
     . unfold bindSpecialIfBound?
       rw [special_int_hash]
       simp only [pure_bind]
       apply Go.bind Go.ask
       split
       . rw [slot_int_hash.bind]; exact Go.bind Go.pure Go.pure
       . apply Go.tryCatch
         rw [slot_int_hash.bind]; exact Go.bind Go.pure Go.pure
     . dsimp only
       rw [if_neg (by decide)]
       exact Go.bind (Go.callV go_int_hash) Go.pure
   . show Go pr w n₀ ann _ (if (decide (-(2 : Int) ^ 63 <= rawHash k) && decide (rawHash k < 2 ^ 63)) = true then _ else _) _ _ _ _ _
     rw [if_pos (by rw [decide_eq_true hr.1, decide_eq_true hr.2]; rfl)]
     exact Go.pure
 . lia
theorem go_dictFind_none {d : Addr} {o : Obj} {es : Array DictEntry} {ep : Nat} {k : Int} {t : Tok} (ho : s.heap.get? d = some o) (hd : o.data = .dict es ep) (hn : ∀ e ∈ es, e.hash ≠ hashInt k) :
   Go pr w n₀ ann 4 (dictFind d (.int k t) (hashInt k)) s p none s p := by
 have hp : placesWithHash es.size (fun i => es[i]?.map (·.hash)) (hashInt k) = [] := by
   unfold placesWithHash
   rw [List.filter_eq_nil_iff]
   intro i hi hh
   have hi' : i < es.size := List.mem_range.mp hi
   simp only [Array.getElem?_eq_getElem hi', Option.map_some, beq_iff_eq, Option.some.injEq] at hh
   exact hn _ (Array.getElem_mem hi') hh
 apply Go.le (m := 4)
 . unfold dictFind
   apply Go.holding
   apply Go.bind (a := es) (s' := s) (p' := p)
   . unfold dictEntries
     apply Go.bind (Go.loadPart ho)
     rw [hd]; exact Go.pure
   . dsimp only
     rw [hp]
     exact Go.pure
 . lia
theorem go_updateDictKeys {d : Addr} {c : Value} {dd : Option Addr} {sl : Array (Option Value)} {es : Array DictEntry} {ep : Nat} {part : Option Value} {e : DictEntry} (ho : s.heap.get? d = some ⟨c, dd, .dict es ep, sl⟩) (hz : es.size + 1 <= sizeLine) (hn : n₀ <= d) :
   Go pr w n₀ ann 6 (updateDictKeys d (·.push e) part) s p () { s with heap := s.heap.update d (Obj.mapDictKeys (·.push e)) } p := by
 apply Go.le (m := 6)
 . unfold updateDictKeys
   apply Go.bind (Go.loadPart ho)
   apply Go.bind (Go.updatePart ho hn)
   unfold lookBehind
   have ho' : (s.heap.update d (Obj.mapDictKeys (·.push e))).get? d = some ⟨c, dd, .dict (es.push e) (ep + 1), sl⟩ := Heap.get?_update_self _ ho rfl
   apply Go.bind (Go.loadPart (s := { s with heap := s.heap.update d (Obj.mapDictKeys (·.push e)) }) ho')
   have : (Data.dict (es.push e) (ep + 1)).pastItsLine = none := by
     show (if (es.push e).size > sizeLine + 1 then _ else none) = none
     rw [if_neg (by rw [Array.size_push]; lia)]
   dsimp only
   rw [this]
   exact Go.pure
 . lia
theorem go_dictSet_int {d : Addr} {c : Value} {dd : Option Addr} {sl : Array (Option Value)} {es : Array DictEntry} {ep : Nat} {k : Int} {t : Tok} {v : Value} (ho : s.heap.get? d = some ⟨c, dd, .dict es ep, sl⟩) (hh : ∀ e ∈ es, e.hash ≠ hashInt k) (hz : es.size + 1 <= sizeLine) (hn : n₀ <= d) :
   Go pr w n₀ ann 52 (dictSet d (.int k t) v) s p () { s with heap := s.heap.update d (Obj.mapDictKeys (·.push ⟨hashInt k, .int k t, v⟩)), toks := s.toks + 1 } p := by
 apply Go.le (m := 52)
 . unfold dictSet
   apply Go.holding
   apply Go.bind go_pyHash_int
   unfold dictSetHashed
   apply Go.holding
   apply Go.bind (go_dictFind_none (s := { s with toks := s.toks + 1 }) ho rfl hh)
   dsimp only
   exact Go.bind Go.rule (go_updateDictKeys (s := { s with toks := s.toks + 1 }) ho hz hn)
 . lia
theorem go_dictPut_int {d : Addr} {c : Value} {dd : Option Addr} {sl : Array (Option Value)} {es : Array DictEntry} {ep : Nat} {k : Int} {t : Tok} {v : Value} (ho : s.heap.get? d = some ⟨c, dd, .dict es ep, sl⟩) (hh : ∀ e ∈ es, e.hash ≠ hashInt k) (hz : es.size + 1 <= sizeLine) (hn : n₀ <= d) :
   Go pr w n₀ ann 11 (dictPut d (hashInt k) (.int k t) v) s p () { s with heap := s.heap.update d (Obj.mapDictKeys (·.push ⟨hashInt k, .int k t, v⟩)) } p := by
 apply Go.le (m := 11)
 . unfold dictPut
   apply Go.bind (go_dictFind_none ho rfl hh)
   dsimp only
   exact go_updateDictKeys ho hz hn
 . lia
end
noncomputable def hl (l : List Obj) : Heap := ⟨l.toArray, {}⟩
noncomputable def sh (l : List Obj) (k : Nat) (os : OsState) : Shared := ⟨hl l, #[], {}, k, os⟩
theorem hl_get {a b : List Obj} {o : Obj} (hf : o.isFreed = false) : (hl (a ++ o :: b)).get? a.length = some o := by
 unfold Heap.get? hl
 rw [List.getElem?_toArray, List.getElem?_append_right (Nat.le_refl _), Nat.sub_self]
 show (match some o with | some ⟨_, _, .freed, _⟩ => none | o => o) = some o
 obtain ⟨c, d, dt, sl⟩ := o
 cases dt <;> first | rfl | cases hf
theorem hl_push {l : List Obj} {o : Obj} : (hl l).push o = hl (l ++ [o]) := by
 show Heap.mk (l.toArray.push o) {} = Heap.mk (l ++ [o]).toArray {}
 rw [List.push_toArray]
theorem hl_size {l : List Obj} : (hl l).objs.size = l.length := by simp [hl]
theorem hl_update {a b : List Obj} {o : Obj} {f : Obj -> Obj} : (hl (a ++ o :: b)).update a.length f = hl (a ++ f o :: b) := by
 show Heap.mk ((a ++ o :: b).toArray.modify a.length f) {} = Heap.mk (a ++ f o :: b).toArray {}
 congr 1
 apply Array.ext_getElem?
 intro i
 rw [Array.getElem?_modify, List.getElem?_toArray, List.getElem?_toArray]
 by_cases h : a.length = i
 . subst h
   simp
 . rw [if_neg h]
   by_cases q : i < a.length
   . rw [List.getElem?_append_left q, List.getElem?_append_left q]
   . obtain ⟨j, rfl⟩ : ∃ j, i = a.length + (j + 1) := ⟨i - a.length - 1, by lia⟩
     rw [List.getElem?_append_right (by lia), List.getElem?_append_right (by lia), Nat.add_sub_cancel_left]
     rfl
theorem dct_push (es : List DictEntry) (n : Nat) (e : DictEntry) : (dct es n).mapDictKeys (·.push e) = dct (es ++ [e]) (n + 1) := by
 show Obj.mk _ _ (.dict (Array.push ⟨es⟩ e) (n + 1)) _ = Obj.mk _ _ (.dict ⟨es ++ [e]⟩ (n + 1)) _
 rw [List.push_toArray]
noncomputable def IntEnts (es : List DictEntry) : Prop := ∀ e ∈ es, ∃ k t, e.key = .int k t /\ e.hash = hashInt k
theorem entsA_int : ∀ (t : Nat) (l : List (Int × Str)), IntEnts (entsA t l)
 | _, [] => fun _ h => nomatch h
 | t, e :: r => fun x h => by
   rcases List.mem_cons.mp h with rfl | h
   . exact ⟨_, _, rfl, rfl⟩
   . exact entsA_int (t + 3) r x h
theorem entsB_int : ∀ (t : Nat) (l : List (Int × Str)), IntEnts (entsB t l)
 | _, [] => fun _ h => nomatch h
 | t, e :: r => fun x h => by
   rcases List.mem_cons.mp h with rfl | h
   . exact ⟨_, _, rfl, rfl⟩
   . exact entsB_int (t + 2) r x h
theorem entsA_hash : ∀ (t : Nat) (l : List (Int × Str)), (entsA t l).map (·.hash) = l.map fun e => hashInt e.1
 | _, [] => rfl
 | t, e :: r => by rw [entsA, List.map_cons, entsA_hash]; rfl
theorem entsB_hash : ∀ (t : Nat) (l : List (Int × Str)), (entsB t l).map (·.hash) = l.map fun e => hashInt e.1
 | _, [] => rfl
 | t, e :: r => by rw [entsB, List.map_cons, entsB_hash]; rfl
theorem entsA_len : ∀ (t : Nat) (l : List (Int × Str)), (entsA t l).length = l.length
 | _, [] => rfl
 | t, e :: r => by rw [entsA, List.length_cons, entsA_len]; rfl
theorem entsB_len : ∀ (t : Nat) (l : List (Int × Str)), (entsB t l).length = l.length
 | _, [] => rfl
 | t, e :: r => by rw [entsB, List.length_cons, entsB_len]; rfl
noncomputable def pairsOf (pos : Pos) (l : List (Int × Str)) : List (Sem Value × Sem Value) := l.map fun e => (mkInt e.1, do let x <- mkText e.2; standAt pos; pure x)
noncomputable def hashes (es : List DictEntry) : List Int := es.map (·.hash)
section
variable {pr : Program} {w : World} {n₀ : Nat} {ann : Option Value} {os : OsState} {pos : Pos}
theorem go_key {l : List Obj} {t : Nat} {k : Int} {p : Pos} : Go pr w n₀ ann 1 (mkInt k) (sh l t os) p (.int k t) (sh l (t + 1) os) p := Go.le (Go.bind Go.fresh Go.pure) (Nat.le_refl _)
theorem go_val {l : List Obj} {t : Nat} {x : Str} {p : Pos} : Go pr w n₀ ann 2 (do let x <- mkText x; standAt pos; pure x) (sh l t os) p (.str x t) (sh l (t + 1) os) pos :=
 Go.le (Go.bind (Go.bind Go.fresh Go.pure) (Go.bind Go.standAt Go.pure)) (Nat.le_refl _)
theorem go_set {pre post : List Obj} {es : List DictEntry} {n t : Nat} {k : Int} {tk : Tok} {v : Value} (hh : ∀ e ∈ es, e.hash ≠ hashInt k) (hz : es.length + 1 <= sizeLine) (hn : n₀ <= pre.length) :
   Go pr w n₀ ann 52 (dictSet pre.length (.int k tk) v) (sh (pre ++ dct es n :: post) t os) pos () (sh (pre ++ dct (es ++ [⟨hashInt k, .int k tk, v⟩]) (n + 1) :: post) (t + 1) os) pos := by
 have := go_dictSet_int (pr := pr) (w := w) (n₀ := n₀) (ann := ann) (s := sh (pre ++ dct es n :: post) t os) (p := pos) (d := pre.length) (c := .type "dict") (dd := none) (sl := ⟨[]⟩) (es := ⟨es⟩) (ep := n) (k := k) (t := tk) (v := v)
   (hl_get rfl) (fun e he => hh e (by simpa using he)) (by simpa using hz) hn
 unfold sh at this ⊢
 rw [hl_update, dct_push] at this
 exact this
theorem go_put {pre post : List Obj} {es : List DictEntry} {n t : Nat} {k : Int} {tk : Tok} {v : Value} (hh : ∀ e ∈ es, e.hash ≠ hashInt k) (hz : es.length + 1 <= sizeLine) (hn : n₀ <= pre.length) :
   Go pr w n₀ ann 11 (dictPut pre.length (hashInt k) (.int k tk) v) (sh (pre ++ dct es n :: post) t os) pos () (sh (pre ++ dct (es ++ [⟨hashInt k, .int k tk, v⟩]) (n + 1) :: post) t os) pos := by
 have := go_dictPut_int (pr := pr) (w := w) (n₀ := n₀) (ann := ann) (s := sh (pre ++ dct es n :: post) t os) (p := pos) (d := pre.length) (c := .type "dict") (dd := none) (sl := ⟨[]⟩) (es := ⟨es⟩) (ep := n) (k := k) (t := tk) (v := v)
   (hl_get rfl) (fun e he => hh e (by simpa using he)) (by simpa using hz) hn
 unfold sh at this ⊢
 rw [hl_update, dct_push] at this
 exact this
theorem go_long_loop {pre : List Obj} (f : Sem Value × Sem Value -> PUnit -> Sem (ForInStep PUnit))
   (hf : ∀ p, f p ⟨⟩ = (do let kv <- p.1; let vv <- holding [kv] p.2; holding [kv, vv] (dictSet pre.length kv vv); pure (.yield ⟨⟩))) (hn : n₀ <= pre.length) : ∀ (l : List (Int × Str)) (es : List DictEntry) (n t : Nat),
   (hashes es ++ l.map (fun e => hashInt e.1)).Pairwise (· ≠ ·) -> es.length + l.length <= sizeLine ->
   Go pr w n₀ ann (60 * l.length) (forIn (pairsOf pos l) PUnit.unit f) (sh (pre ++ [dct es n]) t os) pos ⟨⟩ (sh (pre ++ [dct (es ++ entsA t l) (n + l.length)]) (t + 3 * l.length) os) pos
 | [], es, n, t, _, _ => by
   simp only [pairsOf, List.map_nil, List.forIn_nil, entsA, List.append_nil, List.length_nil, Nat.add_zero, Nat.mul_zero]
   exact Go.pure
 | e :: r, es, n, t, hp, hz => by
   have hz' : es.length + (r.length + 1) <= sizeLine := hz
   rw [List.map_cons] at hp
   have hp' : (hashes (es ++ [⟨hashInt e.1, .int e.1 t, .str e.2 (t + 1)⟩]) ++ r.map (fun e => hashInt e.1)).Pairwise (· ≠ ·) := by
     simpa [hashes] using hp
   have hne : ∀ x ∈ es, x.hash ≠ hashInt e.1 := fun x hx => (List.pairwise_append.mp hp).2.2 _ (List.mem_map_of_mem hx) _ (.head _)
   have ih := go_long_loop f hf hn r (es ++ [⟨hashInt e.1, .int e.1 t, .str e.2 (t + 1)⟩]) (n + 1) (t + 3) hp' (by rw [List.length_append]; simp; lia)
   show Go pr w n₀ ann _ (forIn ((mkInt e.1, do let x <- mkText e.2; standAt pos; pure x) :: pairsOf pos r) PUnit.unit f) _ _ _ _ _
   rw [List.forIn_cons, hf]
   simp only [bind_assoc, pure_bind]
   have e1 : n + 1 + r.length = n + (e :: r).length := by rw [List.length_cons]; lia
   have e2 : t + 3 + 3 * r.length = t + 3 * (e :: r).length := by rw [List.length_cons]; lia
   have e3 : es ++ [⟨hashInt e.1, .int e.1 t, .str e.2 (t + 1)⟩] ++ entsA (t + 3) r = es ++ entsA t (e :: r) := by rw [List.append_assoc]; rfl
   rw [e1, e2, e3] at ih
   exact Go.le (Go.bind go_key (Go.bind (Go.holding go_val) (Go.bind (Go.holding (go_set hne (by lia) hn)) ih))) (by rw [List.length_cons]; lia)
theorem go_subDict_long {pre : List Obj} {l : List (Int × Str)} {t : Nat} (hp : (l.map (fun e => hashInt e.1)).Pairwise (· ≠ ·)) (hl16 : 15 < l.length) (hz : l.length <= sizeLine) (hn : n₀ <= pre.length) :
   Go pr w n₀ ann (60 * l.length + 2) (subDict (pairsOf pos l)) (sh pre t os) pos pre.length (sh (pre ++ [dct (entsA t l) l.length]) (t + 3 * l.length) os) pos := by
 unfold subDict
 have ha : Go pr w n₀ ann 1 (alloc { cls := .type "dict", data := .dict #[] }) (sh pre t os) pos pre.length (sh (pre ++ [dct [] 0]) t os) pos := by
   have := Go.alloc (pr := pr) (w := w) (n₀ := n₀) (ann := ann) (s := sh pre t os) (p := pos) (o := dct [] 0)
   unfold sh at this ⊢
   rw [hl_push, hl_size] at this
   exact this
 apply Go.le (m := 60 * l.length + 2)
 . apply Go.bind ha
   apply Go.thenPure (()) (hf := by exact rfl)
   apply Go.holding
   rw [if_neg (by simp only [pairsOf, List.length_map]; lia)]
   apply Go.bind Go.rule
   apply Go.thenPure (PUnit.unit) (hf := by exact rfl)
   have := fun f hf => go_long_loop (pr := pr) (w := w) (n₀ := n₀) (ann := ann) (os := os) (pos := pos) (pre := pre) f hf hn l [] 0 t (by simpa [hashes] using hp) (by simpa using hz)
   simp only [List.nil_append, Nat.zero_add] at this
   exact this _ (fun _ => rfl)
 . lia
noncomputable def valsOf : Nat -> List (Int × Str) -> List (Value × Value)
 | _, [] => []
 | t, e :: r => (.int e.1 t, .str e.2 (t + 1)) :: valsOf (t + 2) r
theorem go_evalPairs {h : List Obj} : ∀ (l : List (Int × Str)) (t : Nat), Go pr w n₀ ann (3 * l.length) (evalPairs (pairsOf pos l)) (sh h t os) pos (valsOf t l) (sh h (t + 2 * l.length) os) pos
 | [], t => Go.pure
 | e :: r, t => by
   show Go pr w n₀ ann _ (do let kv <- mkInt e.1; let vv <- holding [kv] (do let x <- mkText e.2; standAt pos; pure x); let q <- holding [kv, vv] (evalPairs (pairsOf pos r)); pure ((kv, vv) :: q)) _ _ _ _ _
   have ih := go_evalPairs (h := h) r (t + 2)
   have e2 : t + 2 + 2 * r.length = t + 2 * (e :: r).length := by rw [List.length_cons]; lia
   rw [e2] at ih
   exact Go.le (Go.bind go_key (Go.bind (Go.holding go_val) (Go.bind (Go.holding ih) Go.pure))) (by rw [List.length_cons]; lia)
theorem go_short_loop {pre : List Obj} (f : Value × Value -> PUnit -> Sem (ForInStep PUnit))
   (hf : ∀ p, f p ⟨⟩ = (do dictSet pre.length p.1 p.2; pure (.yield ⟨⟩))) (hn : n₀ <= pre.length) : ∀ (l : List (Int × Str)) (es : List DictEntry) (n t T : Nat),
   (hashes es ++ l.map (fun e => hashInt e.1)).Pairwise (· ≠ ·) -> es.length + l.length <= sizeLine ->
   Go pr w n₀ ann (53 * l.length) (forIn (valsOf T l) PUnit.unit f) (sh (pre ++ [dct es n]) t os) pos ⟨⟩ (sh (pre ++ [dct (es ++ entsB T l) (n + l.length)]) (t + l.length) os) pos
 | [], es, n, t, T, _, _ => by
   simp only [valsOf, List.forIn_nil, entsB, List.append_nil, List.length_nil, Nat.add_zero]
   exact Go.pure
 | e :: r, es, n, t, T, hp, hz => by
   have hz' : es.length + (r.length + 1) <= sizeLine := hz
   rw [List.map_cons] at hp
   have hp' : (hashes (es ++ [⟨hashInt e.1, .int e.1 T, .str e.2 (T + 1)⟩]) ++ r.map (fun e => hashInt e.1)).Pairwise (· ≠ ·) := by
     simpa [hashes] using hp
   have hne : ∀ x ∈ es, x.hash ≠ hashInt e.1 := fun x hx => (List.pairwise_append.mp hp).2.2 _ (List.mem_map_of_mem hx) _ (.head _)
   have ih := go_short_loop f hf hn r (es ++ [⟨hashInt e.1, .int e.1 T, .str e.2 (T + 1)⟩]) (n + 1) (t + 1) (T + 2) hp' (by rw [List.length_append]; simp; lia)
   show Go pr w n₀ ann _ (forIn ((Value.int e.1 T, Value.str e.2 (T + 1)) :: valsOf (T + 2) r) PUnit.unit f) _ _ _ _ _
   rw [List.forIn_cons, hf]
   simp only [bind_assoc, pure_bind]
   have e1 : n + 1 + r.length = n + (e :: r).length := by rw [List.length_cons]; lia
   have e2 : t + 1 + r.length = t + (e :: r).length := by rw [List.length_cons]; lia
   have e3 : es ++ [⟨hashInt e.1, .int e.1 T, .str e.2 (T + 1)⟩] ++ entsB (T + 2) r = es ++ entsB T (e :: r) := by rw [List.append_assoc]; rfl
   rw [e1, e2, e3] at ih
   exact Go.le (Go.bind (go_set hne (by lia) hn) ih) (by rw [List.length_cons]; lia)
theorem go_newDict {pre : List Obj} {t : Nat} : Go pr w n₀ ann 1 (alloc { cls := .type "dict", data := .dict #[] }) (sh pre t os) pos pre.length (sh (pre ++ [dct [] 0]) t os) pos := by
 have := Go.alloc (pr := pr) (w := w) (n₀ := n₀) (ann := ann) (s := sh pre t os) (p := pos) (o := dct [] 0)
 unfold sh at this ⊢
 rw [hl_push, hl_size] at this
 exact this
theorem go_subDict_short {pre : List Obj} {l : List (Int × Str)} {t : Nat} (hp : (l.map (fun e => hashInt e.1)).Pairwise (· ≠ ·)) (hl16 : l.length <= 15) (hz : l.length <= sizeLine) (hn : n₀ <= pre.length) :
   Go pr w n₀ ann (60 * l.length + 2) (subDict (pairsOf pos l)) (sh pre t os) pos pre.length (sh (pre ++ [dct (entsB t l) l.length]) (t + 3 * l.length) os) pos := by
 apply Go.le (m := 60 * l.length + 2)
 . unfold subDict
   apply Go.bind go_newDict
   apply Go.thenPure (()) (hf := by exact rfl)
   apply Go.holding
   rw [if_pos (by simp only [pairsOf, List.length_map]; lia)]
   apply Go.bind (go_evalPairs l t)
   apply Go.holding
   apply Go.thenPure (PUnit.unit) (hf := by exact rfl)
   have := fun f hf => go_short_loop (pr := pr) (w := w) (n₀ := n₀) (ann := ann) (os := os) (pos := pos) (pre := pre) f hf hn l [] 0 (t + 2 * l.length) t (by simpa [hashes] using hp) (by simpa using hz)
   simp only [List.nil_append, Nat.zero_add] at this
   have e : t + 2 * l.length + l.length = t + 3 * l.length := by lia
   rw [e] at this
   exact this _ (fun _ => rfl)
 . lia
theorem go_typeOf_dict {pre post : List Obj} {es : List DictEntry} {n t : Nat} : Go pr w n₀ ann 1 (typeOf (.ref pre.length)) (sh (pre ++ dct es n :: post) t os) pos (.type "dict") (sh (pre ++ dct es n :: post) t os) pos := by
 unfold typeOf
 exact Go.le (Go.bind (Go.loadPart (s := sh (pre ++ dct es n :: post) t os) (hl_get (o := dct es n) rfl)) Go.pure) (Nat.le_refl _)
theorem go_isDict {pre post : List Obj} {es : List DictEntry} {n t : Nat} : Go pr w n₀ ann 1 (isInstance (.ref pre.length) (.type "dict")) (sh (pre ++ dct es n :: post) t os) pos true (sh (pre ++ dct es n :: post) t os) pos := by
 apply Go.le (m := 1)
 . unfold isInstance
   apply Go.bind go_typeOf_dict
   have : isSubtype (.type "dict") (.type "dict") = pure true := by rw [isSubtype_type]; kernel_rfl!
   rw [this]
   exact Go.pure
 . lia
theorem go_iter {pre post : List Obj} {es : List DictEntry} {n t : Nat} : Go pr w n₀ ann 1 (specialOf (.ref pre.length) "__iter__") (sh (pre ++ dct es n :: post) t os) pos (some (.builtin "dict.__iter__")) (sh (pre ++ dct es n :: post) t os) pos := by
 apply Go.le (m := 1)
 . unfold specialOf
   apply Go.bind go_typeOf_dict
   rw [PySem.F.slot_dict_iter.lookup]
   exact Go.pure
 . lia
theorem go_entries {pre post : List Obj} {es : List DictEntry} {n t : Nat} {part : Option Value} : Go pr w n₀ ann 1 (dictEntries pre.length part) (sh (pre ++ dct es n :: post) t os) pos (⟨es⟩ : Array DictEntry) (sh (pre ++ dct es n :: post) t os) pos := by
 unfold dictEntries
 exact Go.le (Go.bind (Go.loadPart (s := sh (pre ++ dct es n :: post) t os) (hl_get (o := dct es n) rfl)) Go.pure) (Nat.le_refl _)
theorem go_epoch {pre post : List Obj} {es : List DictEntry} {n t : Nat} {part : Option Value} : Go pr w n₀ ann 1 (dictEpoch pre.length part) (sh (pre ++ dct es n :: post) t os) pos n (sh (pre ++ dct es n :: post) t os) pos := by
 unfold dictEpoch
 exact Go.le (Go.bind (Go.loadPart (s := sh (pre ++ dct es n :: post) t os) (hl_get (o := dct es n) rfl)) Go.pure) (Nat.le_refl _)
theorem shape {pre mid : List Obj} {m x : Obj} : pre ++ m :: (mid ++ [x]) = (pre ++ m :: mid) ++ x :: [] := by simp
theorem go_merge_loop {pre mid : List Obj} {sub : List DictEntry} {ns : Nat} (f : Nat -> PUnit -> Sem (ForInStep PUnit))
   (hf : ∀ i, f i ⟨⟩ = (do
     let es <- dictEntries (pre ++ dct [] 0 :: mid).length
     match es[i]? with
     | some e => do
       holding [e.key, e.val] (dictPut pre.length e.hash e.key e.val)
       let x <- dictEpoch (pre ++ dct [] 0 :: mid).length
       if x != ns then unsupported "dict.changed-during-merge" else pure (.yield ⟨⟩)
     | none => unsupported "dict.changed-during-merge")) (hn : n₀ <= pre.length) (hi : IntEnts sub) : ∀ (done rest es : List DictEntry) (n t : Nat), sub = done ++ rest ->
   (hashes es ++ hashes rest).Pairwise (· ≠ ·) -> es.length + rest.length <= sizeLine ->
   Go pr w n₀ ann (20 * rest.length) (forIn (List.range' done.length rest.length) PUnit.unit f) (sh (pre ++ dct es n :: (mid ++ [dct sub ns])) t os) pos ⟨⟩ (sh (pre ++ dct (es ++ rest) (n + rest.length) :: (mid ++ [dct sub ns])) t os) pos
 | done, [], es, n, t, _, _, _ => by
   simp only [List.length_nil, List.range'_zero, List.forIn_nil, List.append_nil, Nat.add_zero]
   exact Go.pure
 | done, e :: r, es, n, t, hs, hp, hz => by
   have hz' : es.length + (r.length + 1) <= sizeLine := hz
   have hp' : (hashes (es ++ [e]) ++ hashes r).Pairwise (· ≠ ·) := by simpa [hashes] using hp
   have hne : ∀ x ∈ es, x.hash ≠ e.hash := fun x hx => (List.pairwise_append.mp hp).2.2 _ (List.mem_map_of_mem hx) _ (.head _)
   have ih := go_merge_loop f hf hn hi (done ++ [e]) r (es ++ [e]) (n + 1) t (by rw [hs]; simp) hp' (by rw [List.length_append]; simp; lia)
   obtain ⟨k, tk, hk, hh⟩ := hi e (by rw [hs]; simp)
   obtain ⟨eh, ek, ev⟩ := e
   dsimp only at hk hh hne
   subst hk hh
   have hlen : ∀ (x : Obj), (pre ++ dct [] 0 :: mid).length = (pre ++ x :: mid).length := fun x => by simp
   rw [List.length_cons, List.range'_succ, List.forIn_cons, hf]
   apply Go.le (m := 20 * (r.length + 1))
   case h =>
     simp only [bind_assoc, pure_bind]
     apply Go.bind (a := (⟨sub⟩ : Array DictEntry)) (s' := sh (pre ++ dct es n :: (mid ++ [dct sub ns])) t os) (p' := pos)
     . rw [hlen (dct es n), shape]; exact go_entries
     have hg : (⟨sub⟩ : Array DictEntry)[done.length]? = some ⟨hashInt k, .int k tk, ev⟩ := by rw [hs]; simp
     rw [hg]
     simp only [bind_assoc, pure_bind]
     apply Go.bind (Go.holding (go_put hne (by lia) hn))
     apply Go.bind (a := ns) (s' := sh (pre ++ dct (es ++ [⟨hashInt k, .int k tk, ev⟩]) (n + 1) :: (mid ++ [dct sub ns])) t os) (p' := pos)
     . rw [hlen (dct (es ++ [⟨hashInt k, .int k tk, ev⟩]) (n + 1)), shape]; exact go_epoch
     rw [if_neg (by simp)]
     simp only [pure_bind]
     have e1 : n + 1 + r.length = n + (r.length + 1) := by lia
     rw [e1, List.length_append, List.append_assoc] at ih
     exact ih
   case hn => lia
end
section
variable {pr : Program} {w : World} {n₀ : Nat} {ann : Option Value} {os : OsState} {pos : Pos}
theorem go_merge {pre mid : List Obj} {sub es : List DictEntry} {n ns t : Nat} (hes : es ≠ []) (hn : n₀ <= pre.length) (h1 : 1 <= pre.length) (hi : IntEnts sub) (hp : (hashes es ++ hashes sub).Pairwise (· ≠ ·)) (hz : es.length + sub.length <= sizeLine) :
   Go pr w n₀ ann (20 * sub.length + 6) (mergeMapping pre.length (.ref (pre ++ dct [] 0 :: mid).length) false) (sh (pre ++ dct es n :: (mid ++ [dct sub ns])) t os) pos () (sh (pre ++ dct (es ++ sub) (n + sub.length) :: (mid ++ [dct sub ns])) t os) pos := by
 have hlen : ∀ (x : Obj), (pre ++ dct [] 0 :: mid).length = (pre ++ x :: mid).length := fun x => by simp
 have hA : ∀ {α : Type} {m : Nat} {x : Addr -> Sem α} {a : α}, Go pr w n₀ ann m (x (pre ++ dct es n :: mid).length) (sh ((pre ++ dct es n :: mid) ++ dct sub ns :: []) t os) pos a (sh ((pre ++ dct es n :: mid) ++ dct sub ns :: []) t os) pos ->
     Go pr w n₀ ann m (x (pre ++ dct [] 0 :: mid).length) (sh (pre ++ dct es n :: (mid ++ [dct sub ns])) t os) pos a (sh (pre ++ dct es n :: (mid ++ [dct sub ns])) t os) pos := fun h => by
   rw [hlen (dct es n), shape]; exact h
 apply Go.le (m := 20 * sub.length + 6)
 case h =>
   unfold mergeMapping
   apply Go.bind (hA (x := fun a => isInstance (.ref a) (.type "dict")) go_isDict)
   rw [if_pos rfl]
   apply Go.bind (hA (x := fun a => specialOf (.ref a) "__iter__") go_iter)
   have ht : (some (Value.builtin "dict.__iter__") == some (Value.builtin "dict.__iter__")) = true := by decide
   rw [ht, pure_bind]
   dsimp only
   have hne : ((pre ++ dct [] 0 :: mid).length == sysModules) = false := by
     rw [beq_eq_false_iff_ne]; show _ ≠ 1; rw [List.length_append, List.length_cons]; lia
   rw [if_neg (by rw [hne]; exact Bool.false_ne_true)]
   apply Go.bind go_entries
   rw [if_neg (by cases es with | nil => exact absurd rfl hes | cons e r => simp)]
   apply Go.bind (hA (x := fun a => dictEntries a) go_entries)
   apply Go.bind (hA (x := fun a => dictEpoch a) go_epoch)
   apply Go.thenPure (PUnit.unit) (hf := by exact rfl)
   have := fun f hf => go_merge_loop (pr := pr) (w := w) (n₀ := n₀) (ann := ann) (os := os) (pos := pos) (pre := pre) (mid := mid) (sub := sub) (ns := ns) f hf hn hi [] sub es n t rfl hp hz
   rw [List.length_nil, <- List.range_eq_range'] at this
   refine this _ (fun i => ?_)
   simp only [Bool.false_eq_true, if_false]
   congr 1
   funext x
   cases x[i]? with
   | none => rfl
   | some e => rfl
 case hn => lia
end
noncomputable abbrev SP := Sem Value × Sem Value
noncomputable def opts (l : List SP) : List (Option (Sem Value) × Sem Value) := l.map fun p => (some p.1, p.2)
section
variable (f : (Option (Sem Value) × Sem Value) -> (Option Addr × List SP) -> Sem (ForInStep (Option Addr × List SP))) (FL : List SP -> Option Addr -> Sem (Option Addr))
 (hf : ∀ (p : SP) (run : List SP) (main : Option Addr), f (some p.1, p.2) (main, run) = if (run ++ [p]).length == 17 then (do let m <- FL (run ++ [p]) main; pure (.yield (m, []))) else pure (.yield (main, run ++ [p])))
include hf
theorem gather1 : ∀ (l run : List SP) (rest : List (Option (Sem Value) × Sem Value)) (main : Option Addr), run.length + l.length < 17 -> forIn (opts l ++ rest) (main, run) f = forIn rest (main, run ++ l) f
 | [], run, rest, main, _ => by simp [opts]
 | p :: l, run, rest, main, h => by
   have h' : run.length + (l.length + 1) < 17 := h
   show forIn ((some p.1, p.2) :: (opts l ++ rest)) (main, run) f = _
   rw [List.forIn_cons, hf, if_neg (by simp; lia), pure_bind]
   have := gather1 l (run ++ [p]) rest main (by rw [List.length_append, List.length_singleton]; lia)
   simpa using this
theorem gather17 (l : List SP) (rest : List (Option (Sem Value) × Sem Value)) (main : Option Addr) (h : l.length = 17) : forIn (opts l ++ rest) (main, []) f = (do let m <- FL l main; forIn rest (m, []) f) := by
 obtain ⟨l', x, rfl⟩ : ∃ l' x, l = l' ++ [x] := by
   rcases List.eq_nil_or_concat l with rfl | ⟨l', x, rfl⟩
   . cases h
   . exact ⟨l', x, by simp⟩
 have hl : l'.length = 16 := by rw [List.length_append, List.length_singleton] at h; lia
 have e : opts (l' ++ [x]) ++ rest = opts l' ++ ((some x.1, x.2) :: rest) := by simp [opts]
 rw [e, gather1 f FL hf l' [] _ main (by simp [hl]), List.nil_append, List.forIn_cons, hf, if_pos (by simp [hl])]
 simp only [bind_assoc, pure_bind]
end
noncomputable def lenOf (cs : List (List (Int × Str))) : Nat := (cs.map List.length).sum
theorem hashes_app (a b : List DictEntry) : hashes (a ++ b) = hashes a ++ hashes b := by simp [hashes]
section
variable {pr : Program} {w : World} {n₀ : Nat} {ann : Option Value} {os : OsState} {pos : Pos}
noncomputable def flushD (run : List SP) (main : Option Addr) : Sem (Option Addr) := do
 if run.isEmpty then return main
 match main with
 | none => return some (<- subDict run)
 | some d =>
   let sub <- holding [.ref d] (subDict run)
   (holding [.ref d, .ref sub] (mergeMapping d (.ref sub) false)).onRaise fun x => do let _ <- holding [.ref d, x] (runValue (.builtin "proto.let_go" {}))
   return some d
theorem go_flush_first {pre : List Obj} {l : List (Int × Str)} {t : Nat} (hp : (l.map (fun e => hashInt e.1)).Pairwise (· ≠ ·)) (hl16 : 15 < l.length) (hz : l.length <= sizeLine) (hn : n₀ <= pre.length) :
   Go pr w n₀ ann (100 * l.length + 20) (flushD (pairsOf pos l) none) (sh pre t os) pos (some pre.length) (sh (pre ++ [dct (entsA t l) l.length]) (t + 3 * l.length) os) pos := by
 unfold flushD
 rw [if_neg (by cases l with | nil => simp at hl16 | cons a r => simp [pairsOf])]
 exact Go.le (Go.bind (go_subDict_long hp hl16 hz hn) Go.pure) (by lia)
theorem go_flush_any {pre mid : List Obj} {es en : List DictEntry} {l : List (Int × Str)} {n t : Nat} (hs : ∀ pre' : List Obj, n₀ <= pre'.length -> Go pr w n₀ ann (60 * l.length + 2) (subDict (pairsOf pos l)) (sh pre' t os) pos pre'.length (sh (pre' ++ [dct en l.length]) (t + 3 * l.length) os) pos)
   (hen : IntEnts en) (hel : en.length = l.length) (hl0 : l ≠ []) (hes : es ≠ []) (hn : n₀ <= pre.length) (h1 : 1 <= pre.length) (hp : (hashes es ++ hashes en).Pairwise (· ≠ ·)) (hz : es.length + en.length <= sizeLine) :
   Go pr w n₀ ann (100 * l.length + 20) (flushD (pairsOf pos l) (some pre.length)) (sh (pre ++ dct es n :: mid) t os) pos (some pre.length) (sh (pre ++ dct (es ++ en) (n + l.length) :: (mid ++ [dct en l.length])) (t + 3 * l.length) os) pos := by
 unfold flushD
 rw [if_neg (by cases l with | nil => exact absurd rfl hl0 | cons a r => simp [pairsOf])]
 have h := hs (pre ++ dct es n :: mid) (by rw [List.length_append]; lia)
 have hlen : (pre ++ dct es n :: mid).length = (pre ++ dct [] 0 :: mid).length := by simp
 have m := go_merge (pr := pr) (w := w) (n₀ := n₀) (ann := ann) (os := os) (pos := pos) (pre := pre) (mid := mid) (sub := en) (es := es) (n := n) (ns := l.length) (t := t + 3 * l.length) hes hn h1 hen hp hz
 rw [hel] at m
 have e : pre ++ dct es n :: mid ++ [dct en l.length] = pre ++ dct es n :: (mid ++ [dct en l.length]) := by simp
 refine Go.le (Go.bind (Go.holding h) (?_ : Go pr w n₀ ann (20 * en.length + 6) _ _ _ _ _ _)) (by lia)
 rw [hlen, e]
 exact Go.le (Go.bind (Go.onRaise (Go.holding m)) Go.pure) (by lia)
theorem go_chunks {pre : List Obj} (f : (Option (Sem Value) × Sem Value) -> (Option Addr × List SP) -> Sem (ForInStep (Option Addr × List SP)))
   (hf : ∀ (p : SP) (run : List SP) (main : Option Addr), f (some p.1, p.2) (main, run) = if (run ++ [p]).length == 17 then (do let m <- flushD (run ++ [p]) main; pure (.yield (m, []))) else pure (.yield (main, run ++ [p])))
   (hn : n₀ <= pre.length) (h1 : 1 <= pre.length) (rest : List (Option (Sem Value) × Sem Value)) (a : Option Addr × List SP) (s' : Shared) (p' : Pos) (q : Nat) :
   ∀ (cs : List (List (Int × Str))) (es : List DictEntry) (n t : Nat) (mid : List Obj), (∀ c ∈ cs, c.length = 17) -> es ≠ [] -> (hashes es ++ hashes (mainOf t cs)).Pairwise (· ≠ ·) -> es.length + lenOf cs <= sizeLine ->
   Go pr w n₀ ann q (forIn rest (some pre.length, []) f) (sh (pre ++ dct (es ++ mainOf t cs) (n + lenOf cs) :: (mid ++ midsOf t cs)) (t + 3 * lenOf cs) os) pos a s' p' ->
   Go pr w n₀ ann (q + 2000 * cs.length) (forIn (opts (pairsOf pos cs.flatten) ++ rest) (some pre.length, []) f) (sh (pre ++ dct es n :: mid) t os) pos a s' p'
 | [], es, n, t, mid, _, _, _, _, h => by
   simpa [mainOf, midsOf, lenOf, pairsOf, opts] using h
 | c :: cs, es, n, t, mid, hc, hes, hp, hz, h => by
   have hc17 := hc c (.head _)
   have e1 : opts (pairsOf pos (c :: cs).flatten) ++ rest = opts (pairsOf pos c) ++ (opts (pairsOf pos cs.flatten) ++ rest) := by simp [opts, pairsOf]
   rw [e1, gather17 f flushD hf _ _ _ (by simp [pairsOf, hc17])]
   have hz' : es.length + (c.length + lenOf cs) <= sizeLine := by simpa [lenOf] using hz
   rw [mainOf, hashes_app, <- List.append_assoc] at hp
   have hp1 := (List.pairwise_append.mp hp).1
   refine Go.le (Go.bind (go_flush_any (l := c) (en := entsA t c) (fun pre' hn' => go_subDict_long ?_ (by lia) (by lia) hn') (entsA_int t c) (entsA_len t c) (by rintro rfl; cases hc17) hes hn h1 hp1 (by rw [entsA_len]; lia)) (?_ : Go pr w n₀ ann (q + 2000 * cs.length) _ _ _ _ _ _)) (by rw [List.length_cons]; lia)
   . have := (List.pairwise_append.mp hp1).2.1
     unfold hashes at this
     rwa [entsA_hash] at this
   refine go_chunks f hf hn h1 rest a s' p' q cs (es ++ entsA t c) (n + c.length) (t + 3 * c.length) (mid ++ [dct (entsA t c) c.length]) (fun x hx => hc x (.tail _ hx)) (by simp [hes]) (by rw [hashes_app]; exact hp) (by rw [List.length_append, entsA_len]; lia) ?_
   have e2 : es ++ entsA t c ++ mainOf (t + 3 * c.length) cs = es ++ mainOf t (c :: cs) := by rw [List.append_assoc]; rfl
   have e3 : n + c.length + lenOf cs = n + lenOf (c :: cs) := by simp [lenOf]; lia
   have e4 : mid ++ [dct (entsA t c) c.length] ++ midsOf (t + 3 * c.length) cs = mid ++ midsOf t (c :: cs) := by rw [List.append_assoc]; rfl
   have e5 : t + 3 * c.length + 3 * lenOf cs = t + 3 * lenOf (c :: cs) := by simp [lenOf]; lia
   rw [e2, e3, e4, e5]
   exact h
theorem mainOf_hash : ∀ (t : Nat) (cs : List (List (Int × Str))), hashes (mainOf t cs) = cs.flatten.map fun e => hashInt e.1
 | _, [] => rfl
 | t, c :: r => by rw [mainOf, hashes_app, mainOf_hash, List.flatten_cons, List.map_append]; unfold hashes; rw [entsA_hash]
theorem mainOf_ne {t : Nat} {c : List (Int × Str)} {cs : List (List (Int × Str))} (h : c ≠ []) : mainOf t (c :: cs) ≠ [] := by
 cases c with
 | nil => exact absurd rfl h
 | cons a r => simp [mainOf, entsA]
theorem mainOf_len : ∀ (t : Nat) (cs : List (List (Int × Str))), (mainOf t cs).length = lenOf cs
 | _, [] => rfl
 | t, c :: r => by rw [mainOf, List.length_append, entsA_len, mainOf_len]; simp [lenOf]
theorem go_gather {pre : List Obj} {c : List (Int × Str)} {cs : List (List (Int × Str))} {r : List (Int × Str)} {t : Nat} (f : (Option (Sem Value) × Sem Value) -> (Option Addr × List SP) -> Sem (ForInStep (Option Addr × List SP)))
   (hf : ∀ (p : SP) (run : List SP) (main : Option Addr), f (some p.1, p.2) (main, run) = if (run ++ [p]).length == 17 then (do let m <- flushD (run ++ [p]) main; pure (.yield (m, []))) else pure (.yield (main, run ++ [p])))
   (hc : ∀ x ∈ c :: cs, x.length = 17) (hr : r.length <= 15) (hn : n₀ <= pre.length) (h1 : 1 <= pre.length)
   (hp : (((c :: cs).flatten ++ r).map (fun e => hashInt e.1)).Pairwise (· ≠ ·)) (hz : lenOf (c :: cs) + r.length <= sizeLine) :
   Go pr w n₀ ann (2000 * (cs.length + 1)) (forIn (opts (pairsOf pos ((c :: cs).flatten ++ r))) (none, []) f) (sh pre t os) pos (some pre.length, pairsOf pos r)
     (sh (pre ++ dct (mainOf t (c :: cs)) (lenOf (c :: cs)) :: midsOf (t + 3 * c.length) cs) (t + 3 * lenOf (c :: cs)) os) pos := by
 have hc17 := hc c (.head _)
 have hz1 : c.length + lenOf cs + r.length <= sizeLine := by simpa [lenOf] using hz
 have hp1 : (hashes (mainOf t (c :: cs)) ++ r.map (fun e => hashInt e.1)).Pairwise (· ≠ ·) := by rw [mainOf_hash, <- List.map_append]; exact hp
 have hpc : (hashes (entsA t c) ++ hashes (mainOf (t + 3 * c.length) cs)).Pairwise (· ≠ ·) := by
   rw [<- hashes_app]; exact (List.pairwise_append.mp hp1).1
 have e1 : opts (pairsOf pos ((c :: cs).flatten ++ r)) = opts (pairsOf pos c) ++ (opts (pairsOf pos cs.flatten) ++ opts (pairsOf pos r)) := by simp [opts, pairsOf]
 have hcn : c ≠ [] := by rintro rfl; cases hc17
 rw [e1, gather17 f flushD hf _ _ none (by simp [pairsOf, hc17])]
 refine Go.le (Go.bind (go_flush_first ?_ (by lia) (by lia) hn) (?_ : Go pr w n₀ ann (0 + 2000 * cs.length) _ _ _ _ _ _)) (by lia)
 . have := (List.pairwise_append.mp hpc).1
   unfold hashes at this
   rwa [entsA_hash] at this
 refine go_chunks f hf hn h1 (opts (pairsOf pos r)) _ _ _ 0 cs (entsA t c) c.length (t + 3 * c.length) [] (fun x hx => hc x (.tail _ hx)) ?_ hpc (by rw [entsA_len]; lia) ?_
 . cases c with
   | nil => exact absurd rfl hcn
   | cons a r => simp [entsA]
 have e2 : entsA t c ++ mainOf (t + 3 * c.length) cs = mainOf t (c :: cs) := rfl
 have e3 : c.length + lenOf cs = lenOf (c :: cs) := by simp [lenOf]
 have e5 : t + 3 * c.length + 3 * lenOf cs = t + 3 * lenOf (c :: cs) := by rw [<- e3]; lia
 rw [e2, e3, e5, List.nil_append]
 have g := gather1 f flushD hf (pairsOf pos r) [] [] (some pre.length) (by simp [pairsOf]; lia)
 rw [List.append_nil, List.nil_append] at g
 rw [g]
 exact Go.pure
theorem go_display {pre : List Obj} {c : List (Int × Str)} {cs : List (List (Int × Str))} {r : List (Int × Str)} {t : Nat} (hc : ∀ x ∈ c :: cs, x.length = 17) (hr0 : r ≠ []) (hr : r.length <= 15) (hn : n₀ <= pre.length) (h1 : 1 <= pre.length)
   (hp : (((c :: cs).flatten ++ r).map (fun e => hashInt e.1)).Pairwise (· ≠ ·)) (hz : lenOf (c :: cs) + r.length <= sizeLine) :
   Go pr w n₀ ann (2000 * (cs.length + 2)) (dictDisplay (opts (pairsOf pos ((c :: cs).flatten ++ r)))) (sh pre t os) pos (.ref pre.length)
     (sh (pre ++ dct (mainOf t (c :: cs) ++ entsB (t + 3 * lenOf (c :: cs)) r) (lenOf (c :: cs) + r.length) :: (midsOf (t + 3 * c.length) cs ++ [dct (entsB (t + 3 * lenOf (c :: cs)) r) r.length])) (t + 3 * lenOf (c :: cs) + 3 * r.length) os) pos := by
 have hc17 := hc c (.head _)
 have hcn : c ≠ [] := by rintro rfl; cases hc17
 have hp1 : (hashes (mainOf t (c :: cs)) ++ hashes (entsB (t + 3 * lenOf (c :: cs)) r)).Pairwise (· ≠ ·) := by
   rw [mainOf_hash]; unfold hashes; rw [entsB_hash, <- List.map_append]; exact hp
 have hpr : (r.map fun e => hashInt e.1).Pairwise (· ≠ ·) := by
   rw [List.map_append] at hp; exact (List.pairwise_append.mp hp).2.1
 unfold dictDisplay
 dsimp only
 refine Go.le (Go.bind (go_gather _ (fun p run main => ?_) hc hr hn h1 hp hz) (?_ : Go pr w n₀ ann (100 * r.length + 20) _ _ _ _ _ _)) (by lia)
 . cases main <;> rfl
 . apply Go.thenPure (some pre.length) (hf := by exact rfl)
   exact go_flush_any (fun pre' hn' => go_subDict_short hpr hr (by lia) hn') (entsB_int _ _) (entsB_len _ _) hr0 (mainOf_ne hcn) hn h1 hp1 (by rw [mainOf_len, entsB_len]; exact hz)
end
noncomputable abbrev pw : Program := pw_sr0088_01
noncomputable abbrev qp : Program := pw_sr0088_01
noncomputable abbrev qtab := PySem.W.Fast.tw14364793385576792824
noncomputable abbrev qseg := @PySem.W.Fast.tw10110043849684766642
noncomputable abbrev qexecs := @PySem.W.Fast.tw12563942051412417395
theorem eqp : pw_sr0088_01 = qp := rfl
theorem eqtab : treeTable = qtab := PySem.W.Fast.te14364793385576792824
theorem eqseg : @segRunT = @qseg := PySem.W.Fast.te10110043849684766642
theorem eqexecs : @execs = @qexecs := PySem.W.Fast.te12563942051412417395
noncomputable def bd (p : Program) : List Stmt := behindTheImports p
noncomputable def envT (p : Program) : Env := { scope := p.main.scope, locals := mainNs, globals := mainNs, cells := [], code := .ref 30, frame := some 31 }
noncomputable def p0 : Pos := ⟨0, 0, 0, 0⟩
noncomputable def thr (p : Program) (ex : List Stmt -> Env -> Sem Flow) (l : List Stmt) (pos : Pos) : Thread := ⟨(ex l (envT p)).wrap doneF deadEnd id id, .body (bd p) (envT p), pos, [topFrame p0]⟩
noncomputable def stt (t : BT) (n k : Nat) (os : OsState) : SharedT := ⟨t, n, {}, #[], {}, k, os⟩
noncomputable abbrev qann : Option Value := some (.ref 6)
noncomputable def SegP (p : Program) (l : List Stmt) (n : Nat) (t t' : Program -> Params -> BT) (m m' k k' : Nat) (pos pos' : Pos) (w : World) : Prop :=
 ∀ os : OsState, segRunT treeTable p w 28 qann 1 n (stt (t p w.params) m k os) (thr p execs l pos) = some (.next, stt (t' p w.params) m' k' os, .body (bd p) (envT p), pos')
noncomputable def SegQ (l : List Stmt) (n : Nat) (t t' : Program -> Params -> BT) (m m' k k' : Nat) (pos pos' : Pos) (w : World) : Prop :=
 ∀ os : OsState, qseg qtab qp w 28 qann 1 n (stt (t qp w.params) m k os) (thr qp qexecs l pos) = some (.next, stt (t' qp w.params) m' k' os, .body (bd qp) (envT qp), pos')
theorem seg_of {l : Program -> List Stmt} {n : Nat} {t t' : Program -> Params -> BT} {m m' k k' : Nat} {pos pos' : Pos} {w : World} (h : SegQ (l qp) n t t' m m' k k' pos pos' w) : SegP pw (l pw) n t t' m m' k k' pos pos' w := by
 have e : ∀ p : Program, p = qp -> SegP p (l p) n t t' m m' k k' pos pos' w := by
   intro p hp
   subst hp
   unfold SegP
   rw [eqtab, eqseg, eqexecs]
   exact h
 exact e pw eqp
noncomputable def pt (a b : Nat) (p : Program) : List Stmt := ((bd p).drop a).take b
theorem segA1 (w : World) : SegQ (pt 0 6 qp) 295 tr2 tr8 32 62 282 395 p0 ⟨9, 0, 17, 20⟩ w := fun os => by kernel_rfl
theorem segA2 (w : World) : SegQ (pt 6 1 qp) 727 tr8 tr9 62 187 395 552 ⟨9, 0, 17, 20⟩ ⟨18, 0, 99, 93⟩ w := fun os => by kernel_rfl
theorem segA3 (w : World) : SegQ (pt 7 5 qp) 94 tr9 tr14 187 201 552 580 ⟨18, 0, 99, 93⟩ ⟨142, 0, 142, 8⟩ w := fun os => by kernel_rfl
noncomputable abbrev SetP (w : World) : Prop := SegQ (pt 12 1 qp) 999 tr14 tr15 201 212 580 640 ⟨142, 0, 142, 8⟩ ⟨143, 0, 143, 6⟩ w
theorem segB00 (w : World) : SetP ((w.withFollow "special-get-raises" false).withFollow "set-order" false) := fun os => by kernel_rfl
theorem segB01 (w : World) : SetP ((w.withFollow "special-get-raises" false).withFollow "set-order" true) := fun os => by kernel_rfl
theorem segB10 (w : World) : SetP ((w.withFollow "special-get-raises" true).withFollow "set-order" false) := fun os => by kernel_rfl
theorem segB11 (w : World) : SetP ((w.withFollow "special-get-raises" true).withFollow "set-order" true) := fun os => by kernel_rfl
theorem segB (w : World) : SetP w := by
 have h : ∀ a b : Bool, SetP ((w.withFollow "special-get-raises" a).withFollow "set-order" b) := fun a b => by
   cases a <;> cases b
   . exact segB00 w
   . exact segB01 w
   . exact segB10 w
   . exact segB11 w
 have h1 := h (w.params.followText "special-get-raises") (w.params.followText "set-order")
 rw [World.withFollow_self, World.withFollow_self] at h1
 exact h1
theorem segC (w : World) : SegQ (pt 13 1 qp) 30 tr15 tr16 212 219 640 647 ⟨143, 0, 143, 6⟩ ⟨144, 0, 145, 30⟩ w := fun os => by kernel_rfl
theorem segE (w : World) : SegQ (pt 15 7 qp) 186 tr17 tr24 258 294 2598 2650 ⟨146, 0, 146, 13⟩ ⟨193, 0, 225, 15⟩ w := fun os => by kernel_rfl
noncomputable def x0 : PySem.Expr := .Constant .none 0 p0
noncomputable def asT : Stmt -> List PySem.Expr
 | .Assign t _ _ => t
 | _ => []
noncomputable def asV : Stmt -> PySem.Expr
 | .Assign _ v _ => v
 | _ => x0
noncomputable def asP : Stmt -> Pos
 | .Assign _ _ p => p
 | _ => p0
noncomputable def dK : PySem.Expr -> List (Option PySem.Expr)
 | .Dict k _ _ => k
 | _ => []
noncomputable def dV : PySem.Expr -> List PySem.Expr
 | .Dict _ v _ => v
 | _ => []
noncomputable def dP : PySem.Expr -> Pos
 | .Dict _ _ p => p
 | _ => p0
noncomputable def st15 (p : Program) : Stmt := stm p 15
noncomputable def dp15 (p : Program) : Pos := dP (asV (st15 p))
theorem st15_eq : st15 pw = .Assign (asT (st15 pw)) (.Dict (dK (asV (st15 pw))) (dV (asV (st15 pw))) (dp15 pw)) (asP (st15 pw)) := by kernel_rfl
noncomputable def rest15 (p : Program) (v : Value) : Sem Flow := do
 assignAll v ((assignEach (asT (st15 p)) (envT p)).map (·.2))
 pure .next
theorem shape15 : (evalEachOpt (dK (asV (st15 pw))) (envT pw)).zip ((evalEach (dV (asV (st15 pw))) (envT pw)).map fun v => do let x <- v; standAt (dp15 pw); pure x) = opts (pairsOf (dp15 pw) (b3tab pw)) := by kernel_rfl
theorem exec15 : exec (st15 pw) (envT pw) = ((standAt (asP (st15 pw)) >>= fun _ => standAt (dp15 pw) >>= fun _ => dictDisplay (opts (pairsOf (dp15 pw) (b3tab pw)))) >>= fun v => rest15 pw v) := by
 refine (congrArg (fun s => exec s (envT pw)) st15_eq).trans ?_
 show exec (.Assign (asT (st15 pw)) (.Dict (dK (asV (st15 pw))) (dV (asV (st15 pw))) (dp15 pw)) (asP (st15 pw))) (envT pw) = _
 rw [arm_exec_Assign]
 have h1 : swapsWithSole (asT (st15 pw)) (.Dict (dK (asV (st15 pw))) (dV (asV (st15 pw))) (dp15 pw)) (asP (st15 pw)).line (envT pw) = pure false := by kernel_rfl
 have h2 : swappedStores (asT (st15 pw)) (.Dict (dK (asV (st15 pw))) (dV (asV (st15 pw))) (dp15 pw)) (envT pw) = pure none := by kernel_rfl
 rw [h1, h2, arm_eval_Dict, shape15]
 simp only [pure_bind, bind_assoc, Bool.false_eq_true, if_false]
 rfl
theorem tab15 : b3tab pw = (b3c pw :: b3cs pw).flatten ++ b3r pw := by kernel_rfl
theorem len15 : ((b3c pw :: b3cs pw).all (·.length == 17) && lenOf (b3c pw :: b3cs pw) == 646 && (b3r pw).length == 4 && (b3cs pw).length == 37) = true := by kernel_rfl
noncomputable def incr : List Int -> Bool
 | a :: b :: r => decide (a < b) && incr (b :: r)
 | _ => true
theorem incr_pair : ∀ {l : List Int}, incr l = true -> l.Pairwise (· < ·)
 | [], _ => .nil
 | [a], _ => List.pairwise_singleton _ _
 | a :: b :: r, h => by
   obtain ⟨h1, h2⟩ := Bool.and_eq_true_iff.mp h
   have ih := incr_pair h2
   have h1 := of_decide_eq_true h1
   refine .cons (fun x hx => ?_) ih
   rcases List.mem_cons.mp hx with rfl | hx
   . exact h1
   . exact Int.lt_trans h1 ((List.pairwise_cons.mp ih).1 x hx)
theorem incr15 : incr ((b3tab pw).map fun e => hashInt e.1) = true := by kernel_rfl
theorem pre_len (P : Params) : ((tr16 pw P).list 219).length = 219 := by simp [BT.list]
theorem fin15 (P : Params) : (tr16 pw P).list 219 ++ dct (mainOf 647 (b3c pw :: b3cs pw) ++ entsB (647 + 3 * lenOf (b3c pw :: b3cs pw)) (b3r pw)) (lenOf (b3c pw :: b3cs pw) + (b3r pw).length) :: (midsOf (647 + 3 * (b3c pw).length) (b3cs pw) ++ [dct (entsB (647 + 3 * lenOf (b3c pw :: b3cs pw)) (b3r pw)) (b3r pw).length]) = (tr16b pw P).list 258 := by kernel_rfl
theorem tok15 : 647 + 3 * lenOf (b3c pw :: b3cs pw) + 3 * (b3r pw).length = 2597 := by kernel_rfl
theorem go15 (w : World) (os : OsState) : Go pw w 28 qann 80002 (standAt (asP (st15 pw)) >>= fun _ => standAt (dp15 pw) >>= fun _ => dictDisplay (opts (pairsOf (dp15 pw) (b3tab pw)))) (stt (tr16 pw w.params) 219 647 os).abs ⟨144, 0, 145, 30⟩ (.ref 219) (stt (tr16b pw w.params) 258 2597 os).abs (dp15 pw) := by
 have hl := len15
 simp only [Bool.and_eq_true, beq_iff_eq, List.all_eq_true] at hl
 obtain ⟨⟨⟨h1, h2⟩, h3⟩, h4⟩ := hl
 have hp : (((b3c pw :: b3cs pw).flatten ++ b3r pw).map (fun e => hashInt e.1)).Pairwise (· ≠ ·) := by
   rw [<- tab15]
   exact (incr_pair incr15).imp fun h => Int.ne_of_lt h
 have g := go_display (pr := pw) (w := w) (n₀ := 28) (ann := qann) (os := os) (pos := dp15 pw) (pre := (tr16 pw w.params).list 219) (c := b3c pw) (cs := b3cs pw) (r := b3r pw) (t := 647) h1 (by intro e; rw [e] at h3; cases h3) (by lia) (by rw [pre_len]; lia) (by rw [pre_len]; lia) hp (by rw [h2, h3]; decide)
 rw [<- tab15, fin15, tok15, pre_len, h4] at g
 exact Go.le (Go.bind Go.standAt (Go.bind Go.standAt g)) (by lia)
noncomputable abbrev cB (p : Program) : Code := .body (bd p) (envT p)
theorem segR (w : World) (os : OsState) : qseg qtab qp w 28 qann 1 30 (stt (tr16b qp w.params) 258 2597 os) ⟨(rest15 qp (.ref 219)).wrap doneF deadEnd id id, cB qp, dp15 qp, [topFrame p0]⟩ = some (.next, stt (tr17 qp w.params) 258 2598 os, cB qp, ⟨146, 0, 146, 13⟩) := by kernel_rfl
theorem segR' (w : World) (os : OsState) : segRunT treeTable pw w 28 qann 1 30 (stt (tr16b pw w.params) 258 2597 os) ⟨(rest15 pw (.ref 219)).wrap doneF deadEnd id id, cB pw, dp15 pw, [topFrame p0]⟩ = some (.next, stt (tr17 pw w.params) 258 2598 os, cB pw, ⟨146, 0, 146, 13⟩) := by
 have e : ∀ p : Program, p = qp -> segRunT treeTable p w 28 qann 1 30 (stt (tr16b p w.params) 258 2597 os) ⟨(rest15 p (.ref 219)).wrap doneF deadEnd id id, cB p, dp15 p, [topFrame p0]⟩ = some (.next, stt (tr17 p w.params) 258 2598 os, cB p, ⟨146, 0, 146, 13⟩) := by
   intro p hp
   subst hp
   rw [eqtab, eqseg]
   exact segR w os
 exact e pw eqp
noncomputable abbrev TRn (w : World) := topRun treeTable pw w 28 qann
theorem step_piece {w : World} {l rest : List Stmt} {n N : Nat} {t t' : Program -> Params -> BT} {m m' k k' : Nat} {pos pos' : Pos} {os : OsState} {r : Shared} (h : SegP pw l n t t' m m' k k' pos pos' w)
   (q : TRn w N (stt (t' pw w.params) m' k' os).abs (restOf rest (envT pw) (cB pw) pos' [topFrame p0]) = some r) :
   TRn w (n + N) (stt (t pw w.params) m k os).abs (restOf (l ++ rest) (envT pw) (cB pw) pos [topFrame p0]) = some r :=
 piece_app (segRun_of (h os)) q
theorem step_dict {w : World} {rest : List Stmt} {N : Nat} {os : OsState} {r : Shared}
   (q : TRn w N (stt (tr17 pw w.params) 258 2598 os).abs (restOf rest (envT pw) (cB pw) ⟨146, 0, 146, 13⟩ [topFrame p0]) = some r) :
   TRn w (80002 + (30 + N)) (stt (tr16 pw w.params) 219 647 os).abs (restOf (st15 pw :: rest) (envT pw) (cB pw) ⟨144, 0, 145, 30⟩ [topFrame p0]) = some r := by
 unfold restOf
 rw [execs_cons_wrap, exec15, Sem.bind_eq_wrap' _ (fun v => rest15 pw v), Sem.wrap_wrap]
 have g := go15 w os (fun v => (rest15 pw v).wrap (fun f => match f with | .next => (execs rest (envT pw)).wrap doneF (leaveH (envT pw)) id id | f => doneF f) (leaveH (envT pw)) id id)
   (fun e => (Sem.raise e : Sem Flow).wrap (fun f => match f with | .next => (execs rest (envT pw)).wrap doneF (leaveH (envT pw)) id id | f => doneF f) (leaveH (envT pw)) id id) (fun x => id (id x)) (fun x => id (id x)) (cB pw) [topFrame p0] (30 + N) r
 rw [table_eq_tree] at g
 refine g ?_
 obtain ⟨a, ha, hN⟩ := seg_top (tb := treeTable) (p := pw) (w := w) (n₀ := 28) (ann := qann) (res := id) (K' := fun f => match f with | .next => (execs rest (envT pw)).wrap doneF (leaveH (envT pw)) id id | f => doneF f) (H' := leaveH (envT pw)) (gd := id) (lv := id) (B := [topFrame p0]) rfl 30
   (stt (tr16b pw w.params) 258 2597 os).abs ⟨(rest15 pw (.ref 219)).wrap doneF deadEnd id id, cB pw, dp15 pw, [topFrame p0]⟩
   ⟨(rest15 pw (.ref 219)).wrap (fun f => match f with | .next => (execs rest (envT pw)).wrap doneF (leaveH (envT pw)) id id | f => doneF f) (leaveH (envT pw)) id id, cB pw, dp15 pw, [topFrame p0]⟩ _ _ _ _
   ⟨rfl, rfl, .inl ⟨rfl, rfl, _, rfl, rfl⟩⟩ (segRun_of (segR' w os))
 obtain rfl : a = .next := ha
 exact hN N r q
theorem parts : bd pw = pt 0 6 pw ++ (pt 6 1 pw ++ (pt 7 5 pw ++ (pt 12 1 pw ++ (pt 13 1 pw ++ (st15 pw :: (pt 15 7 pw ++ [])))))) := by kernel_rfl
theorem fin_run (w : World) (s : Shared) (c : Code) (q : Pos) : TRn w 3 s ⟨doneF .next, c, q, [topFrame p0]⟩ = some s := by
 obtain ⟨h, g, d, k, os⟩ := s
 kernel_rfl
noncomputable abbrev NR : Nat := 295 + (727 + (94 + (999 + (30 + (80002 + (30 + (186 + 3)))))))
theorem rest_run (w : World) (os : OsState) : TRn w NR (stt (tr2 pw w.params) 32 282 os).abs (restOf (bd pw) (envT pw) (cB pw) p0 [topFrame p0]) = some (stt (tr24 pw w.params) 294 2650 os).abs := by
 rw [parts]
 refine step_piece (seg_of (l := pt 0 6) (segA1 w)) ?_
 refine step_piece (seg_of (l := pt 6 1) (segA2 w)) ?_
 refine step_piece (seg_of (l := pt 7 5) (segA3 w)) ?_
 refine step_piece (seg_of (l := pt 12 1) (segB w)) ?_
 refine step_piece (seg_of (l := pt 13 1) (segC w)) ?_
 refine step_dict ?_
 refine step_piece (seg_of (l := pt 15 7) (segE w)) ?_
 exact piece_nil (fin_run w _ _ _)
noncomputable abbrev qtopGo := @PySem.W.Fast.tw15667345088766844465
noncomputable abbrev qden := @PySem.W.Fast.tw11892475500146522536
noncomputable abbrev qimp := @PySem.W.Fast.tw10274390034422433532
noncomputable abbrev qstart := @PySem.W.Fast.tw1435165496053646825
noncomputable abbrev qfence := @PySem.W.Fast.tw14289696077712309145
theorem eqtopGo : @topGo = @qtopGo := PySem.W.Fast.te15667345088766844465
theorem eqden : @denote = @qden := PySem.W.Fast.te11892475500146522536
theorem eqimp : @importEnds = @qimp := PySem.W.Fast.te10274390034422433532
theorem eqstart : @start = @qstart := PySem.W.Fast.te1435165496053646825
theorem eqfence : @fenceModules? = @qfence := PySem.W.Fast.te14289696077712309145
noncomputable def H0 (p : Program) (P : Params) : Heap := absHeap (tr0 p P) 28 {}
noncomputable def He (p : Program) (P : Params) : Heap := absHeap (tre p P) 28 {}
noncomputable def H1 (p : Program) (P : Params) : Heap := absHeap (tr24 p P) 294 {}
theorem preQ (w : World) (os : OsState) : qtopGo qtab qp w 28 qann 12 ⟨H0 qp w.params, #[], {}, 276, os⟩ (topStub qp) = some ((stt (tr2 qp w.params) 32 282 os).abs, ⟨qden qtab (cB qp), cB qp, p0, [topFrame p0]⟩) := by kernel_rfl
theorem preG (w : World) (os : OsState) : topGo treeTable pw w 28 qann 12 ⟨H0 pw w.params, #[], {}, 276, os⟩ (topStub pw) = some ((stt (tr2 pw w.params) 32 282 os).abs, ⟨denote treeTable (cB pw), cB pw, p0, [topFrame p0]⟩) := by
 have e : ∀ p : Program, p = qp -> topGo treeTable p w 28 qann 12 ⟨H0 p w.params, #[], {}, 276, os⟩ (topStub p) = some ((stt (tr2 p w.params) 32 282 os).abs, ⟨denote treeTable (cB p), cB p, p0, [topFrame p0]⟩) := by
   intro p hp
   subst hp
   rw [eqtab, eqtopGo, eqden]
   exact preQ w os
 exact e pw eqp
theorem blockQ (w : World) (s : Shared) : segRun treeTable pw w 28 qann 1 1 s (blockOf (bd pw) (envT pw) (cB pw) p0 [topFrame p0]) = some (.next, s, cB pw, p0) := by kernel_rfl
theorem all_run (w : World) (os : OsState) : TRn w (12 + (1 + NR)) ⟨H0 pw w.params, #[], {}, 276, os⟩ (topStub pw) = some ⟨H1 pw w.params, #[], {}, 2650, os⟩ :=
 go_top (preG w os) (piece_block (blockQ w _) (rest_run w os))
theorem openQ (w : World) : qimp qtab (opening qp) w 800 (qstart (opening qp)).1 (qstart (opening qp)).2 = some ⟨He qp w.params, #[], {}, 276, (qstart (opening qp)).1.os⟩ := by kernel_rfl
theorem fenceQ (w : World) (os : OsState) : (qfence qp ⟨He qp w.params, #[], {}, 276, os⟩).map (fun s => (s.heap, s.gens, s.drawn, s.toks)) = some (H0 qp w.params, #[], {}, 276) := by kernel_rfl
theorem sizeQ (w : World) : ((H0 pw w.params).isNs mainGlobals && (#[] : Array GenState).size == 0, (H0 pw w.params).objs.size, (H0 pw w.params).nsMap mainGlobals "__annotations__") = (true, 28, qann) := by kernel_rfl
noncomputable abbrev NN : Nat := 200000
theorem open_all : ∀ w : World, (fencedOpening treeTable pw w NN).map (fun s => (s.heap, s.gens, s.drawn, s.toks)) = some (H0 pw w.params, #[], {}, 276) := by
 have e : ∀ p : Program, p = qp -> ∀ w : World, (fencedOpening treeTable p w NN).map (fun s => (s.heap, s.gens, s.drawn, s.toks)) = some (H0 p w.params, #[], {}, 276) := by
   intro p hp
   subst hp
   refine open_cut (M := 800) (He := He qp) (H₀ := H0 qp) (ge := #[]) (g₀ := #[]) (de := {}) (d₀ := {}) (ke := 276) (k₀ := 276) (fun w => ?_) rfl (fun w => ?_)
   . rw [eqtab, eqimp, eqstart]
     exact openQ w
   . rw [eqfence]
     exact funext fun os => fenceQ w os
 exact e pw eqp
end Mine
end
section
open PySem PySem.W PyProof.Rows
namespace Mine
noncomputable def K (P : Params) : Frag :=
(nat_lit 3, o3 pw_sr0088_01 P) ::
(nat_lit 32, o32 pw_sr0088_01 P) ::
(nat_lit 33, o33 pw_sr0088_01 P) ::
(nat_lit 34, o34 pw_sr0088_01 P) ::
(nat_lit 35, o35 pw_sr0088_01 P) ::
(nat_lit 36, o36 pw_sr0088_01 P) ::
(nat_lit 37, o37 pw_sr0088_01 P) ::
(nat_lit 38, o38 pw_sr0088_01 P) ::
(nat_lit 42, o42 pw_sr0088_01 P) ::
(nat_lit 43, o43 pw_sr0088_01 P) ::
(nat_lit 47, o47 pw_sr0088_01 P) ::
(nat_lit 48, o48 pw_sr0088_01 P) ::
(nat_lit 52, o52 pw_sr0088_01 P) ::
(nat_lit 53, o53 pw_sr0088_01 P) ::
(nat_lit 54, o54 pw_sr0088_01 P) ::
(nat_lit 55, o55 pw_sr0088_01 P) ::
(nat_lit 56, o56 pw_sr0088_01 P) ::
(nat_lit 57, o57 pw_sr0088_01 P) ::
(nat_lit 58, o58 pw_sr0088_01 P) ::
(nat_lit 59, o59 pw_sr0088_01 P) ::
(nat_lit 60, o60 pw_sr0088_01 P) ::
(nat_lit 61, o61 pw_sr0088_01 P) ::
(nat_lit 69, o69 pw_sr0088_01 P) ::
(nat_lit 70, o70 pw_sr0088_01 P) ::
(nat_lit 71, o71 pw_sr0088_01 P) ::
(nat_lit 72, o72 pw_sr0088_01 P) ::
(nat_lit 73, o73 pw_sr0088_01 P) ::
(nat_lit 74, o74 pw_sr0088_01 P) ::
(nat_lit 75, o75 pw_sr0088_01 P) ::
(nat_lit 76, o76 pw_sr0088_01 P) ::
(nat_lit 77, o77 pw_sr0088_01 P) ::
(nat_lit 78, o78 pw_sr0088_01 P) ::
(nat_lit 79, o79 pw_sr0088_01 P) ::
(nat_lit 80, o80 pw_sr0088_01 P) ::
(nat_lit 81, o81 pw_sr0088_01 P) ::
(nat_lit 82, o82 pw_sr0088_01 P) ::
(nat_lit 83, o83 pw_sr0088_01 P) ::
(nat_lit 84, o84 pw_sr0088_01 P) ::
(nat_lit 85, o85 pw_sr0088_01 P) ::
(nat_lit 86, o86 pw_sr0088_01 P) ::
(nat_lit 87, o87 pw_sr0088_01 P) ::
(nat_lit 88, o88 pw_sr0088_01 P) ::
(nat_lit 89, o89 pw_sr0088_01 P) ::
(nat_lit 90, o90 pw_sr0088_01 P) ::
(nat_lit 91, o91 pw_sr0088_01 P) ::
(nat_lit 92, o92 pw_sr0088_01 P) ::
(nat_lit 93, o93 pw_sr0088_01 P) ::
(nat_lit 94, o94 pw_sr0088_01 P) ::
(nat_lit 95, o95 pw_sr0088_01 P) ::
(nat_lit 96, o96 pw_sr0088_01 P) ::
(nat_lit 97, o97 pw_sr0088_01 P) ::
(nat_lit 98, o98 pw_sr0088_01 P) ::
(nat_lit 99, o99 pw_sr0088_01 P) ::
(nat_lit 100, o100 pw_sr0088_01 P) ::
(nat_lit 101, o101 pw_sr0088_01 P) ::
(nat_lit 102, o102 pw_sr0088_01 P) ::
(nat_lit 103, o103 pw_sr0088_01 P) ::
(nat_lit 104, o104 pw_sr0088_01 P) ::
(nat_lit 105, o105 pw_sr0088_01 P) ::
(nat_lit 106, o106 pw_sr0088_01 P) ::
(nat_lit 107, o107 pw_sr0088_01 P) ::
(nat_lit 108, o108 pw_sr0088_01 P) ::
(nat_lit 109, o109 pw_sr0088_01 P) ::
(nat_lit 110, o110 pw_sr0088_01 P) ::
(nat_lit 111, o111 pw_sr0088_01 P) ::
(nat_lit 112, o112 pw_sr0088_01 P) ::
(nat_lit 113, o113 pw_sr0088_01 P) ::
(nat_lit 114, o114 pw_sr0088_01 P) ::
(nat_lit 115, o115 pw_sr0088_01 P) ::
(nat_lit 116, o116 pw_sr0088_01 P) ::
(nat_lit 117, o117 pw_sr0088_01 P) ::
(nat_lit 118, o118 pw_sr0088_01 P) ::
(nat_lit 119, o119 pw_sr0088_01 P) ::
(nat_lit 120, o120 pw_sr0088_01 P) ::
(nat_lit 121, o121 pw_sr0088_01 P) ::
(nat_lit 122, o122 pw_sr0088_01 P) ::
(nat_lit 123, o123 pw_sr0088_01 P) ::
(nat_lit 124, o124 pw_sr0088_01 P) ::
(nat_lit 125, o125 pw_sr0088_01 P) ::
(nat_lit 126, o126 pw_sr0088_01 P) ::
(nat_lit 127, o127 pw_sr0088_01 P) ::
(nat_lit 128, o128 pw_sr0088_01 P) ::
(nat_lit 129, o129 pw_sr0088_01 P) ::
(nat_lit 130, o130 pw_sr0088_01 P) ::
(nat_lit 131, o131 pw_sr0088_01 P) ::
(nat_lit 132, o132 pw_sr0088_01 P) ::
(nat_lit 133, o133 pw_sr0088_01 P) ::
(nat_lit 134, o134 pw_sr0088_01 P) ::
(nat_lit 135, o135 pw_sr0088_01 P) ::
(nat_lit 136, o136 pw_sr0088_01 P) ::
(nat_lit 137, o137 pw_sr0088_01 P) ::
(nat_lit 138, o138 pw_sr0088_01 P) ::
(nat_lit 139, o139 pw_sr0088_01 P) ::
(nat_lit 140, o140 pw_sr0088_01 P) ::
(nat_lit 141, o141 pw_sr0088_01 P) ::
(nat_lit 142, o142 pw_sr0088_01 P) ::
(nat_lit 143, o143 pw_sr0088_01 P) ::
(nat_lit 144, o144 pw_sr0088_01 P) ::
(nat_lit 145, o145 pw_sr0088_01 P) ::
(nat_lit 146, o146 pw_sr0088_01 P) ::
(nat_lit 147, o147 pw_sr0088_01 P) ::
(nat_lit 148, o148 pw_sr0088_01 P) ::
(nat_lit 149, o149 pw_sr0088_01 P) ::
(nat_lit 150, o150 pw_sr0088_01 P) ::
(nat_lit 151, o151 pw_sr0088_01 P) ::
(nat_lit 152, o152 pw_sr0088_01 P) ::
(nat_lit 153, o153 pw_sr0088_01 P) ::
(nat_lit 154, o154 pw_sr0088_01 P) ::
(nat_lit 155, o155 pw_sr0088_01 P) ::
(nat_lit 156, o156 pw_sr0088_01 P) ::
(nat_lit 157, o157 pw_sr0088_01 P) ::
(nat_lit 158, o158 pw_sr0088_01 P) ::
(nat_lit 159, o159 pw_sr0088_01 P) ::
(nat_lit 160, o160 pw_sr0088_01 P) ::
(nat_lit 161, o161 pw_sr0088_01 P) ::
(nat_lit 162, o162 pw_sr0088_01 P) ::
(nat_lit 163, o163 pw_sr0088_01 P) ::
(nat_lit 164, o164 pw_sr0088_01 P) ::
(nat_lit 165, o165 pw_sr0088_01 P) ::
(nat_lit 166, o166 pw_sr0088_01 P) ::
(nat_lit 167, o167 pw_sr0088_01 P) ::
(nat_lit 168, o168 pw_sr0088_01 P) ::
(nat_lit 169, o169 pw_sr0088_01 P) ::
(nat_lit 170, o170 pw_sr0088_01 P) ::
(nat_lit 171, o171 pw_sr0088_01 P) ::
(nat_lit 172, o172 pw_sr0088_01 P) ::
(nat_lit 173, o173 pw_sr0088_01 P) ::
(nat_lit 174, o174 pw_sr0088_01 P) ::
(nat_lit 175, o175 pw_sr0088_01 P) ::
(nat_lit 176, o176 pw_sr0088_01 P) ::
(nat_lit 177, o177 pw_sr0088_01 P) ::
(nat_lit 178, o178 pw_sr0088_01 P) ::
(nat_lit 179, o179 pw_sr0088_01 P) ::
(nat_lit 180, o180 pw_sr0088_01 P) ::
(nat_lit 181, o181 pw_sr0088_01 P) ::
(nat_lit 182, o182 pw_sr0088_01 P) ::
(nat_lit 183, o183 pw_sr0088_01 P) ::
(nat_lit 184, o184 pw_sr0088_01 P) ::
(nat_lit 187, o187 pw_sr0088_01 P) ::
(nat_lit 188, o188 pw_sr0088_01 P) ::
(nat_lit 189, o189 pw_sr0088_01 P) ::
(nat_lit 190, o190 pw_sr0088_01 P) ::
(nat_lit 191, o191 pw_sr0088_01 P) ::
(nat_lit 192, o192 pw_sr0088_01 P) ::
(nat_lit 193, o193 pw_sr0088_01 P) ::
(nat_lit 194, o194 pw_sr0088_01 P) ::
(nat_lit 195, o195 pw_sr0088_01 P) ::
(nat_lit 196, o196 pw_sr0088_01 P) ::
(nat_lit 197, o197 pw_sr0088_01 P) ::
(nat_lit 198, o198 pw_sr0088_01 P) ::
(nat_lit 199, o199 pw_sr0088_01 P) ::
(nat_lit 200, o200 pw_sr0088_01 P) ::
(nat_lit 208, o208 pw_sr0088_01 P) ::
(nat_lit 212, o212 pw_sr0088_01 P) ::
(nat_lit 213, o213 pw_sr0088_01 P) ::
(nat_lit 214, o214 pw_sr0088_01 P) ::
(nat_lit 215, o215 pw_sr0088_01 P) ::
(nat_lit 216, o216 pw_sr0088_01 P) ::
(nat_lit 217, o217 pw_sr0088_01 P) ::
(nat_lit 218, o218 pw_sr0088_01 P) ::
(nat_lit 219, o219 pw_sr0088_01 P) ::
(nat_lit 258, o258 pw_sr0088_01 P) ::
(nat_lit 259, o259 pw_sr0088_01 P) ::
(nat_lit 260, o260 pw_sr0088_01 P) ::
(nat_lit 261, o261 pw_sr0088_01 P) ::
(nat_lit 262, o262 pw_sr0088_01 P) ::
(nat_lit 263, o263 pw_sr0088_01 P) ::
(nat_lit 264, o264 pw_sr0088_01 P) ::
(nat_lit 265, o265 pw_sr0088_01 P) ::
(nat_lit 266, o266 pw_sr0088_01 P) ::
(nat_lit 267, o267 pw_sr0088_01 P) ::
(nat_lit 268, o268 pw_sr0088_01 P) ::
(nat_lit 269, o269 pw_sr0088_01 P) ::
(nat_lit 270, o270 pw_sr0088_01 P) ::
(nat_lit 271, o271 pw_sr0088_01 P) ::
(nat_lit 272, o272 pw_sr0088_01 P) ::
(nat_lit 273, o273 pw_sr0088_01 P) ::
(nat_lit 274, o274 pw_sr0088_01 P) ::
(nat_lit 275, o275 pw_sr0088_01 P) ::
(nat_lit 276, o276 pw_sr0088_01 P) ::
(nat_lit 277, o277 pw_sr0088_01 P) ::
(nat_lit 278, o278 pw_sr0088_01 P) ::
(nat_lit 279, o279 pw_sr0088_01 P) ::
(nat_lit 280, o280 pw_sr0088_01 P) ::
(nat_lit 281, o281 pw_sr0088_01 P) ::
(nat_lit 282, o282 pw_sr0088_01 P) ::
(nat_lit 283, o283 pw_sr0088_01 P) ::
(nat_lit 284, o284 pw_sr0088_01 P) ::
(nat_lit 285, o285 pw_sr0088_01 P) ::
(nat_lit 286, o286 pw_sr0088_01 P) ::
(nat_lit 287, o287 pw_sr0088_01 P) ::
(nat_lit 288, o288 pw_sr0088_01 P) ::
(nat_lit 289, o289 pw_sr0088_01 P) ::
(nat_lit 290, o290 pw_sr0088_01 P) ::
(nat_lit 291, o291 pw_sr0088_01 P) ::
(nat_lit 292, o292 pw_sr0088_01 P) ::
(nat_lit 293, o293 pw_sr0088_01 P) :: []
noncomputable def Kas : List Addr := [3, 32, 33, 34, 35, 36, 37, 38, 42, 43, 47, 48, 52, 53, 54, 55, 56, 57, 58, 59, 60, 61, 69, 70, 71, 72, 73, 74, 75, 76, 77, 78, 79, 80, 81, 82, 83, 84, 85, 86, 87, 88, 89, 90, 91, 92, 93, 94, 95, 96, 97, 98, 99, 100, 101, 102, 103, 104, 105, 106, 107, 108, 109, 110, 111, 112, 113, 114, 115, 116, 117, 118, 119, 120, 121, 122, 123, 124, 125, 126, 127, 128, 129, 130, 131, 132, 133, 134, 135, 136, 137, 138, 139, 140, 141, 142, 143, 144, 145, 146, 147, 148, 149, 150, 151, 152, 153, 154, 155, 156, 157, 158, 159, 160, 161, 162, 163, 164, 165, 166, 167, 168, 169, 170, 171, 172, 173, 174, 175, 176, 177, 178, 179, 180, 181, 182, 183, 184, 187, 188, 189, 190, 191, 192, 193, 194, 195, 196, 197, 198, 199, 200, 208, 212, 213, 214, 215, 216, 217, 218, 219, 258, 259, 260, 261, 262, 263, 264, 265, 266, 267, 268, 269, 270, 271, 272, 273, 274, 275, 276, 277, 278, 279, 280, 281, 282, 283, 284, 285, 286, 287, 288, 289, 290, 291, 292, 293]
end Mine
end
section
open PySem PySem.Spec PySem.Calls PySem.W PyProof.Rows
namespace Mine
noncomputable def gen {α : Type} (ne : Nonempty α) (P : α -> Prop) : α := @Classical.epsilon α ne fun x => ¬ P x
theorem all_gen {α : Type} (ne : Nonempty α) (P : α -> Prop) (h : P (gen ne P)) (x : α) : P x := by
 by_cases e : ∃ y, ¬ P y
 . exact absurd h (Classical.epsilon_spec e)
 . exact Classical.not_not.mp fun q => e ⟨x, q⟩
theorem ex6 {A B C D E F : Type} {P : A -> B -> C -> D -> E -> F -> Prop} {G : Prop} (h : ∃ a b c d e f, P a b c d e f) (k : ∀ a b c d e f, P a b c d e f -> G) : G := let ⟨a, b, c, d, e, f, h⟩ := h; k a b c d e f h
theorem ex5 {A B C D E : Type} {P : A -> B -> C -> D -> E -> Prop} {G : Prop} (h : ∃ a b c d e, P a b c d e) (k : ∀ a b c d e, P a b c d e -> G) : G := let ⟨a, b, c, d, e, h⟩ := h; k a b c d e h
theorem ex7 {A B C D E F H : Type} {P : A -> B -> C -> D -> E -> F -> H -> Prop} {G : Prop} (h : ∃ a b c d e f g, P a b c d e f g) (k : ∀ a b c d e f g, P a b c d e f g -> G) : G := let ⟨a, b, c, d, e, f, g, h⟩ := h; k a b c d e f g h
theorem xq1 {A : Type} {P : A -> Prop} {G : Prop} (k : ∀ a, P a -> G) (q : ∃ a, P a) : G := q.elim fun a q => k a q
theorem xq2 {A B : Type} {P : A -> B -> Prop} {G : Prop} (k : ∀ a b, P a b -> G) (q : ∃ a b, P a b) : G := q.elim fun a q => q.elim fun b q => k a b q
theorem xq3 {A B C : Type} {P : A -> B -> C -> Prop} {G : Prop} (k : ∀ a b c, P a b c -> G) (q : ∃ a b c, P a b c) : G := q.elim fun a q => q.elim fun b q => q.elim fun c q => k a b c q
theorem xq4 {A B C D : Type} {P : A -> B -> C -> D -> Prop} {G : Prop} (k : ∀ a b c d, P a b c d -> G) (q : ∃ a b c d, P a b c d) : G := q.elim fun a q => q.elim fun b q => q.elim fun c q => q.elim fun d q => k a b c d q
theorem xq5 {A B C D E : Type} {P : A -> B -> C -> D -> E -> Prop} {G : Prop} (k : ∀ a b c d e, P a b c d e -> G) (q : ∃ a b c d e, P a b c d e) : G := q.elim fun a q => q.elim fun b q => q.elim fun c q => q.elim fun d q => q.elim fun e q => k a b c d e q
theorem xq6 {A B C D E F : Type} {P : A -> B -> C -> D -> E -> F -> Prop} {G : Prop} (k : ∀ a b c d e f, P a b c d e f -> G) (q : ∃ a b c d e f, P a b c d e f) : G := q.elim fun a q => q.elim fun b q => q.elim fun c q => q.elim fun d q => q.elim fun e q => q.elim fun f q => k a b c d e f q
theorem xq7 {A B C D E F H : Type} {P : A -> B -> C -> D -> E -> F -> H -> Prop} {G : Prop} (k : ∀ a b c d e f g, P a b c d e f g -> G) (q : ∃ a b c d e f g, P a b c d e f g) : G := q.elim fun a q => q.elim fun b q => q.elim fun c q => q.elim fun d q => q.elim fun e q => q.elim fun f q => q.elim fun g q => k a b c d e f g q
theorem xq8 {A B C D E F H I : Type} {P : A -> B -> C -> D -> E -> F -> H -> I -> Prop} {G : Prop} (k : ∀ a b c d e f g i, P a b c d e f g i -> G) (q : ∃ a b c d e f g i, P a b c d e f g i) : G := q.elim fun a q => q.elim fun b q => q.elim fun c q => q.elim fun d q => q.elim fun e q => q.elim fun f q => q.elim fun g q => q.elim fun i q => k a b c d e f g i q
theorem aq2 {A B G : Prop} (k : A -> B -> G) (h : A /\ B) : G := k h.1 h.2
theorem aq3 {A B C G : Prop} (k : A -> B -> C -> G) (h : A /\ B /\ C) : G := k h.1 h.2.1 h.2.2
theorem aq4 {A B C D G : Prop} (k : A -> B -> C -> D -> G) (h : A /\ B /\ C /\ D) : G := k h.1 h.2.1 h.2.2.1 h.2.2.2
theorem aq5 {A B C D E G : Prop} (k : A -> B -> C -> D -> E -> G) (h : A /\ B /\ C /\ D /\ E) : G := k h.1 h.2.1 h.2.2.1 h.2.2.2.1 h.2.2.2.2
theorem aq6 {A B C D E F G : Prop} (k : A -> B -> C -> D -> E -> F -> G) (h : A /\ B /\ C /\ D /\ E /\ F) : G := k h.1 h.2.1 h.2.2.1 h.2.2.2.1 h.2.2.2.2.1 h.2.2.2.2.2
theorem aq7 {A B C D E F H G : Prop} (k : A -> B -> C -> D -> E -> F -> H -> G) (h : A /\ B /\ C /\ D /\ E /\ F /\ H) : G := k h.1 h.2.1 h.2.2.1 h.2.2.2.1 h.2.2.2.2.1 h.2.2.2.2.2.1 h.2.2.2.2.2.2
theorem aq8 {A B C D E F H I G : Prop} (k : A -> B -> C -> D -> E -> F -> H -> I -> G) (h : A /\ B /\ C /\ D /\ E /\ F /\ H /\ I) : G := k h.1 h.2.1 h.2.2.1 h.2.2.2.1 h.2.2.2.2.1 h.2.2.2.2.2.1 h.2.2.2.2.2.2.1 h.2.2.2.2.2.2.2
theorem aq9 {A B C D E F H I J G : Prop} (k : A -> B -> C -> D -> E -> F -> H -> I -> J -> G) (h : A /\ B /\ C /\ D /\ E /\ F /\ H /\ I /\ J) : G := k h.1 h.2.1 h.2.2.1 h.2.2.2.1 h.2.2.2.2.1 h.2.2.2.2.2.1 h.2.2.2.2.2.2.1 h.2.2.2.2.2.2.2.1 h.2.2.2.2.2.2.2.2
set_option genInjectivity false in
set_option genSizeOf false in
structure LP where
 (I L L' T TI TO a a1 a2 a3 a4 dx dxe dxt fa i1 i2 l l1 l2 ldu le ln lp lr lst lt lw rd rp sd sl x xe xt z : Addr)
 (kp : Addr × Obj)
 (A A₀ : Around)
 (env : Env)
 (mean : ExcName -> Option Value)
 (elt iter tgt : Expr)
 (Qx1 : Flow -> Shared -> Prop)
 (base g h h' h₀ : Heap)
 (fin n stay : Int)
 (R cells news own tl : List (Addr × Obj))
 (cl : List (Str × Addr))
 (its rowsE rowsT : List (Str × Str))
 (kvs : List (Str × Value))
 (outer : List Env)
 (ns script : List Int)
 (body : List Stmt)
 (loose ws : List Str)
 (allV vd ve vn vr vs vt vw xs ys : List Value)
 (dp k kk n1 n2 nd ne nn nr nt nw nx1 tk un : Nat)
 (oI q1 q2 q3 q4 q5 q6 q7 q8 so : Obj)
 (gd : Option (List Code))
 (on v4 v7 v8 : Option Value)
 (p1 p2 pos px px₂ tp : Pos)
 (p prog : Program)
 (cs : Scope)
 (s s₂ : Shared)
 (ax1 b c cn d got lg msg nm sh smp text un7 want wt xx1 x₂ : Str)
 (m mb mg m₁ om : Str -> Option Value)
 (t t1 t2 t3 t4 t5 t6 t7 t8 ta tb tc tg tk₀ tlg tm tn tnm to toe tot tsh tt tu tw twt : Tok)
 (ccd cdv : Value)
 (RR : Value -> Addr -> Result -> Shared -> Prop)
 (E Q : Value -> Shared -> Prop)
 (w : World)
noncomputable def lp0 : LP := by
 constructor
 all_goals first | exact default | exact aWorld 0 | exact {}
theorem LPE : Nonempty LP := ⟨lp0⟩
noncomputable def Kp (h h' : Heap) : Prop := ∀ b o, h.get? b = some o -> h'.get? b = some o
theorem Kp.refl (h : Heap) : Kp h h := fun _ _ e => e
theorem Kp.trans {a b c : Heap} (x : Kp a b) (y : Kp b c) : Kp a c := fun i o e => y i o (x i o e)
theorem frKeep {h₀ h h' : Heap} {L : Addr} {m : Str -> Option Value} (F : Fr h₀ L h m) (k : Kp h h') : Fr h₀ L h' m := by
 obtain ⟨oL, es, ep, hL, r⟩ := F.ns
 exact ⟨⟨oL, es, ep, k _ _ hL, r⟩, fun b o e => k b o (F.keep b o e), F.above⟩
theorem newsKeep {h₀ h h' : Heap} {L : Addr} {news : List (Addr × Obj)} (N : News h₀ L h news) (k : Kp h h') : News h₀ L h' news := fun p hp => ⟨k _ _ (N p hp).1, (N p hp).2⟩
structure Cx (w : World) (dp un : Nat) (cs : Scope) (outer : List Env) (A₀ : Around) (base h₀ : Heap) (L : Addr) (m : Str -> Option Value) (h : Heap) (p : Program) (loose : List Str) (mean : ExcName -> Option Value) (mg mb : Str -> Option Value) (k : Nat) : Prop where
 B : Below A₀ base outer h₀
 F : Fr h₀ L h m
 X : (K w.params).In h₀
 T : Top p loose mean mg mb h₀
 hk : cs.kind = .function
 hd : dp + k < recursionLimit
 hu : un + 10 * k < cLine
section
variable {w : World} {dp un : Nat} {gd : Option (List Code)} {cn : Str} {cs : Scope} {a : Addr} {ccd : Value} {cl : List (Str × Addr)} {outer : List Env} {A₀ : Around} {base h₀ h h' : Heap} {L : Addr} {m : Str -> Option Value} {s : Shared}
 {p : Program} {loose : List Str} {mean : ExcName -> Option Value} {mg mb : Str -> Option Value} {news : List (Addr × Obj)} {Q E : Value -> Shared -> Prop} {k k' : Nat}
 {name qual : Str} {params : Arguments} {body : List Stmt} {scope : Scope} {dV kV doc pm cdv ct oc : Value} {an od : Option Addr} {osl : Array (Option Value)} {f : Addr}
theorem Cx.keep (C : Cx w dp un cs outer A₀ base h₀ L m h p loose mean mg mb k) (x : Kp h h') : Cx w dp un cs outer A₀ base h₀ L m h' p loose mean mg mb k := ⟨C.B, frKeep C.F x, C.X, C.T, C.hk, C.hd, C.hu⟩
theorem Cx.le (C : Cx w dp un cs outer A₀ base h₀ L m h p loose mean mg mb k) (x : k' <= k) : Cx w dp un cs outer A₀ base h₀ L m h p loose mean mg mb k' := ⟨C.B, C.F, C.X, C.T, C.hk, by have := C.hd; lia, by have := C.hu; lia⟩
noncomputable def scopeOk (scope : Scope) : Bool := !scope.isCoroutine && !scope.isGenerator && scope.kind == .function && scope.names.all fun x => x.2 != .cell
theorem enterP {pos : List Value} {kw : List (Str × Value)} (binds : List (Str × Value)) {body' : List Stmt} {scope' : Scope} (C : Cx w dp un cs outer A₀ base h₀ L m s.heap p loose mean mg mb (k + 1))
   (ho : (K w.params).lookup f = some ⟨oc, od, .func (fnOf name qual params body scope dV kV doc pm an cdv ct), osl⟩) (hcd : codeIn (K w.params) cdv qual = true)
   (hbind : bindArgs (fnOf name qual params body scope dV kV doc pm an cdv ct) ⟨pos, kw⟩ = pure binds) (hloc : (binds.all fun x => decide (scope.names.lookup x.1 = some .local)) = true) (hsc : scopeOk scope = true) (hb : body = body') (hs : scope = scope')
   (h : ∀ g L' h₁ tk, Kp s.heap g -> Cx w (dp + 1) (un + 3) scope' (envX cn cs L a ccd cl :: outer) (ktrTop dp un gd cn cs L a ccd cl outer) base g L' (fun y => binds.reverse.lookup y) h₁ p loose mean mg mb k -> News g L' h₁ [] -> Fr h₀ L g m ->
     wpAny (model pw_sr0088_01 w) ((ktrTop dp un gd cn cs L a ccd cl outer).deeper (envOf qual scope' L' f cdv)) (execs body' (envOf qual scope' L' f cdv))
       (fun fl s' => LeaveK h₀ L m g (fun r s' => match r with | .ok (.ret v) => Q v s' | .ok _ => False | .error e => E e s') (match fl with | .ret v => v | _ => .none) s')
       (fun e s' => wpAny (model pw_sr0088_01 w) ((ktrTop dp un gd cn cs L a ccd cl outer).deeper (envOf qual scope' L' f cdv)) (leaving (envOf qual scope' L' f cdv) e) (fun _ s'' => E e s'') (fun e' s'' => E e' s'') s')
       { s with heap := h₁, toks := tk }) :
   wpAny (model pw_sr0088_01 w) (ktrTop dp un gd cn cs L a ccd cl outer) (call (.ref f) pos kw) Q E s := by
 subst hb hs
 simp only [scopeOk, Bool.and_eq_true, Bool.not_eq_true', beq_iff_eq, List.all_eq_true, bne_iff_ne, ne_eq] at hsc
 obtain ⟨⟨⟨h1, h2⟩, h3⟩, h4⟩ := hsc
 have hd := C.hd
 have hu := C.hu
 refine wpAny_call ?_
 exact code_defG (env := envX cn cs L a ccd cl) (outer := outer) C.B C.F C.X (News.nil) C.T rfl rfl C.hk ho hcd (by show dp < _; lia) (BindsTo.of_eq hbind) (locs hloc)
   (fun g L' h₁ FG F' N' B' X' T' G => h g L' h₁ _ (fun b o e => G b o e (fun x => nomatch x)) ⟨B', F', X', T', h3, by lia, by lia⟩ N' FG) h1 h2 h3 h4
end
end Mine
end
local macro_rules | `(tactic| walk_at "kn") => `(tactic| ((with_reducible rename _ ≠ _ /\ _ => o); first | ((repeat (first | exact o.1 | exact Ne.symm o.1 | exact o | exact Ne.symm o | replace o := o.2)); done) | (clear o; walk_at "kn")))
local macro_rules | `(tactic| walk_at "kl") => `(tactic| ((with_reducible rename _ < _ /\ _ => o); first | ((repeat (first | exact o.1 | exact o | replace o := o.2)); done) | (clear o; walk_at "kl")))
local macro_rules | `(tactic| walk_at "kb") => `(tactic| with_reducible first | assumption | exact Nat.lt_add_one _ | (apply Nat.lt_add_one_of_lt; walk_at "kb") | (refine Nat.lt_trans ?_ (by assumption); walk_at "kb"))
local macro_rules | `(tactic| k_ne) => `(tactic| (refine PySem.W.neN ?_; (try dsimp only); first | assumption | walk_at "kn" | (refine Nat.ne_of_lt ?_; first | walk_at "kl" | walk_at "kb") | (refine Nat.ne_of_gt ?_; first | walk_at "kl" | walk_at "kb") | lia))
section
open PySem PySem.Spec PySem.Calls PySem.W PyProof.Rows
namespace Mine
theorem fillK : rw_sr0088_01 = rw_sr0088_01 /\ K = K := by k_fill; exact ⟨rfl, rfl⟩
noncomputable def b1ints : List Int := [65024, 65025, 65026, 65027, 65028, 65029, 6150, 65030, 65031, 65032, 65033, 6155, 6156, 6157, 8203, 8204, 8205, 65034, 65035, 65036, 65037, 65038, 65039, 173, 847, 8288, 65279]
noncomputable def inB1 (k : Int) : Bool := b1ints.contains k
section
variable {w : World} {h : Heap}
noncomputable abbrev ik (w : World) := intKind pw_sr0088_01 w
theorem get208 (X : (K w.params).In h) : h.get? 208 = some (o208 pw_sr0088_01 w.params) := X _ _ rfl
theorem get219 (X : (K w.params).In h) : h.get? 219 = some (dct (b3ents pw_sr0088_01) 650) := X _ _ rfl
noncomputable def setPairOk (e : Int × Value) : Bool := match e.2 with
 | .int k _ => e.1 == hashInt k && b1ints.contains k
 | _ => false
noncomputable def setEs (P : Params) : List (Int × Value) := match (o208 pw_sr0088_01 P).data with
 | .set es _ _ => es.toList
 | _ => []
theorem o208_set (P : Params) : ∃ t : SetTable, o208 pw P = ⟨.type "set", none, .set ⟨setEs P⟩ 29 t, ⟨[]⟩⟩ /\ t.fits 27 = true := ⟨_, rfl, rfl⟩
theorem setEs_ok (P : Params) : (setEs P).all setPairOk = true := by kernel_rfl
theorem setEs_all (P : Params) : b1ints.all (fun k => (setEs P).any fun e => Value.isInt k e.2) = true := by kernel_rfl
theorem set208 (X : (K w.params).In h) : h.SetOf (ik w) 208 inB1 27 := by
 obtain ⟨t, ht, hf⟩ := o208_set w.params
 refine ⟨_, ⟨setEs w.params⟩, 29, t, get208 X, ?_, ?_, ?_, ?_, ?_, ?_, rfl⟩
 . rw [ht]; exact ⟨rfl, rfl, rfl⟩
 . rw [ht]
 . intro e he
   have := List.all_eq_true.mp (setEs_ok w.params) e he
   unfold setPairOk at this
   obtain ⟨eh, ev⟩ := e
   cases ev with
   | int k t =>
     simp only [Bool.and_eq_true, beq_iff_eq] at this
     exact ⟨⟨k, by simp [intKind, Value.isInt], this.1⟩, rfl⟩
   | _ => exact absurd this Bool.false_ne_true
 . intro k
   constructor
   . intro hk
     have := List.all_eq_true.mp (setEs_all w.params) k (List.contains_iff_mem.mp hk)
     obtain ⟨e, he, h⟩ := List.any_eq_true.mp this
     exact ⟨e, he, h⟩
   . rintro ⟨e, he, h⟩
     have := List.all_eq_true.mp (setEs_ok w.params) e he
     unfold setPairOk at this
     obtain ⟨eh, ev⟩ := e
     obtain ⟨t, rfl⟩ := Value.isInt_shape h
     simp only [Bool.and_eq_true] at this
     exact this.2
 . show 27 < scanBound; decide
 . exact hf
noncomputable def b3get (c : Int) : Option Value := findBy Value.isInt ⟨b3ents pw_sr0088_01⟩ c
theorem mainOf_ints : ∀ (t : Nat) (cs : List (List (Int × Str))), IntEnts (mainOf t cs)
 | _, [] => fun _ h => nomatch h
 | t, c :: r => fun e he => (List.mem_append.mp he).elim (entsA_int t c e) (mainOf_ints _ r e)
theorem b3_ints : IntEnts (b3ents pw_sr0088_01) := fun e he => (List.mem_append.mp he).elim (mainOf_ints _ _ e) (entsB_int _ _ e)
theorem map219 (X : (K w.params).In h) : h.MapOf (ik w) 219 b3get := by
 refine ⟨_, ⟨b3ents pw_sr0088_01⟩, 650, get219 X, ⟨rfl, rfl, rfl⟩, rfl, ?_, fun _ => rfl⟩
 intro e he
 obtain ⟨k, t, h1, h2⟩ := b3_ints e (by simpa using he)
 exact ⟨k, by rw [h1]; simp [intKind, Value.isInt], h2⟩
end
section
variable {w : World} {A A₀ : Around} {s : Shared} {g : Heap} {L : Addr} {m : Str -> Option Value} {Q E : Value -> Shared -> Prop}
theorem b3_method {pl : Sem Bool} {Q : Value × List Value -> Shared -> Prop} (X : (K w.params).In s.heap) (h : Q (.builtin "dict.get", [.ref 219]) s) : wpAny (model pw_sr0088_01 w) A (getMethod (.ref 219) "get" pl) Q E s :=
 have hm := map219 X
 getMethod_builtin hm.typeIs PySem.F.plainAttrs_dict PySem.F.slot_dict_get PySem.F.type_dict_get hm.noDict h
theorem b3_call {c : Int} {t : Tok} (X : (K w.params).In s.heap) (h : Q ((b3get c).getD .none) { s with toks := s.toks + 1 }) : wpAny (model pw_sr0088_01 w) A (call (.builtin "dict.get") [.ref 219, .int c t]) Q E s :=
 have hm := map219 X
 call_meetsIn PySem.F.slot_dict_get hm.typeIs PySem.F.entry_dict_get (PySem.F.args_dict_get_2 _ _) (meets_dict_get (ik w) 219 (intKind_is _ _ _ _) rfl) ⟨_, hm, h⟩
theorem b1_in {c : Int} {t : Tok} (X : (K w.params).In s.heap) (h : Q (.bool (inB1 c)) { s with toks := s.toks + 1 }) : wpAny (model pw_sr0088_01 w) A (compareOp .In (.int c t) (.ref 208)) Q E s :=
 wpAny_inSet_of (knd := ik w) (intKind_is _ _ _ _) rfl (set208 X) h
end
section
variable {w : World} {dp un : Nat} {gd : Option (List Code)} {cn : Str} {cs : Scope} {a : Addr} {ccd : Value} {cl : List (Str × Addr)} {outer : List Env} {A₀ : Around} {base h₀ : Heap} {L : Addr} {m : Str -> Option Value} {s : Shared}
 {p : Program} {loose : List Str} {mean : ExcName -> Option Value} {mg mb : Str -> Option Value} {news : List (Addr × Obj)} {Q E : Value -> Shared -> Prop}
theorem in_ok {c : Nat} {t : Tok} (C : Cx w dp un cs outer A₀ base h₀ L m s.heap p loose mean mg mb 6)
 (ret : ∀ (h' : Heap) (tk' : Nat), Kp s.heap h' -> Q (.bool (inB1 c)) { s with heap := h', toks := tk' }) :
 wpAny (model pw_sr0088_01 w) (ktrTop dp un gd cn cs L a ccd cl outer) (call (.ref 218) [.str ⟨#[c]⟩ t]) Q E s := by
 refine' enterP [("code", .str ⟨#[c]⟩ t)] C ?ho ?hcd ?hb ?hl ?hs ?b ?sc ?h
 case ho => k_dflt k_is
 case hcd => k_dflt k_is
 case hb => rfl
 case hl => rfl
 case hs => rfl
 case b => (conv => lhs; whnf)
 case sc => (conv => lhs; whnf)
 case h =>
   intro g L' h' tk kG C' N' FG'
   obtain ⟨B', F', X', T', hk', hd', hu'⟩ := C'
   obtain ⟨B0, F0, X0, T0, hk0, hd0, hu0⟩ := C
   (try k_fold)
   k_steps
   refine b1_in (X'.keeps F'.keep) ?_
   k_steps
   exact ret _ _ (kG.trans (Fr.keep ‹Fr g _ _ _›))
theorem map_ok {c : Nat} {t : Tok} {x : Str} (hx : (∃ t', b3get c = some (.str x t')) \/ (b3get c = none /\ Txt.lower ⟨#[c]⟩ = x)) (C : Cx w dp un cs outer A₀ base h₀ L m s.heap p loose mean mg mb 6)
 (ret : ∀ (t' : Tok) (h' : Heap) (tk' : Nat), Kp s.heap h' -> Q (.str x t') { s with heap := h', toks := tk' }) :
 wpAny (model pw_sr0088_01 w) (ktrTop dp un gd cn cs L a ccd cl outer) (call (.ref 264) [.str ⟨#[c]⟩ t]) Q E s := by
 refine' enterP [("code", .str ⟨#[c]⟩ t)] C ?ho ?hcd ?hb ?hl ?hs ?b ?sc ?h
 case ho => k_dflt k_is
 case hcd => k_dflt k_is
 case hb => rfl
 case hl => rfl
 case hs => rfl
 case b => (conv => lhs; whnf)
 case sc => (conv => lhs; whnf)
 case h =>
   intro g L' h' tk kG C' N' FG'
   obtain ⟨B', F', X', T', hk', hd', hu'⟩ := C'
   obtain ⟨B0, F0, X0, T0, hk0, hd0, hu0⟩ := C
   (try k_fold)
   k_steps
   refine b3_method (X'.keeps F'.keep) ?_
   k_steps
   refine b3_call (X'.keeps F'.keep) ?_
   rcases hx with ⟨t', hx⟩ | ⟨hx, hl⟩
   . rw [hx]
     simp only [Option.getD_some]
     k_steps
     exact ret _ _ _ (kG.trans (Fr.keep ‹Fr g _ _ _›))
   . rw [hx]
     simp only [Option.getD_none]
     k_steps
     refine SCL.lower (by show 1 <= 5592405; lia) ?_
     intro _
     rw [hl]
     k_steps
     exact ret _ _ _ (kG.trans (Fr.keep ‹Fr g _ _ _›))
end
noncomputable abbrev sk (w : World) := strKind pw_sr0088_01 w
noncomputable def stepAt (kvs : List (Str × Value)) (x : Str) : Int := match valueAt kvs x with
 | some (.int k _) => k
 | _ => 0
noncomputable def stepZ (kvs : List (Str × Value)) (stay : Int) (p c : Int) : Int := Builtin.bitOr (Builtin.bitAnd p (stepAt kvs ⟨#[c.toNat]⟩) * 2) (Builtin.bitAnd p stay)
noncomputable def runZ (kvs : List (Str × Value)) (stay : Int) (pre : List Int) : Int := pre.foldl (stepZ kvs stay) 1
theorem runZ_start {kvs : List (Str × Value)} {stay : Int} : (1 : Int) = runZ kvs stay [] /\ (0 : Int) <= 1 /\ (1 : Int) < 2 ^ 22 := ⟨rfl, by decide, by decide⟩
theorem bit_bounds {p s t : Int} (hp : 0 <= p) (hs : 0 <= s /\ s < 2 ^ 20) (ht : 0 <= t /\ t < 2 ^ 20) : 0 <= Builtin.bitOr (Builtin.bitAnd p s * 2) (Builtin.bitAnd p t) /\ Builtin.bitOr (Builtin.bitAnd p s * 2) (Builtin.bitAnd p t) < 2 ^ 22 := by
 rw [bitOr_and]
 have h1 := bitAnd_range p hs.1
 have h2 := bitAnd_range p ht.1
 have h3 := bitAnd_range (Builtin.bitAnd p s * 2) h2.1
 lia
theorem runZ_step {kvs : List (Str × Value)} {stay p : Int} {pre : List Int} {c : Nat} (h : p = runZ kvs stay pre) (h0 : 0 <= p) (hs : 0 <= stay /\ stay < 2 ^ 20) (a0 : 0 <= stepAt kvs ⟨#[c]⟩) (a1 : stepAt kvs ⟨#[c]⟩ < 2 ^ 20) :
   Builtin.bitOr (Builtin.bitAnd p (stepAt kvs ⟨#[c]⟩) * 2) (Builtin.bitAnd p stay) = runZ kvs stay (pre ++ [(c : Int)]) /\ 0 <= Builtin.bitOr (Builtin.bitAnd p (stepAt kvs ⟨#[c]⟩) * 2) (Builtin.bitAnd p stay) /\ Builtin.bitOr (Builtin.bitAnd p (stepAt kvs ⟨#[c]⟩) * 2) (Builtin.bitAnd p stay) < 2 ^ 22 := by
 refine ⟨?_, bit_bounds h0 ⟨a0, a1⟩ hs⟩
 subst h
 simp only [runZ, List.foldl_append, List.foldl_cons, List.foldl_nil]
 rfl
theorem val_in {kvs : List (Str × Value)} {x : Str} {v : Value} (h : valueAt kvs x = some v) : ∃ q ∈ kvs, q.2 = v := by
 unfold valueAt at h
 obtain ⟨q, hq, rfl⟩ := Option.map_eq_some_iff.mp h
 exact ⟨q, List.mem_of_find?_eq_some hq, rfl⟩
theorem dictKeep {w : World} {h h' : Heap} {a : Addr} {kvs : List (Str × Value)} (hd : h.DictOf (sk w) a kvs) (k : Kp h h') : h'.DictOf (sk w) a kvs :=
 let ⟨o, es, ep, ho, r⟩ := hd; ⟨o, es, ep, k _ _ ho, r⟩
section
variable {w : World} {A : Around} {s : Shared} {Q E : Value -> Shared -> Prop}
theorem dict_method {sd : Addr} {kvs : List (Str × Value)} {pl : Sem Bool} {Q : Value × List Value -> Shared -> Prop} (hd : s.heap.DictOf (sk w) sd kvs) (h : Q (.builtin "dict.get", [.ref sd]) s) : wpAny (model pw_sr0088_01 w) A (getMethod (.ref sd) "get" pl) Q E s :=
 getMethod_builtin hd.typeIs PySem.F.plainAttrs_dict PySem.F.slot_dict_get PySem.F.type_dict_get hd.mapOf.noDict h
theorem dict_get_int {sd : Addr} {kvs : List (Str × Value)} {x : Str} {u v : Tok} (hd : s.heap.DictOf (sk w) sd kvs) (hn : (sd == sysModules) = false) (hk : ∀ q ∈ kvs, ∃ k t, q.2 = .int k t /\ 0 <= k /\ k < 2 ^ 20)
   (h : ∀ t, 0 <= stepAt kvs x -> stepAt kvs x < 2 ^ 20 -> Q (.int (stepAt kvs x) t) { s with toks := s.toks + 1 }) : wpAny (model pw_sr0088_01 w) A (call (.builtin "dict.get") [.ref sd, .str x u, .int 0 v]) Q E s := by
 refine call_meetsIn PySem.F.slot_dict_get hd.typeIs PySem.F.entry_dict_get (PySem.F.args_dict_get_3 _ _ _) (meets_dict_get_default (sk w) sd (strKind_is _ w x u) hn _) ⟨_, hd.mapOf, ?_⟩
 unfold stepAt at h
 cases hx : valueAt kvs x with
 | none => rw [hx] at h; exact h _ (by decide) (by decide)
 | some y =>
   obtain ⟨q, hq, rfl⟩ := val_in hx
   (have hQ := hk q hq; revert hQ; refine xq2 fun k t => ?_; refine aq3 fun e h0 => ?_; intro h1)
   rw [hx, e] at h
   rw [e]
   exact h t h0 h1
end
section
noncomputable abbrev takes_okBQ (w : World) (dp un : Nat) (gd : Option (List Code)) (cn : Str) (cs : Scope) (a : Addr) (ccd : Value) (cl : List (Str × Addr)) (outer : List Env) (A₀ : Around) (base h₀ : Heap) (L : Addr) (m : Str -> Option Value) (s : Shared) (p : Program) (loose : List Str) (mean : ExcName -> Option Value) (mg mb : Str -> Option Value) (Q E : Value -> Shared -> Prop) (rd sd : Addr) (text smp : Str) (tt t1 t2 t3 : Tok) (kvs : List (Str × Value)) (stay fin : Int) (g : Heap) (L' : Addr) (h' : Heap) (tk : Nat) : Prop := ∀ {lb : List Stmt} {scope : Scope} (hlb : fdB (stm pw_sr0088_01 20) = lb) (hsc : fdS (stm pw_sr0088_01 20) = scope) (ht : IsTup s.heap rd [.ref sd, .int stay t1, .int fin t2, .str smp t3].toArray) (hd : s.heap.DictOf (sk w) sd kvs) (hn : (sd == sysModules) = false) (hk : ∀ q ∈ kvs, ∃ k t, q.2 = .int k t /\ 0 <= k /\ k < 2 ^ 20) (hs : 0 <= stay /\ stay < 2 ^ 20) (C : Cx w dp un cs outer A₀ base h₀ L m s.heap p loose mean mg mb 6) (ret : ∀ (h' : Heap) (tk' : Nat), Kp s.heap h' -> Q (.bool (Builtin.bitAnd (runZ kvs stay (KStt.codes text)) fin != 0)) { s with heap := h', toks := tk' }) (kG : Kp s.heap g) (C' : Cx w (dp + 1) (un + 3) scope (envX cn cs L a ccd cl :: outer) (ktrTop dp un gd cn cs L a ccd cl outer) base g L' (fun y => ([("read", .ref rd), ("text", .str text tt)] : List (Str × Value)).reverse.lookup y) h' p loose mean mg mb 5) (N' : News g L' h' []) (FG' : Fr h₀ L g m), wpAny (model pw_sr0088_01 w) ((ktrTop dp un gd cn cs L a ccd cl outer).deeper (envOf (⟨#[95,108,97,119,95,116,97,107,101,115]⟩ : Str) scope L' 283 (.ref 282))) (execs lb (envOf (⟨#[95,108,97,119,95,116,97,107,101,115]⟩ : Str) scope L' 283 (.ref 282))) (fun fl s' => LeaveK h₀ L m g (fun r s' => match r with | .ok (.ret v) => Q v s' | .ok _ => False | .error e => E e s') (match fl with | .ret v => v | _ => .none) s') (fun e s' => wpAny (model pw_sr0088_01 w) ((ktrTop dp un gd cn cs L a ccd cl outer).deeper (envOf (⟨#[95,108,97,119,95,116,97,107,101,115]⟩ : Str) scope L' 283 (.ref 282))) (leaving (envOf (⟨#[95,108,97,119,95,116,97,107,101,115]⟩ : Str) scope L' 283 (.ref 282)) e) (fun _ s'' => E e s'') (fun e' s'' => E e' s'') s') { s with heap := h', toks := tk }
noncomputable def takes_okBS (x : LP) : Prop := takes_okBQ x.w x.dp x.un x.gd x.cn x.cs x.a x.ccd x.cl x.outer x.A₀ x.base x.h₀ x.L x.m x.s x.p x.loose x.mean x.mg x.mb x.Q x.E x.rd x.sd x.text x.smp x.tt x.t1 x.t2 x.t3 x.kvs x.stay x.fin x.g x.L' x.h' x.tk
@[irreducible] noncomputable def takes_okBC : LP := gen LPE takes_okBS
namespace takes_okBN
noncomputable section
 def s := takes_okBC.s
 def Q := takes_okBC.Q
 def text := takes_okBC.text
 def kvs := takes_okBC.kvs
 def stay := takes_okBC.stay
 def fin := takes_okBC.fin
 def g := takes_okBC.g
 def h' := takes_okBC.h'
end
theorem main : takes_okBQ takes_okBC.w takes_okBC.dp takes_okBC.un takes_okBC.gd takes_okBC.cn takes_okBC.cs takes_okBC.a takes_okBC.ccd takes_okBC.cl takes_okBC.outer takes_okBC.A₀ takes_okBC.base takes_okBC.h₀ takes_okBC.L takes_okBC.m s takes_okBC.p takes_okBC.loose takes_okBC.mean takes_okBC.mg takes_okBC.mb Q takes_okBC.E takes_okBC.rd takes_okBC.sd text takes_okBC.smp takes_okBC.tt takes_okBC.t1 takes_okBC.t2 takes_okBC.t3 kvs stay fin g takes_okBC.L' h' takes_okBC.tk := by
 intro lb scope hlb hsc
 conv at hlb => lhs; whnf
 conv at hsc => lhs; whnf
 subst hlb hsc
 intro ht hd hn hk hs C ret kG C' N' FG'
 have retE : ∀ (n : Int) (h' : Heap) (tk' : Nat), n = runZ kvs stay (KStt.codes text) -> Kp s.heap h' -> Q (.bool (Builtin.bitAnd n fin != 0)) { s with heap := h', toks := tk' } := by
   rintro n h' tk' rfl k
   exact ret h' tk' k
 obtain ⟨B', F', X', T', hk', hd', hu'⟩ := C'
 obtain ⟨B0, F0, X0, T0, hk0, hd0, hu0⟩ := C
 have ht' := IsTup.keeps ht kG
 have hd1 := dictKeep hd kG
 (try k_fold)
 k_with "pyIter str" => k_state (fun pre n => n = runZ kvs stay pre /\ 0 <= n /\ n < 2 ^ 22) "places"
 k_with "subscriptTail" => (refine' item_tupleT (IsTup.keeps ht' (Fr.keep ?fr)) ?lo ?hi ?j ?x ?_ ?hs; (case fr => assumption); (case lo => decide); (case hi => decide); (case j => rfl); (case x => rfl); (case hs => with_unfolding_all rfl))
 k_with "getMethod ref" => (refine dict_method (dictKeep hd1 (Fr.keep (by assumption))) ?_)
 k_with "call builtin:dict.get" => (refine dict_get_int (dictKeep hd1 (Fr.keep (by assumption))) hn hk ?_; intro _ _ _)
 k_with "state" => (first | exact runZ_start | exact runZ_step (by assumption) (by assumption) hs (by assumption) (by assumption))
 k_steps
 k_with_none
 exact retE _ _ _ (by assumption) (kG.trans (Fr.keep ‹Fr g _ _ _›))
end takes_okBN
theorem takes_okBH : takes_okBS (gen LPE takes_okBS) := by with_unfolding_all exact @takes_okBN.main
theorem takes_okB {w dp un gd cn cs a ccd cl outer A₀ base h₀ L m s p loose mean mg mb Q E rd sd text smp tt t1 t2 t3 kvs stay fin g L' h' tk} : takes_okBQ w dp un gd cn cs a ccd cl outer A₀ base h₀ L m s p loose mean mg mb Q E rd sd text smp tt t1 t2 t3 kvs stay fin g L' h' tk := @all_gen LP LPE takes_okBS @takes_okBH { lp0 with w, dp, un, gd, cn, cs, a, ccd, cl, outer, A₀, base, h₀, L, m, s, p, loose, mean, mg, mb, Q, E, rd, sd, text, smp, tt, t1, t2, t3, kvs, stay, fin, g, L', h', tk }
end
section
variable {w : World} {dp un : Nat} {gd : Option (List Code)} {cn : Str} {cs : Scope} {a : Addr} {ccd : Value} {cl : List (Str × Addr)} {outer : List Env} {A₀ : Around} {base h₀ : Heap} {L : Addr} {m : Str -> Option Value} {s : Shared}
 {p : Program} {loose : List Str} {mean : ExcName -> Option Value} {mg mb : Str -> Option Value} {news : List (Addr × Obj)} {Q E : Value -> Shared -> Prop}
theorem takes_ok {rd sd : Addr} {text smp : Str} {tt t1 t2 t3 : Tok} {kvs : List (Str × Value)} {stay fin : Int}
 (ht : IsTup s.heap rd [.ref sd, .int stay t1, .int fin t2, .str smp t3].toArray) (hd : s.heap.DictOf (sk w) sd kvs) (hn : (sd == sysModules) = false) (hk : ∀ q ∈ kvs, ∃ k t, q.2 = .int k t /\ 0 <= k /\ k < 2 ^ 20) (hs : 0 <= stay /\ stay < 2 ^ 20)
 (C : Cx w dp un cs outer A₀ base h₀ L m s.heap p loose mean mg mb 6)
 (ret : ∀ (h' : Heap) (tk' : Nat), Kp s.heap h' -> Q (.bool (Builtin.bitAnd (runZ kvs stay (KStt.codes text)) fin != 0)) { s with heap := h', toks := tk' }) :
 wpAny (model pw_sr0088_01 w) (ktrTop dp un gd cn cs L a ccd cl outer) (call (.ref 283) [.ref rd, .str text tt]) Q E s := by
 refine' enterP [("read", .ref rd), ("text", .str text tt)] C ?ho ?hcd ?hb ?hl ?hs ?b ?sc ?h
 case ho => k_dflt k_is
 case hcd => k_dflt k_is
 case hb => rfl
 case hl => rfl
 case hs => rfl
 case b => (conv => lhs; whnf)
 case sc => (conv => lhs; whnf)
 case h =>
   intro g L' h' tk kG C' N' FG'
   exact takes_okB (rd := rd) (sd := sd) (text := text) (smp := smp) (tt := tt) (t1 := t1) (t2 := t2) (t3 := t3) (kvs := kvs) (stay := stay) (fin := fin) rfl rfl ht hd hn hk hs C ret kG C' N' FG'
end
end Mine
end
section
open PySem PySem.Spec PySem.Calls PySem.W PyProof.Rows PySem.Builtin PySem.Builtin.Str
namespace Mine
noncomputable def find4 (x y : Str) (i j : Int) : Int := match occurrences x y (fromIndex x.length i) (min (fromIndex x.length j) x.length) 1 with | k :: _ => (k : Int) | [] => -1
noncomputable def rfind4 (x y : Str) (i j : Int) : Int := match lastOccurrence x y (fromIndex x.length i) (min (fromIndex x.length j) x.length) with | some k => (k : Int) | none => -1
theorem gives_find4 (x y : Str) (i j : Int) (t u v z : Tok) : Gives («str.find» ⟨[.str x t, .str y u, .int i v, .int j z], []⟩) (.int (find4 x y i j)) := by
 show Gives (match occurrences x y (fromIndex x.length i) (min (fromIndex x.length j) x.length) 1 with | k :: _ => retInt k | [] => (do rule "str.find.not-found"; retInt (-1))) _
 unfold find4
 cases occurrences x y (fromIndex x.length i) (min (fromIndex x.length j) x.length) 1 with
 | nil => exact .rule (.of_eq rfl)
 | cons k _ => exact .of_eq rfl
theorem gives_rfind4 (x y : Str) (i j : Int) (t u v z : Tok) : Gives («str.rfind» ⟨[.str x t, .str y u, .int i v, .int j z], []⟩) (.int (rfind4 x y i j)) := by
 show Gives (match lastOccurrence x y (fromIndex x.length i) (min (fromIndex x.length j) x.length) with | some k => retInt k | none => (do rule "str.rfind.not-found"; retInt (-1))) _
 unfold rfind4
 cases lastOccurrence x y (fromIndex x.length i) (min (fromIndex x.length j) x.length) with
 | none => exact .rule (.of_eq rfl)
 | some k => exact .of_eq rfl
section
variable {w : World} {A : Around} {E : Value -> Shared -> Prop} {s : Shared} {x y : Str} {t u v z : Tok} {i j : Int} {Q : Value -> Shared -> Prop} {prog : Program}
theorem sfind4 (hq : Q (.int (find4 x y i j) s.toks) { s with toks := s.toks + 1 }) : wpAny (model prog w) A (call (.builtin "str.find") [.str x t, .str y u, .int i v, .int j z]) Q E s :=
 call_gives F.slot_str_find (typeIs_str _ _ _) F.entry_str_find (F.args_str_find_4 _ _ _ _) (gives_find4 x y i j t u v z) hq
theorem srfind4 (hq : Q (.int (rfind4 x y i j) s.toks) { s with toks := s.toks + 1 }) : wpAny (model prog w) A (call (.builtin "str.rfind") [.str x t, .str y u, .int i v, .int j z]) Q E s :=
 call_gives F.slot_str_rfind (typeIs_str _ _ _) F.entry_str_rfind (F.args_str_rfind_4 _ _ _ _) (gives_rfind4 x y i j t u v z) hq
end
noncomputable def stE0 (x : Str) : Int := if 0 <= Txt.find x (Str.ofString "\n") then Txt.find x (Str.ofString "\n") else x.length
noncomputable def stE1 (x : Str) : Int := if 0 <= find4 x (Str.ofString ":") 0 (stE0 x) then find4 x (Str.ofString ":") 0 (stE0 x) else stE0 x
noncomputable def stB (x : Str) : Int := if 0 <= rfind4 x (Str.ofString ".") 0 (stE1 x) then rfind4 x (Str.ofString ".") 0 (stE1 x) + 1 else 0
noncomputable def stripZ (x : Str) : Str := Txt.slice x (some (stB x)) (some (stE1 x))
theorem szR {x : Str} {r : Int} (hr : 0 <= Txt.find x (Str.ofString "\n") /\ r = Txt.find x (Str.ofString "\n") \/ ¬0 <= Txt.find x (Str.ofString "\n") /\ r = x.length) : r = stE0 x := by
 unfold stE0; rcases hr with ⟨c, rfl⟩ | ⟨c, rfl⟩ <;> simp [c]
theorem sz1 {x : Str} {r : Int} (hr : 0 <= Txt.find x (Str.ofString "\n") /\ r = Txt.find x (Str.ofString "\n") \/ ¬0 <= Txt.find x (Str.ofString "\n") /\ r = x.length) (h1 : 0 <= find4 x (Str.ofString ":") 0 r)
   (h2 : 0 <= rfind4 x (Str.ofString ".") 0 (find4 x (Str.ofString ":") 0 r)) : Txt.slice x (some (rfind4 x (Str.ofString ".") 0 (find4 x (Str.ofString ":") 0 r) + 1)) (some (find4 x (Str.ofString ":") 0 r)) = stripZ x := by
 obtain rfl := szR hr
 unfold stripZ stB stE1
 rw [if_pos h1, if_pos h2]
theorem sz2 {x : Str} {r : Int} (hr : 0 <= Txt.find x (Str.ofString "\n") /\ r = Txt.find x (Str.ofString "\n") \/ ¬0 <= Txt.find x (Str.ofString "\n") /\ r = x.length) (h1 : 0 <= find4 x (Str.ofString ":") 0 r)
   (h2 : ¬0 <= rfind4 x (Str.ofString ".") 0 (find4 x (Str.ofString ":") 0 r)) : Txt.slice x (some 0) (some (find4 x (Str.ofString ":") 0 r)) = stripZ x := by
 obtain rfl := szR hr
 unfold stripZ stB stE1
 rw [if_pos h1, if_neg h2]
theorem sz3 {x : Str} {r : Int} (hr : 0 <= Txt.find x (Str.ofString "\n") /\ r = Txt.find x (Str.ofString "\n") \/ ¬0 <= Txt.find x (Str.ofString "\n") /\ r = x.length) (h1 : ¬0 <= find4 x (Str.ofString ":") 0 r)
   (h2 : 0 <= rfind4 x (Str.ofString ".") 0 r) : Txt.slice x (some (rfind4 x (Str.ofString ".") 0 r + 1)) (some r) = stripZ x := by
 obtain rfl := szR hr
 unfold stripZ stB stE1
 rw [if_neg h1, if_pos h2]
theorem sz4 {x : Str} {r : Int} (hr : 0 <= Txt.find x (Str.ofString "\n") /\ r = Txt.find x (Str.ofString "\n") \/ ¬0 <= Txt.find x (Str.ofString "\n") /\ r = x.length) (h1 : ¬0 <= find4 x (Str.ofString ":") 0 r)
   (h2 : ¬0 <= rfind4 x (Str.ofString ".") 0 r) : Txt.slice x (some 0) (some r) = stripZ x := by
 obtain rfl := szR hr
 unfold stripZ stB stE1
 rw [if_neg h1, if_neg h2]
section
noncomputable abbrev strip_okBQ (w : World) (dp un : Nat) (gd : Option (List Code)) (cn : Str) (cs : Scope) (a : Addr) (ccd : Value) (cl : List (Str × Addr)) (outer : List Env) (A₀ : Around) (base h₀ : Heap) (L : Addr) (m : Str -> Option Value) (s : Shared) (p : Program) (loose : List Str) (mean : ExcName -> Option Value) (mg mb : Str -> Option Value) (Q E : Value -> Shared -> Prop) (msg : Str) (tt : Tok) (g : Heap) (L' : Addr) (h' : Heap) (tk : Nat) : Prop := ∀ {lb : List Stmt} {scope : Scope} (hlb : fdB (stm pw_sr0088_01 11) = lb) (hsc : fdS (stm pw_sr0088_01 11) = scope) (hm : msg.length <= 4096) (C : Cx w dp un cs outer A₀ base h₀ L m s.heap p loose mean mg mb 6) (ret : ∀ (r : Str) (t : Tok) (h' : Heap) (tk' : Nat), r = stripZ msg -> Kp s.heap h' -> Q (.str r t) { s with heap := h', toks := tk' }) (kG : Kp s.heap g) (C' : Cx w (dp + 1) (un + 3) scope (envX cn cs L a ccd cl :: outer) (ktrTop dp un gd cn cs L a ccd cl outer) base g L' (fun y => ([("msg", .str msg tt)] : List (Str × Value)).reverse.lookup y) h' p loose mean mg mb 5) (N' : News g L' h' []) (FG' : Fr h₀ L g m), wpAny (model pw_sr0088_01 w) ((ktrTop dp un gd cn cs L a ccd cl outer).deeper (envOf (⟨#[95,115,116,114,105,112,95,101,120,99,101,112,116,105,111,110,95,100,101,116,97,105,108,115]⟩ : Str) scope L' 200 (.ref 199))) (execs lb (envOf (⟨#[95,115,116,114,105,112,95,101,120,99,101,112,116,105,111,110,95,100,101,116,97,105,108,115]⟩ : Str) scope L' 200 (.ref 199))) (fun fl s' => LeaveK h₀ L m g (fun r s' => match r with | .ok (.ret v) => Q v s' | .ok _ => False | .error e => E e s') (match fl with | .ret v => v | _ => .none) s') (fun e s' => wpAny (model pw_sr0088_01 w) ((ktrTop dp un gd cn cs L a ccd cl outer).deeper (envOf (⟨#[95,115,116,114,105,112,95,101,120,99,101,112,116,105,111,110,95,100,101,116,97,105,108,115]⟩ : Str) scope L' 200 (.ref 199))) (leaving (envOf (⟨#[95,115,116,114,105,112,95,101,120,99,101,112,116,105,111,110,95,100,101,116,97,105,108,115]⟩ : Str) scope L' 200 (.ref 199)) e) (fun _ s'' => E e s'') (fun e' s'' => E e' s'') s') { s with heap := h', toks := tk }
noncomputable def strip_okBS (x : LP) : Prop := strip_okBQ x.w x.dp x.un x.gd x.cn x.cs x.a x.ccd x.cl x.outer x.A₀ x.base x.h₀ x.L x.m x.s x.p x.loose x.mean x.mg x.mb x.Q x.E x.msg x.tt x.g x.L' x.h' x.tk
@[irreducible] noncomputable def strip_okBC : LP := gen LPE strip_okBS
namespace strip_okBN
noncomputable section
 def g := strip_okBC.g
end
theorem main : strip_okBQ strip_okBC.w strip_okBC.dp strip_okBC.un strip_okBC.gd strip_okBC.cn strip_okBC.cs strip_okBC.a strip_okBC.ccd strip_okBC.cl strip_okBC.outer strip_okBC.A₀ strip_okBC.base strip_okBC.h₀ strip_okBC.L strip_okBC.m strip_okBC.s strip_okBC.p strip_okBC.loose strip_okBC.mean strip_okBC.mg strip_okBC.mb strip_okBC.Q strip_okBC.E strip_okBC.msg strip_okBC.tt g strip_okBC.L' strip_okBC.h' strip_okBC.tk := by
 intro lb scope hlb hsc
 conv at hlb => lhs; whnf
 conv at hsc => lhs; whnf
 subst hlb hsc
 intro hm C ret kG C' N' FG'
 obtain ⟨B', F', X', T', hk', hd', hu'⟩ := C'
 obtain ⟨B0, F0, X0, T0, hk0, hd0, hu0⟩ := C
 (try k_fold)
 k_with "call builtin:str.find" => (first | refine sfind4 ?_ | refine SC.find ?_)
 k_with "call builtin:str.rfind" => refine srfind4 ?_
 k_steps
 k_with_none
 all_goals refine ret _ _ _ _ ?_ (kG.trans (Fr.keep ‹Fr g _ _ _›))
 . exact sz1 (by assumption) (by assumption) (by assumption)
 . exact sz2 (by assumption) (by assumption) (by assumption)
 . exact sz3 (by assumption) (by assumption) (by assumption)
 . exact sz4 (by assumption) (by assumption) (by assumption)
end strip_okBN
theorem strip_okBH : strip_okBS (gen LPE strip_okBS) := by with_unfolding_all exact @strip_okBN.main
theorem strip_okB {w dp un gd cn cs a ccd cl outer A₀ base h₀ L m s p loose mean mg mb Q E msg tt g L' h' tk} : strip_okBQ w dp un gd cn cs a ccd cl outer A₀ base h₀ L m s p loose mean mg mb Q E msg tt g L' h' tk := @all_gen LP LPE strip_okBS @strip_okBH { lp0 with w, dp, un, gd, cn, cs, a, ccd, cl, outer, A₀, base, h₀, L, m, s, p, loose, mean, mg, mb, Q, E, msg, tt, g, L', h', tk }
end
section
variable {w : World} {dp un : Nat} {gd : Option (List Code)} {cn : Str} {cs : Scope} {a : Addr} {ccd : Value} {cl : List (Str × Addr)} {outer : List Env} {A₀ : Around} {base h₀ : Heap} {L : Addr} {m : Str -> Option Value} {s : Shared}
 {p : Program} {loose : List Str} {mean : ExcName -> Option Value} {mg mb : Str -> Option Value} {news : List (Addr × Obj)} {Q E : Value -> Shared -> Prop}
theorem strip_ok {msg : Str} {tt : Tok} (hm : msg.length <= 4096) (C : Cx w dp un cs outer A₀ base h₀ L m s.heap p loose mean mg mb 6)
 (ret : ∀ (r : Str) (t : Tok) (h' : Heap) (tk' : Nat), r = stripZ msg -> Kp s.heap h' -> Q (.str r t) { s with heap := h', toks := tk' }) :
 wpAny (model pw_sr0088_01 w) (ktrTop dp un gd cn cs L a ccd cl outer) (call (.ref 200) [.str msg tt]) Q E s := by
 refine' enterP [("msg", .str msg tt)] C ?ho ?hcd ?hb ?hl ?hs ?b ?sc ?h
 case ho => k_dflt k_is
 case hcd => k_dflt k_is
 case hb => rfl
 case hl => rfl
 case hs => rfl
 case b => (conv => lhs; whnf)
 case sc => (conv => lhs; whnf)
 case h =>
   intro g L' h' tk kG C' N' FG'
   exact strip_okB (msg := msg) (tt := tt) rfl rfl hm C ret kG C' N' FG'
end
noncomputable def Fresh (h h' : Heap) (l : List (Addr × Obj)) : Prop := ∀ p ∈ l, h'.get? p.1 = some p.2 /\ h.get? p.1 = none
theorem mulLen (n : Int) : (Txt.mul (Str.ofString ".") (n.fmod 3)).length <= 2 := len_mul_one (y := Str.ofString ".") (c := 46) (by decide) (by have := Int.fmod_lt_of_pos n (show (0 : Int) < 3 by decide); lia)
theorem mulLenD {n : Int} (h : 0 <= n) : ((Txt.mul (Str.ofString ".") (n.fmod 3)).length : Int) <= n := by
 have h1 := len_mul_one (y := Str.ofString ".") (c := 46) (n := n.fmod 3) (N := n.toNat) (by decide) (by have := Int.fmod_nonneg_of_pos n (show (0 : Int) < 3 by decide); have := Int.fmod_def n 3; have : 0 <= n.fdiv 3 := Int.fdiv_nonneg h (by decide); lia)
 lia
theorem iaddMul {x : Str} {n : Int} {c : Nat} (hx : x.length <= 64) : x.length + (Txt.mul (Str.ofString ".") (n.fmod 3) ++ (⟨#[c]⟩ : Str)).length <= 16777216 := by
 have h1 := mulLen n
 have h2 : (⟨#[c]⟩ : Str).length = 1 := rfl
 rw [PySem.Str.length_append]
 lia
theorem oneLen (n : Nat) : (⟨#[n]⟩ : Str).length = 1 := rfl
theorem hashLen : (Str.ofString "#").length = 1 := by decide
theorem iaddHash {x : Str} (hx : x.length <= 64) : x.length + (Str.ofString "#").length <= 16777216 := by rw [hashLen]; lia
noncomputable abbrev RdS := Str × Int × Str × Int
noncomputable def rdStep (q : RdS) (c : Int) : RdS :=
 let sg : Str := ⟨#[c.toNat]⟩
 if (sg == Str.ofString ".") = true then (q.1, q.2.1, q.2.2.1, q.2.2.2 + 1)
 else if 2 < q.2.2.2 then (q.1 ++ (Txt.mul (Str.ofString ".") (q.2.2.2.fmod 3) ++ sg), q.2.1 + 2 ^ ((q.1.length : Int)).toNat, q.2.2.1 ++ Str.ofString "#" ++ (Txt.mul (Str.ofString ".") (q.2.2.2.fmod 3) ++ sg), 0)
 else (q.1 ++ (Txt.mul (Str.ofString ".") (q.2.2.2.fmod 3) ++ sg), q.2.1, q.2.2.1 ++ (Txt.mul (Str.ofString ".") (q.2.2.2.fmod 3) ++ sg), 0)
noncomputable def rdRun (pre : List Int) : RdS := pre.foldl rdStep (Str.ofString "", 0, Str.ofString "", 0)
noncomputable def RdI (pre : List Int) (l : Str) (st : Int) (sm : Str) (d : Int) : Prop := rdRun pre = (l, st, sm, d)
noncomputable def lettersOf (want : Str) : Str := (rdRun (KStt.codes (want ++ Str.ofString "#"))).1
noncomputable def stayOf (want : Str) : Int := (rdRun (KStt.codes (want ++ Str.ofString "#"))).2.1
noncomputable def samplesOf (want : Str) : Str := Txt.slice (rdRun (KStt.codes (want ++ Str.ofString "#"))).2.2.1 none (some (-1))
noncomputable def stStep (L : Str) (c : List (Str × Int)) (k : Int) : List (Str × Int) := kdpPut c (Txt.item L k) (kdpLook c (Txt.item L k) 0 + 2 ^ k.toNat)
noncomputable def stRun (L : Str) (pre : List Int) : List (Str × Int) := pre.foldl (stStep L) []
structure StI (want : Str) (pre : List Int) (c : List (Str × Int)) : Prop where
 eq : c = stRun (lettersOf want) pre
noncomputable def stepsOf (want : Str) : List (Str × Int) := stRun (lettersOf want) (rangeKs 0 ((lettersOf want).length - 1))
noncomputable def finOf (want : Str) : Int := 2 ^ ((lettersOf want).length - 1)
noncomputable def rdTup (want : Str) (sd : Addr) (t1 t2 t3 : Tok) : Obj := ⟨.type "tuple", none, .seq #[.ref sd, .int (stayOf want) t1, .int (finOf want) t2, .str (samplesOf want) t3], ⟨[]⟩⟩
theorem rd_snoc (pre : List Int) (c : Int) : rdRun (pre ++ [c]) = rdStep (rdRun pre) c := by simp [rdRun]
section
variable {pre : List Int} {l sm : Str} {st d : Int} {n : Nat}
theorem rd_start : RdI [] (Str.ofString "") 0 (Str.ofString "") 0 /\ (0 : Int) <= 0 /\ ((Str.ofString "").length : Int) + 0 <= ([] : List Int).length /\ ((Str.ofString "").length : Int) + 0 <= 2 * ([] : List Int).length /\ (0 : Int) <= 0 := ⟨rfl, by decide, by decide, by decide, by decide⟩
theorem rd_dot (h : RdI pre l st sm d) (h0 : 0 <= d) (h1 : (l.length : Int) + d <= pre.length) (h2 : (sm.length : Int) + d <= 2 * pre.length) (h3 : 0 <= st) (e : ((⟨#[n]⟩ : Str) == Str.ofString ".") = true) :
   RdI (pre ++ [(n : Int)]) l st sm (d + 1) /\ 0 <= d + 1 /\ (l.length : Int) + (d + 1) <= (pre ++ [(n : Int)]).length /\ (sm.length : Int) + (d + 1) <= 2 * (pre ++ [(n : Int)]).length /\ 0 <= st := by
 refine ⟨?_, by lia, by simp; lia, by simp; lia, h3⟩
 unfold RdI at *
 rw [rd_snoc, h]
 unfold rdStep
 rw [Int.toNat_natCast, if_pos e]
theorem rd_gap (h : RdI pre l st sm d) (h0 : 0 <= d) (h1 : (l.length : Int) + d <= pre.length) (h2 : (sm.length : Int) + d <= 2 * pre.length) (h3 : 0 <= st) (e : ((⟨#[n]⟩ : Str) == Str.ofString ".") = false) (g : 2 < d) :
   RdI (pre ++ [(n : Int)]) (l ++ (Txt.mul (Str.ofString ".") (d.fmod 3) ++ ⟨#[n]⟩)) (st + 2 ^ ((l.length : Int)).toNat) (sm ++ Str.ofString "#" ++ (Txt.mul (Str.ofString ".") (d.fmod 3) ++ ⟨#[n]⟩)) 0 /\ (0 : Int) <= 0 /\
     ((l ++ (Txt.mul (Str.ofString ".") (d.fmod 3) ++ ⟨#[n]⟩)).length : Int) + 0 <= (pre ++ [(n : Int)]).length /\ ((sm ++ Str.ofString "#" ++ (Txt.mul (Str.ofString ".") (d.fmod 3) ++ ⟨#[n]⟩)).length : Int) + 0 <= 2 * (pre ++ [(n : Int)]).length /\ 0 <= st + 2 ^ ((l.length : Int)).toNat := by
 have hm := mulLen d
 refine ⟨?_, by lia, ?_, ?_, ?_⟩
 . unfold RdI at *
   rw [rd_snoc, h]
   unfold rdStep
   rw [Int.toNat_natCast, if_neg (by rw [e]; decide), if_pos g]
 . simp only [PySem.Str.length_append, oneLen, List.length_append, List.length_cons, List.length_nil]; lia
 . simp only [PySem.Str.length_append, oneLen, hashLen, List.length_append, List.length_cons, List.length_nil]; lia
 . have : (0 : Int) <= 2 ^ ((l.length : Int)).toNat := Int.pow_nonneg (by decide)
   lia
theorem rd_sign (h : RdI pre l st sm d) (h0 : 0 <= d) (h1 : (l.length : Int) + d <= pre.length) (h2 : (sm.length : Int) + d <= 2 * pre.length) (h3 : 0 <= st) (e : ((⟨#[n]⟩ : Str) == Str.ofString ".") = false) (g : ¬2 < d) :
   RdI (pre ++ [(n : Int)]) (l ++ (Txt.mul (Str.ofString ".") (d.fmod 3) ++ ⟨#[n]⟩)) st (sm ++ (Txt.mul (Str.ofString ".") (d.fmod 3) ++ ⟨#[n]⟩)) 0 /\ (0 : Int) <= 0 /\
     ((l ++ (Txt.mul (Str.ofString ".") (d.fmod 3) ++ ⟨#[n]⟩)).length : Int) + 0 <= (pre ++ [(n : Int)]).length /\ ((sm ++ (Txt.mul (Str.ofString ".") (d.fmod 3) ++ ⟨#[n]⟩)).length : Int) + 0 <= 2 * (pre ++ [(n : Int)]).length /\ 0 <= st := by
 have hm := mulLenD h0
 refine ⟨?_, by lia, ?_, ?_, h3⟩
 . unfold RdI at *
   rw [rd_snoc, h]
   unfold rdStep
   rw [Int.toNat_natCast, if_neg (by rw [e]; decide), if_neg g]
 . simp only [PySem.Str.length_append, oneLen, List.length_append, List.length_cons, List.length_nil]; lia
 . simp only [PySem.Str.length_append, oneLen, List.length_append, List.length_cons, List.length_nil]; lia
theorem codes_app (x y : Str) : KStt.codes (x ++ y) = KStt.codes x ++ KStt.codes y := by
 unfold KStt.codes
 rw [PySem.Str.cps_append, Array.toList_append, List.map_append]
theorem rd_pos {want : Str} (h : RdI (KStt.codes (want ++ Str.ofString "#")) l st sm d) : 1 <= l.length := by
 unfold RdI at h
 rw [codes_app] at h
 have e : KStt.codes (Str.ofString "#") = [((35 : Nat) : Int)] := by decide
 rw [e, rd_snoc] at h
 have hl : l = (rdStep (rdRun (KStt.codes want)) ((35 : Nat) : Int)).1 := by rw [h]
 rw [hl]
 unfold rdStep
 rw [Int.toNat_natCast, if_neg (by decide)]
 split <;> simp only [PySem.Str.length_append, oneLen] <;> lia
theorem st_start {want : Str} : StI want [] [] /\ ([] : List (Str × Int)).length <= ([] : List Int).length := ⟨⟨rfl⟩, Nat.le_refl _⟩
theorem st_step {want : Str} {k : Int} {c : List (Str × Int)} (hL : RdI (KStt.codes (want ++ Str.ofString "#")) l st sm d) (h : StI want pre c) (hl : c.length <= pre.length) :
   StI want (pre ++ [k]) (kdpPut c (Txt.item l k) (kdpLook c (Txt.item l k) 0 + 2 ^ k.toNat)) /\ (kdpPut c (Txt.item l k) (kdpLook c (Txt.item l k) 0 + 2 ^ k.toNat)).length <= (pre ++ [k]).length := by
 have e : l = lettersOf want := by unfold lettersOf; rw [show rdRun _ = _ from hL]
 refine ⟨?_, ?_⟩
 . refine ⟨?_⟩
   rw [h.eq, e]
   simp [stRun, stStep]
 . refine Nat.le_trans (kdpPut_len _ _ _) ?_
   simp; lia
end
section
variable {prog : Program} {w : World} {A : Around} {E : Value -> Shared -> Prop} {s : Shared} {env : Env} {h₀ : Heap} {x : Str} {body : List Stmt} {Q : Flow -> Shared -> Prop}
theorem KstR.go {r d : Addr} {b₀ : Int} {t₀ u₀ v₀ : Tok} {m₀ : Str -> Option Value} {o₀ : Obj} {tl : List (Addr × Obj)} {want : Str}
   (hh : A.handled = none) (hr : IsRange s.heap r 0 b₀ 1 t₀ u₀ v₀) (F : Fr h₀ env.locals s.heap m₀) (N : News h₀ env.locals s.heap ((d, o₀) :: tl)) (hd : o₀.IsDictOf (strKind prog w) []) (hf : PyProof.V.FlatPairs PyData.str ([] : List (Str × Value)) []) (hb : 0 <= b₀) (hb1 : b₀ <= 64)
   (turn : ∀ (o : Obj) (kvs : List (Str × Value)) (c : List (Str × Int)) (pre : List Int) t h tk own, (pre.length : Int) < b₀ -> OwnOff own (((d, o₀) :: tl).map (·.1)) -> o.IsDictOf (strKind prog w) kvs -> PyProof.V.FlatPairs PyData.str kvs (kdpD c) -> StI want pre c -> c.length <= pre.length ->
     Fr h₀ env.locals h (fun y => if y = x then some (.int pre.length t) else m₀ y) -> News h₀ env.locals h (((d, o) :: tl) ++ own) ->
     wpAny (model prog w) A (execs body env) (InvPostN h₀ env.locals (fun m nx => ∃ o' kvs' c', nx = (d, o') :: tl /\ (∀ z, z ≠ x -> m z = m₀ z) /\ o'.IsDictOf (strKind prog w) kvs' /\ PyProof.V.FlatPairs PyData.str kvs' (kdpD c') /\ StI want (pre ++ [(pre.length : Int)]) c' /\ c'.length <= pre.length + 1) own (((d, o₀) :: tl).map (·.1)) { s with heap := h, toks := tk } Q) E { s with heap := h, toks := tk })
   (done : ∀ (o : Obj) (kvs : List (Str × Value)) (c : List (Str × Int)) (u : Str -> Option Value) h tk, o.IsDictOf (strKind prog w) kvs -> PyProof.V.FlatPairs PyData.str kvs (kdpD c) -> StI want (rangeKs 0 b₀.toNat) c -> c.length <= b₀.toNat ->
     Fr h₀ env.locals h (fun y => if y = x then u y else m₀ y) -> News h₀ env.locals h ((d, o) :: tl) -> Q .next { s with heap := h, toks := tk }) :
   wpAny (model prog w) A (pyIter (.ref r)) (fun it s₂ => LoopAtV prog w A h₀ env x body Q E it s₂) E s := by
 refine kst_range (σ := Obj × List (Str × Value) × List (Str × Int)) (n := b₀.toNat) (fun c => (d, c.1) :: tl) (fun _ => []) (fun c => c.1.IsDictOf (strKind prog w) c.2.1 /\ PyProof.V.FlatPairs PyData.str c.2.1 (kdpD c.2.2)) [] (fun pre c => StI want pre c.2.2 /\ c.2.2.length <= pre.length) (o₀, [], []) hh hr ?_ ?_ F N ⟨hd, hf⟩ (fun _ h => nomatch h) st_start ?_ ?_
 . exact small_one (by decide) (by decide) (by lia) (by lia)
 . simp [Builtin.Range.rangeSize]; lia
 . rintro ⟨o, kvs, c⟩ pre k t u h tk own hk hlt hoff ⟨hd', hf'⟩ ⟨hI, hl⟩ F' N'
   have hk' : k = (pre.length : Int) := by lia
   subst hk'
   have F2 : Fr h₀ env.locals h (fun y => if y = x then some (.int pre.length t) else m₀ y) := F'
   refine wpAny_mono (turn o kvs c pre t h tk own (by lia) hoff hd' hf' hI hl F2 N') (fun f s₂ q => ?_) fun _ _ e => e
   have up : InvEndN h₀ env.locals (fun m nx => ∃ o' kvs' c', nx = (d, o') :: tl /\ (∀ z, z ≠ x -> m z = m₀ z) /\ o'.IsDictOf (strKind prog w) kvs' /\ PyProof.V.FlatPairs PyData.str kvs' (kdpD c') /\ StI want (pre ++ [(pre.length : Int)]) c' /\ c'.length <= pre.length + 1) own (((d, o₀) :: tl).map (·.1)) { s with heap := h, toks := tk } s₂ -> InvEndN h₀ env.locals (KstS (σ := Obj × List (Str × Value) × List (Str × Int)) (fun c => (d, c.1) :: tl) (fun _ => []) (fun c => c.1.IsDictOf (strKind prog w) c.2.1 /\ PyProof.V.FlatPairs PyData.str c.2.1 (kdpD c.2.2)) x [] m₀ (fun pre c => StI want pre c.2.2 /\ c.2.2.length <= pre.length) (pre ++ [(pre.length : Int)])) own (((d, o₀) :: tl).map (·.1)) { s with heap := h, toks := tk } s₂ := by
     (refine xq5 fun h' tk' m' news' nx => ?_; refine aq7 fun e F3 N3 a1 a2 a3 => ?_; refine xq3 fun o' kvs' c' => ?_; refine aq2 fun eQ => ?_; subst eQ; refine aq5 fun hm b1 b2 b3 => ?_; intro b4)
     exact ⟨h', tk', m', news', _, e, F3, N3, a1, a2, a3, (o', kvs', c'), rfl, ⟨b1, b2⟩, (fun _ h => nomatch h), (fun z h1 _ _ => hm z h1), ⟨b3, by simpa using b4⟩⟩
   cases f with
   | ret v => exact q
   | brk => exact q
   | next => exact up q
   | cont => exact up q
 . rintro ⟨o, kvs, c⟩ u h tk ⟨hd', hf'⟩ ⟨hI, hl⟩ F' N'
   exact done o kvs c u h tk hd' hf' hI (by simpa [rangeKs_length] using hl) F' N'
end
theorem fresh_of {h g h' : Heap} {L' : Addr} {a b : Addr × Obj} {r : List (Addr × Obj)} (k : Kp h g) (N : News g L' h' (a :: b :: r)) : Fresh h h' [a, b] := by
 have one : ∀ p ∈ (a :: b :: r), h'.get? p.1 = some p.2 /\ h.get? p.1 = none := fun p hp => ⟨(N p hp).1, by
   cases e : h.get? p.1 with
   | none => rfl
   | some o => have := k _ _ e; rw [(N p hp).2.2] at this; cases this⟩
 intro p hp
 refine one p ?_
 simp only [List.mem_cons, List.not_mem_nil, or_false] at hp ⊢
 rcases hp with h | h
 . exact .inl h
 . exact .inr (.inl h)
theorem read_fin {want l sm : Str} {st d : Int} {c : List (Str × Int)} (hR : RdI (KStt.codes (want ++ Str.ofString "#")) l st sm d) (hI : StI want (rangeKs 0 ((l.length : Int) - 1).toNat) c) :
   st = stayOf want /\ (2 : Int) ^ ((l.length : Int) - 1).toNat = finOf want /\ Txt.slice sm none (some (-1)) = samplesOf want /\ c = stepsOf want := by
 have e : ((l.length : Int) - 1).toNat = l.length - 1 := by lia
 have hl : l = lettersOf want := by unfold lettersOf; rw [show rdRun _ = _ from hR]
 refine ⟨?_, ?_, ?_, ?_⟩
 . unfold stayOf; rw [show rdRun _ = _ from hR]
 . unfold finOf; rw [e, hl]
 . unfold samplesOf; rw [show rdRun _ = _ from hR]
 . rw [hI.eq, e, hl]; rfl
section
noncomputable abbrev read_okBQ (w : World) (dp un : Nat) (gd : Option (List Code)) (cn : Str) (cs : Scope) (a : Addr) (ccd : Value) (cl : List (Str × Addr)) (outer : List Env) (A₀ : Around) (base h₀ : Heap) (L : Addr) (m : Str -> Option Value) (s : Shared) (p : Program) (loose : List Str) (mean : ExcName -> Option Value) (mg mb : Str -> Option Value) (Q E : Value -> Shared -> Prop) (want : Str) (tt : Tok) (g : Heap) (L' : Addr) (h' : Heap) (tk : Nat) : Prop := ∀ {lb : List Stmt} {scope : Scope} (hlb : fdB (stm pw_sr0088_01 19) = lb) (hsc : fdS (stm pw_sr0088_01 19) = scope) (hw : want.length <= 16) (C : Cx w dp un cs outer A₀ base h₀ L m s.heap p loose mean mg mb 6) (ret : ∀ (rd sd : Addr) (t1 t2 t3 : Tok) (o : Obj) (kvs : List (Str × Value)) (h' : Heap) (tk' : Nat), Kp s.heap h' -> Fresh s.heap h' [(rd, rdTup want sd t1 t2 t3), (sd, o)] -> o.IsDictOf (sk w) kvs -> PyProof.V.FlatPairs PyData.str kvs (kdpD (stepsOf want)) -> (sd == sysModules) = false -> Q (.ref rd) { s with heap := h', toks := tk' }) (kG : Kp s.heap g) (C' : Cx w (dp + 1) (un + 3) scope (envX cn cs L a ccd cl :: outer) (ktrTop dp un gd cn cs L a ccd cl outer) base g L' (fun y => ([("want", .str want tt)] : List (Str × Value)).reverse.lookup y) h' p loose mean mg mb 5) (N' : News g L' h' []) (FG' : Fr h₀ L g m), wpAny (model pw_sr0088_01 w) ((ktrTop dp un gd cn cs L a ccd cl outer).deeper (envOf (⟨#[95,108,97,119,95,114,101,97,100]⟩ : Str) scope L' 276 (.ref 275))) (execs lb (envOf (⟨#[95,108,97,119,95,114,101,97,100]⟩ : Str) scope L' 276 (.ref 275))) (fun fl s' => LeaveK h₀ L m g (fun r s' => match r with | .ok (.ret v) => Q v s' | .ok _ => False | .error e => E e s') (match fl with | .ret v => v | _ => .none) s') (fun e s' => wpAny (model pw_sr0088_01 w) ((ktrTop dp un gd cn cs L a ccd cl outer).deeper (envOf (⟨#[95,108,97,119,95,114,101,97,100]⟩ : Str) scope L' 276 (.ref 275))) (leaving (envOf (⟨#[95,108,97,119,95,114,101,97,100]⟩ : Str) scope L' 276 (.ref 275)) e) (fun _ s'' => E e s'') (fun e' s'' => E e' s'') s') { s with heap := h', toks := tk }
noncomputable def read_okBS (x : LP) : Prop := read_okBQ x.w x.dp x.un x.gd x.cn x.cs x.a x.ccd x.cl x.outer x.A₀ x.base x.h₀ x.L x.m x.s x.p x.loose x.mean x.mg x.mb x.Q x.E x.want x.tt x.g x.L' x.h' x.tk
@[irreducible] noncomputable def read_okBC : LP := gen LPE read_okBS
namespace read_okBN
noncomputable section
 def w := read_okBC.w
 def L := read_okBC.L
 def s := read_okBC.s
 def p := read_okBC.p
 def Q := read_okBC.Q
 def want := read_okBC.want
 def g := read_okBC.g
 def h' := read_okBC.h'
 def tk := read_okBC.tk
end
theorem main : read_okBQ w read_okBC.dp read_okBC.un read_okBC.gd read_okBC.cn read_okBC.cs read_okBC.a read_okBC.ccd read_okBC.cl read_okBC.outer read_okBC.A₀ read_okBC.base read_okBC.h₀ L read_okBC.m s p read_okBC.loose read_okBC.mean read_okBC.mg read_okBC.mb Q read_okBC.E want read_okBC.tt g read_okBC.L' h' tk := by
 intro lb scope hlb hsc
 conv at hlb => lhs; whnf
 conv at hsc => lhs; whnf
 subst hlb hsc
 intro hw C ret kG C' N' FG'
 obtain ⟨B', F', X', T', hk', hd', hu'⟩ := C'
 obtain ⟨B0, F0, X0, T0, hk0, hd0, hu0⟩ := C
 (try k_fold)
 have retE : ∀ {l sm : Str} {st d : Int} {c : List (Str × Int)} {rd sd : Addr} {t1 t2 t3 : Tok} {o : Obj} {kvs : List (Str × Value)} {h' : Heap} {tk' : Nat}, RdI (KStt.codes (want ++ Str.ofString "#")) l st sm d -> StI want (rangeKs 0 ((l.length : Int) - 1).toNat) c -> o.IsDictOf (sk w) kvs -> PyProof.V.FlatPairs PyData.str kvs (kdpD c) -> Kp s.heap h' ->
     Fresh s.heap h' [(rd, ⟨.type "tuple", none, .seq #[.ref sd, .int st t1, .int (2 ^ ((l.length : Int) - 1).toNat) t2, .str (Txt.slice sm none (some (-1))) t3], ⟨[]⟩⟩), (sd, o)] -> (sd == sysModules) = false -> Q (.ref rd) { s with heap := h', toks := tk' } := by
   intro l sm st d c rd sd t1 t2 t3 o kvs h' tk' hR hI hd hf hk hF hn
   obtain ⟨e1, e2, e3, e4⟩ := read_fin hR hI
   rw [e1, e2, e3] at hF
   exact ret rd sd t1 t2 t3 o kvs h' tk' hk hF hd (e4 ▸ hf) hn
 have TR' := topRead_of T'
 have hS : (want ++ Str.ofString "#").length <= 17 := by rw [PySem.Str.length_append]; have := hashLen; lia
 k_with "pyIter str" => k_state (fun pre letters stay sample dots => RdI pre letters stay sample dots /\ 0 <= dots /\ (letters.length : Int) + dots <= pre.length /\ (sample.length : Int) + dots <= 2 * pre.length /\ 0 <= stay) "letters" "stay" "sample" "dots"
 k_with "exec For Name BinOp cons nil" => ((rename Fr _ _ _ _ => lF'); (with_unfolding_all refine' For_invVF lF' ?k1 ?k2 ?_; (case k1 => exact rfl); (case k2 => exact rfl); k_whole))
 k_with "binaryOp Add str str" => (refine KXadd.add (K := 64) (L := 64) ?ka ?kb (by decide) ?_; (case ka => (first | lia | (simp only [PySem.Str.length_append, oneLen, hashLen]; lia) | exact Nat.le_trans (mulLen _) (by decide))); (case kb => (first | lia | (simp only [PySem.Str.length_append, oneLen, hashLen]; lia) | exact Nat.le_trans (mulLen _) (by decide))); intro _ _ _)
 k_with "call builtin:len" => (refine SBL.len (by (first | lia | (simp only [PySem.Str.length_append, oneLen, hashLen]; lia) | exact Nat.le_trans (mulLen _) (by decide))) ?_)
 k_with "inplaceOp Add str str" => ((refine SBL.iadd (hsz := ?hsz) ?_); (case hsz => (rw [sizeLine_eq]; first | exact iaddMul (by lia) | exact iaddHash (by lia))); intro _ _ _)
 k_with "eval Dict nil nil" => ((have hpos := rd_pos (by assumption)); (refine' newDict_K ?k1 ?k2 (TopRead.nolimit TR') ?_; (case k1 => k_asm); (case k2 => k_asm); k_whole); intro d' h' o' F' N' l1 lo' hs' fs' hi' fi'; clear hi' fi'; (try k_lt l1); (try k_sweep))
 k_with "state" => (first | exact rd_start | exact rd_dot (by assumption) (by assumption) (by assumption) (by assumption) (by assumption) (by assumption) | exact rd_gap (by assumption) (by assumption) (by assumption) (by assumption) (by assumption) (by assumption) (by assumption) | exact rd_sign (by assumption) (by assumption) (by assumption) (by assumption) (by assumption) (by assumption) (by assumption) | exact st_start | exact st_step (by assumption) (by assumption) (by assumption))
 k_with "pyIter ref" => ((refine' KstR.go (d := d') (want := want) ?k1 ?k2 ?k3 ?k4 ?k5 ?k6 ?k7 ?k8 ?turn ?done); (case k1 => with_unfolding_all rfl); (case k2 => assumption); (case k3 => with_unfolding_all assumption); (case k4 => with_unfolding_all assumption); (case k5 => assumption); (case k6 => assumption); (case k7 => lia); (case k8 => lia); (case' turn => intro o kvs c pre t h tk own hlt hoff hd hf hI hl F N); (case' done => intro o kvs c u h tk hd hf hI hl F N); (all_goals (try k_fold)))
 k_steps
 k_with_none
 . (rename Fr g _ _ _ => lF); (rename News g _ _ _ => lN)
   exact retE (by assumption) hI hd hf (kG.trans (Fr.keep lF)) (fresh_of kG lN) lo'
 . (rename Fr _ _ _ _ => lF); (rename News _ _ _ _ => lN)
   refine InvEndN.intro lF lN ⟨_, _, _, rfl, ?hz, by assumption, by assumption, ?hI, ?hl⟩ (by rfl) ?hn ?ho
   case hI => exact (st_step (by assumption) hI hl).1
   case hl => exact Nat.le_trans (st_step (by assumption) hI hl).2 (by simp)
   case hz => intro z h1; exact if_neg h1
   case hn => (with_unfolding_all ((try simp only [List.nil_append, List.cons_append]); k_allIn))
   case ho => (intro p hp; k_ownIn)
end read_okBN
theorem read_okBH : read_okBS (gen LPE read_okBS) := by with_unfolding_all exact @read_okBN.main
theorem read_okB {w dp un gd cn cs a ccd cl outer A₀ base h₀ L m s p loose mean mg mb Q E want tt g L' h' tk} : read_okBQ w dp un gd cn cs a ccd cl outer A₀ base h₀ L m s p loose mean mg mb Q E want tt g L' h' tk := @all_gen LP LPE read_okBS @read_okBH { lp0 with w, dp, un, gd, cn, cs, a, ccd, cl, outer, A₀, base, h₀, L, m, s, p, loose, mean, mg, mb, Q, E, want, tt, g, L', h', tk }
end
section
variable {w : World} {dp un : Nat} {gd : Option (List Code)} {cn : Str} {cs : Scope} {a : Addr} {ccd : Value} {cl : List (Str × Addr)} {outer : List Env} {A₀ : Around} {base h₀ : Heap} {L : Addr} {m : Str -> Option Value} {s : Shared}
 {p : Program} {loose : List Str} {mean : ExcName -> Option Value} {mg mb : Str -> Option Value} {news : List (Addr × Obj)} {Q E : Value -> Shared -> Prop}
theorem read_ok {want : Str} {tt : Tok} (hw : want.length <= 16) (C : Cx w dp un cs outer A₀ base h₀ L m s.heap p loose mean mg mb 6)
 (ret : ∀ (rd sd : Addr) (t1 t2 t3 : Tok) (o : Obj) (kvs : List (Str × Value)) (h' : Heap) (tk' : Nat), Kp s.heap h' -> Fresh s.heap h' [(rd, rdTup want sd t1 t2 t3), (sd, o)] -> o.IsDictOf (sk w) kvs -> PyProof.V.FlatPairs PyData.str kvs (kdpD (stepsOf want)) -> (sd == sysModules) = false -> Q (.ref rd) { s with heap := h', toks := tk' }) :
 wpAny (model pw_sr0088_01 w) (ktrTop dp un gd cn cs L a ccd cl outer) (call (.ref 276) [.str want tt]) Q E s := by
 refine' enterP [("want", .str want tt)] C ?ho ?hcd ?hb ?hl ?hs ?b ?sc ?h
 case ho => k_dflt k_is
 case hcd => k_dflt k_is
 case hb => rfl
 case hl => rfl
 case hs => rfl
 case b => (conv => lhs; whnf)
 case sc => (conv => lhs; whnf)
 case h =>
   intro g L' h' tk kG C' N' FG'
   exact read_okB (want := want) (tt := tt) rfl rfl hw C ret kG C' N' FG'
end
end Mine
end
section
open PySem PySem.Spec PySem.Calls PySem.W PyProof.Rows
namespace Mine
section
variable {prog : Program} {w : World} {A : Around} {E : Value -> Shared -> Prop} {s : Shared} {env : Env} {h₀ : Heap} {x : Str} {body : List Stmt} {Q : Flow -> Shared -> Prop}
theorem iter_any {l : Addr} {vs : List Value} {nn : Nat} {m₀ : Str -> Option Value} {news : List (Addr × Obj)} (J : Nat -> (Str -> Option Value) -> List (Addr × Obj) -> Prop)
   (hh : A.handled = none) (hl : (l, listOf vs.toArray nn) ∈ news) (F : Fr h₀ env.locals s.heap m₀) (N : News h₀ env.locals s.heap news) (hj : J 0 m₀ news)
   (turn : ∀ i v m₁ news₁ h tk own, vs[i]? = some v -> (∃ o, (s.heap.objs.size, o) ∈ own) -> OwnOff own (news₁.map (·.1)) -> (l, listOf vs.toArray nn) ∈ news₁ -> J i m₁ news₁ -> Fr h₀ env.locals h (fun y => if y = x then some v else m₁ y) -> News h₀ env.locals h (news₁ ++ own) ->
     wpAny (model prog w) A (execs body env) (InvPostG h₀ env.locals (fun m' nx => (l, listOf vs.toArray nn) ∈ nx /\ J (i + 1) m' nx) own { s with heap := h, toks := tk } Q) E { s with heap := h, toks := tk })
   (done : ∀ m₁ news₁ h tk, (l, listOf vs.toArray nn) ∈ news₁ -> J vs.length m₁ news₁ -> Fr h₀ env.locals h m₁ -> News h₀ env.locals h news₁ -> Q .next { s with heap := h, toks := tk }) :
   wpAny (model prog w) A (pyIter (.ref l)) (fun it s₂ => LoopAtV prog w A h₀ env x body Q E it s₂) E s := by
 have hol : s.heap.get? l = some (listOf vs.toArray nn) := (N _ hl).1
 have hls : s.heap.IsList l vs.toArray := ⟨_, hol, rfl, nn, rfl⟩
 have hne : l ≠ s.heap.objs.size := Nat.ne_of_lt (Heap.lt_size hol)
 refine wpAny_pyIter_list hls ?_
 have W := Walks.list (prog := prog) (w := w) hh s.heap.objs.size l hne vs.toArray
 have hlen : vs.toArray.size = vs.length := by simp
 rw [hlen] at W
 refine ⟨_, _, _, vs.length, _, _, m₀, news, (fun i m nx => (l, listOf vs.toArray nn) ∈ nx /\ J i m nx), rfl, W, ?_, ?_, ?_, ⟨⟨_, Heap.get?_push_size _ rfl, rfl, rfl⟩, hls.at fun o e => Heap.get?_push_of_some _ e⟩, F.push _, (fun p hp => ⟨Heap.get?_push_of_some _ (N p hp).1, (N p hp).2⟩), ⟨hl, hj⟩, ?_, ?_⟩
 . intro hm
   rcases List.mem_cons.mp hm with e | hm
   . exact absurd F.ns.lt (e ▸ Nat.lt_irrefl _)
   . exact (N _ hl).2.1 ((List.mem_singleton.mp hm).symm)
 . intro b hb
   rw [List.mem_singleton.mp hb]
   exact next_is_new F
 . intro p hp hI
   exact absurd (Heap.lt_size (N p hp).1) ((List.mem_singleton.mp hI) ▸ Nat.lt_irrefl _)
 . rintro i v m₁ news₁ s₁ own ⟨hh', tk', rfl⟩ hin hP ⟨hl₁, hJ⟩ hoff hown hget hfp hst F₁ N₁
   have hI0 : h₀.get? s.heap.objs.size = none := next_is_new F
   obtain ⟨⟨oI, hoI, _⟩, _⟩ := id hst
   have hIown : (s.heap.objs.size, oI) ∈ own := hfp _ (List.mem_cons.mpr (.inl rfl)) hI0 _ hoI
   have hsep : OwnOff (own.filter fun p => decide (p.1 = s.heap.objs.size)) (news₁.map (·.1)) := by
     intro p hp b hb e
     obtain ⟨q, hq, rfl⟩ := List.mem_map.mp hb
     have h1 : p.1 = s.heap.objs.size := by simpa using (List.mem_filter.mp hp).2
     exact hoff q hq (List.mem_singleton.mpr (e ▸ h1))
   have hv : vs[i]? = some v := by simpa using hP
   have N₂ : News h₀ env.locals hh' (news₁ ++ own.filter fun p => decide (p.1 = s.heap.objs.size)) := fun p hp => N₁ p ((List.mem_append.mp hp).elim (fun h => List.mem_append.mpr (.inr h)) fun h => List.mem_append.mpr (.inl ((List.mem_filter.mp h).1)))
   have hlo : hh'.get? l = some (listOf vs.toArray nn) := (N₁ _ (List.mem_append.mpr (.inr hl₁))).1
   refine wpAny_mono (turn i v m₁ news₁ hh' tk' _ hv ⟨oI, List.mem_filter.mpr ⟨hIown, by simp⟩⟩ hsep hl₁ hJ F₁ N₂) (fun f s₂ p => ?_) fun _ _ e => e
   have fin : InvEndG h₀ env.locals (fun m' nx => (l, listOf vs.toArray nn) ∈ nx /\ J (i + 1) m' nx) (own.filter fun p => decide (p.1 = s.heap.objs.size)) { s with heap := hh', toks := tk' } s₂ ->
       LoopStepU h₀ env.locals [s.heap.objs.size] own (fun m nx => (l, listOf vs.toArray nn) ∈ nx /\ J (i + 1) m nx) { s with heap := hh', toks := tk' } .next s₂ := by
     (refine xq5 fun h' tk m' news' nx => ?_; refine aq7 fun e F' N' hn ho ha => ?_; intro hm)
     refine ⟨rfl, h', tk, m', nx, e, F', fun p hp => ?_, fun p hp hI => ?_, hm⟩
     . rcases List.mem_append.mp hp with h | h
       . by_cases hI : p.1 = s.heap.objs.size
         . exact N' p (ho p (List.mem_filter.mpr ⟨h, by simpa using hI⟩))
         . have h1 : p.1 = l := by
             rcases List.mem_cons.mp (hown p h) with h2 | h2
             . exact absurd h2 hI
             . exact List.mem_singleton.mp h2
           have h2 : hh'.get? p.1 = some p.2 := hget p h
           rw [h1, hlo] at h2
           have h3 : p = (l, listOf vs.toArray nn) := Prod.ext h1 (Option.some.inj h2).symm
           rw [h3]
           exact N' _ (hn _ hm.1)
       . exact N' p (hn p h)
     . exact ha _ (List.mem_filter.mpr ⟨hIown, by simp⟩) _ (List.mem_map.mpr ⟨p, hp, rfl⟩) (List.mem_singleton.mp hI).symm
   cases f with
   | ret v => exact .ret p
   | brk => exact .brk p
   | next => exact .next (fin p)
   | cont => exact .cont (fin p)
 . rintro h' tk m' news' F' N' _ ⟨hl', hJ⟩
   exact done m' news' h' tk hl' hJ F' N'
end
section
variable {prog : Program} {w : World} {A : Around} {E : Value -> Shared -> Prop} {s : Shared} {env : Env} {h₀ : Heap} {x : Str} {body : List Stmt} {Q : Flow -> Shared -> Prop}
theorem strLoop {l : Addr} {vs : List Value} {cs : List Str} {nn : Nat} {m₀ : Str -> Option Value} {news : List (Addr × Obj)} {y : Str} {a₀ : Value} (I : List Str -> Value -> Prop)
   (hh : A.handled = none) (hl : (l, W.listOf vs.toArray nn) ∈ news) (hs : StrsAre vs cs) (F : Fr h₀ env.locals s.heap m₀) (N : News h₀ env.locals s.heap news) (hy : m₀ y = some a₀) (hxy : y ≠ x) (hj : I cs a₀)
   (turn : ∀ c r t a h tk own, OwnOff own (news.map (·.1)) -> I (c :: r) a -> c ∈ cs -> Fr h₀ env.locals h (fun z => if z = x then some (.str c t) else if z = y then some a else m₀ z) -> News h₀ env.locals h (news ++ own) ->
     wpAny (model prog w) A (execs body env) (InvPostN h₀ env.locals (fun m' nx => nx = news /\ (∃ a', m' y = some a' /\ I r a') /\ ∀ z, z ≠ x -> z ≠ y -> m' z = m₀ z) own (news.map (·.1)) { s with heap := h, toks := tk } Q) E { s with heap := h, toks := tk })
   (done : ∀ a u h tk, I [] a -> Fr h₀ env.locals h (fun z => if z = x then u else if z = y then some a else m₀ z) -> News h₀ env.locals h news -> Q .next { s with heap := h, toks := tk }) :
   wpAny (model prog w) A (pyIter (.ref l)) (fun it s₂ => LoopAtV prog w A h₀ env x body Q E it s₂) E s := by
 have hlen : vs.length = cs.length := hs.length
 refine iter_any (m₀ := m₀) (nn := nn) (news := news) (fun i m nx => nx = news /\ (∃ a', m y = some a' /\ I (cs.drop i) a') /\ ∀ z, z ≠ x -> z ≠ y -> m z = m₀ z) hh hl F N ⟨rfl, ⟨a₀, hy, hj⟩, fun _ _ _ => rfl⟩ ?_ ?_
 . rintro i v m₁ news₁ h tk own hv _ hoff hl₁ ⟨rfl, ⟨a, ha, hI⟩, hz⟩ F₁ N₁
   have hi : i < cs.length := by rw [<- hlen]; exact (List.getElem?_eq_some_iff.mp hv).1
   obtain ⟨t, ht⟩ := hs.get i cs[i] (List.getElem?_eq_getElem hi)
   have hvt : v = .str cs[i] t := by rw [hv] at ht; exact Option.some.inj ht
   subst hvt
   rw [List.drop_eq_getElem_cons hi] at hI
   have F2 : Fr h₀ env.locals h (fun z => if z = x then some (.str cs[i] t) else if z = y then some a else m₀ z) := by
     have e : (fun z => if z = x then some (.str cs[i] t) else m₁ z) = (fun z => if z = x then some (Value.str cs[i] t) else if z = y then some a else m₀ z) := by
       funext z
       by_cases h1 : z = x
       . simp [h1]
       . by_cases h2 : z = y
         . rw [if_neg h1, if_neg h1, if_pos h2, h2, ha]
         . rw [if_neg h1, if_neg h1, if_neg h2, hz z h1 h2]
     rw [<- e]; exact F₁
   refine wpAny_mono (turn cs[i] (cs.drop (i + 1)) t a h tk own hoff hI (List.getElem_mem hi) F2 N₁) (fun f s₂ q => ?_) fun _ _ e => e
   have up : InvEndN h₀ env.locals (fun m' nx => nx = news₁ /\ (∃ a', m' y = some a' /\ I (cs.drop (i + 1)) a') /\ ∀ z, z ≠ x -> z ≠ y -> m' z = m₀ z) own (news₁.map (·.1)) { s with heap := h, toks := tk } s₂ ->
       InvEndG h₀ env.locals (fun m' nx => (l, W.listOf vs.toArray nn) ∈ nx /\ nx = news₁ /\ (∃ a', m' y = some a' /\ I (cs.drop (i + 1)) a') /\ ∀ z, z ≠ x -> z ≠ y -> m' z = m₀ z) own { s with heap := h, toks := tk } s₂ := by
     (refine xq5 fun h' tk' m' news' nx => ?_; refine aq8 fun e F' N' hn ho hadr eQ => ?_; subst eQ; intro hJ)
     exact ⟨h', tk', m', news', _, e, F', N', hn, ho, hoff, hl₁, rfl, hJ⟩
   cases f with
   | ret v => exact q
   | brk => exact q
   | next => exact up q
   | cont => exact up q
 . rintro m₁ news₁ h tk hl' ⟨rfl, ⟨a, ha, hI⟩, hz⟩ F' N'
   rw [hlen, List.drop_length] at hI
   refine done a (m₁ x) h tk hI ?_ N'
   have e : m₁ = (fun z => if z = x then m₁ x else if z = y then some a else m₀ z) := by
     funext z
     by_cases h1 : z = x
     . simp [h1]
     . by_cases h2 : z = y
       . rw [if_neg h1, if_pos h2, h2, ha]
       . rw [if_neg h1, if_neg h2, hz z h1 h2]
   rw [<- e]; exact F'
end
end Mine
end
section
open PySem PySem.Spec PySem.Calls PySem.W PyProof.Rows PySem.Builtin PySem.Builtin.Str
namespace Mine
open PySem.StrLaws in
theorem occ_go (x y : Str) (lo hi limit : Nat) (hl : 1 <= limit) :
   (occurrences x y lo hi limit = [] /\ ∀ i, lo <= i -> ¬ At x y hi i) \/
   ∃ i r, occurrences x y lo hi limit = i :: r /\ lo <= i /\ At x y hi i /\ ∀ k, lo <= k -> k < i -> ¬ At x y hi k := by
 rw [occ_eq]
 rcases occ_first x y hi limit hl (List.range' lo (hi + 1 - lo)) lo (fun i hi => by have := List.mem_range'_1.mp hi; lia) with ⟨h0, hn⟩ | ⟨pre, a, post, e, h0, ha, hn⟩
 . refine .inl ⟨by rw [h0], fun i hlo hi => ?_⟩
   exact hn i (by have := hi.1; rw [List.mem_range'_1]; lia) hi
 . have hs := range'_split_from e
   refine .inr ⟨a, ((forIn (List.range' lo (hi + 1 - lo)) ((#[] : Array Nat), lo) (occBody x y hi limit)).run.fst.toList).tail, ?_, hs.1, ha, fun k hk0 hk => hn k (hs.2 k hk0 hk)⟩
   generalize (forIn (List.range' lo (hi + 1 - lo)) ((#[] : Array Nat), lo) (occBody x y hi limit)).run.fst = arr at h0
   have h1 : arr.toList[0]? = some a := by simpa using h0
   cases hL : arr.toList with
   | nil => rw [hL] at h1; cases h1
   | cons b t => rw [hL] at h1; simp at h1; rw [h1]; rfl
theorem find4_cases (x y : Str) (i j : Int) : (find4 x y i j = -1 /\ ∀ k, fromIndex x.length i <= k -> ¬ StrLaws.At x y (min (fromIndex x.length j) x.length) k) \/
   ∃ k : Nat, find4 x y i j = k /\ fromIndex x.length i <= k /\ StrLaws.At x y (min (fromIndex x.length j) x.length) k /\ ∀ z, fromIndex x.length i <= z -> z < k -> ¬ StrLaws.At x y (min (fromIndex x.length j) x.length) z := by
 unfold find4
 rcases occ_go x y (fromIndex x.length i) (min (fromIndex x.length j) x.length) 1 (by decide) with ⟨e, h⟩ | ⟨k, r, e, h⟩
 . rw [e]; exact .inl ⟨rfl, h⟩
 . rw [e]; exact .inr ⟨k, rfl, h⟩
theorem find4_len (x y : Str) (i j : Int) (h : ¬ find4 x y i j < 0) : find4 x y i j + y.length <= x.length := by
 rcases find4_cases x y i j with ⟨e, _⟩ | ⟨k, e, _, hA, _⟩
 . rw [e] at h; exact absurd (by decide) h
 . rw [e]; have := hA.1; lia
end Mine
end
section
open PySem PySem.Spec PySem.Calls PySem.W PyProof.Rows PySem.Builtin PySem.Builtin.Re
namespace Mine
noncomputable def codeN : Array Nat := #[14, 10, 4, 1, 1, 22, 0, 31, 16, 127, 0, 13, 7, 22, 0, 31, 16, 127, 0, 1]
noncomputable def codeV : Array Nat := #[14, 14, 4, 1, 1, 9, 4294966783, 0, 0, 2147483648, 0, 0, 0, 0, 0, 13, 11, 9, 4294966783, 0, 0, 2147483648, 0, 0, 0, 0, 0, 1]
noncomputable def PlainC (c : Nat) : Prop := 32 <= c /\ c < 127
theorem inN (c : Nat) (h : PlainC c) (seen : Sre.Seen) : ∃ s', Sre.inSet codeN c codeN.size 5 true seen = .ok (false, s') := by
 obtain ⟨h1, h2⟩ := h
 have e1 : (0 <= c && c <= 31) = false := by simp; lia
 have e2 : (c == 127) = false := by simp; lia
 refine ⟨((seen.add 22).add 16).add 0, ?_⟩
 show (if (0 <= c && c <= 31) = true then _ else if (c == 127) = true then _ else _) = _
 rw [e1, e2]
 rfl
theorem inV (c : Nat) (h : PlainC c) (seen : Sre.Seen) : ∃ s', Sre.inSet codeV c codeV.size 5 true seen = .ok (false, s') := by
 obtain ⟨h1, h2⟩ := h
 have key : ∀ n < 127, 32 <= n -> (n < 256 && (codeV.getD (5 + (1 + n / 32)) 0).testBit (n % 32)) = false := by decide +kernel
 refine ⟨(seen.add 9).add 0, ?_⟩
 show (if (c < 256 && (codeV.getD (5 + (1 + c / 32)) 0).testBit (c % 32)) = true then _ else _) = _
 rw [key c h2 h1]
 rfl
theorem admitted_none (m : Sre.M) (hc : ∀ k, k < m.lim -> ∀ seen, ∃ s', Sre.inSet m.code (m.text.getD k 0) m.code.size 5 true seen = .ok (false, s')) : ∀ fuel s seen, ∃ s', Sre.M.admitted m fuel s seen = .ok (none, s')
 | 0, s, seen => ⟨_, rfl⟩
 | fuel + 1, s, seen => by
   unfold Sre.M.admitted
   by_cases h : s ≥ m.lim
   . rw [if_pos h]; exact ⟨_, rfl⟩
   . rw [if_neg h]
     obtain ⟨s', e⟩ := hc s (by lia) seen
     rw [e]
     exact admitted_none m hc fuel (s + 1) s'
noncomputable def Fails (m : Sre.M) : Prop := m.outcome.isSome = false /\ m.answer = some false /\ m.frames = []
theorem attempt_fails (m : Sre.M) (hf : m.hasFirstSet = true) (hc : ∀ k, k < m.lim -> ∀ seen, ∃ s', Sre.inSet m.code (m.text.getD k 0) m.code.size 5 true seen = .ok (false, s')) (h1 : m.outcome.isSome = false) (h2 : m.frames = []) (s : Nat) (b : Bool) : Fails (m.attemptFrom s b) := by
 unfold Sre.M.attemptFrom
 obtain ⟨s', e⟩ := admitted_none m hc (m.lim + 1 - s) s m.seen
 rw [hf, e]
 exact ⟨h1, rfl, h2⟩
theorem search_fails (code text : Array Nat) (groups lim : Nat) (hf : ((match Sre.ops[code.getD 0 0]? with | some .INFO => true | _ => false) && code.getD 2 0 == 4) = true)
   (hc : ∀ k, k < lim -> ∀ seen, ∃ s', Sre.inSet code (text.getD k 0) code.size 5 true seen = .ok (false, s')) : Fails (Sre.forSearch code text groups 0 lim false) := by
 unfold Sre.forSearch
 dsimp only
 split
 . exact ⟨rfl, rfl, rfl⟩
 . refine attempt_fails _ ?_ hc rfl rfl _ _
   exact hf
theorem fails_run {m : Sre.M} (h : Fails m) : (m.runFor reTurnSteps).outcome = some .failed := by
 obtain ⟨h1, h2, h3⟩ := h
 have e : m.step = { m with outcome := some .failed } := by
   unfold Sre.M.step
   rw [h1, h2, h3]
   rfl
 show (if m.outcome.isSome = true then m else Sre.M.runFor 3 m.step).outcome = _
 rw [h1]
 show (Sre.M.runFor 3 m.step).outcome = _
 rw [e]
 rfl
section
variable {prog : Program} {w : World} {A : Around} {E : Value -> Shared -> Prop} {s : Shared}
theorem wp_names (m : Sre.M) : ∀ (l : List Nat) {Q : PUnit -> Shared -> Prop} (h : Q ⟨⟩ s), wpAny (model prog w) A (forIn l PUnit.unit fun i _ => (if m.seen.has i = true then (rule (Sre.names.getD i "") >>= fun _ => pure (ForInStep.yield PUnit.unit)) else pure (ForInStep.yield PUnit.unit))) Q E s
 | [], _, h => wpAny_pure h
 | i :: r, Q, h => by
   rw [List.forIn_cons]
   refine wpAny_bind ?_
   split
   . exact wpAny_bind (wpAny_rule (wpAny_pure (wp_names m r h)))
   . exact wpAny_pure (wp_names m r h)
theorem wp_drive {m : Sre.M} (h : Fails m) {Q : Sre.M -> Shared -> Prop} (hq : ∀ m', m'.outcome = some .failed -> Q m' s) : wpAny (model prog w) A (reDrive (2 ^ 64) m) Q E s := by
 have e : (2 : Nat) ^ 64 = 18446744073709551615 + 1 := by decide
 have hr := fails_run h
 rw [e]
 show wpAny _ _ (if (m.runFor reTurnSteps).outcome.isSome = true then pure (m.runFor reTurnSteps) else _) _ _ _
 rw [hr]
 exact wpAny_pure (hq _ hr)
theorem wp_run {m : Sre.M} (h : Fails m) {Q : Option Sre.M -> Shared -> Prop} (hq : Q none s) : wpAny (model prog w) A (reRunToEnd m) Q E s := by
 unfold reRunToEnd
 refine wpAny_bind (wp_drive h fun m' hm => ?_)
 refine wpAny_bind ?_
 refine wp_names m' _ ?_
 rw [hm]
 exact wpAny_pure hq
theorem slot_search : Slot "re.Pattern" "search" "re.Pattern.search" :=
 .of (owner := "re.Pattern") (n := "search") (by rw [typeLookup_type, builtinLookup_eq_fast]; kernel_rfl) (by decide +kernel) (by decide +kernel) (by decide +kernel)
   (by first | exact .inl (by decide +kernel) | exact .inr (by decide +kernel)) (by rw [isSubtype_type]; kernel_rfl)
theorem entry_search : entryFor table "re.Pattern.search" = some Builtin.«re.Pattern.search» := entryFor_of_tree (by kernel_rfl)
theorem owner_re : Manifest.owners.lookup (String.ofList ['n', 'r', 'e', 't', 't', 'a', 'P', '.', 'e', 'r'].reverse) = some Manifest.sig_re_Pattern := by kernel_rfl
theorem args_search (a b : Value) : argsOk "re.Pattern.search" ⟨[a, b], []⟩ := by
 unfold argsOk; rw [signature?_of (id := "re.Pattern.search") (n := ['h', 'c', 'r', 'a', 'e', 's']) (o := ['n', 'r', 'e', 't', 't', 'a', 'P', '.', 'e', 'r']) (by kernel_rfl) owner_re]; kernel_rfl
structure IsRe (h : Heap) (q : Addr) (code : Array Nat) : Prop where
 ex : ∃ o vs c oc cs n, h.get? q = some o /\ o.cls = .type "re.Pattern" /\ o.dict = none /\ o.data = .fields vs /\ vs.getD 5 .none = .ref c /\ vs.getD 6 .none = .int 0 0 /\ h.get? c = some oc /\ oc.data = .seq cs n /\ (cs.map reRawOf).map (·.toNat) = code
theorem wp_named {x : Str} {t : Tok} {Q : List (Option Value) -> Shared -> Prop} (h : Q [some (.str x t), none, none] s) : wpAny (model prog w) A (reNamed "re.Pattern.search" "search" ["string", "pos", "endpos"] 1 [Value.str x t] []) Q E s := by
 have e : reNamed "re.Pattern.search" "search" ["string", "pos", "endpos"] 1 [Value.str x t] [] = pure [some (.str x t), none, none] := by rfl
 rw [e]; exact wpAny_pure h
theorem wp_textOf {x : Str} {t : Tok} {Q : Array Nat × Nat -> Shared -> Prop} (h : Q (x.cps, 0) s) : wpAny (model prog w) A (reTextOf (.str x t)) Q E s := by
 have e : reTextOf (.str x t) = pure (x.cps, 0) := by rfl
 rw [e]; exact wpAny_pure h
theorem wp_noColl {v : Value} {Q : Unit -> Shared -> Prop} (h : Q () s) : wpAny (model prog w) A (reNoCollectionInside v 0) Q E s := by
 have e : reNoCollectionInside v 0 = pure () := by rfl
 rw [e]; exact wpAny_pure h
theorem wp_search {q : Addr} {x : Str} {t : Tok} {code : Array Nat} (R : IsRe s.heap q code) (hf : ((match Sre.ops[code.getD 0 0]? with | some .INFO => true | _ => false) && code.getD 2 0 == 4) = true)
   (hc : ∀ k, k < x.length -> ∀ seen, ∃ s', Sre.inSet code (x.cps.getD k 0) code.size 5 true seen = .ok (false, s')) {Q : PySem.Fin -> Shared -> Prop} (hq : Q (.done (.ret .none)) s) : wpAny (model prog w) A (Builtin.«re.Pattern.search» ⟨[.ref q, .str x t], []⟩) Q E s := by
 (have hQ := R.ex; revert hQ; refine xq6 fun o vs c oc cs n => ?_; refine aq9 fun h1 h2 _ h3 h4 h5 h6 h7 => ?_; intro h8)
 unfold Builtin.«re.Pattern.search»
 refine wpAny_bind ?_
 unfold reTarget
 dsimp only
 refine wpAny_bind (wp_named ?_)
 dsimp only
 refine wpAny_bind (wpAny_pure ?_)
 refine wpAny_bind (wpAny_pure ?_)
 refine wpAny_bind (wpAny_fieldsOf h1 h3 ?_)
 refine wpAny_bind (wp_textOf ?_)
 rw [h4, h5]
 rw [if_neg (show ¬ ((reRawNat (.int 0 0) == 0 && (x.cps, 0).snd == 1) = true) from (by decide : ¬ ((reRawNat (.int 0 0) == 0 && (0 : Nat) == 1) = true))), if_neg (show ¬ ((reRawNat (.int 0 0) == 1 && (x.cps, 0).snd == 0) = true) from (by decide : ¬ ((reRawNat (.int 0 0) == 1 && (0 : Nat) == 0) = true)))]
 refine wpAny_bind (wp_noColl ?_)
 refine wpAny_bind ?_
 unfold reRawItems
 refine wpAny_bind (wpAny_seqItems h6 h7 ?_)
 refine wpAny_pure ?_
 refine wpAny_pure ?_
 unfold reAnswer
 refine wpAny_bind (wp_run ?_ ?_)
 . dsimp only
   have e1 : Min.min (0 : Int).toNat x.cps.size = 0 := by simp
   have e2 : Min.min ((2 ^ 63 - 1 : Int)).toNat x.cps.size <= x.cps.size := Nat.min_le_right _ _
   rw [e1]
   refine search_fails _ _ _ _ ?_ ?_
   . rw [show Array.map (fun x => x.toNat) (Array.map reRawOf ((some cs).getD #[])) = code from h8]; exact hf
   . rw [show Array.map (fun x => x.toNat) (Array.map reRawOf ((some cs).getD #[])) = code from h8]
     intro k hk seen
     exact hc k (Nat.lt_of_lt_of_le hk e2) seen
 . exact wpAny_pure hq
theorem plainAttrs_re : PlainAttrs "re.Pattern" :=
 ⟨⟨"object.__getattribute__", by rw [typeLookup_type, builtinLookup_eq_fast]; kernel_rfl, by decide +kernel⟩, by rw [typeLookup_type, builtinLookup_eq_fast]; kernel_rfl⟩
theorem type_search : typeOf (.builtin "re.Pattern.search") = pure (.type "method_descriptor") := by show builtinType _ = _; rw [builtinType_eq_fast]; kernel_rfl
theorem getMethod_re {q : Addr} {code : Array Nat} {pl : Sem Bool} {Q : Value × List Value -> Shared -> Prop} (R : IsRe s.heap q code) (h : Q (.builtin "re.Pattern.search", [.ref q]) s) : wpAny (model prog w) A (getMethod (.ref q) "search" pl) Q E s := by
 (have hQ := R.ex; revert hQ; refine xq6 fun o vs c oc cs n => ?_; refine aq4 fun h1 h2 hd => ?_; intro _)
 exact getMethod_builtin (s := s) ⟨o, h1, h2⟩ plainAttrs_re slot_search type_search (fun a e => by cases e; exact ⟨o, h1, hd⟩) h
theorem re_search {q : Addr} {x : Str} {t : Tok} {code : Array Nat} {Q : Value -> Shared -> Prop} (R : IsRe s.heap q code) (hf : ((match Sre.ops[code.getD 0 0]? with | some .INFO => true | _ => false) && code.getD 2 0 == 4) = true)
   (hc : ∀ k, k < x.length -> ∀ seen, ∃ s', Sre.inSet code (x.cps.getD k 0) code.size 5 true seen = .ok (false, s')) (hq : Q .none s) : wpAny (model prog w) A (call (.builtin "re.Pattern.search") [.ref q, .str x t]) Q E s := by
 have hT : s.TypeIs (.ref q) "re.Pattern" := by (have hQ := R.ex; revert hQ; refine xq6 fun o vs c oc cs n => ?_; refine aq3 fun h1 h2 => ?_; intro _); exact ⟨o, h1, h2⟩
 exact wpAny_call (codeAny_call_builtin slot_search.plain entry_search (slot_search.check _ _ _ _ _ _ _ _ hT (args_search _ _) (wp_search R hf hc hq)))
end
noncomputable def PlainT (x : Str) : Prop := ∀ k, k < x.length -> PlainC (x.cps.getD k 0)
section
variable {prog : Program} {w : World} {A : Around} {E : Value -> Shared -> Prop} {s : Shared} {q : Addr} {x : Str} {t : Tok} {Q : Value -> Shared -> Prop}
theorem re_searchN (R : IsRe s.heap q codeN) (hx : PlainT x) (hq : Q .none s) : wpAny (model prog w) A (call (.builtin "re.Pattern.search") [.ref q, .str x t]) Q E s := re_search R (by decide +kernel) (fun k hk => inN _ (hx k hk)) hq
theorem re_searchV (R : IsRe s.heap q codeV) (hx : PlainT x) (hq : Q .none s) : wpAny (model prog w) A (call (.builtin "re.Pattern.search") [.ref q, .str x t]) Q E s := re_search R (by decide +kernel) (fun k hk => inV _ (hx k hk)) hq
end
end Mine
end
section
open PySem PySem.Spec PySem.Calls PySem.W PyProof.Rows
namespace Mine
section
variable {prog : Program} {w : World} {A₀ A : Around} {s : Shared} {base h₀ : Heap} {outer : List Env} {L : Addr} {m mg mb : Str -> Option Value} {env : Env} {news : List (Addr × Obj)} {K : Frag} {p : Program} {loose : List Str} {mean : ExcName -> Option Value}
 {R : Result -> Shared -> Prop} {name qual : Str} {params : Arguments} {body : List Stmt} {scope : Scope} {dV kV doc pm cdv ct oc : Value} {an od : Option Addr} {osl : Array (Option Value)} {f : Addr} {args : Args} {binds : List (Str × Value)}
theorem code_defCG (B : Below A₀ base outer h₀) (F : Fr h₀ L s.heap m) (X₀ : K.In h₀) (N : News h₀ L s.heap news) (T : Top p loose mean mg mb h₀) (hA : A.frames = some (env :: outer)) (hf : env.frame = some L) (hke : env.scope.kind = .function)
   (ho : K.lookup f = some ⟨oc, od, .func (fnOf name qual params body scope dV kV doc pm an cdv ct), osl⟩) (hcd : codeIn K cdv qual = true) (hroom : A.depth < recursionLimit)
   (hbind : BindsTo s (fnOf name qual params body scope dV kV doc pm an cdv ct) args binds) (hkind : (binds.all fun y => scope.names.lookup y.1 == some .local || scope.names.lookup y.1 == some .cell) = true)
   (hnd : ((cellsFrom 0 scope.names []).map (·.1)).Nodup)
   (h : ∀ g L' h₁ tk cells, GSub s.heap g (news.map (·.1)) -> Fr h₀ L g m -> Fr g L' h₁ (bindL (envOfC qual scope L' f cdv).kindOf binds fun _ => none) -> News g L' h₁ (cells ++ news) ->
     CellsAre (bindC (envOfC qual scope L' f cdv).kindOf binds fun _ => none) (cellsFrom (L' + 1) scope.names []) cells -> Below A base (env :: outer) g -> K.In g -> Top p loose mean mg mb g -> (∀ p ∈ news, p.1 < L') ->
     wpAny (model prog w) (A.deeper (envOfC qual scope L' f cdv)) (execs body (envOfC qual scope L' f cdv))
       (fun fl s' => LeaveK h₀ L m g R (match fl with | .ret v => v | _ => .none) s')
       (fun e s' => wpAny (model prog w) (A.deeper (envOfC qual scope L' f cdv)) (leaving (envOfC qual scope L' f cdv) e) (fun _ s'' => R (.error e) s'') (fun e' s'' => R (.error e') s'') s')
       { s with heap := h₁, toks := tk })
   (hco : scope.isCoroutine = false) (hgen : scope.isGenerator = false) (hk : scope.kind = .function) : codeAny (model prog w) A (.call (.ref f) args) R s := by
 obtain ⟨FG, BG, st, lv⟩ := groundX (R := R) B F N hA hf hke
 have hlim := T.nolimit
 refine codeAny_call_function hroom ((X₀.keeps F.keep) _ _ ho) rfl hco hgen rfl (codeRec_of (X₀.keeps F.keep) hcd) (hbind _ _ _ _ ?_)
 refine wpAny_newFunctionEnv_cells hk (kindsX hkind _) fun env' he s' x => ?_
 subst he
 refine ⟨(hlim.keeps F.keep).keeps x.toInCall.keep, codeAny_func ?_⟩
 obtain ⟨h₁, tk, rfl, _⟩ := x.done
 have hk₁ := x.toInCall.keep
 obtain ⟨cells, NC, Y⟩ := Cl.news (h₀ := s.heap) (Nat.le_refl _) fun n c hm => ⟨x.cell n c (lookup_of_mem_nodup (cellsFrom_names scope.names 0 (s.heap.objs.size + 1) [] [] rfl ▸ hnd) hm), x.above n c hm⟩
 refine wpAny_mono (h _ s.heap.objs.size h₁ tk cells (fun b o e n => hideAll_get _ e n) FG ⟨x.toInCall.ns, fun b o e => hk₁ b o (of_hideAll _ e), Nat.le_of_eq (hideAll_size _ _)⟩ (fun p hp => ?_) Y BG (X₀.keeps st) (T.keeps st) (fun p hp => Heap.lt_size (N p hp).1)) (fun fl s' hl => lv _ _ hl) fun _ _ y => y
 rcases List.mem_append.mp hp with hp | hp
 . refine ⟨(NC p hp).1, (NC p hp).2.1, ?_⟩
   cases q : (hideAll s.heap (news.map (·.1))).get? p.1 with
   | none => rfl
   | some o => have := of_hideAll _ q; rw [(NC p hp).2.2] at this; cases this
 . exact ⟨hk₁ _ _ (N p hp).1, Nat.ne_of_lt (Heap.lt_size (N p hp).1), hideAll_none _ (List.mem_map_of_mem hp)⟩
end
section
variable {w : World} {dp un : Nat} {gd : Option (List Code)} {cn : Str} {cs : Scope} {a : Addr} {ccd : Value} {cl : List (Str × Addr)} {outer : List Env} {A₀ : Around} {base h₀ h h' : Heap} {L : Addr} {m : Str -> Option Value} {s : Shared}
 {p : Program} {loose : List Str} {mean : ExcName -> Option Value} {mg mb : Str -> Option Value} {news : List (Addr × Obj)} {Q E : Value -> Shared -> Prop} {k k' : Nat}
 {name qual : Str} {params : Arguments} {body : List Stmt} {scope : Scope} {dV kV doc pm cdv ct oc : Value} {an od : Option Addr} {osl : Array (Option Value)} {f : Addr}
noncomputable def scopeOkC (scope : Scope) : Bool := !scope.isCoroutine && !scope.isGenerator && scope.kind == .function
theorem enterC {pos : List Value} {kw : List (Str × Value)} (binds : List (Str × Value)) {body' : List Stmt} {scope' : Scope} (C : Cx w dp un cs outer A₀ base h₀ L m s.heap p loose mean mg mb (k + 1)) (N : News h₀ L s.heap news)
   (ho : (K w.params).lookup f = some ⟨oc, od, .func (fnOf name qual params body scope dV kV doc pm an cdv ct), osl⟩) (hcd : codeIn (K w.params) cdv qual = true)
   (hbind : BindsTo s (fnOf name qual params body scope dV kV doc pm an cdv ct) ⟨pos, kw⟩ binds) (hkind : (binds.all fun y => scope.names.lookup y.1 == some .local || scope.names.lookup y.1 == some .cell) = true)
   (hnd : ((cellsFrom 0 scope.names []).map (·.1)).Nodup) (hsc : scopeOkC scope = true) (hb : body = body') (hs : scope = scope')
   (h : ∀ g L' h₁ tk cells, GSub s.heap g (news.map (·.1)) -> Cx w (dp + 1) (un + 3) scope' (envX cn cs L a ccd cl :: outer) (ktrTop dp un gd cn cs L a ccd cl outer) base g L' (bindL (envOfC qual scope' L' f cdv).kindOf binds fun _ => none) h₁ p loose mean mg mb k -> News g L' h₁ (cells ++ news) ->
     CellsAre (bindC (envOfC qual scope' L' f cdv).kindOf binds fun _ => none) (cellsFrom (L' + 1) scope'.names []) cells -> Fr h₀ L g m -> (∀ p ∈ news, p.1 < L') ->
     wpAny (model pw_sr0088_01 w) ((ktrTop dp un gd cn cs L a ccd cl outer).deeper (envOfC qual scope' L' f cdv)) (execs body' (envOfC qual scope' L' f cdv))
       (fun fl s' => LeaveK h₀ L m g (fun r s' => match r with | .ok (.ret v) => Q v s' | .ok _ => False | .error e => E e s') (match fl with | .ret v => v | _ => .none) s')
       (fun e s' => wpAny (model pw_sr0088_01 w) ((ktrTop dp un gd cn cs L a ccd cl outer).deeper (envOfC qual scope' L' f cdv)) (leaving (envOfC qual scope' L' f cdv) e) (fun _ s'' => E e s'') (fun e' s'' => E e' s'') s')
       { s with heap := h₁, toks := tk }) :
   wpAny (model pw_sr0088_01 w) (ktrTop dp un gd cn cs L a ccd cl outer) (call (.ref f) pos kw) Q E s := by
 subst hb hs
 simp only [scopeOkC, Bool.and_eq_true, Bool.not_eq_true', beq_iff_eq] at hsc
 obtain ⟨⟨h1, h2⟩, h3⟩ := hsc
 have hd := C.hd
 have hu := C.hu
 refine wpAny_call ?_
 exact code_defCG (env := envX cn cs L a ccd cl) (outer := outer) C.B C.F C.X N C.T rfl rfl C.hk ho hcd (by show dp < _; lia) hbind hkind hnd
   (fun g L' h₁ tk cells G FG F' N' Y B' X' T' l => h g L' h₁ tk cells G ⟨B', F', X', T', h3, by lia, by lia⟩ N' Y FG l) h1 h2 h3
end
noncomputable def KpB (ad : List Addr) (h h' : Heap) : Prop := ∀ b o, b ∉ ad -> h.get? b = some o -> h'.get? b = some o
theorem KpB.refl {ad : List Addr} (h : Heap) : KpB ad h h := fun _ _ _ e => e
theorem KpB.trans {ad : List Addr} {a b c : Heap} (x : KpB ad a b) (y : KpB ad b c) : KpB ad a c := fun i o n e => y i o n (x i o n e)
theorem Kp.b {ad : List Addr} {h h' : Heap} (x : Kp h h') : KpB ad h h' := fun b o _ e => x b o e
theorem KpB.le {ad ad' : List Addr} {h h' : Heap} (x : KpB ad h h') (i : ∀ b ∈ ad, b ∈ ad') : KpB ad' h h' := fun b o n e => x b o (fun q => n (i b q)) e
theorem kpB_of {H g h' : Heap} {ad : List Addr} {L' : Addr} {m' : Str -> Option Value} {news news' : List (Addr × Obj)} (G : GSub H g (news.map (·.1))) (F : Fr g L' h' m') (N' : News g L' h' news')
   (hs : ∀ p ∈ news, p.1 ∈ ad \/ (p ∈ news' /\ H.get? p.1 = some p.2)) : KpB ad H h' := by
 intro b o n e
 by_cases hb : b ∈ news.map (·.1)
 . obtain ⟨p, hp, rfl⟩ := List.mem_map.mp hb
   rcases hs p hp with h | ⟨h, hH⟩
   . exact absurd h n
   . have h1 := (N' p h).1
     rw [hH] at e
     exact e ▸ h1
 . exact F.keep b o (G b o e hb)
theorem kp_of {H g h' : Heap} {L' : Addr} {m' : Str -> Option Value} {news news' : List (Addr × Obj)} (G : GSub H g (news.map (·.1))) (F : Fr g L' h' m') (N' : News g L' h' news')
   (hs : ∀ p ∈ news, p ∈ news' /\ H.get? p.1 = some p.2) : Kp H h' := fun b o e => kpB_of (ad := []) G F N' (fun p hp => .inr (hs p hp)) b o (by simp) e
theorem fresh1 {H g h' : Heap} {L' : Addr} {ad : List Addr} {news' : List (Addr × Obj)} {p : Addr × Obj} (G : GSub H g ad) (N' : News g L' h' news') (hp : p ∈ news') (hne : p.1 ∉ ad) : h'.get? p.1 = some p.2 /\ H.get? p.1 = none := by
 refine ⟨(N' p hp).1, ?_⟩
 cases e : H.get? p.1 with
 | none => rfl
 | some o => have := G _ _ e hne; rw [(N' p hp).2.2] at this; cases this
theorem notIn0 {b : Nat} : b ∉ ([] : List Nat) := by simp
theorem notIn1 {b x : Nat} {l : List Nat} (h : b ≠ x) (r : b ∉ l) : b ∉ x :: l := by simp [h, r]
theorem frKeepB {h₀ h h' : Heap} {L : Addr} {m : Str -> Option Value} {ad : List Addr} (F : Fr h₀ L h m) (k : KpB ad h h') (hn : ∀ b ∈ ad, h₀.get? b = none /\ b ≠ L) : Fr h₀ L h' m := by
 (have hQ := F.ns; revert hQ; refine xq3 fun oL es ep => ?_; refine aq2 fun hL => ?_; intro r)
 exact ⟨⟨oL, es, ep, k _ _ (fun q => (hn _ q).2 rfl) hL, r⟩, fun b o e => k b o (fun q => by rw [(hn _ q).1] at e; cases e) (F.keep b o e), F.above⟩
open PyProof.Rows.LCg PyProof.Rows.LCt
noncomputable def TurnEnd (h₀ : Heap) (L : Addr) (m : Str -> Option Value) (s₁ : Shared) (led : List (Addr × Obj)) (R : Value -> Prop) (y : Value) (s₂ : Shared) : Prop :=
 ∃ h' tk', s₂ = { s₁ with heap := h', toks := tk' } /\ Fr h₀ L h' m /\ News h₀ L h' led /\ R y
section
variable {prog : Program} {w : World} {A : Around} {s : Shared} {h₀ : Heap} {L : Addr} {m : Str -> Option Value} {env : Env}
theorem TurnEnd.intro {led all : List (Addr × Obj)} {R : Value -> Prop} {y : Value} {h' : Heap} {tk : Nat} {s₁ : Shared} (F : Fr h₀ L h' m) (N : News h₀ L h' all) (sub : ∀ p ∈ led, p ∈ all) (r : R y) : TurnEnd h₀ L m s₁ led R y { s₁ with heap := h', toks := tk } := ⟨h', tk, rfl, F, fun p hp => N p (sub p hp), r⟩
theorem turnsT {ct elt : Expr} {x : Str} {scope : Scope} {cl : List (Str × Addr)} {its : List Value} {S : List (Addr × Obj) -> Prop} {Fin : List Value -> List (Addr × Obj) -> Prop} {news : List (Addr × Obj)} (J : List Value -> List Value -> Prop)
   (hS : S news) (h0 : J [] [])
   (turn : ∀ pre v post ys I oI C oC D m₂ h tk (E' : Value -> Shared -> Prop), its = pre ++ v :: post -> J pre ys -> NsObj oC m₂ -> m₂ x = some v -> Fr h₀ L h m -> News h₀ L h ((I, oI) :: (C, oC) :: (D, lst ys) :: news) -> Off3 I C D news -> ((@Ne Nat I C) /\ (@Ne Nat I D) /\ (@Ne Nat C D)) ->
     wpAny (model prog w) A (isTrue ct (compEnvC scope cl C env) (eval ct (compEnvC scope cl C env))) (fun ok s' => if ok = true then
       wpAny (model prog w) A (eval elt (compEnvC scope cl C env)) (TurnEnd h₀ L m { s with heap := h, toks := tk } ((I, oI) :: (C, oC) :: (D, lst ys) :: news) (fun y => J (pre ++ [v]) (ys ++ [y]))) E' s'
       else TurnEnd h₀ L m { s with heap := h, toks := tk } ((I, oI) :: (C, oC) :: (D, lst ys) :: news) (fun _ => J (pre ++ [v]) ys) Value.none s') E' { s with heap := h, toks := tk })
   (fin : ∀ ys, J its ys -> Fin ys news) : CompRestT prog w A h₀ L m env ct elt x scope cl s S (fun i v => its.toArray[i]? = some v) Fin its.toArray.size 0 [] news := by
 have key : ∀ (post pre ys : List Value), its = pre ++ post -> J pre ys -> CompRestT prog w A h₀ L m env ct elt x scope cl s S (fun i v => its.toArray[i]? = some v) Fin post.length pre.length ys news := by
   intro post
   induction post with
   | nil => intro pre ys e hJ; exact fin ys (by rw [e, List.append_nil]; exact hJ)
   | cons u post ih =>
     intro pre ys e hJ v I oI C oC D m₂ h tk E' hP hO hx F N off hne
     have hv : v = u := by
       have hP' : its[pre.length]? = some v := by simpa using hP
       rw [e, List.getElem?_append_right (Nat.le_refl _), Nat.sub_self] at hP'
       exact (Option.some.inj hP').symm
     subst hv
     have ih' := fun ys' hJ' => ih (pre ++ [v]) ys' (by rw [e]; simp) hJ'
     rw [List.length_append, List.length_singleton] at ih'
     refine wpAny_mono (turn pre v post ys I oI C oC D m₂ h tk E' e hJ hO hx F N off hne) (fun ok s' q => ?_) fun _ _ e => e
     cases ok with
     | true =>
       rw [if_pos rfl] at q ⊢
       refine wpAny_mono q (fun y s'' z => ?_) fun _ _ e => e
       (revert z; refine xq2 fun h' tk' => ?_; refine aq2 fun eQ => ?_; subst eQ; refine aq3 fun F' N' => ?_; intro r)
       exact CompEnd.intro F' N' news (fun p hp => hp) off hS (ih' _ r)
     | false =>
       rw [if_neg (by decide)] at q ⊢
       (revert q; refine xq2 fun h' tk' => ?_; refine aq2 fun eQ => ?_; subst eQ; refine aq3 fun F' N' => ?_; intro r)
       exact CompEnd.intro F' N' news (fun p hp => hp) off hS (ih' _ r)
 have := key its [] [] rfl h0
 simpa using this
theorem turnsU {elt : Expr} {x : Str} {scope : Scope} {cl : List (Str × Addr)} {its : List Value} {S : List (Addr × Obj) -> Prop} {Fin : List Value -> List (Addr × Obj) -> Prop} {news : List (Addr × Obj)} (J : List Value -> List Value -> Prop)
   (hS : S news) (h0 : J [] [])
   (turn : ∀ pre v post ys I oI C oC D m₂ h tk (E' : Value -> Shared -> Prop), its = pre ++ v :: post -> J pre ys -> NsObj oC m₂ -> m₂ x = some v -> Fr h₀ L h m -> News h₀ L h ((I, oI) :: (C, oC) :: (D, lst ys) :: news) -> Off3 I C D news -> ((@Ne Nat I C) /\ (@Ne Nat I D) /\ (@Ne Nat C D)) ->
     wpAny (model prog w) A (eval elt (compEnvC scope cl C env)) (TurnEnd h₀ L m { s with heap := h, toks := tk } ((I, oI) :: (C, oC) :: (D, lst ys) :: news) (fun y => J (pre ++ [v]) (ys ++ [y]))) E' { s with heap := h, toks := tk })
   (fin : ∀ ys, J its ys -> Fin ys news) : CompRest prog w A h₀ L m env elt x scope cl s S (fun i v => its.toArray[i]? = some v) Fin its.toArray.size 0 [] news := by
 have key : ∀ (post pre ys : List Value), its = pre ++ post -> J pre ys -> CompRest prog w A h₀ L m env elt x scope cl s S (fun i v => its.toArray[i]? = some v) Fin post.length pre.length ys news := by
   intro post
   induction post with
   | nil => intro pre ys e hJ; exact fin ys (by rw [e, List.append_nil]; exact hJ)
   | cons u post ih =>
     intro pre ys e hJ v I oI C oC D m₂ h tk E' hP hO hx F N off hne
     have hv : v = u := by
       have hP' : its[pre.length]? = some v := by simpa using hP
       rw [e, List.getElem?_append_right (Nat.le_refl _), Nat.sub_self] at hP'
       exact (Option.some.inj hP').symm
     subst hv
     have ih' := fun ys' hJ' => ih (pre ++ [v]) ys' (by rw [e]; simp) hJ'
     rw [List.length_append, List.length_singleton] at ih'
     refine wpAny_mono (turn pre v post ys I oI C oC D m₂ h tk E' e hJ hO hx F N off hne) (fun y s'' z => ?_) fun _ _ e => e
     (revert z; refine xq2 fun h' tk' => ?_; refine aq2 fun eQ => ?_; subst eQ; refine aq3 fun F' N' => ?_; intro r)
     exact CompEnd.intro F' N' news (fun p hp => hp) off hS (ih' _ r)
 have := key its [] [] rfl h0
 simpa using this
end
noncomputable def noTup (o : Obj) : Bool := match o.cls with | .type t => t != "tuple" | _ => true
theorem tup_gsub {H g h₀ : Heap} {L a : Addr} {items : Array Value} {news : List (Addr × Obj)} (G : GSub H g (news.map (·.1))) (N : News h₀ L H news) (hc : (news.all fun p => noTup p.2) = true) (T : IsTup H a items) : IsTup g a items := by
 obtain ⟨o, ho, hcl, r⟩ := T
 refine ⟨o, G a o ho fun hm => ?_, hcl, r⟩
 obtain ⟨p, hp, e⟩ := List.mem_map.mp hm
 have h1 := (N p hp).1
 rw [e, ho] at h1
 have h2 := List.all_eq_true.mp hc p hp
 rw [<- Option.some.inj h1] at h2
 unfold noTup at h2
 rw [hcl] at h2
 exact absurd h2 (by decide)
inductive HIt (h : Heap) : List Value -> List (Str × Str) -> Prop
 | nil : HIt h [] []
 | cons {a : Addr} {k v : Str} {t1 t2 : Tok} {vs : List Value} {its : List (Str × Str)} : IsTup h a #[.str k t1, .str v t2] -> HIt h vs its -> HIt h (.ref a :: vs) ((k, v) :: its)
theorem HIt.len {h : Heap} : ∀ {vs : List Value} {its : List (Str × Str)}, HIt h vs its -> vs.length = its.length
 | _, _, .nil => rfl
 | _, _, .cons _ r => by simp [r.len]
theorem HIt.keep {h h' : Heap} (k : ∀ a items, IsTup h a items -> IsTup h' a items) : ∀ {vs : List Value} {its : List (Str × Str)}, HIt h vs its -> HIt h' vs its
 | _, _, .nil => .nil
 | _, _, .cons x r => .cons (k _ _ x) (r.keep k)
theorem HIt.at {h : Heap} : ∀ {pre : List Value} {v : Value} {post : List Value} {its : List (Str × Str)}, HIt h (pre ++ v :: post) its -> ∃ i1 k x i2 a t1 t2, its = i1 ++ (k, x) :: i2 /\ i1.length = pre.length /\ v = .ref a /\ IsTup h a #[.str k t1, .str x t2] := by
 intro pre
 induction pre with
 | nil =>
   intro v post its H
   rw [List.nil_append] at H
   cases H with
   | cons x r => exact ⟨[], _, _, _, _, _, _, rfl, rfl, rfl, x⟩
 | cons p pre ih =>
   intro v post its H
   rw [List.cons_append] at H
   cases H with
   | cons x r =>
     (have hQ := ih r; revert hQ; refine xq7 fun i1 k y i2 a t1 t2 => ?_; refine aq2 fun eQ => ?_; subst eQ; refine aq3 fun e eQ => ?_; subst eQ; intro z)
     exact ⟨_ :: i1, k, y, i2, a, t1, t2, rfl, by simp [e], rfl, z⟩
theorem take_next {α β : Type} {its i1 i2 : List α} {x : α} {pre : List β} {v : β} (e : its = i1 ++ x :: i2) (e3 : i1.length = pre.length) : its.take (pre ++ [v]).length = its.take pre.length ++ [x] := by
 subst e
 rw [List.length_append, List.length_singleton, <- e3]
 simp [List.take_append]
 exact List.take_of_length_le (Nat.le_succ _)
theorem filt_yes {α β γ : Type} {its i1 i2 : List α} {x : α} {pre : List β} {v : β} {P : α -> Bool} {f : α -> γ} (e : its = i1 ++ x :: i2) (e3 : i1.length = pre.length) (h : P x = true) : ((its.take (pre ++ [v]).length).filter P).map f = ((its.take pre.length).filter P).map f ++ [f x] := by
 rw [take_next e e3, List.filter_append, List.map_append]; simp [h]
theorem filt_no {α β γ : Type} {its i1 i2 : List α} {x : α} {pre : List β} {v : β} {P : α -> Bool} {f : α -> γ} (e : its = i1 ++ x :: i2) (e3 : i1.length = pre.length) (h : P x = false) : ((its.take (pre ++ [v]).length).filter P).map f = ((its.take pre.length).filter P).map f := by
 rw [take_next e e3, List.filter_append, List.map_append]; simp [h]
noncomputable def selZ (P : Str × Str -> Bool) (vs : List Value) (its : List (Str × Str)) : List Value := ((vs.zip its).filter (fun p => P p.2)).map (·.1)
theorem HIt.sel {h : Heap} {P : Str × Str -> Bool} : ∀ {vs : List Value} {its : List (Str × Str)}, HIt h vs its -> HIt h (selZ P vs its) (its.filter P)
 | _, _, .nil => .nil
 | _, _, .cons (k := k) (v := v) x r => by
   have ih := r.sel (P := P)
   unfold selZ at ih ⊢
   rw [List.zip_cons_cons, List.filter_cons, List.filter_cons]
   cases e : P (k, v) with
   | true => simp only [if_true]; exact .cons x ih
   | false => simp only [Bool.false_eq_true, if_false]; exact ih
theorem selZ_len {P : Str × Str -> Bool} {vs : List Value} {its : List (Str × Str)} : (selZ P vs its).length <= vs.length := by
 unfold selZ
 rw [List.length_map]
 refine Nat.le_trans (List.length_filter_le _ _) ?_
 rw [List.length_zip]; exact Nat.min_le_left _ _
theorem zip_at {pre post : List Value} {v : Value} {i1 i2 : List (Str × Str)} {x : Str × Str} (e3 : i1.length = pre.length) : (pre ++ v :: post).zip (i1 ++ x :: i2) = pre.zip i1 ++ (v, x) :: post.zip i2 := by
 rw [List.zip_append e3.symm, List.zip_cons_cons]
theorem HIt.append {h : Heap} {b : List Value} {j : List (Str × Str)} (y : HIt h b j) : ∀ {a : List Value} {i : List (Str × Str)}, HIt h a i -> HIt h (a ++ b) (i ++ j)
 | _, _, .nil => y
 | _, _, .cons x r => .cons x (HIt.append y r)
theorem newsFresh {g h h' : Heap} {L : Addr} {m : Str -> Option Value} {news l : List (Addr × Obj)} (F : Fr g L h m) (N : News g L h news) (k : Kp h h') (fr : Fresh h h' l) : News g L h' (l ++ news) := by
 intro p hp
 rcases List.mem_append.mp hp with hp | hp
 . obtain ⟨h1, h2⟩ := fr p hp
   refine ⟨h1, fun e => ?_, ?_⟩
   . (have hQ := F.ns; revert hQ; refine xq3 fun oL es ep => ?_; refine aq2 fun hL => ?_; intro _)
     rw [e, hL] at h2; cases h2
   . cases e : g.get? p.1 with
     | none => rfl
     | some o => have := F.keep _ _ e; rw [h2] at this; cases this
 . exact ⟨k _ _ (N p hp).1, (N p hp).2⟩
noncomputable def AllNe (d : Addr) : List (Addr × Obj) -> Prop
 | [] => True
 | p :: r => @Ne Nat p.1 d /\ AllNe d r
theorem allNe_of {d : Addr} : ∀ {l : List (Addr × Obj)}, (∀ p ∈ l, p.1 ≠ d) -> AllNe d l
 | [], _ => trivial
 | p :: _, h => ⟨h p (.head _), allNe_of fun q hq => h q (.tail _ hq)⟩
theorem freshNe {g h h' : Heap} {L : Addr} {news : List (Addr × Obj)} {r : Addr} {o : Obj} {l : List (Addr × Obj)} (N : News g L h news) (fr : Fresh h h' ((r, o) :: l)) : AllNe r news := allNe_of fun p hp e => by
 have h2 := (fr _ (List.Mem.head _)).2
 have h1 := (N p hp).1
 rw [e] at h1
 rw [h1] at h2; cases h2
theorem Fresh.tail {h h' : Heap} {p : Addr × Obj} {l : List (Addr × Obj)} (f : Fresh h h' (p :: l)) : Fresh h h' l := fun q hq => f q (.tail _ hq)
end Mine
end
section
open PySem PySem.Spec PySem.Calls PySem.W PyProof.Rows PyProof.V PySem.SeqAt
namespace Mine
theorem readsAll_of_strs {h : Heap} : ∀ {vs : List Value} {ns : List Str}, StrsAre vs ns -> ReadsAll h vs (ns.map PyData.str) []
 | _, _, .nil => .nil
 | _, _, .cons k t r => by
   have := ReadsAll.cons (Reads.str (h := h) k t) (readsAll_of_strs (h := h) r)
   simpa using this
theorem reads_of_strs {h : Heap} {a : Addr} {vs : List Value} {ns : List Str} (hl : h.IsList a vs.toArray) (hi : StrsAre vs ns) : Reads h (.ref a) (.list (ns.map PyData.str)) [a] := by
 (revert hl; refine xq1 fun o => ?_; refine aq3 fun ho hc => ?_; refine xq1 fun n => ?_; intro hd)
 exact Reads.list ho hc hd (by simpa using readsAll_of_strs hi)
theorem canLayAll0_strs : ∀ ns : List Str, (∀ n ∈ ns, PyData.strOk n = true) -> PyData.canLayAll0 (ns.map PyData.str) = true
 | [], _ => by simp [PyData.canLayAll0]
 | n :: r, h => by simp [PyData.canLayAll0, PyData.canLay0, h n (by simp), canLayAll0_strs r fun m hm => h m (by simp [hm])]
theorem depthAll_strs : ∀ ns : List Str, PyData.depthAll (ns.map PyData.str) <= 1
 | [] => by simp [PyData.depthAll]
 | n :: r => by
   have := depthAll_strs r
   simp only [List.map_cons, PyData.depthAll, PyData.depth]
   lia
theorem shaped_strs (ns : List Str) (ok : ∀ n ∈ ns, PyData.strOk n = true) : shaped (.list (ns.map PyData.str)) = true := by
 have h1 := depthAll_strs ns
 have h2 : PyData.depth (.list (ns.map PyData.str)) <= 64 := by simp only [PyData.depth]; lia
 show (PyData.canLay0 (.list (ns.map PyData.str)) && decide (PyData.depth (.list (ns.map PyData.str)) <= 64)) = true
 rw [Bool.and_eq_true]
 exact ⟨by simp only [PyData.canLay0]; exact canLayAll0_strs ns ok, decide_eq_true h2⟩
theorem noMix_strs : ∀ ns ms : List Str, noMixAll (ns.map PyData.str) (ms.map PyData.str) = true
 | [], [] => by simp [noMixAll]
 | [], _ :: _ => by simp [noMixAll]
 | _ :: _, [] => by simp [noMixAll]
 | _ :: r, _ :: q => by simp [noMixAll, noMix, noMix_strs r q]
theorem same_strs : ∀ ns ms : List Str, PySem.Spec.sameAll (ns.map PyData.str) (ms.map PyData.str) = decide (ns = ms)
 | [], [] => by simp [PySem.Spec.sameAll]
 | [], _ :: _ => by simp [PySem.Spec.sameAll]
 | _ :: _, [] => by simp [PySem.Spec.sameAll]
 | n :: r, k :: q => by
   simp only [List.map_cons, PySem.Spec.sameAll, PySem.Spec.same, same_strs r q]
   by_cases h : n = k <;> simp [h]
section
variable {prog : Program} {w : World} {A : Around} {E : Value -> Shared -> Prop} {s : Shared}
theorem eq_strsK {a b : Addr} {vs us : List Value} {ns ms : List Str} {Q : Value -> Shared -> Prop} (hl : s.heap.IsList a vs.toArray) (hi : StrsAre vs ns) (hl' : s.heap.IsList b us.toArray) (hi' : StrsAre us ms) (ok1 : ∀ n ∈ ns, PyData.strOk n = true) (ok2 : ∀ n ∈ ms, PyData.strOk n = true) (hu : A.units + 64 < cLine)
   (h : Q (.bool (decide (ns = ms))) s) : wpAny (model prog w) A (compareOp .Eq (.ref a) (.ref b)) Q E s :=
 eq_dataH_same (reads_of_strs hl hi) (reads_of_strs hl' hi') (shaped_strs ns ok1) (shaped_strs ms ok2) hu (by simp only [noMix]; exact noMix_strs ns ms) (by simp only [PySem.Spec.same]; rw [same_strs]; exact h)
theorem ne_strsK {a b : Addr} {vs us : List Value} {ns ms : List Str} {Q : Value -> Shared -> Prop} (hl : s.heap.IsList a vs.toArray) (hi : StrsAre vs ns) (hl' : s.heap.IsList b us.toArray) (hi' : StrsAre us ms) (ok1 : ∀ n ∈ ns, PyData.strOk n = true) (ok2 : ∀ n ∈ ms, PyData.strOk n = true) (hu : A.units + 64 < cLine)
   (h : Q (.bool (!decide (ns = ms))) s) : wpAny (model prog w) A (compareOp .NotEq (.ref a) (.ref b)) Q E s :=
 ne_dataH_same (reads_of_strs hl hi) (reads_of_strs hl' hi') (shaped_strs ns ok1) (shaped_strs ms ok2) hu (by simp only [noMix]; exact noMix_strs ns ms) (by simp only [PySem.Spec.same]; rw [same_strs]; exact h)
end
end Mine
end
section
open PySem PySem.Spec PySem.Calls PySem.W PyProof.Rows
namespace Mine
theorem re_N {P : Params} {h : Heap} (X : (K P).In h) : IsRe h 48 codeN := by
 have h1 : h.get? 48 = some (o48 pw_sr0088_01 P) := X _ _ (by rfl)
 have h2 : h.get? 47 = some (o47 pw_sr0088_01 P) := X _ _ (by rfl)
 exact ⟨_, _, _, _, _, _, h1, rfl, rfl, rfl, rfl, rfl, h2, rfl, by decide +kernel⟩
theorem re_V {P : Params} {h : Heap} (X : (K P).In h) : IsRe h 53 codeV := by
 have h1 : h.get? 53 = some (o53 pw_sr0088_01 P) := X _ _ (by rfl)
 have h2 : h.get? 52 = some (o52 pw_sr0088_01 P) := X _ _ (by rfl)
 exact ⟨_, _, _, _, _, _, h1, rfl, rfl, rfl, rfl, rfl, h2, rfl, by decide +kernel⟩
section
variable {w : World} {dp un : Nat} {gd : Option (List Code)} {cn : Str} {cs : Scope} {a : Addr} {ccd : Value} {cl : List (Str × Addr)} {outer : List Env} {A₀ : Around} {base h₀ : Heap} {L : Addr} {m : Str -> Option Value} {s : Shared}
 {p : Program} {loose : List Str} {mean : ExcName -> Option Value} {mg mb : Str -> Option Value} {news : List (Addr × Obj)} {Q E : Value -> Shared -> Prop}
theorem conv_ok {x : Str} {tx : Tok} {self : Value} {b : Bool} (hx : PlainT x) (hl : x.length <= 64) (C : Cx w dp un cs outer A₀ base h₀ L m s.heap p loose mean mg mb 6)
 (ret : ∀ (h' : Heap) (tk' : Nat), Kp s.heap h' -> Q (.str x tx) { s with heap := h', toks := tk' }) :
 wpAny (model pw_sr0088_01 w) (ktrTop dp un gd cn cs L a ccd cl outer) (call (.ref 83) [self, .str x tx] [("name", .bool b)]) Q E s := by
 refine' enterP [("self", self), ("value", .str x tx), ("name", .bool b)] C ?ho ?hcd ?hb ?hl ?hs ?b ?sc ?h
 case ho => k_dflt k_is
 case hcd => k_dflt k_is
 case hb => rfl
 case hl => rfl
 case hs => rfl
 case b => (conv => lhs; whnf)
 case sc => (conv => lhs; whnf)
 case h =>
   intro g L' h' tk kG C' N' FG'
   obtain ⟨B', F', X', T', hk', hd', hu'⟩ := C'
   obtain ⟨B0, F0, X0, T0, hk0, hd0, hu0⟩ := C
   (try k_fold)
   k_with "getMethod ref" => ((rename Fr g _ _ _ => lF); first | refine getMethod_re (re_N (X'.keeps lF.keep)) ?_ | refine getMethod_re (re_V (X'.keeps lF.keep)) ?_)
   k_with "call builtin:re.Pattern.search" => ((rename Fr g _ _ _ => lF); first | refine re_searchN (re_N (X'.keeps lF.keep)) hx ?_ | refine re_searchV (re_V (X'.keeps lF.keep)) hx ?_)
   k_steps
   k_with_none
   all_goals (rename Fr g _ _ _ => lF)
   all_goals exact ret _ _ (kG.trans lF.keep)
end
noncomputable abbrev hdD (P : Params) (to : Tok) (l : Addr) : Obj := dictOf [⟨PyData.keyHash P "_headers", .str "_headers" to, .ref l⟩] 1
section
variable {w : World} {dp un : Nat} {gd : Option (List Code)} {cn : Str} {cs : Scope} {a : Addr} {ccd : Value} {cl : List (Str × Addr)} {outer : List Env} {A₀ : Around} {base h₀ : Heap} {L : Addr} {m : Str -> Option Value} {s : Shared}
 {p : Program} {loose : List Str} {mean : ExcName -> Option Value} {mg mb : Str -> Option Value} {news : List (Addr × Obj)} {Q E : Value -> Shared -> Prop}
end
theorem call_kw {prog : Program} {w : World} {A : Around} {E : Value -> Shared -> Prop} {s : Shared} {Q : Value -> Shared -> Prop} {f : Value} {pos : List Value} {kw kw' : List (Str × Value)} (e : kw = kw') (h : wpAny (model prog w) A (call f pos kw') Q E s) : wpAny (model prog w) A (call f pos kw) Q E s := e ▸ h
section
variable {w : World} {dp un : Nat} {gd : Option (List Code)} {cn : Str} {cs : Scope} {a : Addr} {ccd : Value} {cl : List (Str × Addr)} {outer : List Env} {A₀ : Around} {base h₀ : Heap} {L : Addr} {m : Str -> Option Value} {s : Shared}
 {p : Program} {loose : List Str} {mean : ExcName -> Option Value} {mg mb : Str -> Option Value} {news : List (Addr × Obj)} {Q E : Value -> Shared -> Prop}
theorem getall_ok {x dx l : Addr} {to : Tok} {n : Nat} {vs : List Value} {its : List (Str × Str)} {nm : Str} {tn : Tok} (hx : @LT.lt Nat _ dx x) (hl : @LT.lt Nat _ x l) (hn16 : nm.length <= 16) (hlo : PlainT (Txt.lower nm)) (hlo2 : (Txt.lower nm).length <= 64) (hI : HIt s.heap vs its) (hvs : vs.length <= 64) (hlen : ∀ p ∈ its, p.1.length <= 16) (C : Cx w dp un cs outer A₀ base h₀ L m s.heap p loose mean mg mb 8) (N : News h₀ L s.heap [(x, instObj 182 dx), (dx, hdD w.params to l), (l, W.listOf vs.toArray n)])
 (ret : ∀ (h' : Heap) (tk' : Nat) (r : Addr) (us : List Value), Kp s.heap h' -> Fresh s.heap h' [(r, W.listOf us.toArray us.length)] -> StrsAre us ((its.filter (fun kv => Txt.lower kv.1 == Txt.lower nm)).map (·.2)) -> Q (.ref r) { s with heap := h', toks := tk' }) :
 wpAny (model pw_sr0088_01 w) (ktrTop dp un gd cn cs L a ccd cl outer) (call (.ref 121) [.ref x, .str nm tn]) Q E s := by
 refine' enterC [("self", .ref x), ("name", .str nm tn)] C N ?ho ?hcd ?hb ?hkd ?hnd ?hs ?b ?sc ?h
 case ho => k_dflt k_is
 case hcd => k_dflt k_is
 case hb => first | exact BindsTo.of_eq rfl | (refine' binds_K (C.X.keeps C.F.keep) ?d ?o ?s ?h1 ?h2; (case d => exact rfl); (case o => k_dflt k_is); (case s => exact rfl); (case h1 => exact rfl); (case h2 => exact rfl))
 case hkd => rfl
 case hnd => decide +kernel
 case hs => rfl
 case b => (conv => lhs; whnf)
 case sc => (conv => lhs; whnf)
 case h =>
   intro g L' h' tk cells G C' N' Y' FG' l1
   obtain ⟨B', F', X', T', hk', hd', hu'⟩ := C'
   obtain ⟨B0, F0, X0, T0, hk0, hd0, hu0⟩ := C
   (try k_lt l1)
   k_cells Y'
   (try simp only [List.cons_append, List.nil_append] at N')
   (try dsimp only)
   (try k_fold)
   k_with "call builtin:str.lower" => (refine SCL.lower (by lia) ?_)
   k_with "call ref" => ((rename Fr g _ _ _ => lF); (rename News g _ _ _ => lN); (refine' call_kw (kw' := [("name", .bool true)]) ?e (conv_ok hlo hlo2 (Cx.le ⟨B', lF, X', T', hk', hd', hu'⟩ (by decide)) ?_); (case e => k_dflt exact rfl)); (intro h2 tk2 kk; have lF2 := frKeep lF kk; have lN2 := newsKeep lN kk; clear kk); k_whole)
   k_with "eval ListComp" => (lct_look; lcg_calm; k_dflt (refine PyProof.Rows.LCt.ListComp_T (F₀ := by k_asm) (by with_unfolding_all rfl) (by decide) (by rfl) (by decide) (by rfl) ?_))
   k_steps
   k_with_none
   have hI' : HIt g vs its := hI.keep fun a items T => tup_gsub G N (by rfl) T
   (rename Fr g _ _ _ => lF); (rename News g _ _ _ => lN)
   refine PyProof.Rows.LCt.CompSrcT.ledger (by with_unfolding_all rfl) lF lN (by k_dflt k_mem) ?hsz fun g2 => ?_
   case hsz => (rw [sizeLine_eq]; simp; lia)
   refine turnsT (fun pre ys => StrsAre ys (((its.take pre.length).filter (fun kv => Txt.lower kv.1 == Txt.lower nm)).map (·.2))) (.inr ⟨_, by k_dflt k_mem, rfl, _, rfl⟩) .nil ?turn ?fin
   case turn =>
     intro pre v post ys I oI C oC D m₂ h tk E' e hJ hO hx lF2 lN2 off hne
     (have hQ := HIt.at (e ▸ hI'); revert hQ; refine xq7 fun i1 k y i2 a t1 t2 => ?_; refine aq4 fun e2 e3 eQ => ?_; subst eQ; intro hT)
     have hk16 : k.length <= 16 := hlen (k, y) (by rw [e2]; simp)
     (try k_fold)
     k_with "call builtin:str.lower" => (refine SCL.lower (by lia) ?_)
     k_steps
     k_with_none
     . (rename Fr g _ _ _ => lF3); (rename News g _ _ _ => lN3)
       refine TurnEnd.intro lF3 lN3 (fun p hp => hp) ?_
       rw [filt_yes e2 e3 (by first | assumption | (simp; assumption) | simp_all)]
       exact StrsAre.append' hJ (.cons _ _ .nil)
     . (rename Fr g _ _ _ => lF3); (rename News g _ _ _ => lN3)
       refine TurnEnd.intro lF3 lN3 (fun p hp => hp) ?_
       rw [filt_no e2 e3 (by first | assumption | (simp; assumption) | simp_all)]
       exact hJ
   case fin =>
     intro us hJ D h3 tk3 lF3 lN3 o1
     rw [List.take_of_length_le (by rw [hI.len]; exact Nat.le_refl _)] at hJ
     (try k_fold)
     k_steps
     refine ret _ _ D us ?a ?b hJ
     case a => exact kp_of G lF3 lN3 (List.forall_mem_cons.mpr ⟨⟨by k_dflt k_mem, (N _ (by k_dflt k_mem)).1⟩, List.forall_mem_cons.mpr ⟨⟨by k_dflt k_mem, (N _ (by k_dflt k_mem)).1⟩, List.forall_mem_cons.mpr ⟨⟨by k_dflt k_mem, (N _ (by k_dflt k_mem)).1⟩, List.forall_mem_nil _⟩⟩⟩)
     case b => exact List.forall_mem_cons.mpr ⟨fresh1 G lN3 (by k_dflt k_mem) (notIn1 (Ne.symm o1.2.1) (notIn1 (Ne.symm o1.2.2.1) (notIn1 (Ne.symm o1.2.2.2.1) notIn0))), List.forall_mem_nil _⟩
end
end Mine
end
section
open PySem PySem.Spec PySem.Calls PySem.W PyProof.Rows PySem.Builtin PySem.Builtin.List
namespace Mine
section
variable {prog : Program} {w : World} {A : Around} {E : Value -> Shared -> Prop} {s : Shared} {h₀ : Heap} {L : Addr} {m : Str -> Option Value} {news news' : List (Addr × Obj)}
theorem wp_setAll {l D sl : Addr} {items new : Array Value} {n : Nat} {Q : Unit -> Shared -> Prop} (hl : s.heap.get? l = some (W.listOf items n)) (hD : s.heap.IsList D new) (hs : s.heap.IsSliceOf sl .none .none .none) (hne : l ≠ D)
   (h1 : items.size <= 4096) (h2 : new.size <= 4096) (h : Q () { s with heap := s.heap.update l (Obj.mapSeq fun xs => xs.extract 0 0 ++ new ++ xs.extract items.size xs.size) }) : wpAny (model prog w) A (setItem (.ref l) (.ref sl) (.ref D)) Q E s := by
 have hll : s.heap.IsList l items := ⟨_, hl, rfl, n, rfl⟩
 obtain ⟨os, hos, hcs, hds⟩ := id hs
 (have hQ := id hD; revert hQ; refine xq1 fun oD => ?_; refine aq3 fun hoD hcD => ?_; refine xq1 fun nD => ?_; intro hdD)
 have hTs : s.TypeIs (.ref sl) "slice" := ⟨os, hos, hcs⟩
 unfold setItem
 try with_reducible refine wpAny_holding ?_
 first | refine wpAny_bind (wpAny_pure ?_) | skip
 refine wpAny_bind (wpAny_sequenceKey hll.typeIs (by decide) ?_)
 refine wpAny_bind (wpAny_callSpecial?_slot (name := Str.ofString "__setitem__") hll.typeIs slot_list_setitem
   (wpAny_call_entry slot_list_setitem hll.typeIs entry_list_setitem ?_ (args_list_setitem _ _ _)))
 show wpAny _ _ (Builtin.List.listSubscript? (.ref sl) >>= _) _ _ s
 refine wpAny_bind ?_
 unfold Builtin.List.listSubscript?
 refine wpAny_bind (wpAny_specialOf hTs slice_no_index ?_)
 simp only [Option.isNone_none, if_true]
 refine wpAny_pure ?_
 show wpAny _ _ (typeOf (.ref sl) >>= _) _ _ s
 refine wpAny_bind (wpAny_typeOf hTs ?_)
 rw [if_neg (by decide)]
 rw [listSliceParts_eq]
 refine wpAny_bind (wpAny_bind (wpAny_field hos hds (x := .none) rfl (wpAny_bind (wpAny_listPart .none ?_))))
 rw [if_neg (show ¬ ((rawPart none == rawInt 0) = true) from Bool.false_ne_true)]
 refine wpAny_bind (wpAny_field hos hds (x := .none) rfl (wpAny_bind (wpAny_listPart .none ?_)))
 refine wpAny_bind (wpAny_field hos hds (x := .none) rfl (wpAny_bind (wpAny_listPart .none (wpAny_pure ?_))))
 dsimp only
 have hsame : listSameRef (.ref l) (.ref D) = false := by
   show (l == D) = false
   exact beq_false_of_ne hne
 rw [hsame]
 rw [if_neg (by decide)]
 unfold listAllItems
 refine wpAny_bind (wpAny_bind (wpAny_typeOf hD.typeIs ?_))
 rw [if_pos (by decide)]
 unfold listItems
 refine wpAny_bind (wpAny_seqItems hoD hdD (wpAny_pure ?_))
 refine wpAny_bind (wpAny_bind (wpAny_seqItems hl rfl (wpAny_pure ?_)))
 refine wpAny_bind (wpAny_of_eq (sliceIndices_raw none none none items.size (by simp)) ?_)
 show wpAny _ _ (if ((1 : Int) == 1) = true then _ else _) _ _ _
 rw [if_pos (by decide)]
 refine wpAny_bind (wpAny_rule ?_)
 have hlong : listTooLong (items.size + new.size) = false := by
   unfold listTooLong
   rw [sizeLine_eq]
   simp; lia
 rw [hlong, if_neg (by decide)]
 have emax : (Max.max (0 : Int) (items.size : Int)).toNat = items.size := by lia
 show wpAny _ _ (listUpdate (.ref l) (fun xs => xs.extract 0 (0 : Int).toNat ++ new ++ xs.extract (Max.max (0 : Int) (items.size : Int)).toNat xs.size) >>= _) _ _ _
 rw [emax]
 refine wpAny_bind (wpAny_updateSeq hl rfl ?_ (by rw [sizeLine_eq]; lia) (by rw [sizeLine_eq]; simp; lia))
 refine wpAny_bind (wpAny_letGo ?_)
 exact wpAny_pure ⟨_, rfl, wpAny_pure h⟩
theorem set_all {l D sl : Addr} {items new : Array Value} {n n' : Nat} {Q : Unit -> Shared -> Prop} (F : Fr h₀ L s.heap m) (N : News h₀ L s.heap news) (hm : (l, W.listOf items n) ∈ news) (hD : s.heap.IsList D new) (hs : s.heap.IsSliceOf sl .none .none .none) (hne : l ≠ D)
   (h1 : items.size <= 4096) (h2 : new.size <= 4096) (en : n' = (if new.size == items.size then n else n + 1)) (U : Upd l (W.listOf items n) (W.listOf new n') news news') (h : ∀ h', Fr h₀ L h' m -> News h₀ L h' news' -> Q () { s with heap := h' }) : wpAny (model prog w) A (setItem (.ref l) (.ref sl) (.ref D)) Q E s := by
 refine wp_setAll (N _ hm).1 hD hs hne h1 h2 ?_
 (have hQ := U.split; revert hQ; refine xq2 fun pre post => ?_; refine aq2 fun eQ => ?_; subst eQ; refine aq2 fun eQ => ?_; subst eQ; refine aq2 fun a => ?_; intro b)
 have e : Obj.mapSeq (fun xs => xs.extract 0 0 ++ new ++ xs.extract items.size xs.size) (W.listOf items n) = W.listOf new n' := by
   have e1 : (items.extract 0 0 ++ new ++ items.extract items.size items.size) = new := by
     apply Array.toList_inj.mp
     simp
   show ({ cls := .type "list", data := .seq (items.extract 0 0 ++ new ++ items.extract items.size items.size) (if (items.extract 0 0 ++ new ++ items.extract items.size items.size).size == items.size then n else n + 1) } : Obj) = _
   rw [e1, en]
 obtain ⟨F', N'⟩ := news_upd F N a b e rfl
 exact h _ F' N'
end
end Mine
end
section
open PySem PySem.Spec PySem.Calls PySem.W PyProof.Rows
namespace Mine
section
variable {w : World} {dp un : Nat} {gd : Option (List Code)} {cn : Str} {cs : Scope} {a : Addr} {ccd : Value} {cl : List (Str × Addr)} {outer : List Env} {A₀ : Around} {base h₀ h h' : Heap} {L : Addr} {m : Str -> Option Value} {s : Shared}
 {p : Program} {loose : List Str} {mean : ExcName -> Option Value} {mg mb : Str -> Option Value} {news : List (Addr × Obj)} {Q E : Value -> Shared -> Prop} {k k' : Nat}
 {name qual : Str} {params : Arguments} {body : List Stmt} {scope : Scope} {dV kV doc pm cdv ct oc : Value} {an od : Option Addr} {osl : Array (Option Value)} {f : Addr}
theorem enterKw {pos : List Value} (front : List (Str × Value)) (pn : Str) {body' : List Stmt} {scope' : Scope} (C : Cx w dp un cs outer A₀ base h₀ L m s.heap p loose mean mg mb (k + 1)) (N : News h₀ L s.heap news)
   (ho : (K w.params).lookup f = some ⟨oc, od, .func (fnOf name qual params body scope dV kV doc pm an cdv ct), osl⟩) (hcd : codeIn (K w.params) cdv qual = true)
   (hbind : bindArgs (fnOf name qual params body scope dV kV doc pm an cdv ct) ⟨pos, []⟩ = (alloc (dictOf [] 0) >>= fun d => pure (front ++ [(pn, .ref d)])))
   (hkind : ∀ d, ((front ++ [(pn, Value.ref d)]).all fun y => scope.names.lookup y.1 == some .local || scope.names.lookup y.1 == some .cell) = true)
   (hnd : ((cellsFrom 0 scope.names []).map (·.1)).Nodup) (hsc : scopeOkC scope = true) (hb : body = body') (hs : scope = scope')
   (h : ∀ D o g L' h₁ tk cells, (D == sysModules) = false -> o.IsDictOf (sk w) ([] : List (Str × Value)) -> PyProof.V.FlatPairs PyData.str ([] : List (Str × Value)) [] -> GSub s.heap g (news.map (·.1)) -> Cx w (dp + 1) (un + 3) scope' (envX cn cs L a ccd cl :: outer) (ktrTop dp un gd cn cs L a ccd cl outer) base g L' (bindL (envOfC qual scope' L' f cdv).kindOf (front ++ [(pn, .ref D)]) fun _ => none) h₁ p loose mean mg mb k -> News g L' h₁ (cells ++ (D, o) :: news) ->
     CellsAre (bindC (envOfC qual scope' L' f cdv).kindOf (front ++ [(pn, .ref D)]) fun _ => none) (cellsFrom (L' + 1) scope'.names []) cells -> Fr h₀ L g m -> (∀ p ∈ (D, o) :: news, p.1 < L') -> (∀ p ∈ news, p.1 < D) -> s.heap.get? D = none ->
     wpAny (model pw_sr0088_01 w) ((ktrTop dp un gd cn cs L a ccd cl outer).deeper (envOfC qual scope' L' f cdv)) (execs body' (envOfC qual scope' L' f cdv))
       (fun fl s' => LeaveK h₀ L m g (fun r s' => match r with | .ok (.ret v) => Q v s' | .ok _ => False | .error e => E e s') (match fl with | .ret v => v | _ => .none) s')
       (fun e s' => wpAny (model pw_sr0088_01 w) ((ktrTop dp un gd cn cs L a ccd cl outer).deeper (envOfC qual scope' L' f cdv)) (leaving (envOfC qual scope' L' f cdv) e) (fun _ s'' => E e s'') (fun e' s'' => E e' s'') s')
       { s with heap := h₁, toks := tk }) :
   wpAny (model pw_sr0088_01 w) (ktrTop dp un gd cn cs L a ccd cl outer) (call (.ref f) pos) Q E s := by
 subst hb hs
 simp only [scopeOkC, Bool.and_eq_true, Bool.not_eq_true', beq_iff_eq] at hsc
 obtain ⟨⟨h1, h2⟩, h3⟩ := hsc
 have hd := C.hd
 have hu := C.hu
 have hlim := C.T.nolimit
 have F := C.F
 refine wpAny_call ?_
 have up : ∀ b o, s.heap.get? b = some o -> (s.heap.push (dictOf [] 0)).get? b = some o := fun b o e => Heap.get?_push_of_some _ e
 have F1 : Fr h₀ L (s.heap.push (dictOf [] 0)) m := F.push _
 have N1 : News h₀ L (s.heap.push (dictOf [] 0)) ((s.heap.objs.size, dictOf [] 0) :: news) := News.push F N _
 have hD : s.heap.get? s.heap.objs.size = none := by
   cases e : s.heap.get? s.heap.objs.size with
   | none => rfl
   | some o => exact absurd (Heap.lt_size e) (Nat.lt_irrefl _)
 obtain ⟨FG, BG, st, lv⟩ := groundX (A := ktrTop dp un gd cn cs L a ccd cl outer) (s := { s with heap := s.heap.push (dictOf [] 0) }) (env := envX cn cs L a ccd cl) (outer := outer) (R := fun r s' => match r with | .ok (.ret v) => Q v s' | .ok _ => False | .error e => E e s') C.B F1 N1 rfl rfl C.hk
 refine codeAny_call_function (by show dp < _; lia) ((C.X.keeps F.keep) _ _ ho) rfl h1 h2 rfl (codeRec_of (C.X.keeps F.keep) hcd) ?_
 rw [hbind]
 refine wpAny_bind (wpAny_alloc (wpAny_pure ?_))
 refine wpAny_newFunctionEnv_cells h3 (kindsX (hkind _) _) fun env' he s' x => ?_
 subst he
 refine ⟨(hlim.keeps F1.keep).keeps x.toInCall.keep, codeAny_func ?_⟩
 obtain ⟨h₁, tk, rfl, _⟩ := x.done
 have hk₁ := x.toInCall.keep
 obtain ⟨cells, NC, Y⟩ := Cl.news (h₀ := s.heap.push (dictOf [] 0)) (Nat.le_refl _) fun n c hm => ⟨x.cell n c (lookup_of_mem_nodup (cellsFrom_names scope.names 0 ((s.heap.push (dictOf [] 0)).objs.size + 1) [] [] rfl ▸ hnd) hm), x.above n c hm⟩
 refine wpAny_mono (h s.heap.objs.size (dictOf [] 0) _ (s.heap.push (dictOf [] 0)).objs.size h₁ tk cells (F.notModules (modules_low hlim)) ⟨#[], 0, ⟨rfl, rfl, rfl⟩, rfl, (fun e he => by simp at he), .nil, .nil⟩ .nil (fun b o e n => ?_) ⟨BG, ⟨x.toInCall.ns, fun b o e => hk₁ b o (of_hideAll _ e), Nat.le_of_eq (hideAll_size _ _)⟩, C.X.keeps st, C.T.keeps st, h3, by lia, by lia⟩ (fun p hp => ?_) Y FG (fun p hp => Heap.lt_size (N1 p hp).1) (fun p hp => Heap.lt_size (N p hp).1) hD) (fun fl s' hl => lv _ _ hl) fun _ _ y => y
 . refine hideAll_get _ (up b o e) fun hm => ?_
   rcases List.mem_cons.mp hm with hm | hm
   . rw [hm, hD] at e; cases e
   . exact n hm
 rcases List.mem_append.mp hp with hp | hp
 . refine ⟨(NC p hp).1, (NC p hp).2.1, ?_⟩
   cases q : (hideAll (s.heap.push (dictOf [] 0)) (((s.heap.objs.size, dictOf [] 0) :: news).map (·.1))).get? p.1 with
   | none => rfl
   | some o => have := of_hideAll _ q; rw [(NC p hp).2.2] at this; cases this
 . exact ⟨hk₁ _ _ (N1 p hp).1, Nat.ne_of_lt (Heap.lt_size (N1 p hp).1), hideAll_none _ (List.mem_map_of_mem hp)⟩
end
theorem join1 {s x : Str} : Txt.join s [x] = x := by rfl
theorem add_get {h : Heap} {l : Addr} {vs : List Value} {v : Value} {n : Nat} (e : h.get? l = some (W.listOf (vs.toArray.push v) n)) : h.get? l = some (W.listOf (vs ++ [v]).toArray n) := by rw [e, List.push_toArray]
noncomputable abbrev hdrTup (nm : Str) (t1 : Tok) (xv : Str) (t2 : Tok) : Obj := { cls := .type "tuple", data := .seq #[.str nm t1, .str xv t2] }
section
variable {w : World} {dp un : Nat} {gd : Option (List Code)} {cn : Str} {cs : Scope} {a : Addr} {ccd : Value} {cl : List (Str × Addr)} {outer : List Env} {A₀ : Around} {base h₀ : Heap} {L : Addr} {m : Str -> Option Value} {s : Shared}
 {p : Program} {loose : List Str} {mean : ExcName -> Option Value} {mg mb : Str -> Option Value} {news : List (Addr × Obj)} {Q E : Value -> Shared -> Prop}
theorem del_ok {x dx l : Addr} {to : Tok} {n : Nat} {vs : List Value} {its : List (Str × Str)} {nm : Str} {tn : Tok} (hx : @LT.lt Nat _ dx x) (hl : @LT.lt Nat _ x l) (hn16 : nm.length <= 16) (hlo : PlainT (Txt.lower nm)) (hlo2 : (Txt.lower nm).length <= 64) (hI : HIt s.heap vs its) (hvs : vs.length <= 64) (hlen : ∀ p ∈ its, p.1.length <= 16) (C : Cx w dp un cs outer A₀ base h₀ L m s.heap p loose mean mg mb 8) (N : News h₀ L s.heap [(x, instObj 182 dx), (dx, hdD w.params to l), (l, W.listOf vs.toArray n)])
 (ret : ∀ (h' : Heap) (tk' : Nat) (us : List Value) (n' : Nat), KpB [l] s.heap h' -> h'.get? l = some (W.listOf us.toArray n') -> us = selZ (fun kv => Txt.lower kv.1 != Txt.lower nm) vs its -> Q .none { s with heap := h', toks := tk' }) :
 wpAny (model pw_sr0088_01 w) (ktrTop dp un gd cn cs L a ccd cl outer) (call (.ref 102) [.ref x, .str nm tn]) Q E s := by
 refine' enterC [("self", .ref x), ("name", .str nm tn)] C N ?ho ?hcd ?hb ?hkd ?hnd ?hs ?b ?sc ?h
 case ho => k_dflt k_is
 case hcd => k_dflt k_is
 case hb => first | exact BindsTo.of_eq rfl | (refine' binds_K (C.X.keeps C.F.keep) ?d ?o ?s ?h1 ?h2; (case d => exact rfl); (case o => k_dflt k_is); (case s => exact rfl); (case h1 => exact rfl); (case h2 => exact rfl))
 case hkd => rfl
 case hnd => decide +kernel
 case hs => rfl
 case b => (conv => lhs; whnf)
 case sc => (conv => lhs; whnf)
 case h =>
   intro g L' h' tk cells G C' N' Y' FG' l1
   obtain ⟨B', F', X', T', hk', hd', hu'⟩ := C'
   obtain ⟨B0, F0, X0, T0, hk0, hd0, hu0⟩ := C
   (try k_lt l1)
   k_cells Y'
   (try simp only [List.cons_append, List.nil_append] at N')
   (try dsimp only)
   (try k_fold)
   k_with "call builtin:str.lower" => (refine SCL.lower (by lia) ?_)
   k_with "call ref" => ((rename Fr g _ _ _ => lF); (rename News g _ _ _ => lN); (refine' call_kw (kw' := [("name", .bool true)]) ?e (conv_ok hlo hlo2 (Cx.le ⟨B', lF, X', T', hk', hd', hu'⟩ (by decide)) ?_); (case e => k_dflt exact rfl)); (intro h2 tk2 kk; have lF2 := frKeep lF kk; have lN2 := newsKeep lN kk; clear kk); k_whole)
   k_with "eval ListComp" => (lct_look; lcg_calm; k_dflt (refine PyProof.Rows.LCt.ListComp_T (F₀ := by k_asm) (by with_unfolding_all rfl) (by decide) (by rfl) (by decide) (by rfl) ?_))
   k_steps
   k_with_none
   have hI' : HIt g vs its := hI.keep fun a items T => tup_gsub G N (by rfl) T
   (rename Fr g _ _ _ => lF); (rename News g _ _ _ => lN)
   refine PyProof.Rows.LCt.CompSrcT.ledger (by with_unfolding_all rfl) lF lN (by k_dflt k_mem) ?hsz fun g2 => ?_
   case hsz => (rw [sizeLine_eq]; simp; lia)
   refine turnsT (fun pre ys => ys = (((vs.zip its).take pre.length).filter (fun p => (fun kv : Str × Str => Txt.lower kv.1 != Txt.lower nm) p.2)).map (·.1)) (.inr ⟨_, by k_dflt k_mem, rfl, _, rfl⟩) rfl ?turn ?fin
   case turn =>
     intro pre v post ys I oI C oC D m₂ h tk E' e hJ hO hx lF2 lN2 off hne
     (have hQ := HIt.at (e ▸ hI'); revert hQ; refine xq7 fun i1 k y i2 a t1 t2 => ?_; refine aq4 fun e2 e3 eQ => ?_; subst eQ; intro hT)
     have hk16 : k.length <= 16 := hlen (k, y) (by rw [e2]; simp)
     (try k_fold)
     k_with "call builtin:str.lower" => (refine SCL.lower (by lia) ?_)
     k_steps
     k_with_none
     . (rename Fr g _ _ _ => lF3); (rename News g _ _ _ => lN3)
       refine TurnEnd.intro lF3 lN3 (fun p hp => hp) ?_
       have ez : vs.zip its = pre.zip i1 ++ (Value.ref a, (k, y)) :: post.zip i2 := by rw [e, e2, zip_at e3]
       rw [filt_yes ez (by simp [e3]) (by first | assumption | (simp; assumption) | simp_all), hJ]
     . (rename Fr g _ _ _ => lF3); (rename News g _ _ _ => lN3)
       refine TurnEnd.intro lF3 lN3 (fun p hp => hp) ?_
       have ez : vs.zip its = pre.zip i1 ++ (Value.ref a, (k, y)) :: post.zip i2 := by rw [e, e2, zip_at e3]
       rw [filt_no ez (by simp [e3]) (by first | assumption | (simp; assumption) | simp_all)]
       exact hJ
   case fin =>
     intro us hJ D h3 tk3 lF3 lN3 o1
     rw [List.take_of_length_le (by rw [List.length_zip]; exact Nat.min_le_left _ _)] at hJ
     have hul : us.length <= vs.length := by rw [hJ]; exact selZ_len (P := fun kv : Str × Str => Txt.lower kv.1 != Txt.lower nm) (vs := vs) (its := its)
     have o1' := o1
     (revert o1'; refine aq5 fun n1 n2 n3 n4 => ?_; intro _)
     dsimp only at n1 n2 n3 n4
     (try k_fold)
     k_with "setItem ref ref" => ((refine' set_all (lF3.push _) (lN3.grown fun _ _ e => Heap.get?_push_of_some _ e) ?kM ?kD (Heap.IsSliceOf.new ..) ?kn ?k1 ?k2 rfl ?kU ?_); (case kM => k_dflt k_mem); (case kD => exact Heap.IsList.push (⟨_, (lN3 (D, _) (by k_dflt k_mem)).1, rfl, _, rfl⟩ : h3.IsList D us.toArray) _); (case kn => exact n4); (case k1 => (simp; lia)); (case k2 => (simp; lia)); (case kU => k_dflt k_upd); intro h4 lF4 lN4)
     k_steps
     k_with_none
     refine ret _ _ us _ ?a (lN4 (l, W.listOf us.toArray (if (us.toArray.size == vs.toArray.size) = true then n else n + 1)) (by k_dflt k_mem)).1 hJ
     case a => exact kpB_of G lF4 lN4 (List.forall_mem_cons.mpr ⟨.inr ⟨by k_dflt k_mem, (N _ (by k_dflt k_mem)).1⟩, List.forall_mem_cons.mpr ⟨.inr ⟨by k_dflt k_mem, (N _ (by k_dflt k_mem)).1⟩, List.forall_mem_cons.mpr ⟨.inl (by k_dflt k_mem), List.forall_mem_nil _⟩⟩⟩)
theorem items_ok {x dx l : Addr} {to : Tok} {n : Nat} {vs : List Value} {its : List (Str × Str)} {nm : Str} {tn : Tok} (hx : @LT.lt Nat _ dx x) (hl : @LT.lt Nat _ x l) (hvs : vs.length <= 64) (C : Cx w dp un cs outer A₀ base h₀ L m s.heap p loose mean mg mb 8) (N : News h₀ L s.heap [(x, instObj 182 dx), (dx, hdD w.params to l), (l, W.listOf vs.toArray n)])
 (ret : ∀ (h' : Heap) (tk' : Nat) (r : Addr) (n' : Nat), Kp s.heap h' -> Fresh s.heap h' [(r, W.listOf vs.toArray n')] -> Q (.ref r) { s with heap := h', toks := tk' }) :
 wpAny (model pw_sr0088_01 w) (ktrTop dp un gd cn cs L a ccd cl outer) (call (.ref 146) [.ref x]) Q E s := by
 refine' enterC [("self", .ref x)] C N ?ho ?hcd ?hb ?hkd ?hnd ?hs ?b ?sc ?h
 case ho => k_dflt k_is
 case hcd => k_dflt k_is
 case hb => first | exact BindsTo.of_eq rfl | (refine' binds_K (C.X.keeps C.F.keep) ?d ?o ?s ?h1 ?h2; (case d => exact rfl); (case o => k_dflt k_is); (case s => exact rfl); (case h1 => exact rfl); (case h2 => exact rfl))
 case hkd => rfl
 case hnd => decide +kernel
 case hs => rfl
 case b => (conv => lhs; whnf)
 case sc => (conv => lhs; whnf)
 case h =>
   intro g L' h' tk cells G C' N' Y' FG' l1
   obtain ⟨B', F', X', T', hk', hd', hu'⟩ := C'
   obtain ⟨B0, F0, X0, T0, hk0, hd0, hu0⟩ := C
   (try k_lt l1)
   have hY : CellsAre _ [] cells := Y'; cases hY; clear Y'
   (try simp only [List.cons_append, List.nil_append] at N')
   (try dsimp only)
   (try k_fold)
   k_with "subscriptTail Name Slice ref ref" => ((rename Fr g _ _ _ => lF); (rename News g _ _ _ => lN); (k_dflt refine' kmk_slice lF lN ?kl .none .none ?kh ?ks ?kt ?kz); (case kl => k_dflt exact ⟨_, (lN (l, _) (by k_dflt k_mem)).1, rfl, _, rfl⟩); (case ks => with_unfolding_all rfl); (case kt => (intro _; with_unfolding_all rfl)); (case kz => (rw [sizeLine_eq]; simp; lia)); (case' kh => (intro D h4 lF4 lN4 l4; (try rw [slicePick_all] at lN4); (try k_lt l4))))
   k_steps
   k_with_none
   refine ret _ _ D 0 ?a ?b
   case a => exact kp_of G lF4 lN4 (List.forall_mem_cons.mpr ⟨⟨by k_dflt k_mem, (N _ (by k_dflt k_mem)).1⟩, List.forall_mem_cons.mpr ⟨⟨by k_dflt k_mem, (N _ (by k_dflt k_mem)).1⟩, List.forall_mem_cons.mpr ⟨⟨by k_dflt k_mem, (N _ (by k_dflt k_mem)).1⟩, List.forall_mem_nil _⟩⟩⟩)
   case b => exact List.forall_mem_cons.mpr ⟨fresh1 G lN4 (by k_dflt k_mem) (notIn1 (by k_ne) (notIn1 (by k_ne) (notIn1 (by k_ne) notIn0))), List.forall_mem_nil _⟩
theorem add_ok {x dx l : Addr} {to : Tok} {n : Nat} {vs : List Value} {its : List (Str × Str)} {nm : Str} {tn : Tok} (hx : @LT.lt Nat _ dx x) (hl : @LT.lt Nat _ x l) {xv : Str} {tv : Tok} (hnm : PlainT nm) (hn16 : nm.length <= 16) (hxv : PlainT xv) (hx16 : xv.length <= 16) (hvs : vs.length <= 64) (C : Cx w dp un cs outer A₀ base h₀ L m s.heap p loose mean mg mb 8) (N : News h₀ L s.heap [(x, instObj 182 dx), (dx, hdD w.params to l), (l, W.listOf vs.toArray n)])
 (ret : ∀ (h' : Heap) (tk' : Nat) (tp : Addr) (n' : Nat) (t1 t2 : Tok), KpB [l] s.heap h' -> h'.get? l = some (W.listOf (vs ++ [Value.ref tp]).toArray n') -> Fresh s.heap h' [(tp, hdrTup nm t1 xv t2)] -> Q .none { s with heap := h', toks := tk' }) :
 wpAny (model pw_sr0088_01 w) (ktrTop dp un gd cn cs L a ccd cl outer) (call (.ref 179) [.ref x, .str nm tn, .str xv tv]) Q E s := by
 refine' enterKw [("self", .ref x), ("_name", .str nm tn), ("_value", .str xv tv)] "_params" C N ?ho ?hcd ?hb ?hkd ?hnd ?hs ?b ?sc ?h
 case ho => k_dflt k_is
 case hcd => k_dflt k_is
 case hb => rfl
 case hkd => exact fun _ => rfl
 case hnd => decide +kernel
 case hs => rfl
 case b => (conv => lhs; whnf)
 case sc => (conv => lhs; whnf)
 case h =>
   intro pd po g L' h' tk cells hmod hdo hfp G C' N' Y' FG' l1 l2 hpd
   obtain ⟨B', F', X', T', hk', hd', hu'⟩ := C'
   obtain ⟨B0, F0, X0, T0, hk0, hd0, hu0⟩ := C
   (try k_lt l1)
   (try k_lt l2)
   have hY : CellsAre _ [] cells := Y'; cases hY; clear Y'
   (try simp only [List.cons_append, List.nil_append] at N')
   (try dsimp only)
   (try k_fold)
   k_with "call ref" => ((rename Fr g _ _ _ => lF); (rename News g _ _ _ => lN); first | ((refine' call_kw (kw' := [("name", .bool true)]) ?e (conv_ok hnm (by lia) (Cx.le ⟨B', lF, X', T', hk', hd', hu'⟩ (by decide)) ?_)); (case e => k_dflt exact rfl); (intro h2 tk2 kk; have lF2 := frKeep lF kk; have lN2 := newsKeep lN kk; clear kk); k_whole) | ((refine' call_kw (kw' := [("name", .bool false)]) ?e (conv_ok hxv (by lia) (Cx.le ⟨B', lF, X', T', hk', hd', hu'⟩ (by decide)) ?_)); (case e => k_dflt exact rfl); (intro h2 tk2 kk; have lF2 := frKeep lF kk; have lN2 := newsKeep lN kk; clear kk); k_whole))
   k_steps
   k_with_none
   (rename Fr g _ _ _ => lF); (rename News g _ _ _ => lN)
   have q1 := fresh1 G lN (List.Mem.head _) (notIn1 (by k_ne) (notIn1 (by k_ne) (notIn1 (by k_ne) notIn0)))
   rw [join1] at q1
   refine' ret _ _ _ _ _ _ (kpB_of G lF lN ?e) (add_get (lN (l, W.listOf (vs.toArray.push _) _) ?m).1) (List.forall_mem_cons.mpr ⟨q1, List.forall_mem_nil _⟩)
   case m => k_dflt k_mem
   case e => exact (List.forall_mem_cons.mpr ⟨.inr ⟨by k_dflt k_mem, (N _ (by k_dflt k_mem)).1⟩, List.forall_mem_cons.mpr ⟨.inr ⟨by k_dflt k_mem, (N _ (by k_dflt k_mem)).1⟩, List.forall_mem_cons.mpr ⟨.inl (by k_dflt k_mem), List.forall_mem_nil _⟩⟩⟩)
end
section
variable {M : Model} {A : Around} {E : Value -> Shared -> Prop} {s : Shared} {K : Frag} {x C L f : Addr} {h₀ : Heap} {m : Str -> Option Value} {ox : Obj} {od : Option Obj} {i v : Value}
theorem delItem_K {Q : Unit -> Shared -> Prop} (F : Fr h₀ L s.heap m) (X₀ : K.In h₀) (I : InstAt s.heap x ox C od) (hq : noSeq K C = true) (hs : findIn K (.ref C) "__delitem__" = some (some (.ref f))) (hf : isFn K (.ref f) = true)
   (h : wpAny M A (call (.ref f) [.ref x, i]) (fun _ s' => Q () s') E s) : wpAny M A (delItem (.ref x) i) Q E s := by
 have X := X₀.keeps F.keep
 unfold delItem sequenceKey
 refine wpAny_holding (wpAny_bind (wpAny_bind (I.type.here ?_)))
 refine wpAny_bind ((anyM_none X hq).here ?_)
 rw [if_pos (show (!false) = true from rfl)]
 exact wpAny_pure (wpAny_bind (special_fn X I hs (beq_iff_eq.mp hf) (wpAny_mono h (fun _ _ z => wpAny_pure z) fun _ _ z => z)))
end
theorem newsUpdB {g h h' : Heap} {L l : Addr} {m : Str -> Option Value} {news news' : List (Addr × Obj)} {o o' : Obj} (F : Fr g L h m) (N : News g L h news) (U : Upd l o o' news news') (k : KpB [l] h h') (e : h'.get? l = some o') : Fr g L h' m /\ News g L h' news' := by
 (have hQ := U.split; revert hQ; refine xq2 fun pre post => ?_; refine aq2 fun eQ => ?_; subst eQ; refine aq2 fun eQ => ?_; subst eQ; refine aq2 fun a => ?_; intro b)
 have hl := N (l, o) (by simp)
 refine ⟨frKeepB F k fun q hq => by rw [List.mem_singleton.mp hq]; exact ⟨hl.2.2, hl.2.1⟩, fun p hp => ?_⟩
 rcases List.mem_append.mp hp with q | q
 . have P := N p (List.mem_append_left _ q)
   exact ⟨k _ _ (by simpa using a p q) P.1, P.2⟩
 . rcases List.mem_cons.mp q with rfl | q
   . exact ⟨e, hl.2⟩
   . have P := N p (List.mem_append_right _ (.tail _ q))
     exact ⟨k _ _ (by simpa using b p q) P.1, P.2⟩
theorem newsUpdF {g h h' : Heap} {L l : Addr} {m : Str -> Option Value} {news news' fr : List (Addr × Obj)} {o o' : Obj} (F : Fr g L h m) (N : News g L h news) (U : Upd l o o' news news') (k : KpB [l] h h') (e : h'.get? l = some o') (f : Fresh h h' fr) : News g L h' (fr ++ news') := by
 have F' := (newsUpdB F N U k e)
 intro p hp
 rcases List.mem_append.mp hp with hp | hp
 . obtain ⟨h1, h2⟩ := f p hp
   refine ⟨h1, fun e => ?_, ?_⟩
   . (have hQ := F.ns; revert hQ; refine xq3 fun oL es ep => ?_; refine aq2 fun hL => ?_; intro _)
     rw [e, hL] at h2; cases h2
   . cases e : g.get? p.1 with
     | none => rfl
     | some o => have := F.keep _ _ e; rw [h2] at this; cases this
 . exact F'.2 p hp
theorem Upd.again {d : Addr} {o o' o2 : Obj} : ∀ {l l' : List (Addr × Obj)}, Upd d o o' l l' -> ∃ l2, Upd d o o2 l l2 /\ Upd d o' o2 l' l2
 | _, _, .head h => ⟨_, .head h, .head h⟩
 | _, _, .tail h r => by
   obtain ⟨l2, a, b⟩ := Upd.again r
   exact ⟨_, .tail h a, .tail h b⟩
inductive HItL (nx : List (Addr × Obj)) : List Value -> List (Str × Str) -> Prop
 | nil : HItL nx [] []
 | cons {a : Addr} {k v : Str} {t1 t2 : Tok} {vs : List Value} {its : List (Str × Str)} : (a, hdrTup k t1 v t2) ∈ nx -> HItL nx vs its -> HItL nx (.ref a :: vs) ((k, v) :: its)
theorem HItL.mono {n1 n2 : List (Addr × Obj)} (h : ∀ p ∈ n1, p ∈ n2) : ∀ {vs : List Value} {its : List (Str × Str)}, HItL n1 vs its -> HItL n2 vs its
 | _, _, .nil => .nil
 | _, _, .cons m r => .cons (h _ m) (r.mono h)
theorem HItL.append {nx : List (Addr × Obj)} {b : List Value} {j : List (Str × Str)} (y : HItL nx b j) : ∀ {a : List Value} {i : List (Str × Str)}, HItL nx a i -> HItL nx (a ++ b) (i ++ j)
 | _, _, .nil => y
 | _, _, .cons m r => .cons m (HItL.append y r)
theorem HItL.heap {nx : List (Addr × Obj)} {g h : Heap} {L : Addr} (N : News g L h nx) : ∀ {vs : List Value} {its : List (Str × Str)}, HItL nx vs its -> HIt h vs its
 | _, _, .nil => .nil
 | _, _, .cons m r => .cons ⟨_, (N _ m).1, rfl, 0, rfl⟩ (r.heap N)
theorem HItL.sel {nx : List (Addr × Obj)} {P : Str × Str -> Bool} : ∀ {vs : List Value} {its : List (Str × Str)}, HItL nx vs its -> HItL nx (selZ P vs its) (its.filter P)
 | _, _, .nil => .nil
 | _, _, .cons (k := k) (v := v) x r => by
   have ih := r.sel (P := P)
   unfold selZ at ih ⊢
   rw [List.zip_cons_cons, List.filter_cons, List.filter_cons]
   cases e : P (k, v) with
   | true => simp only [if_true]; exact .cons x ih
   | false => simp only [Bool.false_eq_true, if_false]; exact ih
theorem HItL.len {nx : List (Addr × Obj)} : ∀ {vs : List Value} {its : List (Str × Str)}, HItL nx vs its -> vs.length = its.length
 | _, _, .nil => rfl
 | _, _, .cons _ r => by simp [r.len]
noncomputable def KeepJ (l : Addr) (us3 : List Value) (nm : Str) (ZS : List Str) (pre post : List (Addr × Obj)) (m0 : Str -> Option Value) (i : Nat) (m : Str -> Option Value) (nx : List (Addr × Obj)) : Prop :=
 ∃ tl nr ni, nx = tl ++ (pre ++ (l, W.listOf (us3 ++ nr).toArray ni) :: post) /\ HItL tl nr ((ZS.take i).map (fun z => (nm, z))) /\ (∀ p ∈ tl, noTup p.2 = false) /\ ∀ z, z ≠ Str.ofString "one" -> m z = m0 z
noncomputable def KTurn (h₀ : Heap) (L x dx l : Addr) (ox odx : Obj) (vl : List Value) (nm z : Str) (R : List (Addr × Obj)) (m0 : Str -> Option Value) (s₁ : Shared) (f : Flow) (s₂ : Shared) : Prop :=
 f = .next /\ ∃ h' tk' tp t1 t2 ni' m', s₂ = { s₁ with heap := h', toks := tk' } /\ Fr h₀ L h' m' /\ News h₀ L h' ((tp, hdrTup nm t1 z t2) :: (x, ox) :: (dx, odx) :: (l, W.listOf (vl ++ [Value.ref tp]).toArray ni') :: R) /\ (∀ p ∈ R, p.1 ≠ tp) /\ ∀ y, y ≠ Str.ofString "one" -> m' y = m0 y
theorem StrsAre.item2 {vs : List Value} {cs : List Str} (h : StrsAre vs cs) {i : Nat} {v : Value} (e : vs[i]? = some v) : ∃ z t, v = .str z t /\ cs[i]? = some z := by
 obtain ⟨y, t, a, b⟩ := StrsAre.item h i v e
 exact ⟨y, t, a, b⟩
section
variable {prog : Program} {w : World} {A : Around} {E : Value -> Shared -> Prop} {s : Shared} {env : Env} {h₀ : Heap} {body : List Stmt} {Q : Flow -> Shared -> Prop}
theorem keepLoop {Z l x dx : Addr} {ox odx : Obj} {vz : List Value} {ZS : List Str} {nz : Nat} {m₀ : Str -> Option Value} {news : List (Addr × Obj)} {us3 : List Value} {n3 : Nat} {nm : Str}
   (hh : A.handled = none) (hl : (Z, W.listOf vz.toArray nz) ∈ news) (hZl : @Ne Nat Z l) (hx : (x, ox) ∈ news) (hxl : @Ne Nat x l) (hdx : (dx, odx) ∈ news) (hdl : @Ne Nat dx l) (hs : StrsAre vz ZS) (F : Fr h₀ env.locals s.heap m₀) (N : News h₀ env.locals s.heap news) (U : Upd l (W.listOf us3.toArray n3) (W.listOf us3.toArray n3) news news)
   (turn : ∀ i z t nr ni R h tk, z ∈ ZS -> nr.length = i -> i < ZS.length -> OwnOff R [l] ->
     Fr h₀ env.locals h (fun y => if y = Str.ofString "one" then some (.str z t) else m₀ y) -> News h₀ env.locals h ((x, ox) :: (dx, odx) :: (l, W.listOf (us3 ++ nr).toArray ni) :: R) ->
     wpAny (model prog w) A (execs body env) (KTurn h₀ env.locals x dx l ox odx (us3 ++ nr) nm z R m₀ { s with heap := h, toks := tk }) E { s with heap := h, toks := tk })
   (done : ∀ tl nr ni u h tk, HItL tl nr (ZS.map (fun z => (nm, z))) -> (∀ p ∈ tl, noTup p.2 = false) -> Fr h₀ env.locals h (fun y => if y = Str.ofString "one" then u else m₀ y) -> (∀ news' p, Upd l (W.listOf us3.toArray n3) (W.listOf (us3 ++ nr).toArray ni) news news' -> p ∈ tl ++ news' -> h.get? p.1 = some p.2 /\ p.1 ≠ env.locals /\ h₀.get? p.1 = none) -> Q .next { s with heap := h, toks := tk }) :
   wpAny (model prog w) A (pyIter (.ref Z)) (fun it s₂ => LoopAtV prog w A h₀ env (Str.ofString "one") body Q E it s₂) E s := by
 have hlen : vz.length = ZS.length := hs.length
 (have hQ := U.split; revert hQ; refine xq2 fun pre post => ?_; refine aq4 fun en _ h1 => ?_; intro h2)
 have inPP : ∀ p : Addr × Obj, p ∈ news -> p.1 ≠ l -> p ∈ pre ++ post := by
   intro p hp hne
   rw [en] at hp
   rcases List.mem_append.mp hp with hp | hp
   . exact List.mem_append_left _ hp
   . rcases List.mem_cons.mp hp with rfl | hp
     . exact absurd rfl hne
     . exact List.mem_append_right _ hp
 refine iter_any (KeepJ l us3 nm ZS pre post m₀) hh hl F N ⟨[], [], n3, by rw [List.append_nil, List.nil_append]; exact en, .nil, fun p hp => (nomatch hp), fun _ _ => rfl⟩ ?_ ?_
 . (intro i v m₁ news₁ h tk own hv _ hoff hl₁; refine xq3 fun tl nr ni => ?_; refine aq2 fun eQ => ?_; subst eQ; refine aq3 fun hI ht => ?_; intro hm F₁ N₁)
   obtain ⟨z, t, rfl, hz⟩ := StrsAre.item2 hs hv
   have hi : i < ZS.length := (List.getElem?_eq_some_iff.mp hz).1
   have e : (fun y => if y = Str.ofString "one" then some (Value.str z t) else m₁ y) = (fun y => if y = Str.ofString "one" then some (Value.str z t) else m₀ y) := by
     funext y
     by_cases h1 : y = Str.ofString "one"
     . rw [if_pos h1, if_pos h1]
     . rw [if_neg h1, if_neg h1, hm y h1]
   rw [e] at F₁
   have hnr : nr.length = i := by rw [hI.len]; simp; lia
   have key : ∀ p : Addr × Obj, p ∈ pre ++ post -> p ∈ (tl ++ (pre ++ (l, W.listOf (us3 ++ nr).toArray ni) :: post)) ++ own := by
     intro p hp
     refine List.mem_append_left _ (List.mem_append_right _ ?_)
     rcases List.mem_append.mp hp with hp | hp
     . exact List.mem_append_left _ hp
     . exact List.mem_append_right _ (.tail _ hp)
   have hl2 : (l, W.listOf (us3 ++ nr).toArray ni) ∈ (tl ++ (pre ++ (l, W.listOf (us3 ++ nr).toArray ni) :: post)) ++ own := List.mem_append_left _ (List.mem_append_right _ (List.mem_append_right _ (.head _)))
   have tlne : ∀ p ∈ tl, p.1 ≠ l := by
     intro p hp e
     have g1 := (N₁ p (List.mem_append_left _ (List.mem_append_left _ hp))).1
     have g2 := (N₁ _ hl2).1
     rw [e] at g1
     rw [g1] at g2
     have := ht p hp
     rw [Option.some.inj g2] at this
     exact absurd (show true = false from this) (by decide)
   have offR : OwnOff (tl ++ (pre ++ post) ++ own) [l] := by
     intro p hp b hb
     rw [List.mem_singleton.mp hb]
     rcases List.mem_append.mp hp with hp | hp
     . rcases List.mem_append.mp hp with hp | hp
       . exact tlne p hp
       . rcases List.mem_append.mp hp with hp | hp
         . exact h1 p hp
         . exact h2 p hp
     . exact hoff p hp l (List.mem_map.mpr ⟨_, List.mem_append_right _ (List.mem_append_right _ (.head _)), rfl⟩)
   have N₂ : News h₀ env.locals h ((x, ox) :: (dx, odx) :: (l, W.listOf (us3 ++ nr).toArray ni) :: (tl ++ (pre ++ post) ++ own)) := by
     intro p hp
     rcases List.mem_cons.mp hp with rfl | hp
     . exact N₁ _ (key _ (inPP _ hx hxl))
     rcases List.mem_cons.mp hp with rfl | hp
     . exact N₁ _ (key _ (inPP _ hdx hdl))
     rcases List.mem_cons.mp hp with rfl | hp
     . exact N₁ _ hl2
     rcases List.mem_append.mp hp with hp | hp
     . rcases List.mem_append.mp hp with hp | hp
       . exact N₁ _ (List.mem_append_left _ (List.mem_append_left _ hp))
       . exact N₁ _ (key _ hp)
     . exact N₁ _ (List.mem_append_right _ hp)
   refine wpAny_mono (turn i z t nr ni _ h tk (List.mem_of_getElem? hz) hnr hi offR F₁ N₂) (fun f s₂ q => ?_) fun _ _ e => e
   (revert q; refine aq2 fun eQ => ?_; subst eQ; refine xq7 fun h' tk' tp t1 t2 ni' m' => ?_; refine aq2 fun eQ => ?_; subst eQ; refine aq4 fun F' N' hne => ?_; intro hm')
   have inR : ∀ p : Addr × Obj, p ∈ tl ++ (pre ++ post) ++ own -> h'.get? p.1 = some p.2 /\ p.1 ≠ env.locals /\ h₀.get? p.1 = none := fun p hp => N' p (.tail _ (.tail _ (.tail _ (.tail _ hp))))
   have ltp : l ≠ tp := by
     intro e
     have g1 := (N' _ (.head _)).1
     have g2 := (N' (l, W.listOf ((us3 ++ nr) ++ [Value.ref tp]).toArray ni') (.tail _ (.tail _ (.tail _ (.head _))))).1
     have g3 : h'.get? l = some (hdrTup nm t1 z t2) := by rw [e]; exact g1
     rw [g3] at g2
     have := congrArg noTup (Option.some.inj g2)
     exact absurd (show false = true from this) (by decide)
   refine InvEndG.intro (news' := ((tp, hdrTup nm t1 z t2) :: tl) ++ (pre ++ (l, W.listOf (us3 ++ (nr ++ [Value.ref tp])).toArray ni') :: post) ++ own) F' ?_ ⟨?_, (tp, hdrTup nm t1 z t2) :: tl, nr ++ [Value.ref tp], ni', rfl, ?_, ?_, hm'⟩ ?_ (fun p hp => List.mem_append_left _ hp) (fun p hp => List.mem_append_right _ hp)
   . intro p hp
     rcases List.mem_append.mp hp with hp | hp
     . rcases List.mem_append.mp hp with hp | hp
       . rcases List.mem_cons.mp hp with rfl | hp
         . exact N' _ (.head _)
         . exact inR p (List.mem_append_left _ (List.mem_append_left _ hp))
       . rcases List.mem_append.mp hp with hp | hp
         . exact inR p (List.mem_append_left _ (List.mem_append_right _ (List.mem_append_left _ hp)))
         . rcases List.mem_cons.mp hp with rfl | hp
           . rw [<- List.append_assoc]; exact N' _ (.tail _ (.tail _ (.tail _ (.head _))))
           . exact inR p (List.mem_append_left _ (List.mem_append_right _ (List.mem_append_right _ hp)))
     . exact inR p (List.mem_append_right _ hp)
   . refine List.mem_append_right _ ?_
     rcases List.mem_append.mp (inPP _ hl hZl) with q | q
     . exact List.mem_append_left _ q
     . exact List.mem_append_right _ (.tail _ q)
   . have e : ZS.take (i + 1) = ZS.take i ++ [z] := by rw [List.take_add_one, hz]; rfl
     rw [e, List.map_append]
     exact HItL.append (.cons (.head _) .nil) (hI.mono fun p hp => .tail _ hp)
   . intro p hp
     rcases List.mem_cons.mp hp with rfl | hp
     . rfl
     . exact ht p hp
   . intro p hp b hb
     rw [List.cons_append, List.map_cons] at hb
     rcases List.mem_cons.mp hb with rfl | hb
     . exact hne p (List.mem_append_right _ hp)
     . refine hoff p hp b ?_
       rw [List.map_append, List.map_append, List.map_cons] at hb ⊢
       exact hb
 . (intro m₁ news₁ h tk hl'; refine xq3 fun tl nr ni => ?_; refine aq2 fun eQ => ?_; subst eQ; refine aq3 fun hI ht => ?_; intro hm F' N')
   rw [hlen, List.take_length] at hI
   refine done tl nr ni (m₁ (Str.ofString "one")) h tk hI ht ?_ ?_
   . have e : m₁ = (fun y => if y = Str.ofString "one" then m₁ (Str.ofString "one") else m₀ y) := by
       funext y
       by_cases h1 : y = Str.ofString "one"
       . rw [if_pos h1, h1]
       . rw [if_neg h1, hm y h1]
     rw [<- e]; exact F'
   . intro news' p hU hp
     rcases List.mem_append.mp hp with hp | hp
     . exact N' p (List.mem_append_left _ hp)
     . (have hQ := hU.split; revert hQ; refine xq2 fun pre' post' => ?_; refine aq4 fun e1 e2 c1 => ?_; intro c2)
       rw [e2] at hp
       rcases List.mem_append.mp hp with hp | hp
       . have := inPP p (by rw [e1]; exact List.mem_append_left _ hp) (c1 p hp)
         rcases List.mem_append.mp this with q | q
         . exact N' p (List.mem_append_right _ (List.mem_append_left _ q))
         . exact N' p (List.mem_append_right _ (List.mem_append_right _ (.tail _ q)))
       . rcases List.mem_cons.mp hp with rfl | hp
         . exact N' _ (List.mem_append_right _ (List.mem_append_right _ (.head _)))
         . have := inPP p (by rw [e1]; exact List.mem_append_right _ (.tail _ hp)) (c2 p hp)
           rcases List.mem_append.mp this with q | q
           . exact N' p (List.mem_append_right _ (List.mem_append_left _ q))
           . exact N' p (List.mem_append_right _ (List.mem_append_right _ (.tail _ q)))
end
theorem newsOf {h₀ h : Heap} {L l : Addr} {o o' : Obj} {tl news news' : List (Addr × Obj)} (hN : ∀ news' p, Upd l o o' news news' -> p ∈ tl ++ news' -> h.get? p.1 = some p.2 /\ p.1 ≠ L /\ h₀.get? p.1 = none) (U : Upd l o o' news news') : News h₀ L h (tl ++ news') := fun p hp => hN _ p U hp
theorem freshTl {H g h' : Heap} {L' : Addr} {news news' tl : List (Addr × Obj)} (G : GSub H g (news.map (·.1))) (N' : News g L' h' news') (sub : ∀ p ∈ tl, p ∈ news') (ht : ∀ p ∈ tl, noTup p.2 = false) (hn : ∀ q ∈ news, ∃ o', (q.1, o') ∈ news' /\ noTup o' = true) : Fresh H h' tl := by
 intro p hp
 refine ⟨(N' p (sub p hp)).1, ?_⟩
 cases e : H.get? p.1 with
 | none => rfl
 | some o =>
   by_cases hm : p.1 ∈ news.map (·.1)
   . obtain ⟨q, hq, eq⟩ := List.mem_map.mp hm
     obtain ⟨o', ho', hno⟩ := hn q hq
     have h1 := (N' _ ho').1
     have h2 := (N' p (sub p hp)).1
     rw [eq] at h1
     rw [h1] at h2
     have := ht p hp
     rw [<- Option.some.inj h2, hno] at this
     cases this
   . have := G _ _ e hm
     rw [(N' p (sub p hp)).2.2] at this; cases this
end Mine
end
section
open PySem PySem.Spec PySem.Calls PySem.W PyProof.Rows PySem.Builtin PySem.Builtin.Str
namespace Mine
theorem dots3 : (Str.ofString "...").length = 3 := by decide
theorem occ_ne {x : Str} (h : (occurrences x (Str.ofString "...") 0 x.length 1).isEmpty = false) : ∃ i, StrLaws.At x (Str.ofString "...") x.length i := by
 rcases StrLaws.occ_head x (Str.ofString "...") 1 (by decide) with ⟨e, _⟩ | ⟨i, r, _, hA, _⟩
 . rw [e] at h; cases h
 . exact ⟨i, hA⟩
theorem split_eq {x : Str} (h : (occurrences x (Str.ofString "...") 0 x.length 1).isEmpty = false) : Txt.split x (Str.ofString "...") = partsBetween x (occurrences x (Str.ofString "...") 0 x.length (x.length + 1)) 3 /\ 2 <= (Txt.split x (Str.ofString "...")).length := by
 have hy := dots3
 obtain ⟨i, hA⟩ := occ_ne h
 have hlen : 3 <= x.length := by have := hA.1; lia
 have hk : 1 <= Str.strKind x := by unfold Str.strKind; split <;> (try split) <;> lia
 have hk2 : Str.strKind (Str.ofString "...") = 1 := by decide +kernel
 unfold Txt.split
 rw [if_neg (by simp only [Bool.or_eq_true, decide_eq_true_eq, not_or]; lia)]
 rcases StrLaws.occ_head x (Str.ofString "...") (x.length + 1) (by lia) with ⟨e, hn⟩ | ⟨j, r, e, _, _⟩
 . exact absurd hA (hn i)
 . rw [e, if_neg (by simp), length_partsBetween]
   exact ⟨by rw [dots3], by simp⟩
theorem parts_short {x : Str} {cuts : List Nat} {n : Nat} : ∀ y ∈ partsBetween x cuts n, y.length <= x.length := by
 intro y hy
 unfold partsBetween at hy
 obtain ⟨p, _, rfl⟩ := List.mem_map.mp hy
 exact len_strSub x p.1 p.2
theorem seg_shape {l : List (Str × Tok)} {x : Str} (e : l.map (·.1) = Txt.split x (Str.ofString "...")) (h : (occurrences x (Str.ofString "...") 0 x.length 1).isEmpty = false) (hw : x.length <= 16) :
   Txt.contains x (Str.ofString "...") = true /\ ∃ w0 t0 vm cm wm tm, strValues l = .str w0 t0 :: (vm ++ [.str wm tm]) /\ StrsAre vm cm /\ Txt.split x (Str.ofString "...") = w0 :: (cm ++ [wm]) /\ w0.length <= 16 /\ wm.length <= 16 /\ ∀ c ∈ cm, c.length <= 16 := by
 obtain ⟨he, h2⟩ := split_eq h
 have hs : ∀ y ∈ l.map (·.1), y.length <= 16 := fun y hy => Nat.le_trans (parts_short y (by rw [<- he, <- e]; exact hy)) hw
 rw [<- e, List.length_map] at h2
 refine ⟨by unfold Txt.contains; rw [h]; rfl, ?_⟩
 rcases l with _ | ⟨⟨w0, t0⟩, _ | ⟨b, r⟩⟩
 . simp at h2
 . simp at h2
 . have hne : (b :: r) ≠ [] := by simp
   have hcat : (b :: r) = (b :: r).dropLast ++ [(b :: r).getLast hne] := (List.dropLast_concat_getLast hne).symm
   refine ⟨w0, t0, strValues (b :: r).dropLast, (b :: r).dropLast.map (·.1), ((b :: r).getLast hne).1, ((b :: r).getLast hne).2, ?_, strsAre_of_values _, ?_, ?_, ?_, ?_⟩
   . conv => lhs; rw [hcat]
     simp [strValues]
   . rw [<- e]
     conv => lhs; rw [hcat]
     simp
   . exact hs _ (by simp)
   . exact hs _ (List.mem_map.mpr ⟨_, List.mem_cons_of_mem _ (List.getLast_mem hne), rfl⟩)
   . intro c hc
     obtain ⟨q, hq, rfl⟩ := List.mem_map.mp hc
     exact hs _ (List.mem_map.mpr ⟨q, List.mem_cons_of_mem _ (List.dropLast_subset _ hq), rfl⟩)
theorem seg_len {vm : List Value} {cm : List Str} {a b : Value} (h : StrsAre vm cm) : (a :: (vm ++ [b])).length = cm.length + 2 := by simp [h.length]
theorem seg_num {x : Str} {cm : List Str} {w0 wm : Str} (hw : x.length <= 16) (e : Txt.split x (Str.ofString "...") = w0 :: (cm ++ [wm])) : cm.length <= 64 := by
 have hl : (Txt.split x (Str.ofString "...")).length <= 64 := by
   unfold Txt.split
   split
   . simp
   . split
     . simp
     . rw [length_partsBetween]
       have := StrLaws.occ_length_le_len x (Str.ofString "...") 0 x.length (x.length + 1)
       lia
 rw [e] at hl
 simp at hl
 lia
noncomputable def findRun (got : Str) (ep : Int) : List Str -> Int -> Bool
 | [], _ => true
 | w :: r, sp => if find4 got w sp ep < 0 then false else findRun got ep r (find4 got w sp ep + w.length)
noncomputable def ellS (w0 : Str) (mid : List Str) (wm : Str) (got : Str) : Bool :=
 if ((w0.length : Int) != 0) = true /\ Txt.startswith got w0 = false then false
 else if ((wm.length : Int) != 0) = true /\ Txt.endswith got wm = false then false
 else if (if ((wm.length : Int) != 0) = true then (got.length : Int) - wm.length else got.length) < (if ((w0.length : Int) != 0) = true then (w0.length : Int) else 0) then false
 else findRun got (if ((wm.length : Int) != 0) = true then (got.length : Int) - wm.length else got.length) ((if ((w0.length : Int) != 0) = true then [] else [w0]) ++ mid ++ (if ((wm.length : Int) != 0) = true then [] else [wm])) (if ((w0.length : Int) != 0) = true then (w0.length : Int) else 0)
noncomputable def ellB (segs : List Str) (got : Str) : Bool := ellS (segs.headD ⟨#[]⟩) segs.tail.dropLast (segs.getLastD ⟨#[]⟩) got
noncomputable def ellZ (want got : Str) : Bool := if Txt.contains want (Str.ofString "...") = true then ellB (Txt.split want (Str.ofString "...")) got else want == got
theorem ellZ_eq {want got w0 wm : Str} {cm : List Str} (hc : Txt.contains want (Str.ofString "...") = true) (es : Txt.split want (Str.ofString "...") = w0 :: (cm ++ [wm])) : ellZ want got = ellS w0 cm wm got := by
 unfold ellZ ellB
 have e1 : (w0 :: (cm ++ [wm])).getLastD ⟨#[]⟩ = wm := by rw [show w0 :: (cm ++ [wm]) = (w0 :: cm) ++ [wm] from rfl, List.getLastD_concat]
 have e2 : (w0 :: (cm ++ [wm])).tail.dropLast = cm := by simp
 rw [if_pos hc, es, e1, e2]
 rfl
theorem seg16_1 {cm : List Str} {wm c : Str} (bc : ∀ c ∈ cm, c.length <= 16) (bm : wm.length <= 16) (h : c ∈ cm ++ [wm]) : c.length <= 16 := by
 rcases List.mem_append.mp h with h | h
 . exact bc c h
 . rw [List.mem_singleton.mp h]; exact bm
theorem seg16_0 {l : List Str} {w0 c : Str} (b0 : w0.length <= 16) (bc : c ∈ l -> c.length <= 16) (h : c ∈ w0 :: l) : c.length <= 16 := by
 rcases List.mem_cons.mp h with h | h
 . rw [h]; exact b0
 . exact bc h
theorem ell_no {want got : Str} (hc : Txt.contains want (Str.ofString "...") = false) : (want == got) = ellZ want got := by unfold ellZ; rw [if_neg (by rw [hc]; decide)]
section
variable {want got w0 wm : Str} {cm : List Str} (hc : Txt.contains want (Str.ofString "...") = true) (es : Txt.split want (Str.ofString "...") = w0 :: (cm ++ [wm]))
include hc es
theorem ell_f1 (a : (w0.length : Int) ≠ 0) (b : ¬ Txt.startswith got w0 = true) : false = ellZ want got := by
 rw [ellZ_eq hc es]; unfold ellS; rw [if_pos ⟨by simpa using a, by simpa using b⟩]
theorem ell_f2 (a : (wm.length : Int) ≠ 0) (b : ¬ Txt.endswith got wm = true) : false = ellZ want got := by
 rw [ellZ_eq hc es]; unfold ellS; split
 . rfl
 . rw [if_pos ⟨by simpa using a, by simpa using b⟩]
theorem ell_f3 (a : (w0.length : Int) ≠ 0) (a' : (wm.length : Int) ≠ 0) (h : (got.length : Int) - wm.length < w0.length) : false = ellZ want got := by
 rw [ellZ_eq hc es]; unfold ellS
 have e0 : ((w0.length : Int) != 0) = true := by simpa using a
 have em : ((wm.length : Int) != 0) = true := by simpa using a'
 simp only [e0, em, if_true, true_and]
 split
 . rfl
 . split
   . rfl
   . first | rfl | rw [if_pos h]
theorem ell_f4 (a : (w0.length : Int) ≠ 0) (a' : (wm.length : Int) = 0) (h : (got.length : Int) < w0.length) : false = ellZ want got := by
 rw [ellZ_eq hc es]; unfold ellS
 have e0 : ((w0.length : Int) != 0) = true := by simpa using a
 have em : ((wm.length : Int) != 0) = false := by simpa using a'
 simp only [e0, em, if_true, true_and]
 split
 . rfl
 . split
   . rfl
   . first | rfl | (rw [if_pos (by simpa using h)])
theorem ell_f5 (a : (w0.length : Int) = 0) (a' : (wm.length : Int) ≠ 0) (h : (got.length : Int) - wm.length < 0) : false = ellZ want got := by
 rw [ellZ_eq hc es]; unfold ellS
 have e0 : ((w0.length : Int) != 0) = false := by simpa using a
 have em : ((wm.length : Int) != 0) = true := by simpa using a'
 simp only [e0, em, if_true, true_and]
 split
 . rfl
 . split
   . rfl
   . first | rfl | (rw [if_pos (by simpa using h)])
theorem ell_11 (a : (w0.length : Int) ≠ 0) (b : Txt.startswith got w0 = true) (a' : (wm.length : Int) ≠ 0) (b' : Txt.endswith got wm = true) (h : ¬ (got.length : Int) - wm.length < w0.length) : findRun got ((got.length : Int) - wm.length) cm w0.length = ellZ want got := by
 rw [ellZ_eq hc es]; unfold ellS
 have e0 : ((w0.length : Int) != 0) = true := by simpa using a
 have em : ((wm.length : Int) != 0) = true := by simpa using a'
 simp [e0, em, b, b', h]
theorem ell_10 (a : (w0.length : Int) ≠ 0) (b : Txt.startswith got w0 = true) (a' : (wm.length : Int) = 0) (h : ¬ (got.length : Int) < w0.length) : findRun got (got.length : Int) (cm ++ [wm]) w0.length = ellZ want got := by
 rw [ellZ_eq hc es]; unfold ellS
 have e0 : ((w0.length : Int) != 0) = true := by simpa using a
 have em : ((wm.length : Int) != 0) = false := by simpa using a'
 simp [e0, em, b]
 intro _; lia
theorem ell_01 (a : (w0.length : Int) = 0) (a' : (wm.length : Int) ≠ 0) (b' : Txt.endswith got wm = true) (h : ¬ (got.length : Int) - wm.length < 0) : findRun got ((got.length : Int) - wm.length) (w0 :: cm) 0 = ellZ want got := by
 rw [ellZ_eq hc es]; unfold ellS
 have e0 : ((w0.length : Int) != 0) = false := by simpa using a
 have em : ((wm.length : Int) != 0) = true := by simpa using a'
 simp only [e0, em, b']
 simp [h]
theorem ell_00 (a : (w0.length : Int) = 0) (a' : (wm.length : Int) = 0) : findRun got (got.length : Int) (w0 :: (cm ++ [wm])) 0 = ellZ want got := by
 rw [ellZ_eq hc es]; unfold ellS
 have e0 : ((w0.length : Int) != 0) = false := by simpa using a
 have em : ((wm.length : Int) != 0) = false := by simpa using a'
 simp only [e0, em]
 simp
end
noncomputable def EllI (want got : Str) (ep : Int) (r : List Str) (v : Value) : Prop := ∃ p tp, v = .int p tp /\ 0 <= p /\ p <= 64 /\ findRun got ep r p = ellZ want got
theorem ell_stop {want got c : Str} {ep p : Int} {r : List Str} (h : findRun got ep (c :: r) p = ellZ want got) (hl : find4 got c p ep < 0) : false = ellZ want got := by
 rw [<- h]; unfold findRun; rw [if_pos hl]
theorem ell_step {want got c : Str} {ep p : Int} {r : List Str} {t : Tok} (h : findRun got ep (c :: r) p = ellZ want got) (hl : ¬ find4 got c p ep < 0) (hg : got.length <= 64) : EllI want got ep r (.int (find4 got c p ep + c.length) t) := by
 have := find4_len got c p ep hl
 refine ⟨_, _, rfl, by lia, by lia, ?_⟩
 rw [<- h]; conv => rhs; unfold findRun
 rw [if_neg hl]
theorem ell_end {want got : Str} {ep p : Int} (h : findRun got ep [] p = ellZ want got) : true = ellZ want got := h
theorem seg_are1 {wm : Str} {tm : Tok} : ∀ {vm : List Value} {cm : List Str}, StrsAre vm cm -> StrsAre (vm ++ [.str wm tm]) (cm ++ [wm])
 | _, _, h => StrsAre.append' h (.cons _ _ .nil)
section
variable {prog : Program} {w : World} {A : Around} {E : Value -> Shared -> Prop} {s : Shared} {h₀ : Heap} {L l : Addr} {news : List (Addr × Obj)} {r : List Value} {v v' : Value} {n : Nat} {u : Tok} {Q : Value -> Shared -> Prop}
theorem news_list (N : News h₀ L s.heap news) (hl : (l, W.listOf r.toArray n) ∈ news) : s.heap.IsList l r.toArray := ⟨_, (N _ hl).1, rfl, n, rfl⟩
theorem len_lst (N : News h₀ L s.heap news) (hl : (l, W.listOf r.toArray n) ∈ news) (hz : r.length <= 4096) (h : Q (.int r.length (s.toks + 1)) { s with toks := s.toks + 1 + 1 }) : wpAny (model prog w) A (call (.builtin "len") [.ref l]) Q E s :=
 len_list (news_list N hl) (by simp; lia) (by simpa using h)
theorem len_seg {X : List Value} {cm : List Str} (N : News h₀ L s.heap news) (hl : (l, W.listOf X.toArray n) ∈ news) (hX : X = v :: (r ++ [v'])) (hr : StrsAre r cm) (hn : cm.length <= 64) (h : Q (.int ((cm.length : Int) + 2) (s.toks + 1)) { s with toks := s.toks + 1 + 1 }) : wpAny (model prog w) A (call (.builtin "len") [.ref l]) Q E s := by
 subst hX
 have e := seg_len (a := v) (b := v') hr
 exact len_lst N hl (by lia) (by rw [e]; exact h)
theorem item_first {X : List Value} {value slice : Expr} (N : News h₀ L s.heap news) (hl : (l, W.listOf X.toArray n) ∈ news) (hX : X = v :: r) (h : Q v s)
   (hs : subscripted slice false (.ref l) (.int 0 u) = operate [.ref l, .int 0 u] (getItem (.ref l) (.int 0 u)) := by with_unfolding_all rfl) :
   wpAny (model prog w) A (subscriptTail value slice (.ref l) (.int 0 u)) Q E s := by subst hX; exact item_listR (news_list N hl) (by decide) (by decide) (by simp) h hs
theorem item_last {X : List Value} {value slice : Expr} (N : News h₀ L s.heap news) (hl : (l, W.listOf X.toArray n) ∈ news) (hX : X = r ++ [v]) (h : Q v s)
   (hs : subscripted slice false (.ref l) (.int (-1) u) = operate [.ref l, .int (-1) u] (getItem (.ref l) (.int (-1) u)) := by with_unfolding_all rfl) :
   wpAny (model prog w) A (subscriptTail value slice (.ref l) (.int (-1) u)) Q E s := by
 subst hX
 exact subscriptTail_builtinR (news_list N hl).typeIs slot_list_getitem.lookup (wpAny_getItem_list_neg (Q := fun r s' => r = v /\ Q r s') (news_list N hl) (by decide) (by simp; lia) (by decide) (by
   have e : (-1 + ((r ++ [v]).toArray.size : Int)).toNat = r.length := by simp; lia
   rw [e]; simp) ⟨rfl, h⟩) hs
theorem item_last1 {X : List Value} {value slice : Expr} (N : News h₀ L s.heap news) (hl : (l, W.listOf X.toArray n) ∈ news) (hX : X = v' :: (r ++ [v])) (h : Q v s)
   (hs : subscripted slice false (.ref l) (.int (-1) u) = operate [.ref l, .int (-1) u] (getItem (.ref l) (.int (-1) u)) := by with_unfolding_all rfl) :
   wpAny (model prog w) A (subscriptTail value slice (.ref l) (.int (-1) u)) Q E s := item_last (r := v' :: r) N hl hX h hs
theorem del_last : ∀ r : List Value, ki_delL (r ++ [v]) r.length = some r
 | [] => rfl
 | a :: r => by show (match ki_delL (r ++ [v]) r.length with | some q => some (a :: q) | none => none) = _; rw [del_last r]
theorem idx_first : seqIndex? 0 (v :: r).toArray.size = some 0 := seqIndex?_zero (by simp)
theorem idx_last : seqIndex? (-1) (r ++ [v]).toArray.size = some r.length := by rw [seqIndex?_neg_one (by simp)]; simp
theorem idx_last1 : seqIndex? (-1) (v' :: (r ++ [v])).toArray.size = some (v' :: r).length := idx_last (r := v' :: r)
theorem delq_first : ki_delL (v :: r).toArray.toList 0 = some r := rfl
theorem delq_last : ki_delL (r ++ [v]).toArray.toList r.length = some r := del_last r
theorem delq_last1 : ki_delL (v' :: (r ++ [v])).toArray.toList (v' :: r).length = some (v' :: r) := del_last (v' :: r)
end
theorem seg_sz {vm r : List Value} {cm : List Str} (h : StrsAre vm cm) (hn : cm.length <= 64) (hr : r.length <= vm.length + 2) : r.toArray.toList.length <= sizeLine := by
 rw [sizeLine_eq]; have := h.length; simp; lia
section
noncomputable abbrev ell_okBQ (w : World) (dp un : Nat) (gd : Option (List Code)) (cn : Str) (cs : Scope) (a : Addr) (ccd : Value) (cl : List (Str × Addr)) (outer : List Env) (A₀ : Around) (base h₀ : Heap) (L : Addr) (m : Str -> Option Value) (s : Shared) (p : Program) (loose : List Str) (mean : ExcName -> Option Value) (mg mb : Str -> Option Value) (Q E : Value -> Shared -> Prop) (want got : Str) (tt tg : Tok) (g : Heap) (L' : Addr) (h' : Heap) (tk : Nat) : Prop := ∀ {lb : List Stmt} {scope : Scope} (hlb : fdB (stm pw_sr0088_01 10) = lb) (hsc : fdS (stm pw_sr0088_01 10) = scope) (hw : want.length <= 16) (hg : got.length <= 64) (C : Cx w dp un cs outer A₀ base h₀ L m s.heap p loose mean mg mb 6) (ret : ∀ (h' : Heap) (tk' : Nat) (b : Bool), b = ellZ want got -> Kp s.heap h' -> Q (.bool b) { s with heap := h', toks := tk' }) (kG : Kp s.heap g) (C' : Cx w (dp + 1) (un + 3) scope (envX cn cs L a ccd cl :: outer) (ktrTop dp un gd cn cs L a ccd cl outer) base g L' (fun y => ([("want", .str want tt), ("got", .str got tg)] : List (Str × Value)).reverse.lookup y) h' p loose mean mg mb 5) (N' : News g L' h' []) (FG' : Fr h₀ L g m), wpAny (model pw_sr0088_01 w) ((ktrTop dp un gd cn cs L a ccd cl outer).deeper (envOf (⟨#[95,101,108,108,105,112,115,105,115,95,109,97,116,99,104]⟩ : Str) scope L' 193 (.ref 192))) (execs lb (envOf (⟨#[95,101,108,108,105,112,115,105,115,95,109,97,116,99,104]⟩ : Str) scope L' 193 (.ref 192))) (fun fl s' => LeaveK h₀ L m g (fun r s' => match r with | .ok (.ret v) => Q v s' | .ok _ => False | .error e => E e s') (match fl with | .ret v => v | _ => .none) s') (fun e s' => wpAny (model pw_sr0088_01 w) ((ktrTop dp un gd cn cs L a ccd cl outer).deeper (envOf (⟨#[95,101,108,108,105,112,115,105,115,95,109,97,116,99,104]⟩ : Str) scope L' 193 (.ref 192))) (leaving (envOf (⟨#[95,101,108,108,105,112,115,105,115,95,109,97,116,99,104]⟩ : Str) scope L' 193 (.ref 192)) e) (fun _ s'' => E e s'') (fun e' s'' => E e' s'') s') { s with heap := h', toks := tk }
noncomputable def ell_okBS (x : LP) : Prop := ell_okBQ x.w x.dp x.un x.gd x.cn x.cs x.a x.ccd x.cl x.outer x.A₀ x.base x.h₀ x.L x.m x.s x.p x.loose x.mean x.mg x.mb x.Q x.E x.want x.got x.tt x.tg x.g x.L' x.h' x.tk
@[irreducible] noncomputable def ell_okBC : LP := gen LPE ell_okBS
namespace ell_okBN
noncomputable section
 def cs := ell_okBC.cs
 def a := ell_okBC.a
 def p := ell_okBC.p
 def want := ell_okBC.want
 def got := ell_okBC.got
 def g := ell_okBC.g
 def h' := ell_okBC.h'
 def tk := ell_okBC.tk
end
theorem main : ell_okBQ ell_okBC.w ell_okBC.dp ell_okBC.un ell_okBC.gd ell_okBC.cn cs a ell_okBC.ccd ell_okBC.cl ell_okBC.outer ell_okBC.A₀ ell_okBC.base ell_okBC.h₀ ell_okBC.L ell_okBC.m ell_okBC.s p ell_okBC.loose ell_okBC.mean ell_okBC.mg ell_okBC.mb ell_okBC.Q ell_okBC.E want got ell_okBC.tt ell_okBC.tg g ell_okBC.L' h' tk := by
 intro lb scope hlb hsc
 conv at hlb => lhs; whnf
 conv at hsc => lhs; whnf
 subst hlb hsc
 intro hw hg C ret kG C' N' FG'
 obtain ⟨B', F', X', T', hk', hd', hu'⟩ := C'
 obtain ⟨B0, F0, X0, T0, hk0, hd0, hu0⟩ := C
 (try k_fold)
 have TR' := topRead_of T'
 k_with "call builtin:str.find" => (first | refine sfind4 ?_ | refine SC.find ?_)
 k_with "call builtin:str.split" => (refine KSpl.split1 (by k_asm) (by k_asm) (by decide) ?_ (by rw [sizeLine_eq]; lia); (intro D' l' h' k' e' a' F' N' l1); ((have hQ := seg_shape e' (by assumption) hw; revert hQ; refine aq2 fun hc => ?_; refine xq6 fun w0 t0 vm cm wm tm => ?_; refine aq6 fun ev hvm es b0 bm => ?_; intro bc)); rw [ev] at N'; clear ev e' a'; (try k_lt l1))
 k_with "truthy str" => (refine KXt.truthy rfl (by lia) ?_; intro _)
 k_with "call builtin:len" => (first | (refine' len_seg (cm := cm) ?sN ?sM ?sX ?sV ?sH ?_; (case sN => k_asm); (case sM => k_dflt k_mem); (case sX => k_dflt exact rfl); (case sV => exact hvm); (case sH => exact seg_num hw es)) | refine SBL.len (by lia) ?_)
 k_with "subscriptTail" => (first | (refine' item_first ?sN ?sM ?sX ?_; (case sN => k_asm); (case sM => k_dflt k_mem); (case sX => k_dflt exact rfl)) | (refine' item_last1 ?sN ?sM ?sX ?_; (case sN => k_asm); (case sM => k_dflt k_mem); (case sX => k_dflt exact rfl)) | (refine' item_last ?sN ?sM ?sX ?_; (case sN => k_asm); (case sM => k_dflt k_mem); (case sX => k_dflt exact rfl)))
 k_with "exec For Name Name cons nil" => ((rename Fr _ _ _ _ => lF'); (with_unfolding_all refine' For_invVF lF' ?k1 ?k2 ?_; (case k1 => exact rfl); (case k2 => exact rfl); k_whole))
 k_with "delItem ref int" => (refine' ki_del ?F ?N ?f ?k ?e ?U ?z ?_; (case F => k_asm); (case N => k_asm); (case U => k_upd); (case f => decide); (case k => (first | exact idx_first | exact idx_last1 | exact idx_last)); (case e => (first | exact delq_first | exact delq_last1 | exact delq_last)); (case z => exact seg_sz hvm (seg_num hw es) (by simp)); (intro h' F' N'; (try dsimp only [List.nil_append, List.cons_append] at N')))
 k_with "pyIter ref" => ((rename Fr _ _ _ _ => lF); (rename News _ _ _ _ => lN); (first | ((k_dflt refine' strLoop (y := Str.ofString "startpos") (cs := cm) (EllI want got ((got.length : Int) - wm.length)) ?k1a ?k2a ?k3a lF lN ?k4a ?k5a ?k6a ?turna ?donea); (case k1a => with_unfolding_all rfl); (case k2a => k_dflt k_mem); (case k3a => k_dflt exact hvm); (case k4a => with_unfolding_all rfl); (case k5a => decide); (case k6a => k_dflt exact ⟨_, _, rfl, by lia, by lia, ell_11 hc es (by assumption) (by assumption) (by assumption) (by assumption) (by assumption)⟩); (case' turna => (((intro c r t a h tk own hoff; refine xq2 fun p tp => ?_; refine aq2 fun eQ => ?_; subst eQ; refine aq3 fun hp0 hp1 => ?_; intro hI hmem lF lN)); have hc16 : c.length <= 16 := bc c hmem; clear hmem)); (case' donea => ((intro a u h tk; refine xq2 fun p tp => ?_; refine aq2 fun eQ => ?_; subst eQ; refine aq3 fun hp0 hp1 => ?_; intro hI lF lN)))) | ((k_dflt refine' strLoop (y := Str.ofString "startpos") (cs := cm ++ [wm]) (EllI want got ((got.length : Int))) ?k1b ?k2b ?k3b lF lN ?k4b ?k5b ?k6b ?turnb ?doneb); (case k1b => with_unfolding_all rfl); (case k2b => k_dflt k_mem); (case k3b => k_dflt exact seg_are1 hvm); (case k4b => with_unfolding_all rfl); (case k5b => decide); (case k6b => k_dflt exact ⟨_, _, rfl, by lia, by lia, ell_10 hc es (by assumption) (by assumption) (by assumption) (by assumption)⟩); (case' turnb => (((intro c r t a h tk own hoff; refine xq2 fun p tp => ?_; refine aq2 fun eQ => ?_; subst eQ; refine aq3 fun hp0 hp1 => ?_; intro hI hmem lF lN)); have hc16 : c.length <= 16 := seg16_1 bc bm hmem; clear hmem)); (case' doneb => ((intro a u h tk; refine xq2 fun p tp => ?_; refine aq2 fun eQ => ?_; subst eQ; refine aq3 fun hp0 hp1 => ?_; intro hI lF lN)))) | ((k_dflt refine' strLoop (y := Str.ofString "startpos") (cs := w0 :: cm) (EllI want got ((got.length : Int) - wm.length)) ?k1c ?k2c ?k3c lF lN ?k4c ?k5c ?k6c ?turnc ?donec); (case k1c => with_unfolding_all rfl); (case k2c => k_dflt k_mem); (case k3c => k_dflt exact StrsAre.cons _ _ hvm); (case k4c => with_unfolding_all rfl); (case k5c => decide); (case k6c => k_dflt exact ⟨_, _, rfl, by lia, by lia, ell_01 hc es (by assumption) (by assumption) (by assumption) (by assumption)⟩); (case' turnc => (((intro c r t a h tk own hoff; refine xq2 fun p tp => ?_; refine aq2 fun eQ => ?_; subst eQ; refine aq3 fun hp0 hp1 => ?_; intro hI hmem lF lN)); have hc16 : c.length <= 16 := seg16_0 b0 (bc c) hmem; clear hmem)); (case' donec => ((intro a u h tk; refine xq2 fun p tp => ?_; refine aq2 fun eQ => ?_; subst eQ; refine aq3 fun hp0 hp1 => ?_; intro hI lF lN)))) | ((k_dflt refine' strLoop (y := Str.ofString "startpos") (cs := w0 :: (cm ++ [wm])) (EllI want got ((got.length : Int))) ?k1d ?k2d ?k3d lF lN ?k4d ?k5d ?k6d ?turnd ?doned); (case k1d => with_unfolding_all rfl); (case k2d => k_dflt k_mem); (case k3d => k_dflt exact StrsAre.cons _ _ (seg_are1 hvm)); (case k4d => with_unfolding_all rfl); (case k5d => decide); (case k6d => k_dflt exact ⟨_, _, rfl, by lia, by lia, ell_00 hc es (by assumption) (by assumption)⟩); (case' turnd => (((intro c r t a h tk own hoff; refine xq2 fun p tp => ?_; refine aq2 fun eQ => ?_; subst eQ; refine aq3 fun hp0 hp1 => ?_; intro hI hmem lF lN)); have hc16 : c.length <= 16 := seg16_0 b0 (seg16_1 bc bm) hmem; clear hmem)); (case' doned => ((intro a u h tk; refine xq2 fun p tp => ?_; refine aq2 fun eQ => ?_; subst eQ; refine aq3 fun hp0 hp1 => ?_; intro hI lF lN))))); (all_goals (try k_fold)))
 k_steps
 k_with_none
 all_goals first
   | (rename Fr g _ _ _ => lF
      refine ret _ _ _ ?e (kG.trans lF.keep)
      case e =>
        first
          | exact ell_stop hI (by assumption)
          | exact ell_end hI
          | (refine ell_no ?_; unfold Txt.contains; simp only [Bool.not_eq_false', Bool.not_eq_false]; assumption)
          | (refine ell_no ?_; unfold Txt.contains; simp_all; done)
          | exact ell_f1 hc es (by assumption) (by first | assumption | (rw [Bool.not_eq_true]; assumption))
          | exact ell_f2 hc es (by assumption) (by first | assumption | (rw [Bool.not_eq_true]; assumption))
          | exact ell_f3 hc es (by assumption) (by assumption) (by assumption)
          | exact ell_f4 hc es (by assumption) (by assumption) (by assumption)
          | exact ell_f5 hc es (by assumption) (by assumption) (by assumption))
   | (rename Fr g _ _ _ => lF
      rename News g _ _ _ => lN
      refine InvEndN.intro lF lN ?hj (by rfl) ?hn ?ho
      case hj => exact ⟨rfl, ⟨_, by with_unfolding_all rfl, ell_step hI (by assumption) hg⟩, by (intro z h1 h2; simp [h1, h2])⟩
      case hn => (with_unfolding_all ((try simp only [List.nil_append, List.cons_append]); k_allIn))
      case ho => (intro p hp; k_ownIn))
end ell_okBN
theorem ell_okBH : ell_okBS (gen LPE ell_okBS) := by with_unfolding_all exact @ell_okBN.main
theorem ell_okB {w dp un gd cn cs a ccd cl outer A₀ base h₀ L m s p loose mean mg mb Q E want got tt tg g L' h' tk} : ell_okBQ w dp un gd cn cs a ccd cl outer A₀ base h₀ L m s p loose mean mg mb Q E want got tt tg g L' h' tk := @all_gen LP LPE ell_okBS @ell_okBH { lp0 with w, dp, un, gd, cn, cs, a, ccd, cl, outer, A₀, base, h₀, L, m, s, p, loose, mean, mg, mb, Q, E, want, got, tt, tg, g, L', h', tk }
end
section
variable {w : World} {dp un : Nat} {gd : Option (List Code)} {cn : Str} {cs : Scope} {a : Addr} {ccd : Value} {cl : List (Str × Addr)} {outer : List Env} {A₀ : Around} {base h₀ : Heap} {L : Addr} {m : Str -> Option Value} {s : Shared}
 {p : Program} {loose : List Str} {mean : ExcName -> Option Value} {mg mb : Str -> Option Value} {news : List (Addr × Obj)} {Q E : Value -> Shared -> Prop}
theorem ell_ok {want got : Str} {tt tg : Tok} (hw : want.length <= 16) (hg : got.length <= 64) (C : Cx w dp un cs outer A₀ base h₀ L m s.heap p loose mean mg mb 6)
 (ret : ∀ (h' : Heap) (tk' : Nat) (b : Bool), b = ellZ want got -> Kp s.heap h' -> Q (.bool b) { s with heap := h', toks := tk' }) :
 wpAny (model pw_sr0088_01 w) (ktrTop dp un gd cn cs L a ccd cl outer) (call (.ref 193) [.str want tt, .str got tg]) Q E s := by
 refine' enterP [("want", .str want tt), ("got", .str got tg)] C ?ho ?hcd ?hb ?hl ?hs ?b ?sc ?h
 case ho => k_dflt k_is
 case hcd => k_dflt k_is
 case hb => rfl
 case hl => rfl
 case hs => rfl
 case b => (conv => lhs; whnf)
 case sc => (conv => lhs; whnf)
 case h =>
   intro g L' h' tk kG C' N' FG'
   exact ell_okB (want := want) (got := got) (tt := tt) (tg := tg) rfl rfl hw hg C ret kG C' N' FG'
end
end Mine
end
local macro_rules | `(tactic| walk_at $s:str) => `(tactic| k_extra $s)
section
open PySem PySem.Spec PySem.Calls PySem.W PyProof.Rows
namespace Mine
theorem getall_len {us vs : List Value} {its : List (Str × Str)} {P : Str × Str -> Bool} (h : StrsAre us ((its.filter P).map (·.2))) (hv : vs.length <= 32) (hl : vs.length = its.length) : us.length <= 32 := by
 have h1 := h.length
 rw [List.length_map] at h1
 have h2 := List.length_filter_le P its
 lia
theorem dictKeepG {w : World} {h h' : Heap} {a : Addr} {kvs : List (Str × Value)} (hd : h.DictOf (sk w) a kvs) (k : ∀ b o, h.get? b = some o -> h'.get? b = some o) : h'.DictOf (sk w) a kvs := let ⟨o, es, ep, ho, r⟩ := hd; ⟨o, es, ep, k _ _ ho, r⟩
section
variable {w : World} {A : Around} {s : Shared} {E : Value -> Shared -> Prop}
theorem item_smp {its : List (Str × Str)} {wt : Str} {value slice : PySem.Expr} {sd : Addr} {kvs : List (Str × Value)} {smp : Str -> Str} {z : Str} {u : Tok} {Q : Value -> Shared -> Prop} (hsm : ∀ z, (z = wt \/ z ∈ its.map (·.2)) -> ∃ t, valueAt kvs z = some (.str (smp z) t)) (hz : z = wt \/ z ∈ its.map (·.2)) (hd : s.heap.DictOf (sk w) sd kvs)
   (h : ∀ t, Q (.str (smp z) t) { s with toks := s.toks + 1 }) (hs : subscripted slice false (.ref sd) (.str z u) = operate [.ref sd, .str z u] (getItem (.ref sd) (.str z u))) : wpAny (model pw_sr0088_01 w) A (subscriptTail value slice (.ref sd) (.str z u)) Q E s := by
 obtain ⟨t, hv⟩ := hsm z hz
 exact tail_any hd.typeIs slot_dict_getitem.lookup (wpAny_getItem_of (strKind_is _ w z u) hd.mapOf hv (h t)) hs
end
theorem StrsAre.at2 : ∀ {pre : List Value} {v : Value} {post : List Value} {ks : List Str}, StrsAre (pre ++ v :: post) ks -> ∃ i1 z t i2, ks = i1 ++ z :: i2 /\ i1.length = pre.length /\ v = .str z t := by
 intro pre
 induction pre with
 | nil =>
   intro v post ks H
   rw [List.nil_append] at H
   cases H with
   | cons y t r => exact ⟨[], _, _, _, rfl, rfl, rfl⟩
 | cons p pre ih =>
   intro v post ks H
   rw [List.cons_append] at H
   cases H with
   | cons y t r =>
     (have hQ := ih r; revert hQ; refine xq4 fun i1 z t' i2 => ?_; refine aq2 fun eQ => ?_; subst eQ; refine aq2 fun e => ?_; rintro rfl)
     exact ⟨_ :: i1, z, t', i2, rfl, by simp [e], rfl⟩
noncomputable def Done2 : Prop := True
section
open PyProof.Rows.LCg PyProof.Rows.LCt
variable {prog : Program} {w : World} {A : Around} {s : Shared} {h₀ : Heap} {L : Addr} {m : Str -> Option Value} {env : Env}
theorem keepTurns {ct elt : Expr} {x : Str} {scope : Scope} {cl : List (Str × Addr)} {S : List (Addr × Obj) -> Prop} {Fin : List Value -> List (Addr × Obj) -> Prop} {news : List (Addr × Obj)} {us : List Value} {KS : List Str} (P : Str -> Bool) (G : Str -> Prop) (hG : ∀ z ∈ KS, G z) (hus : StrsAre us KS) (hS : S news)
   (turn : ∀ (z : Str) (t : Tok) ys I oI C oC D m₂ h tk (E' : Value -> Shared -> Prop), G z -> NsObj oC m₂ -> m₂ x = some (.str z t) -> Fr h₀ L h m -> News h₀ L h ((I, oI) :: (C, oC) :: (D, lst ys) :: news) -> Off3 I C D news -> ((@Ne Nat I C) /\ (@Ne Nat I D) /\ (@Ne Nat C D)) ->
     wpAny (model prog w) A (isTrue ct (compEnvC scope cl C env) (eval ct (compEnvC scope cl C env))) (fun ok s' => if ok = true then
       wpAny (model prog w) A (eval elt (compEnvC scope cl C env)) (TurnEnd h₀ L m { s with heap := h, toks := tk } ((I, oI) :: (C, oC) :: (D, lst ys) :: news) (fun y => P z = true /\ ∃ t', y = .str z t')) E' s'
       else TurnEnd h₀ L m { s with heap := h, toks := tk } ((I, oI) :: (C, oC) :: (D, lst ys) :: news) (fun _ => P z = false) Value.none s') E' { s with heap := h, toks := tk })
   (fin : Done2 -> ∀ ys, StrsAre ys (KS.filter P) -> Fin ys news) : CompRestT prog w A h₀ L m env ct elt x scope cl s S (fun i v => us.toArray[i]? = some v) Fin us.toArray.size 0 [] news := by
 refine turnsT (fun pre ys => StrsAre ys (((KS.take pre.length).filter P).map id)) hS .nil ?_ ?_
 . intro pre v post ys I oI C oC D m₂ h tk E' e hJ hO hx lF2 lN2 off hne
   (have hQ := StrsAre.at2 (e ▸ hus); revert hQ; refine xq4 fun i1 z t i2 => ?_; refine aq3 fun e2 e3 => ?_; rintro rfl)
   refine wpAny_mono (turn z t ys I oI C oC D m₂ h tk E' (hG z (by rw [e2]; simp)) hO hx lF2 lN2 off hne) (fun ok s' q => ?_) fun _ _ e => e
   cases ok with
   | true =>
     rw [if_pos rfl] at q ⊢
     refine wpAny_mono q (fun y s'' r => ?_) fun _ _ e => e
     (revert r; refine xq2 fun h' tk' => ?_; refine aq5 fun e' F' N' hp => ?_; refine xq1 fun t' => ?_; rintro rfl)
     refine ⟨h', tk', e', F', N', ?_⟩
     rw [filt_yes e2 e3 hp]
     exact StrsAre.append' hJ (.cons _ _ .nil)
   | false =>
     rw [if_neg (by decide)] at q ⊢
     (revert q; refine xq2 fun h' tk' => ?_; refine aq4 fun e' F' N' => ?_; intro hp)
     refine ⟨h', tk', e', F', N', ?_⟩
     rw [filt_no e2 e3 hp]
     exact hJ
 . intro ys hJ
   rw [List.take_of_length_le (by rw [hus.length]; exact Nat.le_refl _), List.map_id] at hJ
   exact fin trivial ys hJ
end
theorem plain_ok {x : Str} (h : PlainT x) : PyData.strOk x = true := by
 unfold PyData.strOk
 rw [Array.all_eq_true]
 intro i hi
 have h1 := h i hi
 rw [Array.getD_eq_getD_getElem?, Array.getElem?_eq_getElem hi] at h1
 have h2 := h1.2
 simp only [Option.getD_some] at h2
 simp only [decide_eq_true_eq]
 lia
theorem keep_ok8 {its : List (Str × Str)} {P : Str × Str -> Bool} {P2 : Str -> Bool} (hlen : ∀ p ∈ its, p.1.length <= 16 /\ p.2.length <= 16 /\ PlainT p.2) : ∀ z ∈ ((its.filter P).map (·.2)).filter P2, PyData.strOk z = true := by
 intro z hz
 obtain ⟨p, hp, rfl⟩ := List.mem_map.mp (List.mem_filter.mp hz).1
 exact plain_ok (hlen p (List.mem_filter.mp hp).1).2.2
theorem keep_good {its : List (Str × Str)} {P : Str × Str -> Bool} (hlen : ∀ p ∈ its, p.1.length <= 16 /\ p.2.length <= 16 /\ PlainT p.2) : ∀ z ∈ (its.filter P).map (·.2), z ∈ its.map (·.2) /\ z.length <= 16 := by
 intro z hz
 obtain ⟨p, hp, rfl⟩ := List.mem_map.mp hz
 have hp' := (List.mem_filter.mp hp).1
 exact ⟨List.mem_map.mpr ⟨p, hp', rfl⟩, (hlen p hp').2.1⟩
theorem selZ_le {us3 vs : List Value} {its : List (Str × Str)} {P : Str × Str -> Bool} (e : us3 = selZ P vs its) (h : vs.length <= 32) : us3.length <= 32 := by rw [e]; exact Nat.le_trans selZ_len h
theorem freshNeA {g h h' : Heap} {L : Addr} {news : List (Addr × Obj)} {r : Addr} {o : Obj} {l : List (Addr × Obj)} (N : News g L h news) (fr : Fresh h h' ((r, o) :: l)) : ∀ p ∈ news, p.1 ≠ r := fun p hp e => by
 have h2 := (fr _ (List.Mem.head _)).2
 have h1 := (N p hp).1
 rw [e] at h1
 rw [h1] at h2; cases h2
theorem len_app {α : Type} {a b : List α} {ZS : List Str} {i : Nat} (h1 : a.length <= 32) (h2 : b.length = i) (h3 : i < ZS.length) (h4 : ZS.length <= 33) : (a ++ b).length <= 64 := by
 rw [List.length_append]; lia
noncomputable def keptOf (its : List (Str × Str)) (nm : Str) : List Str := (its.filter (fun kv => Txt.lower kv.1 == Txt.lower nm)).map (·.2)
noncomputable def keepZ (its : List (Str × Str)) (nm wt : Str) (smp : Str -> Str) : List (Str × Str) :=
 if (keptOf its nm).filter (fun z => ellZ z (smp wt)) = [] then its.filter (fun kv => Txt.lower kv.1 != Txt.lower nm) ++ ((keptOf its nm).filter (fun z => !ellZ wt (smp z)) ++ [wt]).map (fun z => (nm, z)) else its
theorem keepZ_new {its : List (Str × Str)} {nm wt : Str} {smp : Str -> Str} {us3 vs nr : List Value} {nx tl : List (Addr × Obj)} (h : ((its.filter (fun kv => Txt.lower kv.1 == Txt.lower nm)).map (·.2)).filter (fun z => ellZ z (smp wt)) = []) (h3 : us3 = selZ (fun kv => Txt.lower kv.1 != Txt.lower nm) vs its) (hx : HItL nx vs its)
   (hI : HItL tl nr ((((its.filter (fun kv => Txt.lower kv.1 == Txt.lower nm)).map (·.2)).filter (fun z => !ellZ wt (smp z)) ++ [wt]).map (fun z => (nm, z)))) : HItL (tl ++ nx) (us3 ++ nr) (keepZ its nm wt smp) := by
 unfold keepZ keptOf
 rw [if_pos h, h3]
 exact HItL.append (hI.mono fun p hp => List.mem_append_left _ hp) (hx.sel.mono fun p hp => List.mem_append_right _ hp)
theorem keepZ_old {its : List (Str × Str)} {nm wt : Str} {smp : Str -> Str} {vs : List Value} {nx : List (Addr × Obj)} (h : ¬ ((its.filter (fun kv => Txt.lower kv.1 == Txt.lower nm)).map (·.2)).filter (fun z => ellZ z (smp wt)) = []) (hx : HItL nx vs its) : HItL ([] ++ nx) vs (keepZ its nm wt smp) := by
 unfold keepZ keptOf
 rw [if_neg h]
 exact hx
theorem News.sub3 {h₀ h : Heap} {L : Addr} {news : List (Addr × Obj)} {a b c : Addr × Obj} (N : News h₀ L h news) (ha : a ∈ news) (hb : b ∈ news) (hc : c ∈ news) : News h₀ L h [a, b, c] := by
 intro p hp
 simp only [List.mem_cons, List.not_mem_nil, or_false] at hp
 rcases hp with rfl | rfl | rfl
 . exact N _ ha
 . exact N _ hb
 . exact N _ hc
section
noncomputable abbrev keep_okBQ (w : World) (dp un : Nat) (gd : Option (List Code)) (cn : Str) (cs : Scope) (a : Addr) (ccd : Value) (cl : List (Str × Addr)) (outer : List Env) (A₀ : Around) (base h₀ : Heap) (L : Addr) (m : Str -> Option Value) (s : Shared) (p : Program) (loose : List Str) (mean : ExcName -> Option Value) (mg mb : Str -> Option Value) (Q E : Value -> Shared -> Prop) (x dx l sd : Addr) (to : Tok) (n : Nat) (vs : List Value) (its : List (Str × Str)) (nm wt : Str) (tn tw : Tok) (so : Obj) (kvs : List (Str × Value)) (g : Heap) (L' : Addr) (h' : Heap) (tk : Nat) : Prop := ∀ {cells : List (Addr × Obj)} {lb : List Stmt} {scope : Scope} (hlb : fdB (stm pw_sr0088_01 21) = lb) (hsc : fdS (stm pw_sr0088_01 21) = scope) (hx : @LT.lt Nat _ dx x) (hl : @LT.lt Nat _ x l) (hnp : PlainT nm) (hn16 : nm.length <= 16) (hlo : PlainT (Txt.lower nm)) (hlo2 : (Txt.lower nm).length <= 16) (hlol : Txt.lower (Txt.lower nm) = Txt.lower nm) (hI : HIt s.heap vs its) (hvs : vs.length <= 32) (hlen : ∀ p ∈ its, p.1.length <= 16 /\ p.2.length <= 16 /\ PlainT p.2) (hwt : wt.length <= 16) (hwp : PlainT wt) (smp : Str -> Str) (hsl : ∀ z, (smp z).length <= 64) (hsd : s.heap.DictOf (sk w) sd kvs) (hsdx : sd ≠ x /\ sd ≠ dx /\ sd ≠ l) (hsm : ∀ z, (z = wt \/ z ∈ its.map (·.2)) -> ∃ t, valueAt kvs z = some (.str (smp z) t)) (C : Cx w dp un cs outer A₀ base h₀ L m s.heap p loose mean mg mb 12) (N : News h₀ L s.heap [(x, instObj 182 dx), (dx, hdD w.params to l), (l, W.listOf vs.toArray n)]) (ret : ∀ (h' : Heap) (tk' : Nat) (vs' : List Value) (n' : Nat) (tl : List (Addr × Obj)), KpB [l] s.heap h' -> h'.get? l = some (W.listOf vs'.toArray n') -> Fresh s.heap h' tl -> (∀ p ∈ tl, noTup p.2 = false) -> (∀ nx, HItL nx vs its -> HItL (tl ++ nx) vs' (keepZ its nm wt smp)) -> Q .none { s with heap := h', toks := tk' }) (G : GSub s.heap g (([(x, instObj 182 dx), (dx, hdD w.params to l), (l, W.listOf vs.toArray n)] : List (Addr × Obj)).map (·.1))) (C' : Cx w (dp + 1) (un + 3) scope (envX cn cs L a ccd cl :: outer) (ktrTop dp un gd cn cs L a ccd cl outer) base g L' (bindL (envOfC (⟨#[95,108,97,119,95,107,101,101,112]⟩ : Str) scope L' 288 (.ref 287)).kindOf [("table", .ref x), ("shown", .str nm tn), ("want", .str wt tw), ("samples", .ref sd)] fun _ => none) h' p loose mean mg mb 11) (N' : News g L' h' (cells ++ ([(x, instObj 182 dx), (dx, hdD w.params to l), (l, W.listOf vs.toArray n)] : List (Addr × Obj)))) (Y' : CellsAre (bindC (envOfC (⟨#[95,108,97,119,95,107,101,101,112]⟩ : Str) scope L' 288 (.ref 287)).kindOf [("table", .ref x), ("shown", .str nm tn), ("want", .str wt tw), ("samples", .ref sd)] fun _ => none) (cellsFrom (L' + 1) scope.names []) cells) (FG' : Fr h₀ L g m) (l1 : ∀ p ∈ ([(x, instObj 182 dx), (dx, hdD w.params to l), (l, W.listOf vs.toArray n)] : List (Addr × Obj)), p.1 < L'), wpAny (model pw_sr0088_01 w) ((ktrTop dp un gd cn cs L a ccd cl outer).deeper (envOfC (⟨#[95,108,97,119,95,107,101,101,112]⟩ : Str) scope L' 288 (.ref 287))) (execs lb (envOfC (⟨#[95,108,97,119,95,107,101,101,112]⟩ : Str) scope L' 288 (.ref 287))) (fun fl s' => LeaveK h₀ L m g (fun r s' => match r with | .ok (.ret v) => Q v s' | .ok _ => False | .error e => E e s') (match fl with | .ret v => v | _ => .none) s') (fun e s' => wpAny (model pw_sr0088_01 w) ((ktrTop dp un gd cn cs L a ccd cl outer).deeper (envOfC (⟨#[95,108,97,119,95,107,101,101,112]⟩ : Str) scope L' 288 (.ref 287))) (leaving (envOfC (⟨#[95,108,97,119,95,107,101,101,112]⟩ : Str) scope L' 288 (.ref 287)) e) (fun _ s'' => E e s'') (fun e' s'' => E e' s'') s') { s with heap := h', toks := tk }
noncomputable def keep_okBS (x : LP) : Prop := keep_okBQ x.w x.dp x.un x.gd x.cn x.cs x.a x.ccd x.cl x.outer x.A₀ x.base x.h₀ x.L x.m x.s x.p x.loose x.mean x.mg x.mb x.Q x.E x.x x.dx x.l x.sd x.to x.nx1 x.vs x.its x.nm x.wt x.tn x.tw x.so x.kvs x.g x.L' x.h' x.tk
@[irreducible] noncomputable def keep_okBC : LP := gen LPE keep_okBS
namespace keep_okBN
noncomputable section
 def w := keep_okBC.w
 def a := keep_okBC.a
 def p := keep_okBC.p
 def x := keep_okBC.x
 def dx := keep_okBC.dx
 def l := keep_okBC.l
 def sd := keep_okBC.sd
 def n := keep_okBC.nx1
 def vs := keep_okBC.vs
 def its := keep_okBC.its
 def nm := keep_okBC.nm
 def wt := keep_okBC.wt
 def tw := keep_okBC.tw
 def kvs := keep_okBC.kvs
 def g := keep_okBC.g
 def tk := keep_okBC.tk
end
theorem main : keep_okBQ w keep_okBC.dp keep_okBC.un keep_okBC.gd keep_okBC.cn keep_okBC.cs a keep_okBC.ccd keep_okBC.cl keep_okBC.outer keep_okBC.A₀ keep_okBC.base keep_okBC.h₀ keep_okBC.L keep_okBC.m keep_okBC.s p keep_okBC.loose keep_okBC.mean keep_okBC.mg keep_okBC.mb keep_okBC.Q keep_okBC.E x dx l sd keep_okBC.to n vs its nm wt keep_okBC.tn tw keep_okBC.so kvs g keep_okBC.L' keep_okBC.h' tk := by
 intro cells lb scope hlb hsc
 conv at hlb => lhs; whnf
 conv at hsc => lhs; whnf
 subst hlb hsc
 intro hx hl hnp hn16 hlo hlo2 hlol hI hvs hlen hwt hwp smp hsl hsd hsdx hsm C N ret G C' N' Y' FG' l1
 obtain ⟨B', F', X', T', hk', hd', hu'⟩ := C'
 obtain ⟨B0, F0, X0, T0, hk0, hd0, hu0⟩ := C
 (try k_lt l1)
 k_cells Y'
 (try simp only [List.cons_append, List.nil_append] at N')
 (try dsimp only)
 (try k_fold)
 have hIg : HIt g vs its := hI.keep fun a items T => tup_gsub G N (by rfl) T
 have hlo3 : PlainT (Txt.lower (Txt.lower nm)) := by rw [hlol]; exact hlo
 have hlo4 : (Txt.lower (Txt.lower nm)).length <= 64 := by rw [hlol]; lia
 have hvs64 : vs.length <= 64 := by lia
 have hlenG : ∀ p ∈ its, p.1.length <= 16 := fun p hp => (hlen p hp).1
 have hsdG : g.DictOf (sk w) sd kvs := by
   (revert hsd; refine xq3 fun o es ep => ?_; refine aq2 fun ho => ?_; intro r)
   exact ⟨o, es, ep, G _ _ ho (notIn1 hsdx.1 (notIn1 hsdx.2.1 (notIn1 hsdx.2.2 notIn0))), r⟩
 have hZP : ∀ z ∈ ((its.filter (fun kv => Txt.lower kv.1 == Txt.lower nm)).map (·.2)).filter (fun z => !ellZ wt (smp z)) ++ [wt], PlainT z /\ z.length <= 16 := by
   intro z hz
   rcases List.mem_append.mp hz with hz | hz
   . obtain ⟨p, hp, rfl⟩ := List.mem_map.mp (List.mem_filter.mp hz).1
     have hp' := (List.mem_filter.mp hp).1
     exact ⟨(hlen p hp').2.2, (hlen p hp').2.1⟩
   . rw [List.mem_singleton.mp hz]; exact ⟨hwp, hwt⟩
 have hZS : (((its.filter (fun kv => Txt.lower kv.1 == Txt.lower nm)).map (·.2)).filter (fun z => !ellZ wt (smp z)) ++ [wt]).length <= 33 := by
   rw [List.length_append]
   have h1 := List.length_filter_le (fun z => !ellZ wt (smp z)) ((its.filter (fun kv => Txt.lower kv.1 == Txt.lower nm)).map (·.2))
   rw [List.length_map] at h1
   have h2 := List.length_filter_le (fun kv : Str × Str => Txt.lower kv.1 == Txt.lower nm) its
   have h3 := hI.len
   simp only [List.length_cons, List.length_nil]
   lia
 k_with "call ref" => ((rename Fr g _ _ _ => lF); (rename News g _ _ _ => lN); first
   | ((refine' getall_ok (vs := vs) (its := its) hx hl hn16 hlo (by lia) (hIg.keep fun a items T => T.keeps lF.keep) (by lia) hlenG (Cx.le ⟨B', lF, X', T', hk', hd', hu'⟩ (by decide)) (N := ?kN) ?_); (case kN => exact fun p hp => lN p (by first | exact hp | exact List.Mem.tail _ (List.Mem.tail _ hp) | (refine List.Mem.tail _ (.tail _ (List.Mem.tail _ hp))))); (intro h2 tk2 r us kk fr hus; have hr := freshNe lN fr; (try simp only [AllNe] at hr); have hul : us.length <= 32 := getall_len hus hvs hIg.len; have lN2 := newsFresh lF lN kk fr; have lF2 := frKeep lF kk; (try simp only [List.cons_append, List.nil_append] at lN2); clear kk fr); k_whole)
   | ((refine' ell_ok (by first | assumption | exact hz.2) (by first | exact hsl _ | assumption) (Cx.le ⟨B', lF, X', T', hk', hd', hu'⟩ (by decide)) ?_); (intro h2 tk2 b eb kk; have lN2 := newsKeep lN kk; have lF2 := frKeep lF kk; clear kk); k_whole)
   | ((refine' del_ok (vs := vs) (its := its) hx hl hlo2 hlo3 hlo4 (hIg.keep fun a items T => T.keeps lF.keep) hvs64 hlenG (Cx.le ⟨B', lF, X', T', hk', hd', hu'⟩ (by decide)) (N := ?kN) ?_); (case kN => exact News.sub3 lN (by k_dflt k_mem) (by k_dflt k_mem) (by k_dflt k_mem)); (intro h2 tk2 us3 n3 kB el hus3; have hul3 : us3.length <= 32 := selZ_le hus3 hvs; obtain ⟨lF2, lN2⟩ := newsUpdB (o' := W.listOf us3.toArray n3) lF lN (by k_dflt k_upd) kB el; clear kB el; (try dsimp only)))
   | ((refine' add_ok (its := []) (vs := us3 ++ nr) (xv := z) hx hl hnp hn16 (hZP z hzZ).1 (hZP z hzZ).2 (len_app hul3 hnr hi hZS) (Cx.le ⟨B', lF, X', T', hk', hd', hu'⟩ (by decide)) (N := ?kN) ?_); (case kN => exact News.sub3 lN (by k_dflt k_mem) (by k_dflt k_mem) (by k_dflt k_mem)); (intro h2 tk2 tp n4 t1 t2 kB el fr; have hr4 := freshNeA lN fr; obtain ⟨lF2, _⟩ := newsUpdB (o' := W.listOf ((us3 ++ nr) ++ [Value.ref tp]).toArray n4) lF lN (by k_dflt k_upd) kB el; have lN2 := newsUpdF (o' := W.listOf ((us3 ++ nr) ++ [Value.ref tp]).toArray n4) lF lN (by k_dflt k_upd) kB el fr; clear kB el fr; (try simp only [List.cons_append, List.nil_append] at lN2)); k_whole))
 k_with "eval ListComp" => (lct_look; lcg_calm; k_dflt (refine PyProof.Rows.LCt.ListComp_T (F₀ := by k_asm) (by with_unfolding_all rfl) (by decide) (by rfl) (by decide) (by rfl) ?_))
 k_with "exec Assign cons ListComp" => (lct_look; lcg_calm; k_dflt (refine PyProof.Rows.LCt.Assign_ListComp_T (F₀ := by k_asm) (by rfl) (by with_unfolding_all rfl) (by with_unfolding_all rfl) (by decide) (by rfl) (by decide) (by rfl) (by rfl) (by rfl) ?_))
 k_with "CompSrcT" => ((rename Fr g _ _ _ => lF); (rename News g _ _ _ => lN); first | ((fail_if_success (have hq : Done2 := by assumption)); (k_dflt refine' PyProof.Rows.LCt.CompSrcT.ledger ?ch lF lN ?cm ?cz (fun g2 => keepTurns (fun z => ellZ z (smp wt)) (fun z => z ∈ its.map (·.2) /\ z.length <= 16) (keep_good hlen) hus (.inr ⟨_, by k_dflt k_mem, rfl, _, rfl⟩) (fun z t ys I oI C oC D m₂ h tk E' hz hO hx lF2 lN2 off hne => ?_) (fun hdone us2 hJ D h3 tk3 lF3 lN3 o1 => ?_))); (case ch => with_unfolding_all rfl); (case cm => k_dflt k_mem); (case cz => (rw [sizeLine_eq]; simp; lia)); (all_goals (try simp only [PyProof.Rows.LCg.Off1, and_true] at o1)); all_goals (try k_fold)) | ((k_dflt refine' PyProof.Rows.LCt.CompSrcT.ledger ?ch lF lN ?cm ?cz (fun g2 => keepTurns (fun z => !ellZ wt (smp z)) (fun z => z ∈ its.map (·.2) /\ z.length <= 16) (keep_good hlen) hus (.inr ⟨_, by k_dflt k_mem, rfl, _, rfl⟩) (fun z t ys I oI C oC D m₂ h tk E' hz hO hx lF2 lN2 off hne => ?_) (fun hdone us2 hJ D h3 tk3 lF3 lN3 o1 => ?_))); (case ch => with_unfolding_all rfl); (case cm => k_dflt k_mem); (case cz => (rw [sizeLine_eq]; simp; lia)); (all_goals (try simp only [PyProof.Rows.LCg.Off1, and_true] at o1)); all_goals (try k_fold)))
 k_with "subscriptTail" => ((rename Fr g _ _ _ => lF); (refine' item_smp (kvs := kvs) (smp := smp) hsm (by first | exact .inl rfl | exact .inr hz.1) (dictKeepG hsdG lF.keep) ?_ ?ks); (case ks => with_unfolding_all rfl); intro _)
 k_with "compareOp Eq ref ref" => ((rename News g _ _ _ => lN); (k_dflt refine' eq_strsK ?e1 hJ ?e2 .nil (keep_ok8 hlen) (fun n hn => nomatch hn) ?eu ?_); (case e1 => k_dflt exact ⟨_, (lN (D, _) (by k_dflt k_mem)).1, rfl, _, rfl⟩); (case e2 => k_dflt exact ⟨_, (lN _ (List.Mem.head _)).1, rfl, _, rfl⟩); (case eu => first | units_room | (show _ + 64 < cLine; lia)))
 k_with "call builtin:str.lower" => (refine SCL.lower (by lia) ?_)
 k_with "delItem ref str" => ((k_dflt (refine' delItem_K ?F ?X ?I ?hQ ?hS ?hF ?_; (case F => k_asm); (case X => k_asm); (case I => k_inst); (case hS => k_is); (case hF => k_is); (case hQ => k_is); k_whole)); k_extra "call ref")
 k_with "binaryOp Add ref ref" => ((rename Fr g _ _ _ => lF); (rename News g _ _ _ => lN); (k_dflt refine' kmk_add_lit (zs := us2 ++ [.str wt tw]) lF lN ?a1 ?a2 ?a3 ?_ ?a4); (case a1 => k_dflt exact ⟨_, (lN (D, _) (by k_dflt k_mem)).1, rfl, _, rfl⟩); (case a2 => k_dflt exact ⟨_, (lN _ (List.Mem.head _)).1, rfl, _, rfl⟩); (case a3 => rfl); (case a4 => (have h9 := hJ.length; have h8 := hZS; rw [List.length_append] at h8; simp only [List.length_cons, List.length_nil] at h8 ⊢; rw [sizeLine_eq]; show us2.length + 1 <= _; lia)); (intro Z hZ lF2 lN2 l5; (try k_lt l5)))
 k_with "exec For Name BinOp cons nil" => ((rename Fr _ _ _ _ => lF'); (with_unfolding_all refine' For_invVF lF' ?k1 ?k2 ?_; (case k1 => exact rfl); (case k2 => exact rfl); k_whole))
 k_with "pyIter ref" => ((rename Fr g _ _ _ => lF); (rename News g _ _ _ => lN); (k_dflt refine' keepLoop (l := l) (x := x) (dx := dx) (us3 := us3) (n3 := n3) (nm := nm) (ZS := ((its.filter (fun kv => Txt.lower kv.1 == Txt.lower nm)).map (·.2)).filter (fun z => !ellZ wt (smp z)) ++ [wt]) ?j1 ?j2 ?j3 ?j6 ?j7 ?j8 ?j9 ?j4 lF lN ?j5 (fun i z t nr ni R h tk hzZ hnr hi offR lF4 lN4 => ?_) (fun tl nr ni u h tk hIL ht lF4 hN => ?_)); (case j1 => with_unfolding_all rfl); (case j2 => k_dflt k_mem); (case j3 => lia); (case j6 => k_dflt k_mem); (case j7 => lia); (case j8 => k_dflt k_mem); (case j9 => lia); (case j4 => exact StrsAre.append' hJ (.cons _ _ .nil)); (case j5 => k_dflt k_upd); (all_goals (try (have lN5 := newsOf hN (by k_dflt k_upd)))); all_goals (try k_fold))
 k_steps
 k_with_none
 all_goals first
   | ((rename Fr _ _ _ _ => lF3); (rename News _ _ _ _ => lN3); (refine TurnEnd.intro lF3 lN3 (fun p hp => hp) ?_); subst eb; first | exact ⟨by first | assumption | simp_all, _, rfl⟩ | (first | assumption | simp_all))
   | ((rename Fr g _ _ _ => lF3); (rename News g _ _ _ => lN3); exact ⟨rfl, _, _, tp, t1, t2, _, _, rfl, lF3, lN3, (fun p hp => hr4 p (.tail _ (.tail _ (.tail _ hp)))), fun y hy => if_neg hy⟩)
   | skip
 . refine ret _ _ (us3 ++ nr) ni tl ?a ?b ?c ht ?d
   case a => exact kpB_of G lF4 lN5 (List.forall_mem_cons.mpr ⟨.inr ⟨List.mem_append_right _ (by k_dflt k_mem), (N _ (by k_dflt k_mem)).1⟩, List.forall_mem_cons.mpr ⟨.inr ⟨List.mem_append_right _ (by k_dflt k_mem), (N _ (by k_dflt k_mem)).1⟩, List.forall_mem_cons.mpr ⟨.inl (by k_dflt k_mem), List.forall_mem_nil _⟩⟩⟩)
   case b => exact (lN5 (l, W.listOf (us3 ++ nr).toArray ni) (List.mem_append_right _ (by k_dflt k_mem))).1
   case c => exact freshTl G lN5 (fun p hp => List.mem_append_left _ hp) ht (List.forall_mem_cons.mpr ⟨⟨_, List.mem_append_right _ (by k_dflt k_mem), rfl⟩, List.forall_mem_cons.mpr ⟨⟨_, List.mem_append_right _ (by k_dflt k_mem), rfl⟩, List.forall_mem_cons.mpr ⟨⟨_, List.mem_append_right _ (by k_dflt k_mem), rfl⟩, List.forall_mem_nil _⟩⟩⟩)
   case d =>
     intro nx hnx
     simp only [hlol] at hus3
     exact keepZ_new (of_decide_eq_true (by assumption)) hus3 hnx hIL
 . (rename Fr g _ _ _ => lF); (rename News g _ _ _ => lN)
   refine ret _ _ vs n [] ?a (lN (l, W.listOf vs.toArray n) (by k_dflt k_mem)).1 (fun p hp => nomatch hp) (fun p hp => nomatch hp) (fun nx hnx => keepZ_old (of_decide_eq_false (by assumption)) hnx)
   case a => exact kpB_of G lF lN (List.forall_mem_cons.mpr ⟨.inr ⟨by k_dflt k_mem, (N _ (by k_dflt k_mem)).1⟩, List.forall_mem_cons.mpr ⟨.inr ⟨by k_dflt k_mem, (N _ (by k_dflt k_mem)).1⟩, List.forall_mem_cons.mpr ⟨.inl (by k_dflt k_mem), List.forall_mem_nil _⟩⟩⟩)
end keep_okBN
theorem keep_okBH : keep_okBS (gen LPE keep_okBS) := by with_unfolding_all exact @keep_okBN.main
theorem keep_okB {w dp un gd cn cs a ccd cl outer A₀ base h₀ L m s p loose mean mg mb Q E x dx l sd to n vs its nm wt tn tw so kvs g L' h' tk} : keep_okBQ w dp un gd cn cs a ccd cl outer A₀ base h₀ L m s p loose mean mg mb Q E x dx l sd to n vs its nm wt tn tw so kvs g L' h' tk := @all_gen LP LPE keep_okBS @keep_okBH { lp0 with w, dp, un, gd, cn, cs, a, ccd, cl, outer, A₀, base, h₀, L, m, s, p, loose, mean, mg, mb, Q, E, x, dx, l, sd, to, nx1 := n, vs, its, nm, wt, tn, tw, so, kvs, g, L', h', tk }
end
section
variable {w : World} {dp un : Nat} {gd : Option (List Code)} {cn : Str} {cs : Scope} {a : Addr} {ccd : Value} {cl : List (Str × Addr)} {outer : List Env} {A₀ : Around} {base h₀ : Heap} {L : Addr} {m : Str -> Option Value} {s : Shared}
 {p : Program} {loose : List Str} {mean : ExcName -> Option Value} {mg mb : Str -> Option Value} {news : List (Addr × Obj)} {Q E : Value -> Shared -> Prop}
theorem keep_ok {x dx l sd : Addr} {to : Tok} {n : Nat} {vs : List Value} {its : List (Str × Str)} {nm wt : Str} {tn tw : Tok} {so : Obj} {kvs : List (Str × Value)} (hx : @LT.lt Nat _ dx x) (hl : @LT.lt Nat _ x l) (hnp : PlainT nm) (hn16 : nm.length <= 16) (hlo : PlainT (Txt.lower nm)) (hlo2 : (Txt.lower nm).length <= 16) (hlol : Txt.lower (Txt.lower nm) = Txt.lower nm)
 (hI : HIt s.heap vs its) (hvs : vs.length <= 32) (hlen : ∀ p ∈ its, p.1.length <= 16 /\ p.2.length <= 16 /\ PlainT p.2) (hwt : wt.length <= 16) (hwp : PlainT wt) (smp : Str -> Str) (hsl : ∀ z, (smp z).length <= 64) (hsd : s.heap.DictOf (sk w) sd kvs) (hsdx : sd ≠ x /\ sd ≠ dx /\ sd ≠ l) (hsm : ∀ z, (z = wt \/ z ∈ its.map (·.2)) -> ∃ t, valueAt kvs z = some (.str (smp z) t)) (C : Cx w dp un cs outer A₀ base h₀ L m s.heap p loose mean mg mb 12) (N : News h₀ L s.heap [(x, instObj 182 dx), (dx, hdD w.params to l), (l, W.listOf vs.toArray n)])
 (ret : ∀ (h' : Heap) (tk' : Nat) (vs' : List Value) (n' : Nat) (tl : List (Addr × Obj)), KpB [l] s.heap h' -> h'.get? l = some (W.listOf vs'.toArray n') -> Fresh s.heap h' tl -> (∀ p ∈ tl, noTup p.2 = false) -> (∀ nx, HItL nx vs its -> HItL (tl ++ nx) vs' (keepZ its nm wt smp)) -> Q .none { s with heap := h', toks := tk' }) :
 wpAny (model pw_sr0088_01 w) (ktrTop dp un gd cn cs L a ccd cl outer) (call (.ref 288) [.ref x, .str nm tn, .str wt tw, .ref sd]) Q E s := by
 refine' enterC [("table", .ref x), ("shown", .str nm tn), ("want", .str wt tw), ("samples", .ref sd)] C N ?ho ?hcd ?hb ?hkd ?hnd ?hs ?b ?sc ?h
 case ho => k_dflt k_is
 case hcd => k_dflt k_is
 case hb => first | exact BindsTo.of_eq rfl | (refine' binds_K (C.X.keeps C.F.keep) ?d ?o ?s ?h1 ?h2; (case d => exact rfl); (case o => k_dflt k_is); (case s => exact rfl); (case h1 => exact rfl); (case h2 => exact rfl))
 case hkd => rfl
 case hnd => decide +kernel
 case hs => rfl
 case b => (conv => lhs; whnf)
 case sc => (conv => lhs; whnf)
 case h =>
   intro g L' h' tk cells G C' N' Y' FG' l1
   exact keep_okB (x := x) (dx := dx) (l := l) (sd := sd) (to := to) (n := n) (vs := vs) (its := its) (nm := nm) (wt := wt) (tn := tn) (tw := tw) (so := so) (kvs := kvs) rfl rfl hx hl hnp hn16 hlo hlo2 hlol hI hvs hlen hwt hwp smp hsl hsd hsdx hsm C N ret G C' N' Y' FG' l1
end
end Mine
end
section
open PySem PySem.Spec PySem.Calls PySem.W PyProof.Rows
namespace Mine
theorem gen_toks {M : Model} {A : Around} {α : Type} {a : Sem α} {Q : α -> Shared -> Prop} {E : Value -> Shared -> Prop} {h : Heap} {g : Array GenState} {d : Drawn} {T : Nat} {o : OsState} (H : ∀ t, wpAny M A a Q E (Shared.mk h g d t o)) : wpAny M A a Q E (Shared.mk h g d (T + 1) o) := H _
theorem news_tl {g h : Heap} {L : Addr} {x : Addr × Obj} {l : List (Addr × Obj)} (N : News g L h (x :: l)) : News g L h l := fun p hp => N p (.tail _ hp)
theorem news_d4 {g h : Heap} {L : Addr} {a b c d x y : Addr × Obj} (N : News g L h [a, b, c, d, x, y]) : News g L h [x, y] := news_tl (news_tl (news_tl (news_tl N)))
theorem news_d3 {g h : Heap} {L : Addr} {a b c x y : Addr × Obj} (N : News g L h [a, b, c, x, y]) : News g L h [x, y] := news_tl (news_tl (news_tl N))
theorem news_d2 {g h : Heap} {L : Addr} {a b x y : Addr × Obj} (N : News g L h [a, b, x, y]) : News g L h [x, y] := news_tl (news_tl N)
noncomputable def nothL : List Int := [173, 847, 6150, 6155, 6156, 6157, 8203, 8204, 8205, 8288, 65279, 65024, 65025, 65026, 65027, 65028, 65029, 65030, 65031, 65032, 65033, 65034, 65035, 65036, 65037, 65038, 65039]
noncomputable def greatL : List Int := [0, 1, 2, 4, 7, 8, 9, 10, 11, 12]
theorem getD_all {P : Int -> Prop} {l : List Int} {k : Nat} (h : ∀ x ∈ l, P x) (h0 : P 0) : P (l.getD k 0) := by
 rw [List.getD_eq_getElem?_getD]
 cases e : l[k]? with
 | none => exact h0
 | some x => exact h x (List.mem_of_getElem? e)
theorem noth_chr {k : Nat} : (decide (nothL.getD k 0 < 0) || decide (nothL.getD k 0 > 0x10FFFF)) = false := getD_all (P := fun x => (decide (x < 0) || decide (x > 0x10FFFF)) = false) (by decide) (by decide)
theorem great_chr {k : Nat} : (decide (119808 + 52 * greatL.getD k 0 < 0) || decide (119808 + 52 * greatL.getD k 0 > 0x10FFFF)) = false := getD_all (P := fun x => (decide (119808 + 52 * x < 0) || decide (119808 + 52 * x > 0x10FFFF)) = false) (by decide) (by decide)
theorem fm (c : Int) (m : Int) (h : 0 < m) : 0 <= c.fmod m /\ c.fmod m < m := by
 rw [Int.fmod_eq_emod_of_nonneg _ (Int.le_of_lt h)]
 exact ⟨Int.emod_nonneg _ (Int.ne_of_gt h), Int.emod_lt_of_pos _ h⟩
theorem fm4 (c : Int) : 0 <= c.fmod 4 /\ c.fmod 4 < 4 := fm c 4 (by decide)
theorem fm8 (c : Int) : 0 <= c.fmod 8 /\ c.fmod 8 < 8 := fm c 8 (by decide)
theorem fm27 (c : Int) : 0 <= c.fmod 27 /\ c.fmod 27 < 27 := fm c 27 (by decide)
theorem fm10 (c : Int) : 0 <= c.fmod 10 /\ c.fmod 10 < 10 := fm c 10 (by decide)
theorem fm42 (c : Int) : 0 <= (c.fmod 4).fdiv 2 /\ (c.fmod 4).fdiv 2 < 2 := by
 have h := fm4 c
 rw [Int.fdiv_eq_ediv_of_nonneg _ (by decide)]
 lia
section
variable {prog : Program} {w : World} {A : Around} {E : Value -> Shared -> Prop} {s : Shared}
theorem chr_noth {k : Nat} {t : Tok} {Q : Value -> Shared -> Prop} (h : ∀ (y : Str) (u : Tok), y = ⟨#[(nothL.getD k 0).toNat]⟩ -> y.length = 1 -> Q (.str y u) { s with toks := s.toks + 1 }) : wpAny (model prog w) A (call (.builtin "chr") [.int (nothL.getD k 0) t]) Q E s := P.chr_of_int noth_chr (h _ _ rfl rfl)
theorem chr_great {k : Nat} {t : Tok} {Q : Value -> Shared -> Prop} (h : ∀ (y : Str) (u : Tok), y = ⟨#[(119808 + 52 * greatL.getD k 0).toNat]⟩ -> y.length = 1 -> Q (.str y u) { s with toks := s.toks + 1 }) : wpAny (model prog w) A (call (.builtin "chr") [.int (119808 + 52 * greatL.getD k 0) t]) Q E s := P.chr_of_int great_chr (h _ _ rfl rfl)
theorem item_strs {value slice : PySem.Expr} {l : Addr} {vs : List Value} {cs : List Str} {k : Int} {u : Tok} {Q : Value -> Shared -> Prop} (hl : s.heap.IsList l vs.toArray) (hi : StrsAre vs cs) (h0 : 0 <= k) (h1 : k < cs.length) (hcl : cs.length <= 8) (hc : ∀ c ∈ cs, c.length <= 8)
   (h : ∀ (y : Str) (t : Tok), y = cs.getD k.toNat ⟨#[]⟩ -> y.length <= 8 -> Q (.str y t) s)
   (hs : subscripted slice false (.ref l) (.int k u) = operate [.ref l, .int k u] (getItem (.ref l) (.int k u))) : wpAny (model prog w) A (subscriptTail value slice (.ref l) (.int k u)) Q E s := by
 have hk : k.toNat < cs.length := by lia
 obtain ⟨t, hx⟩ := hi.get k.toNat cs[k.toNat] (List.getElem?_eq_getElem hk)
 have hv : vs.length = cs.length := hi.length
 have hz : k.toNat < vs.length := by lia
 have e : cs[k.toNat] = cs.getD k.toNat ⟨#[]⟩ := by rw [List.getD_eq_getElem?_getD, List.getElem?_eq_getElem hk]; rfl
 exact tail_any hl.typeIs slot_list_getitem.lookup (wpAny_getItem_list hl h0 (by lia) (by simpa using hx) (h _ _ e (hc _ (List.getElem_mem hk)))) hs
theorem item_strsN {h₀ : Heap} {L : Addr} {news : List (Addr × Obj)} {value slice : PySem.Expr} {l : Addr} {vs : List Value} {cs : List Str} {k : Int} {nn : Nat} {u : Tok} {Q : Value -> Shared -> Prop} (N : News h₀ L s.heap news) (hm : (l, W.listOf vs.toArray nn) ∈ news) (hi : StrsAre vs cs) (h0 : 0 <= k) (h1 : k < cs.length) (hcl : cs.length <= 8) (hc : ∀ c ∈ cs, c.length <= 8)
   (h : ∀ (y : Str) (t : Tok), y = cs.getD k.toNat ⟨#[]⟩ -> y.length <= 8 -> Q (.str y t) s)
   (hs : subscripted slice false (.ref l) (.int k u) = operate [.ref l, .int k u] (getItem (.ref l) (.int k u))) : wpAny (model prog w) A (subscriptTail value slice (.ref l) (.int k u)) Q E s := item_strs ⟨_, (N _ hm).1, rfl, _, rfl⟩ hi h0 h1 hcl hc h hs
end
noncomputable def meansL : List Str := ["a", "a", ".", "a...", "...", "co.", "..", ":"]
noncomputable def figNat : Value -> Nat
 | .int k _ => k.toNat
 | _ => 0
noncomputable def FigJ (cs : List Str) (pre ys : List Value) : Prop := StrsAre ys ((pre.map figNat).map (fun k => cs.getD k ⟨#[]⟩)) /\ ∀ c ∈ (pre.map figNat).map (fun k => cs.getD k ⟨#[]⟩), c.length <= 8
theorem fig_start {cs : List Str} : FigJ cs [] [] := ⟨.nil, fun c hc => nomatch hc⟩
theorem fig_next {cs : List Str} {pre ys : List Value} {k : Int} {t t' : Tok} {y : Str} (hJ : FigJ cs pre ys) (e : y = cs.getD k.toNat ⟨#[]⟩) (h : y.length <= 8) : FigJ cs (pre ++ [.int k t]) (ys ++ [.str y t']) := by
 obtain ⟨h1, h2⟩ := hJ
 have e2 : ((pre ++ [Value.int k t]).map figNat).map (fun k => cs.getD k ⟨#[]⟩) = (pre.map figNat).map (fun k => cs.getD k ⟨#[]⟩) ++ [y] := by
   rw [List.map_append, List.map_append, e]; rfl
 refine ⟨?_, ?_⟩
 . rw [e2]; exact StrsAre.append' h1 (.cons _ _ .nil)
 . rw [e2]
   intro c hc
   rcases List.mem_append.mp hc with hc | hc
   . exact h2 c hc
   . rw [List.mem_singleton.mp hc]; exact h
theorem fig_at {a b c : Int} {ta tb tc : Tok} {pre post : List Value} {v : Value} (e : [Value.int a ta, .int b tb, .int c tc] = pre ++ v :: post) (h1 : 0 <= a /\ a < 8) (h2 : 0 <= b /\ b < 8) (h3 : 0 <= c /\ c < 8) : ∃ k t, v = .int k t /\ 0 <= k /\ k < 8 := by
 have hv : v ∈ [Value.int a ta, .int b tb, .int c tc] := by rw [e]; simp
 rcases List.mem_cons.mp hv with rfl | hv
 . exact ⟨_, _, rfl, h1⟩
 . rcases List.mem_cons.mp hv with rfl | hv
   . exact ⟨_, _, rfl, h2⟩
   . rw [List.mem_singleton.mp hv]; exact ⟨_, _, rfl, h3⟩
noncomputable def Done1 : Prop := True
section
open PyProof.Rows.LCg
variable {prog : Program} {w : World} {A : Around} {s : Shared} {h₀ : Heap} {L : Addr} {m : Str -> Option Value} {env : Env}
theorem figTurns {elt : Expr} {x : Str} {scope : Scope} {cl : List (Str × Addr)} {S : List (Addr × Obj) -> Prop} {Fin : List Value -> List (Addr × Obj) -> Prop} {news : List (Addr × Obj)} (cs : List Str) {a b c : Int} {ta tb tc : Tok} (h1 : 0 <= a /\ a < 8) (h2 : 0 <= b /\ b < 8) (h3 : 0 <= c /\ c < 8) (hS : S news)
   (turn : ∀ (pre post : List Value) (k : Int) (t : Tok) ys I oI C oC D m₂ h tk (E' : Value -> Shared -> Prop), 0 <= k -> k < 8 -> FigJ cs pre ys -> NsObj oC m₂ -> m₂ x = some (.int k t) -> Fr h₀ L h m -> News h₀ L h ((I, oI) :: (C, oC) :: (D, lst ys) :: news) -> Off3 I C D news -> ((@Ne Nat I C) /\ (@Ne Nat I D) /\ (@Ne Nat C D)) ->
     wpAny (model prog w) A (eval elt (compEnvC scope cl C env)) (TurnEnd h₀ L m { s with heap := h, toks := tk } ((I, oI) :: (C, oC) :: (D, lst ys) :: news) (fun y => FigJ cs (pre ++ [.int k t]) (ys ++ [y]))) E' { s with heap := h, toks := tk })
   (fin : Done1 -> ∀ ys, FigJ cs [.int a ta, .int b tb, .int c tc] ys -> Fin ys news) : CompRest prog w A h₀ L m env elt x scope cl s S (fun i v => ([.int a ta, .int b tb, .int c tc] : List Value).toArray[i]? = some v) Fin ([.int a ta, .int b tb, .int c tc] : List Value).toArray.size 0 [] news := by
 refine turnsU (FigJ cs) hS fig_start ?_ (fin trivial)
 intro pre v post ys I oI C oC D m₂ h tk E' e hJ hO hx lF2 lN2 off hne
 (have hQ := fig_at e h1 h2 h3; revert hQ; refine xq2 fun k t => ?_; refine aq2 fun eQ => ?_; subst eQ; refine aq2 fun hk0 => ?_; intro hk8)
 exact turn pre post k t ys I oI C oC D m₂ h tk E' hk0 hk8 hJ hO hx lF2 lN2 off hne
end
theorem len_sum {l : List Str} {n : Nat} (h : ∀ c ∈ l, c.length <= n) : (l.map (·.length)).sum <= l.length * n := by
 induction l with
 | nil => simp
 | cons x r ih =>
   have h1 := h x (by simp)
   have h2 := ih (fun c hc => h c (by simp [hc]))
   simp only [List.map_cons, List.sum_cons, List.length_cons, Nat.add_mul]
   lia
section
variable {prog : Program} {w : World} {A : Around} {E : Value -> Shared -> Prop} {s : Shared}
theorem join_fig {h₀ : Heap} {L D : Addr} {news : List (Addr × Obj)} {cs : List Str} {vs us : List Value} {x : Str} {t : Tok} {Q : Value -> Shared -> Prop} (N : News h₀ L s.heap news) (hm : (D, PyProof.Rows.LCg.lst us) ∈ news) (hj : FigJ cs vs us) (hv : vs.length <= 3) (hx : x.length = 0)
   (h : ∀ (y : Str) (t : Tok) (k : Nat), y = Txt.join x ((vs.map figNat).map (fun k => cs.getD k ⟨#[]⟩)) -> y.length <= 24 -> Q (.str y t) { s with toks := k }) : wpAny (model prog w) A (call (.builtin "str.join") [.str x t, .ref D]) Q E s := by
 obtain ⟨l, e1, e2⟩ := strsAre_values hj.1
 have hl : s.heap.IsList D (strValues l).toArray := by rw [<- e1]; exact ⟨_, (N _ hm).1, rfl, _, rfl⟩
 have hs := len_sum hj.2
 have hn : ((vs.map figNat).map (fun k => cs.getD k ⟨#[]⟩)).length <= 3 := by simpa using hv
 have hle := StrLaws.join_length_le x ((vs.map figNat).map (fun k => cs.getD k ⟨#[]⟩))
 refine SC.join hl e2 (joinOk_of ?_) fun t' k => h _ t' k rfl ?_
 . rw [hx]; lia
 . rw [hx] at hle
   unfold Txt.join
   rw [StrLaws.glued_eq_join]
   refine Nat.le_trans hle ?_
   lia
end
noncomputable def markL : List Str := [":", "\n", "\n:", ":\n"]
noncomputable def noZ (n : Int) : Str := ⟨#[(nothL.getD ((n.fdiv 32768).fmod 27).toNat 0).toNat]⟩
noncomputable def grZ (n : Int) : Str := ⟨#[(119808 + 52 * greatL.getD ((n.fdiv 32768).fmod 10).toNat 0).toNat]⟩
noncomputable def roadL (no : Str) : List Str := ["", "a.", "㏇", Str.ofString "E" ++ no ++ Str.ofString ".㏇"]
noncomputable def kindL (no : Str) : List Str := ["E", "𝐄", Str.ofString "E" ++ no ++ Str.ofString "ſ", "ℰs"]
noncomputable def headL : List Str := ["", "a.", "co.", "e.co."]
noncomputable def nameL : List Str := ["e", "es"]
noncomputable def signsL (no gr : Str) : List Str := ["a", gr, ".", "a...", "...", "㏇", Str.ofString "." ++ no ++ Str.ofString ".", ":"]
noncomputable def figsZ (n : Int) : List Nat := [(n.fmod 8).toNat, ((n.fdiv 8).fmod 8).toNat, ((n.fdiv 64).fmod 8).toNat]
noncomputable def markZ (n : Int) : Str := markL.getD ((n.fdiv 8192).fmod 4).toNat ⟨#[]⟩
noncomputable def roadZ (n : Int) : Str := (roadL (noZ n)).getD ((n.fdiv 512).fmod 4).toNat ⟨#[]⟩
noncomputable def kindZ (n : Int) : Str := (kindL (noZ n)).getD ((n.fdiv 2048).fmod 4).toNat ⟨#[]⟩
noncomputable def nameZ (n : Int) : Str := nameL.getD (((n.fdiv 2048).fmod 4).fdiv 2).toNat ⟨#[]⟩
noncomputable def headZ (n : Int) : Str := headL.getD ((n.fdiv 512).fmod 4).toNat ⟨#[]⟩ ++ nameZ n
noncomputable def wantZ (n : Int) : Str := Txt.join "" ((figsZ n).map (fun k => meansL.getD k ⟨#[]⟩))
noncomputable def spelledZ (n : Int) : Str := (roadZ n ++ (kindZ n ++ markZ n)) ++ Txt.join "" ((figsZ n).map (fun k => (signsL (noZ n) (grZ n)).getD k ⟨#[]⟩))
noncomputable abbrev rowTup (n : Int) (t1 t2 t3 t4 t5 t6 : Tok) : Obj := { cls := .type "tuple", data := .seq #[.str (spelledZ n) t1, .str (noZ n) t2, .str (headZ n) t3, .str (markZ n) t4, .str (nameZ n) t5, .str (wantZ n) t6] }
theorem lenDot : (Str.ofString ".").length = 1 := by decide
theorem lenE : (Str.ofString "E").length = 1 := by decide
theorem lenCo : (Str.ofString ".㏇").length = 2 := by decide
theorem lenSz : (Str.ofString "ſ").length = 1 := by decide
section
noncomputable abbrev row_okBQ (w : World) (dp un : Nat) (gd : Option (List Code)) (cn : Str) (cs : Scope) (a : Addr) (ccd : Value) (cl : List (Str × Addr)) (outer : List Env) (A₀ : Around) (base h₀ : Heap) (L : Addr) (m : Str -> Option Value) (s : Shared) (p : Program) (loose : List Str) (mean : ExcName -> Option Value) (mg mb : Str -> Option Value) (Q E : Value -> Shared -> Prop) (n : Int) (tn : Tok) (g : Heap) (L' : Addr) (h' : Heap) (tk : Nat) : Prop := ∀ {cells : List (Addr × Obj)} {lb : List Stmt} {scope : Scope} (hlb : fdB (stm pw_sr0088_01 18) = lb) (hsc : fdS (stm pw_sr0088_01 18) = scope) (h0 : 0 <= n) (h1 : n < 1000000) (C : Cx w dp un cs outer A₀ base h₀ L m s.heap p loose mean mg mb 6) (N : News h₀ L s.heap []) (ret : ∀ (h' : Heap) (tk' : Nat) (rt : Addr) (t1 t2 t3 t4 t5 t6 : Tok), Kp s.heap h' -> Fresh s.heap h' [(rt, rowTup n t1 t2 t3 t4 t5 t6)] -> Q (.ref rt) { s with heap := h', toks := tk' }) (G : GSub s.heap g (([] : List (Addr × Obj)).map (·.1))) (C' : Cx w (dp + 1) (un + 3) scope (envX cn cs L a ccd cl :: outer) (ktrTop dp un gd cn cs L a ccd cl outer) base g L' (bindL (envOfC (⟨#[95,108,97,119,95,114,111,119]⟩ : Str) scope L' 269 (.ref 268)).kindOf [("n", .int n tn)] fun _ => none) h' p loose mean mg mb 5) (N' : News g L' h' (cells ++ ([] : List (Addr × Obj)))) (Y' : CellsAre (bindC (envOfC (⟨#[95,108,97,119,95,114,111,119]⟩ : Str) scope L' 269 (.ref 268)).kindOf [("n", .int n tn)] fun _ => none) (cellsFrom (L' + 1) scope.names []) cells) (FG' : Fr h₀ L g m) (l1 : ∀ p ∈ ([] : List (Addr × Obj)), p.1 < L'), wpAny (model pw_sr0088_01 w) ((ktrTop dp un gd cn cs L a ccd cl outer).deeper (envOfC (⟨#[95,108,97,119,95,114,111,119]⟩ : Str) scope L' 269 (.ref 268))) (execs lb (envOfC (⟨#[95,108,97,119,95,114,111,119]⟩ : Str) scope L' 269 (.ref 268))) (fun fl s' => LeaveK h₀ L m g (fun r s' => match r with | .ok (.ret v) => Q v s' | .ok _ => False | .error e => E e s') (match fl with | .ret v => v | _ => .none) s') (fun e s' => wpAny (model pw_sr0088_01 w) ((ktrTop dp un gd cn cs L a ccd cl outer).deeper (envOfC (⟨#[95,108,97,119,95,114,111,119]⟩ : Str) scope L' 269 (.ref 268))) (leaving (envOfC (⟨#[95,108,97,119,95,114,111,119]⟩ : Str) scope L' 269 (.ref 268)) e) (fun _ s'' => E e s'') (fun e' s'' => E e' s'') s') { s with heap := h', toks := tk }
noncomputable def row_okBS (x : LP) : Prop := row_okBQ x.w x.dp x.un x.gd x.cn x.cs x.a x.ccd x.cl x.outer x.A₀ x.base x.h₀ x.L x.m x.s x.p x.loose x.mean x.mg x.mb x.Q x.E x.n x.tn x.g x.L' x.h' x.tk
@[irreducible] noncomputable def row_okBC : LP := gen LPE row_okBS
namespace row_okBN
noncomputable section
 def a := row_okBC.a
 def L := row_okBC.L
 def p := row_okBC.p
 def n := row_okBC.n
 def g := row_okBC.g
 def h' := row_okBC.h'
 def tk := row_okBC.tk
end
theorem main : row_okBQ row_okBC.w row_okBC.dp row_okBC.un row_okBC.gd row_okBC.cn row_okBC.cs a row_okBC.ccd row_okBC.cl row_okBC.outer row_okBC.A₀ row_okBC.base row_okBC.h₀ L row_okBC.m row_okBC.s p row_okBC.loose row_okBC.mean row_okBC.mg row_okBC.mb row_okBC.Q row_okBC.E n row_okBC.tn g row_okBC.L' h' tk := by
 intro cells lb scope hlb hsc
 conv at hlb => lhs; whnf
 conv at hsc => lhs; whnf
 subst hlb hsc
 intro h0 h1 C N ret G C' N' Y' FG' l1
 obtain ⟨B', F', X', T', hk', hd', hu'⟩ := C'
 obtain ⟨B0, F0, X0, T0, hk0, hd0, hu0⟩ := C
 (try k_lt l1)
 k_cells Y'
 (try simp only [List.cons_append, List.nil_append] at N')
 (try dsimp only)
 (try k_fold)
 have q1 := fm4 (n.fdiv 8192)
 have q2 := fm4 (n.fdiv 512)
 have q3 := fm4 (n.fdiv 2048)
 have q4 := fm42 (n.fdiv 2048)
 have q5 := fm8 n
 have q6 := fm8 (n.fdiv 8)
 have q7 := fm8 (n.fdiv 64)
 have q8 := fm27 (n.fdiv 32768)
 have q9 := fm10 (n.fdiv 32768)
 have kcsA : KcsAt 1000 := .mk
 have kcsB : KcsAt 1001 := .mk
 k_with "binaryOp Add ref ref" => ((rename Fr g _ _ _ => lF); (rename News g _ _ _ => lN); (k_dflt refine' kmk_add_ints lF lN ?ka ?kb ?ki ?kj ?_ ?kz); (case ka => k_dflt exact ⟨_, (lN _ (List.Mem.head _)).1, rfl, _, rfl⟩); (case kb => assumption); (case ki => k_dflt l_ints); (case kj => exact IntsAre.ofCarried (by assumption)); (case kz => (rw [sizeLine_eq]; decide)); (intro D' ws' h' F' N' l4 hI'; have hI2 : IntsAre ws' nothL := hI'; clear hI'; (try (rename NewPlain _ _ _ _ => np; clear np)); (try clear mk'''); (try clear hc'''); (try clear x'''); (try k_lt l4); (try k_sweep)))
 k_with "subscriptTail" => ((rename News g _ _ _ => lN); first
   | ((k_dflt refine' item_anyK ?k1 (by assumption : IntsAre _ nothL) ?k3 ?k4 ?k5 ?_ ?k6); (case k1 => k_dflt exact ⟨_, (lN _ (List.Mem.head _)).1, rfl, _, rfl⟩); (case k3 => lia); (case k4 => (show _ < (27 : Int); lia)); (case k5 => lia); (case k6 => with_unfolding_all rfl); intro _; (first | (have lN5 := news_d4 lN; clear lN) | (have lN5 := news_d3 lN; clear lN) | (have lN5 := news_d2 lN; clear lN)))
   | ((k_dflt refine' item_strsN (hs := ?k6) lN (List.Mem.head _) ?k2 ?k3 ?k4 ?k7 ?k5 ?_); (case k2 => first | k_dflt exact (StrsAre.cons _ _ (StrsAre.cons _ _ StrsAre.nil)) | k_dflt exact (StrsAre.cons _ _ (StrsAre.cons _ _ (StrsAre.cons _ _ (StrsAre.cons _ _ StrsAre.nil)))) | k_dflt exact (StrsAre.cons _ _ (StrsAre.cons _ _ (StrsAre.cons _ _ (StrsAre.cons _ _ (StrsAre.cons _ _ (StrsAre.cons _ _ (StrsAre.cons _ _ (StrsAre.cons _ _ StrsAre.nil))))))))); (case k3 => lia); (case k4 => (simp only [List.length_cons, List.length_nil]; lia)); (case k7 => (simp only [List.length_cons, List.length_nil]; lia)); (case k5 => (k_dflt (repeat' (first | exact List.forall_mem_nil _ | refine List.forall_mem_cons.mpr ⟨?_, ?_⟩))); all_goals (first | decide | lia | (simp only [PySem.Str.length_append, lenDot, lenE, lenCo, lenSz]; lia))); (case k6 => with_unfolding_all rfl); intro _ _ _ _; (have lN5 := news_tl lN; clear lN))
   | ((k_dflt refine' item_strsN (hs := ?k6) lN ?k1 ?k2 ?k3 ?k4 ?k7 ?k5 ?_); (case k1 => k_dflt k_mem); (case k2 => first | k_dflt exact (StrsAre.cons _ _ (StrsAre.cons _ _ StrsAre.nil)) | k_dflt exact (StrsAre.cons _ _ (StrsAre.cons _ _ (StrsAre.cons _ _ (StrsAre.cons _ _ StrsAre.nil)))) | k_dflt exact (StrsAre.cons _ _ (StrsAre.cons _ _ (StrsAre.cons _ _ (StrsAre.cons _ _ (StrsAre.cons _ _ (StrsAre.cons _ _ (StrsAre.cons _ _ (StrsAre.cons _ _ StrsAre.nil))))))))); (case k3 => lia); (case k4 => (simp only [List.length_cons, List.length_nil]; lia)); (case k7 => (simp only [List.length_cons, List.length_nil]; lia)); (case k5 => (k_dflt (repeat' (first | exact List.forall_mem_nil _ | refine List.forall_mem_cons.mpr ⟨?_, ?_⟩))); all_goals (first | decide | lia | (simp only [PySem.Str.length_append, lenDot, lenE, lenCo, lenSz]; lia))); (case k6 => with_unfolding_all rfl); intro _ _ _ _))
 k_with "newTuple" => ((rename Fr g _ _ _ => lF); (rename News g _ _ _ => lN); (k_dflt refine' kup_newTuple lF lN ?_ ?z); (case z => (rw [sizeLine_eq]; simp)); intro D' h' F' N' l1; (try k_lt l1); (try k_sweep))
 k_with "call builtin:chr" => (first | (refine chr_noth ?_; intro no uno eno hno) | (refine chr_great ?_; intro gr ugr egr hgr))
 k_with "eval ListComp" => ((k_dflt (refine PyProof.Rows.LCg.ListComp_U (F₀ := by k_asm) (by with_unfolding_all rfl) (by decide) (by rfl) (by decide) (by rfl) ?_)))
 k_with "CompSrc" => ((rename Fr g _ _ _ => lF); (rename News g _ _ _ => lN); first | ((fail_if_success (have hq : Done1 := by assumption)); (k_dflt refine' PyProof.Rows.LCg.CompSrc.ledger ?ch lF lN ?cm ?cz (fun g2 => figTurns meansL q5 q6 q7 (.inr ⟨_, by k_dflt k_mem, rfl, _, rfl⟩) (fun pre post k t ys I oI C oC D m₂ h tk E' hk0 hk8 hJ hO hx lF2 lN2 off hne => ?_) (fun hdone us hJ D h3 tk3 lF3 lN3 o1 => ?_))); (case ch => with_unfolding_all rfl); (case cm => k_dflt k_mem); (case cz => (rw [sizeLine_eq]; simp)); all_goals (try k_fold)) | ((k_dflt refine' PyProof.Rows.LCg.CompSrc.ledger ?ch lF lN ?cm ?cz (fun g2 => figTurns ["a", gr, ".", "a...", "...", "㏇", "." ++ no ++ ".", ":"] q5 q6 q7 (.inr ⟨_, by k_dflt k_mem, rfl, _, rfl⟩) (fun pre post k t ys I oI C oC D m₂ h tk E' hk0 hk8 hJ hO hx lF2 lN2 off hne => ?_) (fun hdone us hJ D h3 tk3 lF3 lN3 o1 => ?_))); (case ch => with_unfolding_all rfl); (case cm => k_dflt k_mem); (case cz => (rw [sizeLine_eq]; simp)); all_goals (try k_fold)))
 k_with "call builtin:str.join" => ((rename News g _ _ _ => lN); (k_dflt refine' join_fig lN ?jm ?jj ?jl (by decide) ?_); (case jm => k_dflt k_mem); (case jj => assumption); (case jl => (simp)); intro _ _ _ _ _)
 k_with "binaryOp Add str str" => (refine KXadd.add (K := 64) (L := 64) ?ka ?kb (by decide) ?_; (case ka => (first | lia | (simp only [PySem.Str.length_append]; lia) | decide)); (case kb => (first | lia | (simp only [PySem.Str.length_append]; lia) | decide)); intro _ _ _)
 k_with "inplaceOp Add str str" => ((refine SBL.iadd (hsz := ?hsz) ?_); (case hsz => (rw [sizeLine_eq]; (first | lia | (simp only [PySem.Str.length_append]; lia) | decide))); intro _ _ _)
 k_with "storeName" => ((with_reducible refine gen_toks ?_); intro tkN; (try dsimp only))
 k_with "newList" => ((with_reducible refine gen_toks ?_); intro tkN; (try dsimp only))
 k_steps
 k_with_none
 . (rename Fr _ _ _ _ => lF3); (rename News _ _ _ _ => lN3)
   exact TurnEnd.intro lF3 lN3 (fun p hp => hp) (fig_next hJ (by assumption) (by assumption))
 . (rename Fr _ _ _ _ => lF3); (rename News _ _ _ _ => lN3)
   exact TurnEnd.intro lF3 lN3 (fun p hp => hp) (fig_next hJ (by assumption) (by assumption))
 . (rename Fr g _ _ _ => lF); (rename News g _ _ _ => lN)
   (repeat (with_reducible rename _ /\ _ => zz; clear zz)); (repeat (with_reducible rename _ <= _ => zz; clear zz)); (repeat (with_reducible rename StrsAre _ _ => zz; clear zz))
   have q1 := fresh1 G lN (List.Mem.head _) notIn0
   have q2 := kp_of G lF lN (fun p hp => nomatch hp)
   clear lF lN; (repeat (with_reducible rename Fr _ _ _ _ => zz; clear zz)); (repeat (with_reducible rename News _ _ _ _ => zz; clear zz))
   subst_vars
   exact ret _ _ _ _ _ _ _ _ _ q2 (List.forall_mem_cons.mpr ⟨q1, List.forall_mem_nil _⟩)
end row_okBN
theorem row_okBH : row_okBS (gen LPE row_okBS) := by with_unfolding_all exact @row_okBN.main
theorem row_okB {w dp un gd cn cs a ccd cl outer A₀ base h₀ L m s p loose mean mg mb Q E n tn g L' h' tk} : row_okBQ w dp un gd cn cs a ccd cl outer A₀ base h₀ L m s p loose mean mg mb Q E n tn g L' h' tk := @all_gen LP LPE row_okBS @row_okBH { lp0 with w, dp, un, gd, cn, cs, a, ccd, cl, outer, A₀, base, h₀, L, m, s, p, loose, mean, mg, mb, Q, E, n, tn, g, L', h', tk }
end
section
variable {w : World} {dp un : Nat} {gd : Option (List Code)} {cn : Str} {cs : Scope} {a : Addr} {ccd : Value} {cl : List (Str × Addr)} {outer : List Env} {A₀ : Around} {base h₀ : Heap} {L : Addr} {m : Str -> Option Value} {s : Shared}
 {p : Program} {loose : List Str} {mean : ExcName -> Option Value} {mg mb : Str -> Option Value} {news : List (Addr × Obj)} {Q E : Value -> Shared -> Prop}
theorem row_ok {n : Int} {tn : Tok} (h0 : 0 <= n) (h1 : n < 1000000) (C : Cx w dp un cs outer A₀ base h₀ L m s.heap p loose mean mg mb 6) (N : News h₀ L s.heap [])
 (ret : ∀ (h' : Heap) (tk' : Nat) (rt : Addr) (t1 t2 t3 t4 t5 t6 : Tok), Kp s.heap h' -> Fresh s.heap h' [(rt, rowTup n t1 t2 t3 t4 t5 t6)] -> Q (.ref rt) { s with heap := h', toks := tk' }) :
 wpAny (model pw_sr0088_01 w) (ktrTop dp un gd cn cs L a ccd cl outer) (call (.ref 269) [.int n tn]) Q E s := by
 refine' enterC [("n", .int n tn)] C N ?ho ?hcd ?hb ?hkd ?hnd ?hs ?b ?sc ?h
 case ho => k_dflt k_is
 case hcd => k_dflt k_is
 case hb => first | exact BindsTo.of_eq rfl | (refine' binds_K (C.X.keeps C.F.keep) ?d ?o ?s ?h1 ?h2; (case d => exact rfl); (case o => k_dflt k_is); (case s => exact rfl); (case h1 => exact rfl); (case h2 => exact rfl))
 case hkd => rfl
 case hnd => decide +kernel
 case hs => rfl
 case b => (conv => lhs; whnf)
 case sc => (conv => lhs; whnf)
 case h =>
   intro g L' h' tk cells G C' N' Y' FG' l1
   exact row_okB (n := n) (tn := tn) rfl rfl h0 h1 C N ret G C' N' Y' FG' l1
end
section
variable {w : World} {dp un : Nat} {gd : Option (List Code)} {cn : Str} {cs : Scope} {a : Addr} {ccd : Value} {cl : List (Str × Addr)} {outer : List Env} {A₀ : Around} {base h₀ h h' : Heap} {L : Addr} {m : Str -> Option Value} {s : Shared}
 {p : Program} {loose : List Str} {mean : ExcName -> Option Value} {mg mb : Str -> Option Value} {news : List (Addr × Obj)} {Q E : Value -> Shared -> Prop} {k k' : Nat}
 {name qual : Str} {params : Arguments} {body : List Stmt} {scope : Scope} {dV kV doc pm cdv ct oc : Value} {an od : Option Addr} {osl : Array (Option Value)} {f : Addr}
theorem enterCc {pos : List Value} {kw : List (Str × Value)} (binds : List (Str × Value)) {body' : List Stmt} {scope' : Scope} (C : Cx w dp un cs outer A₀ base h₀ L m s.heap p loose mean mg mb (k + 1)) (N : News h₀ L s.heap news)
   (ho : (K w.params).lookup f = some ⟨oc, od, .func (fnOf name qual params body scope dV kV doc pm an cdv ct), osl⟩) (hcd : codeIn (K w.params) cdv qual = true)
   (hbind : BindsTo s (fnOf name qual params body scope dV kV doc pm an cdv ct) ⟨pos, kw⟩ binds) (hkind : (binds.all fun y => scope.names.lookup y.1 == some .local || scope.names.lookup y.1 == some .cell) = true)
   (hnd : ((cellsFrom 0 scope.names []).map (·.1)).Nodup) (hsc : scopeOkC scope = true) (hb : body = body') (hs : scope = scope')
   (h : ∀ g L' h₁ tk cells, GSub s.heap g (news.map (·.1)) -> Cx w (dp + 1) (un + 3) scope' (envX cn cs L a ccd cl :: outer) (ktrTop dp un gd cn cs L a ccd cl outer) base g L' (bindL (envOfC qual scope' L' f cdv).kindOf binds fun _ => none) h₁ p loose mean mg mb k -> News g L' h₁ (cells ++ news) ->
     CellsAre (bindC (envOfC qual scope' L' f cdv).kindOf binds fun _ => none) (cellsFrom (L' + 1) scope'.names []) cells -> Fr h₀ L g m -> (∀ p ∈ news, p.1 < L') ->
     wpAny (model pw_sr0088_01 w) ((ktrTop dp un gd cn cs L a ccd cl outer).deeper (envOfC qual scope' L' f cdv)) (execs body' (envOfC qual scope' L' f cdv))
       (fun fl s' => LeaveK h₀ L m g (fun r s' => match r with | .ok (.ret v) => Q v s' | .ok _ => False | .error e => E e s') (match fl with | .ret v => v | _ => .none) s')
       (fun e s' => wpAny (model pw_sr0088_01 w) ((ktrTop dp un gd cn cs L a ccd cl outer).deeper (envOfC qual scope' L' f cdv)) (leaving (envOfC qual scope' L' f cdv) e) (fun _ s'' => E e s'') (fun e' s'' => E e' s'') s')
       { s with heap := h₁, toks := tk }) :
   codeAny (model pw_sr0088_01 w) (ktrTop dp un gd cn cs L a ccd cl outer) (.call (.ref f) ⟨pos, kw⟩) (fun r s' => match r with | .ok (.ret v) => Q v s' | .ok _ => False | .error e => E e s') s := by
 subst hb hs
 simp only [scopeOkC, Bool.and_eq_true, Bool.not_eq_true', beq_iff_eq] at hsc
 obtain ⟨⟨h1, h2⟩, h3⟩ := hsc
 have hd := C.hd
 have hu := C.hu
 exact code_defCG (env := envX cn cs L a ccd cl) (outer := outer) C.B C.F C.X N C.T rfl rfl C.hk ho hcd (by show dp < _; lia) hbind hkind hnd
   (fun g L' h₁ tk cells G FG F' N' Y B' X' T' l => h g L' h₁ tk cells G ⟨B', F', X', T', h3, by lia, by lia⟩ N' Y FG l) h1 h2 h3
end
section
variable {w : World} {dp un : Nat} {gd : Option (List Code)} {cn : Str} {cs : Scope} {a : Addr} {ccd : Value} {cl : List (Str × Addr)} {outer : List Env} {A₀ : Around} {base h₀ : Heap} {L : Addr} {m : Str -> Option Value} {s : Shared}
 {p : Program} {loose : List Str} {mean : ExcName -> Option Value} {mg mb : Str -> Option Value} {news : List (Addr × Obj)} {Q E : Value -> Shared -> Prop}
theorem init_code {x dx : Addr} (hx : @LT.lt Nat _ dx x) (C : Cx w dp un cs outer A₀ base h₀ L m s.heap p loose mean mg mb 6) (N : News h₀ L s.heap [(x, instObj 182 dx), (dx, dictOf [] 0)])
 (ret : ∀ (h' : Heap) (tk' : Nat) (l : Addr) (to : Tok), @LT.lt Nat _ x l -> KpB [dx] s.heap h' -> h'.get? dx = some (hdD w.params to l) -> Fresh s.heap h' [(l, W.listOf [].toArray 0)] -> Q .none { s with heap := h', toks := tk' }) :
 codeAny (model pw_sr0088_01 w) (ktrTop dp un gd cn cs L a ccd cl outer) (.call (.ref 76) ⟨[.ref x], []⟩) (fun r s' => match r with | .ok (.ret v) => Q v s' | .ok _ => False | .error e => E e s') s := by
 refine' enterCc [("self", .ref x), ("headers", .none)] C N ?ho ?hcd ?hb ?hkd ?hnd ?hs ?b ?sc ?h
 case ho => k_dflt k_is
 case hcd => k_dflt k_is
 case hb => first | exact BindsTo.of_eq rfl | (refine' binds_K (C.X.keeps C.F.keep) ?d ?o ?s ?h1 ?h2; (case d => exact rfl); (case o => k_dflt k_is); (case s => exact rfl); (case h1 => exact rfl); (case h2 => exact rfl))
 case hkd => rfl
 case hnd => decide +kernel
 case hs => rfl
 case b => (conv => lhs; whnf)
 case sc => (conv => lhs; whnf)
 case h =>
   intro g L' h' tk cells G C' N' Y' FG' l1
   obtain ⟨B', F', X', T', hk', hd', hu'⟩ := C'
   obtain ⟨B0, F0, X0, T0, hk0, hd0, hu0⟩ := C
   (try k_lt l1)
   have hY : CellsAre _ [] cells := Y'; cases hY; clear Y'
   (try simp only [List.cons_append, List.nil_append] at N')
   (try dsimp only)
   (try k_fold)
   k_steps
   k_with_none
   (rename Fr g _ _ _ => lF); (rename News g _ _ _ => lN)
   refine' ret _ _ _ _ ?o (kpB_of G lF lN ?e) ?a ?b
   case a => exact (lN (dx, hdD w.params _ _) (by k_dflt k_mem)).1
   case e => exact List.forall_mem_cons.mpr ⟨.inr ⟨by k_dflt k_mem, (N _ (by k_dflt k_mem)).1⟩, List.forall_mem_cons.mpr ⟨.inl (by k_dflt k_mem), List.forall_mem_nil _⟩⟩
   case b => exact List.forall_mem_cons.mpr ⟨fresh1 G lN (by k_dflt k_mem) (notIn1 (by k_ne) (notIn1 (by k_ne) notIn0)), List.forall_mem_nil _⟩
   case o => lia
end
section
variable {w : World} {dp un : Nat} {gd : Option (List Code)} {cn : Str} {cs : Scope} {a : Addr} {ccd : Value} {cl : List (Str × Addr)} {outer : List Env} {A₀ : Around} {base h₀ : Heap} {L : Addr} {m : Str -> Option Value} {s : Shared}
 {p : Program} {loose : List Str} {mean : ExcName -> Option Value} {mg mb : Str -> Option Value} {news : List (Addr × Obj)} {Q E : Value -> Shared -> Prop}
theorem new_ok (C : Cx w dp un cs outer A₀ base h₀ L m s.heap p loose mean mg mb 12) (N : News h₀ L s.heap news)
 (ret : ∀ (h' : Heap) (tk' : Nat) (x dx l : Addr) (to : Tok), Fr h₀ L h' m -> News h₀ L h' ((l, W.listOf [].toArray 0) :: (x, instObj 182 dx) :: (dx, hdD w.params to l) :: news) -> (∀ p ∈ news, p.1 < dx) -> @LT.lt Nat _ dx x -> @LT.lt Nat _ x l -> Q (.ref x) { s with heap := h', toks := tk' }) :
 wpAny (model pw_sr0088_01 w) (ktrTop dp un gd cn cs L a ccd cl outer) (call (.ref 182) []) Q E s := by
 have hd := C.hd
 have hu := C.hu
 refine' call_cls (K := K w.params) (fI := 76) C.F C.X N ?hm ?hi ?hf ?h
 case hm => k_dflt k_is
 case hi => k_dflt k_is
 case hf => k_dflt k_is
 case h =>
   intro x dx h' F' N' hn hlt
   have U : ∀ to l, Upd dx (dictOf [] 0) (hdD w.params to l) ((x, instObj 182 dx) :: (dx, dictOf [] 0) :: news) ((x, instObj 182 dx) :: (dx, hdD w.params to l) :: news) := fun to l => .tail (Ne.symm (Nat.ne_of_lt hlt)) (.head fun p hp => Nat.ne_of_lt (hn p hp))
   have hcu : (Code.builtin "type.__call__" ⟨[Value.ref 182], []⟩).cUnits <= 60 := by decide +kernel
   have I := init_code (s := { s with heap := h' }) (gd := pushGuards (Code.builtin "type.__call__" ⟨[Value.ref 182], []⟩).guards gd) (dp := dp + (Code.builtin "type.__call__" ⟨[Value.ref 182], []⟩).weight) (un := un + (Code.builtin "type.__call__" ⟨[Value.ref 182], []⟩).cUnits) (cn := cn) (cs := cs) (L := L) (a := a) (ccd := ccd) (cl := cl) (outer := outer) (E := E)
     (Q := fun v s' => v = .none /\ Q (.ref x) s') hlt ⟨C.B, F', C.X, C.T, C.hk, by show dp + 1 + 6 < _; lia, by show un + (Code.builtin "type.__call__" ⟨[Value.ref 182], []⟩).cUnits + 10 * 6 < _; lia⟩ (fun q hq => N' q (by
       rcases List.mem_cons.mp hq with rfl | hq
       . exact .head _
       . rw [List.mem_singleton.mp hq]; exact .tail _ (.head _)))
     (fun h2 tk2 l to hl k e fr => ⟨rfl, ret h2 tk2 x dx l to (newsUpdB F' N' (U to l) k e).1 (newsUpdF F' N' (U to l) k e fr) hn hlt hl⟩)
   refine codeAny_mono I fun r s' q => ?_
   match r, q with
   | .ok (.ret v), q => exact q
   | .error e, q => exact q
end
open PyProof.Rows.LCg PyProof.Rows.LCp
noncomputable def ZAt (h : Heap) (z TI TO i1 i2 l1 l2 : Addr) (k : Nat) : Prop := IsZip h z TI TO .none /\ IsPair h TI (.ref i1) (.ref i2) /\ (∃ a b, IsPair h TO a b) /\ h.IsListIter i1 l1 k /\ h.IsListIter i2 l2 k
theorem ZAt.keep {h h' : Heap} {z TI TO i1 i2 l1 l2 : Addr} {k : Nat} (x : ZAt h z TI TO i1 i2 l1 l2 k) (e : ∀ b ∈ [z, TI, TO, i1, i2], ∀ o, h.get? b = some o -> h'.get? b = some o) : ZAt h' z TI TO i1 i2 l1 l2 k := by
 obtain ⟨a, b, ⟨c, d, f⟩, ⟨o1, g1, r1⟩, ⟨o2, g2, r2⟩⟩ := x
 exact ⟨e z (by simp) _ a, e TI (by simp) _ b, ⟨c, d, e TO (by simp) _ f⟩, ⟨o1, e i1 (by simp) _ g1, r1⟩, ⟨o2, e i2 (by simp) _ g2, r2⟩⟩
theorem ZAt.led {h : Heap} {z TI TO i1 i2 l1 l2 : Addr} {k : Nat} (x : ZAt h z TI TO i1 i2 l1 l2 k) : ∃ oz oT oO o1 o2, h.get? z = some oz /\ h.get? TI = some oT /\ h.get? TO = some oO /\ h.get? i1 = some o1 /\ h.get? i2 = some o2 := by
 obtain ⟨a, b, ⟨c, d, f⟩, ⟨o1, g1, r1⟩, ⟨o2, g2, r2⟩⟩ := x
 exact ⟨_, _, _, _, _, a, b, f, g1, g2⟩
noncomputable def ZEnd (h₀ : Heap) (L : Addr) (m : Str -> Option Value) (s₁ : Shared) (fix : List (Addr × Obj)) (J : Value -> List (Addr × Obj) -> Prop) (y : Value) (s₂ : Shared) : Prop :=
 ∃ h' tk' own, s₂ = { s₁ with heap := h', toks := tk' } /\ Fr h₀ L h' m /\ News h₀ L h' (own ++ fix) /\ (∀ p ∈ own, ∀ q ∈ fix, q.1 ≠ p.1) /\ J y own
section
variable {prog : Program} {w : World} {A : Around} {E : Value -> Shared -> Prop} {s : Shared} {h₀ : Heap} {L : Addr} {m : Str -> Option Value} {env : Env}
noncomputable def ZTurn (prog : Program) (w : World) (A : Around) (h₀ : Heap) (L : Addr) (m : Str -> Option Value) (env : Env) (elt : Expr) (x x₂ : Str) (scope : Scope) (cl : List (Str × Addr)) (s : Shared) (xs ys : List Value) (news : List (Addr × Obj)) (J : List Value -> List (Addr × Obj) -> Prop) : Prop :=
 ∀ v₁ v₂ zs G fix C oC m₂ h tk (E' : Value -> Shared -> Prop), xs[zs.length]? = some v₁ -> ys[zs.length]? = some v₂ -> J zs G -> NsObj oC m₂ -> m₂ x = some v₁ -> m₂ x₂ = some v₂ -> Fr h₀ L h m -> (∀ p ∈ G ++ news, p ∈ fix) -> (∀ q ∈ fix, q.1 ≠ C) -> News h₀ L h ((C, oC) :: fix) ->
   wpAny (model prog w) A (eval elt (compEnvC scope cl C env)) (ZEnd h₀ L m { s with heap := h, toks := tk } ((C, oC) :: fix) (fun y own => J (zs ++ [y]) (own ++ G))) E' { s with heap := h, toks := tk }
end
section
noncomputable abbrev block_ZQ (prog : Program) (w : World) (A : Around) (E : Value -> Shared -> Prop) (h₀ : Heap) (L : Addr) (m : Str -> Option Value) (env : Env) (elt iter : Expr) (x x₂ : Str) (px px₂ tp : Pos) (tk : Nat) (cl : List (Str × Addr)) (pos : Pos) (s₂ : Shared) (z TI TO i1 i2 l1 l2 : Addr) (n1 n2 : Nat) (xs ys : List Value) (news : List (Addr × Obj)) (RR : Value -> Addr -> Result -> Shared -> Prop) : Prop := ∀ {scope : Scope} (J : List Value -> List (Addr × Obj) -> Prop) (AP : ZipApart z TI TO i1 i2 l1 l2) (hzt : ZAt s₂.heap z TI TO i1 i2 l1 l2 0) (hm1 : (l1, W.listOf xs.toArray n1) ∈ news) (hm2 : (l2, W.listOf ys.toArray n2) ∈ news) (hlen : xs.length = ys.length) (hsz : xs.length <= sizeLine) (hcell : ∀ y ∈ scope.names, y.2 ≠ .cell) (hkind : scope.kind = .function) (hx : scope.names.lookup x = some .local) (hx₂ : scope.names.lookup x₂ = some .local) (hxx : x ≠ x₂) (hh : A.handled = none) (F : Fr h₀ L s₂.heap m) (N : News h₀ L s₂.heap news) (off : ∀ b ∈ [z, TI, TO, i1, i2], h₀.get? b = none /\ L ≠ b /\ ∀ p ∈ news, p.1 ≠ b) (h0 : J [] []) (turn : ZTurn prog w A h₀ L m env elt x x₂ scope cl s₂ xs ys news J) (hRR : ∀ D C h tk m' zs G, Fr h₀ L h m -> News h₀ L h ((D, lst zs) :: (G ++ news)) -> (∀ p ∈ G ++ news, p.1 ≠ D) -> h.Ns C m' -> h₀.get? C = none -> h₀.get? D = none -> C ≠ L -> D ≠ L -> C ≠ D -> (∀ p ∈ G ++ news, p.1 ≠ C) -> J zs G -> zs.length = xs.length -> RR (.ref D) C (.ok .next) { s₂ with heap := h, toks := tk }), wpAny (model prog w) A (newList []) (fun acc s₃ => wpAny (model prog w) A (newFunctionEnv scope env.globals cl [] env.qual none .none (some env)) (fun cenv s₄ =>
     codeAny (model prog w) A (.compStart (.ListComp elt [⟨.Tuple [.Name x px, .Name x₂ px₂] tk tp, iter, [], 0⟩] scope pos) 0 (.ref z) acc { cenv with scope := relabel scope env }) (RR acc cenv.locals) s₄) E s₃) E s₂
noncomputable def block_ZS (x : LP) : Prop := block_ZQ x.prog x.w x.A x.E x.h₀ x.L x.m x.env x.elt x.iter x.xx1 x.x₂ x.px x.px₂ x.tp x.tk x.cl x.pos x.s₂ x.z x.TI x.TO x.i1 x.i2 x.l1 x.l2 x.n1 x.n2 x.xs x.ys x.news x.RR
@[irreducible] noncomputable def block_ZC : LP := gen LPE block_ZS
namespace block_ZN
noncomputable section
 def prog := block_ZC.prog
 def w := block_ZC.w
 def A := block_ZC.A
 def h₀ := block_ZC.h₀
 def L := block_ZC.L
 def m := block_ZC.m
 def env := block_ZC.env
 def elt := block_ZC.elt
 def iter := block_ZC.iter
 def x := block_ZC.xx1
 def x₂ := block_ZC.x₂
 def px := block_ZC.px
 def px₂ := block_ZC.px₂
 def tp := block_ZC.tp
 def tk := block_ZC.tk
 def cl := block_ZC.cl
 def pos := block_ZC.pos
 def s₂ := block_ZC.s₂
 def z := block_ZC.z
 def TI := block_ZC.TI
 def TO := block_ZC.TO
 def i1 := block_ZC.i1
 def i2 := block_ZC.i2
 def l1 := block_ZC.l1
 def l2 := block_ZC.l2
 def xs := block_ZC.xs
 def ys := block_ZC.ys
 def news := block_ZC.news
 def RR := block_ZC.RR
end
theorem main : block_ZQ prog w A block_ZC.E h₀ L m env elt iter x x₂ px px₂ tp tk cl pos s₂ z TI TO i1 i2 l1 l2 block_ZC.n1 block_ZC.n2 xs ys news RR := by
 intro scope J AP hzt hm1 hm2 hlen hsz hcell hkind hx hx₂ hxx hh F N off h0 turn hRR
 refine wpAny_newObj_type (wpAny_newFunctionEnv hcell (by intro y hy; simp at hy) (fun h₁ hns₁ hsb₁ => ?_) hkind)
 dsimp only at hns₁ hsb₁ ⊢
 generalize hH2 : s₂.heap.push { cls := .type "list", dict := none, data := .seq ([] : List Value).toArray } = H2 at hns₁ hsb₁ ⊢
 have hC : H2.objs.size = s₂.heap.objs.size + 1 := by rw [<- hH2, Heap.size_push]
 have hDC : s₂.heap.objs.size ≠ H2.objs.size := by rw [hC]; exact Nat.ne_of_lt (Nat.lt_succ_self _)
 have below : ∀ b, b < s₂.heap.objs.size -> b ≠ H2.objs.size /\ b ≠ s₂.heap.objs.size := fun b hb => ⟨by rw [hC]; exact Nat.ne_of_lt (Nat.lt_succ_of_lt hb), Nat.ne_of_lt hb⟩
 (have hQ := hzt.led; revert hQ; refine xq5 fun oz0 oT0 oO0 o10 o20 => ?_; refine aq5 fun gz gT gO g1 => ?_; intro g2)
 have zb : ∀ b ∈ [z, TI, TO, i1, i2], b < s₂.heap.objs.size := by
   intro b hb
   simp only [List.mem_cons, List.not_mem_nil, or_false] at hb
   rcases hb with rfl | rfl | rfl | rfl | rfl
   . exact Heap.lt_size gz
   . exact Heap.lt_size gT
   . exact Heap.lt_size gO
   . exact Heap.lt_size g1
   . exact Heap.lt_size g2
 have old : ∀ b o, s₂.heap.get? b = some o -> h₁.get? b = some o := fun b o e => hsb₁.extBut b o (below b (Heap.lt_size e)).1 (Heap.get?_push_of_some _ (hH2 ▸ Heap.get?_push_of_some _ e))
 have hacc : h₁.get? s₂.heap.objs.size = some (lst []) := hsb₁.extBut _ _ hDC (Heap.get?_push_of_some _ (hH2 ▸ Heap.get?_push_size _ rfl))
 have hst₁ : ZAt h₁ z TI TO i1 i2 l1 l2 0 := hzt.keep fun b _ o e => old b o e
 have fresh : ∀ a, s₂.heap.objs.size <= a -> s₂.heap.get? a = none := fun a ha => by
   cases e : s₂.heap.get? a with
   | none => rfl
   | some o' => exact absurd (Heap.lt_size e) (Nat.not_lt.mpr ha)
 have fresh₀ : ∀ a, s₂.heap.objs.size <= a -> h₀.get? a = none := fun a ha => by
   cases e : h₀.get? a with
   | none => rfl
   | some o' => have := F.keep a o' e; rw [fresh a ha] at this; cases this
 have hD₀ : h₀.get? s₂.heap.objs.size = none := fresh₀ _ (Nat.le_refl _)
 have hC₀ : h₀.get? H2.objs.size = none := fresh₀ _ (by rw [hC]; exact Nat.le_succ _)
 have hLlt : L < s₂.heap.objs.size := F.ns.lt
 have hDL : s₂.heap.objs.size ≠ L := Ne.symm (below L hLlt).2
 have hCL : H2.objs.size ≠ L := Ne.symm (below L hLlt).1
 have offD : ∀ p ∈ news, p.1 ≠ s₂.heap.objs.size /\ p.1 ≠ H2.objs.size := fun p hp => ⟨(below _ (Heap.lt_size (N p hp).1)).2, (below _ (Heap.lt_size (N p hp).1)).1⟩
 have zD : ∀ b ∈ [z, TI, TO, i1, i2], b ≠ s₂.heap.objs.size /\ b ≠ H2.objs.size := fun b hb => ⟨(below _ (zb b hb)).2, (below _ (zb b hb)).1⟩
 have loop : ∀ s₃ : Shared, s₃ = { s₂ with heap := h₁, toks := s₂.toks + ([] : List (Str × Value)).length } ->
     codeAny (model prog w) A (.compLoop (.ListComp elt [⟨.Tuple [.Name x px, .Name x₂ px₂] tk tp, iter, [], 0⟩] scope pos) 0 (.ref z) (.ref s₂.heap.objs.size) (compEnvC scope cl H2.objs.size env))
       (RR (.ref s₂.heap.objs.size) H2.objs.size) s₃ := by
   rintro s₃ rfl
   refine codeAny_compLoop_pair
     (fun k s' => ∃ h' tk zs m' G, s' = { s₂ with heap := h', toks := tk } /\ zs.length <= xs.length /\ k = xs.length + 1 - zs.length /\ ZAt h' z TI TO i1 i2 l1 l2 zs.length /\ Fr h₀ L h' m /\ h'.Ns H2.objs.size m' /\ News h₀ L h' ((s₂.heap.objs.size, lst zs) :: (G ++ news)) /\
       (∀ p ∈ G, p.1 ≠ s₂.heap.objs.size /\ p.1 ≠ H2.objs.size /\ ∀ b ∈ [z, TI, TO, i1, i2], p.1 ≠ b) /\ J zs G) ?_ (xs.length + 1)
     ⟨h₁, _, [], _, [], rfl, Nat.zero_le _, rfl, hst₁, F.keeps old, hns₁, fun p hp => ?_, (fun _ h => nomatch h), h0⟩
   . (intro k s'; refine xq5 fun h' tk zs m' G => ?_; refine aq2 fun eQ => ?_; subst eQ; refine aq3 fun hi eQ => ?_; subst eQ; refine aq6 fun hst' F' hn' N' offG => ?_; intro hJ)
     have offA : ∀ p ∈ G ++ news, p.1 ≠ s₂.heap.objs.size /\ p.1 ≠ H2.objs.size /\ ∀ b ∈ [z, TI, TO, i1, i2], p.1 ≠ b := by
       intro p hp
       rcases List.mem_append.mp hp with hp | hp
       . exact offG p hp
       . exact ⟨(offD p hp).1, (offD p hp).2, fun b hb => (off b hb).2.2 p hp⟩
     have hl1 : h'.IsList l1 xs.toArray := ⟨_, (N' _ (List.mem_cons_of_mem _ (List.mem_append_right _ hm1))).1, rfl, _, rfl⟩
     have hl2 : h'.IsList l2 ys.toArray := ⟨_, (N' _ (List.mem_cons_of_mem _ (List.mem_append_right _ hm2))).1, rfl, _, rfl⟩
     obtain ⟨qz, qT, ⟨qa, qb, qO⟩, q1, q2⟩ := hst'
     by_cases hlt : zs.length < xs.length
     . obtain ⟨v₁, hv₁⟩ : ∃ v, xs[zs.length]? = some v := ⟨_, List.getElem?_eq_getElem hlt⟩
       obtain ⟨v₂, hv₂⟩ : ∃ v, ys[zs.length]? = some v := ⟨_, List.getElem?_eq_getElem (hlen ▸ hlt)⟩
       refine wpAny_pyNext_zip_item AP qz qT qO q1 q2 hl1 hl2 (x := v₁) (y := v₂) (by simpa using hv₁) (by simpa using hv₂) fun h₂ a1 a2 a3 a4 a5 a6 a7 => ?_
       refine wpAny_letOwnedTupleGo_zip a1 fun h₃ b1 b2 => ?_
       have up3 : ∀ c o, c ≠ z -> c ≠ TO -> c ≠ i1 -> c ≠ i2 -> h'.get? c = some o -> h₃.get? c = some o := fun c o c1 c2 c3 c4 e => b2.extBut c o c1 (a7 c o c1 c2 c3 c4 e)
       have hzlt : z < h'.objs.size := Heap.lt_size qz
       have ht : IsTup h₃ h'.objs.size #[v₁, v₂] := ⟨_, b2.extBut _ _ (Ne.symm (Nat.ne_of_lt hzlt)) a5, rfl, 0, rfl⟩
       refine assign_Tuple_tuple hh ht rfl rfl fun h₄ he => ?_
       have he' : ∀ b o, h₃.get? b = some o -> h₄.get? b = some o := fun b o e => he b o (Nat.ne_of_lt (Heap.lt_size e)) e
       have up4 : ∀ c o, c ≠ z -> c ≠ TO -> c ≠ i1 -> c ≠ i2 -> h'.get? c = some o -> h₄.get? c = some o := fun c o c1 c2 c3 c4 e => he' c o (up3 c o c1 c2 c3 c4 e)
       have cz := zD z (by simp)
       have cTI := zD TI (by simp)
       have cTO := zD TO (by simp)
       have c1 := zD i1 (by simp)
       have c2 := zD i2 (by simp)
       refine assignInOrder_cons (wpAny_assign_Name (wpAny_storeName_local (lookup_relabel_local hx) (hn'.at' fun o e => up4 _ o (Ne.symm cz.2) (Ne.symm cTO.2) (Ne.symm c1.2) (Ne.symm c2.2) e) (fun h₆ hn₆ hs₆ => ?_) (by simp [compEnvC, relabel, hkind])))
       refine assignInOrder_cons (wpAny_assign_Name (wpAny_storeName_local (lookup_relabel_local hx₂) hn₆ (fun h₅ hn₅ hs₅ => ?_) (by simp [compEnvC, relabel, hkind])))
       refine assignInOrder_nil ?_
       have up5 : ∀ c o, c ≠ H2.objs.size -> c ≠ z -> c ≠ TO -> c ≠ i1 -> c ≠ i2 -> h'.get? c = some o -> h₅.get? c = some o := fun c o c0 c1 c2 c3 c4 e => hs₅.extBut c o c0 (hs₆.extBut c o c0 (up4 c o c1 c2 c3 c4 e))
       have up35 : ∀ c o, c ≠ H2.objs.size -> h₃.get? c = some o -> h₅.get? c = some o := fun c o c0 e => hs₅.extBut c o c0 (hs₆.extBut c o c0 (he' c o e))
       have hst5 : ZAt h₅ z TI TO i1 i2 l1 l2 (zs.length + 1) := by
         obtain ⟨o1, e1, r1⟩ := a3
         obtain ⟨o2, e2, r2⟩ := a4
         exact ⟨up35 _ _ cz.2 b1, up5 _ _ cTI.2 AP.TIz AP.TITO AP.TIi1 AP.TIi2 qT, ⟨_, _, up35 _ _ cTO.2 (b2.extBut _ _ AP.TOz a2)⟩, ⟨o1, up35 _ _ c1.2 (b2.extBut _ _ AP.i1z e1), r1⟩, ⟨o2, up35 _ _ c2.2 (b2.extBut _ _ AP.i2z e2), r2⟩⟩
       (have hQ := hst5.led; revert hQ; refine xq5 fun oz oT oO o1 o2 => ?_; refine aq5 fun gz gT gO g1 => ?_; intro g2)
       obtain ⟨oC, heC, hoC⟩ := ns_obj hn₅
       have nb : ∀ b ∈ [z, TI, TO, i1, i2], ∀ (c : Addr) (o : Obj), h₀.get? c = some o -> c ≠ b := fun b hb c o e q => by rw [q, (off b hb).1] at e; cases e
       have F₅ : Fr h₀ L h₅ m := ⟨F'.ns.at' fun o e => up5 _ o (Ne.symm hCL) (off z (by simp)).2.1 (off TO (by simp)).2.1 (off i1 (by simp)).2.1 (off i2 (by simp)).2.1 e,
         fun c o e => up5 c o (fun q => by rw [q, hC₀] at e; cases e) (nb z (by simp) c o e) (nb TO (by simp) c o e) (nb i1 (by simp) c o e) (nb i2 (by simp) c o e) (F'.keep c o e), F'.above⟩
       have N₅ : News h₀ L h₅ ((H2.objs.size, oC) :: ((s₂.heap.objs.size, lst zs) :: (z, oz) :: (TI, oT) :: (TO, oO) :: (i1, o1) :: (i2, o2) :: (G ++ news))) := by
         intro p hp
         have at5 : ∀ b ∈ [z, TI, TO, i1, i2], ∀ o, h₅.get? b = some o -> h₅.get? b = some o /\ b ≠ L /\ h₀.get? b = none := fun b hb o e => ⟨e, Ne.symm (off b hb).2.1, (off b hb).1⟩
         simp only [List.mem_cons] at hp
         rcases hp with rfl | rfl | rfl | rfl | rfl | rfl | rfl | hp
         . exact ⟨heC, hCL, hC₀⟩
         . exact ⟨up5 _ _ hDC (Ne.symm cz.1) (Ne.symm cTO.1) (Ne.symm c1.1) (Ne.symm c2.1) (N' _ List.mem_cons_self).1, hDL, hD₀⟩
         . exact at5 _ (by simp) _ gz
         . exact at5 _ (by simp) _ gT
         . exact at5 _ (by simp) _ gO
         . exact at5 _ (by simp) _ g1
         . exact at5 _ (by simp) _ g2
         . have y := N' p (List.mem_cons_of_mem _ hp)
           obtain ⟨_, f2, f3⟩ := offA p hp
           exact ⟨up5 _ _ f2 (f3 z (by simp)) (f3 TO (by simp)) (f3 i1 (by simp)) (f3 i2 (by simp)) y.1, y.2⟩
       refine wpAny_mono (turn v₁ v₂ zs G ((s₂.heap.objs.size, lst zs) :: (z, oz) :: (TI, oT) :: (TO, oO) :: (i1, o1) :: (i2, o2) :: (G ++ news)) H2.objs.size oC _ h₅ _ _ hv₁ hv₂ hJ hoC (by simp [hxx]) (by simp) F₅ (fun p hp => by simp only [List.mem_cons]; exact .inr (.inr (.inr (.inr (.inr (.inr hp)))))) (fun q hq => by
         simp only [List.mem_cons] at hq
         rcases hq with rfl | rfl | rfl | rfl | rfl | rfl | hq
         . exact hDC
         . exact cz.2
         . exact cTI.2
         . exact cTO.2
         . exact c1.2
         . exact c2.2
         . exact (offA q hq).2.1) N₅) (fun y s₄ h₄ => ?_) fun _ _ e => e
       (revert h₄; refine xq3 fun h₇ tk₇ own => ?_; refine aq2 fun eQ => ?_; subst eQ; refine aq4 fun F₇ N₇ offO => ?_; intro hJ')
       have mf : ∀ p ∈ ((H2.objs.size, oC) :: ((s₂.heap.objs.size, lst zs) :: (z, oz) :: (TI, oT) :: (TO, oO) :: (i1, o1) :: (i2, o2) :: (G ++ news))), h₇.get? p.1 = some p.2 := fun p hp => (N₇ p (List.mem_append_right _ hp)).1
       have mzD := mf (s₂.heap.objs.size, lst zs) (by simp)
       have hst7 : ZAt h₇ z TI TO i1 i2 l1 l2 (zs.length + 1) := hst5.keep fun b hb o e => by
         simp only [List.mem_cons, List.not_mem_nil, or_false] at hb
         rcases hb with hb | hb | hb | hb | hb
         . rw [hb] at e ⊢; rw [gz] at e; exact (mf (z, oz) (by simp)).trans e
         . rw [hb] at e ⊢; rw [gT] at e; exact (mf (TI, oT) (by simp)).trans e
         . rw [hb] at e ⊢; rw [gO] at e; exact (mf (TO, oO) (by simp)).trans e
         . rw [hb] at e ⊢; rw [g1] at e; exact (mf (i1, o1) (by simp)).trans e
         . rw [hb] at e ⊢; rw [g2] at e; exact (mf (i2, o2) (by simp)).trans e
       refine append_at (hsz := by show zs.toArray.size <= sizeLine; rw [List.size_toArray]; exact Nat.le_trans hi hsz) mzD fun h₈ hs₈ hD₈ => ?_
       refine ⟨xs.length + 1 - (zs ++ [y]).length, by rw [List.length_append, List.length_singleton]; lia, h₈, tk₇, zs ++ [y], _, own ++ G, rfl, by rw [List.length_append, List.length_singleton]; lia, rfl,
         by rw [List.length_append, List.length_singleton]; exact hst7.keep fun b hb o e => hs₈.extBut b o (zD b hb).1 e, F₇.change hs₈ hDL hD₀,
         (hoC.ns (mf (H2.objs.size, oC) (by simp))).sameBut hs₈ (Ne.symm hDC), fun p hp => ?_, fun p hp => ?_, hJ'⟩
       . rcases List.mem_cons.mp hp with rfl | hp
         . exact ⟨hD₈.trans (congrArg some (lst_snoc zs y)), hDL, hD₀⟩
         . rw [List.append_assoc] at hp
           rcases List.mem_append.mp hp with hp | hp
           . have y := N₇ p (List.mem_append_left _ hp)
             exact ⟨hs₈.extBut _ _ (Ne.symm (offO p hp (s₂.heap.objs.size, lst zs) (by simp))) y.1, y.2⟩
           . have y := N₇ p (List.mem_append_right _ (by simp only [List.mem_cons]; exact .inr (.inr (.inr (.inr (.inr (.inr (.inr hp))))))))
             exact ⟨hs₈.extBut _ _ (offA p hp).1 y.1, y.2⟩
       . rcases List.mem_append.mp hp with hp | hp
         . refine ⟨Ne.symm (offO p hp (s₂.heap.objs.size, lst zs) (by simp)), Ne.symm (offO p hp (H2.objs.size, oC) (by simp)), fun b hb => ?_⟩
           simp only [List.mem_cons, List.not_mem_nil, or_false] at hb
           rcases hb with hb | hb | hb | hb | hb
           . rw [hb]; exact Ne.symm (offO p hp (z, oz) (by simp))
           . rw [hb]; exact Ne.symm (offO p hp (TI, oT) (by simp))
           . rw [hb]; exact Ne.symm (offO p hp (TO, oO) (by simp))
           . rw [hb]; exact Ne.symm (offO p hp (i1, o1) (by simp))
           . rw [hb]; exact Ne.symm (offO p hp (i2, o2) (by simp))
         . exact offG p hp
     . have hin : zs.length = xs.length := Nat.le_antisymm hi (Nat.not_lt.mp hlt)
       refine wpAny_pyNext_zip_end hh AP qz qT qO q1 q2 hl1 hl2 (.inl (by rw [hin]; simp)) fun h₂ a7 => ?_
       have up : ∀ c o, c ≠ z -> c ≠ TO -> c ≠ i1 -> c ≠ i2 -> h'.get? c = some o -> h₂.get? c = some o := a7
       have cz := zD z (by simp)
       have cTO := zD TO (by simp)
       have c1 := zD i1 (by simp)
       have c2 := zD i2 (by simp)
       have nb : ∀ b ∈ [z, TI, TO, i1, i2], ∀ (c : Addr) (o : Obj), h₀.get? c = some o -> c ≠ b := fun b hb c o e q => by rw [q, (off b hb).1] at e; cases e
       refine hRR _ _ h₂ _ _ zs G ⟨F'.ns.at' fun o e => up _ o (off z (by simp)).2.1 (off TO (by simp)).2.1 (off i1 (by simp)).2.1 (off i2 (by simp)).2.1 e,
         fun c o e => up c o (nb z (by simp) c o e) (nb TO (by simp) c o e) (nb i1 (by simp) c o e) (nb i2 (by simp) c o e) (F'.keep c o e), F'.above⟩ (fun p hp => ?_) (fun p hp => (offA p hp).1)
         (hn'.at' fun o e => up _ o (Ne.symm cz.2) (Ne.symm cTO.2) (Ne.symm c1.2) (Ne.symm c2.2) e) hC₀ hD₀ hCL hDL (Ne.symm hDC) (fun p hp => (offA p hp).2.1) hJ hin
       have y := N' p hp
       refine ⟨?_, y.2⟩
       rcases List.mem_cons.mp hp with rfl | hp
       . exact up _ _ (Ne.symm cz.1) (Ne.symm cTO.1) (Ne.symm c1.1) (Ne.symm c2.1) y.1
       . obtain ⟨_, _, f3⟩ := offA p hp
         exact up _ _ (f3 z (by simp)) (f3 TO (by simp)) (f3 i1 (by simp)) (f3 i2 (by simp)) y.1
   . rcases List.mem_cons.mp hp with rfl | hp
     . exact ⟨hacc, hDL, hD₀⟩
     . rw [List.nil_append] at hp
       exact ⟨old _ _ (N p hp).1, (N p hp).2⟩
 exact codeAny_compStart_list (loop _ rfl) (wpAny_pyIter_zip hst₁.1 (loop _ rfl))
end block_ZN
theorem block_ZH : block_ZS (gen LPE block_ZS) := by with_unfolding_all exact @block_ZN.main
theorem block_Z {prog w A E h₀ L m env elt iter x x₂ px px₂ tp tk cl pos s₂ z TI TO i1 i2 l1 l2 n1 n2 xs ys news RR} : block_ZQ prog w A E h₀ L m env elt iter x x₂ px px₂ tp tk cl pos s₂ z TI TO i1 i2 l1 l2 n1 n2 xs ys news RR := @all_gen LP LPE block_ZS @block_ZH { lp0 with prog, w, A, E, h₀, L, m, env, elt, iter, xx1 := x, x₂, px, px₂, tp, tk, cl, pos, s₂, z, TI, TO, i1, i2, l1, l2, n1, n2, xs, ys, news, RR }
end
section
variable {prog : Program} {w : World} {A : Around} {E : Value -> Shared -> Prop} {s : Shared} {h₀ : Heap} {L : Addr} {m : Str -> Option Value} {env : Env}
noncomputable def FinZ (h₀ : Heap) (L : Addr) (m : Str -> Option Value) (s : Shared) (Q : Value -> Shared -> Prop) (xs : List Value) (news : List (Addr × Obj)) (J : List Value -> List (Addr × Obj) -> Prop) : Prop :=
 ∀ D zs G h tk, Fr h₀ L h m -> News h₀ L h ((D, lst zs) :: (G ++ news)) -> (∀ p ∈ G ++ news, p.1 ≠ D) -> J zs G -> zs.length = xs.length -> Q (.ref D) { s with heap := h, toks := tk }
noncomputable def SrcZ (prog : Program) (w : World) (A : Around) (h₀ : Heap) (L : Addr) (m : Str -> Option Value) (env : Env) (elt : Expr) (x x₂ : Str) (scope : Scope) (cl : List (Str × Addr)) (Q : Value -> Shared -> Prop) (xv : Value) (s₁ : Shared) : Prop :=
 ∃ z TI TO i1 i2 l1 l2 n1 n2 xs ys news J, xv = .ref z /\ A.handled = none /\ ZipApart z TI TO i1 i2 l1 l2 /\ ZAt s₁.heap z TI TO i1 i2 l1 l2 0 /\ (l1, W.listOf (List.toArray xs) n1) ∈ news /\ (l2, W.listOf (List.toArray ys) n2) ∈ news /\ xs.length = ys.length /\ xs.length <= sizeLine /\
   Fr h₀ L s₁.heap m /\ News h₀ L s₁.heap news /\ (∀ b ∈ [z, TI, TO, i1, i2], h₀.get? b = none /\ L ≠ b /\ ∀ p ∈ news, p.1 ≠ b) /\ J [] [] /\
   ∀ s₂ : Shared, (∃ h, s₂ = { s₁ with heap := h }) -> ZTurn prog w A h₀ L m env elt x x₂ scope cl s₂ xs ys news J /\ FinZ h₀ L m s₂ Q xs news J
theorem zip_src {elt : Expr} {x x₂ : Str} {scope : Scope} {cl : List (Str × Addr)} {Q : Value -> Shared -> Prop} {l1 l2 : Addr} {n1 n2 : Nat} {xs ys : List Value} {news : List (Addr × Obj)} (J : List Value -> List (Addr × Obj) -> Prop) (hh : A.handled = none)
   (F : Fr h₀ L s.heap m) (N : News h₀ L s.heap news) (hm1 : (l1, W.listOf xs.toArray n1) ∈ news) (hm2 : (l2, W.listOf ys.toArray n2) ∈ news) (hlen : xs.length = ys.length) (hsz : xs.length <= sizeLine) (h0 : J [] [])
   (turn : ∀ g, ZTurn prog w A h₀ L m env elt x x₂ scope cl { s with heap := g } xs ys news J) (fin : ∀ g, FinZ h₀ L m { s with heap := g } Q xs news J) :
   wpAny (model prog w) A (call (.type "zip") [.ref l1, .ref l2]) (SrcZ prog w A h₀ L m env elt x x₂ scope cl Q) E s := by
 have hl1 : s.heap.IsList l1 xs.toArray := ⟨_, (N _ hm1).1, rfl, _, rfl⟩
 have hl2 : s.heap.IsList l2 ys.toArray := ⟨_, (N _ hm2).1, rfl, _, rfl⟩
 have a1 : l1 < s.heap.objs.size := Heap.lt_size (N _ hm1).1
 have a2 : l2 < s.heap.objs.size := Heap.lt_size (N _ hm2).1
 refine call_zip_2 hl1 hl2 fun h' hz hTI hTO hi1 hi2 hs hk => ?_
 refine ⟨_, _, _, _, _, l1, l2, n1, n2, xs, ys, news, J, rfl, hh, PyProof.Rows.zipApart_new a1 a2, ⟨hz, hTI, ⟨_, _, hTO⟩, hi1, hi2⟩, hm1, hm2, hlen, hsz, F.keeps hk, N.grown hk, ?_, h0, ?_⟩
 . intro b hb
   have hb' : s.heap.objs.size <= b := by
     simp only [List.mem_cons, List.not_mem_nil, or_false] at hb
     rcases hb with rfl | rfl | rfl | rfl | rfl <;> first | exact Nat.le_refl _ | exact Nat.le_add_right _ _
   refine ⟨?_, ?_, ?_⟩
   . cases e : h₀.get? b with
     | none => rfl
     | some o => exact absurd (Heap.lt_size (F.keep _ _ e)) (Nat.not_lt.mpr hb')
   . exact Nat.ne_of_lt (Nat.lt_of_lt_of_le F.ns.lt hb')
   . exact fun p hp => Nat.ne_of_lt (Nat.lt_of_lt_of_le (Heap.lt_size (N p hp).1) hb')
 . rintro s₂ ⟨h, rfl⟩
   exact ⟨turn h, fin h⟩
theorem ListComp_Z {elt iter : Expr} {x x₂ : Str} {px px₂ tp : Pos} {tk : Nat} {scope : Scope} {cl : List (Str × Addr)} {pos : Pos} {Q : Value -> Shared -> Prop} (F₀ : Fr h₀ L s.heap m)
   (hclos : closureFor scope env = pure cl) (hcell : ∀ y ∈ scope.names, y.2 ≠ .cell) (hkind : scope.kind = .function)
   (hnames : ∀ y ∈ scope.names, y.2 = .local -> scope.names.lookup y.1 = some .local) (hx : scope.names.lookup x = some .local) (hx₂ : scope.names.lookup x₂ = some .local) (hxx : x ≠ x₂)
   (h : wpAny (model prog w) A (eval iter env) (SrcZ prog w A h₀ L m env elt x x₂ scope cl Q) E s)
   (hs : ∀ x, foldedSetIterable iter env x = pure x := by intro _; rfl) :
   wpAny (model prog w) A (eval (.ListComp elt [⟨.Tuple [.Name x px, .Name x₂ px₂] tk tp, iter, [], 0⟩] scope pos) env) Q E s := by
 rw [eval_ListComp]
 refine wpAny_comprehension_free (use := none) rfl hs hclos hkind hnames (wpAny_mono h (fun xv s₁ h₁ => ?_) fun _ _ e => e)
 (revert h₁; refine xq8 fun z TI TO i1 i2 l1 l2 n1 => ?_; refine xq5 fun n2 xs ys news J => ?_; refine aq2 fun eQ => ?_; subst eQ; refine aq9 fun hh AP hzt hm1 hm2 hlen hsz F => ?_; refine aq4 fun N off h0 => ?_; intro R)
 obtain ⟨turn, fin⟩ := R _ ⟨_, rfl⟩
 refine wpAny_pyIter_zip hzt.1 ?_
 refine block_Z J AP hzt hm1 hm2 hlen hsz hcell hkind hx hx₂ hxx hh F N off h0 turn ?_
 intro D C h tk m' zs G F' N' o1 hn hC₀ hD₀ hCL hDL hCD offC hJ hl
 refine ⟨m', hn, fun h'' hs'' => fin D zs G h'' tk (F'.change hs'' hCL hC₀) (fun p hp => ?_) o1 hJ hl⟩
 refine ⟨hs''.extBut _ _ ?_ (N' p hp).1, (N' p hp).2⟩
 rcases List.mem_cons.mp hp with rfl | hp
 . exact Ne.symm hCD
 . exact offC p hp
end
open PyProof.Rows.LCg PyProof.Rows.LCt
section
variable {prog : Program} {w : World} {A : Around} {E : Value -> Shared -> Prop} {s : Shared} {h₀ : Heap} {L : Addr} {m : Str -> Option Value} {env : Env}
noncomputable def SrcST (prog : Program) (w : World) (A : Around) (h₀ : Heap) (L : Addr) (m : Str -> Option Value) (env : Env) (ct elt : Expr) (x : Str) (scope : Scope) (cl : List (Str × Addr)) (Q : Value -> Shared -> Prop) (xv : Value) (s₁ : Shared) : Prop :=
 ∃ txt t news, xv = .str txt t /\ A.handled = none /\ Fr h₀ L s₁.heap m /\ News h₀ L s₁.heap news /\ txt.cps.size <= sizeLine /\
   ∀ s₂ : Shared, (∃ h, s₂ = { s₁ with heap := h }) -> CompRestT prog w A h₀ L m env ct elt x scope cl s₂ (fun _ => True) (SignAt txt) (FinE h₀ L m s₂ Q) txt.cps.size 0 [] news
theorem SrcST.of {ct elt : Expr} {x : Str} {scope : Scope} {cl : List (Str × Addr)} {Q : Value -> Shared -> Prop} {txt : Str} {t : Tok} {news : List (Addr × Obj)} (hh : A.handled = none) (F : Fr h₀ L s.heap m) (N : News h₀ L s.heap news) (hsz : txt.cps.size <= sizeLine)
   (h : ∀ g, CompRestT prog w A h₀ L m env ct elt x scope cl { s with heap := g } (fun _ => True) (SignAt txt) (FinE h₀ L m { s with heap := g } Q) txt.cps.size 0 [] news) : SrcST prog w A h₀ L m env ct elt x scope cl Q (.str txt t) s := ⟨txt, t, news, rfl, hh, F, N, hsz, fun _ ⟨g, e⟩ => e ▸ h g⟩
theorem ListComp_TS {ct elt iter : Expr} {x : Str} {px : Pos} {scope : Scope} {cl : List (Str × Addr)} {pos : Pos} {Q : Value -> Shared -> Prop} (F₀ : Fr h₀ L s.heap m)
   (hclos : closureFor scope env = pure cl) (hcell : ∀ y ∈ scope.names, y.2 ≠ .cell) (hkind : scope.kind = .function)
   (hnames : ∀ y ∈ scope.names, y.2 = .local -> scope.names.lookup y.1 = some .local) (hx : scope.names.lookup x = some .local)
   (h : wpAny (model prog w) A (eval iter env) (SrcST prog w A h₀ L m env ct elt x scope cl Q) E s)
   (hs : ∀ x, foldedSetIterable iter env x = pure x := by intro _; rfl) :
   wpAny (model prog w) A (eval (.ListComp elt [⟨.Name x px, iter, [ct], 0⟩] scope pos) env) Q E s := by
 rw [eval_ListComp]
 refine wpAny_comprehension_free (use := none) rfl hs hclos hkind hnames (wpAny_mono h (fun xv s₁ h₁ => ?_) fun _ _ e => e)
 (revert h₁; refine xq3 fun txt t news => ?_; refine aq2 fun eQ => ?_; subst eQ; refine aq5 fun hh F N hsz => ?_; intro R)
 have main : ∀ (o : Obj) (ty : String) (W : Walks prog w A s₁.heap.objs.size [s₁.heap.objs.size] [s₁.heap.objs.size] txt.cps.size (SignAt txt) (fun i h => h.IsStrIter s₁.heap.objs.size ty txt t i)),
     (s₁.heap.push o).IsStrIter s₁.heap.objs.size ty txt t 0 -> wpAny (model prog w) A (newList []) (fun acc s₃ => wpAny (model prog w) A (newFunctionEnv scope env.globals cl [] env.qual none .none (some env)) (fun cenv s₄ =>
     codeAny (model prog w) A (.compStart (.ListComp elt [⟨.Name x px, iter, [ct], 0⟩] scope pos) 0 (.ref s₁.heap.objs.size) acc { cenv with scope := relabel scope env }) (compPost (model prog w) A E none Q acc cenv.locals) s₄) E s₃) E { s₁ with heap := s₁.heap.push o } := by
   intro o ty W st
   refine block_T (S := fun _ => True) (Fin := FinE h₀ L m { s₁ with heap := s₁.heap.push o } Q) W hsz (fun i h st => by obtain ⟨o, e, _⟩ := st; exact ⟨o, e⟩) (fun i h h' o nw st e e' _ _ _ => by obtain ⟨o2, e2, r⟩ := st; rw [e] at e2; cases e2; exact ⟨o, e', r⟩) hcell hkind hx st (fun b hb => ?_)
     (F.push _) (N.grown fun _ _ e => Heap.get?_push_of_some _ e) (Nat.ne_of_lt F.ns.lt) (next_is_new F) (fun p hp => Nat.ne_of_lt (Heap.lt_size (N p hp).1)) trivial (R _ ⟨_, rfl⟩) ?_
   . rw [List.mem_singleton.mp hb]
     show s₁.heap.objs.size < (s₁.heap.push _).objs.size
     rw [Heap.size_push]; exact Nat.lt_succ_self _
   . intro D C h tk m' ys news' F' N' o1 hn hC₀ hD₀ hCL hDL hCD offC fin
     refine ⟨m', hn, fun h'' hs'' => fin D h'' tk (F'.change hs'' hCL hC₀) (fun p hp => ?_) o1⟩
     refine ⟨hs''.extBut _ _ ?_ (N' p hp).1, (N' p hp).2⟩
     rcases List.mem_cons.mp hp with rfl | hp
     . exact Ne.symm hCD
     . exact offC p hp
 cases ha : txt.cps.all (· < 128)
 . exact wpAny_pyIter_wide ha (main _ _ (Walks.strWide hh _ txt t) ⟨_, Heap.get?_push_size _ rfl, rfl, rfl⟩)
 . exact wpAny_pyIter_ascii ha (main _ _ (Walks.strAscii hh _ txt t) ⟨_, Heap.get?_push_size _ rfl, rfl, rfl⟩)
noncomputable def Mark2 : Prop := True
theorem strTurns {ct elt : Expr} {x : Str} {scope : Scope} {cl : List (Str × Addr)} {Fin : List Value -> List (Addr × Obj) -> Prop} {news : List (Addr × Obj)} {txt : Str} (P : Nat -> Bool) (f : Nat -> Str)
   (turn : ∀ (c : Nat) (t : Tok) ys I oI C oC D m₂ h tk (E' : Value -> Shared -> Prop), c ∈ txt.cps.toList -> NsObj oC m₂ -> m₂ x = some (.str ⟨#[c]⟩ t) -> Fr h₀ L h m -> News h₀ L h ((I, oI) :: (C, oC) :: (D, lst ys) :: news) -> Off3 I C D news -> ((@Ne Nat I C) /\ (@Ne Nat I D) /\ (@Ne Nat C D)) ->
     wpAny (model prog w) A (isTrue ct (compEnvC scope cl C env) (eval ct (compEnvC scope cl C env))) (fun ok s' => if ok = true then
       wpAny (model prog w) A (eval elt (compEnvC scope cl C env)) (TurnEnd h₀ L m { s with heap := h, toks := tk } ((I, oI) :: (C, oC) :: (D, lst ys) :: news) (fun y => P c = true /\ ∃ t', y = .str (f c) t')) E' s'
       else TurnEnd h₀ L m { s with heap := h, toks := tk } ((I, oI) :: (C, oC) :: (D, lst ys) :: news) (fun _ => P c = false) Value.none s') E' { s with heap := h, toks := tk })
   (fin : Mark2 -> ∀ ys, StrsAre ys ((txt.cps.toList.filter P).map f) -> Fin ys news) : CompRestT prog w A h₀ L m env ct elt x scope cl s (fun _ => True) (SignAt txt) Fin txt.cps.size 0 [] news := by
 have key : ∀ (post pre : List Nat) (ys : List Value), txt.cps.toList = pre ++ post -> StrsAre ys ((pre.filter P).map f) -> CompRestT prog w A h₀ L m env ct elt x scope cl s (fun _ => True) (SignAt txt) Fin post.length pre.length ys news := by
   intro post
   induction post with
   | nil => intro pre ys e hJ; exact fin trivial ys (by rw [e, List.append_nil]; exact hJ)
   | cons u post ih =>
     intro pre ys e hJ v I oI C oC D m₂ h tk E' hP hO hx F N off hne
     obtain ⟨c, t, hc, rfl⟩ := hP
     have hc' : txt.cps.toList[pre.length]? = some c := by simpa using hc
     rw [e, List.getElem?_append_right (Nat.le_refl _), Nat.sub_self] at hc'
     obtain rfl : u = c := Option.some.inj hc'
     have ih' := fun ys' hJ' => ih (pre ++ [u]) ys' (by rw [e]; simp) hJ'
     rw [List.length_append, List.length_singleton] at ih'
     refine wpAny_mono (turn u t ys I oI C oC D m₂ h tk E' (by rw [e]; simp) hO hx F N off hne) (fun ok s' q => ?_) fun _ _ e => e
     cases ok with
     | true =>
       rw [if_pos rfl] at q ⊢
       refine wpAny_mono q (fun y s'' z => ?_) fun _ _ e => e
       (revert z; refine xq2 fun h' tk' => ?_; refine aq2 fun eQ => ?_; subst eQ; refine aq4 fun F' N' hp => ?_; refine xq1 fun t' => ?_; rintro rfl)
       refine CompEnd.intro F' N' news (fun p hp => hp) off trivial (ih' _ ?_)
       rw [List.filter_append, List.map_append]
       simp only [List.filter_cons, hp, if_true, List.filter_nil, List.map_cons, List.map_nil]
       exact StrsAre.append' hJ (.cons _ _ .nil)
     | false =>
       rw [if_neg (by decide)] at q ⊢
       (revert q; refine xq2 fun h' tk' => ?_; refine aq2 fun eQ => ?_; subst eQ; refine aq3 fun F' N' => ?_; intro hp)
       refine CompEnd.intro F' N' news (fun p hp => hp) off trivial (ih' _ ?_)
       rw [List.filter_append, List.map_append]
       simp only [List.filter_cons, hp, Bool.false_eq_true, if_false, List.filter_nil, List.map_nil, List.append_nil]
       exact hJ
 have := key txt.cps.toList [] [] rfl .nil
 simpa using this
end
theorem plain_dul : plainId "dict.update.loop" = true := by decide +kernel
theorem entry_dul : entryFor table "dict.update.loop" = some Builtin.«dict.update.loop» := entryFor_of_fast (by kernel_rfl)
theorem list_no_keys : typeLookup (.type "list") "keys" = pure none := by rw [typeLookup_type, builtinLookup_eq_fast]; kernel_rfl
section
variable {prog : Program} {w : World} {A : Around} {E : Value -> Shared -> Prop} {s : Shared}
theorem keys_miss {a : Addr} {xs : Array Value} {k : Nat} {Q : Option Value -> Shared -> Prop} (hx : s.heap.get? a = some (W.listOf xs k)) (hA : A.handled = none)
   (h : ∀ h' tk, (∀ b o, s.heap.get? b = some o -> h'.get? b = some o) -> Q none { s with heap := h', toks := tk }) : wpAny (model prog w) A (getAttr? (.ref a) "keys") Q E s := by
 obtain ⟨hp, g, d, tk, os⟩ := s
 have hT : ∀ tk', (⟨hp, g, d, tk', os⟩ : Shared).TypeIs (.ref a) "list" := fun _ => ⟨_, hx, rfl⟩
 have f1 := sub_AttributeError
 have f3 := F.slot_list_getattribute.lookup
 have f4 := F.slot_list_getattribute.bind (.ref a)
 have f5 := am_list_getattr_none
 unfold getAttr? getAttrBy? getAttrBy
 repeat (any_goals (first | assumption | exact hT _ | ((with_reducible show wpAny _ _ (call (Value.builtin "list.__getattribute__") _ _) _ _ _); refine call_meets F.slot_list_getattribute (hT _) am_entry_list_getattribute (F.args_list_getattribute_2 _ _) (meets_getattribute_miss_list a xs k #[] (Str.ofString "keys") _ list_no_keys (by decide +kernel) (by decide +kernel)) ⟨hx, hA, fun h' tk' e hx' => ?_⟩) | wp_step))
 obtain ⟨t', u', he⟩ := hx'.there
 have hkp := hx'.keeps
 show wpAny _ _ (getattributeRaised _ _ _ _ _ _ _) _ _ _
 unfold getattributeRaised
 repeat (any_goals (first | assumption | wp_step))
 exact h _ _ hkp
end
theorem valueAt_map {kvs : List (Str × Value)} {k z : Str} {v : Value} : valueAt (kvs.map (fun kv => if kv.1 = k then (kv.1, v) else kv)) z = if k = z then (if kvs.any (fun kv => kv.1 = k) then some v else none) else valueAt kvs z := by
 induction kvs with
 | nil => by_cases h : k = z <;> simp [valueAt, h]
 | cons q r ih =>
   obtain ⟨a, b⟩ := q
   unfold valueAt at ih ⊢
   rw [List.map_cons, List.find?_cons, List.find?_cons]
   by_cases h : k = z
   . subst h
     by_cases h2 : a = k
     . simp [h2]
     . simp only [h2, if_false, decide_false, if_true] at ih ⊢
       rw [ih, List.any_cons, decide_eq_false h2, Bool.false_or]
   . by_cases h2 : a = k
     . subst h2
       simp only [h, if_true, if_false, decide_false] at ih ⊢
       exact ih
     . by_cases h3 : a = z
       . subst h3
         simp [h, h2, Ne.symm h]
       . simp only [h, h2, h3, if_false, decide_false] at ih ⊢
         exact ih
theorem valueAt_stored {kvs : List (Str × Value)} {k z : Str} {v : Value} : valueAt (stored kvs k v) z = if k = z then some v else valueAt kvs z := by
 unfold stored
 by_cases h : kvs.any (fun kv => kv.1 = k) = true
 . rw [if_pos h, valueAt_map, if_pos h]
 . rw [if_neg h]
   unfold valueAt
   rw [List.find?_append]
   by_cases h2 : k = z
   . subst h2
     have : kvs.find? (fun kv => decide (kv.1 = k)) = none := by
       rw [List.find?_eq_none]
       intro q hq
       simp only [List.any_eq_true, not_exists, not_and] at h
       exact h q hq
     rw [this]; simp
   . cases e : kvs.find? (fun kv => decide (kv.1 = z)) with
     | none => simp [h2]
     | some q => simp [h2]
noncomputable def DInv (kvs : List (Str × Value)) (done : List (Str × Str)) : Prop := ∀ z, z ∈ done.map (·.1) -> ∃ v t, valueAt kvs z = some (.str v t) /\ (z, v) ∈ done
theorem DInv.snoc {kvs : List (Str × Value)} {done : List (Str × Str)} (h : DInv kvs done) (k v : Str) (t : Tok) : DInv (stored kvs k (.str v t)) (done ++ [(k, v)]) := by
 intro z hz
 rw [valueAt_stored]
 by_cases e : k = z
 . subst e
   exact ⟨v, t, if_pos rfl, by simp⟩
 . rw [if_neg e]
   rw [List.map_append, List.mem_append] at hz
   rcases hz with hz | hz
   . obtain ⟨v', t', a, b⟩ := h z hz
     exact ⟨v', t', a, List.mem_append_left _ b⟩
   . simp only [List.map_cons, List.map_nil, List.mem_singleton] at hz
     exact absurd hz.symm e
section
variable {w : World} {A : Around}
theorem dul_loop {R : Result -> Shared -> Prop} {I D d : Addr} {zs : List Value} {all : List (Str × Str)} (hh : A.handled = none) (hID : D ≠ I) (hId : d ≠ I) (hDd : d ≠ D) (hsz : all.length <= sizeLine) :
   ∀ (post : List Value) (pre : List Value) (s : Shared) (kvs : List (Str × Value)) (ip dp : List (Str × Str)), zs = pre ++ post -> all = dp ++ ip -> dp.length = pre.length -> HIt s.heap post ip -> (∀ a ∈ post, a ≠ .ref I /\ a ≠ .ref d) -> s.heap.DictOf (sk w) d kvs -> kvs.length <= dp.length -> DInv kvs dp -> s.heap.IsListIter I D pre.length -> s.heap.IsList D zs.toArray ->
   (∀ h' tk kvs', h'.DictOf (sk w) d kvs' -> DInv kvs' all -> (∀ b o, b ≠ I -> b ≠ d -> s.heap.get? b = some o -> h'.get? b = some o) -> R (.ok (.ret .none)) { s with heap := h', toks := tk }) ->
   codeAny (model pw_sr0088_01 w) A (.builtin "dict.update.loop" ⟨[.ref d, .ref I, rawInt pre.length, .none], []⟩) R s := by
 intro post
 induction post with
 | nil =>
   intro pre s kvs ip dp e e2 e3 hI hne hd hk hD hit hl hR
   cases hI
   rw [List.append_nil] at e e2
   subst e e2
   have W := Walks.list (prog := pw_sr0088_01) (w := w) (A := A.in1) hh I D hID zs.toArray
   refine codeAny_builtin entry_dul ?_
   rw [Around.under_plainId plain_dul _]
   show wpAny _ A.in1 (pyNext (.ref I) >>= _) _ _ s
   refine wpAny_bind (W.done s _ _ (by simpa using ⟨hit, hl⟩) fun h' tk hk' => ?_)
   show wpAny _ A.in1 (Builtin.Dict.addKeywords d [] >>= _) _ _ _
   refine wpAny_bind (wpAny_pure (wpAny_pure (hR h' tk kvs (by (revert hd; refine xq3 fun o es ep => ?_; refine aq2 fun ho => ?_; intro r); exact ⟨o, es, ep, hk' _ _ (by simpa using hId) ho, r⟩) hD fun b o h1 h2 e => hk' b o (by simpa using h1) e)))
 | cons v post ih =>
   intro pre s kvs ip dp e e2 e3 hI hne hd hk hD hit hl hR
   cases hI with
   | @cons T k x t1 t2 _ its hT hr =>
   have W := Walks.list (prog := pw_sr0088_01) (w := w) (A := A.in1) hh I D hID zs.toArray
   have hlt : pre.length < zs.toArray.size := by rw [e]; simp
   refine codeAny_builtin entry_dul ?_
   rw [Around.under_plainId plain_dul _]
   show wpAny _ A.in1 (pyNext (.ref I) >>= _) _ _ s
   refine wpAny_bind (W.item pre.length s _ _ hlt ⟨hit, hl⟩ fun v' h' tk hP hst' hk' => ?_)
   have hv : v' = .ref T := by
     have hP' : zs[pre.length]? = some v' := by simpa using hP
     rw [e, List.getElem?_append_right (Nat.le_refl _), Nat.sub_self] at hP'
     exact (Option.some.inj hP').symm
   subst hv
   have hTI : T ≠ I := fun q => (hne (.ref T) (.head _)).1 (by rw [q])
   have hTd : T ≠ d := fun q => (hne (.ref T) (.head _)).2 (by rw [q])
   (revert hT; refine xq1 fun oT => ?_; refine aq3 fun gT cT => ?_; refine xq1 fun nT => ?_; intro dT)
   have gT' : h'.get? T = some oT := hk' _ _ (by simpa using hTI) gT
   show wpAny _ A.in1 (holding [Value.ref T] _ >>= _) _ _ _
   refine wpAny_bind (wpAny_holding ?_)
   refine wpAny_bind (wpAny_tryCatch ?_)
   unfold Builtin.Dict.pairItems
   refine wpAny_bind (wpAny_typeOf (T := "tuple") ⟨oT, gT', cT⟩ ?_)
   rw [if_pos (by decide)]
   refine wpAny_bind (wpAny_seqItems gT' dT (wpAny_pure ?_))
   show wpAny _ A.in1 (holding [Value.str k t1, Value.str x t2] (dictSet d (Value.str k t1) (Value.str x t2))) _ _ _
   refine wpAny_holding ?_
   have hd' : h'.DictOf (sk w) d kvs := by (revert hd; refine xq3 fun o es ep => ?_; refine aq2 fun ho => ?_; intro r); exact ⟨o, es, ep, hk' _ _ (by simpa using hId) ho, r⟩
   refine wpAny_dictSet_pairs (s := { s with heap := h', toks := tk }) (strKind_is _ w k t1) hd' (fun h₂ hd₂ hs₂ => ?_) (by have := congrArg List.length e2; rw [List.length_append] at this; lia)
   have up : ∀ b o, b ≠ I -> b ≠ d -> s.heap.get? b = some o -> h₂.get? b = some o := fun b o h1 h2 e => hs₂.extBut b o h2 (hk' b o (by simpa using h1) e)
   refine wpAny_pure ⟨plainId_quiet plain_dul _, ?_⟩
   have hpl : ((pre.length : Int) + 1) = ((pre ++ [Value.ref T]).length : Int) := by rw [List.length_append]; simp
   rw [hpl]
   refine ih (pre ++ [.ref T]) { s with heap := h₂, toks := tk + 1 } (stored kvs k (.str x t2)) its (dp ++ [(k, x)]) (by rw [e]; simp) (by rw [e2]; simp) (by simp [e3]) ?_ (fun a ha => hne a (.tail _ ha)) hd₂ (by have := stored_length_le kvs k (Value.str x t2); rw [List.length_append, List.length_singleton]; lia) (hD.snoc k x t2) ?_ ?_ ?_
   . clear ih e
     have : ∀ {vs : List Value} {is : List (Str × Str)}, HIt s.heap vs is -> (∀ a ∈ vs, a ≠ .ref I /\ a ≠ .ref d) -> HIt h₂ vs is := by
       intro vs is H
       induction H with
       | nil => intro _; exact .nil
       | @cons a k v t1 t2 vs its hx hr ih =>
         intro hn
         obtain ⟨o, g, r⟩ := hx
         exact .cons ⟨o, up _ _ (fun q => (hn (.ref a) (.head _)).1 (by rw [q])) (fun q => (hn (.ref a) (.head _)).2 (by rw [q])) g, r⟩ (ih fun b hb => hn b (.tail _ hb))
     exact this hr fun a ha => hne a (.tail _ ha)
   . obtain ⟨o, g, r⟩ := hst'.1
     exact ⟨o, hs₂.extBut _ _ (Ne.symm hId) g, by simpa using r⟩
   . obtain ⟨o, g, r⟩ := hst'.2
     exact ⟨o, hs₂.extBut _ _ (Ne.symm hDd) g, r⟩
   . intro h₃ tk₃ kvs₃ a b c
     exact hR h₃ tk₃ kvs₃ a b fun b' o h1 h2 e => c b' o h1 h2 (up b' o h1 h2 e)
theorem dict_pairs {E : Value -> Shared -> Prop} {s : Shared} {h₀ : Heap} {L D : Addr} {m : Str -> Option Value} {news : List (Addr × Obj)} {zs : List Value} {its : List (Str × Str)} {n : Nat} {Q : Value -> Shared -> Prop} (hh : A.handled = none)
   (F : Fr h₀ L s.heap m) (N : News h₀ L s.heap news) (hD : (D, W.listOf zs.toArray n) ∈ news) (hI : HIt s.heap zs its) (hsz : its.length <= sizeLine)
   (k : ∀ h' tk d kvs, Fr h₀ L h' m -> News h₀ L h' news -> (∀ p ∈ news, p.1 ≠ d) -> h'.DictOf (sk w) d kvs -> DInv kvs its -> Q (.ref d) { s with heap := h', toks := tk }) :
   wpAny (model pw_sr0088_01 w) A (call (.type "dict") [.ref D]) Q E s := by
 refine callType_codes (Q₁ := fun obj s₁ => obj = .ref s.heap.objs.size /\ s₁ = { s with heap := s.heap.push { cls := .type "dict", data := .dict #[] } }) PySem.F.kt_called_dict (PySem.F.kt_typeCall_dict_1 _) PySem.F.entry_dict_init (kt_code_dict_new _ ⟨rfl, rfl⟩) ?_
 rintro obj s₁ ⟨rfl, rfl⟩
 have hnew : (s.heap.push { cls := .type "dict", data := .dict #[] }).DictOf (sk w) s.heap.objs.size [] := Heap.DictOf.new s.heap
 have up1 : ∀ b o, s.heap.get? b = some o -> (s.heap.push { cls := .type "dict", data := .dict #[] }).get? b = some o := fun b o e => Heap.get?_push_of_some _ e
 have gD := up1 _ _ (N _ hD).1
 have hlD : (s.heap.push { cls := .type "dict", data := .dict #[] }).IsList D zs.toArray := ⟨_, gD, rfl, _, rfl⟩
 have ltD : D < s.heap.objs.size := Heap.lt_size (N _ hD).1
 refine ⟨hnew.typeIs, PySem.F.args_dict_init_2 _ _, ?_⟩
 unfold Builtin.«dict.__init__»
 refine wpAny_bind ?_
 unfold Builtin.Dict.selfAndRest
 refine wpAny_bind (wpAny_notOrdered_dict hnew.typeIs ?_)
 show wpAny _ _ (pure (s.heap.objs.size, [Value.ref D])) _ _ _
 refine wpAny_pure ?_
 show wpAny _ _ (Builtin.Dict.updateFrom "dict.__init__" s.heap.objs.size (.ref D) [] .none) _ _ _
 unfold Builtin.Dict.updateFrom
 refine wpAny_bind (wpAny_typeOf (T := "list") ⟨_, gD, rfl⟩ ?_)
 rw [if_pos (by decide)]
 refine wpAny_bind (keys_miss gD hh fun h₂ tk₂ up2 => ?_)
 rw [if_pos (by rfl)]
 refine wpAny_bind (wpAny_rule ?_)
 refine wpAny_bind ?_
 have hlD2 : h₂.IsList D zs.toArray := ⟨_, up2 _ _ gD, rfl, _, rfl⟩
 refine wpAny_pyIter_list hlD2 ?_
 have ltd : s.heap.objs.size < h₂.objs.size := Heap.lt_size (up2 _ _ (Heap.get?_push_size s.heap rfl))
 have ltI : D < h₂.objs.size := Nat.lt_trans ltD ltd
 have up3 : ∀ b o, h₂.get? b = some o -> (h₂.push { cls := .type "list_iterator", data := .fields #[.ref D, .int 0 0] }).get? b = some o := fun b o e => Heap.get?_push_of_some _ e
 have upA : ∀ b o, s.heap.get? b = some o -> (h₂.push { cls := .type "list_iterator", data := .fields #[.ref D, .int 0 0] }).get? b = some o := fun b o e => up3 _ _ (up2 _ _ (up1 _ _ e))
 refine wpAny_pure ⟨plainId_quiet plain_dul _, ?_⟩
 have key := dul_loop (w := w) (A := A.in1) (R := wants (fun r s₂ => r = .none /\ Q (.ref s.heap.objs.size) s₂) E) (I := h₂.objs.size) (D := D) (d := s.heap.objs.size) (zs := zs) (all := its) hh (Nat.ne_of_lt ltI) (Nat.ne_of_lt ltd) (Ne.symm (Nat.ne_of_lt ltD)) hsz zs [] { s with heap := h₂.push { cls := .type "list_iterator", data := .fields #[.ref D, .int 0 0] }, toks := tk₂ } [] its [] rfl rfl rfl
   (hI.keep fun a items T => T.keeps upA) ?_ (by (revert hnew; refine xq3 fun o es ep => ?_; refine aq2 fun ho => ?_; intro r); exact ⟨o, es, ep, up3 _ _ (up2 _ _ ho), r⟩) (Nat.le_refl _) (fun z hz => nomatch hz) ⟨_, Heap.get?_push_size _ rfl, rfl, rfl⟩ (hlD2.push _) ?_
 . exact key
 . have : ∀ {vs : List Value} {is : List (Str × Str)}, HIt s.heap vs is -> ∀ a ∈ vs, a ≠ .ref h₂.objs.size /\ a ≠ .ref s.heap.objs.size := by
     intro vs is H
     induction H with
     | nil => intro a ha; cases ha
     | @cons a k v t1 t2 vs its hx hr ih =>
       intro b hb
       rcases List.mem_cons.mp hb with rfl | hb
       . obtain ⟨o, g, r⟩ := hx
         have h1 := Heap.lt_size g
         exact ⟨fun q => by injection q with q; exact absurd h1 (by rw [q]; exact Nat.not_lt.mpr (Nat.le_of_lt ltd)), fun q => by injection q with q; exact absurd h1 (by rw [q]; exact Nat.lt_irrefl _)⟩
       . exact ih b hb
   exact this hI
 . intro h₄ tk₄ kvs₄ hd₄ hinv up4
   have upB : ∀ b o, s.heap.get? b = some o -> h₄.get? b = some o := fun b o e => up4 b o (Nat.ne_of_lt (Nat.lt_trans (Heap.lt_size e) ltd)) (Nat.ne_of_lt (Heap.lt_size e)) (upA b o e)
   exact ⟨rfl, k h₄ tk₄ _ kvs₄ (F.keeps upB) (N.grown upB) (fun p hp => Nat.ne_of_lt (Heap.lt_size (N p hp).1)) hd₄ hinv⟩
end
noncomputable def forBody : Stmt -> List Stmt
 | .For _ _ b _ _ => b
 | _ => []
theorem execs_app (b : List Stmt) (env : Env) : ∀ a : List Stmt, execs (a ++ b) env = (execs a env >>= fun f => match f with | .next => execs b env | f => pure f)
 | [] => rfl
 | st :: a => by
   rw [List.cons_append, execs_cons, execs_cons, execs_app b env a, LawfulMonad.bind_assoc]
   congr 1
   funext f
   cases f <;> rfl
theorem execs_split {M : Model} {A : Around} {E : Value -> Shared -> Prop} {env : Env} {Q : Flow -> Shared -> Prop} {a b : List Stmt} {s : Shared} (h : wpAny M A (execs a env) (fun f s' => match f with | .next => wpAny M A (execs b env) Q E s' | f => Q f s') E s) : wpAny M A (execs (a ++ b) env) Q E s := by
 rw [execs_app]
 refine wpAny_bind (wpAny_mono h (fun f s' q => ?_) fun _ _ e => e)
 cases f with
 | next => exact q
 | ret v => exact wpAny_pure q
 | brk => exact wpAny_pure q
 | cont => exact wpAny_pure q
inductive RdsL (w : World) (nx : List (Addr × Obj)) : List Value -> List Str -> Prop
 | nil : RdsL w nx [] []
 | cons {rd sd : Addr} {t1 t2 t3 : Tok} {o : Obj} {kvs : List (Str × Value)} {want : Str} {vs : List Value} {ws : List Str} : (rd, rdTup want sd t1 t2 t3) ∈ nx -> (sd, o) ∈ nx -> o.IsDictOf (sk w) kvs -> PyProof.V.FlatPairs PyData.str kvs (kdpD (stepsOf want)) -> (sd == sysModules) = false -> RdsL w nx vs ws -> RdsL w nx (.ref rd :: vs) (want :: ws)
theorem RdsL.mono {w : World} {n1 n2 : List (Addr × Obj)} (h : ∀ p ∈ n1, p ∈ n2) : ∀ {vs : List Value} {ws : List Str}, RdsL w n1 vs ws -> RdsL w n2 vs ws
 | _, _, .nil => .nil
 | _, _, .cons a b c d e r => .cons (h _ a) (h _ b) c d e (r.mono h)
theorem RdsL.append {w : World} {nx : List (Addr × Obj)} {b : List Value} {j : List Str} (y : RdsL w nx b j) : ∀ {a : List Value} {i : List Str}, RdsL w nx a i -> RdsL w nx (a ++ b) (i ++ j)
 | _, _, .nil => y
 | _, _, .cons x1 x2 x3 x4 x5 r => .cons x1 x2 x3 x4 x5 (RdsL.append y r)
theorem RdsL.len {w : World} {nx : List (Addr × Obj)} : ∀ {vs : List Value} {ws : List Str}, RdsL w nx vs ws -> vs.length = ws.length
 | _, _, .nil => rfl
 | _, _, .cons _ _ _ _ _ r => by simp [r.len]
theorem RdsL.at {w : World} {nx : List (Addr × Obj)} : ∀ {vs : List Value} {ws : List Str} {i : Nat} {v : Value}, RdsL w nx vs ws -> vs[i]? = some v -> ∃ rd sd t1 t2 t3 o kvs want, v = .ref rd /\ ws[i]? = some want /\ (rd, rdTup want sd t1 t2 t3) ∈ nx /\ (sd, o) ∈ nx /\ o.IsDictOf (sk w) kvs /\ PyProof.V.FlatPairs PyData.str kvs (kdpD (stepsOf want)) /\ (sd == sysModules) = false
 | _, _, 0, _, .cons a b c d e r, h => ⟨_, _, _, _, _, _, _, _, (Option.some.inj h).symm, rfl, a, b, c, d, e⟩
 | _, _, i + 1, _, .cons a b c d e r, h => by
   have := RdsL.at (i := i) r (by simpa using h)
   simpa using this
theorem rd_ne_sd {w : World} {h h' : Heap} {rd sd : Addr} {want : Str} {t1 t2 t3 : Tok} {o : Obj} {kvs : List (Str × Value)} (fr : Fresh h h' [(rd, rdTup want sd t1 t2 t3), (sd, o)]) (ho : o.IsDictOf (sk w) kvs) : @Ne Nat rd sd := by
 intro e
 have h1 := (fr _ (.head _)).1
 have h2 := (fr _ (.tail _ (.head _))).1
 dsimp only at h1 h2
 have e' : rd = sd := e
 rw [e', h2] at h1
 (revert ho; refine xq2 fun es ep => ?_; refine aq3 fun _ hc => ?_; intro _)
 rw [Option.some.inj h1] at hc
 cases hc
noncomputable def smpT (z : Str) : Str := if (samplesOf z).length <= 64 then samplesOf z else ⟨#[]⟩
theorem smpT_len (z : Str) : (smpT z).length <= 64 := by
 unfold smpT
 split
 . assumption
 . exact Nat.zero_le _
noncomputable def mapZ (c : Nat) : Str := match b3get c with
 | some (.str x _) => x
 | _ => Txt.lower ⟨#[c]⟩
noncomputable def shownZ (i : Nat) (nm : Str) : Str := [nm, Txt.upper nm].getD ((i : Int).fmod 2).toNat ⟨#[]⟩
theorem fm2 (i : Nat) : 0 <= (i : Int).fmod 2 /\ (i : Int).fmod 2 < 2 := fm i 2 (by decide)
noncomputable abbrev readyZ (n : Int) : Str := headZ n ++ markZ n ++ wantZ n
theorem strs_none {us : List Value} {l : List Nat} {f : Nat -> Str} (h : StrsAre us ((l.filter (fun _ => false)).map f)) : StrsAre us [] := by
 have e : l.filter (fun _ => false) = [] := by rw [List.filter_eq_nil_iff]; intro a _; decide
 rw [e] at h; exact h
noncomputable def LocM (xt xe : Addr) (bl m : Str -> Option Value) : Prop := m "table" = some (.ref xt) /\ m "every" = some (.ref xe) /\ ∀ y : Str, y ≠ "n" -> y ≠ "spelled" -> y ≠ "head" -> y ≠ "mark" -> y ≠ "name" -> y ≠ "want" -> y ≠ "ready" -> y ≠ "bare" -> y ≠ "shown" -> y ≠ "table" -> y ≠ "every" -> m y = bl y
theorem LocM.form {xt xe : Addr} {bl m : Str -> Option Value} (h : LocM xt xe bl m) : m = fun (y : Str) => if y = "n" then m "n" else if y = "spelled" then m y else if y = "head" then m y else if y = "mark" then m y else if y = "name" then m "name" else if y = "want" then m "want" else if y = "ready" then m y else if y = "bare" then m y else if y = "shown" then m "shown" else if y = "table" then some (.ref xt) else if y = "every" then some (.ref xe) else bl y := by
 obtain ⟨h1, h2, h3⟩ := h
 funext y
 by_cases e0 : y = "n"
 . rw [if_pos e0, e0]
 rw [if_neg e0]
 by_cases e1 : y = "spelled"
 . rw [if_pos e1]
 rw [if_neg e1]
 by_cases e2 : y = "head"
 . rw [if_pos e2]
 rw [if_neg e2]
 by_cases e3 : y = "mark"
 . rw [if_pos e3]
 rw [if_neg e3]
 by_cases e4 : y = "name"
 . rw [if_pos e4, e4]
 rw [if_neg e4]
 by_cases e5 : y = "want"
 . rw [if_pos e5, e5]
 rw [if_neg e5]
 by_cases e6 : y = "ready"
 . rw [if_pos e6]
 rw [if_neg e6]
 by_cases e7 : y = "bare"
 . rw [if_pos e7]
 rw [if_neg e7]
 by_cases e8 : y = "shown"
 . rw [if_pos e8, e8]
 rw [if_neg e8]
 by_cases e9 : y = "table"
 . rw [if_pos e9, e9, h1]
 rw [if_neg e9]
 by_cases e10 : y = "every"
 . rw [if_pos e10, e10, h2]
 rw [if_neg e10]
 exact h3 y e0 e1 e2 e3 e4 e5 e6 e7 e8 e9 e10
section
variable {prog : Program} {w : World} {A : Around} {E : Value -> Shared -> Prop} {s : Shared}
theorem join_strs {h₀ : Heap} {L D : Addr} {news : List (Addr × Obj)} {cs : List Str} {us : List Value} {x : Str} {t : Tok} {Q : Value -> Shared -> Prop} (N : News h₀ L s.heap news) (hm : (D, PyProof.Rows.LCg.lst us) ∈ news) (hj : StrsAre us cs) (hs : (cs.map (·.length)).sum <= 4096) (hx : x.length = 0)
   (h : ∀ (y : Str) (t : Tok) (k : Nat), y = Txt.join x cs -> y.length <= 4096 -> Q (.str y t) { s with toks := k }) : wpAny (model prog w) A (call (.builtin "str.join") [.str x t, .ref D]) Q E s := by
 obtain ⟨l, e1, e2⟩ := strsAre_values hj
 have hl : s.heap.IsList D (strValues l).toArray := by rw [<- e1]; exact ⟨_, (N _ hm).1, rfl, _, rfl⟩
 have hle := StrLaws.join_length_le x cs
 refine SC.join hl e2 (joinOk_of ?_) fun t' k => h _ t' k rfl ?_
 . rw [hx]; lia
 . rw [hx] at hle
   unfold Txt.join
   rw [StrLaws.glued_eq_join]
   lia
end
section
noncomputable abbrev turnAQ (w : World) (dp un : Nat) (gd : Option (List Code)) (outer : List Env) (A₀ : Around) (base : Heap) (L : Addr) (s : Shared) (p : Program) (loose : List Str) (mean : ExcName -> Option Value) (mg mb : Str -> Option Value) (E : Value -> Shared -> Prop) (g : Heap) (sl fa : Addr) (cdv : Value) (le xe dxe lt xt dxt lr lw ln : Addr) (toe tot : Tok) (ve vt vr vw vn : List Value) (ne nt nr nw nn : Nat) (q1 q2 q3 q4 q5 q6 q7 q8 : Obj) (R : List (Addr × Obj)) (n : Int) (tn : Tok) (ns : List Int) (om : Str -> Option Value) (on : Option Value) : Prop := ∀ {scope : Scope} {lb : List Stmt} (hlb : ((forBody ((fdB (stm pw_sr0088_01 22)).getD 2 (.Pass default))).drop 0).take 6 = lb) (hsc : fdS (stm pw_sr0088_01 22) = scope) (hE : PassesOwn (model pw_sr0088_01 w) (ktrTop dp un gd "law" scope L fa cdv (cellsFrom (L + 1) scope.names []) outer) (envOfC "law" scope L fa cdv) E) (C : Cx w dp un scope outer A₀ base g L (fun y => if y = "n" then some (.int n tn) else if y = "spelled" then om y else if y = "head" then om y else if y = "mark" then om y else if y = "name" then om y else if y = "want" then om y else if y = "ready" then om y else if y = "bare" then om y else if y = "shown" then om y else if y = "table" then some (.ref xt) else if y = "every" then some (.ref xe) else bindL (envOfC "law" scope L fa cdv).kindOf [("script", .ref sl)] (fun _ => none) y) s.heap p loose mean mg mb 40) (N : News g L s.heap ((le, W.listOf ve.toArray ne) :: (xe, instObj 182 dxe) :: (dxe, hdD w.params toe le) :: (lt, W.listOf vt.toArray nt) :: (xt, instObj 182 dxt) :: (dxt, hdD w.params tot lt) :: (lr, W.listOf vr.toArray nr) :: (lw, W.listOf vw.toArray nw) :: (ln, W.listOf vn.toArray nn) :: (L + 1 + 1 + 1 + 1 + 1 + 1 + 1 + 1, q8) :: (L + 1 + 1 + 1 + 1 + 1 + 1 + 1, q7) :: (L + 1 + 1 + 1 + 1 + 1 + 1, q6) :: (L + 1 + 1 + 1 + 1 + 1, q5) :: (L + 1 + 1 + 1 + 1, q4) :: (L + 1 + 1 + 1, q3) :: (L + 1 + 1, q2) :: (L + 1, q1) :: R)) (offR : OwnOff R [le, xe, dxe, lt, xt, dxt, lr, lw, ln, L + 1 + 1 + 1 + 1 + 1 + 1 + 1 + 1, L + 1 + 1 + 1 + 1 + 1 + 1 + 1, L + 1 + 1 + 1 + 1 + 1 + 1, L + 1 + 1 + 1 + 1 + 1, L + 1 + 1 + 1 + 1, L + 1 + 1 + 1, L + 1 + 1, L + 1]) (hord : (@LT.lt Nat _ (L + 1 + 1 + 1 + 1 + 1 + 1 + 1 + 1) ln) /\ (@LT.lt Nat _ ln lw) /\ (@LT.lt Nat _ lw lr) /\ (@LT.lt Nat _ lr dxt) /\ (@LT.lt Nat _ dxt xt) /\ (@LT.lt Nat _ xt lt) /\ (@LT.lt Nat _ lt dxe) /\ (@LT.lt Nat _ dxe xe) /\ (@LT.lt Nat _ xe le)) (h0 : 0 <= n) (h1 : n < 1000000) (hns : ns.length <= 5) (d1 : q1.data = Data.cell (some (Value.ref ln))) (v4 : Option Value) (d4 : q4.data = Data.cell v4) (hvn : StrsAre vn (ns.map nameZ)) (hb1 : ∀ c ∈ (spelledZ n).cps.toList, inB1 c = ((⟨#[c]⟩ : Str) == noZ n)) (hmp : ∀ c ∈ (spelledZ n).cps.toList, (∃ t', b3get c = some (.str (mapZ c) t')) \/ (b3get c = none /\ Txt.lower ⟨#[c]⟩ = mapZ c)) (hrdy : Txt.join "" (((spelledZ n).cps.toList.filter (fun c => !((⟨#[c]⟩ : Str) == noZ n))).map mapZ) = readyZ n) (hst1 : stripZ (readyZ n) = nameZ n) (hst2 : stripZ (headZ n) = nameZ n) (hl1 : (spelledZ n).length <= 64) (hl2 : ((((spelledZ n).cps.toList.filter (fun c => !((⟨#[c]⟩ : Str) == noZ n))).map mapZ).map (·.length)).sum <= 4096) (hl3 : (nameZ n).length <= 2) (hl4 : (headZ n).length <= 16) (hl5 : (markZ n).length <= 4) (hl6 : (wantZ n).length <= 12) (hl7 : (Txt.upper (nameZ n)).length <= 2), wpAny (model pw_sr0088_01 w) (ktrTop dp un gd "law" scope L fa cdv (cellsFrom (L + 1) scope.names []) outer) (execs lb (envOfC "law" scope L fa cdv)) (fun f s' => f = .next /\ ∃ (h' : Heap) (tk' : Nat) (m' : Str -> Option Value), s' = { s with heap := h', toks := tk' } /\ Fr g L h' m' /\ LocM xt xe (bindL (envOfC "law" scope L fa cdv).kindOf [("script", .ref sl)] (fun _ => none)) m' /\ (∃ q4' tsh tnm twt v4', q4'.data = Data.cell v4' /\ News g L h' ((le, W.listOf ve.toArray ne) :: (xe, instObj 182 dxe) :: (dxe, hdD w.params toe le) :: (lt, W.listOf vt.toArray nt) :: (xt, instObj 182 dxt) :: (dxt, hdD w.params tot lt) :: (lr, W.listOf vr.toArray nr) :: (lw, W.listOf vw.toArray nw) :: (ln, W.listOf vn.toArray nn) :: (L + 1 + 1 + 1 + 1 + 1 + 1 + 1 + 1, q8) :: (L + 1 + 1 + 1 + 1 + 1 + 1 + 1, q7) :: (L + 1 + 1 + 1 + 1 + 1 + 1, q6) :: (L + 1 + 1 + 1 + 1 + 1, q5) :: (L + 1 + 1 + 1 + 1, q4') :: (L + 1 + 1 + 1, q3) :: (L + 1 + 1, q2) :: (L + 1, q1) :: R) /\ m' "shown" = some (.str (shownZ ns.length (nameZ n)) tsh) /\ m' "name" = some (.str (nameZ n) tnm) /\ m' "want" = some (.str (wantZ n) twt))) E s
noncomputable def turnAS (x : LP) : Prop := turnAQ x.w x.dp x.un x.gd x.outer x.A₀ x.base x.L x.s x.p x.loose x.mean x.mg x.mb x.E x.g x.sl x.fa x.cdv x.le x.xe x.dxe x.lt x.xt x.dxt x.lr x.lw x.ln x.toe x.tot x.ve x.vt x.vr x.vw x.vn x.ne x.nt x.nr x.nw x.nn x.q1 x.q2 x.q3 x.q4 x.q5 x.q6 x.q7 x.q8 x.R x.n x.tn x.ns x.om x.on
@[irreducible] noncomputable def turnAC : LP := gen LPE turnAS
namespace turnAN
noncomputable section
 def p := turnAC.p
 def g := turnAC.g
 def n := turnAC.n
 def ns := turnAC.ns
end
theorem main : turnAQ turnAC.w turnAC.dp turnAC.un turnAC.gd turnAC.outer turnAC.A₀ turnAC.base turnAC.L turnAC.s p turnAC.loose turnAC.mean turnAC.mg turnAC.mb turnAC.E g turnAC.sl turnAC.fa turnAC.cdv turnAC.le turnAC.xe turnAC.dxe turnAC.lt turnAC.xt turnAC.dxt turnAC.lr turnAC.lw turnAC.ln turnAC.toe turnAC.tot turnAC.ve turnAC.vt turnAC.vr turnAC.vw turnAC.vn turnAC.ne turnAC.nt turnAC.nr turnAC.nw turnAC.nn turnAC.q1 turnAC.q2 turnAC.q3 turnAC.q4 turnAC.q5 turnAC.q6 turnAC.q7 turnAC.q8 turnAC.R n turnAC.tn ns turnAC.om turnAC.on := by
 intro scope lb hlb hsc
 conv at hlb => lhs; whnf
 conv at hsc => lhs; whnf
 subst hlb hsc
 intro hE C N offR hord h0 h1 hns d1 v4 d4 hvn hb1 hmp hrdy hst1 hst2 hl1 hl2 hl3 hl4 hl5 hl6 hl7
 obtain ⟨B', F', X', T', hk', hd', hu'⟩ := C
 (revert hord; refine aq9 fun r1 r2 r3 r4 r5 r6 r7 r8 => ?_; intro r9)
 (try dsimp only)
 (try k_fold)
 k_with "call ref" => ((rename Fr g _ _ _ => lF); (rename News g _ _ _ => lN); first
   | ((k_dflt refine' row_ok h0 h1 (Cx.le ⟨B', lF, X', T', hk', hd', hu'⟩ (by decide)) News.nil ?_); (intro h2 tk2 rt t1 t2 t3 t4 t5 t6 kk fr; have hr := freshNe lN fr; have hrA := freshNeA lN fr; (try simp only [AllNe] at hr); have lN2 := newsFresh lF lN kk fr; have lF2 := frKeep lF kk; (try simp only [List.cons_append, List.nil_append] at lN2); clear kk fr); k_whole)
   | ((k_dflt refine' in_ok (Cx.le ⟨B', lF, X', T', hk', hd', hu'⟩ (by decide)) ?_); (intro h2 tk2 kk; have lN2 := newsKeep lN kk; have lF2 := frKeep lF kk; clear kk); k_whole)
   | ((k_dflt refine' map_ok (hmp _ hc) (Cx.le ⟨B', lF, X', T', hk', hd', hu'⟩ (by decide)) ?_); (intro t' h2 tk2 kk; have lN2 := newsKeep lN kk; have lF2 := frKeep lF kk; clear kk); k_whole)
   | ((k_dflt refine' strip_ok (by lia) (Cx.le ⟨B', lF, X', T', hk', hd', hu'⟩ (by decide)) ?_); (intro r tr h2 tk2 er kk; (first | rw [hst1] at er | rw [hst2] at er); subst er; have lN2 := newsKeep lN kk; have lF2 := frKeep lF kk; clear kk); k_whole))
 k_with "eval ListComp" => (lct_look; lcg_calm; k_dflt (refine ListComp_TS (F₀ := by k_asm) (by with_unfolding_all rfl) (by decide) (by rfl) (by decide) (by rfl) ?_))
 k_with "SrcST" => ((rename Fr g _ _ _ => lF); (rename News g _ _ _ => lN); (first
   | ((fail_if_success (have hq : Mark2 := by assumption)); (k_dflt refine' SrcST.of ?ch lF lN ?cz (fun g2 => strTurns (fun _ => false) (fun c => ⟨#[c]⟩) (fun c t ys I oI C oC D m₂ h tk E' hc hO hx lF2 lN2 off hne => ?_) (fun hdone us1 hJ1 D1 h3 tk3 lF3 lN3 o1 => ?_))))
   | (k_dflt refine' SrcST.of ?ch lF lN ?cz (fun g2 => strTurns (fun c => !((⟨#[c]⟩ : Str) == noZ n)) mapZ (fun c t ys I oI C oC D m₂ h tk E' hc hO hx lF2 lN2 off hne => ?_) (fun hdone us2 hJ2 D2 h3 tk3 lF3 lN3 o2 => ?_)))); (case ch => with_unfolding_all rfl); (case cz => (rw [sizeLine_eq]; show (spelledZ n).length <= _; lia)); (all_goals (try simp only [PyProof.Rows.LCg.Off1, and_true] at o1)); (all_goals (try simp only [PyProof.Rows.LCg.Off1, and_true] at o2)); all_goals (try k_fold))
 k_with "compareOp NotEq ref ref" => ((rename News g _ _ _ => lN); (have hJe := strs_none hJ1); (k_dflt refine' ne_strsK ?e1 hJe ?e2 .nil (fun n hn => nomatch hn) (fun n hn => nomatch hn) ?eu ?_); (case e1 => k_dflt exact ⟨_, (lN (D1, _) (by k_dflt k_mem)).1, rfl, _, rfl⟩); (case e2 => k_dflt exact ⟨_, (lN _ (List.Mem.head _)).1, rfl, _, rfl⟩); (case eu => first | units_room | (show _ + 64 < cLine; lia)))
 k_with "call builtin:str.join" => ((rename News g _ _ _ => lN); (k_dflt refine' join_strs lN ?jm hJ2 hl2 (by decide) ?_); (case jm => k_dflt k_mem); (intro rdy trdy _ erdy hrl; (rw [hrdy] at erdy); subst erdy))
 k_with "call builtin:len" => ((rename News g _ _ _ => lN); (k_dflt refine' len_lst lN ?lm ?ll ?_); (case lm => k_dflt k_mem); (case ll => (have := hvn.length; rw [List.length_map] at this; lia)))
 k_with "subscriptTail" => ((rename News g _ _ _ => lN); ((k_dflt refine' item_strsN (cs := [nameZ n, Txt.upper (nameZ n)]) lN ?jm (.cons _ _ (.cons _ _ .nil)) (fm2 _).1 (fm2 _).2 (show 2 <= 8 by decide) ?jc ?_ ?ks)); (case jm => k_dflt k_mem); (case jc => (intro c hc; simp only [List.mem_cons, List.not_mem_nil, or_false] at hc; rcases hc with rfl | rfl <;> lia)); (case ks => with_unfolding_all rfl); (intro shw tsh esh hsh; (rw [hvn.length, List.length_map] at esh); (have esh2 : shw = shownZ ns.length (nameZ n) := esh); clear esh; subst esh2))
 k_steps
 k_with_none
 all_goals first
   | (have e := hb1 _ hc; (rename ((inB1 _ != _) = true) => ha); rw [e, bne_self_eq_false] at ha; cases ha)
   | ((rename Fr _ _ _ _ => lF3); (rename News _ _ _ _ => lN3); (refine TurnEnd.intro lF3 lN3 (fun p hp => hp) ?_); first | exact rfl | exact ⟨by assumption, _, rfl⟩ | assumption)
   | (with_unfolding_all refine wpAny_execs_nil ?_)
   | (exfalso; (rename ((_ != _) = true) => ha); rw [bne_self_eq_false] at ha; cases ha)
 rename Fr g _ _ _ => lF4
 rename News g _ _ _ => lN4
 refine ⟨rfl, _, _, _, rfl, lF4, ⟨by rfl, by rfl, fun y e0 e1 e2 e3 e4 e5 e6 e7 e8 e9 e10 => by simp only [e0, e1, e2, e3, e4, e5, e6, e7, e8, e9, e10, if_false]⟩, ?_⟩
 (rename Obj => qz); (rename qz.data = Data.cell _ => dz)
 refine ⟨qz, tsh, _, _, _, dz, fun p hp => lN4 p ?_, by rfl, by rfl, by rfl⟩
 repeat (first | (refine List.Mem.tail _ ?_; exact hp) | refine List.Mem.tail _ ?_)
end turnAN
theorem turnAH : turnAS (gen LPE turnAS) := by with_unfolding_all exact @turnAN.main
theorem turnA {w dp un gd outer A₀ base L s p loose mean mg mb E g sl fa cdv le xe dxe lt xt dxt lr lw ln toe tot ve vt vr vw vn ne nt nr nw nn q1 q2 q3 q4 q5 q6 q7 q8 R n tn ns om on} : turnAQ w dp un gd outer A₀ base L s p loose mean mg mb E g sl fa cdv le xe dxe lt xt dxt lr lw ln toe tot ve vt vr vw vn ne nt nr nw nn q1 q2 q3 q4 q5 q6 q7 q8 R n tn ns om on := @all_gen LP LPE turnAS @turnAH { lp0 with w, dp, un, gd, outer, A₀, base, L, s, p, loose, mean, mg, mb, E, g, sl, fa, cdv, le, xe, dxe, lt, xt, dxt, lr, lw, ln, toe, tot, ve, vt, vr, vw, vn, ne, nt, nr, nw, nn, q1, q2, q3, q4, q5, q6, q7, q8, R, n, tn, ns, om, on }
end
theorem news_sb {g h : Heap} {L : Addr} {l l' : List (Addr × Obj)} (N : News g L h l) (s : ∀ p ∈ l', p ∈ l) : News g L h l' := fun p hp => N p (s p hp)
theorem off_two {l R : List (Addr × Obj)} {rd sd : Addr} {o1 o2 : Obj} (h1 : ∀ p ∈ l ++ R, p.1 ≠ rd) (h2 : ∀ p ∈ l ++ R, p.1 ≠ sd) : OwnOff [(rd, o1), (sd, o2)] (l.map (·.1)) := by
 intro p hp b hb
 obtain ⟨q, hq, rfl⟩ := List.mem_map.mp hb
 rcases List.mem_cons.mp hp with rfl | hp
 . exact Ne.symm (h1 q (List.mem_append_left _ hq))
 . rw [List.mem_singleton.mp hp]; exact Ne.symm (h2 q (List.mem_append_left _ hq))
section
noncomputable abbrev turnBQ (w : World) (dp un : Nat) (gd : Option (List Code)) (outer : List Env) (A₀ : Around) (base : Heap) (L : Addr) (s : Shared) (p : Program) (loose : List Str) (mean : ExcName -> Option Value) (mg mb : Str -> Option Value) (E : Value -> Shared -> Prop) (g : Heap) (sl fa : Addr) (cdv : Value) (le xe dxe lt xt dxt lr lw ln : Addr) (toe tot : Tok) (ve vt vr vw vn : List Value) (ne nt nr nw nn : Nat) (q1 q2 q3 q4 q5 q6 q7 q8 : Obj) (R : List (Addr × Obj)) (n : Int) (tn : Tok) (ns : List Int) (om : Str -> Option Value) (on : Option Value) (sh : Str) (tsh tnm twt : Tok) : Prop := ∀ {scope : Scope} {lb : List Stmt} (hlb : ((forBody ((fdB (stm pw_sr0088_01 22)).getD 2 (.Pass default))).drop 6).take 3 = lb) (hsc : fdS (stm pw_sr0088_01 22) = scope) (hE : PassesOwn (model pw_sr0088_01 w) (ktrTop dp un gd "law" scope L fa cdv (cellsFrom (L + 1) scope.names []) outer) (envOfC "law" scope L fa cdv) E) (C : Cx w dp un scope outer A₀ base g L (fun y => if y = "n" then on else if y = "spelled" then om y else if y = "head" then om y else if y = "mark" then om y else if y = "name" then some (.str (nameZ n) tnm) else if y = "want" then some (.str (wantZ n) twt) else if y = "ready" then om y else if y = "bare" then om y else if y = "shown" then some (.str sh tsh) else if y = "table" then some (.ref xt) else if y = "every" then some (.ref xe) else bindL (envOfC "law" scope L fa cdv).kindOf [("script", .ref sl)] (fun _ => none) y) s.heap p loose mean mg mb 40) (N : News g L s.heap ((le, W.listOf ve.toArray ne) :: (xe, instObj 182 dxe) :: (dxe, hdD w.params toe le) :: (lt, W.listOf vt.toArray nt) :: (xt, instObj 182 dxt) :: (dxt, hdD w.params tot lt) :: (lr, W.listOf vr.toArray nr) :: (lw, W.listOf vw.toArray nw) :: (ln, W.listOf vn.toArray nn) :: (L + 1 + 1 + 1 + 1 + 1 + 1 + 1 + 1, q8) :: (L + 1 + 1 + 1 + 1 + 1 + 1 + 1, q7) :: (L + 1 + 1 + 1 + 1 + 1 + 1, q6) :: (L + 1 + 1 + 1 + 1 + 1, q5) :: (L + 1 + 1 + 1 + 1, q4) :: (L + 1 + 1 + 1, q3) :: (L + 1 + 1, q2) :: (L + 1, q1) :: R)) (offR : OwnOff R [le, xe, dxe, lt, xt, dxt, lr, lw, ln, L + 1 + 1 + 1 + 1 + 1 + 1 + 1 + 1, L + 1 + 1 + 1 + 1 + 1 + 1 + 1, L + 1 + 1 + 1 + 1 + 1 + 1, L + 1 + 1 + 1 + 1 + 1, L + 1 + 1 + 1 + 1, L + 1 + 1 + 1, L + 1 + 1, L + 1]) (hord : (@LT.lt Nat _ (L + 1 + 1 + 1 + 1 + 1 + 1 + 1 + 1) ln) /\ (@LT.lt Nat _ ln lw) /\ (@LT.lt Nat _ lw lr) /\ (@LT.lt Nat _ lr dxt) /\ (@LT.lt Nat _ dxt xt) /\ (@LT.lt Nat _ xt lt) /\ (@LT.lt Nat _ lt dxe) /\ (@LT.lt Nat _ dxe xe) /\ (@LT.lt Nat _ xe le)) (hns : ns.length <= 5) (d1 : q1.data = Data.cell (some (Value.ref ln))) (d2 : q2.data = Data.cell (some (Value.ref lw))) (d3 : q3.data = Data.cell (some (Value.ref lr))) (hvn : vn.length <= 5) (hvw : vw.length <= 5) (hvr : vr.length <= 5) (hl6 : (wantZ n).length <= 12), wpAny (model pw_sr0088_01 w) (ktrTop dp un gd "law" scope L fa cdv (cellsFrom (L + 1) scope.names []) outer) (execs lb (envOfC "law" scope L fa cdv)) (fun f s' => f = .next /\ ∃ (h' : Heap) (tk' : Nat) (m' : Str -> Option Value), s' = { s with heap := h', toks := tk' } /\ Fr g L h' m' /\ LocM xt xe (bindL (envOfC "law" scope L fa cdv).kindOf [("script", .ref sl)] (fun _ => none)) m' /\ (∃ rd sd tr1 tr2 tr3 od kvs, (∀ p ∈ R, p.1 ≠ rd /\ p.1 ≠ sd) /\ OwnOff [(rd, rdTup (wantZ n) sd tr1 tr2 tr3), (sd, od)] [le, xe, dxe, lt, xt, dxt, lr, lw, ln, L + 1 + 1 + 1 + 1 + 1 + 1 + 1 + 1, L + 1 + 1 + 1 + 1 + 1 + 1 + 1, L + 1 + 1 + 1 + 1 + 1 + 1, L + 1 + 1 + 1 + 1 + 1, L + 1 + 1 + 1 + 1, L + 1 + 1 + 1, L + 1 + 1, L + 1] /\ od.IsDictOf (sk w) kvs /\ PyProof.V.FlatPairs PyData.str kvs (kdpD (stepsOf (wantZ n))) /\ (sd == sysModules) = false /\ News g L h' ((le, W.listOf ve.toArray ne) :: (xe, instObj 182 dxe) :: (dxe, hdD w.params toe le) :: (lt, W.listOf vt.toArray nt) :: (xt, instObj 182 dxt) :: (dxt, hdD w.params tot lt) :: (lr, W.listOf (vr ++ [Value.ref rd]).toArray (nr + 1)) :: (lw, W.listOf (vw ++ [Value.str (wantZ n) twt]).toArray (nw + 1)) :: (ln, W.listOf (vn ++ [Value.str (nameZ n) tnm]).toArray (nn + 1)) :: (L + 1 + 1 + 1 + 1 + 1 + 1 + 1 + 1, q8) :: (L + 1 + 1 + 1 + 1 + 1 + 1 + 1, q7) :: (L + 1 + 1 + 1 + 1 + 1 + 1, q6) :: (L + 1 + 1 + 1 + 1 + 1, q5) :: (L + 1 + 1 + 1 + 1, q4) :: (L + 1 + 1 + 1, q3) :: (L + 1 + 1, q2) :: (L + 1, q1) :: (rd, rdTup (wantZ n) sd tr1 tr2 tr3) :: (sd, od) :: R) /\ m' "shown" = some (.str sh tsh) /\ m' "name" = some (.str (nameZ n) tnm) /\ m' "want" = some (.str (wantZ n) twt))) E s
noncomputable def turnBS (x : LP) : Prop := turnBQ x.w x.dp x.un x.gd x.outer x.A₀ x.base x.L x.s x.p x.loose x.mean x.mg x.mb x.E x.g x.sl x.fa x.cdv x.le x.xe x.dxe x.lt x.xt x.dxt x.lr x.lw x.ln x.toe x.tot x.ve x.vt x.vr x.vw x.vn x.ne x.nt x.nr x.nw x.nn x.q1 x.q2 x.q3 x.q4 x.q5 x.q6 x.q7 x.q8 x.R x.n x.tn x.ns x.om x.on x.sh x.tsh x.tnm x.twt
@[irreducible] noncomputable def turnBC : LP := gen LPE turnBS
namespace turnBN
noncomputable section
 def w := turnBC.w
 def L := turnBC.L
 def p := turnBC.p
 def g := turnBC.g
 def le := turnBC.le
 def xe := turnBC.xe
 def dxe := turnBC.dxe
 def lt := turnBC.lt
 def xt := turnBC.xt
 def dxt := turnBC.dxt
 def lr := turnBC.lr
 def lw := turnBC.lw
 def ln := turnBC.ln
 def toe := turnBC.toe
 def tot := turnBC.tot
 def ve := turnBC.ve
 def vt := turnBC.vt
 def vr := turnBC.vr
 def vw := turnBC.vw
 def vn := turnBC.vn
 def ne := turnBC.ne
 def nt := turnBC.nt
 def nr := turnBC.nr
 def nw := turnBC.nw
 def nn := turnBC.nn
 def q1 := turnBC.q1
 def q2 := turnBC.q2
 def q3 := turnBC.q3
 def q4 := turnBC.q4
 def q5 := turnBC.q5
 def q6 := turnBC.q6
 def q7 := turnBC.q7
 def q8 := turnBC.q8
 def R := turnBC.R
 def n := turnBC.n
 def tnm := turnBC.tnm
 def twt := turnBC.twt
end
theorem main : turnBQ w turnBC.dp turnBC.un turnBC.gd turnBC.outer turnBC.A₀ turnBC.base L turnBC.s p turnBC.loose turnBC.mean turnBC.mg turnBC.mb turnBC.E g turnBC.sl turnBC.fa turnBC.cdv le xe dxe lt xt dxt lr lw ln toe tot ve vt vr vw vn ne nt nr nw nn q1 q2 q3 q4 q5 q6 q7 q8 R n turnBC.tn turnBC.ns turnBC.om turnBC.on turnBC.sh turnBC.tsh tnm twt := by
 intro scope lb hlb hsc
 conv at hlb => lhs; whnf
 conv at hsc => lhs; whnf
 subst hlb hsc
 intro hE C N offR hord hns d1 d2 d3 hvn hvw hvr hl6
 obtain ⟨B', F', X', T', hk', hd', hu'⟩ := C
 (revert hord; refine aq9 fun r1 r2 r3 r4 r5 r6 r7 r8 => ?_; intro r9)
 (try dsimp only)
 (try k_fold)
 k_with "call ref" => ((rename Fr g _ _ _ => lF); (rename News g _ _ _ => lN); first
   | ((k_dflt refine' read_ok (by first | exact Nat.le_trans hl6 (by decide) | lia) (Cx.le ⟨B', lF, X', T', hk', hd', hu'⟩ (by decide)) ?_); (intro rd sd tr1 tr2 tr3 od kvs h2 tk2 kk fr hod hfp hsm; have hrs := rd_ne_sd fr hod; have hrd1 := freshNe lN fr; have hrdA := freshNeA lN fr; have hsdA := freshNeA lN (Fresh.tail fr); have hsd1 := freshNe lN (Fresh.tail fr); (try simp only [AllNe] at hrd1); (try simp only [AllNe] at hsd1); have lN2 := newsFresh lF lN kk fr; have lF2 := frKeep lF kk; (try simp only [List.cons_append, List.nil_append] at lN2); clear kk fr); k_whole))
 k_steps
 k_with_none
 all_goals (with_unfolding_all refine wpAny_execs_nil ?_)
 rename Fr g _ _ _ => lF4
 rename News g _ _ _ => lN4
 simp only [List.push_toArray] at lN4
 refine ⟨rfl, _, _, _, rfl, lF4, ⟨by rfl, by rfl, fun y e0 e1 e2 e3 e4 e5 e6 e7 e8 e9 e10 => by simp only [e0, e1, e2, e3, e4, e5, e6, e7, e8, e9, e10, if_false]⟩, ?_⟩
 refine ⟨rd, sd, tr1, tr2, tr3, od, kvs, ?r1, ?r2, hod, hfp, hsm, news_sb lN4 ?sub, by rfl, by rfl, by rfl⟩
 case r1 => exact fun p hp => ⟨hrdA p (List.Mem.tail _ (.tail _ (.tail _ (.tail _ (.tail _ (.tail _ (.tail _ (.tail _ (.tail _ (.tail _ (.tail _ (.tail _ (.tail _ (.tail _ (.tail _ (.tail _ (.tail _ (hp)))))))))))))))))), hsdA p (List.Mem.tail _ (.tail _ (.tail _ (.tail _ (.tail _ (.tail _ (.tail _ (.tail _ (.tail _ (.tail _ (.tail _ (.tail _ (.tail _ (.tail _ (.tail _ (.tail _ (.tail _ (hp))))))))))))))))))⟩
 case r2 => exact off_two (l := [(le, W.listOf ve.toArray ne), (xe, instObj 182 dxe), (dxe, hdD w.params toe le), (lt, W.listOf vt.toArray nt), (xt, instObj 182 dxt), (dxt, hdD w.params tot lt), (lr, W.listOf vr.toArray nr), (lw, W.listOf (vw.toArray.push (Value.str (wantZ n) twt)) (nw + 1)), (ln, W.listOf (vn.toArray.push (Value.str (nameZ n) tnm)) (nn + 1)), (L + 1 + 1 + 1 + 1 + 1 + 1 + 1 + 1, q8), (L + 1 + 1 + 1 + 1 + 1 + 1 + 1, q7), (L + 1 + 1 + 1 + 1 + 1 + 1, q6), (L + 1 + 1 + 1 + 1 + 1, q5), (L + 1 + 1 + 1 + 1, q4), (L + 1 + 1 + 1, q3), (L + 1 + 1, q2), (L + 1, q1)]) (R := R) hrdA hsdA
 repeat (refine List.forall_mem_cons.mpr ⟨?_, ?_⟩; (k_dflt k_mem))
 exact fun p hp => List.Mem.tail _ (.tail _ (.tail _ (.tail _ (.tail _ (.tail _ (.tail _ (.tail _ (.tail _ (.tail _ (.tail _ (.tail _ (.tail _ (.tail _ (.tail _ (.tail _ (.tail _ (.tail _ (.tail _ (hp)))))))))))))))))))
end turnBN
theorem turnBH : turnBS (gen LPE turnBS) := by with_unfolding_all exact @turnBN.main
theorem turnB {w dp un gd outer A₀ base L s p loose mean mg mb E g sl fa cdv le xe dxe lt xt dxt lr lw ln toe tot ve vt vr vw vn ne nt nr nw nn q1 q2 q3 q4 q5 q6 q7 q8 R n tn ns om on sh tsh tnm twt} : turnBQ w dp un gd outer A₀ base L s p loose mean mg mb E g sl fa cdv le xe dxe lt xt dxt lr lw ln toe tot ve vt vr vw vn ne nt nr nw nn q1 q2 q3 q4 q5 q6 q7 q8 R n tn ns om on sh tsh tnm twt := @all_gen LP LPE turnBS @turnBH { lp0 with w, dp, un, gd, outer, A₀, base, L, s, p, loose, mean, mg, mb, E, g, sl, fa, cdv, le, xe, dxe, lt, xt, dxt, lr, lw, ln, toe, tot, ve, vt, vr, vw, vn, ne, nt, nr, nw, nn, q1, q2, q3, q4, q5, q6, q7, q8, R, n, tn, ns, om, on, sh, tsh, tnm, twt }
end
theorem news_drop {g h : Heap} {L : Addr} {a : Addr × Obj} {G l : List (Addr × Obj)} (N : News g L h (a :: (G ++ l))) : News g L h l := fun p hp => N p (.tail _ (List.mem_append_right _ hp))
theorem off_drop {d : Addr} {a : Addr × Obj} {G l : List (Addr × Obj)} (N : ∀ p ∈ a :: (G ++ l), p.1 ≠ d) : ∀ p ∈ l, p.1 ≠ d := fun p hp => N p (.tail _ (List.mem_append_right _ hp))
theorem news_lt {g h : Heap} {L : Addr} {l : List (Addr × Obj)} (N : News g L h l) : ∀ q ∈ l, q.1 < h.objs.size := fun q hq => Heap.lt_size (N q hq).1
theorem heap_of {g h : Heap} {L : Addr} {a : Addr × Obj} {G l : List (Addr × Obj)} {zs : List Value} {its : List (Str × Str)} (H : HItL G zs its) (N : News g L h (a :: (G ++ l))) : HIt h zs its := H.heap (fun p hp => N p (.tail _ (List.mem_append_left _ hp)))
noncomputable def prZ (z : Str) : Str × Str := (z, smpT z)
theorem full_take {G : List (Addr × Obj)} {zs vw : List Value} {ws : List Str} (h : HItL G zs ((ws.map prZ).take zs.length)) (hl : zs.length = vw.length) (hv : StrsAre vw ws) : HItL G zs (ws.map prZ) := by
 rwa [List.take_of_length_le (by rw [List.length_map, hl, hv.length]; exact Nat.le_refl _)] at h
theorem dinv_use {kvs : List (Str × Value)} {ws : List Str} (h : DInv kvs (ws.map prZ)) {z : Str} (hz : z ∈ ws) : ∃ t, valueAt kvs z = some (.str (smpT z) t) := by
 obtain ⟨v, t, h1, h2⟩ := h z (by rw [List.map_map]; exact List.mem_map.mpr ⟨z, hz, rfl⟩)
 obtain ⟨z', _, e⟩ := List.mem_map.mp h2
 cases e
 exact ⟨t, h1⟩
theorem zip_next {G : List (Addr × Obj)} {zs : List Value} {ws : List Str} {z : Str} {T : Addr} {t1 t2 : Tok} (h : HItL G zs ((ws.map prZ).take zs.length)) (hz : ws[zs.length]? = some z) : HItL ([(T, hdrTup z t1 (smpT z) t2)] ++ G) (zs ++ [.ref T]) ((ws.map prZ).take (zs ++ [Value.ref T]).length) := by
 have e : (ws.map prZ).take (zs ++ [Value.ref T]).length = (ws.map prZ).take zs.length ++ [prZ z] := by
   rw [List.length_append, List.length_singleton, List.take_add_one, List.getElem?_map, hz]; rfl
 rw [e]
 exact HItL.append (nx := [(T, hdrTup z t1 (smpT z) t2)] ++ G) (.cons (List.Mem.head _) .nil) (h.mono fun p hp => List.mem_append_right _ hp)
theorem strs_at {vs : List Value} {ws : List Str} {i : Nat} {v : Value} (h : StrsAre vs ws) (e : vs[i]? = some v) : ∃ z t, v = .str z t /\ ws[i]? = some z := StrsAre.item2 h e
theorem freshNeL {g h h' : Heap} {L : Addr} {news l : List (Addr × Obj)} (N : News g L h news) (fr : Fresh h h' l) : ∀ q ∈ l, ∀ p ∈ news, p.1 ≠ q.1 := fun q hq p hp e => by
 have h2 := (fr q hq).2
 have h1 := (N p hp).1
 rw [e, h2] at h1; cases h1
theorem off_fresh {tl l R : List (Addr × Obj)} (h : ∀ q ∈ tl, ∀ p ∈ l ++ R, p.1 ≠ q.1) : OwnOff tl (l.map (·.1)) := by
 intro p hp b hb
 obtain ⟨q, hq, rfl⟩ := List.mem_map.mp hb
 exact Ne.symm (h p hp q (List.mem_append_left _ hq))
structure ShOk (sh : Str) : Prop where
 a : PlainT sh
 b : sh.length <= 16
 c : PlainT (Txt.lower sh)
 d : (Txt.lower sh).length <= 16
 e : Txt.lower (Txt.lower sh) = Txt.lower sh
section
noncomputable abbrev turnCQ (w : World) (dp un : Nat) (gd : Option (List Code)) (outer : List Env) (A₀ : Around) (base : Heap) (L : Addr) (s : Shared) (p : Program) (loose : List Str) (mean : ExcName -> Option Value) (mg mb : Str -> Option Value) (E : Value -> Shared -> Prop) (g : Heap) (sl fa : Addr) (cdv : Value) (le xe dxe lt xt dxt lr lw ln : Addr) (toe tot : Tok) (ve vt vr vw vn : List Value) (ne nt nr nw nn : Nat) (q1 q2 q3 q4 q5 q6 q7 q8 : Obj) (R : List (Addr × Obj)) (n : Int) (tn : Tok) (ns : List Int) (om : Str -> Option Value) (on : Option Value) (sh : Str) (tsh tnm twt : Tok) (ws : List Str) (tl : List (Addr × Obj)) (rowsT : List (Str × Str)) : Prop := ∀ {scope : Scope} {lb : List Stmt} (hlb : ((forBody ((fdB (stm pw_sr0088_01 22)).getD 2 (.Pass default))).drop 9).take 1 = lb) (hsc : fdS (stm pw_sr0088_01 22) = scope) (hE : PassesOwn (model pw_sr0088_01 w) (ktrTop dp un gd "law" scope L fa cdv (cellsFrom (L + 1) scope.names []) outer) (envOfC "law" scope L fa cdv) E) (C : Cx w dp un scope outer A₀ base g L (fun y => if y = "n" then on else if y = "spelled" then om y else if y = "head" then om y else if y = "mark" then om y else if y = "name" then some (.str (nameZ n) tnm) else if y = "want" then some (.str (wantZ n) twt) else if y = "ready" then om y else if y = "bare" then om y else if y = "shown" then some (.str sh tsh) else if y = "table" then some (.ref xt) else if y = "every" then some (.ref xe) else bindL (envOfC "law" scope L fa cdv).kindOf [("script", .ref sl)] (fun _ => none) y) s.heap p loose mean mg mb 40) (N : News g L s.heap ((le, W.listOf ve.toArray ne) :: (xe, instObj 182 dxe) :: (dxe, hdD w.params toe le) :: (lt, W.listOf vt.toArray nt) :: (xt, instObj 182 dxt) :: (dxt, hdD w.params tot lt) :: (lr, W.listOf vr.toArray nr) :: (lw, W.listOf vw.toArray nw) :: (ln, W.listOf vn.toArray nn) :: (L + 1 + 1 + 1 + 1 + 1 + 1 + 1 + 1, q8) :: (L + 1 + 1 + 1 + 1 + 1 + 1 + 1, q7) :: (L + 1 + 1 + 1 + 1 + 1 + 1, q6) :: (L + 1 + 1 + 1 + 1 + 1, q5) :: (L + 1 + 1 + 1 + 1, q4) :: (L + 1 + 1 + 1, q3) :: (L + 1 + 1, q2) :: (L + 1, q1) :: R)) (offR : OwnOff R [le, xe, dxe, lt, xt, dxt, lr, lw, ln, L + 1 + 1 + 1 + 1 + 1 + 1 + 1 + 1, L + 1 + 1 + 1 + 1 + 1 + 1 + 1, L + 1 + 1 + 1 + 1 + 1 + 1, L + 1 + 1 + 1 + 1 + 1, L + 1 + 1 + 1 + 1, L + 1 + 1 + 1, L + 1 + 1, L + 1]) (hord : (@LT.lt Nat _ (L + 1 + 1 + 1 + 1 + 1 + 1 + 1 + 1) ln) /\ (@LT.lt Nat _ ln lw) /\ (@LT.lt Nat _ lw lr) /\ (@LT.lt Nat _ lr dxt) /\ (@LT.lt Nat _ dxt xt) /\ (@LT.lt Nat _ xt lt) /\ (@LT.lt Nat _ lt dxe) /\ (@LT.lt Nat _ dxe xe) /\ (@LT.lt Nat _ xe le)) (d2 : q2.data = Data.cell (some (Value.ref lw))) (d3 : q3.data = Data.cell (some (Value.ref lr))) (hvw : StrsAre vw ws) (hws : ws.length <= 6) (htl : ∀ p ∈ tl, p ∈ R) (hrd : RdsL w tl vr ws) (hsmp : ∀ z ∈ ws, (samplesOf z).length <= 64) (hwt : wantZ n ∈ ws) (hwtl : (wantZ n).length <= 16) (hwtp : PlainT (wantZ n)) (hsh : ShOk sh) (hT : HItL tl vt rowsT) (hvt : vt.length <= 32) (hrT : ∀ p ∈ rowsT, p.2 ∈ ws) (hrT2 : ∀ p ∈ rowsT, p.1.length <= 16 /\ p.2.length <= 16 /\ PlainT p.2), wpAny (model pw_sr0088_01 w) (ktrTop dp un gd "law" scope L fa cdv (cellsFrom (L + 1) scope.names []) outer) (execs lb (envOfC "law" scope L fa cdv)) (fun f s' => f = .next /\ ∃ (h' : Heap) (tk' : Nat) (m' : Str -> Option Value), s' = { s with heap := h', toks := tk' } /\ Fr g L h' m' /\ LocM xt xe (bindL (envOfC "law" scope L fa cdv).kindOf [("script", .ref sl)] (fun _ => none)) m' /\ (∃ tl' vt' nt', (∀ p ∈ tl', noTup p.2 = false) /\ (∀ p ∈ tl', ∀ q ∈ R, p.1 ≠ q.1) /\ OwnOff tl' [le, xe, dxe, lt, xt, dxt, lr, lw, ln, L + 1 + 1 + 1 + 1 + 1 + 1 + 1 + 1, L + 1 + 1 + 1 + 1 + 1 + 1 + 1, L + 1 + 1 + 1 + 1 + 1 + 1, L + 1 + 1 + 1 + 1 + 1, L + 1 + 1 + 1 + 1, L + 1 + 1 + 1, L + 1 + 1, L + 1] /\ News g L h' (tl' ++ ((le, W.listOf ve.toArray ne) :: (xe, instObj 182 dxe) :: (dxe, hdD w.params toe le) :: (lt, W.listOf (List.toArray vt') nt') :: (xt, instObj 182 dxt) :: (dxt, hdD w.params tot lt) :: (lr, W.listOf vr.toArray nr) :: (lw, W.listOf vw.toArray nw) :: (ln, W.listOf vn.toArray nn) :: (L + 1 + 1 + 1 + 1 + 1 + 1 + 1 + 1, q8) :: (L + 1 + 1 + 1 + 1 + 1 + 1 + 1, q7) :: (L + 1 + 1 + 1 + 1 + 1 + 1, q6) :: (L + 1 + 1 + 1 + 1 + 1, q5) :: (L + 1 + 1 + 1 + 1, q4) :: (L + 1 + 1 + 1, q3) :: (L + 1 + 1, q2) :: (L + 1, q1) :: R)) /\ HItL (tl' ++ tl) vt' (keepZ rowsT sh (wantZ n) smpT) /\ m' "shown" = some (.str sh tsh) /\ m' "name" = some (.str (nameZ n) tnm) /\ m' "want" = some (.str (wantZ n) twt))) E s
noncomputable def turnCS (x : LP) : Prop := turnCQ x.w x.dp x.un x.gd x.outer x.A₀ x.base x.L x.s x.p x.loose x.mean x.mg x.mb x.E x.g x.sl x.fa x.cdv x.le x.xe x.dxe x.lt x.xt x.dxt x.lr x.lw x.ln x.toe x.tot x.ve x.vt x.vr x.vw x.vn x.ne x.nt x.nr x.nw x.nn x.q1 x.q2 x.q3 x.q4 x.q5 x.q6 x.q7 x.q8 x.R x.n x.tn x.ns x.om x.on x.sh x.tsh x.tnm x.twt x.ws x.tl x.rowsT
@[irreducible] noncomputable def turnCC : LP := gen LPE turnCS
namespace turnCN
noncomputable section
 def w := turnCC.w
 def L := turnCC.L
 def s := turnCC.s
 def p := turnCC.p
 def g := turnCC.g
 def le := turnCC.le
 def xe := turnCC.xe
 def dxe := turnCC.dxe
 def lt := turnCC.lt
 def xt := turnCC.xt
 def dxt := turnCC.dxt
 def lr := turnCC.lr
 def lw := turnCC.lw
 def ln := turnCC.ln
 def toe := turnCC.toe
 def tot := turnCC.tot
 def ve := turnCC.ve
 def vt := turnCC.vt
 def vr := turnCC.vr
 def vw := turnCC.vw
 def vn := turnCC.vn
 def ne := turnCC.ne
 def nt := turnCC.nt
 def nr := turnCC.nr
 def nw := turnCC.nw
 def nn := turnCC.nn
 def q1 := turnCC.q1
 def q2 := turnCC.q2
 def q3 := turnCC.q3
 def q4 := turnCC.q4
 def q5 := turnCC.q5
 def q6 := turnCC.q6
 def q7 := turnCC.q7
 def q8 := turnCC.q8
 def R := turnCC.R
 def n := turnCC.n
 def ws := turnCC.ws
 def tl := turnCC.tl
 def rowsT := turnCC.rowsT
end
theorem main : turnCQ w turnCC.dp turnCC.un turnCC.gd turnCC.outer turnCC.A₀ turnCC.base L s p turnCC.loose turnCC.mean turnCC.mg turnCC.mb turnCC.E g turnCC.sl turnCC.fa turnCC.cdv le xe dxe lt xt dxt lr lw ln toe tot ve vt vr vw vn ne nt nr nw nn q1 q2 q3 q4 q5 q6 q7 q8 R n turnCC.tn turnCC.ns turnCC.om turnCC.on turnCC.sh turnCC.tsh turnCC.tnm turnCC.twt ws tl rowsT := by
 intro scope lb hlb hsc
 conv at hlb => lhs; whnf
 conv at hsc => lhs; whnf
 subst hlb hsc
 intro hE C N offR hord d2 d3 hvw hws htl hrd hsmp hwt hwtl hwtp hsh hT hvt hrT hrT2
 obtain ⟨B', F', X', T', hk', hd', hu'⟩ := C
 (revert hord; refine aq9 fun r1 r2 r3 r4 r5 r6 r7 r8 => ?_; intro r9)
 (try dsimp only)
 (try k_fold)
 have hIg : HIt s.heap vt rowsT := hT.heap (fun p hp => N p (List.Mem.tail _ (.tail _ (.tail _ (.tail _ (.tail _ (.tail _ (.tail _ (.tail _ (.tail _ (.tail _ (.tail _ (.tail _ (.tail _ (.tail _ (.tail _ (.tail _ (.tail _ (htl p hp)))))))))))))))))))
 k_with "eval ListComp" => ((k_dflt (refine ListComp_Z (F₀ := by k_asm) (by with_unfolding_all rfl) (by decide) (by rfl) (by decide) (by rfl) (by rfl) (by decide) ?_)))
 k_with "call type:zip" => ((rename Fr g _ _ _ => lF); (rename News g _ _ _ => lN); (k_dflt refine' zip_src (fun zs G => HItL G zs ((ws.map prZ).take zs.length)) ?ch lF lN ?m1 ?m2 (hvw.length.trans hrd.len.symm) ?cz .nil (fun g2 => fun v₁ v₂ zs G fix C oC m₂ h tk E' hv1 hv2 hJ hO hx1 hx2 lF2 lfix lfC lN2 => ?_) (fun g2 => fun D zs G h3 tk3 lF3 lN3 o1 hJ hzl => ?_)); (case ch => with_unfolding_all rfl); (case m1 => k_dflt k_mem); (case m2 => k_dflt k_mem); (case cz => (rw [sizeLine_eq]; have := hvw.length; lia)); all_goals (try (have hltq := news_lt lN2)); all_goals (try (have hJ5 := full_take hJ hzl hvw; have hI5 := heap_of hJ5 lN3)); all_goals (try k_fold); all_goals (try (obtain ⟨z, tz, e1, hz⟩ := strs_at hvw hv1; (have hQ := RdsL.at hrd hv2; revert hQ; refine xq8 fun rd sd tr1 tr2 tr3 od kv1 wz => ?_; refine aq7 fun e2 hwz hm1 hm2 hd1 hd2 => ?_; intro hd3); subst e1 e2; (have ezz : wz = z := Option.some.inj (hwz.symm.trans hz)); subst ezz; have hsz := hsmp _ (List.mem_of_getElem? hwz); have hmf := lfix _ (List.mem_append_right _ (List.Mem.tail _ (.tail _ (.tail _ (.tail _ (.tail _ (.tail _ (.tail _ (.tail _ (.tail _ (.tail _ (.tail _ (.tail _ (.tail _ (.tail _ (.tail _ (.tail _ (.tail _ (htl _ hm1))))))))))))))))))))))
 k_with "subscriptTail" => ((rename News g _ _ _ => lN); (k_dflt refine' item_tupleT (⟨_, (lN _ (.tail _ hmf)).1, rfl, 0, rfl⟩ : IsTup _ rd #[.ref sd, .int (stayOf wz) tr1, .int (finOf wz) tr2, .str (samplesOf wz) tr3]) ?lo ?hi ?j ?x ?_ ?hs); (case lo => decide); (case hi => decide); (case j => rfl); (case x => rfl); (case hs => with_unfolding_all rfl))
 k_with "call type:dict" => ((rename Fr g _ _ _ => lF); (rename News g _ _ _ => lN); (k_dflt refine' dict_pairs ?ch lF lN (List.Mem.head _) hI5 ?cz ?_); (case ch => with_unfolding_all rfl); (case cz => (rw [sizeLine_eq, List.length_map]; lia)); (intro h4 tk4 sd kvs lF4 lN4 hdn hdd hinv; have lN5 := news_drop lN4; have hd5 := off_drop hdn; clear lN4 hdn hJ hJ5 hI5))
 k_with "call ref" => ((rename Fr g _ _ _ => lF); (rename News g _ _ _ => lN); (k_dflt refine' keep_ok (so := instObj 182 dxt) (to := tot) (its := rowsT) (wt := wantZ n) (vs := vt) (kvs := kvs) (by omega) (by omega) hsh.a hsh.b hsh.c hsh.d hsh.e ?hi hvt hrT2 hwtl hwtp smpT smpT_len hdd ?hsd ?hsm (Cx.le ⟨B', lF, X', T', hk', hd', hu'⟩ (by decide)) (N := ?kN) ?_); (case hi => k_dflt exact hT.heap (fun p hp => lN p (List.Mem.tail _ (.tail _ (.tail _ (.tail _ (.tail _ (.tail _ (.tail _ (.tail _ (.tail _ (.tail _ (.tail _ (.tail _ (.tail _ (.tail _ (.tail _ (.tail _ (.tail _ (htl p hp)))))))))))))))))))); (case hsd => exact ⟨Ne.symm (hd5 (xt, instObj 182 dxt) (by k_dflt k_mem)), Ne.symm (hd5 (dxt, hdD w.params tot lt) (by k_dflt k_mem)), Ne.symm (hd5 (lt, W.listOf vt.toArray nt) (by k_dflt k_mem))⟩); (case hsm => (intro z hz; refine dinv_use hinv ?_; rcases hz with rfl | hz; exact hwt; obtain ⟨q, hq, rfl⟩ := List.mem_map.mp hz; exact hrT q hq)); (case kN => exact News.sub3 lN (by k_dflt k_mem) (by k_dflt k_mem) (by k_dflt k_mem)); (intro h5 tk5 vt' nt' tl' kB el fr htl' hrows; have hfa := freshNeL lN fr; obtain ⟨lF6, _⟩ := newsUpdB (o' := W.listOf vt'.toArray nt') lF lN (by k_dflt k_upd) kB el; have lN6 := newsUpdF (o' := W.listOf vt'.toArray nt') lF lN (by k_dflt k_upd) kB el fr; clear kB el fr); k_whole)
 k_steps
 k_with_none
 all_goals try (
   (rename Fr g _ _ _ => lF7); (rename News g _ _ _ => lN7)
   have esm : smpT wz = samplesOf wz := if_pos hsz
   rw [<- esm] at lN7
   refine ⟨_, _, [(_, hdrTup wz tz (smpT wz) tr3)], rfl, lF7, lN7, ?o, zip_next hJ hz⟩
   intro p hp q hq
   rw [List.mem_singleton.mp hp]
   exact Nat.ne_of_lt (hltq q hq))
 all_goals (with_unfolding_all refine wpAny_execs_nil ?_)
 rename Fr g _ _ _ => lF8
 rename News g _ _ _ => lN8
 refine ⟨rfl, _, _, _, rfl, lF8, ⟨by rfl, by rfl, fun y e0 e1 e2 e3 e4 e5 e6 e7 e8 e9 e10 => by simp only [e0, e1, e2, e3, e4, e5, e6, e7, e8, e9, e10, if_false]⟩, ?_⟩
 refine ⟨tl', vt', nt', htl', ?r1, ?r2, fun p hp => lN8 p hp, hrows tl hT, by rfl, by rfl, by rfl⟩
 case r1 => exact fun p hp q hq => Ne.symm (hfa p hp q (List.Mem.tail _ (.tail _ (.tail _ (.tail _ (.tail _ (.tail _ (.tail _ (.tail _ (.tail _ (.tail _ (.tail _ (.tail _ (.tail _ (.tail _ (.tail _ (.tail _ (.tail _ (hq)))))))))))))))))))
 case r2 => exact off_fresh (l := [(le, W.listOf ve.toArray ne), (xe, instObj 182 dxe), (dxe, hdD w.params toe le), (lt, W.listOf vt.toArray nt), (xt, instObj 182 dxt), (dxt, hdD w.params tot lt), (lr, W.listOf vr.toArray nr), (lw, W.listOf vw.toArray nw), (ln, W.listOf vn.toArray nn), (L + 1 + 1 + 1 + 1 + 1 + 1 + 1 + 1, q8), (L + 1 + 1 + 1 + 1 + 1 + 1 + 1, q7), (L + 1 + 1 + 1 + 1 + 1 + 1, q6), (L + 1 + 1 + 1 + 1 + 1, q5), (L + 1 + 1 + 1 + 1, q4), (L + 1 + 1 + 1, q3), (L + 1 + 1, q2), (L + 1, q1)]) (R := R) hfa
end turnCN
theorem turnCH : turnCS (gen LPE turnCS) := by with_unfolding_all exact @turnCN.main
theorem turnC {w dp un gd outer A₀ base L s p loose mean mg mb E g sl fa cdv le xe dxe lt xt dxt lr lw ln toe tot ve vt vr vw vn ne nt nr nw nn q1 q2 q3 q4 q5 q6 q7 q8 R n tn ns om on sh tsh tnm twt ws tl rowsT} : turnCQ w dp un gd outer A₀ base L s p loose mean mg mb E g sl fa cdv le xe dxe lt xt dxt lr lw ln toe tot ve vt vr vw vn ne nt nr nw nn q1 q2 q3 q4 q5 q6 q7 q8 R n tn ns om on sh tsh tnm twt ws tl rowsT := @all_gen LP LPE turnCS @turnCH { lp0 with w, dp, un, gd, outer, A₀, base, L, s, p, loose, mean, mg, mb, E, g, sl, fa, cdv, le, xe, dxe, lt, xt, dxt, lr, lw, ln, toe, tot, ve, vt, vr, vw, vn, ne, nt, nr, nw, nn, q1, q2, q3, q4, q5, q6, q7, q8, R, n, tn, ns, om, on, sh, tsh, tnm, twt, ws, tl, rowsT }
end
section
noncomputable abbrev turnDQ (w : World) (dp un : Nat) (gd : Option (List Code)) (outer : List Env) (A₀ : Around) (base : Heap) (L : Addr) (s : Shared) (p : Program) (loose : List Str) (mean : ExcName -> Option Value) (mg mb : Str -> Option Value) (E : Value -> Shared -> Prop) (g : Heap) (sl fa : Addr) (cdv : Value) (le xe dxe lt xt dxt lr lw ln : Addr) (toe tot : Tok) (ve vt vr vw vn : List Value) (ne nt nr nw nn : Nat) (q1 q2 q3 q4 q5 q6 q7 q8 : Obj) (R : List (Addr × Obj)) (n : Int) (tn : Tok) (ns : List Int) (om : Str -> Option Value) (on : Option Value) (sh : Str) (tsh tnm twt : Tok) (tl : List (Addr × Obj)) (rowsE : List (Str × Str)) : Prop := ∀ {scope : Scope} {lb : List Stmt} (hlb : ((forBody ((fdB (stm pw_sr0088_01 22)).getD 2 (.Pass default))).drop 10).take 1 = lb) (hsc : fdS (stm pw_sr0088_01 22) = scope) (hE : PassesOwn (model pw_sr0088_01 w) (ktrTop dp un gd "law" scope L fa cdv (cellsFrom (L + 1) scope.names []) outer) (envOfC "law" scope L fa cdv) E) (C : Cx w dp un scope outer A₀ base g L (fun y => if y = "n" then on else if y = "spelled" then om y else if y = "head" then om y else if y = "mark" then om y else if y = "name" then some (.str (nameZ n) tnm) else if y = "want" then some (.str (wantZ n) twt) else if y = "ready" then om y else if y = "bare" then om y else if y = "shown" then some (.str sh tsh) else if y = "table" then some (.ref xt) else if y = "every" then some (.ref xe) else bindL (envOfC "law" scope L fa cdv).kindOf [("script", .ref sl)] (fun _ => none) y) s.heap p loose mean mg mb 40) (N : News g L s.heap ((le, W.listOf ve.toArray ne) :: (xe, instObj 182 dxe) :: (dxe, hdD w.params toe le) :: (lt, W.listOf vt.toArray nt) :: (xt, instObj 182 dxt) :: (dxt, hdD w.params tot lt) :: (lr, W.listOf vr.toArray nr) :: (lw, W.listOf vw.toArray nw) :: (ln, W.listOf vn.toArray nn) :: (L + 1 + 1 + 1 + 1 + 1 + 1 + 1 + 1, q8) :: (L + 1 + 1 + 1 + 1 + 1 + 1 + 1, q7) :: (L + 1 + 1 + 1 + 1 + 1 + 1, q6) :: (L + 1 + 1 + 1 + 1 + 1, q5) :: (L + 1 + 1 + 1 + 1, q4) :: (L + 1 + 1 + 1, q3) :: (L + 1 + 1, q2) :: (L + 1, q1) :: R)) (offR : OwnOff R [le, xe, dxe, lt, xt, dxt, lr, lw, ln, L + 1 + 1 + 1 + 1 + 1 + 1 + 1 + 1, L + 1 + 1 + 1 + 1 + 1 + 1 + 1, L + 1 + 1 + 1 + 1 + 1 + 1, L + 1 + 1 + 1 + 1 + 1, L + 1 + 1 + 1 + 1, L + 1 + 1 + 1, L + 1 + 1, L + 1]) (hord : (@LT.lt Nat _ (L + 1 + 1 + 1 + 1 + 1 + 1 + 1 + 1) ln) /\ (@LT.lt Nat _ ln lw) /\ (@LT.lt Nat _ lw lr) /\ (@LT.lt Nat _ lr dxt) /\ (@LT.lt Nat _ dxt xt) /\ (@LT.lt Nat _ xt lt) /\ (@LT.lt Nat _ lt dxe) /\ (@LT.lt Nat _ dxe xe) /\ (@LT.lt Nat _ xe le)) (hwtl : (wantZ n).length <= 16) (hwtp : PlainT (wantZ n)) (hsh : ShOk sh) (hve : ve.length <= 32) (htl : ∀ p ∈ tl, p ∈ R) (hT : HItL tl ve rowsE), wpAny (model pw_sr0088_01 w) (ktrTop dp un gd "law" scope L fa cdv (cellsFrom (L + 1) scope.names []) outer) (execs lb (envOfC "law" scope L fa cdv)) (fun f s' => f = .next /\ ∃ (h' : Heap) (tk' : Nat) (m' : Str -> Option Value), s' = { s with heap := h', toks := tk' } /\ Fr g L h' m' /\ LocM xt xe (bindL (envOfC "law" scope L fa cdv).kindOf [("script", .ref sl)] (fun _ => none)) m' /\ (∃ T tk1 tk2 ne', (∀ q ∈ R, T ≠ q.1) /\ OwnOff [(T, hdrTup sh tk1 (wantZ n) tk2)] [le, xe, dxe, lt, xt, dxt, lr, lw, ln, L + 1 + 1 + 1 + 1 + 1 + 1 + 1 + 1, L + 1 + 1 + 1 + 1 + 1 + 1 + 1, L + 1 + 1 + 1 + 1 + 1 + 1, L + 1 + 1 + 1 + 1 + 1, L + 1 + 1 + 1 + 1, L + 1 + 1 + 1, L + 1 + 1, L + 1] /\ News g L h' ((T, hdrTup sh tk1 (wantZ n) tk2) :: ((le, W.listOf (ve ++ [Value.ref T]).toArray ne') :: (xe, instObj 182 dxe) :: (dxe, hdD w.params toe le) :: (lt, W.listOf vt.toArray nt) :: (xt, instObj 182 dxt) :: (dxt, hdD w.params tot lt) :: (lr, W.listOf vr.toArray nr) :: (lw, W.listOf vw.toArray nw) :: (ln, W.listOf vn.toArray nn) :: (L + 1 + 1 + 1 + 1 + 1 + 1 + 1 + 1, q8) :: (L + 1 + 1 + 1 + 1 + 1 + 1 + 1, q7) :: (L + 1 + 1 + 1 + 1 + 1 + 1, q6) :: (L + 1 + 1 + 1 + 1 + 1, q5) :: (L + 1 + 1 + 1 + 1, q4) :: (L + 1 + 1 + 1, q3) :: (L + 1 + 1, q2) :: (L + 1, q1) :: R)) /\ HItL ((T, hdrTup sh tk1 (wantZ n) tk2) :: tl) (ve ++ [Value.ref T]) (rowsE ++ [(sh, wantZ n)]))) E s
noncomputable def turnDS (x : LP) : Prop := turnDQ x.w x.dp x.un x.gd x.outer x.A₀ x.base x.L x.s x.p x.loose x.mean x.mg x.mb x.E x.g x.sl x.fa x.cdv x.le x.xe x.dxe x.lt x.xt x.dxt x.lr x.lw x.ln x.toe x.tot x.ve x.vt x.vr x.vw x.vn x.ne x.nt x.nr x.nw x.nn x.q1 x.q2 x.q3 x.q4 x.q5 x.q6 x.q7 x.q8 x.R x.n x.tn x.ns x.om x.on x.sh x.tsh x.tnm x.twt x.tl x.rowsE
@[irreducible] noncomputable def turnDC : LP := gen LPE turnDS
namespace turnDN
noncomputable section
 def w := turnDC.w
 def L := turnDC.L
 def p := turnDC.p
 def g := turnDC.g
 def le := turnDC.le
 def xe := turnDC.xe
 def dxe := turnDC.dxe
 def lt := turnDC.lt
 def xt := turnDC.xt
 def dxt := turnDC.dxt
 def lr := turnDC.lr
 def lw := turnDC.lw
 def ln := turnDC.ln
 def toe := turnDC.toe
 def tot := turnDC.tot
 def ve := turnDC.ve
 def vt := turnDC.vt
 def vr := turnDC.vr
 def vw := turnDC.vw
 def vn := turnDC.vn
 def ne := turnDC.ne
 def nt := turnDC.nt
 def nr := turnDC.nr
 def nw := turnDC.nw
 def nn := turnDC.nn
 def q1 := turnDC.q1
 def q2 := turnDC.q2
 def q3 := turnDC.q3
 def q4 := turnDC.q4
 def q5 := turnDC.q5
 def q6 := turnDC.q6
 def q7 := turnDC.q7
 def q8 := turnDC.q8
 def R := turnDC.R
 def n := turnDC.n
end
theorem main : turnDQ w turnDC.dp turnDC.un turnDC.gd turnDC.outer turnDC.A₀ turnDC.base L turnDC.s p turnDC.loose turnDC.mean turnDC.mg turnDC.mb turnDC.E g turnDC.sl turnDC.fa turnDC.cdv le xe dxe lt xt dxt lr lw ln toe tot ve vt vr vw vn ne nt nr nw nn q1 q2 q3 q4 q5 q6 q7 q8 R n turnDC.tn turnDC.ns turnDC.om turnDC.on turnDC.sh turnDC.tsh turnDC.tnm turnDC.twt turnDC.tl turnDC.rowsE := by
 intro scope lb hlb hsc
 conv at hlb => lhs; whnf
 conv at hsc => lhs; whnf
 subst hlb hsc
 intro hE C N offR hord hwtl hwtp hsh hve htl hT
 obtain ⟨B', F', X', T', hk', hd', hu'⟩ := C
 (revert hord; refine aq9 fun r1 r2 r3 r4 r5 r6 r7 r8 => ?_; intro r9)
 (try dsimp only)
 (try k_fold)
 k_with "call ref" => ((rename Fr g _ _ _ => lF); (rename News g _ _ _ => lN); (k_dflt refine' add_ok (its := []) (to := toe) (vs := ve) (xv := wantZ n) (by omega) (by omega) hsh.a hsh.b hwtp hwtl (by omega) (Cx.le ⟨B', lF, X', T', hk', hd', hu'⟩ (by decide)) (N := ?kN) ?_); (case kN => exact News.sub3 lN (by k_dflt k_mem) (by k_dflt k_mem) (by k_dflt k_mem)); (intro h5 tk5 T nt' tk1 tk2 kB el fr; have hfa := freshNeL lN fr; obtain ⟨lF6, _⟩ := newsUpdB (o' := W.listOf (ve ++ [Value.ref T]).toArray nt') lF lN (by k_dflt k_upd) kB el; have lN6 := newsUpdF (o' := W.listOf (ve ++ [Value.ref T]).toArray nt') lF lN (by k_dflt k_upd) kB el fr; clear kB el fr); k_whole)
 k_steps
 k_with_none
 all_goals (with_unfolding_all refine wpAny_execs_nil ?_)
 rename Fr g _ _ _ => lF8
 rename News g _ _ _ => lN8
 refine ⟨rfl, _, _, _, rfl, lF8, ⟨by rfl, by rfl, fun y e0 e1 e2 e3 e4 e5 e6 e7 e8 e9 e10 => by simp only [e0, e1, e2, e3, e4, e5, e6, e7, e8, e9, e10, if_false]⟩, ?_⟩
 refine ⟨T, tk1, tk2, nt', ?r1, ?r2, fun p hp => lN8 p hp, ?r3⟩
 case r1 => exact fun q hq => Ne.symm (hfa _ (.head _) q (List.Mem.tail _ (.tail _ (.tail _ (.tail _ (.tail _ (.tail _ (.tail _ (.tail _ (.tail _ (.tail _ (.tail _ (.tail _ (.tail _ (.tail _ (.tail _ (.tail _ (.tail _ (hq)))))))))))))))))))
 case r2 => exact off_fresh (l := [(le, W.listOf ve.toArray ne), (xe, instObj 182 dxe), (dxe, hdD w.params toe le), (lt, W.listOf vt.toArray nt), (xt, instObj 182 dxt), (dxt, hdD w.params tot lt), (lr, W.listOf vr.toArray nr), (lw, W.listOf vw.toArray nw), (ln, W.listOf vn.toArray nn), (L + 1 + 1 + 1 + 1 + 1 + 1 + 1 + 1, q8), (L + 1 + 1 + 1 + 1 + 1 + 1 + 1, q7), (L + 1 + 1 + 1 + 1 + 1 + 1, q6), (L + 1 + 1 + 1 + 1 + 1, q5), (L + 1 + 1 + 1 + 1, q4), (L + 1 + 1 + 1, q3), (L + 1 + 1, q2), (L + 1, q1)]) (R := R) hfa
 case r3 => exact HItL.append (.cons (.head _) .nil) (hT.mono fun p hp => .tail _ hp)
end turnDN
theorem turnDH : turnDS (gen LPE turnDS) := by with_unfolding_all exact @turnDN.main
theorem turnD {w dp un gd outer A₀ base L s p loose mean mg mb E g sl fa cdv le xe dxe lt xt dxt lr lw ln toe tot ve vt vr vw vn ne nt nr nw nn q1 q2 q3 q4 q5 q6 q7 q8 R n tn ns om on sh tsh tnm twt tl rowsE} : turnDQ w dp un gd outer A₀ base L s p loose mean mg mb E g sl fa cdv le xe dxe lt xt dxt lr lw ln toe tot ve vt vr vw vn ne nt nr nw nn q1 q2 q3 q4 q5 q6 q7 q8 R n tn ns om on sh tsh tnm twt tl rowsE := @all_gen LP LPE turnDS @turnDH { lp0 with w, dp, un, gd, outer, A₀, base, L, s, p, loose, mean, mg, mb, E, g, sl, fa, cdv, le, xe, dxe, lt, xt, dxt, lr, lw, ln, toe, tot, ve, vt, vr, vw, vn, ne, nt, nr, nw, nn, q1, q2, q3, q4, q5, q6, q7, q8, R, n, tn, ns, om, on, sh, tsh, tnm, twt, tl, rowsE }
end
theorem news_mid {g h : Heap} {L : Addr} {a b c : List (Addr × Obj)} (N : News g L h (a ++ (b ++ c))) : News g L h (b ++ (a ++ c)) := fun p hp => N p (by simp only [List.mem_append] at hp ⊢; rcases hp with h | h | h <;> simp [h])
theorem four_parts {α : Type} {X : List α} (h : X.length = 11) : X = (X.drop 0).take 6 ++ ((X.drop 6).take 3 ++ ((X.drop 9).take 1 ++ (X.drop 10).take 1)) := by
 have e1 : (X.drop 10).take 1 = X.drop 10 := List.take_of_length_le (by rw [List.length_drop, h]; decide)
 have e2 : (X.drop 9).take 1 ++ X.drop 10 = X.drop 9 := by
   have := List.take_append_drop 1 (X.drop 9)
   rwa [List.drop_drop] at this
 have e3 : (X.drop 6).take 3 ++ X.drop 9 = X.drop 6 := by
   have := List.take_append_drop 3 (X.drop 6)
   rwa [List.drop_drop] at this
 rw [e1, e2, e3, List.drop_zero, List.take_append_drop]
theorem LocM.formA {xt xe : Addr} {bl m : Str -> Option Value} {on : Option Value} (h : LocM xt xe bl m) : (fun y : Str => if y = "n" then on else m y) = fun (y : Str) => if y = "n" then on else if y = "spelled" then m y else if y = "head" then m y else if y = "mark" then m y else if y = "name" then m y else if y = "want" then m y else if y = "ready" then m y else if y = "bare" then m y else if y = "shown" then m y else if y = "table" then some (.ref xt) else if y = "every" then some (.ref xe) else bl y := by
 obtain ⟨h1, h2, h3⟩ := h
 funext y
 by_cases e0 : y = "n"
 . rw [if_pos e0, if_pos e0]
 rw [if_neg e0, if_neg e0]
 by_cases e1 : y = "spelled"
 . rw [if_pos e1]
 rw [if_neg e1]
 by_cases e2 : y = "head"
 . rw [if_pos e2]
 rw [if_neg e2]
 by_cases e3 : y = "mark"
 . rw [if_pos e3]
 rw [if_neg e3]
 by_cases e4 : y = "name"
 . rw [if_pos e4]
 rw [if_neg e4]
 by_cases e5 : y = "want"
 . rw [if_pos e5]
 rw [if_neg e5]
 by_cases e6 : y = "ready"
 . rw [if_pos e6]
 rw [if_neg e6]
 by_cases e7 : y = "bare"
 . rw [if_pos e7]
 rw [if_neg e7]
 by_cases e8 : y = "shown"
 . rw [if_pos e8]
 rw [if_neg e8]
 by_cases e9 : y = "table"
 . rw [if_pos e9, e9, h1]
 rw [if_neg e9]
 by_cases e10 : y = "every"
 . rw [if_pos e10, e10, h2]
 rw [if_neg e10]
 exact h3 y e0 e1 e2 e3 e4 e5 e6 e7 e8 e9 e10
structure RowOk (n : Int) : Prop where
 h0 : 0 <= n
 h1 : n < 1000000
 hb1 : ∀ c ∈ (spelledZ n).cps.toList, inB1 c = ((⟨#[c]⟩ : Str) == noZ n)
 hmp : ∀ c ∈ (spelledZ n).cps.toList, (∃ t', b3get c = some (.str (mapZ c) t')) \/ (b3get c = none /\ Txt.lower ⟨#[c]⟩ = mapZ c)
 hrdy : Txt.join "" (((spelledZ n).cps.toList.filter (fun c => !((⟨#[c]⟩ : Str) == noZ n))).map mapZ) = readyZ n
 hst1 : stripZ (readyZ n) = nameZ n
 hst2 : stripZ (headZ n) = nameZ n
 hl1 : (spelledZ n).length <= 64
 hl2 : ((((spelledZ n).cps.toList.filter (fun c => !((⟨#[c]⟩ : Str) == noZ n))).map mapZ).map (·.length)).sum <= 4096
 hl3 : (nameZ n).length <= 2
 hl4 : (headZ n).length <= 16
 hl5 : (markZ n).length <= 4
 hl6 : (wantZ n).length <= 12
 hl7 : (Txt.upper (nameZ n)).length <= 2
 hwp : PlainT (wantZ n)
 hsh : ∀ i, ShOk (shownZ i (nameZ n))
 hsm : (samplesOf (wantZ n)).length <= 64
noncomputable def tabS (st : List (Str × Str) × Nat) (n : Int) : List (Str × Str) × Nat := (keepZ st.1 (shownZ st.2 (nameZ n)) (wantZ n) smpT, st.2 + 1)
noncomputable def evS (st : List (Str × Str) × Nat) (n : Int) : List (Str × Str) × Nat := (st.1 ++ [(shownZ st.2 (nameZ n), wantZ n)], st.2 + 1)
noncomputable def tabZ (ns : List Int) : List (Str × Str) := (ns.foldl tabS ([], 0)).1
noncomputable def evZ (ns : List Int) : List (Str × Str) := (ns.foldl evS ([], 0)).1
theorem tabS_n : ∀ (ns : List Int) (st : List (Str × Str) × Nat), (ns.foldl tabS st).2 = st.2 + ns.length
 | [], st => rfl
 | n :: ns, st => by rw [List.foldl_cons, tabS_n ns]; simp only [tabS, List.length_cons]; lia
theorem evS_n : ∀ (ns : List Int) (st : List (Str × Str) × Nat), (ns.foldl evS st).2 = st.2 + ns.length
 | [], st => rfl
 | n :: ns, st => by rw [List.foldl_cons, evS_n ns]; simp only [evS, List.length_cons]; lia
theorem tabZ_snoc (ns : List Int) (n : Int) : tabZ (ns ++ [n]) = keepZ (tabZ ns) (shownZ ns.length (nameZ n)) (wantZ n) smpT := by
 unfold tabZ
 rw [List.foldl_append, List.foldl_cons, List.foldl_nil]
 show keepZ _ (shownZ (ns.foldl tabS ([], 0)).2 (nameZ n)) _ _ = _
 rw [tabS_n]; simp
theorem evZ_snoc (ns : List Int) (n : Int) : evZ (ns ++ [n]) = evZ ns ++ [(shownZ ns.length (nameZ n), wantZ n)] := by
 unfold evZ
 rw [List.foldl_append, List.foldl_cons, List.foldl_nil]
 show _ ++ [(shownZ (ns.foldl evS ([], 0)).2 (nameZ n), _)] = _
 rw [evS_n]; simp
theorem keepZ_mem {its : List (Str × Str)} {nm wt : Str} {smp : Str -> Str} {p : Str × Str} (h : p ∈ keepZ its nm wt smp) : p ∈ its \/ (p.1 = nm /\ (p.2 = wt \/ p.2 ∈ its.map (·.2))) := by
 unfold keepZ at h
 split at h
 . rcases List.mem_append.mp h with h | h
   . exact .inl (List.mem_filter.mp h).1
   . obtain ⟨z, hz, rfl⟩ := List.mem_map.mp h
     refine .inr ⟨rfl, ?_⟩
     rcases List.mem_append.mp hz with hz | hz
     . have hz' := (List.mem_filter.mp hz).1
       unfold keptOf at hz'
       obtain ⟨q, hq, rfl⟩ := List.mem_map.mp hz'
       exact .inr (List.mem_map.mpr ⟨q, (List.mem_filter.mp hq).1, rfl⟩)
     . exact .inl (List.mem_singleton.mp hz)
 . exact .inl h
theorem filter_two {α : Type} (P : α -> Bool) : ∀ l : List α, (l.filter P).length + (l.filter (fun a => !P a)).length = l.length
 | [] => rfl
 | a :: l => by
   have ih := filter_two P l
   rw [List.filter_cons, List.filter_cons]
   cases h : P a <;> simp <;> lia
theorem keepZ_len (its : List (Str × Str)) (nm wt : Str) (smp : Str -> Str) : (keepZ its nm wt smp).length <= its.length + 1 := by
 unfold keepZ
 split
 . rw [List.length_append, List.length_map, List.length_append]
   have h1 := List.length_filter_le (fun z => !ellZ wt (smp z)) (keptOf its nm)
   have h2 : (keptOf its nm).length = (its.filter (fun kv => Txt.lower kv.1 == Txt.lower nm)).length := by unfold keptOf; rw [List.length_map]
   have h3 := filter_two (fun kv : Str × Str => Txt.lower kv.1 == Txt.lower nm) its
   have h4 : (its.filter (fun kv => Txt.lower kv.1 != Txt.lower nm)).length = (its.filter (fun a => !(Txt.lower a.1 == Txt.lower nm))).length := rfl
   simp only [List.length_cons, List.length_nil]
   lia
 . lia
theorem tabZ_len (ns : List Int) : (tabZ ns).length <= ns.length := by
 suffices h : ∀ (ns : List Int) (st : List (Str × Str) × Nat), (ns.foldl tabS st).1.length <= st.1.length + ns.length by
   have := h ns ([], 0); unfold tabZ; simpa using this
 intro ns
 induction ns with
 | nil => intro st; simp
 | cons n ns ih =>
   intro st
   have h1 := ih (tabS st n)
   have h2 := keepZ_len st.1 (shownZ st.2 (nameZ n)) (wantZ n) smpT
   rw [List.foldl_cons, List.length_cons]
   simp only [tabS] at h1 ⊢
   lia
theorem evZ_len (ns : List Int) : (evZ ns).length = ns.length := by
 suffices h : ∀ (ns : List Int) (st : List (Str × Str) × Nat), (ns.foldl evS st).1.length = st.1.length + ns.length by
   have := h ns ([], 0); unfold evZ; simpa using this
 intro ns
 induction ns with
 | nil => intro st; simp
 | cons n ns ih =>
   intro st
   have h1 := ih (evS st n)
   rw [List.foldl_cons, List.length_cons]
   simp only [evS, List.length_append, List.length_cons, List.length_nil] at h1 ⊢
   lia
theorem tabZ_mem (all : List Int) : ∀ (ns : List Int) (st : List (Str × Str) × Nat), (∀ k ∈ ns, k ∈ all) -> (∀ p ∈ st.1, (∃ k ∈ all, ∃ i, p.1 = shownZ i (nameZ k)) /\ p.2 ∈ all.map wantZ) -> ∀ p ∈ (ns.foldl tabS st).1, (∃ k ∈ all, ∃ i, p.1 = shownZ i (nameZ k)) /\ p.2 ∈ all.map wantZ
 | [], st, _, h => h
 | n :: ns, st, hn, h => by
   rw [List.foldl_cons]
   refine tabZ_mem all ns (tabS st n) (fun k hk => hn k (.tail _ hk)) fun p hp => ?_
   rcases keepZ_mem hp with hp | ⟨e, hp⟩
   . exact h p hp
   . refine ⟨⟨n, hn n (.head _), st.2, e⟩, ?_⟩
     rcases hp with hp | hp
     . rw [hp]; exact List.mem_map.mpr ⟨n, hn n (.head _), rfl⟩
     . obtain ⟨q, hq, e2⟩ := List.mem_map.mp hp
       rw [<- e2]; exact (h q hq).2
theorem tabZ_in {ns : List Int} {p : Str × Str} (hp : p ∈ tabZ ns) : (∃ k ∈ ns, ∃ i, p.1 = shownZ i (nameZ k)) /\ p.2 ∈ ns.map wantZ := tabZ_mem ns ns ([], 0) (fun _ h => h) (fun _ h => nomatch h) p hp
noncomputable def LawSt (w : World) (L le xe dxe lt xt dxt lr lw ln : Addr) (toe tot : Tok) (q1 q2 q3 q5 q6 q7 q8 : Obj) (kp : Addr × Obj) (ns : List Int) (nx : List (Addr × Obj)) : Prop :=
 ∃ ve vt vr vw vn ne nt nr nw nn q4 v4 tl, nx = [(le, W.listOf (List.toArray ve) ne), (xe, instObj 182 dxe), (dxe, hdD w.params toe le), (lt, W.listOf (List.toArray vt) nt), (xt, instObj 182 dxt), (dxt, hdD w.params tot lt), (lr, W.listOf (List.toArray vr) nr), (lw, W.listOf (List.toArray vw) nw), (ln, W.listOf (List.toArray vn) nn), (L + 1 + 1 + 1 + 1 + 1 + 1 + 1 + 1, q8), (L + 1 + 1 + 1 + 1 + 1 + 1 + 1, q7), (L + 1 + 1 + 1 + 1 + 1 + 1, q6), (L + 1 + 1 + 1 + 1 + 1, q5), (L + 1 + 1 + 1 + 1, q4), (L + 1 + 1 + 1, q3), (L + 1 + 1, q2), (L + 1, q1)] ++ tl /\ q4.data = Data.cell v4 /\ kp ∈ tl /\ OwnOff tl [le, xe, dxe, lt, xt, dxt, lr, lw, ln, L + 1 + 1 + 1 + 1 + 1 + 1 + 1 + 1, L + 1 + 1 + 1 + 1 + 1 + 1 + 1, L + 1 + 1 + 1 + 1 + 1 + 1, L + 1 + 1 + 1 + 1 + 1, L + 1 + 1 + 1 + 1, L + 1 + 1 + 1, L + 1 + 1, L + 1] /\ StrsAre vn (ns.map nameZ) /\ StrsAre vw (ns.map wantZ) /\ RdsL w tl vr (ns.map wantZ) /\ HItL tl vt (tabZ ns) /\ HItL tl ve (evZ ns)
section
noncomputable abbrev turn_allQ (w : World) (dp un : Nat) (gd : Option (List Code)) (outer : List Env) (A₀ : Around) (base : Heap) (L : Addr) (s : Shared) (p : Program) (loose : List Str) (mean : ExcName -> Option Value) (mg mb : Str -> Option Value) (E : Value -> Shared -> Prop) (g : Heap) (sl fa : Addr) (cdv : Value) (le xe dxe lt xt dxt lr lw ln : Addr) (toe tot : Tok) (q1 q2 q3 q5 q6 q7 q8 : Obj) (own : List (Addr × Obj)) (n : Int) (tn : Tok) (ns : List Int) (m₁ : Str -> Option Value) (kp : Addr × Obj) (Q : Flow -> Shared -> Prop) : Prop := ∀ {scope : Scope} {lb : List Stmt} {nx : List (Addr × Obj)} (RO : RowOk n) (hns : ns.length <= 5) (hall : ∀ k ∈ ns, RowOk k) (hlb : forBody ((fdB (stm pw_sr0088_01 22)).getD 2 (.Pass default)) = lb) (hlen : lb.length = 11) (hsc : fdS (stm pw_sr0088_01 22) = scope) (hE : PassesOwn (model pw_sr0088_01 w) (ktrTop dp un gd "law" scope L fa cdv (cellsFrom (L + 1) scope.names []) outer) (envOfC "law" scope L fa cdv) E) (C : Cx w dp un scope outer A₀ base g L (fun y => if y = "n" then some (.int n tn) else m₁ y) s.heap p loose mean mg mb 40) (M : LocM xt xe (bindL (envOfC "law" scope L fa cdv).kindOf [("script", .ref sl)] (fun _ => none)) m₁) (N : News g L s.heap (nx ++ own)) (St : LawSt w L le xe dxe lt xt dxt lr lw ln toe tot q1 q2 q3 q5 q6 q7 q8 kp ns nx) (off : OwnOff own (nx.map (·.1))) (hord : (@LT.lt Nat _ (L + 1 + 1 + 1 + 1 + 1 + 1 + 1 + 1) ln) /\ (@LT.lt Nat _ ln lw) /\ (@LT.lt Nat _ lw lr) /\ (@LT.lt Nat _ lr dxt) /\ (@LT.lt Nat _ dxt xt) /\ (@LT.lt Nat _ xt lt) /\ (@LT.lt Nat _ lt dxe) /\ (@LT.lt Nat _ dxe xe) /\ (@LT.lt Nat _ xe le)) (d1 : q1.data = Data.cell (some (Value.ref ln))) (d2 : q2.data = Data.cell (some (Value.ref lw))) (d3 : q3.data = Data.cell (some (Value.ref lr))), wpAny (model pw_sr0088_01 w) (ktrTop dp un gd "law" scope L fa cdv (cellsFrom (L + 1) scope.names []) outer) (execs lb (envOfC "law" scope L fa cdv)) (InvPostG g L (fun m' nx' => LocM xt xe (bindL (envOfC "law" scope L fa cdv).kindOf [("script", .ref sl)] (fun _ => none)) m' /\ LawSt w L le xe dxe lt xt dxt lr lw ln toe tot q1 q2 q3 q5 q6 q7 q8 kp (ns ++ [n]) nx') own s Q) E s
noncomputable def turn_allS (x : LP) : Prop := turn_allQ x.w x.dp x.un x.gd x.outer x.A₀ x.base x.L x.s x.p x.loose x.mean x.mg x.mb x.E x.g x.sl x.fa x.cdv x.le x.xe x.dxe x.lt x.xt x.dxt x.lr x.lw x.ln x.toe x.tot x.q1 x.q2 x.q3 x.q5 x.q6 x.q7 x.q8 x.own x.n x.tn x.ns x.m₁ x.kp x.Qx1
@[irreducible] noncomputable def turn_allC : LP := gen LPE turn_allS
namespace turn_allN
noncomputable section
 def w := turn_allC.w
 def dp := turn_allC.dp
 def un := turn_allC.un
 def outer := turn_allC.outer
 def A₀ := turn_allC.A₀
 def base := turn_allC.base
 def L := turn_allC.L
 def s := turn_allC.s
 def p := turn_allC.p
 def loose := turn_allC.loose
 def mean := turn_allC.mean
 def mg := turn_allC.mg
 def mb := turn_allC.mb
 def g := turn_allC.g
 def le := turn_allC.le
 def xe := turn_allC.xe
 def dxe := turn_allC.dxe
 def lt := turn_allC.lt
 def xt := turn_allC.xt
 def dxt := turn_allC.dxt
 def lr := turn_allC.lr
 def lw := turn_allC.lw
 def ln := turn_allC.ln
 def toe := turn_allC.toe
 def tot := turn_allC.tot
 def q1 := turn_allC.q1
 def q2 := turn_allC.q2
 def q3 := turn_allC.q3
 def q5 := turn_allC.q5
 def q6 := turn_allC.q6
 def q7 := turn_allC.q7
 def q8 := turn_allC.q8
 def own := turn_allC.own
 def n := turn_allC.n
 def tn := turn_allC.tn
 def ns := turn_allC.ns
end
theorem main : turn_allQ w dp un turn_allC.gd outer A₀ base L s p loose mean mg mb turn_allC.E g turn_allC.sl turn_allC.fa turn_allC.cdv le xe dxe lt xt dxt lr lw ln toe tot q1 q2 q3 q5 q6 q7 q8 own n tn ns turn_allC.m₁ turn_allC.kp turn_allC.Qx1 := by
 intro scope lb nx RO hns hall hlb hlen hsc hE C M N St off hord d1 d2 d3
 refine ex6 St fun ve vt vr vw vn ne hh => ?_
 refine ex7 hh fun nt nr nw nn q4 v4 tl hh => ?_
 (revert hh; refine aq2 fun eQ => ?_; subst eQ; refine aq8 fun d4 hkp offT hvn hvw hrd hT => ?_; intro hEv)
 have offO : OwnOff own [le, xe, dxe, lt, xt, dxt, lr, lw, ln, L + 1 + 1 + 1 + 1 + 1 + 1 + 1 + 1, L + 1 + 1 + 1 + 1 + 1 + 1 + 1, L + 1 + 1 + 1 + 1 + 1 + 1, L + 1 + 1 + 1 + 1 + 1, L + 1 + 1 + 1 + 1, L + 1 + 1 + 1, L + 1 + 1, L + 1] := fun p hp b hb => off p hp b (by rw [List.map_append]; exact List.mem_append_left _ hb)
 have offTO : ∀ p ∈ own, ∀ q ∈ tl, p.1 ≠ q.1 := fun p hp q hq => off p hp q.1 (by rw [List.map_append]; exact List.mem_append_right _ (List.mem_map.mpr ⟨q, hq, rfl⟩))
 have offR : OwnOff (tl ++ own) [le, xe, dxe, lt, xt, dxt, lr, lw, ln, L + 1 + 1 + 1 + 1 + 1 + 1 + 1 + 1, L + 1 + 1 + 1 + 1 + 1 + 1 + 1, L + 1 + 1 + 1 + 1 + 1 + 1, L + 1 + 1 + 1 + 1 + 1, L + 1 + 1 + 1 + 1, L + 1 + 1 + 1, L + 1 + 1, L + 1] := fun p hp b hb => (List.mem_append.mp hp).elim (fun h => offT p h b hb) (fun h => offO p h b hb)
 have N0 : News g L s.heap ((le, W.listOf ve.toArray ne) :: (xe, instObj 182 dxe) :: (dxe, hdD w.params toe le) :: (lt, W.listOf vt.toArray nt) :: (xt, instObj 182 dxt) :: (dxt, hdD w.params tot lt) :: (lr, W.listOf vr.toArray nr) :: (lw, W.listOf vw.toArray nw) :: (ln, W.listOf vn.toArray nn) :: (L + 1 + 1 + 1 + 1 + 1 + 1 + 1 + 1, q8) :: (L + 1 + 1 + 1 + 1 + 1 + 1 + 1, q7) :: (L + 1 + 1 + 1 + 1 + 1 + 1, q6) :: (L + 1 + 1 + 1 + 1 + 1, q5) :: (L + 1 + 1 + 1 + 1, q4) :: (L + 1 + 1 + 1, q3) :: (L + 1 + 1, q2) :: (L + 1, q1) :: (tl ++ own)) := fun p hp => N p (by rw [List.append_assoc]; exact hp)
 rw [four_parts hlen]
 subst hlb
 have hvl : vn.length <= 5 := by rw [hvn.length, List.length_map]; exact hns
 have hwl : vw.length <= 5 := by rw [hvw.length, List.length_map]; exact hns
 have hrl : vr.length <= 5 := by rw [hrd.len, List.length_map]; exact hns
 have CA := C
 rw [M.formA] at CA
 refine execs_split (wpAny_mono (turnA (on := none) rfl hsc hE CA N0 offR hord RO.h0 RO.h1 hns d1 v4 d4 hvn RO.hb1 RO.hmp RO.hrdy RO.hst1 RO.hst2 RO.hl1 RO.hl2 RO.hl3 RO.hl4 RO.hl5 RO.hl6 RO.hl7) ?_ fun _ _ e => e)
 (intro f s'; refine aq2 fun eQ => ?_; subst eQ; refine xq3 fun h1 tk1 m1 => ?_; refine aq2 fun eQ => ?_; subst eQ; refine aq3 fun F1 M1 => ?_; intro hh)
 refine ex5 hh fun q4' tsh tnm twt v4' hh => ?_
 (revert hh; refine aq5 fun d4' N1 s1 s2 => ?_; intro s3)
 have e1 := M1.form
 rw [s1, s2, s3] at e1
 have CB : Cx w dp un scope outer A₀ base g L _ h1 p loose mean mg mb 40 := ⟨C.B, Eq.mp (congrArg (Fr g L h1) e1) F1, C.X, C.T, C.hk, C.hd, C.hu⟩
 refine execs_split (wpAny_mono (turnB (tn := tn) (ns := ns) (s := { s with heap := h1, toks := tk1 }) rfl hsc hE CB N1 offR hord hns d1 d2 d3 hvl hwl hrl RO.hl6) ?_ fun _ _ e => e)
 (intro f s'; refine aq2 fun eQ => ?_; subst eQ; refine xq3 fun h2 tk2 m2 => ?_; refine aq2 fun eQ => ?_; subst eQ; refine aq3 fun F2 M2 => ?_; intro hh)
 refine ex7 hh fun rd sd tr1 tr2 tr3 od kvs hh => ?_
 (revert hh; refine aq9 fun hR offB hod hfp hsm N2 s1 s2 => ?_; intro s3)
 have e2 := M2.form
 rw [s1, s2, s3] at e2
 have CC : Cx w dp un scope outer A₀ base g L _ h2 p loose mean mg mb 40 := ⟨C.B, Eq.mp (congrArg (Fr g L h2) e2) F2, C.X, C.T, C.hk, C.hd, C.hu⟩
 have offR2 : OwnOff ((rd, rdTup (wantZ n) sd tr1 tr2 tr3) :: (sd, od) :: (tl ++ own)) [le, xe, dxe, lt, xt, dxt, lr, lw, ln, L + 1 + 1 + 1 + 1 + 1 + 1 + 1 + 1, L + 1 + 1 + 1 + 1 + 1 + 1 + 1, L + 1 + 1 + 1 + 1 + 1 + 1, L + 1 + 1 + 1 + 1 + 1, L + 1 + 1 + 1 + 1, L + 1 + 1 + 1, L + 1 + 1, L + 1] := by
   intro p hp b hb
   rcases List.mem_cons.mp hp with rfl | hp
   . exact offB _ (.head _) b hb
   . rcases List.mem_cons.mp hp with rfl | hp
     . exact offB _ (.tail _ (.head _)) b hb
     . exact offR p hp b hb
 have hsnoc : (ns ++ [n]).map wantZ = ns.map wantZ ++ [wantZ n] := by rw [List.map_append]; rfl
 have hvw2 : StrsAre (vw ++ [Value.str (wantZ n) twt]) ((ns ++ [n]).map wantZ) := by rw [hsnoc]; exact StrsAre.append' hvw (.cons _ _ .nil)
 have hvn2 : StrsAre (vn ++ [Value.str (nameZ n) tnm]) ((ns ++ [n]).map nameZ) := by rw [List.map_append]; exact StrsAre.append' hvn (.cons _ _ .nil)
 have hrd2 : RdsL w ((rd, rdTup (wantZ n) sd tr1 tr2 tr3) :: (sd, od) :: tl) (vr ++ [Value.ref rd]) ((ns ++ [n]).map wantZ) := by
   rw [hsnoc]
   exact RdsL.append (.cons (.head _) (.tail _ (.head _)) hod hfp hsm .nil) (hrd.mono fun p hp => .tail _ (.tail _ hp))
 have hT2 : HItL ((rd, rdTup (wantZ n) sd tr1 tr2 tr3) :: (sd, od) :: tl) vt (tabZ ns) := hT.mono fun p hp => .tail _ (.tail _ hp)
 have htl2 : ∀ p ∈ (rd, rdTup (wantZ n) sd tr1 tr2 tr3) :: (sd, od) :: tl, p ∈ (rd, rdTup (wantZ n) sd tr1 tr2 tr3) :: (sd, od) :: (tl ++ own) := by
   intro p hp
   rcases List.mem_cons.mp hp with rfl | hp
   . exact .head _
   . rcases List.mem_cons.mp hp with rfl | hp
     . exact .tail _ (.head _)
     . exact .tail _ (.tail _ (List.mem_append_left _ hp))
 have hallN : ∀ k ∈ ns ++ [n], RowOk k := fun k hk => (List.mem_append.mp hk).elim (hall k) fun h => (List.mem_singleton.mp h) ▸ RO
 have hws : ((ns ++ [n]).map wantZ).length <= 6 := by rw [List.length_map, List.length_append]; simp; lia
 have hsmp : ∀ z ∈ (ns ++ [n]).map wantZ, (samplesOf z).length <= 64 := by
   intro z hz
   obtain ⟨k, hk, rfl⟩ := List.mem_map.mp hz
   exact (hallN k hk).hsm
 have hin : wantZ n ∈ (ns ++ [n]).map wantZ := by rw [hsnoc]; simp
 have hsub : ∀ z ∈ ns.map wantZ, z ∈ (ns ++ [n]).map wantZ := fun z hz => by rw [hsnoc]; exact List.mem_append_left _ hz
 have hvt : vt.length <= 32 := by rw [hT.len]; have := tabZ_len ns; lia
 have hrT2 : ∀ p ∈ tabZ ns, p.1.length <= 16 /\ p.2.length <= 16 /\ PlainT p.2 := by
   intro p hp
   obtain ⟨⟨k, hk, i, e⟩, h2⟩ := tabZ_in hp
   obtain ⟨k2, hk2, e2⟩ := List.mem_map.mp h2
   have R2 := hall k2 hk2
   refine ⟨by rw [e]; exact ((hall k hk).hsh i).b, ?_, ?_⟩
   . rw [<- e2]; exact Nat.le_trans R2.hl6 (by decide)
   . rw [<- e2]; exact R2.hwp
 have hwt16 : (wantZ n).length <= 16 := Nat.le_trans RO.hl6 (by decide)
 refine execs_split (wpAny_mono (turnC (tn := tn) (ns := ns) (s := { s with heap := h2, toks := tk2 }) (rowsT := tabZ ns) rfl hsc hE CC (N2) offR2 hord d2 d3 hvw2 hws htl2 hrd2 hsmp hin hwt16 RO.hwp (RO.hsh ns.length) hT2 hvt (fun p hp => hsub _ (tabZ_in hp).2) hrT2) ?_ fun _ _ e => e)
 (intro f s'; refine aq2 fun eQ => ?_; subst eQ; refine xq3 fun h3 tk3 m3 => ?_; refine aq2 fun eQ => ?_; subst eQ; refine aq3 fun F3 M3 => ?_; refine xq3 fun tl' vt' nt' => ?_; refine aq8 fun hno hoff' hoffA N3 hT3 s1 s2 => ?_; intro s3)
 have e3 := M3.form
 rw [s1, s2, s3] at e3
 have CD : Cx w dp un scope outer A₀ base g L _ h3 p loose mean mg mb 40 := ⟨C.B, Eq.mp (congrArg (Fr g L h3) e3) F3, C.X, C.T, C.hk, C.hd, C.hu⟩
 have hve : ve.length <= 32 := by rw [hEv.len, evZ_len]; lia
 refine wpAny_mono (turnD (tn := tn) (ns := ns) (s := { s with heap := h3, toks := tk3 }) (tl := tl' ++ ((rd, rdTup (wantZ n) sd tr1 tr2 tr3) :: (sd, od) :: tl)) (R := tl' ++ ((rd, rdTup (wantZ n) sd tr1 tr2 tr3) :: (sd, od) :: (tl ++ own))) (rowsE := evZ ns) rfl hsc hE CD (news_mid (b := [(le, W.listOf ve.toArray ne), (xe, instObj 182 dxe), (dxe, hdD w.params toe le), (lt, W.listOf (List.toArray vt') nt'), (xt, instObj 182 dxt), (dxt, hdD w.params tot lt), (lr, W.listOf (vr ++ [Value.ref rd]).toArray (nr + 1)), (lw, W.listOf (vw ++ [Value.str (wantZ n) twt]).toArray (nw + 1)), (ln, W.listOf (vn ++ [Value.str (nameZ n) tnm]).toArray (nn + 1)), (L + 1 + 1 + 1 + 1 + 1 + 1 + 1 + 1, q8), (L + 1 + 1 + 1 + 1 + 1 + 1 + 1, q7), (L + 1 + 1 + 1 + 1 + 1 + 1, q6), (L + 1 + 1 + 1 + 1 + 1, q5), (L + 1 + 1 + 1 + 1, q4'), (L + 1 + 1 + 1, q3), (L + 1 + 1, q2), (L + 1, q1)]) N3) (fun p hp b hb => (List.mem_append.mp hp).elim (fun h => hoffA p h b hb) fun h => offR2 p h b hb) hord hwt16 RO.hwp (RO.hsh ns.length) hve (fun p hp => (List.mem_append.mp hp).elim (fun h => List.mem_append_left _ h) fun h => List.mem_append_right _ (htl2 p h)) (hEv.mono fun p hp => List.mem_append_right _ (.tail _ (.tail _ hp)))) ?_ fun _ _ e => e
 (intro f s'; refine aq2 fun eQ => ?_; subst eQ; refine xq3 fun h4 tk4 m4 => ?_; refine aq2 fun eQ => ?_; subst eQ; refine aq3 fun F4 M4 => ?_; refine xq4 fun T tkk1 tkk2 ne' => ?_; refine aq4 fun hTR hToff N4 => ?_; intro hE4)
 show InvEndG _ _ _ _ _ _
 refine InvEndG.intro (nx := [(le, W.listOf (ve ++ [Value.ref T]).toArray ne'), (xe, instObj 182 dxe), (dxe, hdD w.params toe le), (lt, W.listOf (List.toArray vt') nt'), (xt, instObj 182 dxt), (dxt, hdD w.params tot lt), (lr, W.listOf (vr ++ [Value.ref rd]).toArray (nr + 1)), (lw, W.listOf (vw ++ [Value.str (wantZ n) twt]).toArray (nw + 1)), (ln, W.listOf (vn ++ [Value.str (nameZ n) tnm]).toArray (nn + 1)), (L + 1 + 1 + 1 + 1 + 1 + 1 + 1 + 1, q8), (L + 1 + 1 + 1 + 1 + 1 + 1 + 1, q7), (L + 1 + 1 + 1 + 1 + 1 + 1, q6), (L + 1 + 1 + 1 + 1 + 1, q5), (L + 1 + 1 + 1 + 1, q4'), (L + 1 + 1 + 1, q3), (L + 1 + 1, q2), (L + 1, q1)] ++ ((T, hdrTup (shownZ ns.length (nameZ n)) tkk1 (wantZ n) tkk2) :: (tl' ++ ((rd, rdTup (wantZ n) sd tr1 tr2 tr3) :: (sd, od) :: tl)))) F4 N4 ⟨M4, ve ++ [Value.ref T], vt', vr ++ [Value.ref rd], vw ++ [Value.str (wantZ n) twt], vn ++ [Value.str (nameZ n) tnm], ne', nt', nr + 1, nw + 1, nn + 1, q4', v4', _, rfl, d4', ?k, ?o, hvn2, hvw2, hrd2.mono ?m1, ?t, ?e⟩ ?ha ?hn ?ho
 case k => exact .tail _ (List.mem_append_right _ (.tail _ (.tail _ hkp)))
 case o =>
   intro p hp b hb
   rcases List.mem_cons.mp hp with rfl | hp
   . exact hToff _ (.head _) b hb
   . rcases List.mem_append.mp hp with hp | hp
     . exact hoffA p hp b hb
     . exact offR2 p (htl2 p hp) b hb
 case m1 => exact fun p hp => .tail _ (List.mem_append_right _ hp)
 case t => rw [tabZ_snoc]; exact hT3.mono fun p hp => .tail _ hp
 case e => rw [evZ_snoc]; exact hE4
 case ha =>
   intro p hp b hb
   rw [List.map_append] at hb
   rcases List.mem_append.mp hb with hb | hb
   . exact offO p hp b hb
   . obtain ⟨q, hq, rfl⟩ := List.mem_map.mp hb
     rcases List.mem_cons.mp hq with rfl | hq
     . exact Ne.symm (hTR p (List.mem_append_right _ (.tail _ (.tail _ (List.mem_append_right _ hp)))))
     . rcases List.mem_append.mp hq with hq | hq
       . exact Ne.symm (hoff' q hq p (.tail _ (.tail _ (List.mem_append_right _ hp))))
       . rcases List.mem_cons.mp hq with rfl | hq
         . exact (hR p (List.mem_append_right _ hp)).1
         . rcases List.mem_cons.mp hq with rfl | hq
           . exact (hR p (List.mem_append_right _ hp)).2
           . exact offTO p hp q hq
 case hn =>
   intro p hp
   have inR : p ∈ (tl' ++ ((rd, rdTup (wantZ n) sd tr1 tr2 tr3) :: (sd, od) :: (tl ++ own))) -> p ∈ (T, hdrTup (shownZ ns.length (nameZ n)) tkk1 (wantZ n) tkk2) :: ([(le, W.listOf (ve ++ [Value.ref T]).toArray ne'), (xe, instObj 182 dxe), (dxe, hdD w.params toe le), (lt, W.listOf (List.toArray vt') nt'), (xt, instObj 182 dxt), (dxt, hdD w.params tot lt), (lr, W.listOf (vr ++ [Value.ref rd]).toArray (nr + 1)), (lw, W.listOf (vw ++ [Value.str (wantZ n) twt]).toArray (nw + 1)), (ln, W.listOf (vn ++ [Value.str (nameZ n) tnm]).toArray (nn + 1)), (L + 1 + 1 + 1 + 1 + 1 + 1 + 1 + 1, q8), (L + 1 + 1 + 1 + 1 + 1 + 1 + 1, q7), (L + 1 + 1 + 1 + 1 + 1 + 1, q6), (L + 1 + 1 + 1 + 1 + 1, q5), (L + 1 + 1 + 1 + 1, q4'), (L + 1 + 1 + 1, q3), (L + 1 + 1, q2), (L + 1, q1)] ++ (tl' ++ ((rd, rdTup (wantZ n) sd tr1 tr2 tr3) :: (sd, od) :: (tl ++ own)))) := fun h => .tail _ (List.mem_append_right _ h)
   rcases List.mem_append.mp hp with hp | hp
   . exact (List.mem_cons_of_mem _ (List.mem_append_left (tl' ++ ((rd, rdTup (wantZ n) sd tr1 tr2 tr3) :: (sd, od) :: (tl ++ own))) hp) : p ∈ (T, hdrTup (shownZ ns.length (nameZ n)) tkk1 (wantZ n) tkk2) :: ([(le, W.listOf (ve ++ [Value.ref T]).toArray ne'), (xe, instObj 182 dxe), (dxe, hdD w.params toe le), (lt, W.listOf (List.toArray vt') nt'), (xt, instObj 182 dxt), (dxt, hdD w.params tot lt), (lr, W.listOf (vr ++ [Value.ref rd]).toArray (nr + 1)), (lw, W.listOf (vw ++ [Value.str (wantZ n) twt]).toArray (nw + 1)), (ln, W.listOf (vn ++ [Value.str (nameZ n) tnm]).toArray (nn + 1)), (L + 1 + 1 + 1 + 1 + 1 + 1 + 1 + 1, q8), (L + 1 + 1 + 1 + 1 + 1 + 1 + 1, q7), (L + 1 + 1 + 1 + 1 + 1 + 1, q6), (L + 1 + 1 + 1 + 1 + 1, q5), (L + 1 + 1 + 1 + 1, q4'), (L + 1 + 1 + 1, q3), (L + 1 + 1, q2), (L + 1, q1)] ++ (tl' ++ ((rd, rdTup (wantZ n) sd tr1 tr2 tr3) :: (sd, od) :: (tl ++ own)))))
   . rcases List.mem_cons.mp hp with rfl | hp
     . exact .head _
     . rcases List.mem_append.mp hp with hp | hp
       . exact inR (List.mem_append_left _ hp)
       . exact inR (List.mem_append_right _ (htl2 p hp))
 case ho => exact fun p hp => (List.mem_cons_of_mem _ (List.mem_append_right [(le, W.listOf (ve ++ [Value.ref T]).toArray ne'), (xe, instObj 182 dxe), (dxe, hdD w.params toe le), (lt, W.listOf (List.toArray vt') nt'), (xt, instObj 182 dxt), (dxt, hdD w.params tot lt), (lr, W.listOf (vr ++ [Value.ref rd]).toArray (nr + 1)), (lw, W.listOf (vw ++ [Value.str (wantZ n) twt]).toArray (nw + 1)), (ln, W.listOf (vn ++ [Value.str (nameZ n) tnm]).toArray (nn + 1)), (L + 1 + 1 + 1 + 1 + 1 + 1 + 1 + 1, q8), (L + 1 + 1 + 1 + 1 + 1 + 1 + 1, q7), (L + 1 + 1 + 1 + 1 + 1 + 1, q6), (L + 1 + 1 + 1 + 1 + 1, q5), (L + 1 + 1 + 1 + 1, q4'), (L + 1 + 1 + 1, q3), (L + 1 + 1, q2), (L + 1, q1)] (List.mem_append_right _ (.tail _ (.tail _ (List.mem_append_right _ hp))))) : p ∈ (T, hdrTup (shownZ ns.length (nameZ n)) tkk1 (wantZ n) tkk2) :: ([(le, W.listOf (ve ++ [Value.ref T]).toArray ne'), (xe, instObj 182 dxe), (dxe, hdD w.params toe le), (lt, W.listOf (List.toArray vt') nt'), (xt, instObj 182 dxt), (dxt, hdD w.params tot lt), (lr, W.listOf (vr ++ [Value.ref rd]).toArray (nr + 1)), (lw, W.listOf (vw ++ [Value.str (wantZ n) twt]).toArray (nw + 1)), (ln, W.listOf (vn ++ [Value.str (nameZ n) tnm]).toArray (nn + 1)), (L + 1 + 1 + 1 + 1 + 1 + 1 + 1 + 1, q8), (L + 1 + 1 + 1 + 1 + 1 + 1 + 1, q7), (L + 1 + 1 + 1 + 1 + 1 + 1, q6), (L + 1 + 1 + 1 + 1 + 1, q5), (L + 1 + 1 + 1 + 1, q4'), (L + 1 + 1 + 1, q3), (L + 1 + 1, q2), (L + 1, q1)] ++ (tl' ++ ((rd, rdTup (wantZ n) sd tr1 tr2 tr3) :: (sd, od) :: (tl ++ own)))))
end turn_allN
theorem turn_allH : turn_allS (gen LPE turn_allS) := by with_unfolding_all exact @turn_allN.main
theorem turn_all {w dp un gd outer A₀ base L s p loose mean mg mb E g sl fa cdv le xe dxe lt xt dxt lr lw ln toe tot q1 q2 q3 q5 q6 q7 q8 own n tn ns m₁ kp Q} : turn_allQ w dp un gd outer A₀ base L s p loose mean mg mb E g sl fa cdv le xe dxe lt xt dxt lr lw ln toe tot q1 q2 q3 q5 q6 q7 q8 own n tn ns m₁ kp Q := @all_gen LP LPE turn_allS @turn_allH { lp0 with w, dp, un, gd, outer, A₀, base, L, s, p, loose, mean, mg, mb, E, g, sl, fa, cdv, le, xe, dxe, lt, xt, dxt, lr, lw, ln, toe, tot, q1, q2, q3, q5, q6, q7, q8, own, n, tn, ns, m₁, kp, Qx1 := Q }
end
noncomputable def FEnd (h₀ : Heap) (L : Addr) (J : (Str -> Option Value) -> List (Addr × Obj) -> Prop) (I : Addr) (oI : Obj) (s₁ : Shared) (Q : Flow -> Shared -> Prop) (f : Flow) (s₂ : Shared) : Prop :=
 match f with
 | .ret v => Q (.ret v) s₂
 | .brk => Q .next s₂
 | _ => ∃ h' tk' m' rest', s₂ = { s₁ with heap := h', toks := tk' } /\ Fr h₀ L h' m' /\ News h₀ L h' ((I, oI) :: rest') /\ (∀ p ∈ rest', p.1 ≠ I) /\ J m' rest'
section
variable {prog : Program} {w : World} {A : Around} {E : Value -> Shared -> Prop} {s : Shared} {env : Env} {h₀ : Heap} {tgt iter : Expr} {body : List Stmt} {Q : Flow -> Shared -> Prop}
noncomputable def LoopAtG (prog : Program) (w : World) (A : Around) (h₀ : Heap) (env : Env) (tgt : Expr) (body : List Stmt) (Q : Flow -> Shared -> Prop) (E : Value -> Shared -> Prop) (it : Value) (s₂ : Shared) : Prop :=
 ∃ (I : Addr) (fp : List Addr) (n : Nat) (P : Nat -> Value -> Prop) (St : Nat -> Heap -> Prop) (m : Str -> Option Value) (rest : List (Addr × Obj)) (J : Nat -> (Str -> Option Value) -> List (Addr × Obj) -> Prop),
   it = .ref I /\ Walks prog w A I fp [I] n P St /\ (∀ i h, St i h -> ∃ o, h.get? I = some o) /\ h₀.get? I = none /\ env.locals ≠ I /\ (∀ p ∈ rest, p.1 ≠ I) /\ St 0 s₂.heap /\ Fr h₀ env.locals s₂.heap m /\ News h₀ env.locals s₂.heap rest /\ J 0 m rest /\
   (∀ i v m₁ rest₁ oI h tk, i < n -> P i v -> J i m₁ rest₁ -> (∀ p ∈ rest₁, p.1 ≠ I) -> St (i + 1) h -> Fr h₀ env.locals h m₁ -> News h₀ env.locals h ((I, oI) :: rest₁) ->
     wpAny (model prog w) A (letOwnedTupleGo tgt (.ref I) v) (fun _ s' => wpAny (model prog w) A (assign tgt env v) (fun _ s'' => wpAny (model prog w) A (execs body env) (fun f s₃ => FEnd h₀ env.locals (fun m' r' => J (i + 1) m' r' /\ ∀ h', News h₀ env.locals h' r' -> (∃ o, h'.get? I = some o /\ h.get? I = some o) -> St (i + 1) h') I oI { s₂ with heap := h, toks := tk } Q f s₃) E s'') E s') E { s₂ with heap := h, toks := tk }) /\
   ∀ m₁ rest₁ h tk, J n m₁ rest₁ -> Fr h₀ env.locals h m₁ -> News h₀ env.locals h rest₁ -> (∀ p ∈ rest₁, p.1 ≠ I) -> Q .next { s₂ with heap := h, toks := tk }
end
section
noncomputable abbrev For_GQ (prog : Program) (w : World) (A : Around) (E : Value -> Shared -> Prop) (s : Shared) (env : Env) (h₀ : Heap) (tgt iter : Expr) (body : List Stmt) (Q : Flow -> Shared -> Prop) (pos : Pos) : Prop := ∀ (h : wpAny (model prog w) A (eval iter env) (fun xv s₁ => wpAny (model prog w) A (pyIter xv) (fun it s₂ => LoopAtG prog w A h₀ env tgt body Q E it s₂) E s₁) E s) (hs : ∀ x, foldedSetIterable iter env x = pure x := by intro _; rfl) (hE : PassesOwn (model prog w) A env E := by passes_own), wpAny (model prog w) A (exec (.For tgt iter body [] pos) env) Q E s
noncomputable def For_GS (x : LP) : Prop := For_GQ x.prog x.w x.A x.E x.s x.env x.h₀ x.tgt x.iter x.body x.Qx1 x.pos
@[irreducible] noncomputable def For_GC : LP := gen LPE For_GS
namespace For_GN
noncomputable section
 def env := For_GC.env
 def h₀ := For_GC.h₀
end
theorem main : For_GQ For_GC.prog For_GC.w For_GC.A For_GC.E For_GC.s env h₀ For_GC.tgt For_GC.iter For_GC.body For_GC.Qx1 For_GC.pos := by
 intro h hs hE
 refine wpAny_For (wpAny_mono h (fun xv s₁ h₁ => wpAny_mono h₁ (fun it s₂ h₂ => ?_) fun _ _ e => e) fun _ _ e => e) hs
 (revert h₂; refine xq8 fun I fp n P St m rest J => ?_; refine aq2 fun eQ => ?_; subst eQ; refine aq9 fun W hIo hI₀ hLI hnr hst F N => ?_; refine aq3 fun h0 step => ?_; intro hQ)
 refine codeAny_forLoop_any
   (fun k s' => ∃ h' tk m' rest' i, s' = { s₂ with heap := h', toks := tk } /\ St i h' /\ Fr h₀ env.locals h' m' /\ News h₀ env.locals h' rest' /\ (∀ p ∈ rest', p.1 ≠ I) /\ J i m' rest' /\ i <= n /\ k = n + 1 - i) ?_ (n + 1)
   ⟨s₂.heap, s₂.toks, m, rest, 0, rfl, hst, F, N, hnr, h0, Nat.zero_le _, rfl⟩
 (intro k s'; refine xq5 fun h' tk m' rest' i => ?_; refine aq2 fun eQ => ?_; subst eQ; refine aq7 fun hst' F' N' hnr' hJ hi => ?_; rintro rfl)
 have next : ∀ h₁ : Heap, (∀ b o, b ∉ [I] -> h'.get? b = some o -> h₁.get? b = some o) -> Fr h₀ env.locals h₁ m' /\ News h₀ env.locals h₁ rest' := fun h₁ hk₁ =>
   ⟨⟨F'.ns.at' fun o e => hk₁ _ o (by simpa using hLI) e, fun b o e => hk₁ b o (fun q => by rw [List.mem_singleton.mp q, hI₀] at e; cases e) (F'.keep b o e), F'.above⟩, fun p hp => ⟨hk₁ _ _ (by simpa using hnr' p hp) (N' p hp).1, (N' p hp).2⟩⟩
 by_cases hlt : i < n
 . refine W.item i _ _ _ hlt hst' fun v h₁ tk₁ hP hst₁ hk₁ => ?_
   obtain ⟨F₁, N₁⟩ := next h₁ hk₁
   obtain ⟨oI, hoI⟩ := hIo _ _ hst₁
   have N₂ : News h₀ env.locals h₁ ((I, oI) :: rest') := fun p hp => by
     rcases List.mem_cons.mp hp with rfl | hp
     . exact ⟨hoI, Ne.symm hLI, hI₀⟩
     . exact N₁ p hp
   refine wpAny_passesOwn hE (wpAny_mono (step i v m' rest' oI h₁ tk₁ hlt hP hJ hnr' hst₁ F₁ N₂) (fun _ s' q => ?_) fun _ _ e => e)
   refine wpAny_passesOwn hE (wpAny_mono q (fun _ s'' q => ?_) fun _ _ e => e)
   refine wpAny_passesOwn hE (wpAny_mono q (fun f s₃ q => ?_) fun _ _ e => e)
   cases f with
   | ret v => exact q
   | brk => exact q
   | cont =>
     (revert q; refine xq4 fun h₃ tk₃ m₃ rest₃ => ?_; refine aq2 fun eQ => ?_; subst eQ; refine aq5 fun F₃ N₃ hn₃ hJ₃ => ?_; intro hS₃)
     exact ⟨n + 1 - (i + 1), by lia, h₃, tk₃, m₃, rest₃, i + 1, rfl, hS₃ h₃ (fun p hp => N₃ p (.tail _ hp)) ⟨oI, (N₃ _ (.head _)).1, hoI⟩, F₃, fun p hp => N₃ p (.tail _ hp), hn₃, hJ₃, hlt, rfl⟩
   | next =>
     (revert q; refine xq4 fun h₃ tk₃ m₃ rest₃ => ?_; refine aq2 fun eQ => ?_; subst eQ; refine aq5 fun F₃ N₃ hn₃ hJ₃ => ?_; intro hS₃)
     exact ⟨n + 1 - (i + 1), by lia, h₃, tk₃, m₃, rest₃, i + 1, rfl, hS₃ h₃ (fun p hp => N₃ p (.tail _ hp)) ⟨oI, (N₃ _ (.head _)).1, hoI⟩, F₃, fun p hp => N₃ p (.tail _ hp), hn₃, hJ₃, hlt, rfl⟩
 . have hin : i = n := by lia
   subst hin
   refine W.done _ _ _ hst' fun h₁ tk₁ hk₁ => wpAny_execs_nil ?_
   obtain ⟨F₁, N₁⟩ := next h₁ hk₁
   exact hQ m' rest' h₁ tk₁ hJ F₁ N₁ hnr'
end For_GN
theorem For_GH : For_GS (gen LPE For_GS) := by with_unfolding_all exact @For_GN.main
theorem For_G {prog w A E s env h₀ tgt iter body Q pos} : For_GQ prog w A E s env h₀ tgt iter body Q pos := @all_gen LP LPE For_GS @For_GH { lp0 with prog, w, A, E, s, env, h₀, tgt, iter, body, Qx1 := Q, pos }
end
section
variable {prog : Program} {w : World} {A : Around} {E : Value -> Shared -> Prop} {s : Shared} {env : Env} {h₀ : Heap} {tgt iter : Expr} {body : List Stmt} {Q : Flow -> Shared -> Prop}
theorem rangeG {r : Addr} {n : Nat} {t₀ u₀ v₀ : Tok} {m : Str -> Option Value} {rest : List (Addr × Obj)} (J : Nat -> (Str -> Option Value) -> List (Addr × Obj) -> Prop)
   (hh : A.handled = none) (hr : IsRange s.heap r 0 n 1 t₀ u₀ v₀) (hn : n <= 4096) (F : Fr h₀ env.locals s.heap m) (N : News h₀ env.locals s.heap rest) (h0 : J 0 m rest)
   (turn : ∀ i t m₁ rest₁ I oI h tk, i < n -> J i m₁ rest₁ -> (∀ p ∈ rest₁, p.1 ≠ I) -> Fr h₀ env.locals h m₁ -> News h₀ env.locals h ((I, oI) :: rest₁) ->
     wpAny (model prog w) A (letOwnedTupleGo tgt (.ref I) (.int i t)) (fun _ s' => wpAny (model prog w) A (assign tgt env (.int i t)) (fun _ s'' => wpAny (model prog w) A (execs body env) (fun f s₃ => FEnd h₀ env.locals (J (i + 1)) I oI { s with heap := h, toks := tk } Q f s₃) E s'') E s') E { s with heap := h, toks := tk })
   (done : ∀ m₁ rest₁ h tk, J n m₁ rest₁ -> Fr h₀ env.locals h m₁ -> News h₀ env.locals h rest₁ -> Q .next { s with heap := h, toks := tk }) :
   wpAny (model prog w) A (pyIter (.ref r)) (fun it s₂ => LoopAtG prog w A h₀ env tgt body Q E it s₂) E s := by
 have hsz : Builtin.Range.rangeSize 0 (n : Int) 1 = (n : Int) := by simp [Builtin.Range.rangeSize]; lia
 refine wpAny_pyIter_range hr (small_one (by decide) (by decide) (by lia) (by lia)) ?_
 have W := PyProof.Rows.LCg.range_walks (prog := prog) (w := w) (I := s.heap.objs.size) hh 0 n
 refine ⟨s.heap.objs.size, _, n, _, _, m, rest, J, rfl, W, fun i h st => ⟨_, st⟩, next_is_new F, Nat.ne_of_lt F.ns.lt, fun p hp => Nat.ne_of_lt (Heap.lt_size (N p hp).1), ?_, F.push _, N.grown fun _ _ e => Heap.get?_push_of_some _ e, h0, ?_, ?_⟩
 . show IsRangeIter _ _ _ _ _
   rw [hsz]; simpa using Heap.get?_push_size _ rfl
 . rintro i v m₁ rest₁ oI h tk hi ⟨t, rfl⟩ hJ hnr hst F₁ N₁
   rw [Int.zero_add]
   refine wpAny_mono (turn i t m₁ rest₁ s.heap.objs.size oI h tk hi hJ hnr F₁ N₁) (fun _ s' q => wpAny_mono q (fun _ s'' q => wpAny_mono q (fun f s₃ q => ?_) fun _ _ e => e) fun _ _ e => e) fun _ _ e => e
   cases f with
   | ret v => exact q
   | brk => exact q
   | cont =>
     (revert q; refine xq4 fun h₃ tk₃ m₃ rest₃ => ?_; refine aq2 fun eQ => ?_; subst eQ; refine aq4 fun F₃ N₃ hn₃ => ?_; intro hJ₃)
     refine ⟨h₃, tk₃, m₃, rest₃, rfl, F₃, N₃, hn₃, hJ₃, fun h' _ ⟨o, e1, e2⟩ => ?_⟩
     have st' : h.get? s.heap.objs.size = _ := hst
     rw [e2] at st'
     exact e1.trans st'
   | next =>
     (revert q; refine xq4 fun h₃ tk₃ m₃ rest₃ => ?_; refine aq2 fun eQ => ?_; subst eQ; refine aq4 fun F₃ N₃ hn₃ => ?_; intro hJ₃)
     refine ⟨h₃, tk₃, m₃, rest₃, rfl, F₃, N₃, hn₃, hJ₃, fun h' _ ⟨o, e1, e2⟩ => ?_⟩
     have st' : h.get? s.heap.objs.size = _ := hst
     rw [e2] at st'
     exact e1.trans st'
 . exact fun m₁ rest₁ h tk hJ F₁ N₁ _ => done m₁ rest₁ h tk hJ F₁ N₁
theorem listG {l : Addr} {vs : List Value} {nn : Nat} {m : Str -> Option Value} {rest : List (Addr × Obj)} (J : Nat -> (Str -> Option Value) -> List (Addr × Obj) -> Prop)
   (hh : A.handled = none) (hl : (l, W.listOf vs.toArray nn) ∈ rest) (F : Fr h₀ env.locals s.heap m) (N : News h₀ env.locals s.heap rest) (h0 : J 0 m rest)
   (turn : ∀ i v m₁ rest₁ I oI h tk, vs[i]? = some v -> (l, W.listOf vs.toArray nn) ∈ rest₁ -> J i m₁ rest₁ -> (∀ p ∈ rest₁, p.1 ≠ I) -> (∃ l j, h.IsListIter I l j) -> Fr h₀ env.locals h m₁ -> News h₀ env.locals h ((I, oI) :: rest₁) ->
     wpAny (model prog w) A (letOwnedTupleGo tgt (.ref I) v) (fun _ s' => wpAny (model prog w) A (assign tgt env v) (fun _ s'' => wpAny (model prog w) A (execs body env) (fun f s₃ => FEnd h₀ env.locals (fun m' r' => (l, W.listOf vs.toArray nn) ∈ r' /\ J (i + 1) m' r') I oI { s with heap := h, toks := tk } Q f s₃) E s'') E s') E { s with heap := h, toks := tk })
   (done : ∀ m₁ rest₁ h tk, (l, W.listOf vs.toArray nn) ∈ rest₁ -> J vs.length m₁ rest₁ -> Fr h₀ env.locals h m₁ -> News h₀ env.locals h rest₁ -> Q .next { s with heap := h, toks := tk }) :
   wpAny (model prog w) A (pyIter (.ref l)) (fun it s₂ => LoopAtG prog w A h₀ env tgt body Q E it s₂) E s := by
 have hol : s.heap.get? l = some (W.listOf vs.toArray nn) := (N _ hl).1
 have hls : s.heap.IsList l vs.toArray := ⟨_, hol, rfl, nn, rfl⟩
 have hne : l ≠ s.heap.objs.size := Nat.ne_of_lt (Heap.lt_size hol)
 refine wpAny_pyIter_list hls ?_
 have WW := Walks.list (prog := prog) (w := w) hh s.heap.objs.size l hne vs.toArray
 have hlen : vs.toArray.size = vs.length := by simp
 rw [hlen] at WW
 refine ⟨s.heap.objs.size, _, vs.length, _, _, m, rest, (fun i m nx => (l, W.listOf vs.toArray nn) ∈ nx /\ J i m nx), rfl, WW, fun i h st => by obtain ⟨o, e, _⟩ := st.1; exact ⟨o, e⟩, next_is_new F, Nat.ne_of_lt F.ns.lt, fun p hp => Nat.ne_of_lt (Heap.lt_size (N p hp).1), ⟨⟨_, Heap.get?_push_size _ rfl, rfl, rfl⟩, hls.at fun o e => Heap.get?_push_of_some _ e⟩, F.push _, N.grown fun _ _ e => Heap.get?_push_of_some _ e, ⟨hl, h0⟩, ?_, ?_⟩
 . rintro i v m₁ rest₁ oI h tk hi hP ⟨hl₁, hJ⟩ hnr hst F₁ N₁
   have hv : vs[i]? = some v := by simpa using hP
   refine wpAny_mono (turn i v m₁ rest₁ s.heap.objs.size oI h tk hv hl₁ hJ hnr ⟨_, _, hst.1⟩ F₁ N₁) (fun _ s' q => wpAny_mono q (fun _ s'' q => wpAny_mono q (fun f s₃ q => ?_) fun _ _ e => e) fun _ _ e => e) fun _ _ e => e
   have fin : (∃ h' tk' m' rest', s₃ = { s with heap := h', toks := tk' } /\ Fr h₀ env.locals h' m' /\ News h₀ env.locals h' ((s.heap.objs.size, oI) :: rest') /\ (∀ p ∈ rest', p.1 ≠ s.heap.objs.size) /\ (l, W.listOf vs.toArray nn) ∈ rest' /\ J (i + 1) m' rest') ->
       ∃ h' tk' m' rest', s₃ = { s with heap := h', toks := tk' } /\ Fr h₀ env.locals h' m' /\ News h₀ env.locals h' ((s.heap.objs.size, oI) :: rest') /\ (∀ p ∈ rest', p.1 ≠ s.heap.objs.size) /\ ((l, W.listOf vs.toArray nn) ∈ rest' /\ J (i + 1) m' rest') /\ ∀ h', News h₀ env.locals h' rest' -> (∃ o, h'.get? s.heap.objs.size = some o /\ h.get? s.heap.objs.size = some o) -> h'.IsListIter s.heap.objs.size l (i + 1) /\ h'.IsList l vs.toArray := by
     (refine xq4 fun h₃ tk₃ m₃ rest₃ => ?_; refine aq6 fun e F₃ N₃ hn₃ hl₃ => ?_; intro hJ₃)
     refine ⟨h₃, tk₃, m₃, rest₃, e, F₃, N₃, hn₃, ⟨hl₃, hJ₃⟩, fun h' N' ⟨o, e1, e2⟩ => ?_⟩
     obtain ⟨⟨o2, g2, r2⟩, _⟩ := hst
     rw [e2] at g2
     obtain rfl := Option.some.inj g2
     exact ⟨⟨_, e1, r2⟩, ⟨_, (N' _ hl₃).1, rfl, nn, rfl⟩⟩
   cases f with
   | ret v => exact q
   | brk => exact q
   | cont => exact fin q
   | next => exact fin q
 . exact fun m₁ rest₁ h tk hJ F₁ N₁ _ => done m₁ rest₁ h tk hJ.1 hJ.2 F₁ N₁
end
end Mine
end
section
open PySem PySem.Spec PySem.Calls PySem.W PyProof.Rows PySem.Builtin PySem.Builtin.Str
namespace Mine
inductive Mi : List (Option Nat) -> List Nat -> Prop
 | nil : Mi [] []
 | lit {c : Nat} {p : List (Option Nat)} {t : List Nat} : Mi p t -> Mi (some c :: p) (c :: t)
 | skip {p : List (Option Nat)} {t : List Nat} : Mi p t -> Mi (none :: p) t
 | eat {c : Nat} {p : List (Option Nat)} {t : List Nat} : Mi (none :: p) t -> Mi (none :: p) (c :: t)
theorem Mi.lit_iff {c : Nat} {p : List (Option Nat)} {t : List Nat} : Mi (some c :: p) t ↔ ∃ r, t = c :: r /\ Mi p r :=
 ⟨fun h => by cases h with | lit h => exact ⟨_, rfl, h⟩, fun ⟨r, e, h⟩ => e ▸ .lit h⟩
theorem Mi.gap_app {p : List (Option Nat)} {r : List Nat} (h : Mi (none :: p) r) : ∀ g : List Nat, Mi (none :: p) (g ++ r)
 | [] => h
 | _ :: g => .eat (gap_app h g)
theorem Mi.gap_ex {q : List (Option Nat)} {t : List Nat} (h : Mi q t) : ∀ p, q = none :: p -> ∃ g r, t = g ++ r /\ Mi p r := by
 induction h with
 | nil => intro p e; cases e
 | lit _ _ => intro p e; cases e
 | skip h _ => intro p e; cases e; exact ⟨[], _, rfl, h⟩
 | @eat c p t h ih =>
   intro p' e; cases e
   obtain ⟨g, r, e, hr⟩ := ih _ rfl
   exact ⟨c :: g, r, by rw [e]; rfl, hr⟩
theorem Mi.gap_iff {p : List (Option Nat)} {t : List Nat} : Mi (none :: p) t ↔ ∃ g r, t = g ++ r /\ Mi p r :=
 ⟨fun h => h.gap_ex _ rfl, fun ⟨g, r, e, h⟩ => e ▸ Mi.gap_app (.skip h) g⟩
theorem Mi.nil_iff {t : List Nat} : Mi [] t ↔ t = [] := ⟨fun h => by cases h; rfl, fun h => h ▸ .nil⟩
noncomputable def lits (s : List Nat) : List (Option Nat) := s.map some
theorem Mi.lits_iff {p : List (Option Nat)} : ∀ {s t : List Nat}, Mi (lits s ++ p) t ↔ ∃ r, t = s ++ r /\ Mi p r
 | [], t => ⟨fun h => ⟨t, rfl, h⟩, fun ⟨r, e, h⟩ => by rw [List.nil_append] at e; exact e ▸ h⟩
 | c :: s, t => by
   show Mi (some c :: (lits s ++ p)) t ↔ _
   rw [Mi.lit_iff]
   constructor
   . rintro ⟨r, rfl, h⟩
     obtain ⟨r2, rfl, h2⟩ := Mi.lits_iff.mp h
     exact ⟨r2, rfl, h2⟩
   . rintro ⟨r, rfl, h⟩
     exact ⟨_, rfl, Mi.lits_iff.mpr ⟨r, rfl, h⟩⟩
theorem Mi.lits0 {s t : List Nat} : Mi (lits s) t ↔ t = s := by
 have := Mi.lits_iff (p := []) (s := s) (t := t)
 rw [List.append_nil] at this
 rw [this]
 constructor
 . rintro ⟨r, e, h⟩; rw [Mi.nil_iff.mp h, List.append_nil] at e; exact e
 . rintro rfl; exact ⟨[], by simp, .nil⟩
theorem Mi.gg {p : List (Option Nat)} {t : List Nat} : Mi (none :: none :: p) t ↔ Mi (none :: p) t := by
 constructor
 . intro h
   obtain ⟨g, r, rfl, h2⟩ := Mi.gap_iff.mp h
   exact Mi.gap_app h2 g
 . exact .skip
noncomputable def gapOn : List (Option Nat) -> List (Option Nat)
 | none :: q => none :: q
 | q => none :: q
noncomputable def squash : List (Option Nat) -> List (Option Nat)
 | [] => []
 | some c :: p => some c :: squash p
 | none :: p => gapOn (squash p)
theorem Mi.gapOn {t : List Nat} : ∀ {q : List (Option Nat)}, Mi (gapOn q) t ↔ Mi (none :: q) t
 | [] => Iff.rfl
 | some _ :: _ => Iff.rfl
 | none :: _ => Mi.gg.symm
theorem Mi.cong_gap {p q : List (Option Nat)} (h : ∀ t, Mi p t ↔ Mi q t) (t : List Nat) : Mi (none :: p) t ↔ Mi (none :: q) t := by
 rw [Mi.gap_iff, Mi.gap_iff]
 exact ⟨fun ⟨g, r, e, x⟩ => ⟨g, r, e, (h r).mp x⟩, fun ⟨g, r, e, x⟩ => ⟨g, r, e, (h r).mpr x⟩⟩
theorem Mi.squash : ∀ {p : List (Option Nat)} (t : List Nat), Mi (squash p) t ↔ Mi p t
 | [], t => Iff.rfl
 | some c :: p, t => by
   show Mi (some c :: Mine.squash p) t ↔ _
   rw [Mi.lit_iff, Mi.lit_iff]
   exact ⟨fun ⟨r, e, x⟩ => ⟨r, e, (Mi.squash r).mp x⟩, fun ⟨r, e, x⟩ => ⟨r, e, (Mi.squash r).mpr x⟩⟩
 | none :: p, t => by
   rw [<- Mi.cong_gap (fun t => Mi.squash (p := p) t) t]
   exact Mi.gapOn
noncomputable def smpL (p : List (Option Nat)) : List Nat := p.map fun o => o.getD 35
theorem Mi.refl : ∀ p : List (Option Nat), Mi p (smpL p)
 | [] => .nil
 | some c :: p => .lit (Mi.refl p)
 | none :: p => .eat (.skip (Mi.refl p))
theorem Mi.derivG {u : List (Option Nat)} {t : List Nat} (h : Mi u t) (hu : some 35 ∉ u) : ∀ x, t = 35 :: x -> ∃ u2, (∀ y g, Mi u2 y -> Mi u (g ++ y)) /\ Mi u2 x /\ some 35 ∉ u2 := by
 induction h with
 | nil => intro x e; cases e
 | @lit d p t h _ => intro x e; cases e; exact absurd (List.mem_cons_self) hu
 | @skip p t h ih =>
   intro x e
   obtain ⟨u2, a, b, c⟩ := ih (fun q => hu (List.mem_cons_of_mem _ q)) x e
   exact ⟨u2, fun y g hy => .skip (a y g hy), b, c⟩
 | @eat d p t h _ => intro x e; cases e; exact ⟨_, fun y g hy => Mi.gap_app hy g, h, hu⟩
theorem Mi.derivN {u : List (Option Nat)} {t : List Nat} (h : Mi u t) (hu : some 35 ∉ u) : ∀ c x, t = c :: x -> ∃ u2, (∀ y, Mi u2 y -> Mi u (c :: y)) /\ Mi u2 x /\ some 35 ∉ u2 := by
 induction h with
 | nil => intro c x e; cases e
 | @lit d p t h _ => intro c x e; cases e; exact ⟨p, fun y hy => .lit hy, h, fun q => hu (List.mem_cons_of_mem _ q)⟩
 | @skip p t h ih =>
   intro c x e
   obtain ⟨u2, a, b, n⟩ := ih (fun q => hu (List.mem_cons_of_mem _ q)) c x e
   exact ⟨u2, fun y hy => .skip (a y hy), b, n⟩
 | @eat d p t h _ => intro c x e; cases e; exact ⟨_, fun y hy => .eat hy, h, hu⟩
theorem Mi.trans : ∀ {v : List (Option Nat)} {u : List (Option Nat)} {t : List Nat}, some 35 ∉ u -> Mi u (smpL v) -> Mi v t -> Mi u t
 | [], u, t, _, h, k => by rw [Mi.nil_iff.mp k]; exact h
 | some c :: v, u, t, hu, h, k => by
   obtain ⟨r, rfl, k2⟩ := Mi.lit_iff.mp k
   obtain ⟨u2, a, b, n⟩ := h.derivN hu c (smpL v) rfl
   exact a _ (Mi.trans n b k2)
 | none :: v, u, t, hu, h, k => by
   obtain ⟨g, r, rfl, k2⟩ := Mi.gap_iff.mp k
   obtain ⟨u2, a, b, n⟩ := h.derivG hu (smpL v) rfl
   exact a _ g (Mi.trans n b k2)
noncomputable def patF : List (Bool × Nat) -> Bool -> List (Option Nat)
 | [], e => if e then [none] else []
 | (g, c) :: r, e => (if g then [none] else []) ++ some c :: patF r e
theorem patF_nil {l : List (Bool × Nat)} {e : Bool} : Mi (patF l e) [] ↔ l = [] := by
 constructor
 . cases l with
   | nil => intro _; rfl
   | cons a r =>
     obtain ⟨g, c⟩ := a
     intro h
     unfold patF at h
     cases g with
     | true =>
       obtain ⟨g, r', e1, h⟩ := Mi.gap_iff.mp h
       obtain ⟨_, e2, _⟩ := Mi.lit_iff.mp h
       rw [e2] at e1; simp at e1
     | false => obtain ⟨_, e2, _⟩ := Mi.lit_iff.mp h; cases e2
 . rintro rfl
   unfold patF
   cases e with
   | true => exact .skip .nil
   | false => exact .nil
theorem Mi.gap_cons {p : List (Option Nat)} {c : Nat} {t : List Nat} : Mi (none :: p) (c :: t) ↔ Mi p (c :: t) \/ Mi (none :: p) t := by
 constructor
 . intro h
   cases h with
   | skip h => exact .inl h
   | eat h => exact .inr h
 . rintro (h | h)
   . exact .skip h
   . exact .eat h
theorem patF_cons {l : List (Bool × Nat)} {e : Bool} {c : Nat} {t : List Nat} : Mi (patF l e) (c :: t) ↔ ((l.head?.map (·.1)).getD e = true /\ Mi (patF l e) t) \/ (∃ g r, l = (g, c) :: r /\ Mi (patF r e) t) := by
 cases l with
 | nil =>
   cases e with
   | true =>
     show Mi [none] (c :: t) ↔ (true = true /\ Mi [none] t) \/ _
     rw [Mi.gap_cons]
     constructor
     . rintro (h | h)
       . cases h
       . exact .inl ⟨rfl, h⟩
     . rintro (⟨_, h⟩ | ⟨_, _, h, _⟩)
       . exact .inr h
       . cases h
   | false =>
     show Mi [] (c :: t) ↔ (false = true /\ _) \/ _
     constructor
     . intro h; cases h
     . rintro (⟨h, _⟩ | ⟨_, _, h, _⟩) <;> cases h
 | cons a r =>
   obtain ⟨g, d⟩ := a
   cases g with
   | true =>
     show Mi (none :: some d :: patF r e) (c :: t) ↔ (true = true /\ Mi (none :: some d :: patF r e) t) \/ _
     rw [Mi.gap_cons, Mi.lit_iff]
     constructor
     . rintro (⟨x, h, k⟩ | h)
       . cases h; exact .inr ⟨_, _, rfl, k⟩
       . exact .inl ⟨rfl, h⟩
     . rintro (⟨_, h⟩ | ⟨_, _, h, k⟩)
       . exact .inr h
       . cases h; exact .inl ⟨_, rfl, k⟩
   | false =>
     show Mi (some d :: patF r e) (c :: t) ↔ (false = true /\ _) \/ _
     rw [Mi.lit_iff]
     constructor
     . rintro ⟨x, h, k⟩; cases h; exact .inr ⟨_, _, rfl, k⟩
     . rintro (⟨h, _⟩ | ⟨_, _, h, k⟩)
       . cases h
       . cases h; exact ⟨_, rfl, k⟩
noncomputable def stepN (st : Nat -> Nat) (stay : Nat) (p c : Nat) : Nat := ((p &&& st c) * 2) ||| (p &&& stay)
theorem stepN_bit {st : Nat -> Nat} {stay p c j : Nat} : (stepN st stay p c).testBit j = ((decide (1 <= j) && (p.testBit (j - 1) && (st c).testBit (j - 1))) || (p.testBit j && stay.testBit j)) := by
 unfold stepN
 rw [Nat.testBit_or, Nat.testBit_and, show (p &&& st c) * 2 = 2 ^ 1 * (p &&& st c) by rw [Nat.pow_one, Nat.mul_comm], Nat.testBit_two_pow_mul, Nat.testBit_and]
theorem nfa {l : List (Bool × Nat)} {e : Bool} {st : Nat -> Nat} {stay : Nat} (hst : ∀ c j, (st c).testBit j = true ↔ ∃ g, l[j]? = some (g, c)) (hstay : ∀ j, j <= l.length -> (stay.testBit j = true ↔ ((l.drop j).head?.map (·.1)).getD e = true)) :
   ∀ (t : List Nat) (p : Nat), (∀ j, p.testBit j = true -> j <= l.length) -> ((t.foldl (stepN st stay) p).testBit l.length = true ↔ ∃ k, p.testBit k = true /\ Mi (patF (l.drop k) e) t)
 | [], p, hp => by
   show p.testBit l.length = true ↔ _
   constructor
   . intro h; exact ⟨_, h, patF_nil.mpr (by simp)⟩
   . rintro ⟨k, h, m⟩
     have h1 := patF_nil.mp m
     have h2 := hp k h
     have h3 : l.length - k = 0 := by rw [<- List.length_drop, h1]; rfl
     rwa [show l.length = k by lia]
 | c :: t, p, hp => by
   rw [List.foldl_cons]
   have hp' : ∀ j, (stepN st stay p c).testBit j = true -> j <= l.length := by
     intro j hj
     rw [stepN_bit] at hj
     simp only [Bool.or_eq_true, Bool.and_eq_true, decide_eq_true_eq] at hj
     rcases hj with ⟨h1, h2, h3⟩ | ⟨h1, _⟩
     . obtain ⟨g, hg⟩ := (hst _ _).mp h3
       have := (List.getElem?_eq_some_iff.mp hg).1
       lia
     . exact hp _ h1
   rw [nfa hst hstay t _ hp']
   constructor
   . rintro ⟨k, hk, m⟩
     rw [stepN_bit] at hk
     simp only [Bool.or_eq_true, Bool.and_eq_true, decide_eq_true_eq] at hk
     rcases hk with ⟨h1, h2, h3⟩ | ⟨h1, h2⟩
     . obtain ⟨g, hg⟩ := (hst _ _).mp h3
       refine ⟨k - 1, h2, patF_cons.mpr (.inr ⟨g, l.drop k, ?_, m⟩)⟩
       obtain ⟨hl, hg'⟩ := List.getElem?_eq_some_iff.mp hg
       rw [List.drop_eq_getElem_cons hl, hg', show k - 1 + 1 = k by lia]
     . exact ⟨k, h1, patF_cons.mpr (.inl ⟨(hstay k (hp k h1)).mp h2, m⟩)⟩
   . rintro ⟨k, hk, m⟩
     rcases patF_cons.mp m with ⟨h1, h2⟩ | ⟨g, r, h1, h2⟩
     . refine ⟨k, ?_, h2⟩
       rw [stepN_bit, hk, (hstay k (hp k hk)).mpr h1]; simp
     . refine ⟨k + 1, ?_, ?_⟩
       . have : l[k]? = some (g, c) := by
           have h3 := congrArg (fun z => z[0]?) h1
           simpa using h3
         rw [stepN_bit, Nat.add_sub_cancel, hk, (hst c k).mpr ⟨g, this⟩]; simp
       . rw [show l.drop (k + 1) = r by rw [<- List.drop_drop, h1]; rfl]; exact h2
theorem flat_step : ∀ {c : List (Str × Int)} {kvs : List (Str × Value)}, PyProof.V.FlatPairs PyData.str kvs (kdpD c) -> ∀ x, stepAt kvs x = kdpLook c x 0
 | [], kvs, h, x => by
   cases h
   rfl
 | (k, i) :: c, kvs, h, x => by
   cases h with
   | @cons k' v' d' kvs' D f r =>
     obtain ⟨t, rfl⟩ := f.int_inv
     have ih := flat_step r x
     unfold stepAt valueAt kdpLook at ih ⊢
     rw [List.find?_cons, List.find?_cons]
     by_cases e : k = x
     . simp [e]
     . simp only [e, decide_false]
       exact ih
theorem bitOr_nat (a b : Nat) : Builtin.bitOr (a : Int) (b : Int) = ((a ||| b : Nat) : Int) := by
 unfold Builtin.bitOr
 rw [bitAnd_nn (by unfold Builtin.bitNot; lia) (by unfold Builtin.bitNot; lia), bitNot_bitNot, bitNot_bitNot, bitNot_bitNot]
 simp
theorem bitAnd_nat (a b : Nat) : Builtin.bitAnd (a : Int) (b : Int) = ((a &&& b : Nat) : Int) := by
 rw [bitAnd_pp (by lia) (by lia)]; simp
theorem fin_bit (p n : Nat) : (Builtin.bitAnd (p : Int) ((2 ^ n : Nat) : Int) != 0) = p.testBit n := by
 rw [bitAnd_nat]
 cases e : p.testBit n with
 | true =>
   have h : (p &&& 2 ^ n).testBit n = true := by rw [Nat.testBit_and, e, Nat.testBit_two_pow]; simp
   have : (p &&& 2 ^ n) ≠ 0 := by intro h0; rw [h0] at h; simp at h
   rw [bne_iff_ne]; lia
 | false =>
   have h : (p &&& 2 ^ n) = 0 := by
     apply Nat.eq_of_testBit_eq
     intro j
     rw [Nat.testBit_and, Nat.testBit_two_pow, Nat.zero_testBit]
     by_cases hj : n = j
     . rw [<- hj, e]; rfl
     . simp [hj]
   rw [h]; rfl
noncomputable abbrev lt (x : Str) : List Nat := x.cps.toList
noncomputable def patL (w : Str) : List (Bool × Nat) := (List.range ((lettersOf w).length - 1)).map fun k => ((stayOf w).toNat.testBit k, (lt (lettersOf w)).getD k 0)
noncomputable def patE (w : Str) : Bool := (stayOf w).toNat.testBit ((lettersOf w).length - 1)
noncomputable def toks (w : Str) : List (Option Nat) := patF (patL w) (patE w)
noncomputable def keyOk (w : Str) (q : Str × Int) : Bool := (lt q.1).length == 1 && decide (0 <= q.2) && decide (q.2 < 2 ^ 16) && (List.range 16).all fun j => q.2.toNat.testBit j == ((patL w)[j]?.map (·.2) == some ((lt q.1).headD 0))
noncomputable def letOk (w : Str) (q : Bool × Nat) : Bool := (stepsOf w).any fun p => p.1 == ⟨#[q.2]⟩
noncomputable def okW (w : Str) : Bool := decide ((lettersOf w).length = (patL w).length + 1) && decide ((patL w).length <= 14) && decide (0 <= stayOf w) && (stepsOf w).all (keyOk w) && (patL w).all (letOk w)
theorem look_cases : ∀ {c : List (Str × Int)} {x : Str}, (∃ q, q ∈ c /\ q.1 = x /\ kdpLook c x 0 = q.2) \/ ((∀ q ∈ c, q.1 ≠ x) /\ kdpLook c x 0 = 0)
 | [], x => .inr ⟨(fun _ h => nomatch h), rfl⟩
 | (k, i) :: c, x => by
   by_cases e : k = x
   . exact .inl ⟨_, .head _, e, by simp [kdpLook, e]⟩
   . have h0 : kdpLook ((k, i) :: c) x 0 = kdpLook c x 0 := by simp [kdpLook, e]
     rcases look_cases (c := c) (x := x) with ⟨q, hq, h1, h2⟩ | ⟨h1, h2⟩
     . exact .inl ⟨q, .tail _ hq, h1, h0.trans h2⟩
     . refine .inr ⟨fun q hq => ?_, h0.trans h2⟩
       rcases List.mem_cons.mp hq with rfl | hq
       . exact e
       . exact h1 q hq
section
variable {w : Str} (h : okW w = true)
include h
theorem okW_len : (lettersOf w).length = (patL w).length + 1 := by
 simp only [okW, Bool.and_eq_true, decide_eq_true_eq] at h; exact h.1.1.1.1
theorem okW_small : (patL w).length <= 14 := by
 simp only [okW, Bool.and_eq_true, decide_eq_true_eq] at h; exact h.1.1.1.2
theorem okW_stay : 0 <= stayOf w := by
 simp only [okW, Bool.and_eq_true, decide_eq_true_eq] at h; exact h.1.1.2
theorem okW_key : ∀ q ∈ stepsOf w, keyOk w q = true := by
 simp only [okW, Bool.and_eq_true, List.all_eq_true] at h; exact h.1.2
theorem okW_let : ∀ q ∈ patL w, letOk w q = true := by
 simp only [okW, Bool.and_eq_true, List.all_eq_true] at h; exact h.2
theorem okW_range (q : Str × Int) (hq : q ∈ stepsOf w) : 0 <= q.2 /\ q.2 < 2 ^ 16 := by
 have h1 := okW_key h q hq
 simp only [keyOk, Bool.and_eq_true, decide_eq_true_eq] at h1
 exact ⟨h1.1.1.2, h1.1.2⟩
theorem okW_bits (c j : Nat) : (kdpLook (stepsOf w) ⟨#[c]⟩ 0).toNat.testBit j = true ↔ ∃ g, (patL w)[j]? = some (g, c) := by
 rcases look_cases (c := stepsOf w) (x := (⟨#[c]⟩ : Str)) with ⟨q, hq, h1, h2⟩ | ⟨h1, h2⟩
 . rw [h2]
   have h3 := okW_key h q hq
   simp only [keyOk, Bool.and_eq_true, decide_eq_true_eq, List.all_eq_true, List.mem_range] at h3
   obtain ⟨⟨⟨_, h4⟩, h5⟩, h6⟩ := h3
   have hc : (lt q.1).headD 0 = c := by rw [h1]; rfl
   by_cases hj : j < 16
   . have h7 := beq_iff_eq.mp (h6 j hj)
     rw [h7, hc]
     cases e : (patL w)[j]? with
     | none => simp
     | some p => obtain ⟨g, d⟩ := p; simp
   . have hs := okW_small h
     have : (patL w)[j]? = none := List.getElem?_eq_none (by lia)
     rw [this]
     have : q.2.toNat.testBit j = false := Nat.testBit_lt_two_pow (Nat.lt_of_lt_of_le (show q.2.toNat < 2 ^ 16 by lia) (Nat.pow_le_pow_right (by decide) (by lia)))
     rw [this]; simp
 . rw [h2]
   constructor
   . intro h4; simp at h4
   . rintro ⟨g, h4⟩
     have h5 := okW_let h _ (List.mem_of_getElem? h4)
     simp only [letOk, List.any_eq_true, beq_iff_eq] at h5
     obtain ⟨p, hp, e⟩ := h5
     exact absurd e (h1 p hp)
end
noncomputable def takeZ (w t : Str) : Bool := Builtin.bitAnd ((KStt.codes t).foldl (fun p c => Builtin.bitOr (Builtin.bitAnd p (kdpLook (stepsOf w) ⟨#[c.toNat]⟩ 0) * 2) (Builtin.bitAnd p (stayOf w))) 1) (finOf w) != 0
theorem takeZ_eq {kvs : List (Str × Value)} {w t : Str} (hf : PyProof.V.FlatPairs PyData.str kvs (kdpD (stepsOf w))) : (Builtin.bitAnd (runZ kvs (stayOf w) (KStt.codes t)) (finOf w) != 0) = takeZ w t := by
 unfold takeZ runZ
 have e : stepZ kvs (stayOf w) = fun p c => Builtin.bitOr (Builtin.bitAnd p (kdpLook (stepsOf w) ⟨#[c.toNat]⟩ 0) * 2) (Builtin.bitAnd p (stayOf w)) := by
   funext p c; unfold stepZ; rw [flat_step hf]
 rw [e]
theorem take_mi {w t : Str} (h : okW w = true) : takeZ w t = true ↔ Mi (toks w) (lt t) := by
 unfold takeZ
 have hlen := okW_len h
 have e1 : (KStt.codes t) = (lt t).map fun (c : Nat) => (c : Int) := rfl
 have run : ∀ (l : List Nat) (p : Nat), (l.map fun (c : Nat) => (c : Int)).foldl (fun p c => Builtin.bitOr (Builtin.bitAnd p (kdpLook (stepsOf w) ⟨#[c.toNat]⟩ 0) * 2) (Builtin.bitAnd p (stayOf w))) (p : Int) = ((l.foldl (stepN (fun c => (kdpLook (stepsOf w) ⟨#[c]⟩ 0).toNat) (stayOf w).toNat) p : Nat) : Int) := by
   intro l
   induction l with
   | nil => intro p; rfl
   | cons c l ih =>
     intro p
     rw [List.map_cons, List.foldl_cons, List.foldl_cons, <- ih]
     congr 1
     have h0 : 0 <= kdpLook (stepsOf w) ⟨#[c]⟩ 0 := by
       rcases look_cases (c := stepsOf w) (x := (⟨#[c]⟩ : Str)) with ⟨q, hq, h1, h2⟩ | ⟨h1, h2⟩
       . rw [h2]; exact (okW_range h q hq).1
       . rw [h2]; decide
     have h1 := okW_stay h
     obtain ⟨a, ha⟩ := Int.eq_ofNat_of_zero_le h0
     obtain ⟨b, hb⟩ := Int.eq_ofNat_of_zero_le h1
     unfold stepN
     show Builtin.bitOr (Builtin.bitAnd p (kdpLook (stepsOf w) ⟨#[((c : Nat) : Int).toNat]⟩ 0) * 2) (Builtin.bitAnd p (stayOf w)) = ((((p &&& (kdpLook (stepsOf w) ⟨#[c]⟩ 0).toNat) * 2) ||| (p &&& (stayOf w).toNat) : Nat) : Int)
     rw [Int.toNat_natCast, ha, hb, Int.toNat_natCast, Int.toNat_natCast, bitAnd_nat, bitAnd_nat]
     show Builtin.bitOr (((p &&& a : Nat) : Int) * ((2 : Nat) : Int)) _ = _
     rw [<- Int.natCast_mul, bitOr_nat]
 have e2 : finOf w = ((2 ^ (patL w).length : Nat) : Int) := by
   unfold finOf; rw [hlen, Nat.add_sub_cancel]; simp
 rw [e1, show (1 : Int) = ((1 : Nat) : Int) from rfl, run, e2, fin_bit]
 have hst := okW_bits h
 have hb : ∀ j, j <= (patL w).length -> ((stayOf w).toNat.testBit j = true ↔ (((patL w).drop j).head?.map (·.1)).getD (patE w) = true) := by
   intro j hj
   have hl : (patL w).length = (lettersOf w).length - 1 := by lia
   by_cases hlt : j < (patL w).length
   . have e3 : ((patL w).drop j).head? = (patL w)[j]? := by rw [List.head?_drop]
     have e4 : (patL w)[j]? = some ((stayOf w).toNat.testBit j, (lt (lettersOf w)).getD j 0) := by
       unfold patL; rw [List.getElem?_map, List.getElem?_range (by lia)]; rfl
     rw [e3, e4]; rfl
   . have e5 : j = (patL w).length := by lia
     subst e5
     rw [List.drop_length]
     show _ ↔ patE w = true
     unfold patE; rw [<- hl]
 rw [nfa (l := patL w) (e := patE w) hst hb (lt t) 1 (fun j hj => by
   rw [show (1 : Nat) = 2 ^ 0 from rfl, Nat.testBit_two_pow] at hj
   have := of_decide_eq_true hj
   lia)]
 constructor
 . rintro ⟨k, hk, m⟩
   rw [show (1 : Nat) = 2 ^ 0 from rfl, Nat.testBit_two_pow] at hk
   have := of_decide_eq_true hk
   subst this
   exact m
 . intro m
   exact ⟨0, rfl, m⟩
end Mine
end
section
open PySem PySem.Spec PySem.Calls PySem.W PyProof.Rows
namespace Mine
inductive All2 {α β : Type} (R : α -> β -> Prop) : List α -> List β -> Prop
 | nil : All2 R [] []
 | cons {a : α} {b : β} {l : List α} {k : List β} : R a b -> All2 R l k -> All2 R (a :: l) (b :: k)
theorem All2.len {α β : Type} {R : α -> β -> Prop} : ∀ {a : List α} {b : List β}, All2 R a b -> b.length = a.length
 | _, _, .nil => rfl
 | _, _, .cons _ r => by simp [r.len]
theorem ints_item : ∀ {vs : List Value} {ns : List Int} {i : Nat} {v : Value}, IntsAre vs ns -> vs[i]? = some v -> ∃ n t, v = .int n t /\ ns[i]? = some n
 | _, _, 0, _, .cons n t r, h => ⟨n, t, (Option.some.inj h).symm, rfl⟩
 | _, _, i + 1, _, .cons n t r, h => by
   have := ints_item (i := i) r (by simpa using h)
   simpa using this
theorem forall2_snoc {α β : Type} {R : α -> β -> Prop} {a : List α} {b : List β} {x : α} {y : β} (h : All2 R a b) (r : R x y) : All2 R (a ++ [x]) (b ++ [y]) := by
 induction h with
 | nil => exact .cons r .nil
 | cons h _ ih => exact .cons h ih
noncomputable def RdAt (w : World) (tl : List (Addr × Obj)) (rd : Addr) (want : Str) : Prop :=
 ∃ sd t1 t2 t3 o kvs, (rd, rdTup want sd t1 t2 t3) ∈ tl /\ (sd, o) ∈ tl /\ o.IsDictOf (sk w) kvs /\ PyProof.V.FlatPairs PyData.str kvs (kdpD (stepsOf want)) /\ (sd == sysModules) = false
theorem RdsL.rdAt {w : World} {tl : List (Addr × Obj)} {vs : List Value} {ws : List Str} {i : Nat} {v : Value} (h : RdsL w tl vs ws) (e : vs[i]? = some v) : ∃ rd, v = .ref rd /\ RdAt w tl rd (ws.getD i ⟨#[]⟩) := by
 (have hQ := RdsL.at h e; revert hQ; refine xq8 fun rd sd t1 t2 t3 o kvs want => ?_; refine aq2 fun eQ => ?_; subst eQ; refine aq6 fun hw a b c d => ?_; intro f)
 refine ⟨rd, rfl, sd, t1, t2, t3, o, kvs, ?_, b, c, ?_, f⟩
 . rw [List.getD_eq_getElem?_getD, hw]; exact a
 . rw [List.getD_eq_getElem?_getD, hw]; exact d
theorem flat_int : ∀ {c : List (Str × Int)} {kvs : List (Str × Value)}, PyProof.V.FlatPairs PyData.str kvs (kdpD c) -> ∀ q ∈ kvs, ∃ p ∈ c, ∃ t, q.2 = .int p.2 t
 | [], kvs, h, q, hq => by cases h; cases hq
 | (k, i) :: c, kvs, h, q, hq => by
   cases h with
   | @cons k' v' d' kvs' D f r =>
     obtain ⟨t, rfl⟩ := f.int_inv
     rcases List.mem_cons.mp hq with rfl | hq
     . exact ⟨(k, i), .head _, t, rfl⟩
     . obtain ⟨p, hp, t', e⟩ := flat_int r q hq
       exact ⟨p, .tail _ hp, t', e⟩
section
variable {w : World} {dp un : Nat} {gd : Option (List Code)} {cn : Str} {cs : Scope} {a : Addr} {ccd : Value} {cl : List (Str × Addr)} {outer : List Env} {A₀ : Around} {base h₀ : Heap} {L : Addr} {m : Str -> Option Value} {s : Shared}
 {p : Program} {loose : List Str} {mean : ExcName -> Option Value} {mg mb : Str -> Option Value} {Q E : Value -> Shared -> Prop}
theorem takes_led {tl : List (Addr × Obj)} {rd : Addr} {want text : Str} {tt : Tok} (hh : ∀ q ∈ tl, s.heap.get? q.1 = some q.2) (H : RdAt w tl rd want) (hok : okW want = true) (hst : stayOf want < 2 ^ 20) (C : Cx w dp un cs outer A₀ base h₀ L m s.heap p loose mean mg mb 6)
 (ret : ∀ (h' : Heap) (tk' : Nat), Kp s.heap h' -> Q (.bool (takeZ want text)) { s with heap := h', toks := tk' }) :
 wpAny (model pw_sr0088_01 w) (ktrTop dp un gd cn cs L a ccd cl outer) (call (.ref 283) [.ref rd, .str text tt]) Q E s := by
 (revert H; refine xq6 fun sd t1 t2 t3 o kvs => ?_; refine aq5 fun h1 h2 hd hf => ?_; intro hsm)
 refine takes_ok (smp := samplesOf want) (kvs := kvs) (stay := stayOf want) (fin := finOf want) ⟨_, hh _ h1, rfl, 0, rfl⟩ (Heap.dictOf_iff.mpr ⟨o, hh _ h2, hd⟩) hsm (fun q hq => ?_) ⟨okW_stay hok, hst⟩ C fun h' tk' k => ?_
 . obtain ⟨pq, hp, t, e⟩ := flat_int hf q hq
   have hr := okW_range hok pq hp
   exact ⟨_, t, e, hr.1, by lia⟩
 . rw [takeZ_eq hf]; exact ret h' tk' k
end
section
variable {prog : Program} {w : World} {A : Around} {E : Value -> Shared -> Prop} {s : Shared}
theorem sub3_led {tl : List (Addr × Obj)} {rd : Addr} {want : Str} {value slice : Expr} {u : Tok} {Q : Value -> Shared -> Prop} (hh : ∀ q ∈ tl, s.heap.get? q.1 = some q.2) (H : RdAt w tl rd want)
   (h : ∀ t, Q (.str (samplesOf want) t) s) (hs : subscripted slice false (.ref rd) (.int 3 u) = operate [.ref rd, .int 3 u] (getItem (.ref rd) (.int 3 u))) :
   wpAny (model prog w) A (subscriptTail value slice (.ref rd) (.int 3 u)) Q E s := by
 (revert H; refine xq6 fun sd t1 t2 t3 o kvs => ?_; refine aq5 fun h1 h2 hd hf => ?_; intro hsm)
 exact item_tupleT (⟨_, hh _ h1, rfl, 0, rfl⟩ : IsTup s.heap rd #[.ref sd, .int (stayOf want) t1, .int (finOf want) t2, .str (samplesOf want) t3]) (by decide) (by decide) (j := 3) rfl (by rfl) (h t3) hs
theorem item_at {h₀ : Heap} {L : Addr} {news : List (Addr × Obj)} {value slice : PySem.Expr} {l : Addr} {vs : List Value} {k : Nat} {nn : Nat} {u : Tok} {Q : Value -> Shared -> Prop} (N : News h₀ L s.heap news) (hm : (l, W.listOf vs.toArray nn) ∈ news) (h1 : k < vs.length) (hv : vs.length <= 4096)
   (h : ∀ v, vs[k]? = some v -> Q v s) (hs : subscripted slice false (.ref l) (.int (k : Int) u) = operate [.ref l, .int (k : Int) u] (getItem (.ref l) (.int (k : Int) u))) : wpAny (model prog w) A (subscriptTail value slice (.ref l) (.int (k : Int) u)) Q E s := by
 have hl : s.heap.IsList l vs.toArray := ⟨_, (N _ hm).1, rfl, _, rfl⟩
 exact tail_any hl.typeIs slot_list_getitem.lookup (wpAny_getItem_list hl (Int.natCast_nonneg k) (by lia) (x := vs[k]) (by simp [h1]) (h _ (List.getElem?_eq_getElem h1))) hs
theorem item_strAt {h₀ : Heap} {L : Addr} {news : List (Addr × Obj)} {value slice : PySem.Expr} {l : Addr} {vs : List Value} {cs : List Str} {k : Nat} {nn : Nat} {u : Tok} {Q : Value -> Shared -> Prop} (N : News h₀ L s.heap news) (hm : (l, W.listOf vs.toArray nn) ∈ news) (hi : StrsAre vs cs) (h1 : k < cs.length) (hv : cs.length <= 4096)
   (h : ∀ t, Q (.str (cs.getD k ⟨#[]⟩) t) s) (hs : subscripted slice false (.ref l) (.int (k : Int) u) = operate [.ref l, .int (k : Int) u] (getItem (.ref l) (.int (k : Int) u))) : wpAny (model prog w) A (subscriptTail value slice (.ref l) (.int (k : Int) u)) Q E s := by
 refine item_at N hm (by rw [hi.length]; exact h1) (by rw [hi.length]; exact hv) (fun v hv => ?_) hs
 obtain ⟨z, t, rfl, hz⟩ := StrsAre.item2 hi hv
 have e : cs.getD k ⟨#[]⟩ = z := by rw [List.getD_eq_getElem?_getD, hz]; rfl
 rw [<- e]; exact h t
noncomputable abbrev rngObj (n : Int) (t u v : Tok) : Obj := { cls := .type "range", dict := none, data := .fields #[.int 0 t, .int n u, .int 1 v], slots := #[] }
theorem range_led {h₀ : Heap} {L : Addr} {m : Str -> Option Value} {news : List (Addr × Obj)} {Q : Value -> Shared -> Prop} {n : Int} {t : Tok} (F : Fr h₀ L s.heap m) (N : News h₀ L s.heap news)
   (h : ∀ h' tk r t₁ u₁ v₁, Fr h₀ L h' m -> News h₀ L h' ((r, rngObj n t₁ u₁ v₁) :: news) -> AllLt r news -> Q (.ref r) { s with heap := h', toks := tk }) :
   wpAny (model prog w) A (call (.type "range") [.int n t]) Q E s := by
 refine range1_rows F N fun h' tk t₁ u₁ v₁ hr F' N' hk => h h' tk _ t₁ u₁ v₁ F' (fun p hp => ?_) (allLt_of fun p hp => Heap.lt_size (N p hp).1)
 rcases List.mem_cons.mp hp with rfl | hp
 . exact ⟨hr, Ne.symm (Nat.ne_of_lt F.ns.lt), next_is_new F⟩
 . exact N' p hp
end
section
open PyProof.Rows.LCg PyProof.Rows.LCt
variable {prog : Program} {w : World} {A : Around} {s : Shared} {h₀ : Heap} {L : Addr} {m : Str -> Option Value} {env : Env}
noncomputable def NatsAre (vs : List Value) (ks : List Nat) : Prop := IntsAre vs (ks.map fun (k : Nat) => (k : Int))
theorem NatsAre.len {vs : List Value} {ks : List Nat} (h : NatsAre vs ks) : vs.length = ks.length := by have := IntsAre.length h; simpa using this
theorem NatsAre.snoc {vs : List Value} {ks : List Nat} (h : NatsAre vs ks) (k : Nat) (t : Tok) : NatsAre (vs ++ [.int (k : Int) t]) (ks ++ [k]) := by
 unfold NatsAre at *
 rw [List.map_append]
 exact IntsAre.append h (.cons _ _ .nil)
theorem NatsAre.at {vs : List Value} {ks : List Nat} {i : Nat} {v : Value} (h : NatsAre vs ks) (e : vs[i]? = some v) : ∃ k t, v = .int ((k : Nat) : Int) t /\ ks[i]? = some k := by
 obtain ⟨n, t, rfl, hn⟩ := ints_item h e
 rw [List.getElem?_map] at hn
 cases hk : ks[i]? with
 | none => rw [hk] at hn; cases hn
 | some k => rw [hk] at hn; exact ⟨k, t, by rw [<- Option.some.inj hn], rfl⟩
theorem rangeTurns {ct elt : Expr} {x : Str} {scope : Scope} {cl : List (Str × Addr)} {Fin : List Value -> List (Addr × Obj) -> Prop} {news : List (Addr × Obj)} {n : Nat} (mk : Nat -> Prop) (hmk : ∀ i, i < n -> mk i) (P : Nat -> Bool) (R : Nat -> Value -> Prop)
   (turn : ∀ (i : Nat) (t : Tok) ys I oI C oC D m₂ h tk (E' : Value -> Shared -> Prop), i < n -> mk i -> NsObj oC m₂ -> m₂ x = some (.int (i : Int) t) -> Fr h₀ L h m -> News h₀ L h ((I, oI) :: (C, oC) :: (D, lst ys) :: news) -> Off3 I C D news -> ((@Ne Nat I C) /\ (@Ne Nat I D) /\ (@Ne Nat C D)) ->
     wpAny (model prog w) A (isTrue ct (compEnvC scope cl C env) (eval ct (compEnvC scope cl C env))) (fun ok s' => if ok = true then
       wpAny (model prog w) A (eval elt (compEnvC scope cl C env)) (TurnEnd h₀ L m { s with heap := h, toks := tk } ((I, oI) :: (C, oC) :: (D, lst ys) :: news) (fun y => P i = true /\ R i y)) E' s'
       else TurnEnd h₀ L m { s with heap := h, toks := tk } ((I, oI) :: (C, oC) :: (D, lst ys) :: news) (fun _ => P i = false) Value.none s') E' { s with heap := h, toks := tk })
   (fin : ∀ ys, All2 R ((List.range n).filter P) ys -> Fin ys news) : CompRestT prog w A h₀ L m env ct elt x scope cl s (fun _ => True) (fun i v => ∃ t, v = .int ((0 : Int) + (i : Int)) t) Fin n 0 [] news := by
 have key : ∀ (k i : Nat) (ys : List Value), i + k = n -> All2 R ((List.range i).filter P) ys -> CompRestT prog w A h₀ L m env ct elt x scope cl s (fun _ => True) (fun i v => ∃ t, v = .int ((0 : Int) + (i : Int)) t) Fin k i ys news := by
   intro k
   induction k with
   | zero => intro i ys e hJ; exact fin ys (by rw [<- e]; exact hJ)
   | succ k ih =>
     intro i ys e hJ v I oI C oC D m₂ h tk E' hP hO hx F N off hne
     obtain ⟨t, rfl⟩ := hP
     rw [Int.zero_add] at hx
     have ih' := fun ys' hJ' => ih (i + 1) ys' (by lia) hJ'
     refine wpAny_mono (turn i t ys I oI C oC D m₂ h tk E' (by lia) (hmk i (by lia)) hO hx F N off hne) (fun ok s' q => ?_) fun _ _ e => e
     cases ok with
     | true =>
       rw [if_pos rfl] at q ⊢
       refine wpAny_mono q (fun y s'' z => ?_) fun _ _ e => e
       (revert z; refine xq2 fun h' tk' => ?_; refine aq2 fun eQ => ?_; subst eQ; refine aq4 fun F' N' hp => ?_; intro hr)
       refine CompEnd.intro F' N' news (fun p hp => hp) off trivial (ih' _ ?_)
       rw [List.range_succ, List.filter_append]
       simp only [List.filter_cons, hp, if_true, List.filter_nil]
       exact forall2_snoc hJ hr
     | false =>
       rw [if_neg (by decide)] at q ⊢
       (revert q; refine xq2 fun h' tk' => ?_; refine aq2 fun eQ => ?_; subst eQ; refine aq3 fun F' N' => ?_; intro hp)
       refine CompEnd.intro F' N' news (fun p hp => hp) off trivial (ih' _ ?_)
       rw [List.range_succ, List.filter_append]
       simp only [List.filter_cons, hp, Bool.false_eq_true, if_false, List.filter_nil, List.append_nil]
       exact hJ
 exact key n 0 [] (by lia) .nil
theorem natTurns {ct elt : Expr} {x : Str} {scope : Scope} {cl : List (Str × Addr)} {S : List (Addr × Obj) -> Prop} {Fin : List Value -> List (Addr × Obj) -> Prop} {news : List (Addr × Obj)} {us : List Value} {ks : List Nat} (hus : NatsAre us ks) (hS : S news) (P : Nat -> Bool) (R : Nat -> Value -> Prop)
   (turn : ∀ (i : Nat) (t : Tok) ys I oI C oC D m₂ h tk (E' : Value -> Shared -> Prop), i ∈ ks -> NsObj oC m₂ -> m₂ x = some (.int (i : Int) t) -> Fr h₀ L h m -> News h₀ L h ((I, oI) :: (C, oC) :: (D, lst ys) :: news) -> Off3 I C D news -> ((@Ne Nat I C) /\ (@Ne Nat I D) /\ (@Ne Nat C D)) ->
     wpAny (model prog w) A (isTrue ct (compEnvC scope cl C env) (eval ct (compEnvC scope cl C env))) (fun ok s' => if ok = true then
       wpAny (model prog w) A (eval elt (compEnvC scope cl C env)) (TurnEnd h₀ L m { s with heap := h, toks := tk } ((I, oI) :: (C, oC) :: (D, lst ys) :: news) (fun y => P i = true /\ R i y)) E' s'
       else TurnEnd h₀ L m { s with heap := h, toks := tk } ((I, oI) :: (C, oC) :: (D, lst ys) :: news) (fun _ => P i = false) Value.none s') E' { s with heap := h, toks := tk })
   (fin : ∀ ys, All2 R (ks.filter P) ys -> Fin ys news) : CompRestT prog w A h₀ L m env ct elt x scope cl s S (fun i v => us.toArray[i]? = some v) Fin us.toArray.size 0 [] news := by
 refine turnsT (fun pre ys => All2 R ((ks.take pre.length).filter P) ys) hS .nil ?_ ?_
 . intro pre v post ys I oI C oC D m₂ h tk E' e hJ hO hx F N off hne
   obtain ⟨k, t, rfl, hk⟩ := hus.at (i := pre.length) (v := v) (by rw [e]; simp)
   have hkm : k ∈ ks := List.mem_of_getElem? hk
   have tk' : ks.take (pre ++ [Value.int (k : Int) t]).length = ks.take pre.length ++ [k] := by
     rw [List.length_append, List.length_singleton, List.take_add_one, hk]; rfl
   refine wpAny_mono (turn k t ys I oI C oC D m₂ h tk E' hkm hO hx F N off hne) (fun ok s' q => ?_) fun _ _ e => e
   cases ok with
   | true =>
     rw [if_pos rfl] at q ⊢
     refine wpAny_mono q (fun y s'' r => ?_) fun _ _ e => e
     (revert r; refine xq2 fun h' tk2 => ?_; refine aq5 fun e' F' N' hp => ?_; intro hr)
     refine ⟨h', tk2, e', F', N', ?_⟩
     rw [tk', List.filter_append]
     simp only [List.filter_cons, hp, if_true, List.filter_nil]
     exact forall2_snoc hJ hr
   | false =>
     rw [if_neg (by decide)] at q ⊢
     (revert q; refine xq2 fun h' tk2 => ?_; refine aq4 fun e' F' N' => ?_; intro hp)
     refine ⟨h', tk2, e', F', N', ?_⟩
     rw [tk', List.filter_append]
     simp only [List.filter_cons, hp, Bool.false_eq_true, if_false, List.filter_nil, List.append_nil]
     exact hJ
 . intro ys hJ
   rw [List.take_of_length_le (by rw [hus.len]; exact Nat.le_refl _)] at hJ
   exact fin ys hJ
end
noncomputable def isNat (k : Nat) (v : Value) : Prop := ∃ t, v = .int (k : Int) t
theorem nats_of : ∀ {ks : List Nat} {ys : List Value}, All2 isNat ks ys -> NatsAre ys ks
 | [], _, .nil => .nil
 | _ :: _, _, .cons ⟨t, e⟩ r => by rw [e]; exact .cons _ t (nats_of r)
noncomputable def Hold (p : Prop) : Prop := p
theorem eu64 {un : Nat} (h : un + 10 * 40 < cLine) : un + 64 < cLine := by lia
theorem rng_size (n : Nat) : Builtin.Range.rangeSize 0 (n : Int) 1 = ((n : Nat) : Int) := by simp [Builtin.Range.rangeSize]; lia
theorem rng_small {n : Nat} (h : n <= 6) : Builtin.Range.small 0 (n : Int) 1 = true := small_one (by decide) (by decide) (by lia) (by lia)
noncomputable def nmA (ns : List Int) (j : Nat) : Str := (ns.map nameZ).getD j ⟨#[]⟩
noncomputable def wtA (ns : List Int) (j : Nat) : Str := (ns.map wantZ).getD j ⟨#[]⟩
noncomputable def overB (ns : List Int) (k j : Nat) : Bool := ((j : Int) != (k : Int)) && ((nmA ns j == nmA ns k) && takeZ (wtA ns j) (samplesOf (wtA ns k)))
theorem overB_t {ns : List Int} {k j : Nat} (h1 : (j : Int) ≠ (k : Int)) (h2 : (nmA ns j == nmA ns k) = true) (h3 : takeZ (wtA ns j) (samplesOf (wtA ns k)) = true) : overB ns k j = true := by unfold overB; rw [h2, h3, bne_iff_ne.mpr h1]; rfl
theorem overB_1 {ns : List Int} {k j : Nat} (h1 : (j : Int) = (k : Int)) : overB ns k j = false := by unfold overB; rw [h1]; simp
theorem overB_2 {ns : List Int} {k j : Nat} (h2 : (nmA ns j == nmA ns k) = false) : overB ns k j = false := by unfold overB; rw [h2]; simp
theorem overB_3 {ns : List Int} {k j : Nat} (h3 : takeZ (wtA ns j) (samplesOf (wtA ns k)) = false) : overB ns k j = false := by unfold overB; rw [h3]; simp
noncomputable def stopB (ns : List Int) (k j : Nat) : Bool := decide ((j : Int) < (k : Int)) || !takeZ (wtA ns k) (samplesOf (wtA ns j))
theorem stopB_t1 {ns : List Int} {k j : Nat} (h1 : (j : Int) < (k : Int)) : stopB ns k j = true := by unfold stopB; rw [decide_eq_true h1]; rfl
theorem stopB_t2 {ns : List Int} {k j : Nat} (h1 : takeZ (wtA ns k) (samplesOf (wtA ns j)) = false) : stopB ns k j = true := by unfold stopB; rw [h1]; simp
theorem stopB_f {ns : List Int} {k j : Nat} (h1 : ¬ (j : Int) < (k : Int)) (h2 : takeZ (wtA ns k) (samplesOf (wtA ns j)) = true) : stopB ns k j = false := by unfold stopB; rw [decide_eq_false h1, h2]; rfl
noncomputable def overZ (ns : List Int) (k : Nat) : List Nat := (List.range ns.length).filter (overB ns k)
theorem over_lt {ns : List Int} {k i : Nat} (h : i ∈ (List.range ns.length).filter (overB ns k)) : i < ns.length := List.mem_range.mp (List.mem_filter.mp h).1
theorem over_len {ns : List Int} {k : Nat} {us : List Value} (h : All2 isNat ((List.range ns.length).filter (overB ns k)) us) : us.length <= ns.length := by
 rw [h.len]
 have := List.length_filter_le (overB ns k) (List.range ns.length)
 rwa [List.length_range] at this
noncomputable def dueB (ns : List Int) (k : Nat) : Bool := decide (((overZ ns k).filter (stopB ns k)).map (fun (j : Nat) => (j : Int)) = [])
section
noncomputable abbrev turnKQ (w : World) (dp un : Nat) (gd : Option (List Code)) (outer : List Env) (A₀ : Around) (base : Heap) (L : Addr) (s : Shared) (p : Program) (loose : List Str) (mean : ExcName -> Option Value) (mg mb : Str -> Option Value) (E : Value -> Shared -> Prop) (g : Heap) (sl fa : Addr) (cdv : Value) (le xe dxe lt xt dxt lr lw ln rp ldu : Addr) (toe tot ta tb tc : Tok) (ve vt vr vw vn vd : List Value) (ne nt nr nw nn nd : Nat) (q1 q2 q3 q4 q5 q6 q7 q8 : Obj) (R tl : List (Addr × Obj)) (ns : List Int) (om : Str -> Option Value) (k : Nat) (tk₀ : Tok) : Prop := ∀ {scope : Scope} {lb : List Stmt} (hlb : forBody ((fdB (stm pw_sr0088_01 22)).getD 5 (.Pass default)) = lb) (hsc : fdS (stm pw_sr0088_01 22) = scope) (hE : PassesOwn (model pw_sr0088_01 w) (ktrTop dp un gd "law" scope L fa cdv (cellsFrom (L + 1) scope.names []) outer) (envOfC "law" scope L fa cdv) E) (C : Cx w dp un scope outer A₀ base g L (fun (y : Str) => if y = "places" then some (.ref rp) else if y = "over" then om y else if y = "rows" then om y else if y = "longer" then om y else if y = "caught" then om y else if y = "taken" then om y else if y = "table" then some (.ref xt) else if y = "every" then some (.ref xe) else if y = "script" then some (.ref sl) else om y) s.heap p loose mean mg mb 40) (N : News g L s.heap ((ldu, W.listOf vd.toArray nd) :: (rp, rngObj (ns.length : Int) ta tb tc) :: (le, W.listOf ve.toArray ne) :: (xe, instObj 182 dxe) :: (dxe, hdD w.params toe le) :: (lt, W.listOf vt.toArray nt) :: (xt, instObj 182 dxt) :: (dxt, hdD w.params tot lt) :: (lr, W.listOf vr.toArray nr) :: (lw, W.listOf vw.toArray nw) :: (ln, W.listOf vn.toArray nn) :: (L + 1 + 1 + 1 + 1 + 1 + 1 + 1 + 1, q8) :: (L + 1 + 1 + 1 + 1 + 1 + 1 + 1, q7) :: (L + 1 + 1 + 1 + 1 + 1 + 1, q6) :: (L + 1 + 1 + 1 + 1 + 1, q5) :: (L + 1 + 1 + 1 + 1, q4) :: (L + 1 + 1 + 1, q3) :: (L + 1 + 1, q2) :: (L + 1, q1) :: R)) (offR : OwnOff R [ldu, rp, le, xe, dxe, lt, xt, dxt, lr, lw, ln, L + 1 + 1 + 1 + 1 + 1 + 1 + 1 + 1, L + 1 + 1 + 1 + 1 + 1 + 1 + 1, L + 1 + 1 + 1 + 1 + 1 + 1, L + 1 + 1 + 1 + 1 + 1, L + 1 + 1 + 1 + 1, L + 1 + 1 + 1, L + 1 + 1, L + 1]) (hord : (@LT.lt Nat _ (L + 1 + 1 + 1 + 1 + 1 + 1 + 1 + 1) ln) /\ (@LT.lt Nat _ ln lw) /\ (@LT.lt Nat _ lw lr) /\ (@LT.lt Nat _ lr dxt) /\ (@LT.lt Nat _ dxt xt) /\ (@LT.lt Nat _ xt lt) /\ (@LT.lt Nat _ lt dxe) /\ (@LT.lt Nat _ dxe xe) /\ (@LT.lt Nat _ xe le) /\ (@LT.lt Nat _ le rp) /\ (@LT.lt Nat _ rp ldu)) (d1 : q1.data = Data.cell (some (Value.ref ln))) (d2 : q2.data = Data.cell (some (Value.ref lw))) (d3 : q3.data = Data.cell (some (Value.ref lr))) (d5 : q5.data = Data.cell (some (Value.ref ldu))) (d6 : q6.data = Data.cell (some (Value.int (k : Int) tk₀))) (hns : ns.length <= 6) (hk : k < ns.length) (hvd : vd.length <= 6) (hvn : StrsAre vn (ns.map nameZ)) (hvw : StrsAre vw (ns.map wantZ)) (htl : ∀ p ∈ tl, p ∈ R) (hrd : RdsL w tl vr (ns.map wantZ)) (hokA : ∀ j, j < ns.length -> okW (wtA ns j) = true /\ stayOf (wtA ns j) < 2 ^ 20), wpAny (model pw_sr0088_01 w) (ktrTop dp un gd "law" scope L fa cdv (cellsFrom (L + 1) scope.names []) outer) (execs lb (envOfC "law" scope L fa cdv)) (fun f s' => f = .next /\ Hold (∃ (h' : Heap) (tk' : Nat) (m' : Str -> Option Value) (vd' : List Value) (nd' : Nat), s' = { s with heap := h', toks := tk' } /\ Fr g L h' m' /\ (∀ y : Str, y ≠ "over" -> m' y = (fun (y : Str) => if y = "places" then some (.ref rp) else if y = "over" then om y else if y = "rows" then om y else if y = "longer" then om y else if y = "caught" then om y else if y = "taken" then om y else if y = "table" then some (.ref xt) else if y = "every" then some (.ref xe) else if y = "script" then some (.ref sl) else om y) y) /\ News g L h' ((ldu, W.listOf (List.toArray vd') nd') :: (rp, rngObj (ns.length : Int) ta tb tc) :: (le, W.listOf ve.toArray ne) :: (xe, instObj 182 dxe) :: (dxe, hdD w.params toe le) :: (lt, W.listOf vt.toArray nt) :: (xt, instObj 182 dxt) :: (dxt, hdD w.params tot lt) :: (lr, W.listOf vr.toArray nr) :: (lw, W.listOf vw.toArray nw) :: (ln, W.listOf vn.toArray nn) :: (L + 1 + 1 + 1 + 1 + 1 + 1 + 1 + 1, q8) :: (L + 1 + 1 + 1 + 1 + 1 + 1 + 1, q7) :: (L + 1 + 1 + 1 + 1 + 1 + 1, q6) :: (L + 1 + 1 + 1 + 1 + 1, q5) :: (L + 1 + 1 + 1 + 1, q4) :: (L + 1 + 1 + 1, q3) :: (L + 1 + 1, q2) :: (L + 1, q1) :: R) /\ (if dueB ns k = true then ∃ t, vd' = vd ++ [.int (k : Int) t] else vd' = vd))) E s
noncomputable def turnKS (x : LP) : Prop := turnKQ x.w x.dp x.un x.gd x.outer x.A₀ x.base x.L x.s x.p x.loose x.mean x.mg x.mb x.E x.g x.sl x.fa x.cdv x.le x.xe x.dxe x.lt x.xt x.dxt x.lr x.lw x.ln x.rp x.ldu x.toe x.tot x.ta x.tb x.tc x.ve x.vt x.vr x.vw x.vn x.vd x.ne x.nt x.nr x.nw x.nn x.nd x.q1 x.q2 x.q3 x.q4 x.q5 x.q6 x.q7 x.q8 x.R x.tl x.ns x.om x.k x.tk₀
@[irreducible] noncomputable def turnKC : LP := gen LPE turnKS
namespace turnKN
noncomputable section
 def p := turnKC.p
 def g := turnKC.g
 def rp := turnKC.rp
 def ta := turnKC.ta
 def tb := turnKC.tb
 def tc := turnKC.tc
 def vr := turnKC.vr
 def vd := turnKC.vd
 def nd := turnKC.nd
 def tl := turnKC.tl
 def ns := turnKC.ns
 def k := turnKC.k
 def tk₀ := turnKC.tk₀
end
theorem main : turnKQ turnKC.w turnKC.dp turnKC.un turnKC.gd turnKC.outer turnKC.A₀ turnKC.base turnKC.L turnKC.s p turnKC.loose turnKC.mean turnKC.mg turnKC.mb turnKC.E g turnKC.sl turnKC.fa turnKC.cdv turnKC.le turnKC.xe turnKC.dxe turnKC.lt turnKC.xt turnKC.dxt turnKC.lr turnKC.lw turnKC.ln rp turnKC.ldu turnKC.toe turnKC.tot ta tb tc turnKC.ve turnKC.vt vr turnKC.vw turnKC.vn vd turnKC.ne turnKC.nt turnKC.nr turnKC.nw turnKC.nn nd turnKC.q1 turnKC.q2 turnKC.q3 turnKC.q4 turnKC.q5 turnKC.q6 turnKC.q7 turnKC.q8 turnKC.R tl ns turnKC.om k tk₀ := by
 intro scope lb hlb hsc
 conv at hlb => lhs; whnf
 conv at hsc => lhs; whnf
 subst hlb hsc
 intro hE C N offR hord d1 d2 d3 d5 d6 hns hk hvd hvn hvw htl hrd hokA
 obtain ⟨B', F', X', T', hk', hd', hu'⟩ := C
 (revert hord; refine aq9 fun r1 r2 r3 r4 r5 r6 r7 r8 => ?_; refine aq3 fun r9 r10 => ?_; intro r11)
 have hrl : vr.length = ns.length := by rw [hrd.len, List.length_map]
 (try dsimp only)
 (try k_fold)
 k_with "call ref" => ((rename Fr g _ _ _ => lF); (rename News g _ _ _ => lN); ((k_dflt refine' takes_led (tl := tl) ?hh ?hR ?hok ?hst (Cx.le ⟨B', lF, X', T', hk', hd', hu'⟩ (by decide)) ?_); (case hR => assumption); (case hh => (intro p hp; refine (lN p ?_).1; repeat (first | exact htl p hp | refine List.Mem.tail _ ?_))); (case hok => exact (hokA _ (by first | assumption | lia)).1); (case hst => exact (hokA _ (by first | assumption | lia)).2); (intro h2 tk2 kk; have lN2 := newsKeep lN kk; have lF2 := frKeep lF kk; clear kk); k_whole))
 k_with "subscriptTail" => ((rename News g _ _ _ => lN); first
   | ((k_dflt refine' item_strAt lN ?m hvn ?h1 ?h2 ?_ ?ks); (case m => k_dflt k_mem); (case h1 => (rw [List.length_map]; first | assumption | lia)); (case h2 => (rw [List.length_map]; first | exact Nat.le_trans hns (by decide) | lia)); (case ks => with_unfolding_all rfl); intro _)
   | ((k_dflt refine' item_strAt lN ?m hvw ?h1 ?h2 ?_ ?ks); (case m => k_dflt k_mem); (case h1 => (rw [List.length_map]; first | assumption | lia)); (case h2 => (rw [List.length_map]; first | exact Nat.le_trans hns (by decide) | lia)); (case ks => with_unfolding_all rfl); intro _)
   | ((k_dflt refine' item_at (vs := vr) lN ?m ?h1 ?h2 ?_ ?ks); (case m => k_dflt k_mem); (case h1 => (rw [hrl]; first | assumption | lia)); (case h2 => (rw [hrl]; first | exact Nat.le_trans hns (by decide) | lia)); (case ks => with_unfolding_all rfl); (intro rv hrv; obtain ⟨rdd, rfl, hRd⟩ := RdsL.rdAt hrd hrv))
   | ((k_dflt refine' sub3_led (tl := tl) ?hh ?hR ?_ ?ks); (case hR => assumption); (case hh => (intro p hp; refine (lN p ?_).1; repeat (first | exact htl p hp | refine List.Mem.tail _ ?_))); (case ks => with_unfolding_all rfl); intro _))
 k_with "exec Assign cons ListComp" => (lct_look; lcg_calm; k_dflt (refine PyProof.Rows.LCt.Assign_ListComp_T (F₀ := by k_asm) (by rfl) (by with_unfolding_all rfl) (by with_unfolding_all rfl) (by decide) (by rfl) (by decide) (by rfl) (by rfl) (by rfl) ?_))
 k_with "eval ListComp" => (lct_look; lcg_calm; k_dflt (refine PyProof.Rows.LCt.ListComp_T (F₀ := by k_asm) (by with_unfolding_all rfl) (by decide) (by rfl) (by decide) (by rfl) ?_))
 k_with "CompSrcT" => ((rename Fr g _ _ _ => lF); (rename News g _ _ _ => lN); (first
   | ((fail_if_success (have hq : Mark2 := by assumption)); (k_dflt refine' PyProof.Rows.LCt.CompSrcT.range (t := ta) (u := tb) (v := tc) ?ch lF lN ?hr ?hsm ?hn ?cz (fun g2 => rangeTurns (fun _ => True) (fun _ _ => trivial) (overB ns k) isNat (fun i t ys I oI C oC D m₂ h tk E' hi _ hO hx lF2 lN2 off hne => ?_) (fun us1 hJ1 => ?fin1))); (case hr => k_dflt exact (lN (rp, rngObj (ns.length : Int) ta tb tc) (by k_dflt k_mem)).1); (case hsm => exact rng_small hns); (case hn => exact rng_size _); (case cz => (rw [sizeLine_eq]; first | exact Nat.le_trans hns (by decide) | lia)))
   | ((k_dflt refine' PyProof.Rows.LCt.CompSrcT.ledger ?ch lF lN ?cm ?cz (fun g2 => natTurns (nats_of hJ1) (.inr ⟨_, by k_dflt k_mem, rfl, _, rfl⟩) (stopB ns k) isNat (fun i t ys I oI C oC D m₂ h tk E' hi0 hO hx lF2 lN2 off hne => ?_) (fun us2 hJ2 => ?_))); (case cm => k_dflt k_mem); (case cz => (rw [sizeLine_eq]; simp only [List.size_toArray]; first | exact Nat.le_trans (over_len hJ1) (Nat.le_trans hns (by decide)) | (have := over_len hJ1; lia))); all_goals (try (have hi := over_lt hi0)))); (case ch => with_unfolding_all rfl); all_goals (try k_fold))
 k_with "compareOp Eq ref ref" => ((rename News g _ _ _ => lN); (k_dflt refine' eq_intsK ?e1 (nats_of hJ2) ?e2 .nil ?eu ?_); (case e1 => k_dflt exact ⟨_, (lN (_, PyProof.Rows.LCg.lst us2) (by k_dflt k_mem)).1, rfl, _, rfl⟩); (case e2 => k_dflt exact ⟨_, (lN _ (List.Mem.head _)).1, rfl, _, rfl⟩); (case eu => first | units_room | exact eu64 hu' | (show _ + 64 < cLine; lia)))
 k_steps
 k_with_none
 all_goals try ((rename Fr _ _ _ _ => lF3); (rename News _ _ _ _ => lN3); (refine TurnEnd.intro lF3 lN3 (fun p hp => hp) ?_); first | ((refine ⟨overB_t ?_ ?_ ?_, _, rfl⟩) <;> assumption) | ((refine overB_1 ?_); assumption) | ((refine overB_2 ?_); assumption) | ((refine overB_3 ?_); assumption) | ((refine ⟨stopB_t1 ?_, _, rfl⟩); assumption) | ((refine ⟨stopB_t2 ?_, _, rfl⟩); assumption) | ((refine stopB_f ?_ ?_) <;> assumption))
 all_goals (rename Fr g _ _ _ => lF8)
 all_goals (rename News g _ _ _ => lN8)
 all_goals (rename decide _ = _ => hd8)
 all_goals try simp only [List.push_toArray] at lN8
 all_goals first
   | exact ⟨_, _, _, vd ++ [.int (k : Int) tk₀], nd + 1, rfl, lF8, fun y hy => if_neg hy, fun p hp => lN8 p (by repeat (first | exact hp | refine List.Mem.tail _ ?_)), by rw [if_pos (show dueB ns k = true from hd8)]; exact ⟨tk₀, rfl⟩⟩
   | exact ⟨_, _, _, vd, nd, rfl, lF8, fun y hy => if_neg hy, fun p hp => lN8 p (by repeat (first | exact hp | refine List.Mem.tail _ ?_)), by rw [if_neg (by rw [show dueB ns k = false from hd8]; decide)]⟩
end turnKN
theorem turnKH : turnKS (gen LPE turnKS) := by with_unfolding_all exact @turnKN.main
theorem turnK {w dp un gd outer A₀ base L s p loose mean mg mb E g sl fa cdv le xe dxe lt xt dxt lr lw ln rp ldu toe tot ta tb tc ve vt vr vw vn vd ne nt nr nw nn nd q1 q2 q3 q4 q5 q6 q7 q8 R tl ns om k tk₀} : turnKQ w dp un gd outer A₀ base L s p loose mean mg mb E g sl fa cdv le xe dxe lt xt dxt lr lw ln rp ldu toe tot ta tb tc ve vt vr vw vn vd ne nt nr nw nn nd q1 q2 q3 q4 q5 q6 q7 q8 R tl ns om k tk₀ := @all_gen LP LPE turnKS @turnKH { lp0 with w, dp, un, gd, outer, A₀, base, L, s, p, loose, mean, mg, mb, E, g, sl, fa, cdv, le, xe, dxe, lt, xt, dxt, lr, lw, ln, rp, ldu, toe, tot, ta, tb, tc, ve, vt, vr, vw, vn, vd, ne, nt, nr, nw, nn, nd, q1, q2, q3, q4, q5, q6, q7, q8, R, tl, ns, om, k, tk₀ }
end
noncomputable def Loc2 (rp xt xe sl : Addr) (m : Str -> Option Value) : Prop := m "places" = some (.ref rp) /\ m "table" = some (.ref xt) /\ m "every" = some (.ref xe) /\ m "script" = some (.ref sl)
theorem Loc2.form {rp xt xe sl : Addr} {m : Str -> Option Value} (h : Loc2 rp xt xe sl m) : m = fun (y : Str) => if y = "places" then some (.ref rp) else if y = "over" then m y else if y = "rows" then m y else if y = "longer" then m y else if y = "caught" then m y else if y = "taken" then m y else if y = "table" then some (.ref xt) else if y = "every" then some (.ref xe) else if y = "script" then some (.ref sl) else m y := by
 obtain ⟨h1, h2, h3, h4⟩ := h
 funext y
 by_cases e0 : y = "places"
 . rw [if_pos e0, e0, h1]
 rw [if_neg e0]
 by_cases e1 : y = "over"
 . rw [if_pos e1]
 rw [if_neg e1]
 by_cases e2 : y = "rows"
 . rw [if_pos e2]
 rw [if_neg e2]
 by_cases e3 : y = "longer"
 . rw [if_pos e3]
 rw [if_neg e3]
 by_cases e4 : y = "caught"
 . rw [if_pos e4]
 rw [if_neg e4]
 by_cases e5 : y = "taken"
 . rw [if_pos e5]
 rw [if_neg e5]
 by_cases e9 : y = "table"
 . rw [if_pos e9, e9, h2]
 rw [if_neg e9]
 by_cases e10 : y = "every"
 . rw [if_pos e10, e10, h3]
 rw [if_neg e10]
 by_cases e11 : y = "script"
 . rw [if_pos e11, e11, h4]
 rw [if_neg e11]
noncomputable def dueZ (ns : List Int) : List Nat := (List.range ns.length).filter (dueB ns)
noncomputable def DueJ (w : World) (L le xe dxe lt xt dxt lr lw ln rp ldu sl : Addr) (toe tot ta tb tc : Tok) (ve vt vr vw vn : List Value) (ne nt nr nw nn : Nat) (q1 q2 q3 q4 q5 q7 q8 : Obj) (R : List (Addr × Obj)) (ns : List Int) (i : Nat) (m : Str -> Option Value) (nx : List (Addr × Obj)) : Prop :=
 ∃ vd nd q6 v6, nx = (ldu, W.listOf (List.toArray vd) nd) :: (rp, rngObj (ns.length : Int) ta tb tc) :: (le, W.listOf ve.toArray ne) :: (xe, instObj 182 dxe) :: (dxe, hdD w.params toe le) :: (lt, W.listOf vt.toArray nt) :: (xt, instObj 182 dxt) :: (dxt, hdD w.params tot lt) :: (lr, W.listOf vr.toArray nr) :: (lw, W.listOf vw.toArray nw) :: (ln, W.listOf vn.toArray nn) :: (L + 1 + 1 + 1 + 1 + 1 + 1 + 1 + 1, q8) :: (L + 1 + 1 + 1 + 1 + 1 + 1 + 1, q7) :: (L + 1 + 1 + 1 + 1 + 1 + 1, q6) :: (L + 1 + 1 + 1 + 1 + 1, q5) :: (L + 1 + 1 + 1 + 1, q4) :: (L + 1 + 1 + 1, q3) :: (L + 1 + 1, q2) :: (L + 1, q1) :: R /\ q6.data = Data.cell v6 /\ Loc2 rp xt xe sl m /\ NatsAre vd ((List.range i).filter (dueB ns))
section
noncomputable abbrev turnEQ (w : World) (dp un : Nat) (gd : Option (List Code)) (outer : List Env) (A₀ : Around) (base : Heap) (L : Addr) (s : Shared) (p : Program) (loose : List Str) (mean : ExcName -> Option Value) (mg mb : Str -> Option Value) (E : Value -> Shared -> Prop) (g : Heap) (sl fa : Addr) (cdv : Value) (le xe dxe lt xt dxt lr lw ln rp ldu : Addr) (toe tot ta tb tc : Tok) (ve vt vr vw vn vd : List Value) (ne nt nr nw nn nd : Nat) (q1 q2 q3 q4 q5 q6 q7 q8 : Obj) (R tl : List (Addr × Obj)) (ns : List Int) (k : Nat) (t : Tok) (I : Addr) (oI : Obj) (m₁ : Str -> Option Value) (h : Heap) (tk : Nat) (Q : Flow -> Shared -> Prop) (px : Pos) : Prop := ∀ {scope : Scope} {lb : List Stmt} {rest₁ : List (Addr × Obj)} (hlb : forBody ((fdB (stm pw_sr0088_01 22)).getD 5 (.Pass default)) = lb) (hsc : fdS (stm pw_sr0088_01 22) = scope) (hE : PassesOwn (model pw_sr0088_01 w) (ktrTop dp un gd "law" scope L fa cdv (cellsFrom (L + 1) scope.names []) outer) (envOfC "law" scope L fa cdv) E) (B' : Below A₀ base outer g) (X' : (K w.params).In g) (T' : Top p loose mean mg mb g) (hk' : scope.kind = .function) (hd' : dp + 40 < recursionLimit) (hu' : un + 10 * 40 < cLine) (offR : OwnOff R [ldu, rp, le, xe, dxe, lt, xt, dxt, lr, lw, ln, L + 1 + 1 + 1 + 1 + 1 + 1 + 1 + 1, L + 1 + 1 + 1 + 1 + 1 + 1 + 1, L + 1 + 1 + 1 + 1 + 1 + 1, L + 1 + 1 + 1 + 1 + 1, L + 1 + 1 + 1 + 1, L + 1 + 1 + 1, L + 1 + 1, L + 1]) (hord : (@LT.lt Nat _ (L + 1 + 1 + 1 + 1 + 1 + 1 + 1 + 1) ln) /\ (@LT.lt Nat _ ln lw) /\ (@LT.lt Nat _ lw lr) /\ (@LT.lt Nat _ lr dxt) /\ (@LT.lt Nat _ dxt xt) /\ (@LT.lt Nat _ xt lt) /\ (@LT.lt Nat _ lt dxe) /\ (@LT.lt Nat _ dxe xe) /\ (@LT.lt Nat _ xe le) /\ (@LT.lt Nat _ le rp) /\ (@LT.lt Nat _ rp ldu)) (d1 : q1.data = Data.cell (some (Value.ref ln))) (d2 : q2.data = Data.cell (some (Value.ref lw))) (d3 : q3.data = Data.cell (some (Value.ref lr))) (d5 : q5.data = Data.cell (some (Value.ref ldu))) (hns : ns.length <= 6) (hvn : StrsAre vn (ns.map nameZ)) (hvw : StrsAre vw (ns.map wantZ)) (htl : ∀ p ∈ tl, p ∈ R) (hrd : RdsL w tl vr (ns.map wantZ)) (hokA : ∀ j, j < ns.length -> okW (wtA ns j) = true /\ stayOf (wtA ns j) < 2 ^ 20) (hk : k < ns.length) (hJ : DueJ w L le xe dxe lt xt dxt lr lw ln rp ldu sl toe tot ta tb tc ve vt vr vw vn ne nt nr nw nn q1 q2 q3 q4 q5 q7 q8 R ns k m₁ rest₁) (hnr : ∀ p ∈ rest₁, p.1 ≠ I) (F₁ : Fr g L h m₁) (N₁ : News g L h ((I, oI) :: rest₁)), wpAny (model pw_sr0088_01 w) (ktrTop dp un gd "law" scope L fa cdv (cellsFrom (L + 1) scope.names []) outer) (letOwnedTupleGo (.Name "k" px) (.ref I) (.int (k : Int) t)) (fun _ s' => wpAny (model pw_sr0088_01 w) (ktrTop dp un gd "law" scope L fa cdv (cellsFrom (L + 1) scope.names []) outer) (assign (.Name "k" px) (envOfC "law" scope L fa cdv) (.int (k : Int) t)) (fun _ s'' => wpAny (model pw_sr0088_01 w) (ktrTop dp un gd "law" scope L fa cdv (cellsFrom (L + 1) scope.names []) outer) (execs lb (envOfC "law" scope L fa cdv)) (fun f s₃ => FEnd g L (DueJ w L le xe dxe lt xt dxt lr lw ln rp ldu sl toe tot ta tb tc ve vt vr vw vn ne nt nr nw nn q1 q2 q3 q4 q5 q7 q8 R ns (k + 1)) I oI { s with heap := h, toks := tk } Q f s₃) E s'') E s') E { s with heap := h, toks := tk }
noncomputable def turnES (x : LP) : Prop := turnEQ x.w x.dp x.un x.gd x.outer x.A₀ x.base x.L x.s x.p x.loose x.mean x.mg x.mb x.E x.g x.sl x.fa x.cdv x.le x.xe x.dxe x.lt x.xt x.dxt x.lr x.lw x.ln x.rp x.ldu x.toe x.tot x.ta x.tb x.tc x.ve x.vt x.vr x.vw x.vn x.vd x.ne x.nt x.nr x.nw x.nn x.nd x.q1 x.q2 x.q3 x.q4 x.q5 x.q6 x.q7 x.q8 x.R x.tl x.ns x.k x.t x.I x.oI x.m₁ x.h x.tk x.Qx1 x.px
@[irreducible] noncomputable def turnEC : LP := gen LPE turnES
namespace turnEN
noncomputable section
 def w := turnEC.w
 def L := turnEC.L
 def s := turnEC.s
 def p := turnEC.p
 def g := turnEC.g
 def le := turnEC.le
 def xe := turnEC.xe
 def dxe := turnEC.dxe
 def lt := turnEC.lt
 def xt := turnEC.xt
 def dxt := turnEC.dxt
 def lr := turnEC.lr
 def lw := turnEC.lw
 def ln := turnEC.ln
 def rp := turnEC.rp
 def ldu := turnEC.ldu
 def toe := turnEC.toe
 def tot := turnEC.tot
 def ta := turnEC.ta
 def tb := turnEC.tb
 def tc := turnEC.tc
 def ve := turnEC.ve
 def vt := turnEC.vt
 def vr := turnEC.vr
 def vw := turnEC.vw
 def vn := turnEC.vn
 def vd := turnEC.vd
 def ne := turnEC.ne
 def nt := turnEC.nt
 def nr := turnEC.nr
 def nw := turnEC.nw
 def nn := turnEC.nn
 def nd := turnEC.nd
 def q1 := turnEC.q1
 def q2 := turnEC.q2
 def q3 := turnEC.q3
 def q4 := turnEC.q4
 def q5 := turnEC.q5
 def q6 := turnEC.q6
 def q7 := turnEC.q7
 def q8 := turnEC.q8
 def R := turnEC.R
 def ns := turnEC.ns
 def k := turnEC.k
 def I := turnEC.I
 def oI := turnEC.oI
 def tk := turnEC.tk
end
theorem main : turnEQ w turnEC.dp turnEC.un turnEC.gd turnEC.outer turnEC.A₀ turnEC.base L s p turnEC.loose turnEC.mean turnEC.mg turnEC.mb turnEC.E g turnEC.sl turnEC.fa turnEC.cdv le xe dxe lt xt dxt lr lw ln rp ldu toe tot ta tb tc ve vt vr vw vn vd ne nt nr nw nn nd q1 q2 q3 q4 q5 q6 q7 q8 R turnEC.tl ns k turnEC.t I oI turnEC.m₁ turnEC.h tk turnEC.Qx1 turnEC.px := by
 intro scope lb rest₁ hlb hsc hE B' X' T' hk' hd' hu' offR hord d1 d2 d3 d5 hns hvn hvw htl hrd hokA hk hJ hnr F₁ N₁
 (revert hJ; refine xq4 fun vd nd q6 v6 => ?_; refine aq2 fun eQ => ?_; subst eQ; refine aq3 fun d6 M => ?_; intro hvd)
 have hsc2 := hsc
 conv at hsc2 => lhs; whnf
 (have hQ := id hord; revert hQ; refine aq9 fun r1 r2 r3 r4 r5 r6 r7 r8 => ?_; refine aq3 fun r9 r10 => ?_; intro r11)
 refine wpAny_pure ?_
 refine wpAny_assign_Name ?_
 have hI6 : I ≠ L + 1 + 1 + 1 + 1 + 1 + 1 := Ne.symm (hnr (L + 1 + 1 + 1 + 1 + 1 + 1, q6) (by simp))
 have hR6 : ∀ p ∈ R, p.1 ≠ L + 1 + 1 + 1 + 1 + 1 + 1 := fun p hp => offR p hp _ (by simp)
 have U : UpdF (L + 1 + 1 + 1 + 1 + 1 + 1) q6 ((I, oI) :: (ldu, W.listOf vd.toArray nd) :: (rp, rngObj (ns.length : Int) ta tb tc) :: (le, W.listOf ve.toArray ne) :: (xe, instObj 182 dxe) :: (dxe, hdD w.params toe le) :: (lt, W.listOf vt.toArray nt) :: (xt, instObj 182 dxt) :: (dxt, hdD w.params tot lt) :: (lr, W.listOf vr.toArray nr) :: (lw, W.listOf vw.toArray nw) :: (ln, W.listOf vn.toArray nn) :: (L + 1 + 1 + 1 + 1 + 1 + 1 + 1 + 1, q8) :: (L + 1 + 1 + 1 + 1 + 1 + 1 + 1, q7) :: (L + 1 + 1 + 1 + 1 + 1 + 1, q6) :: (L + 1 + 1 + 1 + 1 + 1, q5) :: (L + 1 + 1 + 1 + 1, q4) :: (L + 1 + 1 + 1, q3) :: (L + 1 + 1, q2) :: (L + 1, q1) :: R) (fun o6 => (I, oI) :: (ldu, W.listOf vd.toArray nd) :: (rp, rngObj (ns.length : Int) ta tb tc) :: (le, W.listOf ve.toArray ne) :: (xe, instObj 182 dxe) :: (dxe, hdD w.params toe le) :: (lt, W.listOf vt.toArray nt) :: (xt, instObj 182 dxt) :: (dxt, hdD w.params tot lt) :: (lr, W.listOf vr.toArray nr) :: (lw, W.listOf vw.toArray nw) :: (ln, W.listOf vn.toArray nn) :: (L + 1 + 1 + 1 + 1 + 1 + 1 + 1 + 1, q8) :: (L + 1 + 1 + 1 + 1 + 1 + 1 + 1, q7) :: (L + 1 + 1 + 1 + 1 + 1 + 1, o6) :: (L + 1 + 1 + 1 + 1 + 1, q5) :: (L + 1 + 1 + 1 + 1, q4) :: (L + 1 + 1 + 1, q3) :: (L + 1 + 1, q2) :: (L + 1, q1) :: R) := by
   refine UpdF.tail hI6 ?_
   repeat (first | refine UpdF.head ?_ | refine UpdF.tail (neN (by dsimp only; lia)) ?_)
   repeat (first | exact hR6 | refine List.forall_mem_cons.mpr ⟨neN (by dsimp only; lia), ?_⟩)
 refine storeX_C F₁ N₁ (by rw [<- hsc2]; rfl) U d6 (fun h₂ o₂ F₂ N₂ d₂ => ?_) hk' (by rw [<- hsc2]; rfl)
 have M2 := M.form
 have offR2 : OwnOff ((I, oI) :: R) [ldu, rp, le, xe, dxe, lt, xt, dxt, lr, lw, ln, L + 1 + 1 + 1 + 1 + 1 + 1 + 1 + 1, L + 1 + 1 + 1 + 1 + 1 + 1 + 1, L + 1 + 1 + 1 + 1 + 1 + 1, L + 1 + 1 + 1 + 1 + 1, L + 1 + 1 + 1 + 1, L + 1 + 1 + 1, L + 1 + 1, L + 1] := by
   intro p hp b hb
   rcases List.mem_cons.mp hp with rfl | hp
   . have : b ∈ ([(ldu, W.listOf vd.toArray nd), (rp, rngObj (ns.length : Int) ta tb tc), (le, W.listOf ve.toArray ne), (xe, instObj 182 dxe), (dxe, hdD w.params toe le), (lt, W.listOf vt.toArray nt), (xt, instObj 182 dxt), (dxt, hdD w.params tot lt), (lr, W.listOf vr.toArray nr), (lw, W.listOf vw.toArray nw), (ln, W.listOf vn.toArray nn), (L + 1 + 1 + 1 + 1 + 1 + 1 + 1 + 1, q8), (L + 1 + 1 + 1 + 1 + 1 + 1 + 1, q7), (L + 1 + 1 + 1 + 1 + 1 + 1, q6), (L + 1 + 1 + 1 + 1 + 1, q5), (L + 1 + 1 + 1 + 1, q4), (L + 1 + 1 + 1, q3), (L + 1 + 1, q2), (L + 1, q1)] : List (Addr × Obj)).map (·.1) := hb
     obtain ⟨q, hq, rfl⟩ := List.mem_map.mp this
     exact Ne.symm (hnr q (List.mem_append_left R hq))
   . exact offR p hp b hb
 have N3 : News g L h₂ ((ldu, W.listOf vd.toArray nd) :: (rp, rngObj (ns.length : Int) ta tb tc) :: (le, W.listOf ve.toArray ne) :: (xe, instObj 182 dxe) :: (dxe, hdD w.params toe le) :: (lt, W.listOf vt.toArray nt) :: (xt, instObj 182 dxt) :: (dxt, hdD w.params tot lt) :: (lr, W.listOf vr.toArray nr) :: (lw, W.listOf vw.toArray nw) :: (ln, W.listOf vn.toArray nn) :: (L + 1 + 1 + 1 + 1 + 1 + 1 + 1 + 1, q8) :: (L + 1 + 1 + 1 + 1 + 1 + 1 + 1, q7) :: (L + 1 + 1 + 1 + 1 + 1 + 1, o₂) :: (L + 1 + 1 + 1 + 1 + 1, q5) :: (L + 1 + 1 + 1 + 1, q4) :: (L + 1 + 1 + 1, q3) :: (L + 1 + 1, q2) :: (L + 1, q1) :: ((I, oI) :: R)) := news_mid (a := [(I, oI)]) (b := [(ldu, W.listOf vd.toArray nd), (rp, rngObj (ns.length : Int) ta tb tc), (le, W.listOf ve.toArray ne), (xe, instObj 182 dxe), (dxe, hdD w.params toe le), (lt, W.listOf vt.toArray nt), (xt, instObj 182 dxt), (dxt, hdD w.params tot lt), (lr, W.listOf vr.toArray nr), (lw, W.listOf vw.toArray nw), (ln, W.listOf vn.toArray nn), (L + 1 + 1 + 1 + 1 + 1 + 1 + 1 + 1, q8), (L + 1 + 1 + 1 + 1 + 1 + 1 + 1, q7), (L + 1 + 1 + 1 + 1 + 1 + 1, o₂), (L + 1 + 1 + 1 + 1 + 1, q5), (L + 1 + 1 + 1 + 1, q4), (L + 1 + 1 + 1, q3), (L + 1 + 1, q2), (L + 1, q1)]) (c := R) N₂
 have hvl : vd.length <= 6 := by
   rw [hvd.len]
   have := List.length_filter_le (dueB ns) (List.range k)
   rw [List.length_range] at this
   lia
 refine wpAny_mono (turnK (s := { s with heap := h₂, toks := tk }) (q6 := o₂) hlb hsc hE ⟨B', Eq.mp (congrArg (Fr g L h₂) M2) F₂, X', T', hk', hd', hu'⟩ N3 offR2 hord d1 d2 d3 d5 d₂ hns hk hvl hvn hvw (fun p hp => .tail _ (htl p hp)) hrd hokA) ?_ fun _ _ e => e
 (intro f s'; refine aq2 fun eQ => ?_; subst eQ; refine xq5 fun h₃ tk₃ m₃ vd' nd' => ?_; refine aq2 fun eQ => ?_; subst eQ; refine aq4 fun F₃ hm₃ N₃ => ?_; intro hif)
 have N4 := news_mid (a := [(ldu, W.listOf (List.toArray vd') nd'), (rp, rngObj (ns.length : Int) ta tb tc), (le, W.listOf ve.toArray ne), (xe, instObj 182 dxe), (dxe, hdD w.params toe le), (lt, W.listOf vt.toArray nt), (xt, instObj 182 dxt), (dxt, hdD w.params tot lt), (lr, W.listOf vr.toArray nr), (lw, W.listOf vw.toArray nw), (ln, W.listOf vn.toArray nn), (L + 1 + 1 + 1 + 1 + 1 + 1 + 1 + 1, q8), (L + 1 + 1 + 1 + 1 + 1 + 1 + 1, q7), (L + 1 + 1 + 1 + 1 + 1 + 1, o₂), (L + 1 + 1 + 1 + 1 + 1, q5), (L + 1 + 1 + 1 + 1, q4), (L + 1 + 1 + 1, q3), (L + 1 + 1, q2), (L + 1, q1)]) (b := [(I, oI)]) (c := R) N₃
 refine ⟨h₃, tk₃, m₃, _, rfl, F₃, N4, fun p hp => ?_, vd', nd', o₂, _, rfl, d₂, ⟨hm₃ _ (by decide), hm₃ _ (by decide), hm₃ _ (by decide), hm₃ _ (by decide)⟩, ?_⟩
 . have key : p.1 ∈ (((ldu, W.listOf vd.toArray nd) :: (rp, rngObj (ns.length : Int) ta tb tc) :: (le, W.listOf ve.toArray ne) :: (xe, instObj 182 dxe) :: (dxe, hdD w.params toe le) :: (lt, W.listOf vt.toArray nt) :: (xt, instObj 182 dxt) :: (dxt, hdD w.params tot lt) :: (lr, W.listOf vr.toArray nr) :: (lw, W.listOf vw.toArray nw) :: (ln, W.listOf vn.toArray nn) :: (L + 1 + 1 + 1 + 1 + 1 + 1 + 1 + 1, q8) :: (L + 1 + 1 + 1 + 1 + 1 + 1 + 1, q7) :: (L + 1 + 1 + 1 + 1 + 1 + 1, q6) :: (L + 1 + 1 + 1 + 1 + 1, q5) :: (L + 1 + 1 + 1 + 1, q4) :: (L + 1 + 1 + 1, q3) :: (L + 1 + 1, q2) :: (L + 1, q1) :: R) : List (Addr × Obj)).map (·.1) := by
     have : p.1 ∈ (((ldu, W.listOf (List.toArray vd') nd') :: (rp, rngObj (ns.length : Int) ta tb tc) :: (le, W.listOf ve.toArray ne) :: (xe, instObj 182 dxe) :: (dxe, hdD w.params toe le) :: (lt, W.listOf vt.toArray nt) :: (xt, instObj 182 dxt) :: (dxt, hdD w.params tot lt) :: (lr, W.listOf vr.toArray nr) :: (lw, W.listOf vw.toArray nw) :: (ln, W.listOf vn.toArray nn) :: (L + 1 + 1 + 1 + 1 + 1 + 1 + 1 + 1, q8) :: (L + 1 + 1 + 1 + 1 + 1 + 1 + 1, q7) :: (L + 1 + 1 + 1 + 1 + 1 + 1, o₂) :: (L + 1 + 1 + 1 + 1 + 1, q5) :: (L + 1 + 1 + 1 + 1, q4) :: (L + 1 + 1 + 1, q3) :: (L + 1 + 1, q2) :: (L + 1, q1) :: R) : List (Addr × Obj)).map (·.1) := List.mem_map.mpr ⟨p, hp, rfl⟩
     exact this
   obtain ⟨q, hq, e⟩ := List.mem_map.mp key
   rw [<- e]; exact hnr q hq
 . rw [List.range_succ, List.filter_append]
   by_cases hb : dueB ns k = true
   . rw [if_pos hb] at hif
     obtain ⟨t', rfl⟩ := hif
     simp only [List.filter_cons, hb, if_true, List.filter_nil]
     exact hvd.snoc k t'
   . rw [if_neg hb] at hif
     subst hif
     simp only [List.filter_cons, hb, Bool.false_eq_true, if_false, List.filter_nil, List.append_nil]
     exact hvd
end turnEN
theorem turnEH : turnES (gen LPE turnES) := by with_unfolding_all exact @turnEN.main
theorem turnE {w dp un gd outer A₀ base L s p loose mean mg mb E g sl fa cdv le xe dxe lt xt dxt lr lw ln rp ldu toe tot ta tb tc ve vt vr vw vn vd ne nt nr nw nn nd q1 q2 q3 q4 q5 q6 q7 q8 R tl ns k t I oI m₁ h tk Q px} : turnEQ w dp un gd outer A₀ base L s p loose mean mg mb E g sl fa cdv le xe dxe lt xt dxt lr lw ln rp ldu toe tot ta tb tc ve vt vr vw vn vd ne nt nr nw nn nd q1 q2 q3 q4 q5 q6 q7 q8 R tl ns k t I oI m₁ h tk Q px := @all_gen LP LPE turnES @turnEH { lp0 with w, dp, un, gd, outer, A₀, base, L, s, p, loose, mean, mg, mb, E, g, sl, fa, cdv, le, xe, dxe, lt, xt, dxt, lr, lw, ln, rp, ldu, toe, tot, ta, tb, tc, ve, vt, vr, vw, vn, vd, ne, nt, nr, nw, nn, nd, q1, q2, q3, q4, q5, q6, q7, q8, R, tl, ns, k, t, I, oI, m₁, h, tk, Qx1 := Q, px }
end
theorem allLt_mem {d : Addr} {l : List (Addr × Obj)} (h : AllLt d l) : ∀ p ∈ l, p.1 < d := by
 induction l with
 | nil => intro p hp; cases hp
 | cons a l ih =>
   intro p hp
   cases hp with
   | head => exact h.1
   | tail _ hp => exact ih h.2 p hp
theorem off_lt2 {R : List (Addr × Obj)} {adr : List Addr} {rp ldu : Addr} (o : OwnOff R adr) (h1 : AllLt rp R) (h2 : AllLt ldu R) : OwnOff R (ldu :: rp :: adr) := by
 intro p hp b hb
 rcases List.mem_cons.mp hb with rfl | hb
 . exact Nat.ne_of_lt (allLt_mem h2 p hp)
 . rcases List.mem_cons.mp hb with rfl | hb
   . exact Nat.ne_of_lt (allLt_mem h1 p hp)
   . exact o p hp b hb
section
noncomputable abbrev partEQ (w : World) (dp un : Nat) (gd : Option (List Code)) (outer : List Env) (A₀ : Around) (base : Heap) (L : Addr) (s : Shared) (p : Program) (loose : List Str) (mean : ExcName -> Option Value) (mg mb : Str -> Option Value) (E : Value -> Shared -> Prop) (g : Heap) (sl fa : Addr) (cdv : Value) (le xe dxe lt xt dxt lr lw ln : Addr) (toe tot : Tok) (ve vt vr vw vn : List Value) (ne nt nr nw nn : Nat) (q1 q2 q3 q4 q5 q6 q7 q8 : Obj) (R tl : List (Addr × Obj)) (ns : List Int) (om : Str -> Option Value) : Prop := ∀ {scope : Scope} {lb : List Stmt} (hlb : ((fdB (stm pw_sr0088_01 22)).drop 3).take 3 = lb) (hsc : fdS (stm pw_sr0088_01 22) = scope) (hE : PassesOwn (model pw_sr0088_01 w) (ktrTop dp un gd "law" scope L fa cdv (cellsFrom (L + 1) scope.names []) outer) (envOfC "law" scope L fa cdv) E) (C : Cx w dp un scope outer A₀ base g L (fun (y : Str) => if y = "table" then some (.ref xt) else if y = "every" then some (.ref xe) else if y = "script" then some (.ref sl) else om y) s.heap p loose mean mg mb 40) (N : News g L s.heap ((le, W.listOf ve.toArray ne) :: (xe, instObj 182 dxe) :: (dxe, hdD w.params toe le) :: (lt, W.listOf vt.toArray nt) :: (xt, instObj 182 dxt) :: (dxt, hdD w.params tot lt) :: (lr, W.listOf vr.toArray nr) :: (lw, W.listOf vw.toArray nw) :: (ln, W.listOf vn.toArray nn) :: (L + 1 + 1 + 1 + 1 + 1 + 1 + 1 + 1, q8) :: (L + 1 + 1 + 1 + 1 + 1 + 1 + 1, q7) :: (L + 1 + 1 + 1 + 1 + 1 + 1, q6) :: (L + 1 + 1 + 1 + 1 + 1, q5) :: (L + 1 + 1 + 1 + 1, q4) :: (L + 1 + 1 + 1, q3) :: (L + 1 + 1, q2) :: (L + 1, q1) :: R)) (offR : OwnOff R [le, xe, dxe, lt, xt, dxt, lr, lw, ln, L + 1 + 1 + 1 + 1 + 1 + 1 + 1 + 1, L + 1 + 1 + 1 + 1 + 1 + 1 + 1, L + 1 + 1 + 1 + 1 + 1 + 1, L + 1 + 1 + 1 + 1 + 1, L + 1 + 1 + 1 + 1, L + 1 + 1 + 1, L + 1 + 1, L + 1]) (hord : (@LT.lt Nat _ (L + 1 + 1 + 1 + 1 + 1 + 1 + 1 + 1) ln) /\ (@LT.lt Nat _ ln lw) /\ (@LT.lt Nat _ lw lr) /\ (@LT.lt Nat _ lr dxt) /\ (@LT.lt Nat _ dxt xt) /\ (@LT.lt Nat _ xt lt) /\ (@LT.lt Nat _ lt dxe) /\ (@LT.lt Nat _ dxe xe) /\ (@LT.lt Nat _ xe le)) (d1 : q1.data = Data.cell (some (Value.ref ln))) (d2 : q2.data = Data.cell (some (Value.ref lw))) (d3 : q3.data = Data.cell (some (Value.ref lr))) (v5 v6 : Option Value) (d5 : q5.data = Data.cell v5) (d6 : q6.data = Data.cell v6) (hns : ns.length <= 6) (hvn : StrsAre vn (ns.map nameZ)) (hvw : StrsAre vw (ns.map wantZ)) (htl : ∀ p ∈ tl, p ∈ R) (hrd : RdsL w tl vr (ns.map wantZ)) (hokA : ∀ j, j < ns.length -> okW (wtA ns j) = true /\ stayOf (wtA ns j) < 2 ^ 20), wpAny (model pw_sr0088_01 w) (ktrTop dp un gd "law" scope L fa cdv (cellsFrom (L + 1) scope.names []) outer) (execs lb (envOfC "law" scope L fa cdv)) (fun f s' => f = .next /\ Hold (∃ (h' : Heap) (tk' : Nat) (m' : Str -> Option Value) (rp ldu : Addr) (ta tb tc : Tok) (vd : List Value) (nd : Nat) (q5' q6' : Obj) (v6' : Option Value), s' = { s with heap := h', toks := tk' } /\ Fr g L h' m' /\ Loc2 rp xt xe sl m' /\ q5'.data = Data.cell (some (Value.ref ldu)) /\ q6'.data = Data.cell v6' /\ NatsAre vd (dueZ ns) /\ News g L h' ((ldu, W.listOf (List.toArray vd) nd) :: (rp, rngObj (ns.length : Int) ta tb tc) :: (le, W.listOf ve.toArray ne) :: (xe, instObj 182 dxe) :: (dxe, hdD w.params toe le) :: (lt, W.listOf vt.toArray nt) :: (xt, instObj 182 dxt) :: (dxt, hdD w.params tot lt) :: (lr, W.listOf vr.toArray nr) :: (lw, W.listOf vw.toArray nw) :: (ln, W.listOf vn.toArray nn) :: (L + 1 + 1 + 1 + 1 + 1 + 1 + 1 + 1, q8) :: (L + 1 + 1 + 1 + 1 + 1 + 1 + 1, q7) :: (L + 1 + 1 + 1 + 1 + 1 + 1, q6') :: (L + 1 + 1 + 1 + 1 + 1, q5') :: (L + 1 + 1 + 1 + 1, q4) :: (L + 1 + 1 + 1, q3) :: (L + 1 + 1, q2) :: (L + 1, q1) :: R) /\ (@LT.lt Nat _ le rp) /\ (@LT.lt Nat _ rp ldu) /\ (∀ p ∈ R, p.1 ≠ rp /\ p.1 ≠ ldu))) E s
noncomputable def partES (x : LP) : Prop := partEQ x.w x.dp x.un x.gd x.outer x.A₀ x.base x.L x.s x.p x.loose x.mean x.mg x.mb x.E x.g x.sl x.fa x.cdv x.le x.xe x.dxe x.lt x.xt x.dxt x.lr x.lw x.ln x.toe x.tot x.ve x.vt x.vr x.vw x.vn x.ne x.nt x.nr x.nw x.nn x.q1 x.q2 x.q3 x.q4 x.q5 x.q6 x.q7 x.q8 x.R x.tl x.ns x.om
@[irreducible] noncomputable def partEC : LP := gen LPE partES
namespace partEN
noncomputable section
 def w := partEC.w
 def L := partEC.L
 def p := partEC.p
 def g := partEC.g
 def sl := partEC.sl
 def le := partEC.le
 def xe := partEC.xe
 def dxe := partEC.dxe
 def lt := partEC.lt
 def xt := partEC.xt
 def dxt := partEC.dxt
 def lr := partEC.lr
 def lw := partEC.lw
 def ln := partEC.ln
 def toe := partEC.toe
 def tot := partEC.tot
 def ve := partEC.ve
 def vt := partEC.vt
 def vr := partEC.vr
 def vw := partEC.vw
 def vn := partEC.vn
 def ne := partEC.ne
 def nt := partEC.nt
 def nr := partEC.nr
 def nw := partEC.nw
 def nn := partEC.nn
 def q1 := partEC.q1
 def q2 := partEC.q2
 def q3 := partEC.q3
 def q4 := partEC.q4
 def q6 := partEC.q6
 def q7 := partEC.q7
 def q8 := partEC.q8
 def R := partEC.R
 def ns := partEC.ns
end
theorem main : partEQ w partEC.dp partEC.un partEC.gd partEC.outer partEC.A₀ partEC.base L partEC.s p partEC.loose partEC.mean partEC.mg partEC.mb partEC.E g sl partEC.fa partEC.cdv le xe dxe lt xt dxt lr lw ln toe tot ve vt vr vw vn ne nt nr nw nn q1 q2 q3 q4 partEC.q5 q6 q7 q8 R partEC.tl ns partEC.om := by
 intro scope lb hlb hsc
 have hlb1 := hlb
 have hsc1 := hsc
 conv at hlb => lhs; whnf
 conv at hsc => lhs; whnf
 subst hlb hsc
 intro hE C N offR hord d1 d2 d3 v5 v6 d5 d6 hns hvn hvw htl hrd hokA
 obtain ⟨B', F', X', T', hk', hd', hu'⟩ := C
 have hord0 := hord
 (revert hord; refine aq9 fun r1 r2 r3 r4 r5 r6 r7 r8 => ?_; intro r9)
 (try dsimp only)
 (try k_fold)
 k_with "call builtin:len" => ((rename News g _ _ _ => lN); (k_dflt refine' len_lst lN ?lm ?ll ?_); (case lm => k_dflt k_mem); (case ll => (have := hvn.length; rw [List.length_map] at this; lia)); (rw [show vn.length = ns.length by rw [hvn.length, List.length_map]]))
 k_with "call type:range" => ((rename Fr g _ _ _ => lF); (rename News g _ _ _ => lN); (k_dflt refine' range_led lF lN ?_); (intro h2 tk2 rp ta tb tc lF2 lN2 hlt; have hlt0 := hlt; simp only [AllLt] at hlt))
 k_with "exec For Name Name cons nil" => (with_unfolding_all refine' For_G (h₀ := g) ?_ ?k1 ?k2; (case k1 => exact fun _ => rfl); (case k2 => exact hE))
 k_with "pyIter ref" => (((rename Fr g _ _ _ => lF); (rename News g _ _ _ => lN); (rename Addr => ldu); (rename Obj => q5n); (rename q5n.data = _ => d5n); (rename (@LT.lt Nat _ rp _ /\ _) => l1n); (k_dflt refine' rangeG (fun i m nx => DueJ w L le xe dxe lt xt dxt lr lw ln rp ldu sl toe tot ta tb tc ve vt vr vw vn ne nt nr nw nn q1 q2 q3 q4 q5n q7 q8 R ns i m nx) ?ch ?hr ?hn lF lN ?h0 ?turn ?done); (case ch => with_unfolding_all rfl); (case hr => k_dflt exact (lN (rp, rngObj (ns.length : Int) ta tb tc) (by k_dflt k_mem)).1); (case hn => lia); (case h0 => k_dflt exact ⟨[], 0, q6, v6, rfl, d6, ⟨rfl, rfl, rfl, rfl⟩, .nil⟩); (k_dflt have hord3 := And.intro r1 (And.intro r2 (And.intro r3 (And.intro r4 (And.intro r5 (And.intro r6 (And.intro r7 (And.intro r8 (And.intro r9 (And.intro hlt.1 l1n.1)))))))))); (k_dflt have hoR := off_lt2 offR hlt.2.2.2.2.2.2.2.2.2.2.2.2.2.2.2.2.2 l1n.2.2.2.2.2.2.2.2.2.2.2.2.2.2.2.2.2.2); (case turn => k_dflt exact fun i t m₁ rest₁ I oI h tk hi hJ hnr F₁ N₁ => turnE (q6 := q6) (nd := 0) (vd := []) rfl hsc1 hE B' X' T' hk' hd' hu' hoR hord3 d1 d2 d3 d5n hns hvn hvw htl hrd hokA hi hJ hnr F₁ N₁); (case' done => (intro m₁ rest₁ h5 tk5 hJ F₁ N₁))))
 k_steps
 k_with_none
 all_goals (with_unfolding_all refine wpAny_execs_nil ?_)
 (revert hJ; refine xq4 fun vd nd q6' v6' => ?_; refine aq2 fun eQ => ?_; subst eQ; refine aq3 fun d6' M => ?_; intro hvd)
 exact ⟨rfl, h5, tk5, m₁, rp, ldu, ta, tb, tc, vd, nd, q5n, q6', v6', rfl, F₁, M, d5n, d6', hvd, N₁, hlt.1, l1n.1, fun p hp => ⟨Nat.ne_of_lt (allLt_mem hlt.2.2.2.2.2.2.2.2.2.2.2.2.2.2.2.2.2 p hp), Nat.ne_of_lt (allLt_mem l1n.2.2.2.2.2.2.2.2.2.2.2.2.2.2.2.2.2.2 p hp)⟩⟩
end partEN
theorem partEH : partES (gen LPE partES) := by with_unfolding_all exact @partEN.main
theorem partE {w dp un gd outer A₀ base L s p loose mean mg mb E g sl fa cdv le xe dxe lt xt dxt lr lw ln toe tot ve vt vr vw vn ne nt nr nw nn q1 q2 q3 q4 q5 q6 q7 q8 R tl ns om} : partEQ w dp un gd outer A₀ base L s p loose mean mg mb E g sl fa cdv le xe dxe lt xt dxt lr lw ln toe tot ve vt vr vw vn ne nt nr nw nn q1 q2 q3 q4 q5 q6 q7 q8 R tl ns om := @all_gen LP LPE partES @partEH { lp0 with w, dp, un, gd, outer, A₀, base, L, s, p, loose, mean, mg, mb, E, g, sl, fa, cdv, le, xe, dxe, lt, xt, dxt, lr, lw, ln, toe, tot, ve, vt, vr, vw, vn, ne, nt, nr, nw, nn, q1, q2, q3, q4, q5, q6, q7, q8, R, tl, ns, om }
end
open PyProof.Rows.LCg PyProof.Rows.LCp
section
variable {prog : Program} {w : World} {A : Around} {E : Value -> Shared -> Prop} {s : Shared} {h₀ : Heap} {L : Addr} {m : Str -> Option Value} {env : Env}
theorem newEnv_one {scope : Scope} {x a b c d : Str} {cl : List (Str × Addr)} {qual : Str} {globals : Addr} {Q : Env -> Shared -> Prop} (hn : scope.names = [(a, .local), (x, .cell), (b, .globalImplicit), (c, .free), (d, .free)])
   (hQ : Q { scope := scope, locals := s.heap.objs.size, globals := globals, cells := (x, s.heap.objs.size + 1) :: cl, qual := qual, func := none, code := env.code, frame := env.frame, builtins := env.builtins }
     { s with heap := (s.heap.push { cls := .type "dict", data := .dict #[] }).push { cls := .type "cell", data := .cell none } }) :
   wpAny (model prog w) A (newFunctionEnv scope globals cl [] qual none .none (some env)) Q E s := by
 simp only [newFunctionEnv, Option.isSome_some, if_true]
 refine wpAny_bind (wpAny_alloc ?_)
 refine wpAny_bind (wpAny_layCells _ (fun name kind cells => by cases hkc : kind == NameKind.cell <;> simp [hkc]) _ _ _ _ ?_)
 rw [hn]
 have e1 : (s.heap.push { cls := .type "dict", data := .dict #[] }).objs.size = s.heap.objs.size + 1 := Heap.size_push ..
 rw [show ({ s with heap := s.heap.push { cls := .type "dict", data := .dict #[] } } : Shared).heap.objs.size = s.heap.objs.size + 1 from e1]
 refine wpAny_bind (wpAny_pure (wpAny_pure ?_))
 exact hQ
noncomputable def KTurnC (prog : Program) (w : World) (A : Around) (h₀ : Heap) (L : Addr) (m : Str -> Option Value) (env : Env) (elt : Expr) (x : Str) (scope : Scope) (cl : List (Str × Addr)) (s : Shared) (vs : List Value) (news : List (Addr × Obj)) (J : List Value -> List (Addr × Obj) -> Prop) : Prop :=
 ∀ v zs G C oC c oc D I oI h tk (E' : Value -> Shared -> Prop), vs[zs.length]? = some v -> J zs G -> oc.data = .cell (some v) -> (∃ m₂, NsObj oC m₂) -> Fr h₀ L h m -> (∀ p ∈ news ++ G, p.1 ≠ c /\ p.1 ≠ C /\ p.1 ≠ D /\ p.1 ≠ I) -> @Ne Nat c C -> @Ne Nat c D -> @Ne Nat c I -> @Ne Nat C D -> @Ne Nat C I -> @Ne Nat D I -> News h₀ L h ((c, oc) :: (C, oC) :: (D, lst zs) :: (I, oI) :: (news ++ G)) ->
   wpAny (model prog w) A (eval elt (compEnvC scope ((x, c) :: cl) C env)) (ZEnd h₀ L m { s with heap := h, toks := tk } ((c, oc) :: (C, oC) :: (D, lst zs) :: (I, oI) :: (news ++ G)) (fun y own => J (zs ++ [y]) (own ++ G))) E' { s with heap := h, toks := tk }
end
section
noncomputable abbrev block_KQ (prog : Program) (w : World) (A : Around) (E : Value -> Shared -> Prop) (h₀ : Heap) (L : Addr) (m : Str -> Option Value) (env : Env) (elt iter : Expr) (x a b c d : Str) (px : Pos) (cl : List (Str × Addr)) (pos : Pos) (s₂ : Shared) (I l : Addr) (nn : Nat) (vs : List Value) (news : List (Addr × Obj)) (RR : Value -> Addr -> Result -> Shared -> Prop) : Prop := ∀ {scope : Scope} (J : List Value -> List (Addr × Obj) -> Prop) (hn : scope.names = [(a, .local), (x, .cell), (b, .globalImplicit), (c, .free), (d, .free)]) (hax : a ≠ x) (hkind : scope.kind = .function) (hit : s₂.heap.IsListIter I l 0) (hm : (l, W.listOf vs.toArray nn) ∈ news) (hsz : vs.length <= sizeLine) (hh : A.handled = none) (F : Fr h₀ L s₂.heap m) (N : News h₀ L s₂.heap news) (hI₀ : h₀.get? I = none) (hLI : L ≠ I) (off : ∀ p ∈ news, p.1 ≠ I) (h0 : J [] []) (turn : KTurnC prog w A h₀ L m env elt x scope cl s₂ vs news J) (hRR : ∀ D C h tk m' zs G, Fr h₀ L h m -> News h₀ L h ((D, lst zs) :: (news ++ G)) -> (∀ p ∈ news ++ G, p.1 ≠ D) -> h.Ns C m' -> h₀.get? C = none -> h₀.get? D = none -> C ≠ L -> D ≠ L -> C ≠ D -> (∀ p ∈ news ++ G, p.1 ≠ C) -> J zs G -> zs.length = vs.length -> RR (.ref D) C (.ok .next) { s₂ with heap := h, toks := tk }), wpAny (model prog w) A (newList []) (fun acc s₃ => wpAny (model prog w) A (newFunctionEnv scope env.globals cl [] env.qual none .none (some env)) (fun cenv s₄ =>
     codeAny (model prog w) A (.compStart (.ListComp elt [⟨.Name x px, iter, [], 0⟩] scope pos) 0 (.ref I) acc { cenv with scope := relabel scope env }) (RR acc cenv.locals) s₄) E s₃) E s₂
noncomputable def block_KS (x : LP) : Prop := block_KQ x.prog x.w x.A x.E x.h₀ x.L x.m x.env x.elt x.iter x.xx1 x.ax1 x.b x.c x.d x.px x.cl x.pos x.s₂ x.I x.l x.nn x.vs x.news x.RR
@[irreducible] noncomputable def block_KC : LP := gen LPE block_KS
namespace block_KN
noncomputable section
 def prog := block_KC.prog
 def w := block_KC.w
 def A := block_KC.A
 def h₀ := block_KC.h₀
 def L := block_KC.L
 def m := block_KC.m
 def env := block_KC.env
 def elt := block_KC.elt
 def iter := block_KC.iter
 def x := block_KC.xx1
 def a := block_KC.ax1
 def b := block_KC.b
 def c := block_KC.c
 def px := block_KC.px
 def cl := block_KC.cl
 def pos := block_KC.pos
 def s₂ := block_KC.s₂
 def I := block_KC.I
 def l := block_KC.l
 def vs := block_KC.vs
 def news := block_KC.news
 def RR := block_KC.RR
end
theorem main : block_KQ prog w A block_KC.E h₀ L m env elt iter x a b c block_KC.d px cl pos s₂ I l block_KC.nn vs news RR := by
 intro scope J hn hax hkind hit hm hsz hh F N hI₀ hLI off h0 turn hRR
 refine wpAny_newObj_type (newEnv_one hn ?_)
 dsimp only
 have hlk : (relabel scope env).names.lookup x = some .cell := by
   simp only [relabel, hn, List.map_cons]
   have e1 : (x == a) = false := by rw [beq_eq_false_iff_ne]; exact Ne.symm hax
   simp [List.lookup, e1]
 generalize hH2 : s₂.heap.push { cls := .type "list", dict := none, data := .seq ([] : List Value).toArray } = H2
 generalize hH3 : H2.push { cls := .type "dict", data := .dict #[] } = H3
 generalize hH4 : H3.push { cls := .type "cell", data := .cell none } = h₁
 have hC : H2.objs.size = s₂.heap.objs.size + 1 := by rw [<- hH2, Heap.size_push]
 have hc : H3.objs.size = H2.objs.size + 1 := by rw [<- hH3, Heap.size_push]
 rw [<- hc]
 have n1 : s₂.heap.objs.size < H2.objs.size := by rw [hC]; exact Nat.lt_succ_self _
 have n2 : H2.objs.size < H3.objs.size := by rw [hc]; exact Nat.lt_succ_self _
 have up2 : ∀ b o, s₂.heap.get? b = some o -> H2.get? b = some o := fun b o e => hH2 ▸ Heap.get?_push_of_some _ e
 have up3 : ∀ b o, H2.get? b = some o -> H3.get? b = some o := fun b o e => hH3 ▸ Heap.get?_push_of_some _ e
 have up4 : ∀ b o, H3.get? b = some o -> h₁.get? b = some o := fun b o e => hH4 ▸ Heap.get?_push_of_some _ e
 have old : ∀ b o, s₂.heap.get? b = some o -> h₁.get? b = some o := fun b o e => up4 _ _ (up3 _ _ (up2 _ _ e))
 have hacc : h₁.get? s₂.heap.objs.size = some (lst []) := up4 _ _ (up3 _ _ (hH2 ▸ Heap.get?_push_size _ rfl))
 have hns : h₁.Ns H2.objs.size (fun _ => none) := (hH3 ▸ Heap.Ns.new H2 (.type "dict") : H3.Ns H2.objs.size (fun _ => none)).at' fun o e => up4 _ o e
 have hcl : h₁.IsCell H3.objs.size none := ⟨_, hH4 ▸ Heap.get?_push_size _ rfl, rfl⟩
 have fresh₀ : ∀ b, s₂.heap.objs.size <= b -> h₀.get? b = none := fun b hb => by
   cases e : h₀.get? b with
   | none => rfl
   | some o' => exact absurd (Heap.lt_size (F.keep b o' e)) (Nat.not_lt.mpr hb)
 have hD₀ : h₀.get? s₂.heap.objs.size = none := fresh₀ _ (Nat.le_refl _)
 have hC₀ : h₀.get? H2.objs.size = none := fresh₀ _ (Nat.le_of_lt n1)
 have hc₀ : h₀.get? H3.objs.size = none := fresh₀ _ (Nat.le_of_lt (Nat.lt_trans n1 n2))
 have hLlt : L < s₂.heap.objs.size := F.ns.lt
 have hDL : s₂.heap.objs.size ≠ L := Ne.symm (Nat.ne_of_lt hLlt)
 have hCL : H2.objs.size ≠ L := Ne.symm (Nat.ne_of_lt (Nat.lt_trans hLlt n1))
 have hcL : H3.objs.size ≠ L := Ne.symm (Nat.ne_of_lt (Nat.lt_trans hLlt (Nat.lt_trans n1 n2)))
 have hIlt : I < s₂.heap.objs.size := by obtain ⟨o, e, _⟩ := hit; exact Heap.lt_size e
 have hID : I ≠ s₂.heap.objs.size := Nat.ne_of_lt hIlt
 have hIC : I ≠ H2.objs.size := Nat.ne_of_lt (Nat.lt_trans hIlt n1)
 have hIc : I ≠ H3.objs.size := Nat.ne_of_lt (Nat.lt_trans hIlt (Nat.lt_trans n1 n2))
 have hDC : s₂.heap.objs.size ≠ H2.objs.size := Nat.ne_of_lt n1
 have hDc : s₂.heap.objs.size ≠ H3.objs.size := Nat.ne_of_lt (Nat.lt_trans n1 n2)
 have hCc : H2.objs.size ≠ H3.objs.size := Nat.ne_of_lt n2
 have offN : ∀ p ∈ news, p.1 ≠ H3.objs.size /\ p.1 ≠ H2.objs.size /\ p.1 ≠ s₂.heap.objs.size /\ p.1 ≠ I := fun p hp =>
   have hlt := Heap.lt_size (N p hp).1
   ⟨Nat.ne_of_lt (Nat.lt_trans hlt (Nat.lt_trans n1 n2)), Nat.ne_of_lt (Nat.lt_trans hlt n1), Nat.ne_of_lt hlt, off p hp⟩
 have hlI : l ≠ I := off _ hm
 have W := Walks.list (prog := prog) (w := w) (A := A) hh I l hlI vs.toArray
 have loop : ∀ s₃ : Shared, s₃ = { s₂ with heap := h₁ } ->
     codeAny (model prog w) A (.compLoop (.ListComp elt [⟨.Name x px, iter, [], 0⟩] scope pos) 0 (.ref I) (.ref s₂.heap.objs.size) (compEnvC scope ((x, H3.objs.size) :: cl) H2.objs.size env))
       (RR (.ref s₂.heap.objs.size) H2.objs.size) s₃ := by
   rintro s₃ rfl
   refine codeAny_compLoop_tests
     (fun k s' => ∃ h' tk zs m' G v0, s' = { s₂ with heap := h', toks := tk } /\ zs.length <= vs.length /\ k = vs.length + 1 - zs.length /\ h'.IsListIter I l zs.length /\ Fr h₀ L h' m /\ h'.Ns H2.objs.size m' /\ h'.IsCell H3.objs.size v0 /\ News h₀ L h' ((s₂.heap.objs.size, lst zs) :: (news ++ G)) /\
       (∀ p ∈ G, p.1 ≠ H3.objs.size /\ p.1 ≠ H2.objs.size /\ p.1 ≠ s₂.heap.objs.size /\ p.1 ≠ I) /\ J zs G) ?_ (vs.length + 1)
     ⟨h₁, _, [], _, [], _, rfl, Nat.zero_le _, rfl, by obtain ⟨o, e, r⟩ := hit; exact ⟨o, old _ _ e, r⟩, F.keeps old, hns, hcl, fun p hp => ?_, (fun _ h => nomatch h), h0⟩
   . (intro k s'; refine xq6 fun h' tk zs m' G v0 => ?_; refine aq2 fun eQ => ?_; subst eQ; refine aq3 fun hi eQ => ?_; subst eQ; refine aq7 fun hit' F' hn' hc' N' offG => ?_; intro hJ)
     have offA : ∀ p ∈ news ++ G, p.1 ≠ H3.objs.size /\ p.1 ≠ H2.objs.size /\ p.1 ≠ s₂.heap.objs.size /\ p.1 ≠ I := fun p hp => (List.mem_append.mp hp).elim (offN p) (offG p)
     have hl1 : h'.IsList l vs.toArray := ⟨_, (N' _ (List.mem_cons_of_mem _ (List.mem_append_left _ hm))).1, rfl, _, rfl⟩
     by_cases hlt : zs.length < vs.length
     . refine W.item zs.length _ _ _ (by simpa using hlt) ⟨hit', hl1⟩ fun v h₂ tk₂ hPv hst₂ hk₂ => ?_
       have hv : vs[zs.length]? = some v := by simpa using hPv
       have k2 : ∀ b o, b ≠ I -> h'.get? b = some o -> h₂.get? b = some o := fun b o hb e => hk₂ b o (by simpa using hb) e
       have hc2 : h₂.IsCell H3.objs.size v0 := by obtain ⟨o, e, r⟩ := hc'; exact ⟨o, k2 _ _ (Ne.symm hIc) e, r⟩
       refine wpAny_assign_Name (wpAny_storeName_cell (c := H3.objs.size) (by show (relabel scope env).kind = _; exact hkind) hlk (by simp [compEnvC]) hc2 fun h₃ hc3 hs₃ => ?_)
       refine wpAny_tests_nil ?_
       simp only [if_true]
       have k3 : ∀ b o, b ≠ I -> b ≠ H3.objs.size -> h'.get? b = some o -> h₃.get? b = some o := fun b o h1 h2 e => hs₃.extBut b o h2 (k2 b o h1 e)
       obtain ⟨oc, gc, dc⟩ := hc3
       have hn3 : h₃.Ns H2.objs.size m' := hn'.at' fun o e => k3 _ o (Ne.symm hIC) hCc e
       obtain ⟨oC, heC, hoC⟩ := ns_obj hn3
       obtain ⟨oI, gI, rI⟩ := hst₂.1
       have gI3 : h₃.get? I = some oI := hs₃.extBut _ _ hIc gI
       have nI : ∀ (b : Addr) (o : Obj), h₀.get? b = some o -> b ≠ I := fun b o e q => by rw [q, hI₀] at e; cases e
       have nc : ∀ (b : Addr) (o : Obj), h₀.get? b = some o -> b ≠ H3.objs.size := fun b o e q => by rw [q, hc₀] at e; cases e
       have F₃ : Fr h₀ L h₃ m := ⟨F'.ns.at' fun o e => k3 _ o hLI (Ne.symm hcL) e, fun b o e => k3 b o (nI b o e) (nc b o e) (F'.keep b o e), F'.above⟩
       have N₃ : News h₀ L h₃ ((H3.objs.size, oc) :: (H2.objs.size, oC) :: (s₂.heap.objs.size, lst zs) :: (I, oI) :: (news ++ G)) := by
         intro p hp
         simp only [List.mem_cons] at hp
         rcases hp with rfl | rfl | rfl | rfl | hp
         . exact ⟨gc, hcL, hc₀⟩
         . exact ⟨heC, hCL, hC₀⟩
         . exact ⟨k3 _ _ (Ne.symm hID) hDc (N' _ List.mem_cons_self).1, hDL, hD₀⟩
         . exact ⟨gI3, Ne.symm hLI, hI₀⟩
         . have y := N' p (List.mem_cons_of_mem _ hp)
           obtain ⟨a1, a2, a3, a4⟩ := offA p hp
           exact ⟨k3 _ _ a4 a1 y.1, y.2⟩
       refine wpAny_mono (turn v zs G H2.objs.size oC H3.objs.size oc s₂.heap.objs.size I oI h₃ _ _ hv hJ dc ⟨_, hoC⟩ F₃ offA (Ne.symm hCc) (Ne.symm hDc) (Ne.symm hIc) (Ne.symm hDC) (Ne.symm hIC) (Ne.symm hID) N₃) (fun y s₄ h₄ => ?_) fun _ _ e => e
       (revert h₄; refine xq3 fun h₇ tk₇ own => ?_; refine aq2 fun eQ => ?_; subst eQ; refine aq4 fun F₇ N₇ offO => ?_; intro hJ')
       have mf : ∀ p ∈ ((H3.objs.size, oc) :: (H2.objs.size, oC) :: (s₂.heap.objs.size, lst zs) :: (I, oI) :: (news ++ G)), h₇.get? p.1 = some p.2 := fun p hp => (N₇ p (List.mem_append_right _ hp)).1
       refine append_at (hsz := by show zs.toArray.size <= sizeLine; rw [List.size_toArray]; exact Nat.le_trans hi hsz) (mf (s₂.heap.objs.size, lst zs) (by simp)) fun h₈ hs₈ hD₈ => ?_
       refine ⟨vs.length + 1 - (zs ++ [y]).length, by rw [List.length_append, List.length_singleton]; lia, h₈, tk₇, zs ++ [y], _, own ++ G, some v, rfl, by rw [List.length_append, List.length_singleton]; lia, rfl,
         ⟨oI, hs₈.extBut _ _ hID (mf (I, oI) (by simp)), by rw [List.length_append, List.length_singleton]; exact rI⟩, F₇.change hs₈ hDL hD₀,
         (hoC.ns (mf (H2.objs.size, oC) (by simp))).sameBut hs₈ (Ne.symm hDC), ⟨oc, hs₈.extBut _ _ (Ne.symm hDc) (mf (H3.objs.size, oc) (by simp)), dc⟩, fun p hp => ?_, fun p hp => ?_, hJ'⟩
       . rcases List.mem_cons.mp hp with rfl | hp
         . exact ⟨hD₈.trans (congrArg some (lst_snoc zs y)), hDL, hD₀⟩
         . have hp2 : p ∈ own \/ p ∈ news ++ G := by
             rcases List.mem_append.mp hp with h | h
             . exact .inr (List.mem_append_left _ h)
             . rcases List.mem_append.mp h with h | h
               . exact .inl h
               . exact .inr (List.mem_append_right _ h)
           rcases hp2 with hp | hp
           . have y := N₇ p (List.mem_append_left _ hp)
             exact ⟨hs₈.extBut _ _ (Ne.symm (offO p hp (s₂.heap.objs.size, lst zs) (by simp))) y.1, y.2⟩
           . have y := N₇ p (List.mem_append_right _ (by simp only [List.mem_cons]; exact .inr (.inr (.inr (.inr hp)))))
             exact ⟨hs₈.extBut _ _ (offA p hp).2.2.1 y.1, y.2⟩
       . rcases List.mem_append.mp hp with hp | hp
         . exact ⟨Ne.symm (offO p hp (H3.objs.size, oc) (by simp)), Ne.symm (offO p hp (H2.objs.size, oC) (by simp)), Ne.symm (offO p hp (s₂.heap.objs.size, lst zs) (by simp)), Ne.symm (offO p hp (I, oI) (by simp))⟩
         . exact offG p hp
     . have hin : zs.length = vs.length := Nat.le_antisymm hi (Nat.not_lt.mp hlt)
       refine W.done _ _ _ (by simpa [hin] using ⟨hin ▸ hit', hl1⟩) fun h₂ tk₂ hk₂ => ?_
       have k2 : ∀ b o, b ≠ I -> h'.get? b = some o -> h₂.get? b = some o := fun b o hb e => hk₂ b o (by simpa using hb) e
       have nI : ∀ (b : Addr) (o : Obj), h₀.get? b = some o -> b ≠ I := fun b o e q => by rw [q, hI₀] at e; cases e
       refine hRR _ _ h₂ _ _ zs G ⟨F'.ns.at' fun o e => k2 _ o hLI e, fun b o e => k2 b o (nI b o e) (F'.keep b o e), F'.above⟩ (fun p hp => ?_) (fun p hp => (offA p hp).2.2.1)
         (hn'.at' fun o e => k2 _ o (Ne.symm hIC) e) hC₀ hD₀ hCL hDL (Ne.symm hDC) (fun p hp => (offA p hp).2.1) hJ hin
       have y := N' p hp
       refine ⟨?_, y.2⟩
       rcases List.mem_cons.mp hp with rfl | hp
       . exact k2 _ _ (Ne.symm hID) y.1
       . exact k2 _ _ (offA p hp).2.2.2 y.1
   . rcases List.mem_cons.mp hp with rfl | hp
     . exact ⟨hacc, hDL, hD₀⟩
     . rw [List.append_nil] at hp
       exact ⟨old _ _ (N p hp).1, (N p hp).2⟩
 exact codeAny_compStart_list (loop _ rfl) (W.self 0 _ _ _ ⟨by obtain ⟨o, e, r⟩ := hit; exact ⟨o, old _ _ e, r⟩, ⟨_, old _ _ (N _ hm).1, rfl, _, rfl⟩⟩ (loop _ rfl))
end block_KN
theorem block_KH : block_KS (gen LPE block_KS) := by with_unfolding_all exact @block_KN.main
theorem block_K {prog w A E h₀ L m env elt iter x a b c d px cl pos s₂ I l nn vs news RR} : block_KQ prog w A E h₀ L m env elt iter x a b c d px cl pos s₂ I l nn vs news RR := @all_gen LP LPE block_KS @block_KH { lp0 with prog, w, A, E, h₀, L, m, env, elt, iter, xx1 := x, ax1 := a, b, c, d, px, cl, pos, s₂, I, l, nn, vs, news, RR }
end
section
variable {prog : Program} {w : World} {A : Around} {E : Value -> Shared -> Prop} {s : Shared} {h₀ : Heap} {L : Addr} {m : Str -> Option Value} {env : Env}
noncomputable def FinK (h₀ : Heap) (L : Addr) (m : Str -> Option Value) (s : Shared) (Q : Value -> Shared -> Prop) (vs : List Value) (news : List (Addr × Obj)) (J : List Value -> List (Addr × Obj) -> Prop) : Prop :=
 ∀ D zs G h tk, Fr h₀ L h m -> News h₀ L h ((D, lst zs) :: (news ++ G)) -> (∀ p ∈ news ++ G, p.1 ≠ D) -> J zs G -> zs.length = vs.length -> Q (.ref D) { s with heap := h, toks := tk }
noncomputable def SrcK (prog : Program) (w : World) (A : Around) (h₀ : Heap) (L : Addr) (m : Str -> Option Value) (env : Env) (elt : Expr) (x : Str) (scope : Scope) (cl : List (Str × Addr)) (Q : Value -> Shared -> Prop) (xv : Value) (s₁ : Shared) : Prop :=
 ∃ l nn vs news J, xv = .ref l /\ A.handled = none /\ Fr h₀ L s₁.heap m /\ News h₀ L s₁.heap news /\ (l, W.listOf (List.toArray vs) nn) ∈ news /\ vs.length <= sizeLine /\ J [] [] /\
   ∀ s₂ : Shared, (∃ h, s₂ = { s₁ with heap := h }) -> KTurnC prog w A h₀ L m env elt x scope cl s₂ vs news J /\ FinK h₀ L m s₂ Q vs news J
theorem SrcK.of {elt : Expr} {x : Str} {scope : Scope} {cl : List (Str × Addr)} {Q : Value -> Shared -> Prop} {l : Addr} {nn : Nat} {vs : List Value} {news : List (Addr × Obj)} (J : List Value -> List (Addr × Obj) -> Prop) (hh : A.handled = none) (F : Fr h₀ L s.heap m) (N : News h₀ L s.heap news) (hm : (l, W.listOf vs.toArray nn) ∈ news) (hsz : vs.length <= sizeLine) (h0 : J [] [])
   (turn : ∀ g, KTurnC prog w A h₀ L m env elt x scope cl { s with heap := g } vs news J) (fin : ∀ g, FinK h₀ L m { s with heap := g } Q vs news J) : SrcK prog w A h₀ L m env elt x scope cl Q (.ref l) s :=
 ⟨l, nn, vs, news, J, rfl, hh, F, N, hm, hsz, h0, fun _ ⟨g, e⟩ => e ▸ ⟨turn g, fin g⟩⟩
theorem ListComp_K {elt iter : Expr} {x a b c d : Str} {px : Pos} {scope : Scope} {cl : List (Str × Addr)} {pos : Pos} {Q : Value -> Shared -> Prop} (F₀ : Fr h₀ L s.heap m)
   (hn : scope.names = [(a, .local), (x, .cell), (b, .globalImplicit), (c, .free), (d, .free)]) (hax : a ≠ x)
   (hclos : closureFor scope env = pure cl) (hkind : scope.kind = .function) (hnames : ∀ y ∈ scope.names, y.2 = .local -> scope.names.lookup y.1 = some .local)
   (h : wpAny (model prog w) A (eval iter env) (SrcK prog w A h₀ L m env elt x scope cl Q) E s)
   (hs : ∀ x, foldedSetIterable iter env x = pure x := by intro _; rfl) :
   wpAny (model prog w) A (eval (.ListComp elt [⟨.Name x px, iter, [], 0⟩] scope pos) env) Q E s := by
 rw [eval_ListComp]
 refine wpAny_comprehension_free (use := none) rfl hs hclos hkind hnames (wpAny_mono h (fun xv s₁ h₁ => ?_) fun _ _ e => e)
 (revert h₁; refine xq5 fun l nn vs news J => ?_; refine aq2 fun eQ => ?_; subst eQ; refine aq7 fun hh F N hm hsz h0 => ?_; intro R)
 obtain ⟨turn, fin⟩ := R _ ⟨_, rfl⟩
 have hls : s₁.heap.IsList l vs.toArray := ⟨_, (N _ hm).1, rfl, _, rfl⟩
 refine wpAny_pyIter_list hls ?_
 refine block_K J hn hax hkind ⟨_, Heap.get?_push_size _ rfl, rfl, rfl⟩ hm hsz hh (F.push _) (N.grown fun _ _ e => Heap.get?_push_of_some _ e) (next_is_new F) (Nat.ne_of_lt F.ns.lt) (fun p hp => Nat.ne_of_lt (Heap.lt_size (N p hp).1)) h0 turn ?_
 intro D C h tk m' zs G F' N' o1 hn' hC₀ hD₀ hCL hDL hCD offC hJ hl
 refine ⟨m', hn', fun h'' hs'' => fin D zs G h'' tk (F'.change hs'' hCL hC₀) (fun p hp => ?_) o1 hJ hl⟩
 refine ⟨hs''.extBut _ _ ?_ (N' p hp).1, (N' p hp).2⟩
 rcases List.mem_cons.mp hp with rfl | hp
 . exact Ne.symm hCD
 . exact offC p hp
end
inductive PrL (nx : List (Addr × Obj)) : List Value -> List (Int × Int) -> Prop
 | nil : PrL nx [] []
 | cons {a : Addr} {x y : Int} {t1 t2 : Tok} {vs : List Value} {l : List (Int × Int)} : (a, ({ cls := .type "tuple", data := .seq #[.int x t1, .int y t2] } : Obj)) ∈ nx -> PrL nx vs l -> PrL nx (.ref a :: vs) ((x, y) :: l)
theorem PrL.mono {n1 n2 : List (Addr × Obj)} (h : ∀ p ∈ n1, p ∈ n2) : ∀ {vs : List Value} {l : List (Int × Int)}, PrL n1 vs l -> PrL n2 vs l
 | _, _, .nil => .nil
 | _, _, .cons m r => .cons (h _ m) (r.mono h)
theorem PrL.append {nx : List (Addr × Obj)} {b : List Value} {j : List (Int × Int)} (y : PrL nx b j) : ∀ {a : List Value} {i : List (Int × Int)}, PrL nx a i -> PrL nx (a ++ b) (i ++ j)
 | _, _, .nil => y
 | _, _, .cons m r => .cons m (PrL.append y r)
theorem PrL.len {nx : List (Addr × Obj)} : ∀ {vs : List Value} {l : List (Int × Int)}, PrL nx vs l -> vs.length = l.length
 | _, _, .nil => rfl
 | _, _, .cons _ r => by simp [r.len]
noncomputable def sameL (ns : List Int) (k : Nat) : List Nat := (dueZ ns).filter (fun j => nmA ns j == nmA ns k)
noncomputable def lastZ (ns : List Int) (k : Nat) : Nat := (sameL ns k).getLastD 0
noncomputable def rowK (ns : List Int) (k : Nat) : Int × Int := ((lastZ ns k : Int), (k : Int))
theorem allLt_of_mem {d : Addr} {l : List (Addr × Obj)} {q : Addr × Obj} (hq : q ∈ l) (h : AllLt d l) : q.1 < d := allLt_mem h q hq
theorem last_max : ∀ (l : List Nat), l.Pairwise (· < ·) -> ∀ a ∈ l, a <= l.getLastD 0
 | [], _, a, h => nomatch h
 | [b], _, a, h => by rw [List.mem_singleton.mp h]; exact Nat.le_refl _
 | b :: c :: r, hp, a, h => by
   have ih := last_max (c :: r) (List.Pairwise.of_cons hp)
   have e : (b :: c :: r).getLastD 0 = (c :: r).getLastD 0 := rfl
   rw [e]
   rcases List.mem_cons.mp h with rfl | h
   . exact Nat.le_trans (Nat.le_of_lt (List.rel_of_pairwise_cons hp (.head _))) (ih c (.head _))
   . exact ih a h
theorem last_mem : ∀ (l : List Nat), l ≠ [] -> l.getLastD 0 ∈ l
 | [], h => absurd rfl h
 | [b], _ => .head _
 | b :: c :: r, _ => .tail _ (last_mem (c :: r) (by simp))
theorem due_sorted (ns : List Int) : (dueZ ns).Pairwise (· < ·) := List.Pairwise.filter _ List.pairwise_lt_range
theorem max_last {ns : List Int} {k : Nat} {M : Int} (hM : M ∈ (sameL ns k).map (fun (j : Nat) => (j : Int))) (hx : ∀ a, a ∈ (sameL ns k).map (fun (j : Nat) => (j : Int)) -> a <= M) : M = ((lastZ ns k : Nat) : Int) := by
 have hs : (sameL ns k).Pairwise (· < ·) := List.Pairwise.filter _ (due_sorted ns)
 obtain ⟨j, hj, rfl⟩ := List.mem_map.mp hM
 have h1 := last_max _ hs j hj
 have h2 := hx _ (List.mem_map.mpr ⟨_, last_mem _ (List.ne_nil_of_mem hj), rfl⟩)
 unfold lastZ
 lia
theorem same_pos {ns : List Int} {k : Nat} (h : k ∈ dueZ ns) : 0 < ((sameL ns k).map (fun (j : Nat) => (j : Int))).length := by
 rw [List.length_map]
 exact List.length_pos_of_mem (List.mem_filter.mpr ⟨h, by simp⟩)
theorem row_next {ns : List Int} {G : List (Addr × Obj)} {zs : List Value} {k : Nat} {T : Addr} {M : Int} {t1 t2 : Tok} (h : PrL G zs (((dueZ ns).map (rowK ns)).take zs.length)) (hk : (dueZ ns)[zs.length]? = some k) (hM : M = ((lastZ ns k : Nat) : Int)) : PrL ([(T, ({ cls := .type "tuple", data := .seq #[.int M t1, .int (k : Int) t2] } : Obj))] ++ G) (zs ++ [.ref T]) (((dueZ ns).map (rowK ns)).take (zs ++ [Value.ref T]).length) := by
 have e : ((dueZ ns).map (rowK ns)).take (zs ++ [Value.ref T]).length = ((dueZ ns).map (rowK ns)).take zs.length ++ [rowK ns k] := by
   rw [List.length_append, List.length_singleton, List.take_add_one, List.getElem?_map, hk]; rfl
 rw [e]
 refine PrL.append (nx := [(T, ({ cls := .type "tuple", data := .seq #[.int M t1, .int (k : Int) t2] } : Obj))] ++ G) ?_ (h.mono fun p hp => List.mem_append_right _ hp)
 unfold rowK
 rw [<- hM]
 exact .cons (List.Mem.head _) .nil
theorem due_lt {ns : List Int} {k : Nat} (h : k ∈ dueZ ns) : k < ns.length := List.mem_range.mp (List.mem_filter.mp h).1
section
variable {w : World} {dp un : Nat} {gd : Option (List Code)} {cn : Str} {cs : Scope} {a : Addr} {ccd : Value} {cl : List (Str × Addr)} {outer : List Env} {A₀ : Around} {base h₀ : Heap} {L : Addr} {m : Str -> Option Value} {s : Shared}
 {p : Program} {loose : List Str} {mean : ExcName -> Option Value} {mg mb : Str -> Option Value} {news : List (Addr × Obj)} {Q E : Value -> Shared -> Prop}
end
noncomputable def runC {α : Type} (f : Nat -> Nat -> Bool) (n : Nat) : KasT α -> Option α
 | .ret a => some a
 | .ask i j k => if i < n /\ j < n then runC f n (k (f i j)) else none
theorem runC_wp {α : Type} {f : Nat -> Nat -> Bool} {n : Nat} {cmp : Nat -> Nat -> (Bool -> Shared -> Prop) -> Shared -> Prop} {s : Shared} (hc : ∀ i j C, i < n -> j < n -> C (f i j) s -> cmp i j C s) : ∀ (t : KasT α) (a : α) (Q : α -> Shared -> Prop), runC f n t = some a -> Q a s -> t.kasWp cmp Q s
 | .ret b, a, Q, h, q => by
   have : b = a := Option.some.inj h
   subst this; exact q
 | .ask i j k, a, Q, h, q => by
   unfold runC at h
   split at h
   . rename_i hij
     exact hc i j _ hij.1 hij.2 (runC_wp hc (k (f i j)) a Q h q)
   . cases h
noncomputable def lexB (p q : Int × Int) : Bool := if p.1 = q.1 then decide (p.2 < q.2) else decide (p.1 < q.1)
section
variable {prog : Program} {w : World} {A : Around} {E : Value -> Shared -> Prop} {s : Shared}
theorem tup_lt {x y : Addr} {p q : Int × Int} {t1 t2 t3 t4 : Tok} {C : Bool -> Shared -> Prop} (hx : s.heap.get? x = some ({ cls := .type "tuple", data := .seq #[.int p.1 t1, .int p.2 t2] } : Obj)) (hy : s.heap.get? y = some ({ cls := .type "tuple", data := .seq #[.int q.1 t3, .int q.2 t4] } : Obj))
   (h : C (lexB p q) s) : wpAny (model prog w) A (keyLt' (tuples' true) (.ref x) (.ref y)) C E s := by
 refine kat_lt hx rfl hy rfl ?_
 show KatLex prog w A true false C [(Value.int p.1 t1, Value.int q.1 t3), (Value.int p.2 t2, Value.int q.2 t4)] 0 s
 unfold lexB at h
 refine kat_cons (wpAny_eqBool_int ?_)
 by_cases e : p.1 = q.1
 . rw [if_pos e] at h
   rw [beq_iff_eq.mpr e]
   refine kat_yes (kat_cons (wpAny_eqBool_int ?_))
   by_cases e2 : p.2 = q.2
   . rw [beq_iff_eq.mpr e2]
     rw [show decide (p.2 < q.2) = false from decide_eq_false (by lia)] at h
     exact kat_yes (kat_nil h)
   . rw [beq_eq_false_iff_ne.mpr e2]
     exact kat_no (kat_one _ _ (lt_int h))
 . rw [if_neg e] at h
   rw [beq_eq_false_iff_ne.mpr e]
   exact kat_no (oneLt_int h)
theorem katTups_of {h : Heap} {g : Heap} {L : Addr} {nx : List (Addr × Obj)} (N : News g L h nx) : ∀ {zs : List Value} {rows : List (Int × Int)}, PrL nx zs rows -> ∃ fs, KatTups h zs fs /\ fs.length = zs.length /\ ∀ v ∈ fs, ∃ a t, v = Value.int a t
 | _, _, .nil => ⟨[], .nil, rfl, fun _ h => nomatch h⟩
 | _, _, .cons (x := x) (t1 := t1) m r => by
   obtain ⟨fs, a, b, c⟩ := katTups_of N r
   refine ⟨.int x t1 :: fs, KatTups.cons (N _ m).1 rfl rfl rfl a, by simp [b], fun v hv => ?_⟩
   rcases List.mem_cons.mp hv with rfl | hv
   . exact ⟨_, _, rfl⟩
   . exact c v hv
theorem PrL.at {nx : List (Addr × Obj)} : ∀ {zs : List Value} {rows : List (Int × Int)} {i : Nat}, PrL nx zs rows -> i < zs.length -> ∃ a t1 t2, zs.getD i .none = .ref a /\ (a, ({ cls := .type "tuple", data := .seq #[.int (rows.getD i (0, 0)).1 t1, .int (rows.getD i (0, 0)).2 t2] } : Obj)) ∈ nx
 | _, _, 0, .cons m r, _ => ⟨_, _, _, rfl, m⟩
 | _, _, i + 1, .cons m r, h => by
   (have hQ := PrL.at (i := i) r (by simpa using h); revert hQ; refine xq3 fun a t1 t2 => ?_; refine aq2 fun e => ?_; intro hm)
   exact ⟨a, t1, t2, by simpa using e, by simpa using hm⟩
theorem sorted_rows {h₀ : Heap} {L : Addr} {m : Str -> Option Value} {news nx : List (Addr × Obj)} {l : Addr} {nn : Nat} {zs : List Value} {rows : List (Int × Int)} {Q : Value -> Shared -> Prop} {f : Nat -> Nat -> Bool} {perm : Array Nat} (F : Fr h₀ L s.heap m) (N : News h₀ L s.heap news) (hl : (l, W.listOf zs.toArray nn) ∈ news) (hP : PrL nx zs rows) (hsub : ∀ p ∈ nx, p ∈ news)
   (h2 : 2 <= zs.length) (h6 : zs.length <= 6) (hf : ∀ i j, i < zs.length -> j < zs.length -> lexB (rows.getD i (0, 0)) (rows.getD j (0, 0)) = f i j) (hrun : runC f zs.length (kas_sort zs.length) = some perm)
   (k : ∀ D h' c, Fr h₀ L h' m -> News h₀ L h' ((D, W.listOf (perm.toList.map fun i => zs.getD i Value.none).toArray c) :: news) -> (∀ q ∈ news, q.1 < D) -> Q (.ref D) { s with heap := h' }) :
   wpAny (model prog w) A (call (.builtin "sorted") [.ref l]) Q E s := by
 refine kat_sorted F N ⟨_, (N _ hl).1, rfl, _, rfl⟩ h2 (by lia) fun D e1 h' F' N' hlt => ?_
 have N3 : News h₀ L h' nx := fun p hp => N' p (.tail _ (hsub p hp))
 obtain ⟨fs, ht, hfl, hfi⟩ := katTups_of N3 hP
 refine kat_kind (s := { s with heap := h' }) (T := .type "int") ht (by lia) (fun v hv => ?_) (by decide) ?_
 . obtain ⟨a, t, rfl⟩ := hfi v hv
   exact Looks.of_pure rfl
 . refine runC_wp (f := f) (n := zs.length) (fun i j C hi hj hC => ?_) _ perm _ hrun ?_
   . (have hQ := PrL.at hP hi; revert hQ; refine xq3 fun a t1 t2 => ?_; refine aq2 fun e1 => ?_; intro m1)
     (have hQ := PrL.at hP hj; revert hQ; refine xq3 fun b t3 t4 => ?_; refine aq2 fun e2 => ?_; intro m2)
     unfold kas_ask
     rw [e1, e2]
     refine tup_lt (s := { s with heap := h' }) (N3 _ m1).1 (N3 _ m2).1 ?_
     rw [hf i j hi hj]; exact hC
   . exact KasFin.intro F' N' (UpdF.head fun p hp => Nat.ne_of_lt (hlt p hp)) fun h'' c F'' N'' => k D h'' c F'' N'' hlt
end
noncomputable def patF2 (bs : List Bool) (i j : Nat) : Bool := if bs.getD i false = bs.getD j false then decide (i < j) else bs.getD j false == bs.getLastD false
noncomputable def patP (bs : List Bool) : List Nat := (List.range bs.length).filter (fun i => bs.getD i false != bs.getLastD false) ++ (List.range bs.length).filter (fun i => bs.getD i false == bs.getLastD false)
noncomputable def allB : Nat -> List (List Bool)
 | 0 => [[]]
 | n + 1 => (allB n).map (false :: ·) ++ (allB n).map (true :: ·)
theorem allB_mem : ∀ bs : List Bool, bs ∈ allB bs.length
 | [] => .head _
 | false :: bs => List.mem_append_left _ (List.mem_map.mpr ⟨bs, allB_mem bs, rfl⟩)
 | true :: bs => List.mem_append_right _ (List.mem_map.mpr ⟨bs, allB_mem bs, rfl⟩)
noncomputable def patOk (n : Nat) (bs : List Bool) : Bool := match runC (patF2 bs) n (kas_sort n) with
 | some p => p.toList == patP bs
 | none => false
theorem pat_all : ∀ n, n < 7 -> 2 <= n -> ∀ bs ∈ allB n, patOk n bs = true := by decide +kernel
theorem pat_run (bs : List Bool) (h2 : 2 <= bs.length) (h6 : bs.length <= 6) : ∃ p : Array Nat, runC (patF2 bs) bs.length (kas_sort bs.length) = some p /\ p.toList = patP bs := by
 have h := pat_all bs.length (by lia) h2 bs (allB_mem bs)
 unfold patOk at h
 split at h
 . rename_i p hp
   exact ⟨p, hp, by simpa using h⟩
 . cases h
noncomputable def esB (ns : List Int) (k : Nat) : Bool := nmA ns k == Str.ofString "es"
noncomputable def lastE (ns : List Int) : Bool := esB ns ((dueZ ns).getLastD 0)
noncomputable def sortK (ns : List Int) : List Nat := (dueZ ns).filter (fun k => esB ns k != lastE ns) ++ (dueZ ns).filter (fun k => esB ns k == lastE ns)
theorem range_filter {α : Type} (d : α) (P : α -> Bool) (l : List α) : ((List.range l.length).filter (fun i => P (l.getD i d))).map (fun i => l.getD i d) = l.filter P := by
 have key : ∀ n, n <= l.length -> ((List.range n).filter (fun i => P (l.getD i d))).map (fun i => l.getD i d) = (l.take n).filter P := by
   intro n
   induction n with
   | zero => intro _; rfl
   | succ n ih =>
     intro h
     have hx : l[n]? = some l[n] := List.getElem?_eq_getElem h
     have e : l.getD n d = l[n] := by rw [List.getD_eq_getElem?_getD, hx]; rfl
     rw [List.range_succ, List.filter_append, List.map_append, ih (by lia), List.take_add_one, hx, List.filter_append]
     congr 1
     simp only [List.filter_cons, e, List.filter_nil, Option.toList]
     cases P l[n] <;> simp [hx]
 rw [key _ (Nat.le_refl _), List.take_length]
theorem getLastD_getD {α : Type} (d : α) : ∀ l : List α, l.getLastD d = l.getD (l.length - 1) d
 | [] => rfl
 | [a] => rfl
 | a :: b :: r => by
   have ih := getLastD_getD d (b :: r)
   rw [show (a :: b :: r).getLastD d = (b :: r).getLastD d from rfl, ih]
   rfl
section
variable {ns : List Int} (hnm : ∀ k, k < ns.length -> nmA ns k = Str.ofString "e" \/ nmA ns k = Str.ofString "es")
include hnm
theorem nm_es {j k : Nat} (hj : j < ns.length) (hk : k < ns.length) : (nmA ns j == nmA ns k) = (esB ns j == esB ns k) := by
 unfold esB
 rcases hnm j hj with e1 | e1 <;> rcases hnm k hk with e2 | e2 <;> rw [e1, e2] <;> decide
theorem same_of_es {j k : Nat} (hj : j < ns.length) (hk : k < ns.length) (e : esB ns j = esB ns k) : sameL ns j = sameL ns k := by
 unfold sameL
 refine List.filter_congr fun i hi => ?_
 have hi' := due_lt hi
 rw [nm_es hnm hi' hj, nm_es hnm hi' hk, e]
theorem last_es {k : Nat} (hk : k ∈ dueZ ns) : lastZ ns k ∈ dueZ ns /\ esB ns (lastZ ns k) = esB ns k := by
 have hk' := due_lt hk
 have h1 : sameL ns k ≠ [] := List.ne_nil_of_mem (List.mem_filter.mpr ⟨hk, by simp⟩)
 have h2 := last_mem _ h1
 have h3 := List.mem_filter.mp h2
 refine ⟨h3.1, ?_⟩
 have h4 := h3.2
 rw [nm_es hnm (due_lt h3.1) hk'] at h4
 exact beq_iff_eq.mp h4
theorem last_top {k : Nat} (hk : k ∈ dueZ ns) (e : esB ns k = lastE ns) : lastZ ns k = (dueZ ns).getLastD 0 := by
 have hne : dueZ ns ≠ [] := List.ne_nil_of_mem hk
 have hl := last_mem _ hne
 have h1 := last_max _ (due_sorted ns) _ (last_es hnm hk).1
 have hs : (sameL ns k).Pairwise (· < ·) := List.Pairwise.filter _ (due_sorted ns)
 have h2 := last_max _ hs ((dueZ ns).getLastD 0) (List.mem_filter.mpr ⟨hl, by rw [nm_es hnm (due_lt hl) (due_lt hk)]; rw [e]; exact beq_self_eq_true _⟩)
 exact Nat.le_antisymm h1 h2
theorem last_low {k : Nat} (hk : k ∈ dueZ ns) (e : esB ns k ≠ lastE ns) : lastZ ns k < (dueZ ns).getLastD 0 := by
 have h1 := last_es hnm hk
 have h2 := last_max _ (due_sorted ns) _ h1.1
 refine Nat.lt_of_le_of_ne h2 fun q => e ?_
 rw [<- h1.2, q]; rfl
theorem lex_pat {i j : Nat} (hi : i < (dueZ ns).length) (hj : j < (dueZ ns).length) : lexB (((dueZ ns).map (rowK ns)).getD i (0, 0)) (((dueZ ns).map (rowK ns)).getD j (0, 0)) = patF2 ((dueZ ns).map (esB ns)) i j := by
 have g : ∀ i, i < (dueZ ns).length -> ∃ k, (dueZ ns)[i]? = some k /\ k ∈ dueZ ns /\ ((dueZ ns).map (rowK ns)).getD i (0, 0) = rowK ns k /\ ((dueZ ns).map (esB ns)).getD i false = esB ns k := fun i h =>
   ⟨(dueZ ns)[i], List.getElem?_eq_getElem h, List.getElem_mem h, by rw [List.getD_eq_getElem?_getD, List.getElem?_map, List.getElem?_eq_getElem h]; rfl, by rw [List.getD_eq_getElem?_getD, List.getElem?_map, List.getElem?_eq_getElem h]; rfl⟩
 obtain ⟨a, ha, hma, e1, e2⟩ := g i hi
 obtain ⟨b, hb, hmb, e3, e4⟩ := g j hj
 have hl : ((dueZ ns).map (esB ns)).getLastD false = lastE ns := by
   unfold lastE
   cases hd : dueZ ns with
   | nil => rw [hd] at hma; cases hma
   | cons x r =>
     rw [getLastD_getD, getLastD_getD]
     have hlt : (x :: r).length - 1 < (x :: r).length := by simp
     rw [List.length_map, List.getD_eq_getElem?_getD, List.getElem?_map, List.getD_eq_getElem?_getD, List.getElem?_eq_getElem hlt]; rfl
 rw [e1, e3]
 unfold patF2
 rw [e2, e4, hl]
 have hij : (a < b) ↔ i < j := by
   have hs := due_sorted ns
   have mono : ∀ {i j a b : Nat}, (dueZ ns)[i]? = some a -> (dueZ ns)[j]? = some b -> i < j -> a < b := by
     intro i j a b h1 h2 h
     obtain ⟨h3, rfl⟩ := List.getElem?_eq_some_iff.mp h1
     obtain ⟨h4, rfl⟩ := List.getElem?_eq_some_iff.mp h2
     exact List.pairwise_iff_getElem.mp hs i j h3 h4 h
   constructor
   . intro h
     rcases Nat.lt_trichotomy i j with h1 | h1 | h1
     . exact h1
     . subst h1; rw [ha] at hb; cases hb; lia
     . have := mono hb ha h1; lia
   . exact mono ha hb
 unfold lexB rowK
 dsimp only
 by_cases e : esB ns a = esB ns b
 . rw [if_pos e]
   have es := same_of_es hnm (due_lt hma) (due_lt hmb) e
   have el : lastZ ns a = lastZ ns b := by unfold lastZ; rw [es]
   rw [if_pos (by rw [el])]
   simp only [Int.ofNat_lt, decide_eq_decide]
   exact hij
 . rw [if_neg e]
   by_cases eb : esB ns b = lastE ns
   . have h1 := last_top hnm hmb eb
     have h2 := last_low hnm hma (fun q => e (q.trans eb.symm))
     rw [if_neg (by lia), eb, beq_self_eq_true]
     exact decide_eq_true (by lia)
   . have ea : esB ns a = lastE ns := by
       cases h1 : esB ns a <;> cases h2 : esB ns b <;> cases h3 : lastE ns <;> simp_all
     have h1 := last_top hnm hma ea
     have h2 := last_low hnm hmb eb
     rw [if_neg (by lia), beq_eq_false_iff_ne.mpr eb]
     exact decide_eq_false (by lia)
end
theorem patP_due (ns : List Int) : (patP ((dueZ ns).map (esB ns))).map (fun i => (dueZ ns).getD i 0) = sortK ns := by
 unfold patP sortK
 have hl : dueZ ns ≠ [] -> ((dueZ ns).map (esB ns)).getLastD false = lastE ns := by
   intro hne
   unfold lastE
   cases hd : dueZ ns with
   | nil => exact absurd hd hne
   | cons x r =>
     rw [getLastD_getD, getLastD_getD]
     have hlt : (x :: r).length - 1 < (x :: r).length := by simp
     rw [List.length_map, List.getD_eq_getElem?_getD, List.getElem?_map, List.getD_eq_getElem?_getD, List.getElem?_eq_getElem hlt]; rfl
 cases hd : dueZ ns with
 | nil => rfl
 | cons x r =>
   have hne : dueZ ns ≠ [] := by rw [hd]; simp
   rw [<- hd, hl hne, List.map_append, List.length_map]
   have g : ∀ i ∈ List.range (dueZ ns).length, ((dueZ ns).map (esB ns)).getD i false = esB ns ((dueZ ns).getD i 0) := by
     intro i hi
     have h := List.mem_range.mp hi
     rw [List.getD_eq_getElem?_getD, List.getElem?_map, List.getD_eq_getElem?_getD, List.getElem?_eq_getElem h]; rfl
   congr 1
   . rw [<- range_filter 0 (fun k => esB ns k != lastE ns) (dueZ ns)]
     congr 1
     exact List.filter_congr fun i hi => by rw [g i hi]
   . rw [<- range_filter 0 (fun k => esB ns k == lastE ns) (dueZ ns)]
     congr 1
     exact List.filter_congr fun i hi => by rw [g i hi]
open PyProof.Rows.LCg PyProof.Rows.LCp
theorem PrL.at2 {nx : List (Addr × Obj)} : ∀ {zs : List Value} {rows : List (Int × Int)} {i : Nat} {v : Value}, PrL nx zs rows -> zs[i]? = some v -> ∃ a x y t1 t2, v = .ref a /\ rows[i]? = some (x, y) /\ (a, ({ cls := .type "tuple", data := .seq #[.int x t1, .int y t2] } : Obj)) ∈ nx
 | _, _, 0, _, .cons m r, h => ⟨_, _, _, _, _, (Option.some.inj h).symm, rfl, m⟩
 | _, _, i + 1, _, .cons m r, h => by
   (have hQ := PrL.at2 (i := i) r (by simpa using h); revert hQ; refine xq5 fun a x y t1 t2 => ?_; refine aq3 fun e e2 => ?_; intro hm)
   exact ⟨a, x, y, t1, t2, e, by simpa using e2, hm⟩
section
variable {prog : Program} {w : World} {A : Around} {s : Shared} {h₀ : Heap} {L : Addr} {m : Str -> Option Value} {env : Env}
theorem pairTurns {elt : Expr} {x x₂ : Str} {scope : Scope} {cl : List (Str × Addr)} {S : List (Addr × Obj) -> Prop} {Fin : List Value -> List (Addr × Obj) -> Prop} {N0 G : List (Addr × Obj)} {zs : List Value} {rows : List (Int × Int)} (hP : PrL G zs rows) (hG : ∀ p ∈ G, p ∈ N0) (hS : ∀ X, S (N0 ++ X)) (g : Int × Int -> Str × Str)
   (turn : ∀ (p : Int × Int) (t1 t2 : Tok) ys X I oI C oC D m₂ h tk (E' : Value -> Shared -> Prop), p ∈ rows -> NsObj oC m₂ -> m₂ x = some (.int p.1 t1) -> m₂ x₂ = some (.int p.2 t2) -> Fr h₀ L h m -> News h₀ L h ((I, oI) :: (C, oC) :: (D, lst ys) :: (N0 ++ X)) -> Off3 I C D (N0 ++ X) -> ((@Ne Nat I C) /\ (@Ne Nat I D) /\ (@Ne Nat C D)) ->
     wpAny (model prog w) A (eval elt (compEnvC scope cl C env)) (ZEnd h₀ L m { s with heap := h, toks := tk } ((I, oI) :: (C, oC) :: (D, lst ys) :: (N0 ++ X)) (fun v own => ∃ T t1 t2, own = [(T, hdrTup (g p).1 t1 (g p).2 t2)] /\ v = .ref T)) E' { s with heap := h, toks := tk })
   (fin : ∀ ys X, HItL X ys (rows.map g) -> Fin ys (N0 ++ X)) : CompRestP prog w A h₀ L m env elt x x₂ scope cl s S (fun i v => zs.toArray[i]? = some v) Fin zs.toArray.size 0 [] N0 := by
 have hlen : zs.length = rows.length := hP.len
 have key : ∀ (k i : Nat) (ys : List Value) (X : List (Addr × Obj)), i + k = zs.length -> HItL X ys ((rows.take i).map g) -> CompRestP prog w A h₀ L m env elt x x₂ scope cl s S (fun i v => zs.toArray[i]? = some v) Fin k i ys (N0 ++ X) := by
   intro k
   induction k with
   | zero =>
     intro i ys X e hJ
     rw [List.take_of_length_le (by lia)] at hJ
     exact fin ys X hJ
   | succ k ih =>
     intro i ys X e hJ v hv
     have hv' : zs[i]? = some v := by simpa using hv
     (have hQ := PrL.at2 hP hv'; revert hQ; refine xq5 fun a px py t1 t2 => ?_; refine aq2 fun eQ => ?_; subst eQ; refine aq2 fun hr => ?_; intro hm)
     refine ⟨a, _, .int px t1, .int py t2, 0, rfl, List.mem_append_left _ (hG _ hm), rfl, rfl, ?_⟩
     intro I oI C oC D m₂ h tk E' hO hx1 hx2 F N off hne
     refine wpAny_mono (turn (px, py) t1 t2 ys X I oI C oC D m₂ h tk E' (List.mem_of_getElem? hr) hO hx1 hx2 F N off hne) (fun y s'' z => ?_) fun _ _ e => e
     (revert z; refine xq3 fun h' tk' own => ?_; refine aq2 fun eQ => ?_; subst eQ; refine aq4 fun F' N' offO => ?_; refine xq3 fun T u1 u2 => ?_; refine aq2 fun eQ => ?_; subst eQ; rintro rfl)
     have hmT : ∀ q ∈ (I, oI) :: (C, oC) :: (D, lst ys) :: (N0 ++ X), q.1 ≠ T := fun q hq => offO (T, hdrTup (g (px, py)).1 u1 (g (px, py)).2 u2) (.head _) q hq
     refine CompEnd.intro F' N' (N0 ++ (X ++ [(T, hdrTup (g (px, py)).1 u1 (g (px, py)).2 u2)])) (fun q hq => ?_) (Off3.of fun q hq => ?_) (hS _) (ih (i + 1) _ _ (by lia) ?_)
     . simp only [List.mem_cons, List.mem_append, List.not_mem_nil, or_false] at hq ⊢
       rcases hq with h | h | h | h | h | h <;> simp [h]
     . rcases List.mem_append.mp hq with h | h
       . exact off.mem q (List.mem_append_left _ h)
       . rcases List.mem_append.mp h with h | h
         . exact off.mem q (List.mem_append_right _ h)
         . rw [List.mem_singleton.mp h]
           exact ⟨Ne.symm (hmT (I, oI) (by simp)), Ne.symm (hmT (C, oC) (by simp)), Ne.symm (hmT (D, lst ys) (by simp))⟩
     . rw [List.take_add_one, hr, List.map_append]
       exact HItL.append (.cons (List.mem_append_right _ (.head _)) .nil) (hJ.mono fun p hp => List.mem_append_left _ hp)
 have := key zs.length 0 [] [] (by lia) .nil
 rw [List.append_nil] at this
 simpa using this
theorem pairSrc {elt : Expr} {x x₂ : Str} {scope : Scope} {cl : List (Str × Addr)} {Q : Value -> Shared -> Prop} {A : Around} {N0 G : List (Addr × Obj)} {SD : Addr} {k : Nat} {zs : List Value} {rows : List (Int × Int)} (g : Int × Int -> Str × Str) (hh : A.handled = none) (F : Fr h₀ L s.heap m) (N : News h₀ L s.heap N0) (hm : (SD, W.listOf zs.toArray k) ∈ N0) (hsz : zs.length <= sizeLine) (hP : PrL G zs rows) (hG : ∀ p ∈ G, p ∈ N0)
   (turn : ∀ (gg : Heap) (p : Int × Int) (t1 t2 : Tok) ys X I oI C oC D m₂ h tk (E' : Value -> Shared -> Prop), p ∈ rows -> NsObj oC m₂ -> m₂ x = some (.int p.1 t1) -> m₂ x₂ = some (.int p.2 t2) -> Fr h₀ L h m -> News h₀ L h ((I, oI) :: (C, oC) :: (D, lst ys) :: (N0 ++ X)) -> Off3 I C D (N0 ++ X) -> ((@Ne Nat I C) /\ (@Ne Nat I D) /\ (@Ne Nat C D)) ->
     wpAny (model prog w) A (eval elt (compEnvC scope cl C env)) (ZEnd h₀ L m { s with heap := h, toks := tk } ((I, oI) :: (C, oC) :: (D, lst ys) :: (N0 ++ X)) (fun v own => ∃ T t1 t2, own = [(T, hdrTup (g p).1 t1 (g p).2 t2)] /\ v = .ref T)) E' { s with heap := h, toks := tk })
   (fin : ∀ (gg : Heap) ys X D h tk, HItL X ys (rows.map g) -> Fr h₀ L h m -> News h₀ L h ((D, lst ys) :: (N0 ++ X)) -> Off1 D (N0 ++ X) -> Q (.ref D) { s with heap := h, toks := tk }) : SrcLP prog w A h₀ L m env elt x x₂ scope cl (fun s₂ => FinE h₀ L m s₂ Q) (.ref SD) s := by
 refine SrcLP.ledger hh F N hm (by simpa using hsz) fun gg => ?_
 exact pairTurns (G := G) hP hG (fun X => .inr ⟨_, List.mem_append_left X hm, rfl, _, rfl⟩) g (fun p t1 t2 ys X I oI C oC D m₂ h tk E' a b c d e f hh i => turn gg p t1 t2 ys X I oI C oC D m₂ h tk E' a b c d e f hh i) (fun ys X hI D h tk F' N' o1 => fin gg ys X D h tk hI F' N' o1)
end
noncomputable def pd (p : Str × Str) : PyData := PyData.tuple [.str p.1, .str p.2]
open PyProof.V PySem.SeqAt in
theorem readsAll_of_pairs {h g : Heap} {L : Addr} {nx : List (Addr × Obj)} (N : News g L h nx) : ∀ {vs : List Value} {its : List (Str × Str)}, HItL nx vs its -> ∃ as, ReadsAll h vs (its.map pd) as
 | _, _, .nil => ⟨[], .nil⟩
 | _, _, .cons (a := a) (k := k) (v := v) (t1 := t1) (t2 := t2) m r => by
   obtain ⟨as, ih⟩ := readsAll_of_pairs N r
   have h1 : Reads h (.ref a) (.tuple [.str k, .str v]) _ := Reads.tuple (N _ m).1 rfl rfl (ReadsAll.cons (Reads.str k t1) (ReadsAll.cons (Reads.str v t2) .nil))
   exact ⟨_, ReadsAll.cons h1 ih⟩
section
open PyProof.V PySem.SeqAt
theorem canLay_pairs : ∀ its : List (Str × Str), (∀ p ∈ its, PyData.strOk p.1 = true /\ PyData.strOk p.2 = true) -> PyData.canLayAll0 (its.map pd) = true
 | [], _ => by simp [PyData.canLayAll0]
 | n :: r, h => by simp [PyData.canLayAll0, PyData.canLay0, pd, (h n (by simp)).1, (h n (by simp)).2, canLay_pairs r fun m hm => h m (by simp [hm])]
theorem depth_pairs : ∀ its : List (Str × Str), PyData.depthAll (its.map pd) <= 8
 | [] => by simp [PyData.depthAll]
 | n :: r => by
   have := depth_pairs r
   simp only [List.map_cons, PyData.depthAll, PyData.depth, pd]
   lia
theorem shaped_pairs (its : List (Str × Str)) (ok : ∀ p ∈ its, PyData.strOk p.1 = true /\ PyData.strOk p.2 = true) : shaped (.list (its.map pd)) = true := by
 have h1 := depth_pairs its
 have h2 : PyData.depth (.list (its.map pd)) <= 64 := by simp only [PyData.depth]; lia
 show (PyData.canLay0 (.list (its.map pd)) && decide (PyData.depth (.list (its.map pd)) <= 64)) = true
 rw [Bool.and_eq_true]
 exact ⟨by simp only [PyData.canLay0]; exact canLay_pairs its ok, decide_eq_true h2⟩
theorem noMix_pairs : ∀ ns ms : List (Str × Str), noMixAll (ns.map pd) (ms.map pd) = true
 | [], [] => by simp [noMixAll]
 | [], _ :: _ => by simp [noMixAll]
 | _ :: _, [] => by simp [noMixAll]
 | _ :: r, _ :: q => by simp [noMixAll, noMix, pd, noMix_pairs r q]
theorem same_pairs : ∀ ns ms : List (Str × Str), PySem.Spec.sameAll (ns.map pd) (ms.map pd) = decide (ns = ms)
 | [], [] => by simp [PySem.Spec.sameAll]
 | [], _ :: _ => by simp [PySem.Spec.sameAll]
 | _ :: _, [] => by simp [PySem.Spec.sameAll]
 | (a, b) :: r, (c, d) :: q => by
   simp only [List.map_cons, PySem.Spec.sameAll, same_pairs r q, pd, PySem.Spec.same]
   by_cases h1 : a = c <;> by_cases h2 : b = d <;> simp [h1, h2]
theorem ne_pairsK {prog : Program} {w : World} {A : Around} {E : Value -> Shared -> Prop} {s : Shared} {a b : Addr} {vs us : List Value} {ns ms : List (Str × Str)} {n1 n2 : List (Addr × Obj)} {g : Heap} {L : Addr} {Q : Value -> Shared -> Prop} (N1 : News g L s.heap n1) (N2 : News g L s.heap n2) (hl : s.heap.IsList a vs.toArray) (hi : HItL n1 vs ns) (hl' : s.heap.IsList b us.toArray) (hi' : HItL n2 us ms) (ok1 : ∀ p ∈ ns, PyData.strOk p.1 = true /\ PyData.strOk p.2 = true) (ok2 : ∀ p ∈ ms, PyData.strOk p.1 = true /\ PyData.strOk p.2 = true) (hu : A.units + 64 < cLine)
   (h : Q (.bool (!decide (ns = ms))) s) : wpAny (model prog w) A (compareOp .NotEq (.ref a) (.ref b)) Q E s := by
 obtain ⟨as, r1⟩ := readsAll_of_pairs N1 hi
 obtain ⟨bs, r2⟩ := readsAll_of_pairs N2 hi'
 (revert hl; refine xq1 fun o => ?_; refine aq3 fun ho hc => ?_; refine xq1 fun n => ?_; intro hd)
 (revert hl'; refine xq1 fun o' => ?_; refine aq3 fun ho' hc' => ?_; refine xq1 fun n' => ?_; intro hd')
 exact ne_dataH_same (Reads.list ho hc hd r1) (Reads.list ho' hc' hd' r2) (shaped_pairs ns ok1) (shaped_pairs ms ok2) hu (by simp only [noMix]; exact noMix_pairs ns ms) (by simp only [PySem.Spec.same]; rw [show (PySem.Spec.sameAll _ _) = _ from same_pairs ns ms]; exact h)
end
theorem shw_eq {i : Nat} {nm y : Str} (e : y = [nm, Txt.upper nm].getD ((i : Int).fmod 2).toNat ⟨#[]⟩) : y = shownZ i nm := e
theorem zend_of {h₀ h' : Heap} {L T : Addr} {m : Str -> Option Value} {s₁ : Shared} {tk' : Nat} {fix : List (Addr × Obj)} {x : Addr × Obj} {a b : Str} {t1 t2 : Tok} {ab : Str × Str} (F : Fr h₀ L h' m) (N : News h₀ L h' ((T, hdrTup a t1 b t2) :: x :: fix)) (hl : AllLt T fix) (e : ab = (a, b)) :
   ZEnd h₀ L m s₁ fix (fun v own => ∃ T t1 t2, own = [(T, hdrTup ab.1 t1 ab.2 t2)] /\ v = .ref T) (.ref T) { s₁ with heap := h', toks := tk' } := by
 subst e
 refine ⟨h', tk', [(T, hdrTup a t1 b t2)], rfl, F, fun p hp => N p ?_, fun p hp q hq => ?_, T, t1, t2, rfl, rfl⟩
 . rcases List.mem_append.mp hp with hp | hp
   . rw [List.mem_singleton.mp hp]; exact .head _
   . exact .tail _ (.tail _ hp)
 . rw [List.mem_singleton.mp hp]
   exact Nat.ne_of_lt (allLt_mem hl q hq)
theorem mem_mid {p : Addr × Obj} {R S : List (Addr × Obj)} (pre : List (Addr × Obj)) (hs : p ∈ R -> p ∈ S) (h : p ∈ pre ++ R) : p ∈ pre ++ S := (List.mem_append.mp h).elim (fun h => List.mem_append_left _ h) (fun h => List.mem_append_right _ (hs h))
theorem mem_ins {p : Addr × Obj} {G X R : List (Addr × Obj)} {a0 a1 a2 a3 a4 a5 a6 a7 a8 a9 a10 a11 a12 a13 a14 a15 a16 a17 a18 : Addr × Obj} (h : p ∈ a0 :: a1 :: a2 :: a3 :: a4 :: a5 :: a6 :: a7 :: a8 :: a9 :: a10 :: a11 :: a12 :: a13 :: a14 :: a15 :: a16 :: a17 :: a18 :: R) : p ∈ a0 :: a1 :: a2 :: a3 :: a4 :: a5 :: a6 :: a7 :: a8 :: a9 :: a10 :: a11 :: a12 :: a13 :: a14 :: a15 :: a16 :: a17 :: a18 :: (R ++ G ++ X) := mem_mid [a0, a1, a2, a3, a4, a5, a6, a7, a8, a9, a10, a11, a12, a13, a14, a15, a16, a17, a18] (fun h => List.mem_append_left _ (List.mem_append_left _ h)) h
noncomputable def SubMark : Prop := True
theorem patP_len (bs : List Bool) : (patP bs).length = bs.length := by
 unfold patP
 rw [List.length_append]
 have := filter_two (fun i => bs.getD i false != bs.getLastD false) (List.range bs.length)
 rw [List.length_range] at this
 have e : (List.range bs.length).filter (fun i => bs.getD i false == bs.getLastD false) = (List.range bs.length).filter (fun a => !(bs.getD a false != bs.getLastD false)) := List.filter_congr fun i _ => by simp [bne]
 rw [e]; exact this
theorem sz_ok {ns : List Int} {p : Array Nat} {α : Type} {f : Nat -> α} (hp : p.toList = patP ((dueZ ns).map (esB ns))) (h6 : (dueZ ns).length <= 6) : (p.toList.map f).length <= sizeLine := by
 rw [List.length_map, hp, patP_len, List.length_map, sizeLine_eq]; lia
noncomputable def gRow (ns : List Int) (p : Int × Int) : Str × Str := (shownZ p.1.toNat (nmA ns p.2.toNat), wtA ns p.2.toNat)
theorem gRow_rowK (ns : List Int) (k : Nat) : gRow ns (rowK ns k) = (shownZ (lastZ ns k) (nmA ns k), wtA ns k) := by unfold gRow rowK; simp
theorem items_same {ns : List Int} {X : List (Addr × Obj)} {ys : List Value} (hi : tabZ ns = (sortK ns).map (fun k => (shownZ (lastZ ns k) (nmA ns k), wtA ns k))) (h : HItL X ys (((sortK ns).map (rowK ns)).map (gRow ns))) : HItL X ys (tabZ ns) := by
 rw [hi]
 rw [List.map_map, show (gRow ns ∘ rowK ns) = (fun k => (shownZ (lastZ ns k) (nmA ns k), wtA ns k)) from funext fun k => gRow_rowK ns k] at h
 exact h
theorem sort_mem {ns : List Int} {k : Nat} (h : k ∈ sortK ns) : k ∈ dueZ ns := by
 unfold sortK at h
 rcases List.mem_append.mp h with h | h <;> exact (List.mem_filter.mp h).1
theorem rows_full {ns : List Int} {G : List (Addr × Obj)} {zs vd : List Value} (h : PrL G zs (((dueZ ns).map (rowK ns)).take zs.length)) (hl : zs.length = vd.length) (hv : NatsAre vd (dueZ ns)) : PrL G zs ((dueZ ns).map (rowK ns)) := by
 rwa [List.take_of_length_le (by rw [List.length_map, hl, hv.len]; exact Nat.le_refl _)] at h
theorem PrL.pick {nx : List (Addr × Obj)} {zs : List Value} {rows : List (Int × Int)} (h : PrL nx zs rows) : ∀ ix : List Nat, (∀ i ∈ ix, i < zs.length) -> PrL nx (ix.map fun i => zs.getD i .none) (ix.map fun i => rows.getD i (0, 0))
 | [], _ => .nil
 | i :: ix, hi => by
   (have hQ := PrL.at h (hi i (.head _)); revert hQ; refine xq3 fun a t1 t2 => ?_; refine aq2 fun e => ?_; intro m)
   have ih := PrL.pick h ix fun j hj => hi j (.tail _ hj)
   rw [List.map_cons, List.map_cons, e]
   exact .cons m ih
theorem rows_sorted {ns : List Int} {G : List (Addr × Obj)} {zs : List Value} {p : Array Nat} (h : PrL G zs ((dueZ ns).map (rowK ns))) (hp : p.toList = patP ((dueZ ns).map (esB ns))) : PrL G (p.toList.map fun i => zs.getD i Value.none) ((sortK ns).map (rowK ns)) := by
 have hlen : zs.length = (dueZ ns).length := by rw [h.len, List.length_map]
 have hb : ∀ i ∈ p.toList, i < (dueZ ns).length := by
   intro i hi
   rw [hp] at hi
   unfold patP at hi
   rw [List.length_map] at hi
   rcases List.mem_append.mp hi with hi | hi <;> exact List.mem_range.mp (List.mem_filter.mp hi).1
 have h2 := h.pick p.toList (fun i hi => by rw [hlen]; exact hb i hi)
 have e : (p.toList.map fun i => ((dueZ ns).map (rowK ns)).getD i (0, 0)) = (sortK ns).map (rowK ns) := by
   rw [<- patP_due ns, <- hp, List.map_map]
   refine List.map_congr_left fun i hi => ?_
   have h3 := hb i hi
   show _ = rowK ns ((dueZ ns).getD i 0)
   rw [List.getD_eq_getElem?_getD, List.getElem?_map, List.getD_eq_getElem?_getD, List.getElem?_eq_getElem h3]; rfl
 rw [<- e]; exact h2
section
noncomputable abbrev partFQ (w : World) (dp un : Nat) (gd : Option (List Code)) (outer : List Env) (A₀ : Around) (base : Heap) (L : Addr) (s : Shared) (p : Program) (loose : List Str) (mean : ExcName -> Option Value) (mg mb : Str -> Option Value) (E : Value -> Shared -> Prop) (g : Heap) (sl fa : Addr) (cdv : Value) (le xe dxe lt xt dxt lr lw ln rp ldu : Addr) (toe tot ta tb tc : Tok) (ve vt vr vw vn vd : List Value) (ne nt nr nw nn nd : Nat) (q1 q2 q3 q4 q5 q6 q7 q8 : Obj) (R tl : List (Addr × Obj)) (ns : List Int) (om : Str -> Option Value) : Prop := ∀ {scope : Scope} {lb : List Stmt} (hlb : ((fdB (stm pw_sr0088_01 22)).drop 6).take 2 = lb) (hsc : fdS (stm pw_sr0088_01 22) = scope) (hE : PassesOwn (model pw_sr0088_01 w) (ktrTop dp un gd "law" scope L fa cdv (cellsFrom (L + 1) scope.names []) outer) (envOfC "law" scope L fa cdv) E) (C : Cx w dp un scope outer A₀ base g L (fun (y : Str) => if y = "places" then some (.ref rp) else if y = "over" then om y else if y = "rows" then om y else if y = "longer" then om y else if y = "caught" then om y else if y = "taken" then om y else if y = "table" then some (.ref xt) else if y = "every" then some (.ref xe) else if y = "script" then some (.ref sl) else om y) s.heap p loose mean mg mb 40) (N : News g L s.heap ((ldu, W.listOf vd.toArray nd) :: (rp, rngObj (ns.length : Int) ta tb tc) :: (le, W.listOf ve.toArray ne) :: (xe, instObj 182 dxe) :: (dxe, hdD w.params toe le) :: (lt, W.listOf vt.toArray nt) :: (xt, instObj 182 dxt) :: (dxt, hdD w.params tot lt) :: (lr, W.listOf vr.toArray nr) :: (lw, W.listOf vw.toArray nw) :: (ln, W.listOf vn.toArray nn) :: (L + 1 + 1 + 1 + 1 + 1 + 1 + 1 + 1, q8) :: (L + 1 + 1 + 1 + 1 + 1 + 1 + 1, q7) :: (L + 1 + 1 + 1 + 1 + 1 + 1, q6) :: (L + 1 + 1 + 1 + 1 + 1, q5) :: (L + 1 + 1 + 1 + 1, q4) :: (L + 1 + 1 + 1, q3) :: (L + 1 + 1, q2) :: (L + 1, q1) :: R)) (offR : OwnOff R [ldu, rp, le, xe, dxe, lt, xt, dxt, lr, lw, ln, L + 1 + 1 + 1 + 1 + 1 + 1 + 1 + 1, L + 1 + 1 + 1 + 1 + 1 + 1 + 1, L + 1 + 1 + 1 + 1 + 1 + 1, L + 1 + 1 + 1 + 1 + 1, L + 1 + 1 + 1 + 1, L + 1 + 1 + 1, L + 1 + 1, L + 1]) (hord : (@LT.lt Nat _ (L + 1 + 1 + 1 + 1 + 1 + 1 + 1 + 1) ln) /\ (@LT.lt Nat _ ln lw) /\ (@LT.lt Nat _ lw lr) /\ (@LT.lt Nat _ lr dxt) /\ (@LT.lt Nat _ dxt xt) /\ (@LT.lt Nat _ xt lt) /\ (@LT.lt Nat _ lt dxe) /\ (@LT.lt Nat _ dxe xe) /\ (@LT.lt Nat _ xe le) /\ (@LT.lt Nat _ le rp) /\ (@LT.lt Nat _ rp ldu)) (d1 : q1.data = Data.cell (some (Value.ref ln))) (d2 : q2.data = Data.cell (some (Value.ref lw))) (d3 : q3.data = Data.cell (some (Value.ref lr))) (d5 : q5.data = Data.cell (some (Value.ref ldu))) (hns : ns.length <= 6) (hvn : StrsAre vn (ns.map nameZ)) (hvw : StrsAre vw (ns.map wantZ)) (hvd : NatsAre vd (dueZ ns)) (hnm : ∀ k, k < ns.length -> nmA ns k = Str.ofString "e" \/ nmA ns k = Str.ofString "es") (hd2 : 2 <= (dueZ ns).length) (htl : ∀ p ∈ tl, p ∈ R) (hT : HItL tl vt (tabZ ns)) (hvt : vt.length <= 32) (hitems : tabZ ns = (sortK ns).map (fun k => (shownZ (lastZ ns k) (nmA ns k), wtA ns k))) (hokT : ∀ p ∈ tabZ ns, PlainT p.1 /\ PlainT p.2) (hnl : ∀ k, (nmA ns k).length <= 2) (hul : ∀ k, (Txt.upper (nmA ns k)).length <= 2), wpAny (model pw_sr0088_01 w) (ktrTop dp un gd "law" scope L fa cdv (cellsFrom (L + 1) scope.names []) outer) (execs lb (envOfC "law" scope L fa cdv)) (fun f s' => f = .next /\ Hold (∃ (h' : Heap) (tk' : Nat) (m' : Str -> Option Value), s' = { s with heap := h', toks := tk' } /\ Fr g L h' m' /\ Loc2 rp xt xe sl m' /\ (News g L h' ((ldu, W.listOf vd.toArray nd) :: (rp, rngObj (ns.length : Int) ta tb tc) :: (le, W.listOf ve.toArray ne) :: (xe, instObj 182 dxe) :: (dxe, hdD w.params toe le) :: (lt, W.listOf vt.toArray nt) :: (xt, instObj 182 dxt) :: (dxt, hdD w.params tot lt) :: (lr, W.listOf vr.toArray nr) :: (lw, W.listOf vw.toArray nw) :: (ln, W.listOf vn.toArray nn) :: (L + 1 + 1 + 1 + 1 + 1 + 1 + 1 + 1, q8) :: (L + 1 + 1 + 1 + 1 + 1 + 1 + 1, q7) :: (L + 1 + 1 + 1 + 1 + 1 + 1, q6) :: (L + 1 + 1 + 1 + 1 + 1, q5) :: (L + 1 + 1 + 1 + 1, q4) :: (L + 1 + 1 + 1, q3) :: (L + 1 + 1, q2) :: (L + 1, q1) :: R)))) E s
noncomputable def partFS (x : LP) : Prop := partFQ x.w x.dp x.un x.gd x.outer x.A₀ x.base x.L x.s x.p x.loose x.mean x.mg x.mb x.E x.g x.sl x.fa x.cdv x.le x.xe x.dxe x.lt x.xt x.dxt x.lr x.lw x.ln x.rp x.ldu x.toe x.tot x.ta x.tb x.tc x.ve x.vt x.vr x.vw x.vn x.vd x.ne x.nt x.nr x.nw x.nn x.nd x.q1 x.q2 x.q3 x.q4 x.q5 x.q6 x.q7 x.q8 x.R x.tl x.ns x.om
@[irreducible] noncomputable def partFC : LP := gen LPE partFS
namespace partFN
noncomputable section
 def w := partFC.w
 def L := partFC.L
 def p := partFC.p
 def g := partFC.g
 def le := partFC.le
 def xe := partFC.xe
 def dxe := partFC.dxe
 def lt := partFC.lt
 def xt := partFC.xt
 def dxt := partFC.dxt
 def lr := partFC.lr
 def lw := partFC.lw
 def ln := partFC.ln
 def rp := partFC.rp
 def ldu := partFC.ldu
 def toe := partFC.toe
 def tot := partFC.tot
 def ta := partFC.ta
 def tb := partFC.tb
 def tc := partFC.tc
 def ve := partFC.ve
 def vt := partFC.vt
 def vr := partFC.vr
 def vw := partFC.vw
 def vn := partFC.vn
 def vd := partFC.vd
 def ne := partFC.ne
 def nt := partFC.nt
 def nr := partFC.nr
 def nw := partFC.nw
 def nn := partFC.nn
 def nd := partFC.nd
 def q1 := partFC.q1
 def q2 := partFC.q2
 def q3 := partFC.q3
 def q4 := partFC.q4
 def q5 := partFC.q5
 def q6 := partFC.q6
 def q7 := partFC.q7
 def q8 := partFC.q8
 def R := partFC.R
 def tl := partFC.tl
 def ns := partFC.ns
end
theorem main : partFQ w partFC.dp partFC.un partFC.gd partFC.outer partFC.A₀ partFC.base L partFC.s p partFC.loose partFC.mean partFC.mg partFC.mb partFC.E g partFC.sl partFC.fa partFC.cdv le xe dxe lt xt dxt lr lw ln rp ldu toe tot ta tb tc ve vt vr vw vn vd ne nt nr nw nn nd q1 q2 q3 q4 q5 q6 q7 q8 R tl ns partFC.om := by
 intro scope lb hlb hsc
 have hlb1 := hlb
 have hsc1 := hsc
 conv at hlb => lhs; whnf
 conv at hsc => lhs; whnf
 subst hlb hsc
 intro hE C N offR hord d1 d2 d3 d5 hns hvn hvw hvd hnm hd2 htl hT hvt hitems hokT hnl hul
 obtain ⟨B', F', X', T', hk', hd', hu'⟩ := C
 (revert hord; refine aq9 fun r1 r2 r3 r4 r5 r6 r7 r8 => ?_; refine aq3 fun r9 r10 => ?_; intro r11)
 (try dsimp only)
 (try k_fold)
 k_with "subscriptTail" => ((rename News g _ _ _ => lN); first
   | ((with_reducible show wpAny _ _ (subscriptTail _ _ _ (Value.int (Int.fmod _ _) _)) _ _ _); (k_dflt refine' item_strsN (cs := [(ns.map nameZ).getD k ⟨#[]⟩, Txt.upper ((ns.map nameZ).getD k ⟨#[]⟩)]) lN ?jm (.cons _ _ (.cons _ _ .nil)) (fm2 _).1 (fm2 _).2 (show 2 <= 8 by decide) ?jc ?_ ?ks); (case jm => k_dflt k_mem); (case jc => (intro c hc; simp only [List.mem_cons, List.not_mem_nil, or_false] at hc; rcases hc with rfl | rfl; exact Nat.le_trans hnk (by decide); exact Nat.le_trans huk (by decide))); (case ks => with_unfolding_all rfl); (intro shw tsh esh hsh; (have esh2 := shw_eq esh); clear esh; subst esh2))
   | ((k_dflt refine' item_strAt lN ?m hvn ?h1 ?h2 ?_ ?ks); (case m => k_dflt k_mem); (case h1 => (rw [List.length_map]; first | exact hkm2 | exact hi | exact hkm)); (case h2 => (rw [List.length_map]; exact Nat.le_trans hns (by decide))); (case ks => with_unfolding_all rfl); intro _)
   | ((k_dflt refine' item_strAt lN ?m hvw ?h1 ?h2 ?_ ?ks); (case m => k_dflt k_mem); (case h1 => (rw [List.length_map]; first | exact hkm2 | exact hi | exact hkm)); (case h2 => (rw [List.length_map]; exact Nat.le_trans hns (by decide))); (case ks => with_unfolding_all rfl); intro _))
 k_with "eval ListComp" => (first | ((fail_if_success (have hq := hkm)); (fail_if_success (have hq := hRS)); k_dflt (refine ListComp_K (F₀ := by k_asm) (by rfl) (by decide) (by with_unfolding_all rfl) (by rfl) (by decide) ?_)) | ((have hq := hRS); k_dflt (refine PyProof.Rows.LCp.ListComp_P (F₀ := by k_asm) (by with_unfolding_all rfl) (by decide) (by rfl) (by decide) (by rfl) (by rfl) (by decide) ?_)) | (k_dflt (refine PyProof.Rows.LCt.ListComp_T (F₀ := by k_asm) (by with_unfolding_all rfl) (by decide) (by rfl) (by decide) (by rfl) ?_)))
 k_with "call ref" => ((rename Fr g _ _ _ => lF); (rename News g _ _ _ => lN); (k_dflt refine' items_ok (to := tot) (n := nt) (its := []) (nm := ⟨#[]⟩) (tn := 0) (vs := vt) (by omega) (by omega) (by omega) (Cx.le ⟨B', lF, X', T', hk', hd', hu'⟩ (by decide)) (N := ?kN) ?_); (case kN => exact News.sub3 lN (by k_dflt k_mem) (by k_dflt k_mem) (by k_dflt k_mem)); (intro h7 tk7 IT n7 kk fr; have hit := freshNeA lN fr; have lF2 := frKeep lF kk; have lN2 := newsFresh lF lN kk fr; (try simp only [List.cons_append, List.nil_append] at lN2); clear kk fr); k_whole)
 k_with "SrcK" => ((rename Fr g _ _ _ => lF); (rename News g _ _ _ => lN); (k_dflt refine' SrcK.of (vs := vd) (fun zs G => PrL G zs (((dueZ ns).map (rowK ns)).take zs.length)) ?ch lF lN ?cm ?cz .nil (fun g2 => fun v zs G C oC c oc D I oI h tk E' hv hJ dc hO lF2 off ne1 ne2 ne3 ne4 ne5 ne6 lN2 => ?_) (fun g2 => fun D zs G h tk lF2 lN2 o1 hJ hl => ?_)); (case ch => with_unfolding_all rfl); (case cm => k_dflt k_mem); (case cz => (rw [sizeLine_eq]; have := hvd.len; have := List.length_filter_le (dueB ns) (List.range ns.length); (rw [List.length_range] at this); unfold dueZ at *; lia)); (all_goals (try (obtain ⟨k, tkk, rfl, hkd⟩ := hvd.at hv; have hkm := due_lt (List.mem_of_getElem? hkd)))); (all_goals (try simp only [List.cons_append] at lN2)); all_goals (try k_fold))
 k_with "CompSrcT" => ((rename Fr g _ _ _ => lF); (rename News g _ _ _ => lN); (k_dflt refine' PyProof.Rows.LCt.CompSrcT.ledger ?ch lF lN ?cm ?cz (fun g2 => natTurns hvd (.inr ⟨_, by k_dflt k_mem, rfl, _, rfl⟩) (fun j => nmA ns j == nmA ns k) isNat (fun i t ys I2 oI2 C2 oC2 D2 m₃ h tk E' hi0 hO hx lF2 lN2 off hne => ?_) (fun us2 hJ2 => ?_))); (case ch => with_unfolding_all rfl); (case cm => k_dflt k_mem); (case cz => (rw [sizeLine_eq]; simp only [List.size_toArray]; have := hvd.len; have := List.length_filter_le (dueB ns) (List.range ns.length); (rw [List.length_range] at this); unfold dueZ at *; lia)); (all_goals (try (have hi := due_lt hi0))); all_goals (try k_fold))
 k_with "call builtin:max" => ((rename Fr g _ _ _ => lF); (rename News g _ _ _ => lN); (k_dflt refine' max_list_N ?ch lF lN ?hl (nats_of hJ2) (same_pos (List.mem_of_getElem? hkd)) ?_); (case ch => with_unfolding_all rfl); (case hl => k_dflt exact ⟨_, (lN (_, PyProof.Rows.LCg.lst us2) (by k_dflt k_mem)).1, rfl, _, rfl⟩); (intro h5 M tM tk5 lF5 lN5 hM hMx; have hMe := max_last hM hMx))
 k_with "call builtin:sorted" => ((rename Fr g _ _ _ => lF); (rename News g _ _ _ => lN); (have hJ5 := rows_full hJ hl hvd); (have hz5 : zs.length = (dueZ ns).length := by rw [hl, hvd.len]); (have hd6 : (dueZ ns).length <= 6 := by have := List.length_filter_le (dueB ns) (List.range ns.length); (rw [List.length_range] at this); unfold dueZ; lia); (obtain ⟨pm, hpm, hpl⟩ := pat_run ((dueZ ns).map (esB ns)) (by rw [List.length_map]; exact hd2) (by rw [List.length_map]; exact hd6)); (rw [List.length_map, <- hz5] at hpm); (k_dflt refine' sorted_rows (nx := G) (zs := zs) lF lN (List.Mem.head _) hJ5 ?hs (by lia) (by lia) (fun i j hi hj => lex_pat hnm (by lia) (by lia)) hpm ?_); (case hs => (k_dflt exact fun p hp => .tail _ (List.mem_append_right ([(ldu, W.listOf vd.toArray nd), (rp, rngObj (ns.length : Int) ta tb tc), (le, W.listOf ve.toArray ne), (xe, instObj 182 dxe), (dxe, hdD w.params toe le), (lt, W.listOf vt.toArray nt), (xt, instObj 182 dxt), (dxt, hdD w.params tot lt), (lr, W.listOf vr.toArray nr), (lw, W.listOf vw.toArray nw), (ln, W.listOf vn.toArray nn), (L + 1 + 1 + 1 + 1 + 1 + 1 + 1 + 1, q8), (L + 1 + 1 + 1 + 1 + 1 + 1 + 1, q7), (L + 1 + 1 + 1 + 1 + 1 + 1, q6), (L + 1 + 1 + 1 + 1 + 1, q5), (L + 1 + 1 + 1 + 1, q4), (L + 1 + 1 + 1, q3), (L + 1 + 1, q2), (L + 1, q1)] ++ R) hp))); (intro SD h6 c6 lF6 lN6 hlt6; have hRS := rows_sorted hJ5 hpl; clear hJ hJ5))
 k_with "SrcLP" => ((rename Fr g _ _ _ => lF); (rename News g _ _ _ => lN); (k_dflt refine' pairSrc (G := G) (gRow ns) ?ch lF lN (List.Mem.tail _ (List.Mem.head _)) ?cz hRS ?hG (fun g2 p t1 t2 ys X I oI C oC D2 m₂ h tk E' hp hO hx1 hx2 lF2 lN2 off hne => ?_) (fun g2 ys X D h tk hIt lF2 lN2 o1 => ?_)); (case ch => with_unfolding_all rfl); (case cz => k_dflt exact sz_ok hpl hd6); (case hG => k_dflt exact fun p hp => List.Mem.tail _ (.tail _ (.tail _ (.tail _ (.tail _ (.tail _ (.tail _ (.tail _ (.tail _ (.tail _ (.tail _ (.tail _ (.tail _ (.tail _ (.tail _ (.tail _ (.tail _ (.tail _ (.tail _ (.tail _ (.tail _ (.tail _ (List.mem_append_right R hp))))))))))))))))))))))); (all_goals (try (obtain ⟨k, hk, rfl⟩ := List.mem_map.mp hp; have hkm2 := due_lt (sort_mem hk); simp only [rowK] at hx1 hx2; k_dflt have hnk : ((ns.map nameZ).getD k ⟨#[]⟩).length <= 2 := hnl k; k_dflt have huk : (Txt.upper ((ns.map nameZ).getD k ⟨#[]⟩)).length <= 2 := hul k; k_dflt have hmk : SubMark := trivial))); (all_goals (try simp only [List.cons_append] at lN2)); (all_goals (try (have hIt2 := items_same hitems hIt))); all_goals (try k_fold))
 k_with "compareOp NotEq ref ref" => ((rename News g _ _ _ => lN); (k_dflt refine' ne_pairsK (n1 := tl) (n2 := X) (ns := tabZ ns) (ms := tabZ ns) ?n1 ?n2 ?e1 hT ?e2 hIt2 (fun p hp => ⟨plain_ok (hokT p hp).1, plain_ok (hokT p hp).2⟩) (fun p hp => ⟨plain_ok (hokT p hp).1, plain_ok (hokT p hp).2⟩) ?eu ?_); (case n1 => k_dflt exact fun p hp => lN p (List.Mem.tail _ (.tail _ (.tail _ (.tail _ (.tail _ (.tail _ (.tail _ (.tail _ (.tail _ (.tail _ (.tail _ (.tail _ (.tail _ (.tail _ (.tail _ (.tail _ (.tail _ (.tail _ (.tail _ (.tail _ (.tail _ (.tail _ (.tail _ (List.mem_append_left X (List.mem_append_left G (htl p hp))))))))))))))))))))))))))); (case n2 => k_dflt exact fun p hp => lN p (List.Mem.tail _ (.tail _ (.tail _ (.tail _ (.tail _ (.tail _ (.tail _ (.tail _ (.tail _ (.tail _ (.tail _ (.tail _ (.tail _ (.tail _ (.tail _ (.tail _ (.tail _ (.tail _ (.tail _ (.tail _ (.tail _ (.tail _ (.tail _ (List.mem_append_right (R ++ G) hp))))))))))))))))))))))))); (case e1 => k_dflt exact ⟨_, (lN (IT, W.listOf vt.toArray n7) (.tail _ (.head _))).1, rfl, _, rfl⟩); (case e2 => k_dflt exact ⟨_, (lN _ (List.Mem.head _)).1, rfl, _, rfl⟩); (case eu => first | units_room | (show _ + 64 < cLine; lia)))
 k_steps
 k_with_none
 all_goals try ((rename Fr _ _ _ _ => lF3); (rename News _ _ _ _ => lN3); (refine TurnEnd.intro lF3 lN3 (fun p hp => hp) ?_); first | exact ⟨by assumption, _, rfl⟩ | assumption)
 all_goals try (
   (rename Fr g _ _ _ => lF7); (rename News g _ _ _ => lN7); (rename (@LT.lt Nat _ _ _ /\ _) => l1n)
   refine ⟨_, _, [(_, ({ cls := .type "tuple", data := .seq #[.int M tM, .int (k : Int) tkk] } : Obj))], rfl, lF7, fun p hp => lN7 p ?nn, ?oo, row_next hJ hkd hMe⟩
   case nn =>
     rcases List.mem_append.mp hp with hp | hp
     . rw [List.mem_singleton.mp hp]; exact .head _
     . exact .tail _ (.tail _ hp)
   case oo =>
     intro p hp q hq
     rw [List.mem_singleton.mp hp]
     exact Nat.ne_of_lt (allLt_of_mem hq l1n.2))
 all_goals try ((rename (¬ (tabZ _ = tabZ _)) => ha); exact absurd rfl ha)
 all_goals try ((rename Fr g _ _ _ => lF7); (rename News g _ _ _ => lN7); (rename (@LT.lt Nat _ _ _ /\ _) => l1n); exact zend_of lF7 lN7 l1n.2 (gRow_rowK ns k))
 all_goals try (with_unfolding_all refine wpAny_execs_nil ?_)
 all_goals try (
   (rename Fr g _ _ _ => lF7); (rename News g _ _ _ => lN7)
   exact ⟨rfl, _, _, _, rfl, lF7, ⟨by rfl, by rfl, by rfl, by rfl⟩, fun p hp => lN7 p (.tail _ (.tail _ (.tail _ (.tail _ (mem_ins hp)))))⟩)
end partFN
theorem partFH : partFS (gen LPE partFS) := by with_unfolding_all exact @partFN.main
theorem partF {w dp un gd outer A₀ base L s p loose mean mg mb E g sl fa cdv le xe dxe lt xt dxt lr lw ln rp ldu toe tot ta tb tc ve vt vr vw vn vd ne nt nr nw nn nd q1 q2 q3 q4 q5 q6 q7 q8 R tl ns om} : partFQ w dp un gd outer A₀ base L s p loose mean mg mb E g sl fa cdv le xe dxe lt xt dxt lr lw ln rp ldu toe tot ta tb tc ve vt vr vw vn vd ne nt nr nw nn nd q1 q2 q3 q4 q5 q6 q7 q8 R tl ns om := @all_gen LP LPE partFS @partFH { lp0 with w, dp, un, gd, outer, A₀, base, L, s, p, loose, mean, mg, mb, E, g, sl, fa, cdv, le, xe, dxe, lt, xt, dxt, lr, lw, ln, rp, ldu, toe, tot, ta, tb, tc, ve, vt, vr, vw, vn, vd, ne, nt, nr, nw, nn, nd, q1, q2, q3, q4, q5, q6, q7, q8, R, tl, ns, om }
end
noncomputable def pieceL : List Str := ["a", ".", "co.", "", ":", ".."]
noncomputable def pieceZ (x : Int) : Str := pieceL.getD (((x.fmod 1000000).fdiv 7).fmod 6).toNat ⟨#[]⟩
theorem fm6 (c : Int) : 0 <= c.fmod 6 /\ c.fmod 6 < 6 := fm c 6 (by decide)
theorem piece_len (x : Int) : (pieceZ x).length <= 3 := by
 have key : ∀ k, k < 7 -> (pieceL.getD k ⟨#[]⟩).length <= 3 := by decide
 have := fm6 ((x.fmod 1000000).fdiv 7)
 exact key _ (by lia)
theorem pieceL_len : pieceL.length <= 8 := by decide
theorem pieceL_each : ∀ c ∈ pieceL, c.length <= 8 := by decide
noncomputable def longZ (script : List Int) : Str := Txt.join "" ((script.take 8).map pieceZ) ++ Str.ofString "co:"
theorem pieces_sum (ks : List Int) (h : ks.length <= 8) : ((ks.map pieceZ).map (·.length)).sum <= 24 := by
 have := len_sum (l := ks.map pieceZ) (n := 3) (fun c hc => by obtain ⟨x, _, rfl⟩ := List.mem_map.mp hc; exact piece_len x)
 rw [List.length_map] at this
 lia
section
open PyProof.Rows.LCg
variable {prog : Program} {w : World} {A : Around} {s : Shared} {h₀ : Heap} {L : Addr} {m : Str -> Option Value} {env : Env}
theorem intTurnsU {elt : Expr} {x : Str} {scope : Scope} {cl : List (Str × Addr)} {S : List (Addr × Obj) -> Prop} {Fin : List Value -> List (Addr × Obj) -> Prop} {news : List (Addr × Obj)} {us : List Value} {ks : List Int} (f : Int -> Str) (hus : IntsAre us ks) (hS : S news)
   (turn : ∀ (k : Int) (t : Tok) ys I oI C oC D m₂ h tk (E' : Value -> Shared -> Prop), NsObj oC m₂ -> m₂ x = some (.int k t) -> Fr h₀ L h m -> News h₀ L h ((I, oI) :: (C, oC) :: (D, lst ys) :: news) -> Off3 I C D news -> ((@Ne Nat I C) /\ (@Ne Nat I D) /\ (@Ne Nat C D)) ->
     wpAny (model prog w) A (eval elt (compEnvC scope cl C env)) (TurnEnd h₀ L m { s with heap := h, toks := tk } ((I, oI) :: (C, oC) :: (D, lst ys) :: news) (fun y => ∃ t', y = .str (f k) t')) E' { s with heap := h, toks := tk })
   (fin : ∀ ys, StrsAre ys (ks.map f) -> Fin ys news) : CompRest prog w A h₀ L m env elt x scope cl s S (fun i v => us.toArray[i]? = some v) Fin us.toArray.size 0 [] news := by
 refine turnsU (fun pre ys => StrsAre ys ((ks.take pre.length).map f)) hS .nil ?_ ?_
 . intro pre v post ys I oI C oC D m₂ h tk E' e hJ hO hx F N off hne
   obtain ⟨k, t, rfl, hk⟩ := ints_item (i := pre.length) (v := v) hus (by rw [e]; simp)
   refine wpAny_mono (turn k t ys I oI C oC D m₂ h tk E' hO hx F N off hne) (fun y s'' r => ?_) fun _ _ e => e
   (revert r; refine xq2 fun h' tk2 => ?_; refine aq4 fun e' F' N' => ?_; refine xq1 fun t' => ?_; rintro rfl)
   refine ⟨h', tk2, e', F', N', ?_⟩
   rw [List.length_append, List.length_singleton, List.take_add_one, hk, List.map_append]
   exact StrsAre.append' hJ (.cons _ _ .nil)
 . intro ys hJ
   have hl : us.length = ks.length := IntsAre.length hus
   rw [List.take_of_length_le (by rw [hl]; exact Nat.le_refl _)] at hJ
   exact fin ys hJ
end
theorem fm6' (c : Int) : c.fmod 6 < (pieceL.length : Int) := by
 have := fm6 c
 have e : pieceL.length = 6 := rfl
 lia
theorem take8_len {us : List Value} {script : List Int} (h : IntsAre us (script.take 8)) : us.toArray.size <= sizeLine := by
 have h1 : us.length = (script.take 8).length := IntsAre.length h
 rw [List.length_take] at h1
 rw [sizeLine_eq, List.size_toArray]; lia
theorem sum8 (script : List Int) : (((script.take 8).map pieceZ).map (·.length)).sum <= 4096 := by
 have := pieces_sum (script.take 8) (by rw [List.length_take]; lia)
 lia
theorem piece_eq {x : Int} {y : Str} (e : y = pieceL.getD (((x.fmod 1000000).fdiv 7).fmod 6).toNat ⟨#[]⟩) : y = pieceZ x := e
section
noncomputable abbrev partGQ (w : World) (dp un : Nat) (gd : Option (List Code)) (outer : List Env) (A₀ : Around) (base : Heap) (L : Addr) (s : Shared) (p : Program) (loose : List Str) (mean : ExcName -> Option Value) (mg mb : Str -> Option Value) (E : Value -> Shared -> Prop) (g : Heap) (sl fa : Addr) (cdv : Value) (le xe dxe lt xt dxt lr lw ln rp ldu : Addr) (toe tot ta tb tc : Tok) (ve vt vr vw vn vd : List Value) (ne nt nr nw nn nd : Nat) (q1 q2 q3 q4 q5 q6 q7 q8 : Obj) (R tl : List (Addr × Obj)) (ns : List Int) (om : Str -> Option Value) (vs : List Value) (script : List Int) : Prop := ∀ {scope : Scope} {lb : List Stmt} (hlb : ((fdB (stm pw_sr0088_01 22)).drop 8).take 1 = lb) (hsc : fdS (stm pw_sr0088_01 22) = scope) (hE : PassesOwn (model pw_sr0088_01 w) (ktrTop dp un gd "law" scope L fa cdv (cellsFrom (L + 1) scope.names []) outer) (envOfC "law" scope L fa cdv) E) (C : Cx w dp un scope outer A₀ base g L (fun (y : Str) => if y = "places" then some (.ref rp) else if y = "over" then om y else if y = "rows" then om y else if y = "longer" then om y else if y = "caught" then om y else if y = "taken" then om y else if y = "table" then some (.ref xt) else if y = "every" then some (.ref xe) else if y = "script" then some (.ref sl) else om y) s.heap p loose mean mg mb 40) (N : News g L s.heap ((ldu, W.listOf vd.toArray nd) :: (rp, rngObj (ns.length : Int) ta tb tc) :: (le, W.listOf ve.toArray ne) :: (xe, instObj 182 dxe) :: (dxe, hdD w.params toe le) :: (lt, W.listOf vt.toArray nt) :: (xt, instObj 182 dxt) :: (dxt, hdD w.params tot lt) :: (lr, W.listOf vr.toArray nr) :: (lw, W.listOf vw.toArray nw) :: (ln, W.listOf vn.toArray nn) :: (L + 1 + 1 + 1 + 1 + 1 + 1 + 1 + 1, q8) :: (L + 1 + 1 + 1 + 1 + 1 + 1 + 1, q7) :: (L + 1 + 1 + 1 + 1 + 1 + 1, q6) :: (L + 1 + 1 + 1 + 1 + 1, q5) :: (L + 1 + 1 + 1 + 1, q4) :: (L + 1 + 1 + 1, q3) :: (L + 1 + 1, q2) :: (L + 1, q1) :: R)) (offR : OwnOff R [ldu, rp, le, xe, dxe, lt, xt, dxt, lr, lw, ln, L + 1 + 1 + 1 + 1 + 1 + 1 + 1 + 1, L + 1 + 1 + 1 + 1 + 1 + 1 + 1, L + 1 + 1 + 1 + 1 + 1 + 1, L + 1 + 1 + 1 + 1 + 1, L + 1 + 1 + 1 + 1, L + 1 + 1 + 1, L + 1 + 1, L + 1]) (hord : (@LT.lt Nat _ (L + 1 + 1 + 1 + 1 + 1 + 1 + 1 + 1) ln) /\ (@LT.lt Nat _ ln lw) /\ (@LT.lt Nat _ lw lr) /\ (@LT.lt Nat _ lr dxt) /\ (@LT.lt Nat _ dxt xt) /\ (@LT.lt Nat _ xt lt) /\ (@LT.lt Nat _ lt dxe) /\ (@LT.lt Nat _ dxe xe) /\ (@LT.lt Nat _ xe le) /\ (@LT.lt Nat _ le rp) /\ (@LT.lt Nat _ rp ldu)) (d1 : q1.data = Data.cell (some (Value.ref ln))) (d2 : q2.data = Data.cell (some (Value.ref lw))) (d3 : q3.data = Data.cell (some (Value.ref lr))) (d5 : q5.data = Data.cell (some (Value.ref ldu))) (hns : ns.length <= 6) (hvn : StrsAre vn (ns.map nameZ)) (hvw : StrsAre vw (ns.map wantZ)) (hvd : NatsAre vd (dueZ ns)) (hsl : g.IsList sl vs.toArray) (hI : IntsAre vs script) (hlen : script.length <= 63), wpAny (model pw_sr0088_01 w) (ktrTop dp un gd "law" scope L fa cdv (cellsFrom (L + 1) scope.names []) outer) (execs lb (envOfC "law" scope L fa cdv)) (fun f s' => f = .next /\ Hold (∃ (h' : Heap) (tk' : Nat) (m' : Str -> Option Value), s' = { s with heap := h', toks := tk' } /\ Fr g L h' m' /\ Loc2 rp xt xe sl m' /\ (News g L h' ((ldu, W.listOf vd.toArray nd) :: (rp, rngObj (ns.length : Int) ta tb tc) :: (le, W.listOf ve.toArray ne) :: (xe, instObj 182 dxe) :: (dxe, hdD w.params toe le) :: (lt, W.listOf vt.toArray nt) :: (xt, instObj 182 dxt) :: (dxt, hdD w.params tot lt) :: (lr, W.listOf vr.toArray nr) :: (lw, W.listOf vw.toArray nw) :: (ln, W.listOf vn.toArray nn) :: (L + 1 + 1 + 1 + 1 + 1 + 1 + 1 + 1, q8) :: (L + 1 + 1 + 1 + 1 + 1 + 1 + 1, q7) :: (L + 1 + 1 + 1 + 1 + 1 + 1, q6) :: (L + 1 + 1 + 1 + 1 + 1, q5) :: (L + 1 + 1 + 1 + 1, q4) :: (L + 1 + 1 + 1, q3) :: (L + 1 + 1, q2) :: (L + 1, q1) :: R) /\ ∃ tlo, m' "longer" = some (.str (longZ script) tlo)))) E s
noncomputable def partGS (x : LP) : Prop := partGQ x.w x.dp x.un x.gd x.outer x.A₀ x.base x.L x.s x.p x.loose x.mean x.mg x.mb x.E x.g x.sl x.fa x.cdv x.le x.xe x.dxe x.lt x.xt x.dxt x.lr x.lw x.ln x.rp x.ldu x.toe x.tot x.ta x.tb x.tc x.ve x.vt x.vr x.vw x.vn x.vd x.ne x.nt x.nr x.nw x.nn x.nd x.q1 x.q2 x.q3 x.q4 x.q5 x.q6 x.q7 x.q8 x.R x.tl x.ns x.om x.vs x.script
@[irreducible] noncomputable def partGC : LP := gen LPE partGS
namespace partGN
noncomputable section
 def p := partGC.p
 def g := partGC.g
 def script := partGC.script
end
theorem main : partGQ partGC.w partGC.dp partGC.un partGC.gd partGC.outer partGC.A₀ partGC.base partGC.L partGC.s p partGC.loose partGC.mean partGC.mg partGC.mb partGC.E g partGC.sl partGC.fa partGC.cdv partGC.le partGC.xe partGC.dxe partGC.lt partGC.xt partGC.dxt partGC.lr partGC.lw partGC.ln partGC.rp partGC.ldu partGC.toe partGC.tot partGC.ta partGC.tb partGC.tc partGC.ve partGC.vt partGC.vr partGC.vw partGC.vn partGC.vd partGC.ne partGC.nt partGC.nr partGC.nw partGC.nn partGC.nd partGC.q1 partGC.q2 partGC.q3 partGC.q4 partGC.q5 partGC.q6 partGC.q7 partGC.q8 partGC.R partGC.tl partGC.ns partGC.om partGC.vs script := by
 intro scope lb hlb hsc
 have hlb1 := hlb
 have hsc1 := hsc
 conv at hlb => lhs; whnf
 conv at hsc => lhs; whnf
 subst hlb hsc
 intro hE C N offR hord d1 d2 d3 d5 hns hvn hvw hvd hsl hI hlen
 obtain ⟨B', F', X', T', hk', hd', hu'⟩ := C
 (revert hord; refine aq9 fun r1 r2 r3 r4 r5 r6 r7 r8 => ?_; refine aq3 fun r9 r10 => ?_; intro r11)
 (try dsimp only)
 (try k_fold)
 k_with "eval ListComp" => (lct_look; lcg_calm; k_dflt (refine PyProof.Rows.LCg.ListComp_U (F₀ := by k_asm) (by with_unfolding_all rfl) (by decide) (by rfl) (by decide) (by rfl) ?_))
 k_with "CompSrc" => ((rename Fr g _ _ _ => lF); (rename News g _ _ _ => lN); (rename IntsAre _ (List.take 8 script) => hI8); (k_dflt refine' PyProof.Rows.LCg.CompSrc.ledger ?ch lF lN (List.Mem.head _) (take8_len hI8) (fun g2 => intTurnsU pieceZ hI8 (.inr ⟨_, List.Mem.head _, rfl, _, rfl⟩) (fun k t ys I oI C oC D m₂ h tk E' hO hx lF2 lN2 off hne => ?_) (fun us1 hJ1 D1 h3 tk3 lF3 lN3 o1 => ?_))); (case ch => with_unfolding_all rfl); all_goals (try k_fold))
 k_with "subscriptTail" => ((with_reducible show wpAny _ _ (subscriptTail _ _ _ (Value.int (Int.fmod _ _) _)) _ _ _); (rename News g _ _ _ => lN); (k_dflt refine' item_strsN (cs := pieceL) lN (List.Mem.head _) (.cons _ _ (.cons _ _ (.cons _ _ (.cons _ _ (.cons _ _ (.cons _ _ .nil)))))) (fm6 _).1 (fm6' _) pieceL_len pieceL_each ?_ ?ks); (case ks => with_unfolding_all rfl); (intro pw tpw epw hpw; (have epw2 := piece_eq epw); clear epw; subst epw2))
 k_with "call builtin:str.join" => ((rename News g _ _ _ => lN); (k_dflt refine' join_strs lN ?jm hJ1 (sum8 script) (by decide) ?_); (case jm => k_dflt k_mem); (intro lng tlng _ elng hlng; subst elng))
 k_steps
 k_with_none
 all_goals try ((rename Fr _ _ _ _ => lF3); (rename News _ _ _ _ => lN3); (refine TurnEnd.intro lF3 lN3 (fun p hp => .tail _ hp) ?_); exact ⟨_, rfl⟩)
 all_goals try (with_unfolding_all refine wpAny_execs_nil ?_)
 (rename Fr g _ _ _ => lF7); (rename News g _ _ _ => lN7)
 exact ⟨rfl, _, _, _, rfl, lF7, ⟨by rfl, by rfl, by rfl, by rfl⟩, fun p hp => lN7 p (by repeat (first | exact hp | refine List.Mem.tail _ ?_)), _, by rfl⟩
end partGN
theorem partGH : partGS (gen LPE partGS) := by with_unfolding_all exact @partGN.main
theorem partG {w dp un gd outer A₀ base L s p loose mean mg mb E g sl fa cdv le xe dxe lt xt dxt lr lw ln rp ldu toe tot ta tb tc ve vt vr vw vn vd ne nt nr nw nn nd q1 q2 q3 q4 q5 q6 q7 q8 R tl ns om vs script} : partGQ w dp un gd outer A₀ base L s p loose mean mg mb E g sl fa cdv le xe dxe lt xt dxt lr lw ln rp ldu toe tot ta tb tc ve vt vr vw vn vd ne nt nr nw nn nd q1 q2 q3 q4 q5 q6 q7 q8 R tl ns om vs script := @all_gen LP LPE partGS @partGH { lp0 with w, dp, un, gd, outer, A₀, base, L, s, p, loose, mean, mg, mb, E, g, sl, fa, cdv, le, xe, dxe, lt, xt, dxt, lr, lw, ln, rp, ldu, toe, tot, ta, tb, tc, ve, vt, vr, vw, vn, vd, ne, nt, nr, nw, nn, nd, q1, q2, q3, q4, q5, q6, q7, q8, R, tl, ns, om, vs, script }
end
noncomputable def allN (its : List (Str × Str)) (un : Str) : List Str := (its.filter (fun kv => Txt.lower kv.1 == Txt.lower un)).map (·.2)
noncomputable def caughtZ (ns : List Int) (un msg : Str) : List Str := (allN (tabZ ns) un).filter (fun z => ellZ z msg)
noncomputable def takenB (ns : List Int) (un msg : Str) (k : Nat) : Bool := (nmA ns k == Txt.lower un) && takeZ (wtA ns k) msg
noncomputable def takenZ (ns : List Int) (un msg : Str) : List Nat := (List.range ns.length).filter (takenB ns un msg)
noncomputable def everZ (ns : List Int) (un : Str) : List Str := ((List.range ns.length).filter (fun k => nmA ns k == Txt.lower un)).map (wtA ns)
theorem takenB_t {ns : List Int} {un msg : Str} {k : Nat} (h1 : (nmA ns k == Txt.lower un) = true) (h2 : takeZ (wtA ns k) msg = true) : takenB ns un msg k = true := by unfold takenB; rw [h1, h2]; rfl
theorem takenB_1 {ns : List Int} {un msg : Str} {k : Nat} (h1 : (nmA ns k == Txt.lower un) = false) : takenB ns un msg k = false := by unfold takenB; rw [h1]; rfl
theorem takenB_2 {ns : List Int} {un msg : Str} {k : Nat} (h2 : takeZ (wtA ns k) msg = false) : takenB ns un msg k = false := by unfold takenB; rw [h2]; simp
noncomputable def isTx (f : Nat -> Str) (k : Nat) (v : Value) : Prop := ∃ t, v = .str (f k) t
theorem txs_of {f : Nat -> Str} : ∀ {ks : List Nat} {ys : List Value}, All2 (isTx f) ks ys -> StrsAre ys (ks.map f)
 | [], _, .nil => .nil
 | _ :: _, _, .cons ⟨t, e⟩ r => by rw [e]; exact .cons _ t (txs_of r)
theorem ever_plain {ns : List Int} {un : Str} (h : ∀ k, PlainT (wtA ns k)) : ∀ z ∈ everZ ns un, PyData.strOk z = true := by
 intro z hz
 obtain ⟨k, _, rfl⟩ := List.mem_map.mp hz
 exact plain_ok (h k)
theorem caught_plain {ns : List Int} {un msg : Str} (h : ∀ z ∈ allN (tabZ ns) un, z.length <= 16 /\ PlainT z) : ∀ z ∈ (allN (tabZ ns) un).filter (fun z => ellZ z msg), PyData.strOk z = true := fun z hz => plain_ok (h z (List.mem_filter.mp hz).1).2
theorem us_len {us : List Value} {ns : List Int} {vt : List Value} {un : Str} {tl : List (Addr × Obj)} (h : StrsAre us (allN (tabZ ns) un)) (hT : HItL tl vt (tabZ ns)) (hv : vt.length <= 32) : us.toArray.size <= sizeLine := by
 have h1 := h.length
 unfold allN at h1
 rw [List.length_map] at h1
 have h2 := List.length_filter_le (fun kv : Str × Str => Txt.lower kv.1 == Txt.lower un) (tabZ ns)
 have h3 := hT.len
 rw [sizeLine_eq, List.size_toArray]; lia
section
noncomputable abbrev turnHQ (w : World) (dp un : Nat) (gd : Option (List Code)) (outer : List Env) (A₀ : Around) (base : Heap) (L : Addr) (s : Shared) (p : Program) (loose : List Str) (mean : ExcName -> Option Value) (mg mb : Str -> Option Value) (E : Value -> Shared -> Prop) (g : Heap) (sl fa : Addr) (cdv : Value) (le xe dxe lt xt dxt lr lw ln rp ldu : Addr) (toe tot ta tb tc : Tok) (ve vt vr vw vn vd : List Value) (ne nt nr nw nn nd : Nat) (q1 q2 q3 q4 q5 q6 q7 q8 : Obj) (R tl : List (Addr × Obj)) (ns : List Int) (om : Str -> Option Value) (un7 msg : Str) (tu tm : Tok) (Q : Flow -> Shared -> Prop) : Prop := ∀ {scope : Scope} {lb : List Stmt} (hlb : forBody ((fdB (stm pw_sr0088_01 22)).getD 9 (.Pass default)) = lb) (hsc : fdS (stm pw_sr0088_01 22) = scope) (hE : PassesOwn (model pw_sr0088_01 w) (ktrTop dp un gd "law" scope L fa cdv (cellsFrom (L + 1) scope.names []) outer) (envOfC "law" scope L fa cdv) E) (C : Cx w dp un scope outer A₀ base g L (fun (y : Str) => if y = "places" then some (.ref rp) else if y = "over" then om y else if y = "rows" then om y else if y = "longer" then om y else if y = "caught" then om y else if y = "taken" then om y else if y = "table" then some (.ref xt) else if y = "every" then some (.ref xe) else if y = "script" then some (.ref sl) else om y) s.heap p loose mean mg mb 40) (N : News g L s.heap ((ldu, W.listOf vd.toArray nd) :: (rp, rngObj (ns.length : Int) ta tb tc) :: (le, W.listOf ve.toArray ne) :: (xe, instObj 182 dxe) :: (dxe, hdD w.params toe le) :: (lt, W.listOf vt.toArray nt) :: (xt, instObj 182 dxt) :: (dxt, hdD w.params tot lt) :: (lr, W.listOf vr.toArray nr) :: (lw, W.listOf vw.toArray nw) :: (ln, W.listOf vn.toArray nn) :: (L + 1 + 1 + 1 + 1 + 1 + 1 + 1 + 1, q8) :: (L + 1 + 1 + 1 + 1 + 1 + 1 + 1, q7) :: (L + 1 + 1 + 1 + 1 + 1 + 1, q6) :: (L + 1 + 1 + 1 + 1 + 1, q5) :: (L + 1 + 1 + 1 + 1, q4) :: (L + 1 + 1 + 1, q3) :: (L + 1 + 1, q2) :: (L + 1, q1) :: R)) (offR : OwnOff R [ldu, rp, le, xe, dxe, lt, xt, dxt, lr, lw, ln, L + 1 + 1 + 1 + 1 + 1 + 1 + 1 + 1, L + 1 + 1 + 1 + 1 + 1 + 1 + 1, L + 1 + 1 + 1 + 1 + 1 + 1, L + 1 + 1 + 1 + 1 + 1, L + 1 + 1 + 1 + 1, L + 1 + 1 + 1, L + 1 + 1, L + 1]) (hord : (@LT.lt Nat _ (L + 1 + 1 + 1 + 1 + 1 + 1 + 1 + 1) ln) /\ (@LT.lt Nat _ ln lw) /\ (@LT.lt Nat _ lw lr) /\ (@LT.lt Nat _ lr dxt) /\ (@LT.lt Nat _ dxt xt) /\ (@LT.lt Nat _ xt lt) /\ (@LT.lt Nat _ lt dxe) /\ (@LT.lt Nat _ dxe xe) /\ (@LT.lt Nat _ xe le) /\ (@LT.lt Nat _ le rp) /\ (@LT.lt Nat _ rp ldu)) (d1 : q1.data = Data.cell (some (Value.ref ln))) (d2 : q2.data = Data.cell (some (Value.ref lw))) (d3 : q3.data = Data.cell (some (Value.ref lr))) (d7 : q7.data = Data.cell (some (Value.str un7 tu))) (d8 : q8.data = Data.cell (some (Value.str msg tm))) (hns : ns.length <= 6) (hvn : StrsAre vn (ns.map nameZ)) (hvw : StrsAre vw (ns.map wantZ)) (htl : ∀ p ∈ tl, p ∈ R) (hrd : RdsL w tl vr (ns.map wantZ)) (hokA : ∀ j, j < ns.length -> okW (wtA ns j) = true /\ stayOf (wtA ns j) < 2 ^ 20) (hun : un7.length <= 16) (hulo : PlainT (Txt.lower un7)) (hulo2 : (Txt.lower un7).length <= 64) (hmsg : msg.length <= 64) (hT : HItL tl vt (tabZ ns)) (hTv : vt.length <= 32) (hTl : ∀ p ∈ tabZ ns, p.1.length <= 16) (hTz : ∀ z ∈ allN (tabZ ns) un7, z.length <= 16 /\ PlainT z) (hEv : HItL tl ve (evZ ns)) (hEvv : ve.length <= 32) (hEvl : ∀ p ∈ evZ ns, p.1.length <= 16) (hWp : ∀ k, PlainT (wtA ns k)) (hct : decide (caughtZ ns un7 msg = []) = decide ((takenZ ns un7 msg).map (fun (j : Nat) => (j : Int)) = [])) (hev : allN (evZ ns) un7 = everZ ns un7), wpAny (model pw_sr0088_01 w) (ktrTop dp un gd "law" scope L fa cdv (cellsFrom (L + 1) scope.names []) outer) (execs lb (envOfC "law" scope L fa cdv)) (fun f s' => f = .next /\ Hold (∃ (h' : Heap) (tk' : Nat) (m' : Str -> Option Value), s' = { s with heap := h', toks := tk' } /\ Fr g L h' m' /\ Loc2 rp xt xe sl m' /\ News g L h' ((ldu, W.listOf vd.toArray nd) :: (rp, rngObj (ns.length : Int) ta tb tc) :: (le, W.listOf ve.toArray ne) :: (xe, instObj 182 dxe) :: (dxe, hdD w.params toe le) :: (lt, W.listOf vt.toArray nt) :: (xt, instObj 182 dxt) :: (dxt, hdD w.params tot lt) :: (lr, W.listOf vr.toArray nr) :: (lw, W.listOf vw.toArray nw) :: (ln, W.listOf vn.toArray nn) :: (L + 1 + 1 + 1 + 1 + 1 + 1 + 1 + 1, q8) :: (L + 1 + 1 + 1 + 1 + 1 + 1 + 1, q7) :: (L + 1 + 1 + 1 + 1 + 1 + 1, q6) :: (L + 1 + 1 + 1 + 1 + 1, q5) :: (L + 1 + 1 + 1 + 1, q4) :: (L + 1 + 1 + 1, q3) :: (L + 1 + 1, q2) :: (L + 1, q1) :: R))) E s
noncomputable def turnHS (x : LP) : Prop := turnHQ x.w x.dp x.un x.gd x.outer x.A₀ x.base x.L x.s x.p x.loose x.mean x.mg x.mb x.E x.g x.sl x.fa x.cdv x.le x.xe x.dxe x.lt x.xt x.dxt x.lr x.lw x.ln x.rp x.ldu x.toe x.tot x.ta x.tb x.tc x.ve x.vt x.vr x.vw x.vn x.vd x.ne x.nt x.nr x.nw x.nn x.nd x.q1 x.q2 x.q3 x.q4 x.q5 x.q6 x.q7 x.q8 x.R x.tl x.ns x.om x.un7 x.msg x.tu x.tm x.Qx1
@[irreducible] noncomputable def turnHC : LP := gen LPE turnHS
namespace turnHN
noncomputable section
 def p := turnHC.p
 def g := turnHC.g
 def xe := turnHC.xe
 def xt := turnHC.xt
 def rp := turnHC.rp
 def toe := turnHC.toe
 def tot := turnHC.tot
 def ta := turnHC.ta
 def tb := turnHC.tb
 def tc := turnHC.tc
 def ve := turnHC.ve
 def vt := turnHC.vt
 def vr := turnHC.vr
 def ne := turnHC.ne
 def nt := turnHC.nt
 def tl := turnHC.tl
 def ns := turnHC.ns
 def un7 := turnHC.un7
 def msg := turnHC.msg
end
theorem main : turnHQ turnHC.w turnHC.dp turnHC.un turnHC.gd turnHC.outer turnHC.A₀ turnHC.base turnHC.L turnHC.s p turnHC.loose turnHC.mean turnHC.mg turnHC.mb turnHC.E g turnHC.sl turnHC.fa turnHC.cdv turnHC.le xe turnHC.dxe turnHC.lt xt turnHC.dxt turnHC.lr turnHC.lw turnHC.ln rp turnHC.ldu toe tot ta tb tc ve vt vr turnHC.vw turnHC.vn turnHC.vd ne nt turnHC.nr turnHC.nw turnHC.nn turnHC.nd turnHC.q1 turnHC.q2 turnHC.q3 turnHC.q4 turnHC.q5 turnHC.q6 turnHC.q7 turnHC.q8 turnHC.R tl ns turnHC.om un7 msg turnHC.tu turnHC.tm turnHC.Qx1 := by
 intro scope lb hlb hsc
 conv at hlb => lhs; whnf
 conv at hsc => lhs; whnf
 subst hlb hsc
 intro hE C N offR hord d1 d2 d3 d7 d8 hns hvn hvw htl hrd hokA hun hulo hulo2 hmsg hT hTv hTl hTz hEv hEvv hEvl hWp hct hev
 obtain ⟨B', F', X', T', hk', hd', hu'⟩ := C
 (revert hord; refine aq9 fun r1 r2 r3 r4 r5 r6 r7 r8 => ?_; refine aq3 fun r9 r10 => ?_; intro r11)
 have hrl : vr.length = ns.length := by rw [hrd.len, List.length_map]
 (try dsimp only)
 (try k_fold)
 k_with "call ref" => ((rename Fr g _ _ _ => lF); (rename News g _ _ _ => lN); first
   | ((k_dflt refine' getall_ok (x := xt) (to := tot) (n := nt) (vs := vt) (its := tabZ ns) (by omega) (by omega) hun hulo hulo2 ?hi ?hv ?hl (Cx.le ⟨B', lF, X', T', hk', hd', hu'⟩ (by decide)) (N := ?kN) ?_); (case hi => k_dflt exact hT.heap (fun p hp => lN p (by repeat (first | exact htl p hp | refine List.Mem.tail _ ?_)))); (case hv => exact Nat.le_trans hTv (by decide)); (case hl => exact hTl); (case kN => exact News.sub3 lN (by k_dflt k_mem) (by k_dflt k_mem) (by k_dflt k_mem)); (intro h7 tk7 r7 us7 kk fr hus7; have hr7 := freshNe lN fr; (try simp only [AllNe] at hr7); have lF2 := frKeep lF kk; have lN2 := newsFresh lF lN kk fr; (try simp only [List.cons_append, List.nil_append] at lN2); clear kk fr); k_whole)
   | ((k_dflt refine' getall_ok (x := xe) (to := toe) (n := ne) (vs := ve) (its := evZ ns) (by omega) (by omega) hun hulo hulo2 ?hi ?hv ?hl (Cx.le ⟨B', lF, X', T', hk', hd', hu'⟩ (by decide)) (N := ?kN) ?_); (case hi => k_dflt exact hEv.heap (fun p hp => lN p (by repeat (first | exact htl p hp | refine List.Mem.tail _ ?_)))); (case hv => exact Nat.le_trans hEvv (by decide)); (case hl => exact hEvl); (case kN => exact News.sub3 lN (by k_dflt k_mem) (by k_dflt k_mem) (by k_dflt k_mem)); (intro h7 tk7 r7 us7 kk fr hus7; have hr7 := freshNe lN fr; (try simp only [AllNe] at hr7); have lF2 := frKeep lF kk; have lN2 := newsFresh lF lN kk fr; (try simp only [List.cons_append, List.nil_append] at lN2); clear kk fr); k_whole)
   | ((k_dflt refine' ell_ok (by first | assumption | exact hz.1) hmsg (Cx.le ⟨B', lF, X', T', hk', hd', hu'⟩ (by decide)) ?_); (intro h2 tk2 b eb kk; have lN2 := newsKeep lN kk; have lF2 := frKeep lF kk; clear kk); k_whole)
   | ((k_dflt refine' takes_led (tl := tl) ?hh ?hR ?hok ?hst (Cx.le ⟨B', lF, X', T', hk', hd', hu'⟩ (by decide)) ?_); (case hR => assumption); (case hh => (intro p hp; refine (lN p ?_).1; repeat (first | exact htl p hp | refine List.Mem.tail _ ?_))); (case hok => exact (hokA _ (by first | assumption | lia)).1); (case hst => exact (hokA _ (by first | assumption | lia)).2); (intro h2 tk2 kk; have lN2 := newsKeep lN kk; have lF2 := frKeep lF kk; clear kk); k_whole))
 k_with "subscriptTail" => ((rename News g _ _ _ => lN); first
   | ((k_dflt refine' item_strAt lN ?m hvn ?h1 ?h2 ?_ ?ks); (case m => k_dflt k_mem); (case h1 => (rw [List.length_map]; first | assumption | lia)); (case h2 => (rw [List.length_map]; first | exact Nat.le_trans hns (by decide) | lia)); (case ks => with_unfolding_all rfl); intro _)
   | ((k_dflt refine' item_strAt lN ?m hvw ?h1 ?h2 ?_ ?ks); (case m => k_dflt k_mem); (case h1 => (rw [List.length_map]; first | assumption | lia)); (case h2 => (rw [List.length_map]; first | exact Nat.le_trans hns (by decide) | lia)); (case ks => with_unfolding_all rfl); intro _)
   | ((k_dflt refine' item_at (vs := vr) lN ?m ?h1 ?h2 ?_ ?ks); (case m => k_dflt k_mem); (case h1 => (rw [hrl]; first | assumption | lia)); (case h2 => (rw [hrl]; first | exact Nat.le_trans hns (by decide) | lia)); (case ks => with_unfolding_all rfl); (intro rv hrv; obtain ⟨rdd, rfl, hRd⟩ := RdsL.rdAt hrd hrv))
   | ((k_dflt refine' sub3_led (tl := tl) ?hh ?hR ?_ ?ks); (case hR => assumption); (case hh => (intro p hp; refine (lN p ?_).1; repeat (first | exact htl p hp | refine List.Mem.tail _ ?_))); (case ks => with_unfolding_all rfl); intro _))
 k_with "exec Assign cons ListComp" => (lct_look; lcg_calm; k_dflt (refine PyProof.Rows.LCt.Assign_ListComp_T (F₀ := by k_asm) (by rfl) (by with_unfolding_all rfl) (by with_unfolding_all rfl) (by decide) (by rfl) (by decide) (by rfl) (by rfl) (by rfl) ?_))
 k_with "eval ListComp" => (k_dflt (refine PyProof.Rows.LCt.ListComp_T (F₀ := by k_asm) (by with_unfolding_all rfl) (by decide) (by rfl) (by decide) (by rfl) ?_))
 k_with "CompSrcT" => ((rename Fr g _ _ _ => lF); (rename News g _ _ _ => lN); (first
   | ((fail_if_success (have hq : Done2 := by assumption)); (k_dflt refine' PyProof.Rows.LCt.CompSrcT.ledger ?ch lF lN ?cm (us_len hus7 hT hTv) (fun g2 => keepTurns (KS := allN (tabZ ns) un7) (fun z => ellZ z msg) (fun z => z.length <= 16 /\ PlainT z) hTz hus7 (.inr ⟨_, by k_dflt k_mem, rfl, _, rfl⟩) (fun z t ys I oI C oC D m₂ h tk E' hz hO hx lF2 lN2 off hne => ?_) (fun hdone us1 hJ1 => ?_))); (case cm => k_dflt k_mem))
   | ((fail_if_success (have hq := hJ2)); (k_dflt refine' PyProof.Rows.LCt.CompSrcT.range (t := ta) (u := tb) (v := tc) ?ch lF lN ?hr (rng_small hns) (rng_size _) ?cz (fun g2 => rangeTurns (fun _ => True) (fun _ _ => trivial) (takenB ns un7 msg) isNat (fun i t ys I oI C oC D m₂ h tk E' hi _ hO hx lF2 lN2 off hne => ?_) (fun us2 hJ2 => ?_))); (case hr => k_dflt exact (lN (rp, rngObj (ns.length : Int) ta tb tc) (by k_dflt k_mem)).1); (case cz => (rw [sizeLine_eq]; exact Nat.le_trans hns (by decide))))
   | ((k_dflt refine' PyProof.Rows.LCt.CompSrcT.range (t := ta) (u := tb) (v := tc) ?ch lF lN ?hr (rng_small hns) (rng_size _) ?cz (fun g2 => rangeTurns (fun _ => True) (fun _ _ => trivial) (fun k => nmA ns k == Txt.lower un7) (isTx (wtA ns)) (fun i t ys I oI C oC D m₂ h tk E' hi _ hO hx lF2 lN2 off hne => ?_) (fun us3 hJ3 => ?_))); (case hr => k_dflt exact (lN (rp, rngObj (ns.length : Int) ta tb tc) (by k_dflt k_mem)).1); (case cz => (rw [sizeLine_eq]; exact Nat.le_trans hns (by decide))))); (case ch => with_unfolding_all rfl); all_goals (try k_fold))
 k_with "call builtin:str.lower" => (refine SCL.lower (by lia) ?_)
 k_with "compareOp Eq ref ref" => ((rename News g _ _ _ => lN); first
   | ((k_dflt refine' eq_strsK (vs := us1) ?e1 hJ1 ?e2 .nil (caught_plain hTz) (fun n hn => nomatch hn) ?eu ?_); (case e1 => k_dflt exact ⟨_, (lN (_, PyProof.Rows.LCg.lst us1) (by k_dflt k_mem)).1, rfl, _, rfl⟩); (case e2 => k_dflt exact ⟨_, (lN _ (List.Mem.head _)).1, rfl, _, rfl⟩); (case eu => first | units_room | (show _ + 64 < cLine; lia)))
   | ((k_dflt refine' eq_intsK ?e1 (nats_of hJ2) ?e2 .nil ?eu ?_); (case e1 => k_dflt exact ⟨_, (lN (_, PyProof.Rows.LCg.lst us2) (by k_dflt k_mem)).1, rfl, _, rfl⟩); (case e2 => k_dflt exact ⟨_, (lN _ (List.Mem.head _)).1, rfl, _, rfl⟩); (case eu => first | units_room | (show _ + 64 < cLine; lia))))
 k_with "compareOp NotEq ref ref" => ((rename News g _ _ _ => lN); (k_dflt refine' ne_strsK (ns := allN (evZ ns) un7) (ms := everZ ns un7) ?e1 hus7 ?e2 (txs_of hJ3) (by rw [hev]; exact ever_plain hWp) (ever_plain hWp) ?eu ?_); (case e1 => k_dflt exact ⟨_, (lN (r7, _) (by k_dflt k_mem)).1, rfl, _, rfl⟩); (case e2 => k_dflt exact ⟨_, (lN (_, PyProof.Rows.LCg.lst us3) (by k_dflt k_mem)).1, rfl, _, rfl⟩); (case eu => first | units_room | (show _ + 64 < cLine; lia)))
 k_steps
 k_with_none
 all_goals try ((rename Fr _ _ _ _ => lF3); (rename News _ _ _ _ => lN3); (refine TurnEnd.intro lF3 lN3 (fun p hp => hp) ?_); first | (subst eb; (rename ((_ == true) = _) => hb5); rw [beq_true] at hb5; first | exact ⟨hb5, _, rfl⟩ | exact hb5) | ((refine ⟨takenB_t ?_ ?_, _, rfl⟩) <;> assumption) | ((refine takenB_1 ?_); assumption) | ((refine takenB_2 ?_); assumption) | exact ⟨by assumption, _, rfl⟩ | assumption)
 all_goals try ((rename ((decide _ != decide _) = true) => ha); exact absurd hct (bne_iff_ne.mp ha))
 all_goals try ((rename (¬ (allN (evZ _) _ = _)) => ha); exact absurd hev ha)
 all_goals try (
   (rename Fr g _ _ _ => lF7); (rename News g _ _ _ => lN7)
   exact ⟨_, _, _, rfl, lF7, ⟨by rfl, by rfl, by rfl, by rfl⟩, fun p hp => lN7 p (by repeat (first | exact hp | refine List.Mem.tail _ ?_))⟩)
end turnHN
theorem turnHH : turnHS (gen LPE turnHS) := by with_unfolding_all exact @turnHN.main
theorem turnH {w dp un gd outer A₀ base L s p loose mean mg mb E g sl fa cdv le xe dxe lt xt dxt lr lw ln rp ldu toe tot ta tb tc ve vt vr vw vn vd ne nt nr nw nn nd q1 q2 q3 q4 q5 q6 q7 q8 R tl ns om un7 msg tu tm Q} : turnHQ w dp un gd outer A₀ base L s p loose mean mg mb E g sl fa cdv le xe dxe lt xt dxt lr lw ln rp ldu toe tot ta tb tc ve vt vr vw vn vd ne nt nr nw nn nd q1 q2 q3 q4 q5 q6 q7 q8 R tl ns om un7 msg tu tm Q := @all_gen LP LPE turnHS @turnHH { lp0 with w, dp, un, gd, outer, A₀, base, L, s, p, loose, mean, mg, mb, E, g, sl, fa, cdv, le, xe, dxe, lt, xt, dxt, lr, lw, ln, rp, ldu, toe, tot, ta, tb, tc, ve, vt, vr, vw, vn, vd, ne, nt, nr, nw, nn, nd, q1, q2, q3, q4, q5, q6, q7, q8, R, tl, ns, om, un7, msg, tu, tm, Qx1 := Q }
end
noncomputable def LastJ (L le xe dxe lt xt dxt lr lw ln rp ldu sl : Addr) (toe tot ta tb tc : Tok) (w : World) (ve vt vr vw vn vd : List Value) (ne nt nr nw nn nd : Nat) (q1 q2 q3 q4 q5 q6 : Obj) (R : List (Addr × Obj)) (ns : List Int) (m : Str -> Option Value) (nx : List (Addr × Obj)) : Prop :=
 ∃ q7 q8 v7 v8, nx = (ldu, W.listOf vd.toArray nd) :: (rp, rngObj (ns.length : Int) ta tb tc) :: (le, W.listOf ve.toArray ne) :: (xe, instObj 182 dxe) :: (dxe, hdD w.params toe le) :: (lt, W.listOf vt.toArray nt) :: (xt, instObj 182 dxt) :: (dxt, hdD w.params tot lt) :: (lr, W.listOf vr.toArray nr) :: (lw, W.listOf vw.toArray nw) :: (ln, W.listOf vn.toArray nn) :: (L + 1 + 1 + 1 + 1 + 1 + 1 + 1 + 1, q8) :: (L + 1 + 1 + 1 + 1 + 1 + 1 + 1, q7) :: (L + 1 + 1 + 1 + 1 + 1 + 1, q6) :: (L + 1 + 1 + 1 + 1 + 1, q5) :: (L + 1 + 1 + 1 + 1, q4) :: (L + 1 + 1 + 1, q3) :: (L + 1 + 1, q2) :: (L + 1, q1) :: R /\ q7.data = Data.cell v7 /\ q8.data = Data.cell v8 /\ Loc2 rp xt xe sl m
structure AskOk (ns : List Int) (un msg : Str) : Prop where
 hun : un.length <= 16
 hulo : PlainT (Txt.lower un)
 hulo2 : (Txt.lower un).length <= 64
 hmsg : msg.length <= 64
 hTz : ∀ z ∈ allN (tabZ ns) un, z.length <= 16 /\ PlainT z
 hct : decide (caughtZ ns un msg = []) = decide ((takenZ ns un msg).map (fun (j : Nat) => (j : Int)) = [])
 hev : allN (evZ ns) un = everZ ns un
section
noncomputable abbrev turnPQ (w : World) (dp un : Nat) (gd : Option (List Code)) (outer : List Env) (A₀ : Around) (base : Heap) (L : Addr) (s : Shared) (p : Program) (loose : List Str) (mean : ExcName -> Option Value) (mg mb : Str -> Option Value) (E : Value -> Shared -> Prop) (g : Heap) (sl fa : Addr) (cdv : Value) (le xe dxe lt xt dxt lr lw ln rp ldu : Addr) (toe tot ta tb tc : Tok) (ve vt vr vw vn vd : List Value) (ne nt nr nw nn nd : Nat) (q1 q2 q3 q4 q5 q6 q7 q8 : Obj) (R tl : List (Addr × Obj)) (ns : List Int) (un7 msg : Str) (t1 t2 : Tok) (T I : Addr) (oI : Obj) (m₁ : Str -> Option Value) (h : Heap) (tk : Nat) (Q : Flow -> Shared -> Prop) (p1 p2 tp : Pos) (kk : Nat) : Prop := ∀ {scope : Scope} {lb : List Stmt} {rest₁ : List (Addr × Obj)} (hlb : forBody ((fdB (stm pw_sr0088_01 22)).getD 9 (.Pass default)) = lb) (hsc : fdS (stm pw_sr0088_01 22) = scope) (hE : PassesOwn (model pw_sr0088_01 w) (ktrTop dp un gd "law" scope L fa cdv (cellsFrom (L + 1) scope.names []) outer) (envOfC "law" scope L fa cdv) E) (hh : (ktrTop dp un gd "law" scope L fa cdv (cellsFrom (L + 1) scope.names []) outer).handled = none) (B' : Below A₀ base outer g) (X' : (K w.params).In g) (T' : Top p loose mean mg mb g) (hk' : scope.kind = .function) (hd' : dp + 40 < recursionLimit) (hu' : un + 10 * 40 < cLine) (offR : OwnOff R [ldu, rp, le, xe, dxe, lt, xt, dxt, lr, lw, ln, L + 1 + 1 + 1 + 1 + 1 + 1 + 1 + 1, L + 1 + 1 + 1 + 1 + 1 + 1 + 1, L + 1 + 1 + 1 + 1 + 1 + 1, L + 1 + 1 + 1 + 1 + 1, L + 1 + 1 + 1 + 1, L + 1 + 1 + 1, L + 1 + 1, L + 1]) (hord : (@LT.lt Nat _ (L + 1 + 1 + 1 + 1 + 1 + 1 + 1 + 1) ln) /\ (@LT.lt Nat _ ln lw) /\ (@LT.lt Nat _ lw lr) /\ (@LT.lt Nat _ lr dxt) /\ (@LT.lt Nat _ dxt xt) /\ (@LT.lt Nat _ xt lt) /\ (@LT.lt Nat _ lt dxe) /\ (@LT.lt Nat _ dxe xe) /\ (@LT.lt Nat _ xe le) /\ (@LT.lt Nat _ le rp) /\ (@LT.lt Nat _ rp ldu)) (d1 : q1.data = Data.cell (some (Value.ref ln))) (d2 : q2.data = Data.cell (some (Value.ref lw))) (d3 : q3.data = Data.cell (some (Value.ref lr))) (hns : ns.length <= 6) (hvn : StrsAre vn (ns.map nameZ)) (hvw : StrsAre vw (ns.map wantZ)) (htl : ∀ p ∈ tl, p ∈ R) (hrd : RdsL w tl vr (ns.map wantZ)) (hokA : ∀ j, j < ns.length -> okW (wtA ns j) = true /\ stayOf (wtA ns j) < 2 ^ 20) (AO : AskOk ns un7 msg) (hT : HItL tl vt (tabZ ns)) (hTv : vt.length <= 32) (hTl : ∀ p ∈ tabZ ns, p.1.length <= 16) (hEv : HItL tl ve (evZ ns)) (hEvv : ve.length <= 32) (hEvl : ∀ p ∈ evZ ns, p.1.length <= 16) (hWp : ∀ k, PlainT (wtA ns k)) (hLi : ∃ l j, h.IsListIter I l j) (hTm : (T, hdrTup un7 t1 msg t2) ∈ R) (hJ : LastJ L le xe dxe lt xt dxt lr lw ln rp ldu sl toe tot ta tb tc w ve vt vr vw vn vd ne nt nr nw nn nd q1 q2 q3 q4 q5 q6 R ns m₁ rest₁) (hnr : ∀ p ∈ rest₁, p.1 ≠ I) (F₁ : Fr g L h m₁) (N₁ : News g L h ((I, oI) :: rest₁)), wpAny (model pw_sr0088_01 w) (ktrTop dp un gd "law" scope L fa cdv (cellsFrom (L + 1) scope.names []) outer) (letOwnedTupleGo (.Tuple [.Name "under" p1, .Name "message" p2] kk tp) (.ref I) (.ref T)) (fun _ s' => wpAny (model pw_sr0088_01 w) (ktrTop dp un gd "law" scope L fa cdv (cellsFrom (L + 1) scope.names []) outer) (assign (.Tuple [.Name "under" p1, .Name "message" p2] kk tp) (envOfC "law" scope L fa cdv) (.ref T)) (fun _ s'' => wpAny (model pw_sr0088_01 w) (ktrTop dp un gd "law" scope L fa cdv (cellsFrom (L + 1) scope.names []) outer) (execs lb (envOfC "law" scope L fa cdv)) (fun f s₃ => FEnd g L (LastJ L le xe dxe lt xt dxt lr lw ln rp ldu sl toe tot ta tb tc w ve vt vr vw vn vd ne nt nr nw nn nd q1 q2 q3 q4 q5 q6 R ns) I oI { s with heap := h, toks := tk } Q f s₃) E s'') E s') E { s with heap := h, toks := tk }
noncomputable def turnPS (x : LP) : Prop := turnPQ x.w x.dp x.un x.gd x.outer x.A₀ x.base x.L x.s x.p x.loose x.mean x.mg x.mb x.E x.g x.sl x.fa x.cdv x.le x.xe x.dxe x.lt x.xt x.dxt x.lr x.lw x.ln x.rp x.ldu x.toe x.tot x.ta x.tb x.tc x.ve x.vt x.vr x.vw x.vn x.vd x.ne x.nt x.nr x.nw x.nn x.nd x.q1 x.q2 x.q3 x.q4 x.q5 x.q6 x.q7 x.q8 x.R x.tl x.ns x.un7 x.msg x.t1 x.t2 x.T x.I x.oI x.m₁ x.h x.tk x.Qx1 x.p1 x.p2 x.tp x.kk
@[irreducible] noncomputable def turnPC : LP := gen LPE turnPS
namespace turnPN
noncomputable section
 def w := turnPC.w
 def L := turnPC.L
 def s := turnPC.s
 def p := turnPC.p
 def g := turnPC.g
 def le := turnPC.le
 def xe := turnPC.xe
 def dxe := turnPC.dxe
 def lt := turnPC.lt
 def xt := turnPC.xt
 def dxt := turnPC.dxt
 def lr := turnPC.lr
 def lw := turnPC.lw
 def ln := turnPC.ln
 def rp := turnPC.rp
 def ldu := turnPC.ldu
 def toe := turnPC.toe
 def tot := turnPC.tot
 def ta := turnPC.ta
 def tb := turnPC.tb
 def tc := turnPC.tc
 def ve := turnPC.ve
 def vt := turnPC.vt
 def vr := turnPC.vr
 def vw := turnPC.vw
 def vn := turnPC.vn
 def vd := turnPC.vd
 def ne := turnPC.ne
 def nt := turnPC.nt
 def nr := turnPC.nr
 def nw := turnPC.nw
 def nn := turnPC.nn
 def nd := turnPC.nd
 def q1 := turnPC.q1
 def q2 := turnPC.q2
 def q3 := turnPC.q3
 def q4 := turnPC.q4
 def q5 := turnPC.q5
 def q6 := turnPC.q6
 def q7 := turnPC.q7
 def q8 := turnPC.q8
 def R := turnPC.R
 def ns := turnPC.ns
 def un7 := turnPC.un7
 def msg := turnPC.msg
 def t1 := turnPC.t1
 def t2 := turnPC.t2
 def T := turnPC.T
 def I := turnPC.I
 def oI := turnPC.oI
 def h := turnPC.h
 def tk := turnPC.tk
 def Q := turnPC.Qx1
end
theorem main : turnPQ w turnPC.dp turnPC.un turnPC.gd turnPC.outer turnPC.A₀ turnPC.base L s p turnPC.loose turnPC.mean turnPC.mg turnPC.mb turnPC.E g turnPC.sl turnPC.fa turnPC.cdv le xe dxe lt xt dxt lr lw ln rp ldu toe tot ta tb tc ve vt vr vw vn vd ne nt nr nw nn nd q1 q2 q3 q4 q5 q6 q7 q8 R turnPC.tl ns un7 msg t1 t2 T I oI turnPC.m₁ h tk Q turnPC.p1 turnPC.p2 turnPC.tp turnPC.kk := by
 intro scope lb rest₁ hlb hsc hE hh B' X' T' hk' hd' hu' offR hord d1 d2 d3 hns hvn hvw htl hrd hokA AO hT hTv hTl hEv hEvv hEvl hWp hLi hTm hJ hnr F₁ N₁
 (revert hJ; refine xq4 fun q7 q8 v7 v8 => ?_; refine aq2 fun eQ => ?_; subst eQ; refine aq3 fun d7 d8 => ?_; intro M)
 have hsc2 := hsc
 conv at hsc2 => lhs; whnf
 (have hQ := id hord; revert hQ; refine aq9 fun r1 r2 r3 r4 r5 r6 r7 r8 => ?_; refine aq3 fun r9 r10 => ?_; intro r11)
 obtain ⟨lI, jI, hLi⟩ := hLi
 refine wpAny_letOwnedTupleGo_listiter hLi ?_
 have gT := (N₁ (T, hdrTup un7 t1 msg t2) (.tail _ (.tail _ (.tail _ (.tail _ (.tail _ (.tail _ (.tail _ (.tail _ (.tail _ (.tail _ (.tail _ (.tail _ (.tail _ (.tail _ (.tail _ (.tail _ (.tail _ (.tail _ (.tail _ (.tail _ (hTm)))))))))))))))))))))).1
 refine assign_Tuple_tuple hh (⟨_, gT, rfl, 0, rfl⟩ : IsTup h T #[.str un7 t1, .str msg t2]) rfl rfl fun h₄ he => ?_
 have he' : ∀ b o, h.get? b = some o -> h₄.get? b = some o := fun b o e => he b o (Nat.ne_of_lt (Heap.lt_size e)) e
 have F₄ := F₁.keeps he'
 have N₄ := N₁.grown he'
 have hR6 : ∀ p ∈ R, p.1 ≠ L + 1 + 1 + 1 + 1 + 1 + 1 + 1 := fun p hp => offR p hp _ (by simp)
 have hR7 : ∀ p ∈ R, p.1 ≠ L + 1 + 1 + 1 + 1 + 1 + 1 + 1 + 1 := fun p hp => offR p hp _ (by simp)
 have U7 : UpdF (L + 1 + 1 + 1 + 1 + 1 + 1 + 1) q7 ((I, oI) :: (ldu, W.listOf vd.toArray nd) :: (rp, rngObj (ns.length : Int) ta tb tc) :: (le, W.listOf ve.toArray ne) :: (xe, instObj 182 dxe) :: (dxe, hdD w.params toe le) :: (lt, W.listOf vt.toArray nt) :: (xt, instObj 182 dxt) :: (dxt, hdD w.params tot lt) :: (lr, W.listOf vr.toArray nr) :: (lw, W.listOf vw.toArray nw) :: (ln, W.listOf vn.toArray nn) :: (L + 1 + 1 + 1 + 1 + 1 + 1 + 1 + 1, q8) :: (L + 1 + 1 + 1 + 1 + 1 + 1 + 1, q7) :: (L + 1 + 1 + 1 + 1 + 1 + 1, q6) :: (L + 1 + 1 + 1 + 1 + 1, q5) :: (L + 1 + 1 + 1 + 1, q4) :: (L + 1 + 1 + 1, q3) :: (L + 1 + 1, q2) :: (L + 1, q1) :: R) (fun o7 => (I, oI) :: (ldu, W.listOf vd.toArray nd) :: (rp, rngObj (ns.length : Int) ta tb tc) :: (le, W.listOf ve.toArray ne) :: (xe, instObj 182 dxe) :: (dxe, hdD w.params toe le) :: (lt, W.listOf vt.toArray nt) :: (xt, instObj 182 dxt) :: (dxt, hdD w.params tot lt) :: (lr, W.listOf vr.toArray nr) :: (lw, W.listOf vw.toArray nw) :: (ln, W.listOf vn.toArray nn) :: (L + 1 + 1 + 1 + 1 + 1 + 1 + 1 + 1, q8) :: (L + 1 + 1 + 1 + 1 + 1 + 1 + 1, o7) :: (L + 1 + 1 + 1 + 1 + 1 + 1, q6) :: (L + 1 + 1 + 1 + 1 + 1, q5) :: (L + 1 + 1 + 1 + 1, q4) :: (L + 1 + 1 + 1, q3) :: (L + 1 + 1, q2) :: (L + 1, q1) :: R) := by
   refine UpdF.tail (Ne.symm (hnr (L + 1 + 1 + 1 + 1 + 1 + 1 + 1, q7) (by simp))) ?_
   repeat (first | refine UpdF.head ?_ | refine UpdF.tail (neN (by dsimp only; lia)) ?_)
   repeat (first | exact hR6 | refine List.forall_mem_cons.mpr ⟨neN (by dsimp only; lia), ?_⟩)
 refine assignInOrder_cons (wpAny_assign_Name (storeX_C F₄ N₄ (by rw [<- hsc2]; rfl) U7 d7 (fun h₅ o₅ F₅ N₅ d₅ => ?_) hk' (by rw [<- hsc2]; rfl)))
 have U8 : UpdF (L + 1 + 1 + 1 + 1 + 1 + 1 + 1 + 1) q8 ((I, oI) :: (ldu, W.listOf vd.toArray nd) :: (rp, rngObj (ns.length : Int) ta tb tc) :: (le, W.listOf ve.toArray ne) :: (xe, instObj 182 dxe) :: (dxe, hdD w.params toe le) :: (lt, W.listOf vt.toArray nt) :: (xt, instObj 182 dxt) :: (dxt, hdD w.params tot lt) :: (lr, W.listOf vr.toArray nr) :: (lw, W.listOf vw.toArray nw) :: (ln, W.listOf vn.toArray nn) :: (L + 1 + 1 + 1 + 1 + 1 + 1 + 1 + 1, q8) :: (L + 1 + 1 + 1 + 1 + 1 + 1 + 1, o₅) :: (L + 1 + 1 + 1 + 1 + 1 + 1, q6) :: (L + 1 + 1 + 1 + 1 + 1, q5) :: (L + 1 + 1 + 1 + 1, q4) :: (L + 1 + 1 + 1, q3) :: (L + 1 + 1, q2) :: (L + 1, q1) :: R) (fun o8 => (I, oI) :: (ldu, W.listOf vd.toArray nd) :: (rp, rngObj (ns.length : Int) ta tb tc) :: (le, W.listOf ve.toArray ne) :: (xe, instObj 182 dxe) :: (dxe, hdD w.params toe le) :: (lt, W.listOf vt.toArray nt) :: (xt, instObj 182 dxt) :: (dxt, hdD w.params tot lt) :: (lr, W.listOf vr.toArray nr) :: (lw, W.listOf vw.toArray nw) :: (ln, W.listOf vn.toArray nn) :: (L + 1 + 1 + 1 + 1 + 1 + 1 + 1 + 1, o8) :: (L + 1 + 1 + 1 + 1 + 1 + 1 + 1, o₅) :: (L + 1 + 1 + 1 + 1 + 1 + 1, q6) :: (L + 1 + 1 + 1 + 1 + 1, q5) :: (L + 1 + 1 + 1 + 1, q4) :: (L + 1 + 1 + 1, q3) :: (L + 1 + 1, q2) :: (L + 1, q1) :: R) := by
   refine UpdF.tail (Ne.symm (hnr (L + 1 + 1 + 1 + 1 + 1 + 1 + 1 + 1, q8) (by simp))) ?_
   repeat (first | refine UpdF.head ?_ | refine UpdF.tail (neN (by dsimp only; lia)) ?_)
   repeat (first | exact hR7 | refine List.forall_mem_cons.mpr ⟨neN (by dsimp only; lia), ?_⟩)
 refine assignInOrder_cons (wpAny_assign_Name (storeX_C F₅ N₅ (by rw [<- hsc2]; rfl) U8 d8 (fun h₆ o₆ F₆ N₆ d₆ => ?_) hk' (by rw [<- hsc2]; rfl)))
 refine assignInOrder_nil ?_
 have M2 := M.form
 have offR2 : OwnOff ((I, oI) :: R) [ldu, rp, le, xe, dxe, lt, xt, dxt, lr, lw, ln, L + 1 + 1 + 1 + 1 + 1 + 1 + 1 + 1, L + 1 + 1 + 1 + 1 + 1 + 1 + 1, L + 1 + 1 + 1 + 1 + 1 + 1, L + 1 + 1 + 1 + 1 + 1, L + 1 + 1 + 1 + 1, L + 1 + 1 + 1, L + 1 + 1, L + 1] := by
   intro p hp b hb
   rcases List.mem_cons.mp hp with rfl | hp
   . have : b ∈ ([(ldu, W.listOf vd.toArray nd), (rp, rngObj (ns.length : Int) ta tb tc), (le, W.listOf ve.toArray ne), (xe, instObj 182 dxe), (dxe, hdD w.params toe le), (lt, W.listOf vt.toArray nt), (xt, instObj 182 dxt), (dxt, hdD w.params tot lt), (lr, W.listOf vr.toArray nr), (lw, W.listOf vw.toArray nw), (ln, W.listOf vn.toArray nn), (L + 1 + 1 + 1 + 1 + 1 + 1 + 1 + 1, q8), (L + 1 + 1 + 1 + 1 + 1 + 1 + 1, q7), (L + 1 + 1 + 1 + 1 + 1 + 1, q6), (L + 1 + 1 + 1 + 1 + 1, q5), (L + 1 + 1 + 1 + 1, q4), (L + 1 + 1 + 1, q3), (L + 1 + 1, q2), (L + 1, q1)] : List (Addr × Obj)).map (·.1) := hb
     obtain ⟨q, hq, rfl⟩ := List.mem_map.mp this
     exact Ne.symm (hnr q (List.mem_append_left R hq))
   . exact offR p hp b hb
 have N7 : News g L h₆ ((ldu, W.listOf vd.toArray nd) :: (rp, rngObj (ns.length : Int) ta tb tc) :: (le, W.listOf ve.toArray ne) :: (xe, instObj 182 dxe) :: (dxe, hdD w.params toe le) :: (lt, W.listOf vt.toArray nt) :: (xt, instObj 182 dxt) :: (dxt, hdD w.params tot lt) :: (lr, W.listOf vr.toArray nr) :: (lw, W.listOf vw.toArray nw) :: (ln, W.listOf vn.toArray nn) :: (L + 1 + 1 + 1 + 1 + 1 + 1 + 1 + 1, o₆) :: (L + 1 + 1 + 1 + 1 + 1 + 1 + 1, o₅) :: (L + 1 + 1 + 1 + 1 + 1 + 1, q6) :: (L + 1 + 1 + 1 + 1 + 1, q5) :: (L + 1 + 1 + 1 + 1, q4) :: (L + 1 + 1 + 1, q3) :: (L + 1 + 1, q2) :: (L + 1, q1) :: ((I, oI) :: R)) := news_mid (a := [(I, oI)]) (b := [(ldu, W.listOf vd.toArray nd), (rp, rngObj (ns.length : Int) ta tb tc), (le, W.listOf ve.toArray ne), (xe, instObj 182 dxe), (dxe, hdD w.params toe le), (lt, W.listOf vt.toArray nt), (xt, instObj 182 dxt), (dxt, hdD w.params tot lt), (lr, W.listOf vr.toArray nr), (lw, W.listOf vw.toArray nw), (ln, W.listOf vn.toArray nn), (L + 1 + 1 + 1 + 1 + 1 + 1 + 1 + 1, o₆), (L + 1 + 1 + 1 + 1 + 1 + 1 + 1, o₅), (L + 1 + 1 + 1 + 1 + 1 + 1, q6), (L + 1 + 1 + 1 + 1 + 1, q5), (L + 1 + 1 + 1 + 1, q4), (L + 1 + 1 + 1, q3), (L + 1 + 1, q2), (L + 1, q1)]) (c := R) N₆
 refine wpAny_mono (turnH (Q := Q) (s := { s with heap := h₆, toks := tk }) (q7 := o₅) (q8 := o₆) hlb hsc hE ⟨B', Eq.mp (congrArg (Fr g L h₆) M2) F₆, X', T', hk', hd', hu'⟩ N7 offR2 hord d1 d2 d3 d₅ d₆ hns hvn hvw (fun p hp => .tail _ (htl p hp)) hrd hokA AO.hun AO.hulo AO.hulo2 AO.hmsg hT hTv hTl AO.hTz hEv hEvv hEvl hWp AO.hct AO.hev) ?_ fun _ _ e => e
 (intro f s'; refine aq2 fun eQ => ?_; subst eQ; refine xq3 fun h₇ tk₇ m₇ => ?_; refine aq2 fun eQ => ?_; subst eQ; refine aq3 fun F₇ M₇ => ?_; intro N₇)
 have N8 := news_mid (a := [(ldu, W.listOf vd.toArray nd), (rp, rngObj (ns.length : Int) ta tb tc), (le, W.listOf ve.toArray ne), (xe, instObj 182 dxe), (dxe, hdD w.params toe le), (lt, W.listOf vt.toArray nt), (xt, instObj 182 dxt), (dxt, hdD w.params tot lt), (lr, W.listOf vr.toArray nr), (lw, W.listOf vw.toArray nw), (ln, W.listOf vn.toArray nn), (L + 1 + 1 + 1 + 1 + 1 + 1 + 1 + 1, o₆), (L + 1 + 1 + 1 + 1 + 1 + 1 + 1, o₅), (L + 1 + 1 + 1 + 1 + 1 + 1, q6), (L + 1 + 1 + 1 + 1 + 1, q5), (L + 1 + 1 + 1 + 1, q4), (L + 1 + 1 + 1, q3), (L + 1 + 1, q2), (L + 1, q1)]) (b := [(I, oI)]) (c := R) N₇
 refine ⟨h₇, tk₇, m₇, _, rfl, F₇, N8, fun p hp => ?_, o₅, o₆, _, _, rfl, d₅, d₆, M₇⟩
 have key : p.1 ∈ (((ldu, W.listOf vd.toArray nd) :: (rp, rngObj (ns.length : Int) ta tb tc) :: (le, W.listOf ve.toArray ne) :: (xe, instObj 182 dxe) :: (dxe, hdD w.params toe le) :: (lt, W.listOf vt.toArray nt) :: (xt, instObj 182 dxt) :: (dxt, hdD w.params tot lt) :: (lr, W.listOf vr.toArray nr) :: (lw, W.listOf vw.toArray nw) :: (ln, W.listOf vn.toArray nn) :: (L + 1 + 1 + 1 + 1 + 1 + 1 + 1 + 1, q8) :: (L + 1 + 1 + 1 + 1 + 1 + 1 + 1, q7) :: (L + 1 + 1 + 1 + 1 + 1 + 1, q6) :: (L + 1 + 1 + 1 + 1 + 1, q5) :: (L + 1 + 1 + 1 + 1, q4) :: (L + 1 + 1 + 1, q3) :: (L + 1 + 1, q2) :: (L + 1, q1) :: R) : List (Addr × Obj)).map (·.1) := by
   have : p.1 ∈ (((ldu, W.listOf vd.toArray nd) :: (rp, rngObj (ns.length : Int) ta tb tc) :: (le, W.listOf ve.toArray ne) :: (xe, instObj 182 dxe) :: (dxe, hdD w.params toe le) :: (lt, W.listOf vt.toArray nt) :: (xt, instObj 182 dxt) :: (dxt, hdD w.params tot lt) :: (lr, W.listOf vr.toArray nr) :: (lw, W.listOf vw.toArray nw) :: (ln, W.listOf vn.toArray nn) :: (L + 1 + 1 + 1 + 1 + 1 + 1 + 1 + 1, o₆) :: (L + 1 + 1 + 1 + 1 + 1 + 1 + 1, o₅) :: (L + 1 + 1 + 1 + 1 + 1 + 1, q6) :: (L + 1 + 1 + 1 + 1 + 1, q5) :: (L + 1 + 1 + 1 + 1, q4) :: (L + 1 + 1 + 1, q3) :: (L + 1 + 1, q2) :: (L + 1, q1) :: R) : List (Addr × Obj)).map (·.1) := List.mem_map.mpr ⟨p, hp, rfl⟩
   exact this
 obtain ⟨q, hq, e⟩ := List.mem_map.mp key
 rw [<- e]; exact hnr q hq
end turnPN
theorem turnPH : turnPS (gen LPE turnPS) := by with_unfolding_all exact @turnPN.main
theorem turnP {w dp un gd outer A₀ base L s p loose mean mg mb E g sl fa cdv le xe dxe lt xt dxt lr lw ln rp ldu toe tot ta tb tc ve vt vr vw vn vd ne nt nr nw nn nd q1 q2 q3 q4 q5 q6 q7 q8 R tl ns un7 msg t1 t2 T I oI m₁ h tk Q p1 p2 tp kk} : turnPQ w dp un gd outer A₀ base L s p loose mean mg mb E g sl fa cdv le xe dxe lt xt dxt lr lw ln rp ldu toe tot ta tb tc ve vt vr vw vn vd ne nt nr nw nn nd q1 q2 q3 q4 q5 q6 q7 q8 R tl ns un7 msg t1 t2 T I oI m₁ h tk Q p1 p2 tp kk := @all_gen LP LPE turnPS @turnPH { lp0 with w, dp, un, gd, outer, A₀, base, L, s, p, loose, mean, mg, mb, E, g, sl, fa, cdv, le, xe, dxe, lt, xt, dxt, lr, lw, ln, rp, ldu, toe, tot, ta, tb, tc, ve, vt, vr, vw, vn, vd, ne, nt, nr, nw, nn, nd, q1, q2, q3, q4, q5, q6, q7, q8, R, tl, ns, un7, msg, t1, t2, T, I, oI, m₁, h, tk, Qx1 := Q, p1, p2, tp, kk }
end
section
noncomputable abbrev loopHQ (w : World) (dp un : Nat) (gd : Option (List Code)) (outer : List Env) (A₀ : Around) (base : Heap) (L : Addr) (s : Shared) (p : Program) (loose : List Str) (mean : ExcName -> Option Value) (mg mb : Str -> Option Value) (E : Value -> Shared -> Prop) (g : Heap) (sl fa : Addr) (cdv : Value) (le xe dxe lt xt dxt lr lw ln rp ldu : Addr) (toe tot ta tb tc : Tok) (ve vt vr vw vn vd : List Value) (ne nt nr nw nn nd : Nat) (q1 q2 q3 q4 q5 q6 q7 q8 : Obj) (R tl : List (Addr × Obj)) (ns : List Int) (lst a1 a2 a3 a4 : Addr) (t1 t2 t3 t4 t5 t6 t7 t8 : Tok) (lg : Str) (v7 v8 : Option Value) (Q : Flow -> Shared -> Prop) (p1 p2 tp : Pos) (kk : Nat) (m : Str -> Option Value) : Prop := ∀ {scope : Scope} {lb : List Stmt} (hlb : forBody ((fdB (stm pw_sr0088_01 22)).getD 9 (.Pass default)) = lb) (hsc : fdS (stm pw_sr0088_01 22) = scope) (hE : PassesOwn (model pw_sr0088_01 w) (ktrTop dp un gd "law" scope L fa cdv (cellsFrom (L + 1) scope.names []) outer) (envOfC "law" scope L fa cdv) E) (hh : (ktrTop dp un gd "law" scope L fa cdv (cellsFrom (L + 1) scope.names []) outer).handled = none) (B' : Below A₀ base outer g) (X' : (K w.params).In g) (T' : Top p loose mean mg mb g) (hk' : scope.kind = .function) (hd' : dp + 40 < recursionLimit) (hu' : un + 10 * 40 < cLine) (offR : OwnOff R [ldu, rp, le, xe, dxe, lt, xt, dxt, lr, lw, ln, L + 1 + 1 + 1 + 1 + 1 + 1 + 1 + 1, L + 1 + 1 + 1 + 1 + 1 + 1 + 1, L + 1 + 1 + 1 + 1 + 1 + 1, L + 1 + 1 + 1 + 1 + 1, L + 1 + 1 + 1 + 1, L + 1 + 1 + 1, L + 1 + 1, L + 1]) (hord : (@LT.lt Nat _ (L + 1 + 1 + 1 + 1 + 1 + 1 + 1 + 1) ln) /\ (@LT.lt Nat _ ln lw) /\ (@LT.lt Nat _ lw lr) /\ (@LT.lt Nat _ lr dxt) /\ (@LT.lt Nat _ dxt xt) /\ (@LT.lt Nat _ xt lt) /\ (@LT.lt Nat _ lt dxe) /\ (@LT.lt Nat _ dxe xe) /\ (@LT.lt Nat _ xe le) /\ (@LT.lt Nat _ le rp) /\ (@LT.lt Nat _ rp ldu)) (d1 : q1.data = Data.cell (some (Value.ref ln))) (d2 : q2.data = Data.cell (some (Value.ref lw))) (d3 : q3.data = Data.cell (some (Value.ref lr))) (d7 : q7.data = Data.cell v7) (d8 : q8.data = Data.cell v8) (hns : ns.length <= 6) (hvn : StrsAre vn (ns.map nameZ)) (hvw : StrsAre vw (ns.map wantZ)) (htl : ∀ p ∈ tl, p ∈ R) (hrd : RdsL w tl vr (ns.map wantZ)) (hokA : ∀ j, j < ns.length -> okW (wtA ns j) = true /\ stayOf (wtA ns j) < 2 ^ 20) (AO1 : AskOk ns "e" lg) (AO2 : AskOk ns "ES" lg) (AO3 : AskOk ns "E" "a") (AO4 : AskOk ns "es" "a") (hT : HItL tl vt (tabZ ns)) (hTv : vt.length <= 32) (hTl : ∀ p ∈ tabZ ns, p.1.length <= 16) (hEv : HItL tl ve (evZ ns)) (hEvv : ve.length <= 32) (hEvl : ∀ p ∈ evZ ns, p.1.length <= 16) (hWp : ∀ k, PlainT (wtA ns k)) (F : Fr g L s.heap m) (M : Loc2 rp xt xe sl m) (N : News g L s.heap ([(lst, W.listOf #[Value.ref a1, Value.ref a2, Value.ref a3, Value.ref a4] 0), (a4, hdrTup "es" t7 "a" t8), (a3, hdrTup "E" t5 "a" t6), (a2, hdrTup "ES" t3 lg t4), (a1, hdrTup "e" t1 lg t2)] ++ ([(ldu, W.listOf vd.toArray nd), (rp, rngObj (ns.length : Int) ta tb tc), (le, W.listOf ve.toArray ne), (xe, instObj 182 dxe), (dxe, hdD w.params toe le), (lt, W.listOf vt.toArray nt), (xt, instObj 182 dxt), (dxt, hdD w.params tot lt), (lr, W.listOf vr.toArray nr), (lw, W.listOf vw.toArray nw), (ln, W.listOf vn.toArray nn), (L + 1 + 1 + 1 + 1 + 1 + 1 + 1 + 1, q8), (L + 1 + 1 + 1 + 1 + 1 + 1 + 1, q7), (L + 1 + 1 + 1 + 1 + 1 + 1, q6), (L + 1 + 1 + 1 + 1 + 1, q5), (L + 1 + 1 + 1 + 1, q4), (L + 1 + 1 + 1, q3), (L + 1 + 1, q2), (L + 1, q1)] ++ R))) (o1 : @LT.lt Nat _ ldu a1) (o2 : @LT.lt Nat _ a1 a2) (o3 : @LT.lt Nat _ a2 a3) (o4 : @LT.lt Nat _ a3 a4) (o5 : @LT.lt Nat _ a4 lst) (done : ∀ m₁ h tk, Fr g L h m₁ -> Q .next { s with heap := h, toks := tk }), wpAny (model pw_sr0088_01 w) (ktrTop dp un gd "law" scope L fa cdv (cellsFrom (L + 1) scope.names []) outer) (pyIter (.ref lst)) (fun it s₂ => LoopAtG pw_sr0088_01 w (ktrTop dp un gd "law" scope L fa cdv (cellsFrom (L + 1) scope.names []) outer) g (envOfC "law" scope L fa cdv) (.Tuple [.Name "under" p1, .Name "message" p2] kk tp) lb Q E it s₂) E s
noncomputable def loopHS (x : LP) : Prop := loopHQ x.w x.dp x.un x.gd x.outer x.A₀ x.base x.L x.s x.p x.loose x.mean x.mg x.mb x.E x.g x.sl x.fa x.cdv x.le x.xe x.dxe x.lt x.xt x.dxt x.lr x.lw x.ln x.rp x.ldu x.toe x.tot x.ta x.tb x.tc x.ve x.vt x.vr x.vw x.vn x.vd x.ne x.nt x.nr x.nw x.nn x.nd x.q1 x.q2 x.q3 x.q4 x.q5 x.q6 x.q7 x.q8 x.R x.tl x.ns x.lst x.a1 x.a2 x.a3 x.a4 x.t1 x.t2 x.t3 x.t4 x.t5 x.t6 x.t7 x.t8 x.lg x.v7 x.v8 x.Qx1 x.p1 x.p2 x.tp x.kk x.m
@[irreducible] noncomputable def loopHC : LP := gen LPE loopHS
namespace loopHN
noncomputable section
 def w := loopHC.w
 def dp := loopHC.dp
 def un := loopHC.un
 def gd := loopHC.gd
 def outer := loopHC.outer
 def L := loopHC.L
 def s := loopHC.s
 def p := loopHC.p
 def E := loopHC.E
 def g := loopHC.g
 def sl := loopHC.sl
 def fa := loopHC.fa
 def cdv := loopHC.cdv
 def le := loopHC.le
 def xe := loopHC.xe
 def dxe := loopHC.dxe
 def lt := loopHC.lt
 def xt := loopHC.xt
 def dxt := loopHC.dxt
 def lr := loopHC.lr
 def lw := loopHC.lw
 def ln := loopHC.ln
 def rp := loopHC.rp
 def ldu := loopHC.ldu
 def toe := loopHC.toe
 def tot := loopHC.tot
 def ta := loopHC.ta
 def tb := loopHC.tb
 def tc := loopHC.tc
 def ve := loopHC.ve
 def vt := loopHC.vt
 def vr := loopHC.vr
 def vw := loopHC.vw
 def vn := loopHC.vn
 def vd := loopHC.vd
 def ne := loopHC.ne
 def nt := loopHC.nt
 def nr := loopHC.nr
 def nw := loopHC.nw
 def nn := loopHC.nn
 def nd := loopHC.nd
 def q1 := loopHC.q1
 def q2 := loopHC.q2
 def q3 := loopHC.q3
 def q4 := loopHC.q4
 def q5 := loopHC.q5
 def q6 := loopHC.q6
 def q7 := loopHC.q7
 def q8 := loopHC.q8
 def R := loopHC.R
 def tl := loopHC.tl
 def ns := loopHC.ns
 def lst := loopHC.lst
 def a1 := loopHC.a1
 def a2 := loopHC.a2
 def a3 := loopHC.a3
 def a4 := loopHC.a4
 def t1 := loopHC.t1
 def t2 := loopHC.t2
 def t3 := loopHC.t3
 def t4 := loopHC.t4
 def t5 := loopHC.t5
 def t6 := loopHC.t6
 def t7 := loopHC.t7
 def t8 := loopHC.t8
 def lg := loopHC.lg
 def v7 := loopHC.v7
 def v8 := loopHC.v8
 def Q := loopHC.Qx1
 def p1 := loopHC.p1
 def p2 := loopHC.p2
 def tp := loopHC.tp
 def kk := loopHC.kk
 def m := loopHC.m
end
theorem main : loopHQ w dp un gd outer loopHC.A₀ loopHC.base L s p loopHC.loose loopHC.mean loopHC.mg loopHC.mb E g sl fa cdv le xe dxe lt xt dxt lr lw ln rp ldu toe tot ta tb tc ve vt vr vw vn vd ne nt nr nw nn nd q1 q2 q3 q4 q5 q6 q7 q8 R tl ns lst a1 a2 a3 a4 t1 t2 t3 t4 t5 t6 t7 t8 lg v7 v8 Q p1 p2 tp kk m := by
 intro scope lb hlb hsc hE hh B' X' T' hk' hd' hu' offR hord d1 d2 d3 d7 d8 hns hvn hvw htl hrd hokA AO1 AO2 AO3 AO4 hT hTv hTl hEv hEvv hEvl hWp F M N o1 o2 o3 o4 o5 done
 have N2 := news_mid (a := [(lst, W.listOf #[Value.ref a1, Value.ref a2, Value.ref a3, Value.ref a4] 0), (a4, hdrTup "es" t7 "a" t8), (a3, hdrTup "E" t5 "a" t6), (a2, hdrTup "ES" t3 lg t4), (a1, hdrTup "e" t1 lg t2)]) (b := [(ldu, W.listOf vd.toArray nd), (rp, rngObj (ns.length : Int) ta tb tc), (le, W.listOf ve.toArray ne), (xe, instObj 182 dxe), (dxe, hdD w.params toe le), (lt, W.listOf vt.toArray nt), (xt, instObj 182 dxt), (dxt, hdD w.params tot lt), (lr, W.listOf vr.toArray nr), (lw, W.listOf vw.toArray nw), (ln, W.listOf vn.toArray nn), (L + 1 + 1 + 1 + 1 + 1 + 1 + 1 + 1, q8), (L + 1 + 1 + 1 + 1 + 1 + 1 + 1, q7), (L + 1 + 1 + 1 + 1 + 1 + 1, q6), (L + 1 + 1 + 1 + 1 + 1, q5), (L + 1 + 1 + 1 + 1, q4), (L + 1 + 1 + 1, q3), (L + 1 + 1, q2), (L + 1, q1)]) (c := R) N
 (have hQ := id hord; revert hQ; refine aq9 fun r1 r2 r3 r4 r5 r6 r7 r8 => ?_; refine aq3 fun r9 r10 => ?_; intro r11)
 have big : ∀ b ∈ [ldu, rp, le, xe, dxe, lt, xt, dxt, lr, lw, ln, L + 1 + 1 + 1 + 1 + 1 + 1 + 1 + 1, L + 1 + 1 + 1 + 1 + 1 + 1 + 1, L + 1 + 1 + 1 + 1 + 1 + 1, L + 1 + 1 + 1 + 1 + 1, L + 1 + 1 + 1 + 1, L + 1 + 1 + 1, L + 1 + 1, L + 1], @LE.le Nat _ b ldu := by
   intro b hb
   simp only [List.mem_cons, List.not_mem_nil, or_false] at hb
   rcases hb with rfl | rfl | rfl | rfl | rfl | rfl | rfl | rfl | rfl | rfl | rfl | rfl | rfl | rfl | rfl | rfl | rfl | rfl | rfl <;> lia
 have offX : OwnOff ([(lst, W.listOf #[Value.ref a1, Value.ref a2, Value.ref a3, Value.ref a4] 0), (a4, hdrTup "es" t7 "a" t8), (a3, hdrTup "E" t5 "a" t6), (a2, hdrTup "ES" t3 lg t4), (a1, hdrTup "e" t1 lg t2)] ++ R) [ldu, rp, le, xe, dxe, lt, xt, dxt, lr, lw, ln, L + 1 + 1 + 1 + 1 + 1 + 1 + 1 + 1, L + 1 + 1 + 1 + 1 + 1 + 1 + 1, L + 1 + 1 + 1 + 1 + 1 + 1, L + 1 + 1 + 1 + 1 + 1, L + 1 + 1 + 1 + 1, L + 1 + 1 + 1, L + 1 + 1, L + 1] := by
   intro p hp b hb
   rcases List.mem_append.mp hp with hp | hp
   . have hb' := big b hb
     simp only [List.mem_cons, List.not_mem_nil, or_false] at hp
     rcases hp with rfl | rfl | rfl | rfl | rfl <;> (dsimp only; intro e; have e' : @Eq Nat _ _ := e; lia)
   . exact offR p hp b hb
 have key := fun (un7 msg : Str) (u1 u2 : Tok) (T : Addr) (AO : AskOk ns un7 msg) (hTm : (T, hdrTup un7 u1 msg u2) ∈ [(lst, W.listOf #[Value.ref a1, Value.ref a2, Value.ref a3, Value.ref a4] 0), (a4, hdrTup "es" t7 "a" t8), (a3, hdrTup "E" t5 "a" t6), (a2, hdrTup "ES" t3 lg t4), (a1, hdrTup "e" t1 lg t2)] ++ R) (i : Nat) (I : Addr) (oI : Obj) (h : Heap) (tk : Nat) (m₁ : Str -> Option Value) (rest₁ : List (Addr × Obj)) (hl : (lst, W.listOf #[Value.ref a1, Value.ref a2, Value.ref a3, Value.ref a4] 0) ∈ rest₁) (hJ : LastJ L le xe dxe lt xt dxt lr lw ln rp ldu sl toe tot ta tb tc w ve vt vr vw vn vd ne nt nr nw nn nd q1 q2 q3 q4 q5 q6 ([(lst, W.listOf #[Value.ref a1, Value.ref a2, Value.ref a3, Value.ref a4] 0), (a4, hdrTup "es" t7 "a" t8), (a3, hdrTup "E" t5 "a" t6), (a2, hdrTup "ES" t3 lg t4), (a1, hdrTup "e" t1 lg t2)] ++ R) ns m₁ rest₁) (hnr : ∀ p ∈ rest₁, p.1 ≠ I) (hLi : ∃ l j, h.IsListIter I l j) (F₁ : Fr g L h m₁) (N₁ : News g L h ((I, oI) :: rest₁)) =>
   turnP (s := s) (Q := Q) (p1 := p1) (p2 := p2) (tp := tp) (kk := kk) (q7 := q7) (q8 := q8) (tl := tl) (tk := tk) hlb hsc hE hh B' X' T' hk' hd' hu' offX hord d1 d2 d3 hns hvn hvw (fun p hp => List.mem_append_right _ (htl p hp)) hrd hokA AO hT hTv hTl hEv hEvv hEvl hWp hLi hTm hJ hnr F₁ N₁
 refine listG (vs := [Value.ref a1, Value.ref a2, Value.ref a3, Value.ref a4]) (nn := 0) (rest := [(ldu, W.listOf vd.toArray nd), (rp, rngObj (ns.length : Int) ta tb tc), (le, W.listOf ve.toArray ne), (xe, instObj 182 dxe), (dxe, hdD w.params toe le), (lt, W.listOf vt.toArray nt), (xt, instObj 182 dxt), (dxt, hdD w.params tot lt), (lr, W.listOf vr.toArray nr), (lw, W.listOf vw.toArray nw), (ln, W.listOf vn.toArray nn), (L + 1 + 1 + 1 + 1 + 1 + 1 + 1 + 1, q8), (L + 1 + 1 + 1 + 1 + 1 + 1 + 1, q7), (L + 1 + 1 + 1 + 1 + 1 + 1, q6), (L + 1 + 1 + 1 + 1 + 1, q5), (L + 1 + 1 + 1 + 1, q4), (L + 1 + 1 + 1, q3), (L + 1 + 1, q2), (L + 1, q1)] ++ ([(lst, W.listOf #[Value.ref a1, Value.ref a2, Value.ref a3, Value.ref a4] 0), (a4, hdrTup "es" t7 "a" t8), (a3, hdrTup "E" t5 "a" t6), (a2, hdrTup "ES" t3 lg t4), (a1, hdrTup "e" t1 lg t2)] ++ R)) (fun i m nx => LastJ L le xe dxe lt xt dxt lr lw ln rp ldu sl toe tot ta tb tc w ve vt vr vw vn vd ne nt nr nw nn nd q1 q2 q3 q4 q5 q6 ([(lst, W.listOf #[Value.ref a1, Value.ref a2, Value.ref a3, Value.ref a4] 0), (a4, hdrTup "es" t7 "a" t8), (a3, hdrTup "E" t5 "a" t6), (a2, hdrTup "ES" t3 lg t4), (a1, hdrTup "e" t1 lg t2)] ++ R) ns m nx) hh (List.mem_append_right _ (List.mem_append_left _ (.head _))) F N2 ⟨q7, q8, v7, v8, rfl, d7, d8, M⟩ ?_ (fun m₁ rest₁ h tk _ _ F₁ N₁ => done m₁ h tk F₁)
 intro i v m₁ rest₁ I oI h tk hv hl hJ hnr hLi F₁ N₁
 have fin : ∀ (T : Addr), v = .ref T -> ∀ un7 msg u1 u2, AskOk ns un7 msg -> (T, hdrTup un7 u1 msg u2) ∈ [(lst, W.listOf #[Value.ref a1, Value.ref a2, Value.ref a3, Value.ref a4] 0), (a4, hdrTup "es" t7 "a" t8), (a3, hdrTup "E" t5 "a" t6), (a2, hdrTup "ES" t3 lg t4), (a1, hdrTup "e" t1 lg t2)] ++ R -> wpAny (model pw_sr0088_01 w) (ktrTop dp un gd "law" scope L fa cdv (cellsFrom (L + 1) scope.names []) outer) (letOwnedTupleGo (.Tuple [.Name "under" p1, .Name "message" p2] kk tp) (.ref I) v) (fun _ s' => wpAny (model pw_sr0088_01 w) (ktrTop dp un gd "law" scope L fa cdv (cellsFrom (L + 1) scope.names []) outer) (assign (.Tuple [.Name "under" p1, .Name "message" p2] kk tp) (envOfC "law" scope L fa cdv) v) (fun _ s'' => wpAny (model pw_sr0088_01 w) (ktrTop dp un gd "law" scope L fa cdv (cellsFrom (L + 1) scope.names []) outer) (execs lb (envOfC "law" scope L fa cdv)) (fun f s₃ => FEnd g L (fun m' r' => (lst, W.listOf #[Value.ref a1, Value.ref a2, Value.ref a3, Value.ref a4] 0) ∈ r' /\ LastJ L le xe dxe lt xt dxt lr lw ln rp ldu sl toe tot ta tb tc w ve vt vr vw vn vd ne nt nr nw nn nd q1 q2 q3 q4 q5 q6 ([(lst, W.listOf #[Value.ref a1, Value.ref a2, Value.ref a3, Value.ref a4] 0), (a4, hdrTup "es" t7 "a" t8), (a3, hdrTup "E" t5 "a" t6), (a2, hdrTup "ES" t3 lg t4), (a1, hdrTup "e" t1 lg t2)] ++ R) ns m' r') I oI { s with heap := h, toks := tk } Q f s₃) E s'') E s') E { s with heap := h, toks := tk } := by
   rintro T rfl un7 msg u1 u2 AO hTm
   refine wpAny_mono (key un7 msg u1 u2 T AO hTm i I oI h tk m₁ rest₁ hl hJ hnr hLi F₁ N₁) (fun _ s' q => wpAny_mono q (fun _ s'' q => wpAny_mono q (fun f s₃ q => ?_) fun _ _ e => e) fun _ _ e => e) fun _ _ e => e
   have up : (∃ h' tk' m' rest', s₃ = { s with heap := h', toks := tk' } /\ Fr g L h' m' /\ News g L h' ((I, oI) :: rest') /\ (∀ p ∈ rest', p.1 ≠ I) /\ LastJ L le xe dxe lt xt dxt lr lw ln rp ldu sl toe tot ta tb tc w ve vt vr vw vn vd ne nt nr nw nn nd q1 q2 q3 q4 q5 q6 ([(lst, W.listOf #[Value.ref a1, Value.ref a2, Value.ref a3, Value.ref a4] 0), (a4, hdrTup "es" t7 "a" t8), (a3, hdrTup "E" t5 "a" t6), (a2, hdrTup "ES" t3 lg t4), (a1, hdrTup "e" t1 lg t2)] ++ R) ns m' rest') -> ∃ h' tk' m' rest', s₃ = { s with heap := h', toks := tk' } /\ Fr g L h' m' /\ News g L h' ((I, oI) :: rest') /\ (∀ p ∈ rest', p.1 ≠ I) /\ (lst, W.listOf #[Value.ref a1, Value.ref a2, Value.ref a3, Value.ref a4] 0) ∈ rest' /\ LastJ L le xe dxe lt xt dxt lr lw ln rp ldu sl toe tot ta tb tc w ve vt vr vw vn vd ne nt nr nw nn nd q1 q2 q3 q4 q5 q6 ([(lst, W.listOf #[Value.ref a1, Value.ref a2, Value.ref a3, Value.ref a4] 0), (a4, hdrTup "es" t7 "a" t8), (a3, hdrTup "E" t5 "a" t6), (a2, hdrTup "ES" t3 lg t4), (a1, hdrTup "e" t1 lg t2)] ++ R) ns m' rest' := by
     (refine xq4 fun h' tk' m' rest' => ?_; refine aq5 fun e F' N' n' => ?_; intro J')
     refine ⟨h', tk', m', rest', e, F', N', n', ?_, J'⟩
     (revert J'; refine xq4 fun q7' q8' v7' v8' => ?_; refine aq2 fun eQ => ?_; subst eQ; refine aq3 fun _ _ => ?_; intro _)
     exact List.Mem.tail _ (.tail _ (.tail _ (.tail _ (.tail _ (.tail _ (.tail _ (.tail _ (.tail _ (.tail _ (.tail _ (.tail _ (.tail _ (.tail _ (.tail _ (.tail _ (.tail _ (.tail _ (.tail _ (List.mem_append_left _ (.head _))))))))))))))))))))
   cases f with
   | ret v => exact q
   | brk => exact q
   | next => exact up q
   | cont => exact up q
 match i, hv with
 | 0, hv => exact fin a1 (Option.some.inj hv).symm _ _ t1 t2 AO1 (by simp)
 | 1, hv => exact fin a2 (Option.some.inj hv).symm _ _ t3 t4 AO2 (by simp)
 | 2, hv => exact fin a3 (Option.some.inj hv).symm _ _ t5 t6 AO3 (by simp)
 | 3, hv => exact fin a4 (Option.some.inj hv).symm _ _ t7 t8 AO4 (by simp)
 | i + 4, hv => cases hv
end loopHN
theorem loopHH : loopHS (gen LPE loopHS) := by with_unfolding_all exact @loopHN.main
theorem loopH {w dp un gd outer A₀ base L s p loose mean mg mb E g sl fa cdv le xe dxe lt xt dxt lr lw ln rp ldu toe tot ta tb tc ve vt vr vw vn vd ne nt nr nw nn nd q1 q2 q3 q4 q5 q6 q7 q8 R tl ns lst a1 a2 a3 a4 t1 t2 t3 t4 t5 t6 t7 t8 lg v7 v8 Q p1 p2 tp kk m} : loopHQ w dp un gd outer A₀ base L s p loose mean mg mb E g sl fa cdv le xe dxe lt xt dxt lr lw ln rp ldu toe tot ta tb tc ve vt vr vw vn vd ne nt nr nw nn nd q1 q2 q3 q4 q5 q6 q7 q8 R tl ns lst a1 a2 a3 a4 t1 t2 t3 t4 t5 t6 t7 t8 lg v7 v8 Q p1 p2 tp kk m := @all_gen LP LPE loopHS @loopHH { lp0 with w, dp, un, gd, outer, A₀, base, L, s, p, loose, mean, mg, mb, E, g, sl, fa, cdv, le, xe, dxe, lt, xt, dxt, lr, lw, ln, rp, ldu, toe, tot, ta, tb, tc, ve, vt, vr, vw, vn, vd, ne, nt, nr, nw, nn, nd, q1, q2, q3, q4, q5, q6, q7, q8, R, tl, ns, lst, a1, a2, a3, a4, t1, t2, t3, t4, t5, t6, t7, t8, lg, v7, v8, Qx1 := Q, p1, p2, tp, kk, m }
end
section
noncomputable abbrev partHQ (w : World) (dp un : Nat) (gd : Option (List Code)) (outer : List Env) (A₀ : Around) (base : Heap) (L : Addr) (s : Shared) (p : Program) (loose : List Str) (mean : ExcName -> Option Value) (mg mb : Str -> Option Value) (E : Value -> Shared -> Prop) (g : Heap) (sl fa : Addr) (cdv : Value) (le xe dxe lt xt dxt lr lw ln rp ldu : Addr) (toe tot ta tb tc : Tok) (ve vt vr vw vn vd : List Value) (ne nt nr nw nn nd : Nat) (q1 q2 q3 q4 q5 q6 q7 q8 : Obj) (R tl : List (Addr × Obj)) (ns : List Int) (om : Str -> Option Value) (lg : Str) (tlg : Tok) (v7 v8 : Option Value) : Prop := ∀ {scope : Scope} {lb : List Stmt} (hlb : ((fdB (stm pw_sr0088_01 22)).drop 9).take 2 = lb) (hsc : fdS (stm pw_sr0088_01 22) = scope) (hE : PassesOwn (model pw_sr0088_01 w) (ktrTop dp un gd "law" scope L fa cdv (cellsFrom (L + 1) scope.names []) outer) (envOfC "law" scope L fa cdv) E) (C : Cx w dp un scope outer A₀ base g L (fun (y : Str) => if y = "places" then some (.ref rp) else if y = "over" then om y else if y = "rows" then om y else if y = "longer" then some (.str lg tlg) else if y = "caught" then om y else if y = "taken" then om y else if y = "table" then some (.ref xt) else if y = "every" then some (.ref xe) else if y = "script" then some (.ref sl) else om y) s.heap p loose mean mg mb 40) (N : News g L s.heap ((ldu, W.listOf vd.toArray nd) :: (rp, rngObj (ns.length : Int) ta tb tc) :: (le, W.listOf ve.toArray ne) :: (xe, instObj 182 dxe) :: (dxe, hdD w.params toe le) :: (lt, W.listOf vt.toArray nt) :: (xt, instObj 182 dxt) :: (dxt, hdD w.params tot lt) :: (lr, W.listOf vr.toArray nr) :: (lw, W.listOf vw.toArray nw) :: (ln, W.listOf vn.toArray nn) :: (L + 1 + 1 + 1 + 1 + 1 + 1 + 1 + 1, q8) :: (L + 1 + 1 + 1 + 1 + 1 + 1 + 1, q7) :: (L + 1 + 1 + 1 + 1 + 1 + 1, q6) :: (L + 1 + 1 + 1 + 1 + 1, q5) :: (L + 1 + 1 + 1 + 1, q4) :: (L + 1 + 1 + 1, q3) :: (L + 1 + 1, q2) :: (L + 1, q1) :: R)) (offR : OwnOff R [ldu, rp, le, xe, dxe, lt, xt, dxt, lr, lw, ln, L + 1 + 1 + 1 + 1 + 1 + 1 + 1 + 1, L + 1 + 1 + 1 + 1 + 1 + 1 + 1, L + 1 + 1 + 1 + 1 + 1 + 1, L + 1 + 1 + 1 + 1 + 1, L + 1 + 1 + 1 + 1, L + 1 + 1 + 1, L + 1 + 1, L + 1]) (hord : (@LT.lt Nat _ (L + 1 + 1 + 1 + 1 + 1 + 1 + 1 + 1) ln) /\ (@LT.lt Nat _ ln lw) /\ (@LT.lt Nat _ lw lr) /\ (@LT.lt Nat _ lr dxt) /\ (@LT.lt Nat _ dxt xt) /\ (@LT.lt Nat _ xt lt) /\ (@LT.lt Nat _ lt dxe) /\ (@LT.lt Nat _ dxe xe) /\ (@LT.lt Nat _ xe le) /\ (@LT.lt Nat _ le rp) /\ (@LT.lt Nat _ rp ldu)) (d1 : q1.data = Data.cell (some (Value.ref ln))) (d2 : q2.data = Data.cell (some (Value.ref lw))) (d3 : q3.data = Data.cell (some (Value.ref lr))) (d7 : q7.data = Data.cell v7) (d8 : q8.data = Data.cell v8) (hns : ns.length <= 6) (hvn : StrsAre vn (ns.map nameZ)) (hvw : StrsAre vw (ns.map wantZ)) (htl : ∀ p ∈ tl, p ∈ R) (hrd : RdsL w tl vr (ns.map wantZ)) (hokA : ∀ j, j < ns.length -> okW (wtA ns j) = true /\ stayOf (wtA ns j) < 2 ^ 20) (AO1 : AskOk ns "e" lg) (AO2 : AskOk ns "ES" lg) (AO3 : AskOk ns "E" "a") (AO4 : AskOk ns "es" "a") (hT : HItL tl vt (tabZ ns)) (hTv : vt.length <= 32) (hTl : ∀ p ∈ tabZ ns, p.1.length <= 16) (hEv : HItL tl ve (evZ ns)) (hEvv : ve.length <= 32) (hEvl : ∀ p ∈ evZ ns, p.1.length <= 16) (hWp : ∀ k, PlainT (wtA ns k)), wpAny (model pw_sr0088_01 w) (ktrTop dp un gd "law" scope L fa cdv (cellsFrom (L + 1) scope.names []) outer) (execs lb (envOfC "law" scope L fa cdv)) (fun f s' => f = .ret (.bool true) /\ Hold (∃ (h' : Heap) (tk' : Nat), s' = { s with heap := h', toks := tk' } /\ ∀ b o, g.get? b = some o -> h'.get? b = some o)) E s
noncomputable def partHS (x : LP) : Prop := partHQ x.w x.dp x.un x.gd x.outer x.A₀ x.base x.L x.s x.p x.loose x.mean x.mg x.mb x.E x.g x.sl x.fa x.cdv x.le x.xe x.dxe x.lt x.xt x.dxt x.lr x.lw x.ln x.rp x.ldu x.toe x.tot x.ta x.tb x.tc x.ve x.vt x.vr x.vw x.vn x.vd x.ne x.nt x.nr x.nw x.nn x.nd x.q1 x.q2 x.q3 x.q4 x.q5 x.q6 x.q7 x.q8 x.R x.tl x.ns x.om x.lg x.tlg x.v7 x.v8
@[irreducible] noncomputable def partHC : LP := gen LPE partHS
namespace partHN
noncomputable section
 def g := partHC.g
end
theorem main : partHQ partHC.w partHC.dp partHC.un partHC.gd partHC.outer partHC.A₀ partHC.base partHC.L partHC.s partHC.p partHC.loose partHC.mean partHC.mg partHC.mb partHC.E g partHC.sl partHC.fa partHC.cdv partHC.le partHC.xe partHC.dxe partHC.lt partHC.xt partHC.dxt partHC.lr partHC.lw partHC.ln partHC.rp partHC.ldu partHC.toe partHC.tot partHC.ta partHC.tb partHC.tc partHC.ve partHC.vt partHC.vr partHC.vw partHC.vn partHC.vd partHC.ne partHC.nt partHC.nr partHC.nw partHC.nn partHC.nd partHC.q1 partHC.q2 partHC.q3 partHC.q4 partHC.q5 partHC.q6 partHC.q7 partHC.q8 partHC.R partHC.tl partHC.ns partHC.om partHC.lg partHC.tlg partHC.v7 partHC.v8 := by
 intro scope lb hlb hsc
 have hlb1 := hlb
 have hsc1 := hsc
 conv at hlb => lhs; whnf
 conv at hsc => lhs; whnf
 subst hlb hsc
 intro hE C N offR hord d1 d2 d3 d7 d8 hns hvn hvw htl hrd hokA AO1 AO2 AO3 AO4 hT hTv hTl hEv hEvv hEvl hWp
 obtain ⟨B', F', X', T', hk', hd', hu'⟩ := C
 have hord0 := hord
 (revert hord; refine aq9 fun r1 r2 r3 r4 r5 r6 r7 r8 => ?_; refine aq3 fun r9 r10 => ?_; intro r11)
 (try dsimp only)
 (try k_fold)
 k_with "exec For Tuple List cons nil" => (with_unfolding_all refine' For_G (h₀ := g) ?_ ?k1 ?k2; (case k1 => exact fun _ => rfl); (case k2 => exact hE))
 k_with "pyIter ref" => ((rename Fr g _ _ _ => lF); (rename News g _ _ _ => lN); (k_dflt refine' loopH rfl hsc1 hE rfl B' X' T' hk' hd' hu' offR hord0 d1 d2 d3 d7 d8 hns hvn hvw htl hrd hokA AO1 AO2 AO3 AO4 hT hTv hTl hEv hEvv hEvl hWp lF ⟨rfl, rfl, rfl, rfl⟩ lN ?o1 ?o2 ?o3 ?o4 ?o5 ?done); (case o1 => lia); (case o2 => lia); (case o3 => lia); (case o4 => lia); (case o5 => lia); (case' done => (intro m₁ h5 tk5 F₁)))
 k_steps
 k_with_none
 (rename Fr g _ _ _ => lF9)
 exact ⟨_, _, rfl, lF9.keep⟩
end partHN
theorem partHH : partHS (gen LPE partHS) := by with_unfolding_all exact @partHN.main
theorem partH {w dp un gd outer A₀ base L s p loose mean mg mb E g sl fa cdv le xe dxe lt xt dxt lr lw ln rp ldu toe tot ta tb tc ve vt vr vw vn vd ne nt nr nw nn nd q1 q2 q3 q4 q5 q6 q7 q8 R tl ns om lg tlg v7 v8} : partHQ w dp un gd outer A₀ base L s p loose mean mg mb E g sl fa cdv le xe dxe lt xt dxt lr lw ln rp ldu toe tot ta tb tc ve vt vr vw vn vd ne nt nr nw nn nd q1 q2 q3 q4 q5 q6 q7 q8 R tl ns om lg tlg v7 v8 := @all_gen LP LPE partHS @partHH { lp0 with w, dp, un, gd, outer, A₀, base, L, s, p, loose, mean, mg, mb, E, g, sl, fa, cdv, le, xe, dxe, lt, xt, dxt, lr, lw, ln, rp, ldu, toe, tot, ta, tb, tc, ve, vt, vr, vw, vn, vd, ne, nt, nr, nw, nn, nd, q1, q2, q3, q4, q5, q6, q7, q8, R, tl, ns, om, lg, tlg, v7, v8 }
end
noncomputable def allNs (script : List Int) : List Int := [26024, 44972, 86677] ++ (script.take 3).map (fun x => x.fmod 1000000)
theorem allNs_len (script : List Int) : (allNs script).length <= 6 := by unfold allNs; simp; lia
section
noncomputable abbrev loop0Q (w : World) (dp un : Nat) (gd : Option (List Code)) (outer : List Env) (A₀ : Around) (base : Heap) (L : Addr) (s : Shared) (p : Program) (loose : List Str) (mean : ExcName -> Option Value) (mg mb : Str -> Option Value) (E : Value -> Shared -> Prop) (g : Heap) (sl fa lp : Addr) (cdv : Value) (le xe dxe lt xt dxt lr lw ln : Addr) (toe tot : Tok) (q1 q2 q3 q4 q5 q6 q7 q8 : Obj) (m : Str -> Option Value) (allV : List Value) (script : List Int) (v4 : Option Value) (Q : Flow -> Shared -> Prop) : Prop := ∀ {scope : Scope} {lb : List Stmt} (hlb : forBody ((fdB (stm pw_sr0088_01 22)).getD 2 (.Pass default)) = lb) (hlen : lb.length = 11) (hsc : fdS (stm pw_sr0088_01 22) = scope) (hE : PassesOwn (model pw_sr0088_01 w) (ktrTop dp un gd "law" scope L fa cdv (cellsFrom (L + 1) scope.names []) outer) (envOfC "law" scope L fa cdv) E) (hh : (ktrTop dp un gd "law" scope L fa cdv (cellsFrom (L + 1) scope.names []) outer).handled = none) (B' : Below A₀ base outer g) (X' : (K w.params).In g) (T' : Top p loose mean mg mb g) (hk' : scope.kind = .function) (hd' : dp + 40 < recursionLimit) (hu' : un + 10 * 40 < cLine) (hord : (@LT.lt Nat _ (L + 1 + 1 + 1 + 1 + 1 + 1 + 1 + 1) ln) /\ (@LT.lt Nat _ ln lw) /\ (@LT.lt Nat _ lw lr) /\ (@LT.lt Nat _ lr dxt) /\ (@LT.lt Nat _ dxt xt) /\ (@LT.lt Nat _ xt lt) /\ (@LT.lt Nat _ lt dxe) /\ (@LT.lt Nat _ dxe xe) /\ (@LT.lt Nat _ xe le)) (olp : @LT.lt Nat _ le lp) (d1 : q1.data = Data.cell (some (Value.ref ln))) (d2 : q2.data = Data.cell (some (Value.ref lw))) (d3 : q3.data = Data.cell (some (Value.ref lr))) (d4 : q4.data = Data.cell v4) (hall : ∀ k ∈ allNs script, RowOk k) (hA : IntsAre allV (allNs script)) (F : Fr g L s.heap m) (M : LocM xt xe (bindL (envOfC "law" scope L fa cdv).kindOf [("script", .ref sl)] (fun _ => none)) m) (N : News g L s.heap ((le, W.listOf #[] 0) :: (xe, instObj 182 dxe) :: (dxe, hdD w.params toe le) :: (lt, W.listOf #[] 0) :: (xt, instObj 182 dxt) :: (dxt, hdD w.params tot lt) :: (lr, W.listOf #[] 0) :: (lw, W.listOf #[] 0) :: (ln, W.listOf #[] 0) :: (L + 1 + 1 + 1 + 1 + 1 + 1 + 1 + 1, q8) :: (L + 1 + 1 + 1 + 1 + 1 + 1 + 1, q7) :: (L + 1 + 1 + 1 + 1 + 1 + 1, q6) :: (L + 1 + 1 + 1 + 1 + 1, q5) :: (L + 1 + 1 + 1 + 1, q4) :: (L + 1 + 1 + 1, q3) :: (L + 1 + 1, q2) :: (L + 1, q1) :: [(lp, W.listOf allV.toArray 0)])) (done : ∀ m₁ nx h tk, LocM xt xe (bindL (envOfC "law" scope L fa cdv).kindOf [("script", .ref sl)] (fun _ => none)) m₁ -> LawSt w L le xe dxe lt xt dxt lr lw ln toe tot q1 q2 q3 q5 q6 q7 q8 (lp, W.listOf (List.toArray allV) 0) (allNs script) nx -> Fr g L h m₁ -> News g L h nx -> Q .next { s with heap := h, toks := tk }), wpAny (model pw_sr0088_01 w) (ktrTop dp un gd "law" scope L fa cdv (cellsFrom (L + 1) scope.names []) outer) (pyIter (.ref lp)) (fun it s₂ => LoopAtV pw_sr0088_01 w (ktrTop dp un gd "law" scope L fa cdv (cellsFrom (L + 1) scope.names []) outer) g (envOfC "law" scope L fa cdv) "n" lb Q E it s₂) E s
noncomputable def loop0S (x : LP) : Prop := loop0Q x.w x.dp x.un x.gd x.outer x.A₀ x.base x.L x.s x.p x.loose x.mean x.mg x.mb x.E x.g x.sl x.fa x.lp x.cdv x.le x.xe x.dxe x.lt x.xt x.dxt x.lr x.lw x.ln x.toe x.tot x.q1 x.q2 x.q3 x.q4 x.q5 x.q6 x.q7 x.q8 x.m x.allV x.script x.v4 x.Qx1
@[irreducible] noncomputable def loop0C : LP := gen LPE loop0S
namespace loop0N
noncomputable section
 def w := loop0C.w
 def L := loop0C.L
 def s := loop0C.s
 def p := loop0C.p
 def g := loop0C.g
 def sl := loop0C.sl
 def fa := loop0C.fa
 def lp := loop0C.lp
 def cdv := loop0C.cdv
 def le := loop0C.le
 def xe := loop0C.xe
 def dxe := loop0C.dxe
 def lt := loop0C.lt
 def xt := loop0C.xt
 def dxt := loop0C.dxt
 def lr := loop0C.lr
 def lw := loop0C.lw
 def ln := loop0C.ln
 def toe := loop0C.toe
 def tot := loop0C.tot
 def q1 := loop0C.q1
 def q2 := loop0C.q2
 def q3 := loop0C.q3
 def q4 := loop0C.q4
 def q5 := loop0C.q5
 def q6 := loop0C.q6
 def q7 := loop0C.q7
 def q8 := loop0C.q8
 def m := loop0C.m
 def allV := loop0C.allV
 def script := loop0C.script
 def v4 := loop0C.v4
 def Q := loop0C.Qx1
end
theorem main : loop0Q w loop0C.dp loop0C.un loop0C.gd loop0C.outer loop0C.A₀ loop0C.base L s p loop0C.loose loop0C.mean loop0C.mg loop0C.mb loop0C.E g sl fa lp cdv le xe dxe lt xt dxt lr lw ln toe tot q1 q2 q3 q4 q5 q6 q7 q8 m allV script v4 Q := by
 intro scope lb hlb hlen hsc hE hh B' X' T' hk' hd' hu' hord olp d1 d2 d3 d4 hall hA F M N done
 (have hQ := id hord; revert hQ; refine aq9 fun r1 r2 r3 r4 r5 r6 r7 r8 => ?_; intro r9)
 have hvl : allV.length = (allNs script).length := IntsAre.length hA
 have st0 : LawSt w L le xe dxe lt xt dxt lr lw ln toe tot q1 q2 q3 q5 q6 q7 q8 (lp, W.listOf (List.toArray allV) 0) ([] : List Int) ((le, W.listOf #[] 0) :: (xe, instObj 182 dxe) :: (dxe, hdD w.params toe le) :: (lt, W.listOf #[] 0) :: (xt, instObj 182 dxt) :: (dxt, hdD w.params tot lt) :: (lr, W.listOf #[] 0) :: (lw, W.listOf #[] 0) :: (ln, W.listOf #[] 0) :: (L + 1 + 1 + 1 + 1 + 1 + 1 + 1 + 1, q8) :: (L + 1 + 1 + 1 + 1 + 1 + 1 + 1, q7) :: (L + 1 + 1 + 1 + 1 + 1 + 1, q6) :: (L + 1 + 1 + 1 + 1 + 1, q5) :: (L + 1 + 1 + 1 + 1, q4) :: (L + 1 + 1 + 1, q3) :: (L + 1 + 1, q2) :: (L + 1, q1) :: [(lp, W.listOf allV.toArray 0)]) := by
   refine ⟨[], [], [], [], [], 0, 0, 0, 0, 0, q4, v4, [(lp, W.listOf allV.toArray 0)], rfl, d4, .head _, ?_, .nil, .nil, .nil, .nil, .nil⟩
   intro p hp b hb
   rw [List.mem_singleton.mp hp]
   simp only [List.mem_cons, List.not_mem_nil, or_false] at hb
   dsimp only
   rcases hb with rfl | rfl | rfl | rfl | rfl | rfl | rfl | rfl | rfl | rfl | rfl | rfl | rfl | rfl | rfl | rfl | rfl <;> (intro e; have e' : @Eq Nat _ _ := e; lia)
 refine iter_any (vs := allV) (nn := 0) (news := (le, W.listOf #[] 0) :: (xe, instObj 182 dxe) :: (dxe, hdD w.params toe le) :: (lt, W.listOf #[] 0) :: (xt, instObj 182 dxt) :: (dxt, hdD w.params tot lt) :: (lr, W.listOf #[] 0) :: (lw, W.listOf #[] 0) :: (ln, W.listOf #[] 0) :: (L + 1 + 1 + 1 + 1 + 1 + 1 + 1 + 1, q8) :: (L + 1 + 1 + 1 + 1 + 1 + 1 + 1, q7) :: (L + 1 + 1 + 1 + 1 + 1 + 1, q6) :: (L + 1 + 1 + 1 + 1 + 1, q5) :: (L + 1 + 1 + 1 + 1, q4) :: (L + 1 + 1 + 1, q3) :: (L + 1 + 1, q2) :: (L + 1, q1) :: [(lp, W.listOf allV.toArray 0)]) (fun i m nx => LocM xt xe (bindL (envOfC "law" scope L fa cdv).kindOf [("script", .ref sl)] (fun _ => none)) m /\ LawSt w L le xe dxe lt xt dxt lr lw ln toe tot q1 q2 q3 q5 q6 q7 q8 (lp, W.listOf (List.toArray allV) 0) ((allNs script).take i) nx) hh (by simp) F N ⟨M, st0⟩ ?_ ?_
 . rintro i v m₁ news₁ h tk own hv _ hoff hl ⟨M₁, St₁⟩ F₁ N₁
   obtain ⟨n, tn, rfl, hn⟩ := ints_item hA hv
   have hi : i < (allNs script).length := (List.getElem?_eq_some_iff.mp hn).1
   have hi6 := allNs_len script
   have htk : (allNs script).take (i + 1) = (allNs script).take i ++ [n] := by rw [List.take_add_one, hn]; rfl
   refine wpAny_mono (turn_all (s := { s with heap := h, toks := tk }) (Q := Q) (hall n (List.mem_of_getElem? hn)) (by rw [List.length_take]; lia) (fun k hk => hall k (List.mem_of_mem_take hk)) hlb hlen hsc hE ⟨B', F₁, X', T', hk', hd', hu'⟩ M₁ N₁ St₁ hoff hord d1 d2 d3) (fun f s₂ q => ?_) fun _ _ e => e
   have up : ∀ {s₂ : Shared}, InvEndG g L (fun m' nx' => LocM xt xe (bindL (envOfC "law" scope L fa cdv).kindOf [("script", .ref sl)] (fun _ => none)) m' /\ LawSt w L le xe dxe lt xt dxt lr lw ln toe tot q1 q2 q3 q5 q6 q7 q8 (lp, W.listOf (List.toArray allV) 0) ((allNs script).take i ++ [n]) nx') own { s with heap := h, toks := tk } s₂ -> InvEndG g L (fun m' nx => (lp, W.listOf allV.toArray 0) ∈ nx /\ LocM xt xe (bindL (envOfC "law" scope L fa cdv).kindOf [("script", .ref sl)] (fun _ => none)) m' /\ LawSt w L le xe dxe lt xt dxt lr lw ln toe tot q1 q2 q3 q5 q6 q7 q8 (lp, W.listOf (List.toArray allV) 0) ((allNs script).take (i + 1)) nx) own { s with heap := h, toks := tk } s₂ := by
     (intro s₂; refine xq5 fun h' tk' m' news' nx => ?_; refine aq8 fun e F' N' hn' ho ha M' => ?_; intro St')
     refine ⟨h', tk', m', news', nx, e, F', N', hn', ho, ha, ?_, M', by rw [htk]; exact St'⟩
     (revert St'; refine xq8 fun ve vt vr vw vn ne nt nr => ?_; refine xq5 fun nw nn q4 v4 tl => ?_; refine aq2 fun eQ => ?_; subst eQ; refine aq3 fun _ hkp => ?_; intro _)
     exact List.mem_append_right _ hkp
   cases f with
   | ret v => exact q
   | brk => exact q
   | next => exact up q
   | cont => exact up q
 . rintro m₁ news₁ h tk _ ⟨M₁, St₁⟩ F₁ N₁
   rw [hvl, List.take_length] at St₁
   exact done m₁ news₁ h tk M₁ St₁ F₁ N₁
end loop0N
theorem loop0H : loop0S (gen LPE loop0S) := by with_unfolding_all exact @loop0N.main
theorem loop0 {w dp un gd outer A₀ base L s p loose mean mg mb E g sl fa lp cdv le xe dxe lt xt dxt lr lw ln toe tot q1 q2 q3 q4 q5 q6 q7 q8 m allV script v4 Q} : loop0Q w dp un gd outer A₀ base L s p loose mean mg mb E g sl fa lp cdv le xe dxe lt xt dxt lr lw ln toe tot q1 q2 q3 q4 q5 q6 q7 q8 m allV script v4 Q := @all_gen LP LPE loop0S @loop0H { lp0 with w, dp, un, gd, outer, A₀, base, L, s, p, loose, mean, mg, mb, E, g, sl, fa, lp, cdv, le, xe, dxe, lt, xt, dxt, lr, lw, ln, toe, tot, q1, q2, q3, q4, q5, q6, q7, q8, m, allV, script, v4, Qx1 := Q }
end
theorem xi7 {A B C D E F H : Type} {P : A -> B -> C -> D -> E -> F -> H -> Prop} (a : A) (b : B) (c : C) (d : D) (e : E) (f : F) (g : H) (q : P a b c d e f g) : ∃ a b c d e f g, P a b c d e f g := ⟨a, b, c, d, e, f, g, q⟩
theorem xi8 {A B C D E F H I : Type} {P : A -> B -> C -> D -> E -> F -> H -> I -> Prop} (a : A) (b : B) (c : C) (d : D) (e : E) (f : F) (g : H) (i : I) (q : P a b c d e f g i) : ∃ a b c d e f g i, P a b c d e f g i := ⟨a, b, c, d, e, f, g, i, q⟩
theorem filt_tt {α : Type} (l : List α) : l.filter (fun _ => true) = l := List.filter_eq_self.mpr fun _ _ => rfl
theorem carried3 {ys : List Value} {script : List Int} {f : Int -> PyData} (h : CarriedAll ys (((script.take 3).filter (fun _ => true)).map f)) : ys.length <= 3 := by
 have := h.length_eq
 rw [filt_tt, List.length_map, List.length_take] at this
 lia
theorem all_ints {ys : List Value} {script : List Int} {t1 t2 t3 : Tok} (h : CarriedAll ys (((script.take 3).filter (fun _ => true)).map (fun a => PyData.int (a.fmod (10 ^ Int.toNat 6))))) : IntsAre ([Value.int 26024 t1, .int 44972 t2, .int 86677 t3] ++ ys) (allNs script) := by
 have h2 := CarriedAll.intsOf (f := fun a : Int => a.fmod (10 ^ Int.toNat 6)) h
 rw [filt_tt] at h2
 exact .cons _ _ (.cons _ _ (.cons _ _ h2))
theorem news_pick {g h : Heap} {L : Addr} {lp e1 e2 e3 e4 a0 a1 a2 a3 a4 a5 b0 b1 b2 b3 b4 b5 b6 b7 b8 b9 b10 : Addr × Obj} (N : News g L h (lp :: e1 :: e2 :: e3 :: a0 :: a1 :: a2 :: a3 :: a4 :: a5 :: e4 :: b0 :: b1 :: b2 :: b3 :: b4 :: b5 :: b6 :: b7 :: b8 :: b9 :: b10 :: [])) : News g L h (a0 :: a1 :: a2 :: a3 :: a4 :: a5 :: b0 :: b1 :: b2 :: b3 :: b4 :: b5 :: b6 :: b7 :: b8 :: b9 :: b10 :: [lp]) := fun p hp => N p (by
 have hp' : p ∈ [a0, a1, a2, a3, a4, a5] ++ ([b0, b1, b2, b3, b4, b5, b6, b7, b8, b9, b10] ++ [lp]) := hp
 show p ∈ [lp, e1, e2, e3] ++ ([a0, a1, a2, a3, a4, a5] ++ ([e4] ++ [b0, b1, b2, b3, b4, b5, b6, b7, b8, b9, b10]))
 rcases List.mem_append.mp hp' with h | h
 . exact List.mem_append_right _ (List.mem_append_left _ h)
 . rcases List.mem_append.mp h with h | h
   . exact List.mem_append_right _ (List.mem_append_right _ (List.mem_append_right _ h))
   . rw [List.mem_singleton.mp h]; exact List.mem_append_left _ (.head _))
section
noncomputable abbrev part0Q (w : World) (dp un : Nat) (gd : Option (List Code)) (outer : List Env) (A₀ : Around) (base : Heap) (L : Addr) (s : Shared) (p : Program) (loose : List Str) (mean : ExcName -> Option Value) (mg mb : Str -> Option Value) (E : Value -> Shared -> Prop) (g : Heap) (sl fa : Addr) (vs : List Value) (script : List Int) (cdv : Value) : Prop := ∀ {cells : List (Addr × Obj)} {scope : Scope} {lb : List Stmt} (hlb : ((fdB (stm pw_sr0088_01 22)).drop 0).take 3 = lb) (hsc : fdS (stm pw_sr0088_01 22) = scope) (hsl : g.IsList sl vs.toArray) (hI : IntsAre vs script) (hlen : script.length <= 63) (hE : PassesOwn (model pw_sr0088_01 w) (ktrTop dp un gd "law" scope L fa cdv (cellsFrom (L + 1) scope.names []) outer) (envOfC "law" scope L fa cdv) E) (C : Cx w dp un scope outer A₀ base g L (bindL (envOfC "law" scope L fa cdv).kindOf [("script", .ref sl)] fun _ => none) s.heap p loose mean mg mb 40) (N : News g L s.heap cells) (Y : CellsAre (bindC (envOfC "law" scope L fa cdv).kindOf [("script", .ref sl)] fun _ => none) (cellsFrom (L + 1) scope.names []) cells) (hall : ∀ k ∈ allNs script, RowOk k), wpAny (model pw_sr0088_01 w) (ktrTop dp un gd "law" scope L fa cdv (cellsFrom (L + 1) scope.names []) outer) (execs lb (envOfC "law" scope L fa cdv)) (fun f s' => f = .next /\ Hold (∃ (h' : Heap) (tk' : Nat) (m' : Str -> Option Value) (le xe dxe lt xt dxt lr lw ln : Addr) (toe tot : Tok) (q1 q2 q3 q5 q6 q7 q8 : Obj) (kp : Addr × Obj) (nx : List (Addr × Obj)), s' = { s with heap := h', toks := tk' } /\ Fr g L h' m' /\ News g L h' nx /\ LocM xt xe (bindL (envOfC "law" scope L fa cdv).kindOf [("script", .ref sl)] (fun _ => none)) m' /\ LawSt w L le xe dxe lt xt dxt lr lw ln toe tot q1 q2 q3 q5 q6 q7 q8 kp (allNs script) nx /\ ((@LT.lt Nat _ (L + 1 + 1 + 1 + 1 + 1 + 1 + 1 + 1) ln) /\ (@LT.lt Nat _ ln lw) /\ (@LT.lt Nat _ lw lr) /\ (@LT.lt Nat _ lr dxt) /\ (@LT.lt Nat _ dxt xt) /\ (@LT.lt Nat _ xt lt) /\ (@LT.lt Nat _ lt dxe) /\ (@LT.lt Nat _ dxe xe) /\ (@LT.lt Nat _ xe le)) /\ q1.data = Data.cell (some (Value.ref ln)) /\ q2.data = Data.cell (some (Value.ref lw)) /\ q3.data = Data.cell (some (Value.ref lr)) /\ (∃ v, q5.data = Data.cell v) /\ (∃ v, q6.data = Data.cell v) /\ (∃ v, q7.data = Data.cell v) /\ (∃ v, q8.data = Data.cell v))) E s
noncomputable def part0S (x : LP) : Prop := part0Q x.w x.dp x.un x.gd x.outer x.A₀ x.base x.L x.s x.p x.loose x.mean x.mg x.mb x.E x.g x.sl x.fa x.vs x.script x.cdv
@[irreducible] noncomputable def part0C : LP := gen LPE part0S
namespace part0N
noncomputable section
 def g := part0C.g
 def script := part0C.script
end
theorem main : part0Q part0C.w part0C.dp part0C.un part0C.gd part0C.outer part0C.A₀ part0C.base part0C.L part0C.s part0C.p part0C.loose part0C.mean part0C.mg part0C.mb part0C.E g part0C.sl part0C.fa part0C.vs script part0C.cdv := by
 intro cells scope lb hlb hsc
 have hlb1 := hlb
 have hsc1 := hsc
 conv at hlb => lhs; whnf
 conv at hsc => lhs; whnf
 subst hlb hsc
 intro hsl hI hlen hE C N Y hall
 obtain ⟨B', F', X', T', hk', hd', hu'⟩ := C
 k_cells Y
 (try dsimp only)
 (try k_fold)
 k_with "call ref" => ((rename Fr g _ _ _ => lF); (rename News g _ _ _ => lN); first
   | ((k_dflt refine' new_ok (Cx.le ⟨B', lF, X', T', hk', hd', hu'⟩ (by decide)) lN ?_); (intro h2 tk2 x dx l to lF2 lN2 hn hlt hlt2; (try k_lt hn)); k_whole))
 k_with "binaryOp Add ref ref" => ((rename Fr g _ _ _ => lF); (rename News g _ _ _ => lN); (rename CarriedAll _ _ => hCA); (have hltA := news_lt lN); (rename NewPlain _ _ _ _ => hNP); (k_dflt refine' add_lists lF lN ?hl ?hb ?_ ?hz); (case hl => k_dflt exact ⟨_, (lN _ (.tail _ (.head _))).1, rfl, _, rfl⟩); (case hb => assumption); (case hz => ((have h3 := carried3 hCA); (show 3 + _ <= _); (rw [sizeLine_eq]); lia)); (intro h5 lF5 lN5))
 k_with "exec For Name BinOp cons nil" => ((rename Fr _ _ _ _ => lF'); (with_unfolding_all refine' For_invVF lF' ?k1 ?k2 ?_; (case k1 => exact rfl); (case k2 => exact rfl); k_whole))
 k_with "pyIter ref" => ((rename Fr g _ _ _ => lF); (rename News g _ _ _ => lN); (k_dflt refine' loop0 (script := script) rfl rfl hsc1 hE rfl B' X' T' hk' hd' hu' ?ord ?olp ?e1 ?e2 ?e3 ?e4 hall ?hA lF ?M (news_pick lN) ?done); (case e1 => assumption); (case e2 => assumption); (case e3 => assumption); (case e4 => assumption); (case olp => k_dflt exact hltA _ (.tail _ (.tail _ (.tail _ (.head _))))); (case ord => (refine ⟨?_, ?_, ?_, ?_, ?_, ?_, ?_, ?_, ?_⟩ <;> lia)); (case M => k_dflt exact ⟨rfl, rfl, fun y _ _ _ _ _ _ _ _ _ e9 e10 => (if_neg e9).trans (if_neg e10)⟩); (case hA => (k_dflt exact all_ints (by assumption))); (case' done => (intro m₁ nx h5 tk5 M₁ St₁ F₁ N₁)))
 k_steps
 k_with_none
 all_goals (with_unfolding_all refine wpAny_execs_nil ?_)
 refine ⟨rfl, xi8 h5 tk5 m₁ _ _ _ _ _ (xi8 _ _ _ _ _ _ _ _ (xi7 _ _ _ _ _ _ nx ⟨rfl, F₁, N₁, M₁, St₁, ?_, ?_, ?_, ?_, ?_, ?_, ?_, ?_⟩))⟩
 . refine ⟨?_, ?_, ?_, ?_, ?_, ?_, ?_, ?_, ?_⟩ <;> lia
 all_goals first | assumption | exact Exists.intro _ (by assumption)
end part0N
theorem part0H : part0S (gen LPE part0S) := by with_unfolding_all exact @part0N.main
theorem part0 {w dp un gd outer A₀ base L s p loose mean mg mb E g sl fa vs script cdv} : part0Q w dp un gd outer A₀ base L s p loose mean mg mb E g sl fa vs script cdv := @all_gen LP LPE part0S @part0H { lp0 with w, dp, un, gd, outer, A₀, base, L, s, p, loose, mean, mg, mb, E, g, sl, fa, vs, script, cdv }
end
structure PlainOk (script : List Int) : Prop where
 rows : ∀ k ∈ allNs script, RowOk k
 nm : ∀ k, k < (allNs script).length -> nmA (allNs script) k = Str.ofString "e" \/ nmA (allNs script) k = Str.ofString "es"
 d2 : 2 <= (dueZ (allNs script)).length
 items : tabZ (allNs script) = (sortK (allNs script)).map (fun k => (shownZ (lastZ (allNs script) k) (nmA (allNs script) k), wtA (allNs script) k))
 ok : ∀ j, j < (allNs script).length -> okW (wtA (allNs script) j) = true /\ stayOf (wtA (allNs script) j) < 2 ^ 20
 okT : ∀ p ∈ tabZ (allNs script), PlainT p.1 /\ PlainT p.2
 nl : ∀ k, (nmA (allNs script) k).length <= 2
 ul : ∀ k, (Txt.upper (nmA (allNs script) k)).length <= 2
 tl : ∀ p ∈ tabZ (allNs script), p.1.length <= 16
 el : ∀ p ∈ evZ (allNs script), p.1.length <= 16
 wp : ∀ k, PlainT (wtA (allNs script) k)
 a1 : AskOk (allNs script) "e" (longZ script)
 a2 : AskOk (allNs script) "ES" (longZ script)
 a3 : AskOk (allNs script) "E" "a"
 a4 : AskOk (allNs script) "es" "a"
theorem five_parts {α : Type} {X : List α} (h : X.length = 11) : X = (X.drop 0).take 3 ++ ((X.drop 3).take 3 ++ ((X.drop 6).take 2 ++ ((X.drop 8).take 1 ++ (X.drop 9).take 2))) := by
 have e1 : (X.drop 9).take 2 = X.drop 9 := List.take_of_length_le (by rw [List.length_drop, h]; decide)
 have e2 : (X.drop 8).take 1 ++ X.drop 9 = X.drop 8 := by
   have := List.take_append_drop 1 (X.drop 8)
   rwa [List.drop_drop] at this
 have e3 : (X.drop 6).take 2 ++ X.drop 8 = X.drop 6 := by
   have := List.take_append_drop 2 (X.drop 6)
   rwa [List.drop_drop] at this
 have e4 : (X.drop 3).take 3 ++ X.drop 6 = X.drop 3 := by
   have := List.take_append_drop 3 (X.drop 3)
   rwa [List.drop_drop] at this
 rw [e1, e2, e3, e4, List.drop_zero, List.take_append_drop]
theorem mbe_form {xt xe sl : Addr} {m : Str -> Option Value} (h1 : m "table" = some (.ref xt)) (h2 : m "every" = some (.ref xe)) (h3 : m "script" = some (.ref sl)) : m = fun (y : Str) => if y = "table" then some (.ref xt) else if y = "every" then some (.ref xe) else if y = "script" then some (.ref sl) else m y := by
 funext y
 by_cases e1 : y = "table"
 . rw [if_pos e1, e1, h1]
 rw [if_neg e1]
 by_cases e2 : y = "every"
 . rw [if_pos e2, e2, h2]
 rw [if_neg e2]
 by_cases e3 : y = "script"
 . rw [if_pos e3, e3, h3]
 rw [if_neg e3]
theorem Loc2.formL {rp xt xe sl : Addr} {m : Str -> Option Value} {lv : Option Value} (h : Loc2 rp xt xe sl m) (hl : m "longer" = lv) : m = fun (y : Str) => if y = "places" then some (.ref rp) else if y = "over" then m y else if y = "rows" then m y else if y = "longer" then lv else if y = "caught" then m y else if y = "taken" then m y else if y = "table" then some (.ref xt) else if y = "every" then some (.ref xe) else if y = "script" then some (.ref sl) else m y := by
 refine h.form.trans ?_
 funext y
 by_cases e : y = "longer"
 . subst e
   rw [hl]
 . rw [if_neg e, if_neg e]
section
noncomputable abbrev law_okQ (w : World) (dp un : Nat) (gd : Option (List Code)) (outer : List Env) (A₀ : Around) (base : Heap) (L : Addr) (s : Shared) (p : Program) (loose : List Str) (mean : ExcName -> Option Value) (mg mb : Str -> Option Value) (E : Value -> Shared -> Prop) (g : Heap) (sl fa : Addr) (vs : List Value) (script : List Int) (cells : List (Addr × Obj)) (cdv : Value) : Prop := ∀ {scope : Scope} {lb : List Stmt} (hlb : fdB (stm pw_sr0088_01 22) = lb) (hll : lb.length = 11) (hsc : fdS (stm pw_sr0088_01 22) = scope) (PO : PlainOk script) (hsl : g.IsList sl vs.toArray) (hI : IntsAre vs script) (hlen : script.length <= 63) (hE : PassesOwn (model pw_sr0088_01 w) (ktrTop dp un gd "law" scope L fa cdv (cellsFrom (L + 1) scope.names []) outer) (envOfC "law" scope L fa cdv) E) (C : Cx w dp un scope outer A₀ base g L (bindL (envOfC "law" scope L fa cdv).kindOf [("script", .ref sl)] fun _ => none) s.heap p loose mean mg mb 40) (N : News g L s.heap cells) (Y : CellsAre (bindC (envOfC "law" scope L fa cdv).kindOf [("script", .ref sl)] fun _ => none) (cellsFrom (L + 1) scope.names []) cells), wpAny (model pw_sr0088_01 w) (ktrTop dp un gd "law" scope L fa cdv (cellsFrom (L + 1) scope.names []) outer) (execs lb (envOfC "law" scope L fa cdv)) (fun f s' => f = .ret (.bool true) /\ Hold (∃ (h' : Heap) (tk' : Nat), s' = { s with heap := h', toks := tk' } /\ ∀ b o, g.get? b = some o -> h'.get? b = some o)) E s
noncomputable def law_okS (x : LP) : Prop := law_okQ x.w x.dp x.un x.gd x.outer x.A₀ x.base x.L x.s x.p x.loose x.mean x.mg x.mb x.E x.g x.sl x.fa x.vs x.script x.cells x.cdv
@[irreducible] noncomputable def law_okC : LP := gen LPE law_okS
namespace law_okN
noncomputable section
 def L := law_okC.L
 def p := law_okC.p
 def sl := law_okC.sl
 def script := law_okC.script
end
theorem main : law_okQ law_okC.w law_okC.dp law_okC.un law_okC.gd law_okC.outer law_okC.A₀ law_okC.base L law_okC.s p law_okC.loose law_okC.mean law_okC.mg law_okC.mb law_okC.E law_okC.g sl law_okC.fa law_okC.vs script law_okC.cells law_okC.cdv := by
 intro scope lb hlb hll hsc PO hsl hI hlen hE C N Y
 have hns := allNs_len script
 rw [five_parts hll]
 subst hlb
 refine execs_split (wpAny_mono (part0 rfl hsc hsl hI hlen hE C N Y PO.rows) ?_ fun _ _ e => e)
 rintro f s' ⟨rfl, hh⟩
 refine ex6 hh fun h1 tk1 m1 le xe dxe hh => ?_
 refine ex6 hh fun lt xt dxt lr lw ln hh => ?_
 refine ex6 hh fun toe tot q1 q2 q3 q5 hh => ?_
 refine ex5 hh fun q6 q7 q8 kp nx hh => ?_
 obtain ⟨rfl, F1, N1, M1, St, hord, d1, d2, d3, ⟨v5, d5⟩, ⟨v6, d6⟩, ⟨v7, d7⟩, ⟨v8, d8⟩⟩ := hh
 refine ex6 St fun ve vt vr vw vn ne hh => ?_
 refine ex7 hh fun nt nr nw nn q4 v4 tl hh => ?_
 (revert hh; refine aq2 fun eQ => ?_; subst eQ; refine aq8 fun d4 hkp offT hvn hvw hrd hT => ?_; intro hEv)
 simp only [List.cons_append, List.nil_append] at N1
 obtain ⟨B', F', X', T', hk', hd', hu'⟩ := C
 obtain ⟨mT, mE, mR⟩ := M1
 have hsc2 := hsc
 conv at hsc2 => lhs; whnf
 have hm1 := mbe_form (sl := sl) mT mE ((mR "script" (by decide) (by decide) (by decide) (by decide) (by decide) (by decide) (by decide) (by decide) (by decide) (by decide) (by decide)).trans (by rw [<- hsc2]; rfl))
 have hvtl : vt.length <= 32 := by rw [hT.len]; exact Nat.le_trans (tabZ_len _) (Nat.le_trans hns (by decide))
 have hvel : ve.length <= 32 := by rw [hEv.len, evZ_len]; exact Nat.le_trans hns (by decide)
 have F1' := F1
 rw [hm1] at F1'
 (have hQ := id hord; revert hQ; refine aq9 fun r1 r2 r3 r4 r5 r6 r7 r8 => ?_; intro r9)
 refine execs_split (wpAny_mono (partE (om := m1) (R := tl) (tl := tl) rfl hsc hE ⟨B', F1', X', T', hk', hd', hu'⟩ N1 offT hord d1 d2 d3 v5 v6 d5 d6 hns hvn hvw (fun _ h => h) hrd PO.ok) ?_ fun _ _ e => e)
 rintro f s2 ⟨rfl, hh⟩
 refine ex6 hh fun h2 tk2 m2 rp ldu ta hh => ?_
 refine ex7 hh fun tb tc vd nd q5' q6' v6' hh => ?_
 (revert hh; refine aq2 fun eQ => ?_; subst eQ; refine aq9 fun F2 M2 d5' d6' hvd N2 l1 l2 => ?_; intro oR)
 have offR2 : OwnOff tl [ldu, rp, le, xe, dxe, lt, xt, dxt, lr, lw, ln, L + 1 + 1 + 1 + 1 + 1 + 1 + 1 + 1, L + 1 + 1 + 1 + 1 + 1 + 1 + 1, L + 1 + 1 + 1 + 1 + 1 + 1, L + 1 + 1 + 1 + 1 + 1, L + 1 + 1 + 1 + 1, L + 1 + 1 + 1, L + 1 + 1, L + 1] := by
   intro p hp b hb
   rcases List.mem_cons.mp hb with rfl | hb
   . exact (oR p hp).2
   . rcases List.mem_cons.mp hb with rfl | hb
     . exact (oR p hp).1
     . exact offT p hp b hb
 have hord3 := And.intro r1 (And.intro r2 (And.intro r3 (And.intro r4 (And.intro r5 (And.intro r6 (And.intro r7 (And.intro r8 (And.intro r9 (And.intro l1 l2)))))))))
 have F2' := F2
 rw [M2.form] at F2'
 refine execs_split (wpAny_mono (partF (om := m2) (R := tl) (tl := tl) rfl hsc hE ⟨B', F2', X', T', hk', hd', hu'⟩ N2 offR2 hord3 d1 d2 d3 d5' hns hvn hvw hvd PO.nm PO.d2 (fun _ h => h) hT hvtl PO.items PO.okT PO.nl PO.ul) ?_ fun _ _ e => e)
 (intro f s3; refine aq2 fun eQ => ?_; subst eQ; refine xq3 fun h3 tk3 m3 => ?_; refine aq2 fun eQ => ?_; subst eQ; refine aq3 fun F3 M3 => ?_; intro N3)
 have F3' := F3
 rw [M3.form] at F3'
 refine execs_split (wpAny_mono (partG (om := m3) (R := tl) (tl := tl) rfl hsc hE ⟨B', F3', X', T', hk', hd', hu'⟩ N3 offR2 hord3 d1 d2 d3 d5' hns hvn hvw hvd hsl hI hlen) ?_ fun _ _ e => e)
 (intro f s4; refine aq2 fun eQ => ?_; subst eQ; refine xq3 fun h4 tk4 m4 => ?_; refine aq2 fun eQ => ?_; subst eQ; refine aq4 fun F4 M4 N4 => ?_; refine xq1 fun tlo => ?_; intro hlg)
 have F4' := F4
 rw [M4.formL hlg] at F4'
 refine wpAny_mono (partH (om := m4) (R := tl) (tl := tl) rfl hsc hE ⟨B', F4', X', T', hk', hd', hu'⟩ N4 offR2 hord3 d1 d2 d3 d7 d8 hns hvn hvw (fun _ h => h) hrd PO.ok PO.a1 PO.a2 PO.a3 PO.a4 hT hvtl PO.tl hEv hvel PO.el PO.wp) ?_ fun _ _ e => e
 (intro f s5; refine aq2 fun eQ => ?_; subst eQ; refine xq2 fun h5 tk5 => ?_; refine aq2 fun eQ => ?_; subst eQ; intro hkeep)
 exact ⟨rfl, h5, tk5, rfl, hkeep⟩
end law_okN
theorem law_okH : law_okS (gen LPE law_okS) := by with_unfolding_all exact @law_okN.main
theorem law_ok {w dp un gd outer A₀ base L s p loose mean mg mb E g sl fa vs script cells cdv} : law_okQ w dp un gd outer A₀ base L s p loose mean mg mb E g sl fa vs script cells cdv := @all_gen LP LPE law_okS @law_okH { lp0 with w, dp, un, gd, outer, A₀, base, L, s, p, loose, mean, mg, mb, E, g, sl, fa, vs, script, cells, cdv }
end
end Mine
end
section
open PySem PySem.Spec PySem.Calls PySem.W PyProof.Rows PySem.Builtin PySem.Builtin.Str
namespace Mine
noncomputable def gapsOf : List Str -> List (Option Nat)
 | [] => [none]
 | w :: r => none :: (lits (lt w) ++ gapsOf r)
theorem gapsOf_head : ∀ l, ∃ p, gapsOf l = none :: p
 | [] => ⟨[], rfl⟩
 | _ :: _ => ⟨_, rfl⟩
theorem gaps_app {l : List Str} {r : List Nat} (h : Mi (gapsOf l) r) (g : List Nat) : Mi (gapsOf l) (g ++ r) := by
 obtain ⟨p, e⟩ := gapsOf_head l
 rw [e] at h ⊢
 exact Mi.gap_app h g
theorem mi_none (t : List Nat) : Mi [none] t := Mi.gap_iff.mpr ⟨t, [], by simp, .nil⟩
theorem lt_len (x : Str) : (lt x).length = x.length := by
 show x.cps.toList.length = x.cps.size
 exact Array.length_toList
theorem at_iff {x y : Str} {hi i : Nat} (hh : hi <= x.length) (hi2 : i <= hi) : StrLaws.At x y hi i ↔ ∃ r, ((lt x).take hi).drop i = lt y ++ r := by
 unfold StrLaws.At
 rw [StrLaws.subAt_eq, beq_iff_eq]
 have ly := lt_len y
 have lx := lt_len x
 constructor
 . rintro ⟨h1, h2⟩
   refine ⟨((lt x).take hi).drop (i + y.length), ?_⟩
   have e : lt y = (((lt x).take hi).drop i).take y.length := by
     rw [List.drop_take, List.take_take, Nat.min_eq_left (by lia)]
     exact h2.symm
   rw [e, <- List.drop_drop]
   exact (List.take_append_drop _ _).symm
 . rintro ⟨r, e⟩
   have hl := congrArg List.length e
   simp only [List.length_drop, List.length_take, List.length_append] at hl
   have hle : i + y.length <= hi := by lia
   refine ⟨hle, ?_⟩
   have e2 := congrArg (List.take y.length) e
   rw [List.drop_take, List.take_take, Nat.min_eq_left (by lia), <- ly, List.take_left'] at e2
   . rw [<- ly]; exact e2
   . rfl
theorem fromIndex_nat (n k : Nat) : fromIndex n (k : Int) = k := by
 unfold fromIndex
 rw [if_neg (by lia)]
 lia
theorem findRun_mi {got : Str} {ep : Nat} (hep : ep <= got.length) : ∀ (l : List Str) (sp : Nat), sp <= ep -> (findRun got (ep : Int) l (sp : Int) = true ↔ Mi (gapsOf l) (((lt got).take ep).drop sp))
 | [], sp, _ => by simp only [findRun, gapsOf, true_iff]; exact mi_none _
 | y :: l, sp, hsp => by
   have ly := lt_len y
   have lx := lt_len got
   unfold findRun
   have hc := find4_cases got y (sp : Int) (ep : Int)
   rw [fromIndex_nat, fromIndex_nat, Nat.min_eq_left hep] at hc
   have fwd : ∀ g r1 r2, ((lt got).take ep).drop sp = g ++ r1 -> r1 = lt y ++ r2 -> ((lt got).take ep).drop (sp + g.length) = lt y ++ r2 /\ sp + g.length + y.length <= ep := by
     intro g r1 r2 e1 e2
     have e3 : ((lt got).take ep).drop (sp + g.length) = lt y ++ r2 := by
       rw [<- List.drop_drop, e1, List.drop_left, e2]
     refine ⟨e3, ?_⟩
     have hl := congrArg List.length e1
     rw [e2] at hl
     simp only [List.length_drop, List.length_take, List.length_append] at hl
     lia
   rcases hc with ⟨e, hno⟩ | ⟨k, e, hk1, hk2, hk3⟩
   . rw [e, if_pos (by decide)]
     refine ⟨fun h => (Bool.noConfusion h), fun h => ?_⟩
     obtain ⟨g, r1, e1, h1⟩ := Mi.gap_iff.mp h
     obtain ⟨r2, e2, h2⟩ := Mi.lits_iff.mp h1
     obtain ⟨e3, hle⟩ := fwd g r1 r2 e1 e2
     exact absurd ((at_iff hep (by lia)).mpr ⟨r2, e3⟩) (hno _ (by lia))
   . rw [e, if_neg (by lia)]
     have hk4 := hk2.1
     have ih := findRun_mi hep l (k + y.length) hk4
     rw [show ((k : Nat) : Int) + (y.length : Int) = ((k + y.length : Nat) : Int) by simp, ih]
     have dk : ((lt got).take ep).drop k = lt y ++ ((lt got).take ep).drop (k + y.length) := by
       obtain ⟨r, hr⟩ := (at_iff hep (by lia)).mp hk2
       rw [<- List.drop_drop, hr, <- ly, List.drop_left]
     constructor
     . intro h
       refine Mi.gap_iff.mpr ⟨(((lt got).take ep).drop sp).take (k - sp), ((lt got).take ep).drop k, ?_, ?_⟩
       . have := (List.take_append_drop (k - sp) (((lt got).take ep).drop sp)).symm
         rw [List.drop_drop, show sp + (k - sp) = k by lia] at this
         exact this
       . rw [dk]; exact Mi.lits_iff.mpr ⟨_, rfl, h⟩
     . intro h
       obtain ⟨g, r1, e1, h1⟩ := Mi.gap_iff.mp h
       obtain ⟨r2, e2, h2⟩ := Mi.lits_iff.mp h1
       obtain ⟨e3, hle⟩ := fwd g r1 r2 e1 e2
       have hkk : k <= sp + g.length := by
         apply Nat.le_of_not_lt
         intro hlt
         exact hk3 _ (by lia) hlt ((at_iff hep (by lia)).mpr ⟨r2, e3⟩)
       have e4 : r2 = ((lt got).take ep).drop (sp + g.length + y.length) := by
         rw [<- List.drop_drop, e3, <- ly, List.drop_left]
       have e5 : ((lt got).take ep).drop (k + y.length) = (((lt got).take ep).drop (k + y.length)).take (sp + g.length - k) ++ r2 := by
         have := (List.take_append_drop (sp + g.length - k) (((lt got).take ep).drop (k + y.length))).symm
         rw [List.drop_drop, show k + y.length + (sp + g.length - k) = sp + g.length + y.length by lia, <- e4] at this
         exact this
       rw [e5]
       exact gaps_app h2 _
noncomputable def midG : List Str -> List (Option Nat) -> List (Option Nat)
 | [], z => none :: z
 | w :: r, z => none :: (lits (lt w) ++ midG r z)
theorem mid_mi {z : List Nat} : ∀ (l : List Str) (R : List Nat), Mi (midG l (lits z)) R ↔ ∃ M, R = M ++ z /\ Mi (gapsOf l) M
 | [], R => by
   show Mi (none :: lits z) R ↔ _
   rw [Mi.gap_iff]
   constructor
   . rintro ⟨g, r, e, h⟩
     exact ⟨g, by rw [e, Mi.lits0.mp h], mi_none g⟩
   . rintro ⟨M, e, _⟩
     exact ⟨M, z, e, Mi.lits0.mpr rfl⟩
 | w :: l, R => by
   show Mi (none :: (lits (lt w) ++ midG l (lits z))) R ↔ ∃ M, R = M ++ z /\ Mi (none :: (lits (lt w) ++ gapsOf l)) M
   constructor
   . intro h
     obtain ⟨g, r1, e1, h1⟩ := Mi.gap_iff.mp h
     obtain ⟨r2, e2, h2⟩ := Mi.lits_iff.mp h1
     obtain ⟨M, e3, h3⟩ := (mid_mi l r2).mp h2
     exact ⟨g ++ (lt w ++ M), by rw [e1, e2, e3]; simp, Mi.gap_iff.mpr ⟨g, _, rfl, Mi.lits_iff.mpr ⟨_, rfl, h3⟩⟩⟩
   . rintro ⟨M, e, h⟩
     obtain ⟨g, r1, e1, h1⟩ := Mi.gap_iff.mp h
     obtain ⟨r2, e2, h2⟩ := Mi.lits_iff.mp h1
     exact Mi.gap_iff.mpr ⟨g, lt w ++ (r2 ++ z), by rw [e, e1, e2]; simp, Mi.lits_iff.mpr ⟨_, rfl, (mid_mi l _).mpr ⟨r2, rfl, h2⟩⟩⟩
theorem gaps_nil_head {w0 : Str} (h : w0.length = 0) (l : List Str) (t : List Nat) : Mi (gapsOf (w0 :: l)) t ↔ Mi (gapsOf l) t := by
 have e : lt w0 = [] := List.eq_nil_of_length_eq_zero (by rw [lt_len]; exact h)
 obtain ⟨p, hp⟩ := gapsOf_head l
 show Mi (none :: (lits (lt w0) ++ gapsOf l)) t ↔ _
 rw [e, hp]
 exact Mi.gg
theorem gaps_nil_last {wm : Str} (h : wm.length = 0) : ∀ (l : List Str) (t : List Nat), Mi (gapsOf (l ++ [wm])) t ↔ Mi (gapsOf l) t
 | [], t => gaps_nil_head h [] t
 | w :: l, t => by
   show Mi (none :: (lits (lt w) ++ gapsOf (l ++ [wm]))) t ↔ Mi (none :: (lits (lt w) ++ gapsOf l)) t
   rw [Mi.gap_iff, Mi.gap_iff]
   refine exists_congr fun g => exists_congr fun r => and_congr_right fun _ => ?_
   rw [Mi.lits_iff, Mi.lits_iff]
   exact exists_congr fun r => and_congr_right fun _ => gaps_nil_last h l r
theorem starts_iff {x y : Str} : Txt.startswith x y = true ↔ ∃ r, lt x = lt y ++ r := by
 unfold Txt.startswith
 rw [Bool.and_eq_true, decide_eq_true_eq]
 have := at_iff (x := x) (y := y) (Nat.le_refl x.length) (Nat.zero_le _)
 unfold StrLaws.At at this
 rw [this, List.drop_zero, List.take_of_length_le (by rw [lt_len]; exact Nat.le_refl _)]
theorem ends_iff {x y : Str} : Txt.endswith x y = true ↔ ∃ r, lt x = r ++ lt y := by
 unfold Txt.endswith
 rw [Bool.and_eq_true, decide_eq_true_eq]
 have ly := lt_len y
 have lx := lt_len x
 have ha := at_iff (x := x) (y := y) (i := x.length - y.length) (Nat.le_refl x.length) (Nat.sub_le _ _)
 unfold StrLaws.At at ha
 rw [List.take_of_length_le (by rw [lt_len]; exact Nat.le_refl _)] at ha
 constructor
 . rintro ⟨h1, h2⟩
   obtain ⟨r, hr⟩ := ha.mp ⟨by lia, h2⟩
   have hl := congrArg List.length hr
   simp only [List.length_drop, List.length_append] at hl
   have : r = [] := List.eq_nil_of_length_eq_zero (by lia)
   subst this
   rw [List.append_nil] at hr
   exact ⟨(lt x).take (x.length - y.length), by rw [<- hr]; exact (List.take_append_drop _ _).symm⟩
 . rintro ⟨r, e⟩
   have hl := congrArg List.length e
   simp only [List.length_append] at hl
   refine ⟨by lia, (ha.mpr ⟨[], ?_⟩).2⟩
   rw [e, List.append_nil, show x.length - y.length = r.length by lia, List.drop_left]
theorem ellS_mi (w0 wm : Str) (mid : List Str) (got : Str) : ellS w0 mid wm got = true ↔ Mi (lits (lt w0) ++ midG mid (lits (lt wm))) (lt got) := by
 have lx := lt_len got
 have l0 := lt_len w0
 have lm := lt_len wm
 unfold ellS
 have e0 : (if ((w0.length : Int) != 0) = true then (w0.length : Int) else 0) = ((w0.length : Nat) : Int) := by
   split
   . rfl
   . rename_i h; simp at h; lia
 have em : (if ((wm.length : Int) != 0) = true then (got.length : Int) - wm.length else got.length) = (got.length : Int) - (wm.length : Int) := by
   split
   . rfl
   . rename_i h; simp at h; lia
 rw [e0, em]
 have key : Mi (lits (lt w0) ++ midG mid (lits (lt wm))) (lt got) ↔ ∃ M, lt got = lt w0 ++ (M ++ lt wm) /\ Mi (gapsOf mid) M := by
   rw [Mi.lits_iff]
   constructor
   . rintro ⟨r, e, h⟩
     obtain ⟨M, e2, h2⟩ := (mid_mi mid r).mp h
     exact ⟨M, by rw [e, e2], h2⟩
   . rintro ⟨M, e, h⟩
     exact ⟨_, e, (mid_mi mid _).mpr ⟨M, rfl, h⟩⟩
 rw [key]
 by_cases hs : ((w0.length : Int) != 0) = true /\ Txt.startswith got w0 = false
 . rw [if_pos hs]
   refine ⟨fun h => Bool.noConfusion h, ?_⟩
   rintro ⟨M, e, _⟩
   have := (starts_iff (x := got) (y := w0)).mpr ⟨_, e⟩
   rw [hs.2] at this; cases this
 rw [if_neg hs]
 by_cases hm : ((wm.length : Int) != 0) = true /\ Txt.endswith got wm = false
 . rw [if_pos hm]
   refine ⟨fun h => Bool.noConfusion h, ?_⟩
   rintro ⟨M, e, _⟩
   have := (ends_iff (x := got) (y := wm)).mpr ⟨lt w0 ++ M, by rw [e]; simp⟩
   rw [hm.2] at this; cases this
 rw [if_neg hm]
 by_cases hl : (got.length : Int) - (wm.length : Int) < (w0.length : Int)
 . rw [if_pos hl]
   refine ⟨fun h => Bool.noConfusion h, ?_⟩
   rintro ⟨M, e, _⟩
   have hh := congrArg List.length e
   simp only [List.length_append] at hh
   lia
 rw [if_neg hl]
 have hsT : ∃ r, lt got = lt w0 ++ r := by
   by_cases h : w0.length = 0
   . have e : lt w0 = [] := List.eq_nil_of_length_eq_zero (by rw [lt_len]; exact h)
     exact ⟨lt got, by rw [e]; rfl⟩
   . refine starts_iff.mp ?_
     cases hh : Txt.startswith got w0 with
     | true => rfl
     | false => exact absurd ⟨by rw [bne_iff_ne]; lia, hh⟩ hs
 have hmT : ∃ r, lt got = r ++ lt wm := by
   by_cases h : wm.length = 0
   . have e : lt wm = [] := List.eq_nil_of_length_eq_zero (by rw [lt_len]; exact h)
     exact ⟨lt got, by rw [e, List.append_nil]⟩
   . refine ends_iff.mp ?_
     cases hh : Txt.endswith got wm with
     | true => rfl
     | false => exact absurd ⟨by rw [bne_iff_ne]; lia, hh⟩ hm
 have run : ∀ L : List Str, (∀ t, Mi (gapsOf L) t ↔ Mi (gapsOf mid) t) -> (findRun got ((got.length : Int) - (wm.length : Int)) L (w0.length : Int) = true ↔ ∃ M, lt got = lt w0 ++ (M ++ lt wm) /\ Mi (gapsOf mid) M) := by
   intro L hL
   rw [show (got.length : Int) - (wm.length : Int) = ((got.length - wm.length : Nat) : Int) by lia, findRun_mi (Nat.sub_le _ _) L w0.length (by lia), hL]
   have split : lt got = lt w0 ++ ((((lt got).take (got.length - wm.length)).drop w0.length) ++ lt wm) := by
     obtain ⟨r, hr⟩ := hmT
     obtain ⟨r0, hr0⟩ := hsT
     have hlen := congrArg List.length hr
     simp only [List.length_append] at hlen
     have et : (lt got).take (got.length - wm.length) = r := by
       rw [hr, show got.length - wm.length = r.length by lia, List.take_left]
     rw [et]
     have e0 : r.take w0.length = lt w0 := by
       have := congrArg (List.take w0.length) hr
       rw [hr0, <- l0, List.take_left, List.take_append_of_le_length (by lia)] at this
       rw [<- l0]; exact this.symm
     rw [<- List.append_assoc]
     conv => rhs; lhs; lhs; rw [<- e0]
     rw [List.take_append_drop]
     exact hr
   constructor
   . intro h; exact ⟨_, split, h⟩
   . rintro ⟨M, e, h⟩
     have : ((lt got).take (got.length - wm.length)).drop w0.length = M := by
       have hlen := congrArg List.length e
       simp only [List.length_append] at hlen
       rw [e, <- List.append_assoc, List.take_append_of_le_length (by simp only [List.length_append]; lia), List.take_of_length_le (by simp only [List.length_append]; lia), <- l0, List.drop_left]
     rw [this]; exact h
 refine run _ fun t => ?_
 by_cases h0 : ((w0.length : Int) != 0) = true
 . rw [if_pos h0, List.nil_append]
   by_cases h1 : ((wm.length : Int) != 0) = true
   . rw [if_pos h1, List.append_nil]
   . rw [if_neg h1]; exact gaps_nil_last (by simp at h1; lia) mid t
 . rw [if_neg h0]
   have h0' : w0.length = 0 := by simp at h0; lia
   by_cases h1 : ((wm.length : Int) != 0) = true
   . rw [if_pos h1, List.append_nil]; exact gaps_nil_head h0' mid t
   . rw [if_neg h1]
     exact (gaps_nil_head h0' (mid ++ [wm]) t).trans (gaps_nil_last (by simp at h1; lia) mid t)
noncomputable def etoks (w : Str) : List (Option Nat) := if Txt.contains w (Str.ofString "...") = true then lits (lt ((Txt.split w (Str.ofString "...")).headD ⟨#[]⟩)) ++ midG (Txt.split w (Str.ofString "...")).tail.dropLast (lits (lt ((Txt.split w (Str.ofString "...")).getLastD ⟨#[]⟩))) else lits (lt w)
theorem lt_inj {x y : Str} (h : lt x = lt y) : x = y := by
 obtain ⟨a⟩ := x; obtain ⟨b⟩ := y
 exact congrArg Str.mk (Array.toList_inj.mp h)
theorem ell_mi (w t : Str) : ellZ w t = true ↔ Mi (etoks w) (lt t) := by
 unfold ellZ etoks
 by_cases hc : Txt.contains w (Str.ofString "...") = true
 . rw [if_pos hc, if_pos hc]; exact ellS_mi _ _ _ t
 . rw [if_neg hc, if_neg hc, Mi.lits0, beq_iff_eq]
   exact ⟨fun h => by rw [h], fun h => (lt_inj h).symm⟩
noncomputable def plainB (w : Str) : Bool := (lt w).all fun c => decide (32 <= c) && decide (c < 127)
noncomputable def wantB (w : Str) : Bool := okW w && decide (stayOf w < 2 ^ 20) && (lt (samplesOf w) == smpL (toks w)) && (toks w).all (fun o => o != some 35) && (squash (etoks w) == squash (toks w)) && decide (w.length <= 12) && decide ((samplesOf w).length <= 64) && plainB w
noncomputable def wantT (i j k : Nat) : Str := Txt.join "" ([i, j, k].map (fun k => meansL.getD k ⟨#[]⟩))
noncomputable def r7 : List Nat := [1, 2, 3, 4, 5, 6, 7]
noncomputable def wtRow (i : Nat) : Bool := r7.all fun j => r7.all fun k => wantB (wantT i j k)
theorem wt_1 : wtRow 1 = true := by decide +kernel
theorem wt_2 : wtRow 2 = true := by decide +kernel
theorem wt_3 : wtRow 3 = true := by decide +kernel
theorem wt_4 : wtRow 4 = true := by decide +kernel
theorem wt_5 : wtRow 5 = true := by decide +kernel
theorem wt_6 : wtRow 6 = true := by decide +kernel
theorem wt_7 : wtRow 7 = true := by decide +kernel
theorem wt_nil : wantB ⟨#[]⟩ = true := by decide +kernel
theorem fm8n (c : Int) : (c.fmod 8).toNat < 8 := by
 have h1 : 0 <= c.fmod 8 := Int.fmod_nonneg_of_pos c (by decide)
 have h2 : c.fmod 8 < 8 := Int.fmod_lt_of_pos c (by decide)
 lia
noncomputable def nz (i : Nat) : Nat := if i = 0 then 1 else i
theorem nz_means (i : Nat) : meansL.getD (nz i) ⟨#[]⟩ = meansL.getD i ⟨#[]⟩ := by
 unfold nz
 split
 . rename_i h; rw [h]; rfl
 . rfl
theorem nz_all : ((List.range 8).all fun i => decide (nz i ∈ r7)) = true := by decide
theorem nz_r7 {i : Nat} (h : i < 8) : nz i ∈ r7 := of_decide_eq_true (List.all_eq_true.mp nz_all i (List.mem_range.mpr h))
theorem wt_row {i : Nat} (h : i ∈ r7) : wtRow i = true := by
 simp only [r7, List.mem_cons, List.not_mem_nil, or_false] at h
 rcases h with rfl | rfl | rfl | rfl | rfl | rfl | rfl
 . exact wt_1
 . exact wt_2
 . exact wt_3
 . exact wt_4
 . exact wt_5
 . exact wt_6
 . exact wt_7
theorem wantT_nz (i j k : Nat) : wantT (nz i) (nz j) (nz k) = wantT i j k := by
 unfold wantT
 simp only [List.map_cons, List.map_nil, nz_means]
theorem wantZ_ok (n : Int) : wantB (wantZ n) = true := by
 have h := wt_row (nz_r7 (fm8n n))
 unfold wtRow at h
 rw [List.all_eq_true] at h
 have h1 := h _ (nz_r7 (fm8n (n.fdiv 8)))
 rw [List.all_eq_true] at h1
 have h2 := h1 _ (nz_r7 (fm8n (n.fdiv 64)))
 rw [wantT_nz] at h2
 exact h2
section
variable {w : Str} (h : wantB w = true)
include h
theorem wB_ok : okW w = true := by simp only [wantB, Bool.and_eq_true] at h; exact h.1.1.1.1.1.1.1
theorem wB_stay : stayOf w < 2 ^ 20 := by simp only [wantB, Bool.and_eq_true, decide_eq_true_eq] at h; exact h.1.1.1.1.1.1.2
theorem wB_smp : lt (samplesOf w) = smpL (toks w) := by simp only [wantB, Bool.and_eq_true, beq_iff_eq] at h; exact h.1.1.1.1.1.2
theorem wB_35 : some 35 ∉ toks w := by
 simp only [wantB, Bool.and_eq_true, List.all_eq_true] at h
 intro hm
 have := h.1.1.1.1.2 _ hm
 simp at this
theorem wB_sq : squash (etoks w) = squash (toks w) := by simp only [wantB, Bool.and_eq_true, beq_iff_eq] at h; exact h.1.1.1.2
theorem wB_len : w.length <= 12 := by simp only [wantB, Bool.and_eq_true, decide_eq_true_eq] at h; exact h.1.1.2
theorem wB_slen : (samplesOf w).length <= 64 := by simp only [wantB, Bool.and_eq_true, decide_eq_true_eq] at h; exact h.1.2
theorem wB_plain : plainB w = true := by simp only [wantB, Bool.and_eq_true] at h; exact h.2
theorem ell_take (t : Str) : ellZ w t = takeZ w t := by
 have h1 := ell_mi w t
 rw [<- Mi.squash, wB_sq h, Mi.squash, <- take_mi (wB_ok h)] at h1
 cases e1 : ellZ w t <;> cases e2 : takeZ w t <;> rw [e1, e2] at h1 <;> simp at h1 <;> rfl
theorem cov_refl : takeZ w (samplesOf w) = true := by
 rw [take_mi (wB_ok h), wB_smp h]
 exact Mi.refl _
theorem cov_trans {v t : Str} (hv : wantB v = true) (h1 : takeZ w (samplesOf v) = true) (h2 : takeZ v t = true) : takeZ w t = true := by
 rw [take_mi (wB_ok h), wB_smp hv] at h1
 rw [take_mi (wB_ok hv)] at h2
 rw [take_mi (wB_ok h)]
 exact Mi.trans (wB_35 h) h1 h2
end
theorem plainB_T {x : Str} (h : plainB x = true) : PlainT x := by
 intro k hk
 unfold plainB at h
 rw [List.all_eq_true] at h
 have hk' : k < x.cps.toList.length := by rw [Array.length_toList]; exact hk
 have e : x.cps.getD k 0 = x.cps.toList[k] := by
   rw [Array.getD_eq_getD_getElem?, Array.getElem?_eq_getElem (by simpa using hk')]
   simp
 have h2 := h _ (List.getElem_mem hk')
 rw [Bool.and_eq_true, decide_eq_true_eq, decide_eq_true_eq] at h2
 rw [e]
 exact h2
theorem lt_app (x y : Str) : lt (x ++ y) = lt x ++ lt y := by
 show (x.cps ++ y.cps).toList = _
 exact Array.toList_append
theorem lt_join : ∀ l : List Str, lt (Str.join (Str.ofString "") l) = l.flatMap lt
 | [] => rfl
 | [x] => by show lt x = _; simp
 | x :: y :: r => by
   have ih := lt_join (y :: r)
   show lt (x ++ Str.ofString "" ++ Str.join (Str.ofString "") (y :: r)) = _
   rw [lt_app, lt_app, ih]
   show lt x ++ [] ++ _ = _
   rw [List.append_nil]; rfl
theorem lt_joinT (l : List Str) : lt (Txt.join (Str.ofString "") l) = l.flatMap lt := by
 show lt (glued (Str.ofString "") l) = _
 rw [StrLaws.glued_eq_join]
 exact lt_join l
theorem at_one {x : Str} {c hi i : Nat} (hh : hi <= x.length) : StrLaws.At x ⟨#[c]⟩ hi i ↔ i < hi /\ (lt x)[i]? = some c := by
 unfold StrLaws.At
 have h := StrLaws.subAt_one x c i
 have e : (⟨#[c]⟩ : Str).length = 1 := rfl
 rw [e] at h ⊢
 constructor
 . rintro ⟨h1, h2⟩; exact ⟨by lia, h.mp ⟨by lia, h2⟩⟩
 . rintro ⟨h1, h2⟩; exact ⟨by lia, (h.mpr h2).2⟩
theorem find_at {x : Str} {c p hi : Nat} (hh : hi <= x.length) (hp : p < hi) (h1 : (lt x)[p]? = some c) (h2 : ∀ i, i < p -> (lt x)[i]? ≠ some c) : find4 x ⟨#[c]⟩ 0 (hi : Int) = (p : Int) := by
 have hc := find4_cases x ⟨#[c]⟩ ((0 : Nat) : Int) (hi : Int)
 rw [fromIndex_nat, fromIndex_nat, Nat.min_eq_left hh] at hc
 rcases hc with ⟨_, hn⟩ | ⟨k, e, _, ha, hn⟩
 . exact absurd ((at_one hh).mpr ⟨hp, h1⟩) (hn p (Nat.zero_le _))
 . have hk := (at_one hh).mp ha
   have h3 : k = p := by
     rcases Nat.lt_trichotomy k p with h | h | h
     . exact absurd hk.2 (h2 k h)
     . exact h
     . exact absurd ((at_one hh).mpr ⟨hp, h1⟩) (hn p (Nat.zero_le _) h)
   rw [<- h3]; exact e
theorem find_no {x : Str} {c hi : Nat} (hh : hi <= x.length) (h2 : ∀ i, i < hi -> (lt x)[i]? ≠ some c) : find4 x ⟨#[c]⟩ 0 (hi : Int) = -1 := by
 have hc := find4_cases x ⟨#[c]⟩ ((0 : Nat) : Int) (hi : Int)
 rw [fromIndex_nat, fromIndex_nat, Nat.min_eq_left hh] at hc
 rcases hc with ⟨e, hn⟩ | ⟨k, e, _, ha, hn⟩
 . exact e
 . have hk := (at_one hh).mp ha
   exact absurd hk.2 (h2 k hk.1)
theorem find_le {x : Str} {c hi p : Nat} (hh : hi <= x.length) (h2 : ∀ i, i < p -> (lt x)[i]? ≠ some c) (h3 : (lt x)[p]? ≠ some c) : find4 x ⟨#[c]⟩ 0 (hi : Int) = -1 \/ ∃ k : Nat, find4 x ⟨#[c]⟩ 0 (hi : Int) = (k : Int) /\ p < k /\ k < hi := by
 have hc := find4_cases x ⟨#[c]⟩ ((0 : Nat) : Int) (hi : Int)
 rw [fromIndex_nat, fromIndex_nat, Nat.min_eq_left hh] at hc
 rcases hc with ⟨e, hn⟩ | ⟨k, e, _, ha, hn⟩
 . exact .inl e
 . have hk := (at_one hh).mp ha
   refine .inr ⟨k, e, ?_, hk.1⟩
   rcases Nat.lt_trichotomy k p with h | h | h
   . exact absurd hk.2 (h2 k h)
   . rw [h] at hk; exact absurd hk.2 h3
   . exact h
theorem find_T (x y : Str) : Txt.find x y = find4 x y 0 (x.length : Int) := by
 unfold Txt.find find4
 have e1 : fromIndex x.length 0 = 0 := fromIndex_nat x.length 0
 rw [e1, fromIndex_nat, Nat.min_self]
 cases occurrences x y 0 x.length 1 <;> rfl
theorem strNL : Str.ofString "\n" = ⟨#[10]⟩ := by decide
theorem strCol : Str.ofString ":" = ⟨#[58]⟩ := by decide
theorem strDot : Str.ofString "." = ⟨#[46]⟩ := by decide
theorem strip_ends {x : Str} {p : Nat} (hp : p <= x.length) (h58 : ∀ i, i < p -> (lt x)[i]? ≠ some 58) (h10 : ∀ i, i < p -> (lt x)[i]? ≠ some 10) (hc : p = x.length \/ (lt x)[p]? = some 58 \/ (lt x)[p]? = some 10) : stE1 x = (p : Int) := by
 have hl : ∀ c, (lt x)[p]? = some c -> p < x.length := fun c h => by
   have := (List.getElem?_eq_some_iff.mp h).1
   rw [lt_len] at this; exact this
 have h0 : ∃ e : Nat, stE0 x = (e : Int) /\ e <= x.length /\ p <= e /\ ((lt x)[p]? = some 58 -> p < e) /\ ((lt x)[p]? = some 58 \/ e = p) := by
   unfold stE0
   rw [find_T, strNL]
   rcases hc with rfl | hc | hc
   . rw [find_no (Nat.le_refl _) h10, if_neg (by decide)]
     exact ⟨_, rfl, Nat.le_refl _, Nat.le_refl _, fun h => hl _ h, .inr rfl⟩
   . rcases find_le (hi := x.length) (Nat.le_refl _) h10 (by rw [hc]; decide) with e | ⟨k, e, hk1, hk2⟩
     . rw [e, if_neg (by decide)]
       exact ⟨_, rfl, Nat.le_refl _, hp, fun h => hl _ h, .inl hc⟩
     . rw [e, if_pos (by lia)]
       exact ⟨k, rfl, by lia, by lia, fun _ => hk1, .inl hc⟩
   . rw [find_at (Nat.le_refl _) (hl _ hc) hc h10, if_pos (by lia)]
     exact ⟨p, rfl, hp, Nat.le_refl _, fun (h : (lt x)[p]? = some 58) => absurd (hc.symm.trans h) (by decide), .inr rfl⟩
 obtain ⟨e, e0, h1, h2, h3, h4⟩ := h0
 unfold stE1
 rw [e0, strCol]
 by_cases hc8 : (lt x)[p]? = some 58
 . rw [find_at h1 (h3 hc8) hc8 h58, if_pos (by lia)]
 . have e5 : e = p := by rcases h4 with h | h
                         . exact absurd h hc8
                         . exact h
   subst e5
   rw [find_no h1 h58, if_neg (by decide)]
theorem last_same {x h : Str} {R : List Nat} (e : lt x = lt h ++ R) : rfind4 x (Str.ofString ".") 0 (h.length : Int) = rfind4 h (Str.ofString ".") 0 (h.length : Int) := by
 have hle : h.length <= x.length := by rw [<- lt_len, <- lt_len, e, List.length_append]; lia
 unfold rfind4
 have e1 : ∀ n, fromIndex n 0 = 0 := fun n => fromIndex_nat n 0
 rw [e1, e1, fromIndex_nat, fromIndex_nat, Nat.min_eq_left hle, Nat.min_self, StrLaws.last_eq, StrLaws.last_eq]
 have eb : StrLaws.lastBody x (Str.ofString ".") h.length = StrLaws.lastBody h (Str.ofString ".") h.length := by
   funext i st
   unfold StrLaws.lastBody
   have hiff : (i + (Str.ofString ".").length <= h.length /\ subAt x (Str.ofString ".") i = true) ↔ (i + (Str.ofString ".").length <= h.length /\ subAt h (Str.ofString ".") i = true) := by
     rw [strDot]
     have a1 := at_one (x := x) (c := 46) (i := i) hle
     have a2 := at_one (x := h) (c := 46) (i := i) (Nat.le_refl _)
     unfold StrLaws.At at a1 a2
     rw [a1, a2]
     refine and_congr_right fun hi => ?_
     rw [e, List.getElem?_append_left (by rw [lt_len]; exact hi)]
   by_cases hh : i + (Str.ofString ".").length <= h.length /\ subAt h (Str.ofString ".") i = true
   . rw [if_pos hh, if_pos (hiff.mpr hh)]
   . rw [if_neg hh, if_neg (fun q => hh (hiff.mp q))]
 rw [eb]
theorem strip_head {x h : Str} {c : Nat} {R : List Nat} (e : lt x = lt h ++ c :: R) (hc : c = 58 \/ c = 10) (h58 : 58 ∉ lt h) (h10 : 10 ∉ lt h) : stripZ x = stripZ h := by
 have lh := lt_len h
 have hlen : h.length <= x.length := by rw [<- lt_len, <- lt_len, e, List.length_append]; lia
 have pre : ∀ i, i < h.length -> (lt x)[i]? = (lt h)[i]? := fun i hi => by rw [e, List.getElem?_append_left (by lia)]
 have at' : (lt x)[h.length]? = some c := by rw [e, <- lh, List.getElem?_append_right (Nat.le_refl _), Nat.sub_self]; rfl
 have no : ∀ {d : Nat}, d ∉ lt h -> ∀ i, i < h.length -> (lt h)[i]? ≠ some d := fun hd i _ q => hd (List.mem_of_getElem? q)
 have x1 : stE1 x = (h.length : Int) := strip_ends hlen (fun i hi => by rw [pre i hi]; exact no h58 i hi) (fun i hi => by rw [pre i hi]; exact no h10 i hi) (.inr (hc.elim (fun q => .inl (q ▸ at')) (fun q => .inr (q ▸ at'))))
 have x2 : stE1 h = (h.length : Int) := strip_ends (Nat.le_refl _) (no h58) (no h10) (.inl rfl)
 have x3 : stB x = stB h := by
   unfold stB
   rw [x1, x2, last_same e]
 have x4 : ∃ b : Nat, stB h = (b : Int) /\ b <= h.length := by
   unfold stB
   rw [x2]
   unfold rfind4
   have e1 : fromIndex h.length 0 = 0 := fromIndex_nat h.length 0
   rw [e1, fromIndex_nat, Nat.min_self]
   rcases StrLaws.last_spec h (Str.ofString ".") with ⟨e2, _⟩ | ⟨i, e2, ha, _⟩
   . rw [e2]; exact ⟨0, rfl, Nat.zero_le _⟩
   . rw [e2]
     rw [strDot] at ha
     have := ((at_one (Nat.le_refl _)).mp ha).1
     exact ⟨i + 1, by dsimp only; rw [if_pos (by lia)]; rfl, by lia⟩
 obtain ⟨b, e5, hb⟩ := x4
 unfold stripZ
 rw [x3, x1, x2, e5]
 have s1 := StrLaws.sliceText_nat x hb hlen
 have s2 := StrLaws.sliceText_nat h hb (Nat.le_refl _)
 refine Eq.trans (show Txt.slice x _ _ = StrLaws.sliceText x _ _ from rfl) (s1.trans (Eq.trans ?_ (s2.symm.trans (show StrLaws.sliceText h _ _ = Txt.slice h _ _ from rfl))))
 refine congrArg (fun l : List Nat => (⟨l.toArray⟩ : Str)) ?_
 show ((lt x).drop b).take (h.length - b) = ((lt h).drop b).take (h.length - b)
 rw [e, List.drop_append_of_le_length (by lia), List.take_append_of_le_length (by rw [List.length_drop]; lia)]
noncomputable def charT : List (Nat × List Nat) := [(69, [101]), (0x1D404, [101]), (0x17F, [115]), (0x2130, [101]), (115, [115]), (13255, [99, 111, 46]), (46, [46]), (97, [97]), (58, [58]), (10, [10])] ++ greatL.map (fun g => ((119808 + 52 * g).toNat, [97]))
noncomputable def b3l (c : Int) : Option Value := ((b3ents pw_sr0088_01).find? fun e => Value.isInt c e.key).map (·.val)
theorem b3get_l (c : Int) : b3get c = b3l c := by
 unfold b3get findBy b3l
 rw [<- List.find?_toArray]
noncomputable def mapOk (c : Nat) : Bool := match b3l c with
 | some (.str _ _) => true
 | none => true
 | _ => false
noncomputable def mapZl (c : Nat) : Str := match b3l c with
 | some (.str x _) => x
 | _ => Txt.lower ⟨#[c]⟩
theorem mapZ_l (c : Nat) : mapZ c = mapZl c := by
 unfold mapZ mapZl
 rw [b3get_l]
 all_goals (generalize b3l (c : Int) = x; rcases x with _ | v; (· rfl); (· cases v <;> rfl))
theorem chars_ok : ((charT.all fun p => mapOk p.1 && (lt (mapZl p.1) == p.2) && !inB1 p.1 && decide (p.2.length <= 3)) && nothL.all fun z => mapOk z.toNat && inB1 z.toNat) = true := by decide +kernel
theorem mapOk_or {c : Nat} (h : mapOk c = true) : (∃ t', b3get c = some (.str (mapZ c) t')) \/ (b3get c = none /\ Txt.lower ⟨#[c]⟩ = mapZ c) := by
 unfold mapOk at h
 rw [mapZ_l, b3get_l]
 unfold mapZl
 split at h
 . rename_i x t e
   rw [e]; exact .inl ⟨t, rfl⟩
 . rename_i e
   rw [e]; exact .inr ⟨rfl, rfl⟩
 . cases h
noncomputable def lookCh (c : Nat) : List Nat := ((charT.find? (fun p => p.1 == c)).map (·.2)).getD []
noncomputable def partB (z : Nat) (s m : Str) : Bool := ((lt s).all fun c => c == z || charT.any (fun p => p.1 == c)) && (((lt s).filter (fun c => c != z)).flatMap lookCh == lt m) && decide (s.length <= 4)
noncomputable def nzX (x : Int) : Nat := (nothL.getD (x.fmod 27).toNat 0).toNat
noncomputable def noX (x : Int) : Str := ⟨#[nzX x]⟩
noncomputable def grX (x : Int) : Str := ⟨#[(119808 + 52 * greatL.getD (x.fmod 10).toNat 0).toNat]⟩
noncomputable def i4 : List Int := [0, 1, 2, 3]
noncomputable def i8 : List Int := [0, 1, 2, 3, 4, 5, 6, 7]
noncomputable def x31 : List Int := [0, 1, 2, 3, 4, 5, 6, 7, 8, 9, 10, 11, 12, 13, 14, 15, 16, 17, 18, 19, 20, 21, 22, 23, 24, 25, 26, 27, 28, 29, 30]
noncomputable def partsX (x : Int) : Bool := (i4.all fun i => partB (nzX x) ((roadL (noX x)).getD i.toNat ⟨#[]⟩) (headL.getD i.toNat ⟨#[]⟩)) && (i4.all fun i => partB (nzX x) ((kindL (noX x)).getD i.toNat ⟨#[]⟩) (nameL.getD (i.fdiv 2).toNat ⟨#[]⟩)) && (i4.all fun i => partB (nzX x) (markL.getD i.toNat ⟨#[]⟩) (markL.getD i.toNat ⟨#[]⟩)) && (i8.all fun i => partB (nzX x) ((signsL (noX x) (grX x)).getD i.toNat ⟨#[]⟩) (meansL.getD i.toNat ⟨#[]⟩)) && nothL.contains (nzX x : Int)
theorem parts_ok : (x31.all partsX) = true := by decide +kernel
theorem in4 {i : Int} (h0 : 0 <= i) (h1 : i < 4) : i ∈ i4 := by
 have e : i4 = (List.range 4).map (fun (k : Nat) => (k : Int)) := by decide
 rw [e]
 exact List.mem_map.mpr ⟨i.toNat, List.mem_range.mpr (by lia), by lia⟩
theorem in8 {i : Int} (h0 : 0 <= i) (h1 : i < 8) : i ∈ i8 := by
 have e : i8 = (List.range 8).map (fun (k : Nat) => (k : Int)) := by decide
 rw [e]
 exact List.mem_map.mpr ⟨i.toNat, List.mem_range.mpr (by lia), by lia⟩
theorem in31 {i : Int} (h0 : 0 <= i) (h1 : i <= 30) : i ∈ x31 := by
 have e : x31 = (List.range 31).map (fun (k : Nat) => (k : Int)) := by decide
 rw [e]
 exact List.mem_map.mpr ⟨i.toNat, List.mem_range.mpr (by lia), by lia⟩
theorem fmI (c : Int) (d : Int) (hd : 0 < d) : 0 <= c.fmod d /\ c.fmod d < d := ⟨Int.fmod_nonneg_of_pos _ hd, Int.fmod_lt_of_pos _ hd⟩
structure Sp (z : Nat) (s m : List Nat) (k : Nat) : Prop where
 mem : ∀ c ∈ s, c = z \/ ∃ p ∈ charT, p.1 = c
 eq : (s.filter (fun c => c != z)).flatMap lookCh = m
 len : s.length <= k
theorem Sp.app {z : Nat} {s1 m1 s2 m2 : List Nat} {k1 k2 : Nat} (a : Sp z s1 m1 k1) (b : Sp z s2 m2 k2) : Sp z (s1 ++ s2) (m1 ++ m2) (k1 + k2) where
 mem c hc := (List.mem_append.mp hc).elim (a.mem c) (b.mem c)
 eq := by rw [List.filter_append, List.flatMap_append, a.eq, b.eq]
 len := by have := a.len; have := b.len; rw [List.length_append]; lia
theorem partB_sp {z : Nat} {s m : Str} (h : partB z s m = true) : Sp z (lt s) (lt m) 4 := by
 unfold partB at h
 rw [Bool.and_eq_true, Bool.and_eq_true, decide_eq_true_eq, beq_iff_eq, List.all_eq_true] at h
 refine ⟨fun c hc => ?_, h.1.2, by rw [lt_len]; exact h.2⟩
 have := h.1.1 c hc
 rw [Bool.or_eq_true, beq_iff_eq, List.any_eq_true] at this
 rcases this with e | ⟨p, hp, e⟩
 . exact .inl e
 . exact .inr ⟨p, hp, beq_iff_eq.mp e⟩
theorem charT_of {p : Nat × List Nat} (h : p ∈ charT) : mapOk p.1 = true /\ lt (mapZ p.1) = p.2 /\ inB1 p.1 = false /\ p.2.length <= 3 := by
 have h1 := chars_ok
 rw [Bool.and_eq_true, List.all_eq_true] at h1
 have h2 := h1.1 p h
 rw [Bool.and_eq_true, Bool.and_eq_true, Bool.and_eq_true, beq_iff_eq, decide_eq_true_eq, Bool.not_eq_true'] at h2
 exact ⟨h2.1.1.1, by rw [mapZ_l]; exact h2.1.1.2, h2.1.2, h2.2⟩
theorem noth_of {z : Nat} (h : (z : Int) ∈ nothL) : mapOk z = true /\ inB1 z = true := by
 have h1 := chars_ok
 rw [Bool.and_eq_true, List.all_eq_true, List.all_eq_true] at h1
 have h2 := h1.2 _ h
 rw [Bool.and_eq_true] at h2
 rw [Int.toNat_natCast] at h2
 exact h2
theorem lookCh_eq {c : Nat} (h : ∃ p ∈ charT, p.1 = c) : lookCh c = lt (mapZ c) := by
 unfold lookCh
 cases e : charT.find? (fun p => p.1 == c) with
 | none =>
   obtain ⟨p, hp, e2⟩ := h
   have := List.find?_eq_none.mp e p hp
   rw [e2] at this
   simp at this
 | some q =>
   have h1 := List.find?_some e
   have h2 := List.mem_of_find?_eq_some e
   have h3 : q.1 = c := beq_iff_eq.mp h1
   rw [<- h3, (charT_of h2).2.1]; rfl
section
variable {z : Nat} {s m : List Nat} {k : Nat} (S : Sp z s m k) (hz : (z : Int) ∈ nothL)
include S hz
theorem sp_b1 (c : Nat) (hc : c ∈ s) : inB1 c = ((⟨#[c]⟩ : Str) == ⟨#[z]⟩) := by
 rcases S.mem c hc with rfl | ⟨p, hp, rfl⟩
 . rw [(noth_of hz).2, beq_self_eq_true]
 . rw [(charT_of hp).2.2.1]
   refine (beq_eq_false_iff_ne.mpr fun e => ?_).symm
   have : p.1 = z := by
     have := congrArg lt e
     simpa using this
   have h1 := (charT_of hp).2.2.1
   rw [this, (noth_of hz).2] at h1
   cases h1
theorem sp_map (c : Nat) (hc : c ∈ s) : (∃ t', b3get c = some (.str (mapZ c) t')) \/ (b3get c = none /\ Txt.lower ⟨#[c]⟩ = mapZ c) := by
 refine mapOk_or ?_
 rcases S.mem c hc with rfl | ⟨p, hp, rfl⟩
 . exact (noth_of hz).1
 . exact (charT_of hp).1
theorem sp_filter : s.filter (fun c => !((⟨#[c]⟩ : Str) == ⟨#[z]⟩)) = s.filter (fun c => c != z) := by
 refine List.filter_congr fun c hc => ?_
 show (!_) = !(c == z)
 congr 1
 rw [Bool.eq_iff_iff, beq_iff_eq, beq_iff_eq]
 constructor
 . intro e
   have := congrArg lt e
   simpa using this
 . rintro rfl; rfl
theorem sp_tab (c : Nat) (hc : c ∈ s.filter (fun c => c != z)) : ∃ p ∈ charT, p.1 = c := by
 obtain ⟨h1, h2⟩ := List.mem_filter.mp hc
 rcases S.mem c h1 with e | h
 . rw [e] at h2; simp at h2
 . exact h
theorem sp_ready : ((s.filter (fun c => !((⟨#[c]⟩ : Str) == ⟨#[z]⟩))).map mapZ).flatMap lt = m := by
 rw [sp_filter S hz, <- S.eq, List.flatMap_map]
 rw [List.flatMap_def, List.flatMap_def]
 congr 1
 exact List.map_congr_left fun c hc => (lookCh_eq (sp_tab S hz c hc)).symm
theorem sp_sum (hk : k <= 64) : ((((s.filter (fun c => !((⟨#[c]⟩ : Str) == ⟨#[z]⟩))).map mapZ).map (·.length)).sum) <= 4096 := by
 have h1 := len_sum (l := (s.filter (fun c => !((⟨#[c]⟩ : Str) == ⟨#[z]⟩))).map mapZ) (n := 3) (fun x hx => by
   obtain ⟨c, hc, rfl⟩ := List.mem_map.mp hx
   rw [sp_filter S hz] at hc
   obtain ⟨p, hp, rfl⟩ := sp_tab S hz c hc
   rw [<- lt_len, (charT_of hp).2.1]
   exact (charT_of hp).2.2.2)
 rw [List.length_map] at h1
 have h2 := List.length_filter_le (fun c => !((⟨#[c]⟩ : Str) == ⟨#[z]⟩)) s
 have h3 := S.len
 lia
end
end Mine
end
section
namespace Mine
noncomputable def Due (G : Nat -> Nat -> Prop) (m k : Nat) : Prop := k < m /\ ∀ j, j < m -> j ≠ k -> G j k -> k < j /\ G k j
section
variable {G : Nat -> Nat -> Prop} (hr : ∀ k, G k k) (ht : ∀ i j k, G i j -> G j k -> G i k)
include hr ht
theorem due_old {m k : Nat} (hx : ∃ d, Due G m d /\ G d m) : Due G (m + 1) k ↔ Due G m k := by
 obtain ⟨d, hd, hg⟩ := hx
 constructor
 . intro h
   have hk : k < m := by
     have h1 := h.1
     rcases Nat.lt_or_ge k m with h2 | h2
     . exact h2
     . have e : k = m := by lia
       subst e
       have hdk := hd.1
       have := (h.2 d (by lia) (by lia) hg).1
       lia
   exact ⟨hk, fun j hj hjk g => h.2 j (by lia) hjk g⟩
 . intro h
   refine ⟨by have := h.1; lia, fun j hj hjk g => ?_⟩
   rcases Nat.lt_or_ge j m with h2 | h2
   . exact h.2 j h2 hjk g
   . have e : j = m := by lia
     subst e
     refine ⟨h.1, ?_⟩
     by_cases e : d = k
     . exact e ▸ hg
     . exact ht _ _ _ (h.2 d hd.1 e (ht _ _ _ hg g)).2 hg
theorem due_new {m k : Nat} (hx : ¬ ∃ d, Due G m d /\ G d m) (hd : ∀ j, j < m -> ∃ d, Due G m d /\ G d j) : Due G (m + 1) k ↔ k = m \/ (Due G m k /\ ¬ G m k) := by
 constructor
 . intro h
   by_cases e : k = m
   . exact .inl e
   . have hk : k < m := by have := h.1; lia
     have hD : Due G m k := ⟨hk, fun j hj hjk g => h.2 j (by lia) hjk g⟩
     exact .inr ⟨hD, fun g => hx ⟨k, hD, (h.2 m (by lia) (by lia) g).2⟩⟩
 . rintro (rfl | ⟨h, hn⟩)
   . refine ⟨by lia, fun j hj hjk g => ?_⟩
     obtain ⟨d, h1, h2⟩ := hd j (by lia)
     exact absurd ⟨d, h1, ht _ _ _ h2 g⟩ hx
   . refine ⟨by have := h.1; lia, fun j hj hjk g => ?_⟩
     rcases Nat.lt_or_ge j m with h2 | h2
     . exact h.2 j h2 hjk g
     . have e : j = m := by lia
       subst e
       exact absurd g hn
theorem due_dom : ∀ m j, j < m -> ∃ d, Due G m d /\ G d j
 | 0, j, h => absurd h (Nat.not_lt_zero j)
 | m + 1, j, h => by
   by_cases hx : ∃ d, Due G m d /\ G d m
   . rcases Nat.lt_or_ge j m with h2 | h2
     . obtain ⟨d, h3, h4⟩ := due_dom m j h2
       exact ⟨d, (due_old hr ht hx).mpr h3, h4⟩
     . have e : j = m := by lia
       subst e
       obtain ⟨d, h3, h4⟩ := hx
       exact ⟨d, (due_old hr ht ⟨d, h3, h4⟩).mpr h3, h4⟩
   . have hn := fun k => due_new (k := k) hr ht hx (due_dom m)
     rcases Nat.lt_or_ge j m with h2 | h2
     . obtain ⟨d, h3, h4⟩ := due_dom m j h2
       by_cases g : G m d
       . exact ⟨m, (hn m).mpr (.inl rfl), ht _ _ _ g h4⟩
       . exact ⟨d, (hn d).mpr (.inr ⟨h3, g⟩), h4⟩
     . have e : j = m := by lia
       subst e
       exact ⟨j, (hn j).mpr (.inl rfl), hr j⟩
end
end Mine
end
section
open PySem PySem.Spec PySem.Calls PySem.W PyProof.Rows PySem.Builtin PySem.Builtin.Str
namespace Mine
theorem app_cong {α : Type} {a b c d : List α} (h1 : a = c) (h2 : b = d) : a ++ b = c ++ d := by rw [h1, h2]
theorem snoc_ind {P : List Int -> Prop} (h0 : P []) (h1 : ∀ l a, P l -> P (l ++ [a])) : ∀ l, P l := by
 intro l
 have h : ∀ r : List Int, P r.reverse := by
   intro r
   induction r with
   | nil => exact h0
   | cons a r ih => rw [List.reverse_cons]; exact h1 _ _ ih
 have := h l.reverse
 rwa [List.reverse_reverse] at this
theorem name_cases (n : Int) : nameZ n = Str.ofString "e" \/ nameZ n = Str.ofString "es" := by
 unfold nameZ
 have h1 : 0 <= (n.fdiv 2048).fmod 4 := Int.fmod_nonneg_of_pos _ (by decide)
 have h2 : (n.fdiv 2048).fmod 4 < 4 := Int.fmod_lt_of_pos _ (by decide)
 generalize (n.fdiv 2048).fmod 4 = x at h1 h2
 have : x = 0 \/ x = 1 \/ x = 2 \/ x = 3 := by lia
 rcases this with rfl | rfl | rfl | rfl
 . exact .inl (by decide)
 . exact .inl (by decide)
 . exact .inr (by decide)
 . exact .inr (by decide)
theorem wtA_ok (ns : List Int) (k : Nat) : wantB (wtA ns k) = true := by
 unfold wtA
 rw [List.getD_eq_getElem?_getD]
 cases e : (ns.map wantZ)[k]? with
 | none => exact wt_nil
 | some w =>
   obtain ⟨n, _, rfl⟩ := List.mem_map.mp (List.mem_of_getElem? e)
   exact wantZ_ok n
theorem nmA_cases {ns : List Int} {k : Nat} (h : k < ns.length) : nmA ns k = Str.ofString "e" \/ nmA ns k = Str.ofString "es" := by
 unfold nmA
 rw [List.getD_eq_getElem?_getD, List.getElem?_map, List.getElem?_eq_getElem h]
 exact name_cases _
theorem getD_snoc_lt {f : Int -> Str} {ns : List Int} {n : Int} {k : Nat} (h : k < ns.length) : ((ns ++ [n]).map f).getD k ⟨#[]⟩ = (ns.map f).getD k ⟨#[]⟩ := by
 rw [List.getD_eq_getElem?_getD, List.getD_eq_getElem?_getD, List.getElem?_map, List.getElem?_map, List.getElem?_append_left h]
theorem getD_snoc_eq {f : Int -> Str} {ns : List Int} {n : Int} : ((ns ++ [n]).map f).getD ns.length ⟨#[]⟩ = f n := by
 rw [List.getD_eq_getElem?_getD, List.getElem?_map, List.getElem?_append_right (Nat.le_refl _), Nat.sub_self]; rfl
theorem nmA_lt {ns : List Int} {n : Int} {k : Nat} (h : k < ns.length) : nmA (ns ++ [n]) k = nmA ns k := getD_snoc_lt h
theorem wtA_lt {ns : List Int} {n : Int} {k : Nat} (h : k < ns.length) : wtA (ns ++ [n]) k = wtA ns k := getD_snoc_lt h
theorem nmA_eq {ns : List Int} {n : Int} : nmA (ns ++ [n]) ns.length = nameZ n := getD_snoc_eq
theorem wtA_eq {ns : List Int} {n : Int} : wtA (ns ++ [n]) ns.length = wantZ n := getD_snoc_eq
noncomputable def gB (ns : List Int) (j k : Nat) : Bool := (nmA ns j == nmA ns k) && takeZ (wtA ns j) (samplesOf (wtA ns k))
noncomputable def gP (ns : List Int) (j k : Nat) : Prop := gB ns j k = true
theorem gP_iff {ns : List Int} {j k : Nat} : gP ns j k ↔ nmA ns j = nmA ns k /\ takeZ (wtA ns j) (samplesOf (wtA ns k)) = true := by
 unfold gP gB; rw [Bool.and_eq_true, beq_iff_eq]
theorem gP_refl (ns : List Int) (k : Nat) : gP ns k k := gP_iff.mpr ⟨rfl, cov_refl (wtA_ok ns k)⟩
theorem gP_trans (ns : List Int) (i j k : Nat) (h1 : gP ns i j) (h2 : gP ns j k) : gP ns i k :=
 gP_iff.mpr ⟨(gP_iff.mp h1).1.trans (gP_iff.mp h2).1, cov_trans (wtA_ok ns i) (wtA_ok ns j) (gP_iff.mp h1).2 (gP_iff.mp h2).2⟩
theorem gP_take {ns : List Int} {j k : Nat} {t : Str} (h1 : gP ns j k) (h2 : takeZ (wtA ns k) t = true) : takeZ (wtA ns j) t = true := cov_trans (wtA_ok ns j) (wtA_ok ns k) (gP_iff.mp h1).2 h2
theorem dueB_iff {ns : List Int} {k : Nat} (hk : k < ns.length) : dueB ns k = true ↔ Due (gP ns) ns.length k := by
 unfold dueB Due
 rw [decide_eq_true_eq, List.map_eq_nil_iff, List.filter_eq_nil_iff]
 unfold overZ
 constructor
 . intro h
   refine ⟨hk, fun j hj hjk g => ?_⟩
   have h1 := h j (List.mem_filter.mpr ⟨List.mem_range.mpr hj, overB_t (by lia) (by rw [(gP_iff.mp g).1]; exact beq_self_eq_true _) (gP_iff.mp g).2⟩)
   unfold stopB at h1
   rw [Bool.or_eq_true, decide_eq_true_eq, Bool.not_eq_true'] at h1
   have h2 : ¬ (j : Int) < (k : Int) := fun q => h1 (.inl q)
   refine ⟨by lia, gP_iff.mpr ⟨(gP_iff.mp g).1.symm, ?_⟩⟩
   cases e : takeZ (wtA ns k) (samplesOf (wtA ns j)) with
   | true => rfl
   | false => exact absurd (.inr e) h1
 . rintro ⟨_, h⟩ j hj
   obtain ⟨hj1, hj2⟩ := List.mem_filter.mp hj
   unfold overB at hj2
   rw [Bool.and_eq_true, bne_iff_ne, Bool.and_eq_true, beq_iff_eq] at hj2
   have h1 := h j (List.mem_range.mp hj1) (by have := hj2.1; lia) (gP_iff.mpr hj2.2)
   rw [stopB_f (by have := h1.1; lia) (gP_iff.mp h1.2).2]
   exact Bool.noConfusion
theorem mem_due {ns : List Int} {k : Nat} : k ∈ dueZ ns ↔ Due (gP ns) ns.length k := by
 unfold dueZ
 rw [List.mem_filter, List.mem_range]
 constructor
 . rintro ⟨h1, h2⟩; exact (dueB_iff h1).mp h2
 . intro h; exact ⟨h.1, (dueB_iff h.1).mpr h⟩
theorem due_exists {ns : List Int} {j : Nat} (h : j < ns.length) : ∃ d, d ∈ dueZ ns /\ gP ns d j := by
 obtain ⟨d, h1, h2⟩ := due_dom (gP_refl ns) (gP_trans ns) ns.length j h
 exact ⟨d, mem_due.mpr h1, h2⟩
theorem gB_lt {ns : List Int} {n : Int} {j k : Nat} (hj : j < ns.length) (hk : k < ns.length) : gB (ns ++ [n]) j k = gB ns j k := by
 unfold gB; rw [nmA_lt hj, nmA_lt hk, wtA_lt hj, wtA_lt hk]
theorem due_lt' {ns : List Int} {n : Int} {k : Nat} : Due (gP (ns ++ [n])) ns.length k ↔ Due (gP ns) ns.length k := by
 unfold Due gP
 refine and_congr_right fun hk => forall_congr' fun j => forall_congr' fun hj => ?_
 rw [gB_lt hj hk, gB_lt hk hj]
theorem len_snoc {ns : List Int} {n : Int} : (ns ++ [n]).length = ns.length + 1 := by simp
section
variable {ns : List Int} {n : Int}
theorem dueZ_old (hx : ∃ d, Due (gP (ns ++ [n])) ns.length d /\ gP (ns ++ [n]) d ns.length) : dueZ (ns ++ [n]) = dueZ ns := by
 have hD := fun k => due_old (k := k) (gP_refl (ns ++ [n])) (gP_trans (ns ++ [n])) hx
 unfold dueZ
 rw [len_snoc, List.range_succ, List.filter_append]
 have e1 : (List.range ns.length).filter (dueB (ns ++ [n])) = (List.range ns.length).filter (dueB ns) := by
   refine List.filter_congr fun k hk => ?_
   have hk' := List.mem_range.mp hk
   rw [Bool.eq_iff_iff, dueB_iff (by rw [len_snoc]; lia), dueB_iff hk', len_snoc, hD, due_lt']
 have e2 : [ns.length].filter (dueB (ns ++ [n])) = [] := by
   rw [List.filter_eq_nil_iff]
   intro a ha
   rw [List.mem_singleton.mp ha, dueB_iff (by rw [len_snoc]; lia), len_snoc, hD]
   intro h
   exact absurd h.1 (Nat.lt_irrefl _)
 rw [e1, e2, List.append_nil]
theorem dueZ_new (hx : ¬ ∃ d, Due (gP (ns ++ [n])) ns.length d /\ gP (ns ++ [n]) d ns.length) : dueZ (ns ++ [n]) = (dueZ ns).filter (fun k => !gB (ns ++ [n]) ns.length k) ++ [ns.length] := by
 have hD := fun k => due_new (k := k) (gP_refl (ns ++ [n])) (gP_trans (ns ++ [n])) hx (due_dom (gP_refl (ns ++ [n])) (gP_trans (ns ++ [n])) ns.length)
 unfold dueZ
 rw [len_snoc, List.range_succ, List.filter_append, List.filter_filter]
 have e1 : (List.range ns.length).filter (dueB (ns ++ [n])) = (List.range ns.length).filter (fun k => !gB (ns ++ [n]) ns.length k && dueB ns k) := by
   refine List.filter_congr fun k hk => ?_
   have hk' := List.mem_range.mp hk
   rw [Bool.eq_iff_iff, dueB_iff (by rw [len_snoc]; lia), len_snoc, hD, due_lt', Bool.and_eq_true, dueB_iff hk', Bool.not_eq_true']
   constructor
   . rintro (h | ⟨h1, h2⟩)
     . lia
     . refine ⟨?_, h1⟩
       cases e : gB (ns ++ [n]) ns.length k with
       | true => exact absurd e h2
       | false => rfl
   . rintro ⟨h1, h2⟩
     refine .inr ⟨h2, fun h => ?_⟩
     unfold gP at h
     rw [h1] at h; cases h
 have e2 : [ns.length].filter (dueB (ns ++ [n])) = [ns.length] := by
   rw [List.filter_eq_self]
   intro a ha
   rw [List.mem_singleton.mp ha, dueB_iff (by rw [len_snoc]; lia), len_snoc, hD]
   exact .inl rfl
 rw [e1, e2]
end
theorem sort_filter {ns : List Int} {P : Nat -> Bool} {b : Bool} (hP : ∀ k ∈ dueZ ns, P k = (esB ns k == b)) : (sortK ns).filter P = (dueZ ns).filter P := by
 unfold sortK
 rw [List.filter_append, List.filter_filter, List.filter_filter]
 by_cases e : b = lastE ns
 . have e1 : (dueZ ns).filter (fun k => P k && (esB ns k != lastE ns)) = [] := by
     rw [List.filter_eq_nil_iff]
     intro k hk
     rw [hP k hk, e]
     cases esB ns k <;> cases lastE ns <;> decide
   have e2 : (dueZ ns).filter (fun k => P k && (esB ns k == lastE ns)) = (dueZ ns).filter P := by
     refine List.filter_congr fun k hk => ?_
     rw [hP k hk, e]
     cases esB ns k <;> cases lastE ns <;> decide
   rw [e1, e2, List.nil_append]
 . have e1 : (dueZ ns).filter (fun k => P k && (esB ns k != lastE ns)) = (dueZ ns).filter P := by
     refine List.filter_congr fun k hk => ?_
     rw [hP k hk]
     revert e
     cases esB ns k <;> cases lastE ns <;> cases b <;> decide
   have e2 : (dueZ ns).filter (fun k => P k && (esB ns k == lastE ns)) = [] := by
     rw [List.filter_eq_nil_iff]
     intro k hk
     rw [hP k hk]
     revert e
     cases esB ns k <;> cases lastE ns <;> cases b <;> decide
   rw [e1, e2, List.append_nil]
theorem shown_cases (i : Nat) (nm : Str) : shownZ i nm = nm \/ shownZ i nm = Txt.upper nm := by
 unfold shownZ
 obtain ⟨h1, h2⟩ := fm2 i
 generalize (i : Int).fmod 2 = x at h1 h2
 have : x = 0 \/ x = 1 := by lia
 rcases this with rfl | rfl
 . exact .inl rfl
 . exact .inr rfl
theorem lower_shown {nm : Str} (h : nm = Str.ofString "e" \/ nm = Str.ofString "es") (i : Nat) : Txt.lower (shownZ i nm) = nm := by
 rcases h with rfl | rfl
 . rcases shown_cases i (Str.ofString "e") with e | e <;> rw [e] <;> decide +kernel
 . rcases shown_cases i (Str.ofString "es") with e | e <;> rw [e] <;> decide +kernel
theorem beq_es {x y : Str} (hx : x = Str.ofString "e" \/ x = Str.ofString "es") (hy : y = Str.ofString "e" \/ y = Str.ofString "es") : (x == y) = ((x == Str.ofString "es") == (y == Str.ofString "es")) := by
 rcases hx with rfl | rfl <;> rcases hy with rfl | rfl <;> decide
noncomputable def rowZ (ns : List Int) (k : Nat) : Str × Str := (shownZ (lastZ ns k) (nmA ns k), wtA ns k)
theorem sort_mem' {ns : List Int} {k : Nat} (h : k ∈ sortK ns) : k ∈ dueZ ns := by
 unfold sortK at h
 rcases List.mem_append.mp h with h | h <;> exact (List.mem_filter.mp h).1
theorem row_low {ns : List Int} {k : Nat} (h : k ∈ sortK ns) : Txt.lower (rowZ ns k).1 = nmA ns k := lower_shown (nmA_cases (due_lt (sort_mem' h))) _
theorem rows_filter {ns : List Int} {x : Str} (hx : x = Str.ofString "e" \/ x = Str.ofString "es") : ((sortK ns).map (rowZ ns)).filter (fun kv => Txt.lower kv.1 == x) = ((dueZ ns).filter (fun k => nmA ns k == x)).map (rowZ ns) := by
 rw [List.filter_map, <- sort_filter (b := x == Str.ofString "es") (fun k hk => beq_es (nmA_cases (due_lt hk)) hx)]
 congr 1
 exact List.filter_congr fun k hk => by rw [Function.comp_apply, row_low hk]
theorem rows_filter_ne {ns : List Int} {x : Str} (hx : x = Str.ofString "e" \/ x = Str.ofString "es") : ((sortK ns).map (rowZ ns)).filter (fun kv => Txt.lower kv.1 != x) = ((dueZ ns).filter (fun k => nmA ns k != x)).map (rowZ ns) := by
 rw [List.filter_map, <- sort_filter (b := !(x == Str.ofString "es")) (fun k hk => ?_)]
 . congr 1
   exact List.filter_congr fun k hk => by rw [Function.comp_apply, row_low hk]
 . show (!(nmA ns k == x)) = _
   rw [beq_es (nmA_cases (due_lt hk)) hx]
   unfold esB
   cases (nmA ns k == Str.ofString "es") <;> cases (x == Str.ofString "es") <;> decide
theorem smpT_eq {w : Str} (h : wantB w = true) : smpT w = samplesOf w := by
 unfold smpT; rw [if_pos (wB_slen h)]
theorem allN_due (ns : List Int) (hI : tabZ ns = (sortK ns).map (rowZ ns)) {un x : Str} (e : Txt.lower un = x) (hx : x = Str.ofString "e" \/ x = Str.ofString "es") : allN (tabZ ns) un = ((dueZ ns).filter (fun k => nmA ns k == x)).map (wtA ns) := by
 unfold allN
 rw [hI, e, rows_filter hx, List.map_map]
 rfl
theorem items_law : ∀ ns : List Int, tabZ ns = (sortK ns).map (rowZ ns) := by
 refine snoc_ind rfl fun ns n ih => ?_
 have hlow : Txt.lower (shownZ ns.length (nameZ n)) = nameZ n := lower_shown (name_cases n) _
 have hW := wantZ_ok n
 have hK : keptOf (tabZ ns) (shownZ ns.length (nameZ n)) = ((dueZ ns).filter (fun k => nmA ns k == nameZ n)).map (wtA ns) := allN_due ns ih hlow (name_cases n)
 have hc : (((dueZ ns).filter (fun k => nmA ns k == nameZ n)).map (wtA ns)).filter (fun z => ellZ z (smpT (wantZ n))) = [] ↔ ¬ ∃ d, Due (gP (ns ++ [n])) ns.length d /\ gP (ns ++ [n]) d ns.length := by
   rw [List.filter_eq_nil_iff]
   constructor
   . rintro h ⟨d, h1, h2⟩
     have h3 := gP_iff.mp h2
     rw [nmA_lt h1.1, nmA_eq, wtA_lt h1.1, wtA_eq] at h3
     refine h _ (List.mem_map.mpr ⟨d, List.mem_filter.mpr ⟨mem_due.mpr (due_lt'.mp h1), beq_iff_eq.mpr h3.1⟩, rfl⟩) ?_
     rw [ell_take (wtA_ok ns d), smpT_eq hW]
     exact h3.2
   . intro h z hz hz2
     obtain ⟨d, hd, rfl⟩ := List.mem_map.mp hz
     obtain ⟨h1, h2⟩ := List.mem_filter.mp hd
     have h1' := due_lt h1
     refine h ⟨d, due_lt'.mpr (mem_due.mp h1), gP_iff.mpr ?_⟩
     rw [nmA_lt h1', nmA_eq, wtA_lt h1', wtA_eq]
     rw [ell_take (wtA_ok ns d), smpT_eq hW] at hz2
     exact ⟨beq_iff_eq.mp h2, hz2⟩
 have hes : ∀ k, k < ns.length -> esB (ns ++ [n]) k = esB ns k := fun k hk => by unfold esB; rw [nmA_lt hk]
 rw [tabZ_snoc]
 unfold keepZ
 rw [hK]
 by_cases hx : ∃ d, Due (gP (ns ++ [n])) ns.length d /\ gP (ns ++ [n]) d ns.length
 . rw [if_neg (fun q => hc.mp q hx), ih]
   have hD := dueZ_old hx
   have hS : sortK (ns ++ [n]) = sortK ns := by
     have hl : ∀ k ∈ dueZ ns, lastE (ns ++ [n]) = lastE ns := by
       intro k hk
       unfold lastE
       rw [hD, hes _ (due_lt (last_mem _ (List.ne_nil_of_mem hk)))]
     unfold sortK
     rw [hD]
     congr 1
     . exact List.filter_congr fun k hk => by rw [hes k (due_lt hk), hl k hk]
     . exact List.filter_congr fun k hk => by rw [hes k (due_lt hk), hl k hk]
   rw [hS]
   refine List.map_congr_left fun k hk => ?_
   have hk' := due_lt (sort_mem' hk)
   unfold rowZ
   have hL : lastZ (ns ++ [n]) k = lastZ ns k := by
     unfold lastZ sameL
     rw [hD]
     congr 1
     exact List.filter_congr fun j hj => by rw [nmA_lt (due_lt hj), nmA_lt hk']
   rw [hL, nmA_lt hk', wtA_lt hk']
 . rw [if_pos (hc.mpr hx), hlow, ih, rows_filter_ne (name_cases n)]
   have hD := dueZ_new hx
   have hm : ns.length < (ns ++ [n]).length := by rw [len_snoc]; lia
   have hkl : ∀ k ∈ dueZ ns, k < (ns ++ [n]).length := fun k hk => by have := due_lt hk; rw [len_snoc]; lia
   have hnm' : ∀ k, k < (ns ++ [n]).length -> nmA (ns ++ [n]) k = Str.ofString "e" \/ nmA (ns ++ [n]) k = Str.ofString "es" := fun k hk => nmA_cases hk
   have hE : lastE (ns ++ [n]) = esB (ns ++ [n]) ns.length := by
     unfold lastE
     rw [hD, List.getLastD_concat]
   have hne : ∀ k ∈ dueZ ns, (esB (ns ++ [n]) k == esB (ns ++ [n]) ns.length) = (nmA ns k == nameZ n) := by
     intro k hk
     rw [<- nm_es hnm' (hkl k hk) hm, nmA_lt (due_lt hk), nmA_eq]
   have hg : ∀ k ∈ dueZ ns, gB (ns ++ [n]) ns.length k = ((nmA ns k == nameZ n) && takeZ (wantZ n) (samplesOf (wtA ns k))) := by
     intro k hk
     unfold gB
     rw [nmA_lt (due_lt hk), nmA_eq, wtA_lt (due_lt hk), wtA_eq]
     congr 1
     exact Bool.eq_iff_iff.mpr (by rw [beq_iff_eq, beq_iff_eq]; exact eq_comm)
   have s1 : (dueZ (ns ++ [n])).filter (fun k => esB (ns ++ [n]) k != lastE (ns ++ [n])) = (dueZ ns).filter (fun k => nmA ns k != nameZ n) := by
     rw [hE, hD, List.filter_append, List.filter_filter]
     have e2 : [ns.length].filter (fun k => esB (ns ++ [n]) k != esB (ns ++ [n]) ns.length) = [] := by simp
     rw [e2, List.append_nil]
     refine List.filter_congr fun k hk => ?_
     have h1 := hne k hk
     have h2 := hg k hk
     rw [h2]
     show (!(esB (ns ++ [n]) k == esB (ns ++ [n]) ns.length) && _) = !(nmA ns k == nameZ n)
     rw [h1]
     cases (nmA ns k == nameZ n) <;> cases takeZ (wantZ n) (samplesOf (wtA ns k)) <;> decide
   have s2 : (dueZ (ns ++ [n])).filter (fun k => esB (ns ++ [n]) k == lastE (ns ++ [n])) = ((dueZ ns).filter (fun k => nmA ns k == nameZ n)).filter (fun k => !takeZ (wantZ n) (samplesOf (wtA ns k))) ++ [ns.length] := by
     rw [hE, hD, List.filter_append, List.filter_filter, List.filter_filter]
     have e2 : [ns.length].filter (fun k => esB (ns ++ [n]) k == esB (ns ++ [n]) ns.length) = [ns.length] := by simp
     rw [e2]
     refine congrArg (fun l => l ++ [ns.length]) ?_
     refine List.filter_congr fun k hk => ?_
     rw [hne k hk, hg k hk]
     cases (nmA ns k == nameZ n) <;> cases takeZ (wantZ n) (samplesOf (wtA ns k)) <;> decide
   rw [show sortK (ns ++ [n]) = (dueZ (ns ++ [n])).filter (fun k => esB (ns ++ [n]) k != lastE (ns ++ [n])) ++ (dueZ (ns ++ [n])).filter (fun k => esB (ns ++ [n]) k == lastE (ns ++ [n])) from rfl, s1, s2, List.map_append, List.map_append, List.map_append]
   refine app_cong ?_ ?_
   . refine List.map_congr_left fun k hk => ?_
     obtain ⟨hk1, hk2⟩ := List.mem_filter.mp hk
     have hk' := due_lt hk1
     unfold rowZ
     have hL : lastZ (ns ++ [n]) k = lastZ ns k := by
       unfold lastZ sameL
       rw [hD, List.filter_append, List.filter_filter]
       have e2 : [ns.length].filter (fun j => nmA (ns ++ [n]) j == nmA (ns ++ [n]) k) = [] := by
         rw [List.filter_eq_nil_iff]
         intro a ha
         rw [List.mem_singleton.mp ha, nmA_eq, nmA_lt hk']
         intro q
         rw [beq_iff_eq.mp q] at hk2
         simp at hk2
       rw [e2, List.append_nil]
       congr 1
       refine List.filter_congr fun j hj => ?_
       rw [nmA_lt (due_lt hj), nmA_lt hk', hg j hj]
       cases e3 : (nmA ns j == nmA ns k) with
       | false => rfl
       | true =>
         have e4 : (nmA ns j == nameZ n) = false := by
           rw [beq_iff_eq.mp e3]
           have := hk2
           rw [bne_iff_ne] at this
           exact beq_eq_false_iff_ne.mpr this
         rw [e4]; rfl
     rw [hL, nmA_lt hk', wtA_lt hk']
   . have hlast : ∀ k, k < (ns ++ [n]).length -> nmA (ns ++ [n]) k = nameZ n -> lastZ (ns ++ [n]) k = ns.length := by
       intro k hk e
       unfold lastZ sameL
       rw [hD, List.filter_append]
       have e2 : [ns.length].filter (fun j => nmA (ns ++ [n]) j == nmA (ns ++ [n]) k) = [ns.length] := by
         rw [List.filter_eq_self]
         intro a ha
         rw [List.mem_singleton.mp ha, nmA_eq, e]
         exact beq_self_eq_true _
       rw [e2, List.getLastD_concat]
     refine app_cong ?_ ?_
     . rw [List.filter_map, List.map_map]
       have e5 : ((dueZ ns).filter (fun k => nmA ns k == nameZ n)).filter ((fun z => !ellZ (wantZ n) (smpT z)) ∘ wtA ns) = ((dueZ ns).filter (fun k => nmA ns k == nameZ n)).filter (fun k => !takeZ (wantZ n) (samplesOf (wtA ns k))) := by
         refine List.filter_congr fun k hk => ?_
         rw [Function.comp_apply, ell_take hW, smpT_eq (wtA_ok ns k)]
       rw [e5]
       refine List.map_congr_left fun k hk => ?_
       have hk1 := (List.mem_filter.mp hk).1
       obtain ⟨hk2, hk3⟩ := List.mem_filter.mp hk1
       have hk' := due_lt hk2
       have e6 : nmA (ns ++ [n]) k = nameZ n := by rw [nmA_lt hk']; exact beq_iff_eq.mp hk3
       unfold rowZ
       rw [hlast k (hkl k hk2) e6, e6, wtA_lt hk']
       rfl
     . show [(shownZ ns.length (nameZ n), wantZ n)] = [rowZ (ns ++ [n]) ns.length]
       unfold rowZ
       rw [hlast ns.length hm nmA_eq, nmA_eq, wtA_eq]
noncomputable def shB (y : Str) : Bool := plainB y && decide (y.length <= 16) && plainB (Txt.lower y) && decide ((Txt.lower y).length <= 16) && (Txt.lower (Txt.lower y) == Txt.lower y)
theorem shB_ok {y : Str} (h : shB y = true) : ShOk y := by
 unfold shB at h
 rw [Bool.and_eq_true, Bool.and_eq_true, Bool.and_eq_true, Bool.and_eq_true, decide_eq_true_eq, decide_eq_true_eq, beq_iff_eq] at h
 exact ⟨plainB_T h.1.1.1.1, h.1.1.1.2, plainB_T h.1.1.2, h.1.2, h.2⟩
theorem names_ok : ([Str.ofString "e", Str.ofString "es"].all fun nm => decide (nm.length <= 2) && decide ((Txt.upper nm).length <= 2) && shB nm && shB (Txt.upper nm)) = true := by decide +kernel
theorem heads_ok : (i4.all fun i => [Str.ofString "e", Str.ofString "es"].all fun nm => (stripZ (headL.getD i.toNat ⟨#[]⟩ ++ nm) == nm) && !(lt (headL.getD i.toNat ⟨#[]⟩ ++ nm)).contains 58 && !(lt (headL.getD i.toNat ⟨#[]⟩ ++ nm)).contains 10 && decide ((headL.getD i.toNat ⟨#[]⟩ ++ nm).length <= 16)) = true := by decide +kernel
theorem marks_ok : (i4.all fun i => ((lt (markL.getD i.toNat ⟨#[]⟩)).headD 0 == 58 || (lt (markL.getD i.toNat ⟨#[]⟩)).headD 0 == 10) && decide ((markL.getD i.toNat ⟨#[]⟩).length <= 4)) = true := by decide +kernel
theorem name_in {nm : Str} (h : nm = Str.ofString "e" \/ nm = Str.ofString "es") : nm ∈ [Str.ofString "e", Str.ofString "es"] := by
 rcases h with rfl | rfl <;> simp
theorem name_facts {nm : Str} (h : nm = Str.ofString "e" \/ nm = Str.ofString "es") : nm.length <= 2 /\ (Txt.upper nm).length <= 2 /\ ShOk nm /\ ShOk (Txt.upper nm) := by
 have h1 := names_ok
 rw [List.all_eq_true] at h1
 have h2 := h1 nm (name_in h)
 rw [Bool.and_eq_true, Bool.and_eq_true, Bool.and_eq_true, decide_eq_true_eq, decide_eq_true_eq] at h2
 exact ⟨h2.1.1.1, h2.1.1.2, shB_ok h2.1.2, shB_ok h2.2⟩
theorem shown_ok {nm : Str} (h : nm = Str.ofString "e" \/ nm = Str.ofString "es") (i : Nat) : ShOk (shownZ i nm) := by
 rcases shown_cases i nm with e | e <;> rw [e]
 . exact (name_facts h).2.2.1
 . exact (name_facts h).2.2.2
theorem row_good (n : Int) (h0 : 0 <= n) (h1 : n < 1000000) : RowOk n := by
 have hx : 0 <= n.fdiv 32768 /\ n.fdiv 32768 <= 30 := by
   rw [Int.fdiv_eq_ediv_of_nonneg n (by decide)]
   lia
 have hP : partsX (n.fdiv 32768) = true := by
   have h := parts_ok
   rw [List.all_eq_true] at h
   exact h _ (in31 hx.1 hx.2)
 unfold partsX at hP
 rw [Bool.and_eq_true, Bool.and_eq_true, Bool.and_eq_true, Bool.and_eq_true, List.all_eq_true, List.all_eq_true, List.all_eq_true, List.all_eq_true] at hP
 obtain ⟨⟨⟨⟨p1, p2⟩, p3⟩, p4⟩, p5⟩ := hP
 have hz : ((nzX (n.fdiv 32768) : Nat) : Int) ∈ nothL := List.contains_iff_mem.mp p5
 have hno : noZ n = ⟨#[nzX (n.fdiv 32768)]⟩ := rfl
 have r4 := fmI (n.fdiv 512) 4 (by decide)
 have k4 := fmI (n.fdiv 2048) 4 (by decide)
 have m4 := fmI (n.fdiv 8192) 4 (by decide)
 have f1 := fmI n 8 (by decide)
 have f2 := fmI (n.fdiv 8) 8 (by decide)
 have f3 := fmI (n.fdiv 64) 8 (by decide)
 have q1 := partB_sp (p1 _ (in4 r4.1 r4.2))
 have q2 := partB_sp (p2 _ (in4 k4.1 k4.2))
 have q3 := partB_sp (p3 _ (in4 m4.1 m4.2))
 have q4 := partB_sp (p4 _ (in8 f1.1 f1.2))
 have q5 := partB_sp (p4 _ (in8 f2.1 f2.2))
 have q6 := partB_sp (p4 _ (in8 f3.1 f3.2))
 have q0 : Sp (nzX (n.fdiv 32768)) [] [] 0 := ⟨(fun _ h => nomatch h), rfl, Nat.le_refl _⟩
 have S0 := (q1.app (q2.app q3)).app (q4.app (q5.app (q6.app q0)))
 have eS : lt (spelledZ n) = (lt (roadZ n) ++ (lt (kindZ n) ++ lt (markZ n))) ++ ((figsZ n).map (fun k => (signsL (noZ n) (grZ n)).getD k ⟨#[]⟩)).flatMap lt := by
   unfold spelledZ
   rw [lt_app, lt_app, lt_app, show Txt.join "" ((figsZ n).map (fun k => (signsL (noZ n) (grZ n)).getD k ⟨#[]⟩)) = Txt.join (Str.ofString "") ((figsZ n).map (fun k => (signsL (noZ n) (grZ n)).getD k ⟨#[]⟩)) from rfl, lt_joinT]
 have eW : lt (wantZ n) = ((figsZ n).map (fun k => meansL.getD k ⟨#[]⟩)).flatMap lt := by
   unfold wantZ
   rw [show Txt.join "" ((figsZ n).map (fun k => meansL.getD k ⟨#[]⟩)) = Txt.join (Str.ofString "") ((figsZ n).map (fun k => meansL.getD k ⟨#[]⟩)) from rfl, lt_joinT]
 have eH : lt (headZ n) = lt (headL.getD ((n.fdiv 512).fmod 4).toNat ⟨#[]⟩) ++ lt (nameZ n) := by unfold headZ; rw [lt_app]
 have eR : lt (readyZ n) = (lt (headL.getD ((n.fdiv 512).fmod 4).toNat ⟨#[]⟩) ++ (lt (nameZ n) ++ lt (markZ n))) ++ ((figsZ n).map (fun k => meansL.getD k ⟨#[]⟩)).flatMap lt := by
   show lt (headZ n ++ markZ n ++ wantZ n) = _
   rw [lt_app, lt_app, eH, eW, List.append_assoc (lt (headL.getD ((n.fdiv 512).fmod 4).toNat ⟨#[]⟩))]
 have S : Sp (nzX (n.fdiv 32768)) (lt (spelledZ n)) (lt (readyZ n)) 24 := by
   rw [eS, eR]
   exact S0
 have nc := name_cases n
 have hH := heads_ok
 rw [List.all_eq_true] at hH
 have hH2 := hH _ (in4 r4.1 r4.2)
 rw [List.all_eq_true] at hH2
 have hH3 := hH2 _ (name_in nc)
 rw [Bool.and_eq_true, Bool.and_eq_true, Bool.and_eq_true, beq_iff_eq, decide_eq_true_eq, Bool.not_eq_true', Bool.not_eq_true'] at hH3
 obtain ⟨⟨⟨s1, s2⟩, s3⟩, s4⟩ := hH3
 have hM := marks_ok
 rw [List.all_eq_true] at hM
 have hM2 := hM _ (in4 m4.1 m4.2)
 rw [Bool.and_eq_true, Bool.or_eq_true, beq_iff_eq, beq_iff_eq, decide_eq_true_eq] at hM2
 have n58 : 58 ∉ lt (headZ n) := fun h => by
   have : (lt (headZ n)).contains 58 = true := List.contains_iff_mem.mpr h
   rw [show (lt (headZ n)).contains 58 = false from s2] at this; cases this
 have n10 : 10 ∉ lt (headZ n) := fun h => by
   have : (lt (headZ n)).contains 10 = true := List.contains_iff_mem.mpr h
   rw [show (lt (headZ n)).contains 10 = false from s3] at this; cases this
 have hst2 : stripZ (headZ n) = nameZ n := s1
 have hmk : ∃ c R, lt (markZ n) = c :: R /\ (c = 58 \/ c = 10) := by
   have h2 : (lt (markZ n)).headD 0 = 58 \/ (lt (markZ n)).headD 0 = 10 := hM2.1
   cases e : lt (markZ n) with
   | nil => rw [e] at h2; simp at h2
   | cons c R => rw [e] at h2; exact ⟨c, R, rfl, h2⟩
 obtain ⟨c, R, eM, hc⟩ := hmk
 have hst1 : stripZ (readyZ n) = nameZ n := by
   rw [<- hst2]
   refine strip_head (c := c) (R := R ++ lt (wantZ n)) ?_ hc n58 n10
   show lt (headZ n ++ markZ n ++ wantZ n) = _
   rw [lt_app, lt_app, eM, List.append_assoc]; rfl
 have nf := name_facts nc
 have hW := wantZ_ok n
 exact {
   h0 := h0
   h1 := h1
   hb1 := by rw [hno]; exact sp_b1 S hz
   hmp := sp_map S hz
   hrdy := by
     refine lt_inj ?_
     rw [hno]
     exact (lt_joinT _).trans (sp_ready S hz)
   hst1 := hst1
   hst2 := hst2
   hl1 := by have := S.len; rw [lt_len] at this; lia
   hl2 := by rw [hno]; exact sp_sum S hz (by decide)
   hl3 := nf.1
   hl4 := s4
   hl5 := hM2.2
   hl6 := wB_len hW
   hl7 := nf.2.1
   hwp := plainB_T (wB_plain hW)
   hsh := shown_ok nc
   hsm := wB_slen hW }
theorem two_len {l : List Nat} {a b : Nat} (ha : a ∈ l) (hb : b ∈ l) (h : a ≠ b) : 2 <= l.length := by
 match l, ha, hb with
 | [x], ha, hb => rw [List.mem_singleton.mp ha, List.mem_singleton.mp hb] at h; exact absurd rfl h
 | x :: y :: r, _, _ => simp
theorem ev_in {p : Str × Str} : ∀ ns : List Int, p ∈ evZ ns -> ∃ i n, p.1 = shownZ i (nameZ n) := by
 refine snoc_ind (fun h => nomatch h) fun ns n ih h => ?_
 rw [evZ_snoc] at h
 rcases List.mem_append.mp h with h | h
 . exact ih h
 . rw [List.mem_singleton.mp h]; exact ⟨_, _, rfl⟩
theorem ever_ok (un : Str) : ∀ ns : List Int, allN (evZ ns) un = everZ ns un := by
 refine snoc_ind rfl fun ns n ih => ?_
 have e1 : everZ (ns ++ [n]) un = everZ ns un ++ ([ns.length].filter (fun k => nmA (ns ++ [n]) k == Txt.lower un)).map (wtA (ns ++ [n])) := by
   unfold everZ
   rw [len_snoc, List.range_succ, List.filter_append, List.map_append]
   refine app_cong ?_ rfl
   have e2 : (List.range ns.length).filter (fun k => nmA (ns ++ [n]) k == Txt.lower un) = (List.range ns.length).filter (fun k => nmA ns k == Txt.lower un) := List.filter_congr fun k hk => by rw [nmA_lt (List.mem_range.mp hk)]
   rw [e2]
   exact List.map_congr_left fun k hk => wtA_lt (List.mem_range.mp (List.mem_filter.mp hk).1)
 have e3 : allN (evZ (ns ++ [n])) un = allN (evZ ns) un ++ allN [(shownZ ns.length (nameZ n), wantZ n)] un := by
   unfold allN
   rw [evZ_snoc, List.filter_append, List.map_append]
 rw [e1, e3, ih]
 refine app_cong rfl ?_
 unfold allN
 have hl := lower_shown (name_cases n) ns.length
 cases e : (nameZ n == Txt.lower un) with
 | true => simp [hl, nmA_eq, wtA_eq, e]
 | false => simp [hl, nmA_eq, wtA_eq, e]
theorem caught_ok (ns : List Int) {un msg x : Str} (ex : Txt.lower un = x) (hx : x = Str.ofString "e" \/ x = Str.ofString "es") : decide (caughtZ ns un msg = []) = decide ((takenZ ns un msg).map (fun (j : Nat) => (j : Int)) = []) := by
 rw [decide_eq_decide, List.map_eq_nil_iff]
 unfold caughtZ takenZ
 rw [allN_due ns (items_law ns) ex hx, List.filter_eq_nil_iff, List.filter_eq_nil_iff]
 constructor
 . intro h k hk ht
   have hk' := List.mem_range.mp hk
   unfold takenB at ht
   rw [Bool.and_eq_true, beq_iff_eq, ex] at ht
   obtain ⟨d, hd, hg⟩ := due_exists hk'
   refine h (wtA ns d) (List.mem_map.mpr ⟨d, List.mem_filter.mpr ⟨hd, ?_⟩, rfl⟩) ?_
   . rw [(gP_iff.mp hg).1, ht.1]; exact beq_self_eq_true _
   . rw [ell_take (wtA_ok ns d)]; exact gP_take hg ht.2
 . intro h z hz ht
   obtain ⟨k, hk, rfl⟩ := List.mem_map.mp hz
   obtain ⟨h1, h2⟩ := List.mem_filter.mp hk
   rw [ell_take (wtA_ok ns k)] at ht
   exact h k (List.mem_range.mpr (due_lt h1)) (takenB_t (by rw [ex]; exact h2) ht)
theorem ask_ok (ns : List Int) {un msg x : Str} (ex : Txt.lower un = x) (hx : x = Str.ofString "e" \/ x = Str.ofString "es") (h1 : un.length <= 16) (h2 : msg.length <= 64) : AskOk ns un msg where
 hun := h1
 hulo := by rw [ex]; exact (name_facts hx).2.2.1.a
 hulo2 := by rw [ex]; exact Nat.le_trans (name_facts hx).1 (by decide)
 hmsg := h2
 hTz := by
   intro z hz
   rw [allN_due ns (items_law ns) ex hx] at hz
   obtain ⟨k, hk, rfl⟩ := List.mem_map.mp hz
   exact ⟨Nat.le_trans (wB_len (wtA_ok ns k)) (by decide), plainB_T (wB_plain (wtA_ok ns k))⟩
 hct := caught_ok ns ex hx
 hev := ever_ok un ns
theorem long_len (script : List Int) : (longZ script).length <= 64 := by
 have h1 : (longZ script).length = (lt (Txt.join (Str.ofString "") ((script.take 8).map pieceZ))).length + (lt (Str.ofString "co:")).length := by
   rw [<- lt_len, <- List.length_append, <- lt_app]; rfl
 have h2 := pieces_sum (script.take 8) (by rw [List.length_take]; lia)
 have h3 : (lt (Txt.join (Str.ofString "") ((script.take 8).map pieceZ))).length = ((((script.take 8).map pieceZ).map (·.length)).sum) := by
   rw [lt_joinT, List.length_flatMap]
   rw [List.map_congr_left (fun (x : Str) _ => lt_len x)]
 have h4 : (lt (Str.ofString "co:")).length = 3 := by decide
 lia
theorem nmA_out {ns : List Int} {k : Nat} (h : ¬ k < ns.length) : nmA ns k = ⟨#[]⟩ := by
 unfold nmA
 rw [List.getD_eq_getElem?_getD, List.getElem?_eq_none (by rw [List.length_map]; lia)]; rfl
theorem plainOk (script : List Int) : PlainOk script where
 rows := by
   intro k hk
   unfold allNs at hk
   rcases List.mem_append.mp hk with hk | hk
   . simp only [List.mem_cons, List.not_mem_nil, or_false] at hk
     rcases hk with rfl | rfl | rfl
     . exact row_good _ (by decide) (by decide)
     . exact row_good _ (by decide) (by decide)
     . exact row_good _ (by decide) (by decide)
   . obtain ⟨x, _, rfl⟩ := List.mem_map.mp hk
     have := fmI x 1000000 (by decide)
     exact row_good _ this.1 this.2
 nm := fun k hk => nmA_cases hk
 d2 := by
   have hl : (allNs script).length = 3 + ((script.take 3).map (fun x => x.fmod 1000000)).length := by unfold allNs; rw [List.length_append]; rfl
   obtain ⟨a, ha, ga⟩ := due_exists (ns := allNs script) (j := 0) (by lia)
   obtain ⟨b, hb, gb⟩ := due_exists (ns := allNs script) (j := 2) (by lia)
   refine two_len ha hb fun e => ?_
   have e1 := (gP_iff.mp ga).1
   have e2 := (gP_iff.mp gb).1
   rw [e, e2] at e1
   exact absurd e1 (show nameZ 86677 ≠ nameZ 26024 by decide)
 items := items_law _
 ok := fun j _ => ⟨wB_ok (wtA_ok _ j), wB_stay (wtA_ok _ j)⟩
 okT := by
   intro p hp
   obtain ⟨⟨k, _, i, e⟩, h2⟩ := tabZ_in hp
   obtain ⟨n, _, e2⟩ := List.mem_map.mp h2
   rw [e, <- e2]
   exact ⟨(shown_ok (name_cases k) i).a, plainB_T (wB_plain (wantZ_ok n))⟩
 nl := by
   intro k
   by_cases h : k < (allNs script).length
   . exact (name_facts (nmA_cases h)).1
   . rw [nmA_out h]; exact Nat.zero_le _
 ul := by
   intro k
   by_cases h : k < (allNs script).length
   . exact (name_facts (nmA_cases h)).2.1
   . rw [nmA_out h]; decide +kernel
 tl := by
   intro p hp
   obtain ⟨⟨k, _, i, e⟩, _⟩ := tabZ_in hp
   rw [e]; exact (shown_ok (name_cases k) i).b
 el := by
   intro p hp
   obtain ⟨i, n, e⟩ := ev_in _ hp
   rw [e]; exact (shown_ok (name_cases n) i).b
 wp := fun k => plainB_T (wB_plain (wtA_ok _ k))
 a1 := ask_ok _ (x := Str.ofString "e") (by decide +kernel) (.inl rfl) (by decide) (long_len script)
 a2 := ask_ok _ (x := Str.ofString "es") (by decide +kernel) (.inr rfl) (by decide) (long_len script)
 a3 := ask_ok _ (x := Str.ofString "e") (by decide +kernel) (.inl rfl) (by decide) (by decide)
 a4 := ask_ok _ (x := Str.ofString "es") (by decide +kernel) (.inr rfl) (by decide) (by decide)
end Mine
end
section
open PySem PySem.W PyProof.Rows PySem.Calls
namespace Mine
noncomputable def qv : Program := { pw_sr0088_01 with main := { pw_sr0088_01.main with body := [stm pw_sr0088_01 0, stm pw_sr0088_01 22] } }
noncomputable def lse : List Str := ["_wall", "tspecials", "_name_disallowed_re", "_value_disallowed_re", "_formatparam", "Headers", "ELLIPSIS_MARKER", "_ellipsis_match", "_strip_exception_details", "b1_set", "in_table_b1", "b3_exceptions", "map_table_b3", "_law_row", "_law_read", "_law_takes", "_law_keep"]
theorem Kas_eq (P : Params) : Kas = (K P).map (·.1) := by kernel_rfl
noncomputable def hook : Hook := kHook K Kas Kas_eq
noncomputable def Xtt (s : Shared) : Bool := xlAt qv [] s && recOk [] s
noncomputable def S1 (P : Params) (os : OsState) : Shared := ⟨H1 pw P, #[], {}, 2650, os⟩
theorem lookA (P : Params) (os : OsState) : (staticsOk (importedModules pw.main.body) (H0 pw P) (H1 pw P) && namesBound pw (H1 pw P) && gensDone (S1 P os) && laidKept (H0 pw P) (H1 pw P)) = true := by kernel_rfl
theorem lookB (P : Params) (os : OsState) : openSeen qv lse (importedModules pw.main.body) Xtt true (S1 P os) = openGood qv lse := by kernel_rfl
theorem lookC (w : World) (os : OsState) : hook.obs (S1 w.params os) = hook.val w := by kernel_rfl
theorem left_all : LeftO pw qv lse Xtt hook.obs hook.val NN :=
 LeftO.of_pieces (H₀ := H0 pw) (H₁ := H1 pw) (gs₀ := #[]) (gs₁ := #[]) (d₀ := {}) (d₁ := {}) (k₀ := 276) (k₁ := 2650) (m₀ := 28) (ann := qann) (M := 12 + (1 + NR)) open_all sizeQ all_run (by decide)
   (fun w => funext fun os => by
     show (_, _, _) = (true, _, _)
     rw [Prod.mk.injEq, Prod.mk.injEq]
     exact ⟨lookA w.params os, lookB w.params os, lookC w os⟩)
end Mine
end
open PySem PySem.Spec PySem.Calls PySem.W PyProof.Rows PySem.Builtin PySem.Builtin.Str
namespace Mine
end Mine
open PySem PySem.W PyProof.Rows PySem.Calls
theorem PySem.Challenge.cw_sr0088_01_holds : PySem.Challenge.rw_sr0088_01.Holds := by
 w_on
 refine holds_law Mine.said_ok fun said => ?_
 refine holds_open (q := Mine.qv) (loose := Mine.lse) (Xt := Mine.Xtt) (XP := XL Mine.qv []) (Yf := Hook.obs Mine.hook) (Ya := Hook.val Mine.hook) (YP := Hook.says Mine.hook) (N := Mine.NN) Mine.left_all (Hook.of Mine.hook) (Hook.keeps Mine.hook) (fun s e => xl_of s (Bool.and_eq_true_iff.mp e).1) XL.keeps (by rfl) (by rfl) (by rfl) (fun s e => recFacts_of (Bool.and_eq_true_iff.mp e).2) (by rfl) (by first | assumption | decide +kernel) (by decide +kernel) ⟨rfl, rfl, rfl, rfl, rfl, by decide +kernel⟩ ?hw ?hc
 case hw => w_witness2
 w_strict (k_fill
           intro w s₀ s₁ mg mb G Y fa o pm cd doc dV kV ho hd hcd hD hmg hg args vals as hpre hlay hrd hwl hlo
           have KX : (Mine.K w.params).In s₁.heap := kIn_of (K := Mine.K) (as := Mine.Kas) (e := Mine.Kas_eq) Y
           refine Ground.open G ?_
           intro T B D TE TW
           try (refine guard_noD D (by decide +kernel) ?_; clear D)
           obtain ⟨_, _, M⟩ := bmod_of_top T
           have TA := at_of_top T
           try (obtain ⟨_, _, he, B0⟩ := based_of_top T rfl hmg ho hd; have he' : cd = _ := he; subst he'; clear he)
           clear hmg
           wrow_args hpre hlay hrd hwl hlo
           first | refine callC_kw (enter_call ?_) | refine enter_call ?_
           w_top on
           try refine codeAny_mono ?_ (fun _ _ g => GoodW.toG g)
           have K0 := below_caller (Top.heap T)
           w_call any ho hd hcd hD T F
           clear hd TA
           k_drop
           skip)
 rename IntsAre _ _ => hI
 rename Heap.IsList _ _ _ => hL
 rename Below callerA _ _ _ => K0
 rename Fr _ _ _ _ => F0
 rename News _ _ _ _ => N0
 rename CellsAre _ _ _ => X0
 rename Top _ _ _ _ _ _ => T0
 rename ¬ (_ < _) => hlen
 refine wpAny_mono (Mine.law_ok (g := s₁.heap) (E := fun _ _ => False) (dp := _) rfl rfl rfl (Mine.plainOk _) hL hI (by lia) PassesOwn.never ⟨K0, F0, KX, T0, rfl, by decide, by decide⟩ N0 X0) ?post (fun _ _ h => h.elim)
 rintro f s' ⟨rfl, h', tk', rfl, hkeep⟩
 refine ⟨.inl ⟨_, .bool true, [], rfl, raisesW_false ?_, .bool true, ?_, unshared_nil⟩, hkeep, rfl, ?_⟩
 . wrow_none_raised
 . wrow_post
 . assumption
