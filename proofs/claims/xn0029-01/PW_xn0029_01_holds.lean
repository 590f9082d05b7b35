import PyProof.Rows.All
import Wide.All
import OpenK.AllK
import Wide.FinOn
import KE.KSuper
import KE.KStar
import KE.KCallOwn
import PySem.Challenge.RW_xn0029_01
set_option Elab.async false
set_option linter.all false
set_option genSizeOf false
set_option genInjectivity false
set_option maxRecDepth 100000
namespace Hd
noncomputable section
open PySem PySem.W PySem.W.X PyProof.Rows PySem.Calls
/-! the heap behind the top: what a program printed; the defs' bodies are read off the given text -/
noncomputable abbrev pg : Program := PySem.Challenge.pw_xn0029_01
noncomputable def nth : List Stmt → Nat → Stmt
  | [], _ => .Pass ⟨0, 0, 0, 0⟩
  | a :: _, 0 => a
  | _ :: l, n + 1 => nth l n
noncomputable def cb : Stmt → List Stmt
  | .ClassDef _ _ _ b .. => b
  | _ => []
noncomputable def md (i : Nat) : Stmt := nth pg.main.body i
noncomputable def me (i j : Nat) : Stmt := nth (cb (md i)) j
noncomputable def fdp : Stmt → Str × Arguments × List Stmt × Scope
  | .FunctionDef n a b _ _ _ sc .. => (n, a, b, sc)
  | _ => default
noncomputable def fo (c : Value) (q : Str) (s : Stmt) (g : Addr) (cl : List (Str × Addr)) (d kd pm co ct : Value) : Obj :=
  ⟨c, none, .func ⟨(fdp s).1, q, (fdp s).2.1, .stmts (fdp s).2.2.1, (fdp s).2.2.2, g, cl, d, kd, .none, pm, none, co, ct, 0⟩, #[]⟩
noncomputable def e (P : Params) (n : Str) (t : Tok) (v : Value) : DictEntry := ⟨PyData.keyHash P n, .str n t, v⟩
noncomputable def kheap (P : Params) : Frag := [
  (0, { cls := .type "dict", data := .dict #[e P "__name__" 1 (.str "builtins" 160), e P "__doc__" 2 (.builtin "builtins.__doc__:str#opaque"), e P "__package__" 3 (.builtin "builtins.__package__:str#opaque"), e P "__loader__" 4 (.builtin "builtins.__loader__:shared#opaque"), e P "__spec__" 5 (.builtin "builtins.__spec__#opaque"), e P "__build_class__" 6 (.builtin "__build_class__"), e P "__import__" 7 (.builtin "__import__"), e P "abs" 8 (.builtin "abs"), e P "all" 9 (.builtin "all"), e P "any" 10 (.builtin "any"), e P "ascii" 11 (.builtin "ascii"), e P "bin" 12 (.builtin "bin"), e P "breakpoint" 13 (.builtin "breakpoint"), e P "callable" 14 (.builtin "callable"), e P "chr" 15 (.builtin "chr"), e P "compile" 16 (.builtin "compile"), e P "delattr" 17 (.builtin "delattr"), e P "dir" 18 (.builtin "dir"), e P "divmod" 19 (.builtin "divmod"), e P "eval" 20 (.builtin "eval"), e P "exec" 21 (.builtin "exec"), e P "format" 22 (.builtin "format"), e P "getattr" 23 (.builtin "getattr"), e P "globals" 24 (.builtin "globals"), e P "hasattr" 25 (.builtin "hasattr"), e P "hash" 26 (.builtin "hash"), e P "hex" 27 (.builtin "hex"), e P "id" 28 (.builtin "id"), e P "input" 29 (.builtin "input"), e P "isinstance" 30 (.builtin "isinstance"), e P "issubclass" 31 (.builtin "issubclass"), e P "iter" 32 (.builtin "iter"), e P "aiter" 33 (.builtin "aiter"), e P "len" 34 (.builtin "len"), e P "locals" 35 (.builtin "locals"), e P "max" 36 (.builtin "max"), e P "min" 37 (.builtin "min"), e P "next" 38 (.builtin "next"), e P "anext" 39 (.builtin "anext"), e P "oct" 40 (.builtin "oct"), e P "ord" 41 (.builtin "ord"), e P "pow" 42 (.builtin "pow"), e P "print" 43 (.builtin "print"), e P "repr" 44 (.builtin "repr"), e P "round" 45 (.builtin "round"), e P "setattr" 46 (.builtin "setattr"), e P "sorted" 47 (.builtin "sorted"), e P "sum" 48 (.builtin "sum"), e P "vars" 49 (.builtin "vars"), e P "None" 50 (.none), e P "Ellipsis" 51 (.ellipsis), e P "NotImplemented" 52 (.notImplemented), e P "False" 53 (.bool false), e P "True" 54 (.bool true), e P "bool" 55 (.type "bool"), e P "memoryview" 56 (.type "memoryview"), e P "bytearray" 57 (.type "bytearray"), e P "bytes" 58 (.type "bytes"), e P "classmethod" 59 (.type "classmethod"), e P "complex" 60 (.type "complex"), e P "dict" 61 (.type "dict"), e P "enumerate" 62 (.type "enumerate"), e P "filter" 63 (.type "filter"), e P "float" 64 (.type "float"), e P "frozenset" 65 (.type "frozenset"), e P "property" 66 (.type "property"), e P "int" 67 (.type "int"), e P "list" 68 (.type "list"), e P "map" 69 (.type "map"), e P "object" 70 (.type "object"), e P "range" 71 (.type "range"), e P "reversed" 72 (.type "reversed"), e P "set" 73 (.type "set"), e P "slice" 74 (.type "slice"), e P "staticmethod" 75 (.type "staticmethod"), e P "str" 76 (.type "str"), e P "super" 77 (.type "super"), e P "tuple" 78 (.type "tuple"), e P "type" 79 (.type "type"), e P "zip" 80 (.type "zip"), e P "__debug__" 81 (.bool true), e P "BaseException" 82 (.type "BaseException"), e P "BaseExceptionGroup" 83 (.type "BaseExceptionGroup"), e P "Exception" 84 (.type "Exception"), e P "GeneratorExit" 85 (.type "GeneratorExit"), e P "KeyboardInterrupt" 86 (.type "KeyboardInterrupt"), e P "SystemExit" 87 (.type "SystemExit"), e P "ArithmeticError" 88 (.type "ArithmeticError"), e P "AssertionError" 89 (.type "AssertionError"), e P "AttributeError" 90 (.type "AttributeError"), e P "BufferError" 91 (.type "BufferError"), e P "EOFError" 92 (.type "EOFError"), e P "ImportError" 93 (.type "ImportError"), e P "LookupError" 94 (.type "LookupError"), e P "MemoryError" 95 (.type "MemoryError"), e P "NameError" 96 (.type "NameError"), e P "OSError" 97 (.type "OSError"), e P "ReferenceError" 98 (.type "ReferenceError"), e P "RuntimeError" 99 (.type "RuntimeError"), e P "StopAsyncIteration" 100 (.type "StopAsyncIteration"), e P "StopIteration" 101 (.type "StopIteration"), e P "SyntaxError" 102 (.type "SyntaxError"), e P "SystemError" 103 (.type "SystemError"), e P "TypeError" 104 (.type "TypeError"), e P "ValueError" 105 (.type "ValueError"), e P "Warning" 106 (.type "Warning"), e P "FloatingPointError" 107 (.type "FloatingPointError"), e P "OverflowError" 108 (.type "OverflowError"), e P "ZeroDivisionError" 109 (.type "ZeroDivisionError"), e P "BytesWarning" 110 (.type "BytesWarning"), e P "DeprecationWarning" 111 (.type "DeprecationWarning"), e P "EncodingWarning" 112 (.type "EncodingWarning"), e P "FutureWarning" 113 (.type "FutureWarning"), e P "ImportWarning" 114 (.type "ImportWarning"), e P "PendingDeprecationWarning" 115 (.type "PendingDeprecationWarning"), e P "ResourceWarning" 116 (.type "ResourceWarning"), e P "RuntimeWarning" 117 (.type "RuntimeWarning"), e P "SyntaxWarning" 118 (.type "SyntaxWarning"), e P "UnicodeWarning" 119 (.type "UnicodeWarning"), e P "UserWarning" 120 (.type "UserWarning"), e P "BlockingIOError" 121 (.type "BlockingIOError"), e P "ChildProcessError" 122 (.type "ChildProcessError"), e P "ConnectionError" 123 (.type "ConnectionError"), e P "FileExistsError" 124 (.type "FileExistsError"), e P "FileNotFoundError" 125 (.type "FileNotFoundError"), e P "InterruptedError" 126 (.type "InterruptedError"), e P "IsADirectoryError" 127 (.type "IsADirectoryError"), e P "NotADirectoryError" 128 (.type "NotADirectoryError"), e P "PermissionError" 129 (.type "PermissionError"), e P "ProcessLookupError" 130 (.type "ProcessLookupError"), e P "TimeoutError" 131 (.type "TimeoutError"), e P "IndentationError" 132 (.type "IndentationError"), e P "_IncompleteInputError" 133 (.type "_IncompleteInputError"), e P "IndexError" 134 (.type "IndexError"), e P "KeyError" 135 (.type "KeyError"), e P "ModuleNotFoundError" 136 (.type "ModuleNotFoundError"), e P "NotImplementedError" 137 (.type "NotImplementedError"), e P "PythonFinalizationError" 138 (.type "PythonFinalizationError"), e P "RecursionError" 139 (.type "RecursionError"), e P "UnboundLocalError" 140 (.type "UnboundLocalError"), e P "UnicodeError" 141 (.type "UnicodeError"), e P "BrokenPipeError" 142 (.type "BrokenPipeError"), e P "ConnectionAbortedError" 143 (.type "ConnectionAbortedError"), e P "ConnectionRefusedError" 144 (.type "ConnectionRefusedError"), e P "ConnectionResetError" 145 (.type "ConnectionResetError"), e P "TabError" 146 (.type "TabError"), e P "UnicodeDecodeError" 147 (.type "UnicodeDecodeError"), e P "UnicodeEncodeError" 148 (.type "UnicodeEncodeError"), e P "UnicodeTranslateError" 149 (.type "UnicodeTranslateError"), e P "ExceptionGroup" 150 (.type "ExceptionGroup"), e P "EnvironmentError" 151 (.type "OSError"), e P "IOError" 152 (.type "OSError"), e P "open" 153 (.builtin "open"), e P "quit" 154 (.builtin "builtins.quit#opaque"), e P "exit" 155 (.builtin "builtins.exit#opaque"), e P "copyright" 156 (.builtin "builtins.copyright#opaque"), e P "credits" 157 (.builtin "builtins.credits#opaque"), e P "license" 158 (.builtin "builtins.license#opaque"), e P "help" 159 (.builtin "builtins.help#opaque")] 159 }),
  (1, { cls := .type "dict", data := .dict #[e P "builtins" 162 (.ref 4), e P "__main__" 163 (.ref 5), e P "_sre" 244 (.ref 12)] 3 }),
  (2, { cls := .none, data := .dict #[e P "\x69mport.loaded._sre" 183 (.bool true), e P "class._frozen_importlib.BuiltinImporter" 185 (.ref 14), e P "watched.\x69mport" 206 (.ref 18), e P "class._frozen_importlib.ModuleSpec" 216 (.ref 22), e P "sys.modules.booked-epoch" 245 (.int 3 0), e P "\x69mport.later-laid._sre" 270 (.bool true), e P "watched.library" 272 (.ref 27), e P "watched.library-objects" 0 (.str "\x0c" 0), e P "watched.library-deep._sre" 273 (.str "\x04\x00\x00\x0b\x04\x00\x00\x0b\x04\x00\x00\x03\x04\x00\x00\x0b\x08\x04dict\x02" 0)] 9 }),
  (3, { cls := .type "dict", data := .dict #[e P "__name__" 165 (.str "law_xn0029_01" 817), e P "__doc__" 166 (.none), e P "__package__" 167 (.none), e P "__loader__" 168 (.builtin "__main__.__loader__#opaque"), e P "__spec__" 169 (.none), e P "__annotations__" 170 (.ref 6), e P "__builtins__" 171 (.ref 4), e P "__file__" 173 (.str "/claim/cut.py" 172), e P "__cached__" 174 (.none), e P "_sre" 275 (.ref 12), e P "_wall" 288 (.ref 38), e P "NL" 292 (.str "\n" 291), e P "EMPTYSTRING" 294 (.str "" 293), e P "_ValueFormatter" 402 (.ref 111), e P "_Accumulator" 498 (.ref 195), e P "_quoted" 544 (.ref 204), e P "_paren_depth" 553 (.ref 212), e P "tspecials" 589 (.ref 217), e P "_name_disallowed_re" 615 (.ref 222), e P "_value_disallowed_re" 649 (.ref 227), e P "_formatparam" 659 (.ref 235), e P "Headers" 816 (.ref 356), e P "_law_told" 824 (.ref 365), e P "_law_heights" 833 (.ref 372), e P "_law_text" 840 (.ref 379), e P "_law_labels" 846 (.ref 384), e P "_law_pieces" 857 (.ref 391), e P "_law_table" 868 (.ref 398), e P "_law_line" 879 (.ref 405), e P "_law_served" 891 (.ref 412), e P "_law_depths" 901 (.ref 419), e P "_law_back" 917 (.ref 426), e P "law" 923 (.ref 431)] 33 }),
  (4, { cls := .type "module", dict := some 0 }),
  (5, { cls := .type "module", dict := some 3 }),
  (6, { cls := .type "dict", data := .dict #[] }),
  (9, { cls := .type "code", data := .fields #[.str "<module>" 176, .str "<module>" 177, .str "/claim/cut.py" 178, .int 1 0, .int 0 0, .int 0 0, .int 0 0, .int 0 0, .ref 7, .bool false, .int 175 0, .ref 8, .none, .none, .none, .none, .int 179 0, .int 1 0, .str "/claim/cut.py" 180] }),
  (10, { cls := .type "frame", slots := #[some (.ref 9), some (.ref 3), some (.ref 3), none, some (.str "__main__" 164), none, some (.ref 0)] }),
  (11, { cls := .type "dict", data := .dict #[e P "__name__" 247 (.str "_sre" 246), e P "__doc__" 248 (.none), e P "__package__" 250 (.str "" 249), e P "__loader__" 251 (.builtin "off-the-table:_sre.__loader__:shared#opaque"), e P "__spec__" 252 (.builtin "off-the-table:_sre.__spec__:shared#opaque"), e P "compile" 253 (.builtin "_sre.compile"), e P "template" 254 (.builtin "off-the-table:_sre.template:shared#opaque"), e P "getcodesize" 255 (.builtin "off-the-table:_sre.getcodesize:shared#opaque"), e P "ascii_iscased" 256 (.builtin "off-the-table:_sre.ascii_iscased:shared#opaque"), e P "unicode_iscased" 257 (.builtin "off-the-table:_sre.unicode_iscased:shared#opaque"), e P "ascii_tolower" 258 (.builtin "off-the-table:_sre.ascii_tolower:shared#opaque"), e P "unicode_tolower" 259 (.builtin "off-the-table:_sre.unicode_tolower:shared#opaque"), e P "MAGIC" 261 (.int 20230612 260), e P "CODESIZE" 263 (.int 4 262), e P "MAXREPEAT" 265 (.int 4294967295 264), e P "MAXGROUPS" 267 (.int 1073741823 266), e P "copyright" 269 (.str " SRE 2.2.2 Copyright (c) 1997-2002 by Secret Labs AB " 268)] 17 }),
  (12, { cls := .type "module", dict := some 11 }),
  (13, { cls := .type "dict", data := .dict #[e P "__module__" 189 (.str "_frozen_importlib" 186), e P "__firstlineno__" 190 (.int 971 187), e P "__doc__" 191 (.builtin "_frozen_importlib.BuiltinImporter.__doc__:str#opaque"), e P "_ORIGIN" 192 (.str "built-in" 188), e P "find_spec" 193 (.builtin "_frozen_importlib.BuiltinImporter.find_spec#opaque"), e P "create_module" 194 (.builtin "_frozen_importlib.BuiltinImporter.create_module#opaque"), e P "exec_module" 195 (.builtin "_frozen_importlib.BuiltinImporter.exec_module#opaque"), e P "get_code" 196 (.builtin "_frozen_importlib.BuiltinImporter.get_code#opaque"), e P "get_source" 197 (.builtin "_frozen_importlib.BuiltinImporter.get_source#opaque"), e P "is_package" 198 (.builtin "_frozen_importlib.BuiltinImporter.is_package#opaque"), e P "load_module" 199 (.builtin "_frozen_importlib.BuiltinImporter.load_module#opaque"), e P "__static_attributes__" 200 (.ref 15), e P "__dict__" 202 (.ref 16), e P "__weakref__" 204 (.ref 17)] 14 }),
  (14, { cls := .type "type", data := .cls { name := "BuiltinImporter", bases := [.type "object"], mro := [.ref 14, .type "object"], ns := 13, qualname := "BuiltinImporter" } }),
  (51, { cls := .type "code", data := .fields #[.str "__init__" 307, .str "_ValueFormatter.__init__" 308, .str "/claim/cut.py" 309, .int 10 0, .int 5 0, .int 0 0, .int 0 0, .int 3 0, .ref 46, .bool true, .int 276 0, .ref 47, .none, .ref 48, .ref 49, .ref 50, .int 315 0, .int 10 0, .str "/claim/cut.py" 316] }),
  (52, fo (.type "function") "_ValueFormatter.__init__" (me 5 0) 3 [] (.none) (.none) (.str "cpy313.email.header" 289) (.ref 51) (.none)),
  (58, { cls := .type "code", data := .fields #[.str "_str" 318, .str "_ValueFormatter._str" 319, .str "/claim/cut.py" 320, .int 18 0, .int 2 0, .int 0 0, .int 0 0, .int 3 0, .ref 53, .bool true, .int 276 0, .ref 54, .none, .ref 55, .ref 56, .ref 57, .int 323 0, .int 18 0, .str "/claim/cut.py" 324] }),
  (59, fo (.type "function") "_ValueFormatter._str" (me 5 1) 3 [] (.none) (.none) (.str "cpy313.email.header" 289) (.ref 58) (.none)),
  (72, { cls := .type "code", data := .fields #[.str "newline" 333, .str "_ValueFormatter.newline" 334, .str "/claim/cut.py" 335, .int 25 0, .int 1 0, .int 0 0, .int 0 0, .int 3 0, .ref 67, .bool true, .int 276 0, .ref 68, .none, .ref 69, .ref 70, .ref 71, .int 338 0, .int 25 0, .str "/claim/cut.py" 339] }),
  (73, fo (.type "function") "_ValueFormatter.newline" (me 5 3) 3 [] (.none) (.none) (.str "cpy313.email.header" 289) (.ref 72) (.none)),
  (79, { cls := .type "code", data := .fields #[.str "add_transition" 341, .str "_ValueFormatter.add_transition" 342, .str "/claim/cut.py" 343, .int 36 0, .int 1 0, .int 0 0, .int 0 0, .int 3 0, .ref 74, .bool true, .int 276 0, .ref 75, .none, .ref 76, .ref 77, .ref 78, .int 345 0, .int 36 0, .str "/claim/cut.py" 346] }),
  (80, fo (.type "function") "_ValueFormatter.add_transition" (me 5 4) 3 [] (.none) (.none) (.str "cpy313.email.header" 289) (.ref 79) (.none)),
  (107, { cls := .type "code", data := .fields #[.str "_append_chunk" 375, .str "_ValueFormatter._append_chunk" 376, .str "/claim/cut.py" 377, .int 48 0, .int 3 0, .int 0 0, .int 0 0, .int 3 0, .ref 102, .bool true, .int 276 0, .ref 103, .none, .ref 104, .ref 105, .ref 106, .int 386 0, .int 48 0, .str "/claim/cut.py" 387] }),
  (108, fo (.type "function") "_ValueFormatter._append_chunk" (me 5 8) 3 [] (.none) (.none) (.str "cpy313.email.header" 289) (.ref 107) (.none)),
  (110, { cls := .type "dict", data := .dict #[e P "__module__" 302 (.str "cpy313.email.header" 289), e P "__firstlineno__" 306 (.int 8 305), e P "__init__" 317 (.ref 52), e P "_str" 325 (.ref 59), e P "__str__" 332 (.ref 66), e P "newline" 340 (.ref 73), e P "add_transition" 347 (.ref 80), e P "feed" 357 (.ref 87), e P "_maxlengths" 364 (.ref 94), e P "_ascii_split" 374 (.ref 101), e P "_append_chunk" 388 (.ref 108), e P "__static_attributes__" 395 (.ref 109), e P "__dict__" 397 (.ref 112), e P "__weakref__" 399 (.ref 113), e P "__doc__" 400 (.none)] 4 }),
  (111, { cls := .type "type", data := .cls { name := "_ValueFormatter", bases := [.type "object"], mro := [.ref 111, .type "object"], ns := 110, qualname := "_ValueFormatter" }, slots := #[none, none, some (.str "_ValueFormatter" 295), some (.str "_ValueFormatter" 303), some (.builtin "object.__new__"), some (.bool true)] }),
  (112, { cls := .type "getset_descriptor", data := .fields #[.str "__dict__" 396, .ref 111, .builtin "function.__dict__", .builtin "function.__dict__#set"] }),
  (113, { cls := .type "getset_descriptor", data := .fields #[.str "__weakref__" 398, .ref 111, .builtin "ExceptionGroup.__weakref__", .none] }),
  (116, { cls := .type "tuple", data := .seq #[.type "list"] }),
  (119, { cls := .type "cell", data := .cell (some (.ref 195)) }),
  (124, { cls := .type "tuple", data := .seq #[.int 0 415] }),
  (125, { cls := .type "tuple", data := .seq #[.ref 119] }),
  (131, { cls := .type "code", data := .fields #[.str "__init__" 416, .str "_Accumulator.__init__" 417, .str "/claim/cut.py" 418, .int 76 0, .int 2 0, .int 0 0, .int 0 0, .int 3 0, .ref 126, .bool true, .int 276 0, .ref 127, .none, .ref 128, .ref 129, .ref 130, .int 422 0, .int 76 0, .str "/claim/cut.py" 423] }),
  (132, fo (.type "function") "_Accumulator.__init__" (me 6 0) 3 [("__class__", 119)] (.ref 124) (.none) (.str "cpy313.email.header" 289) (.ref 131) (.ref 125)),
  (138, { cls := .type "code", data := .fields #[.str "push" 425, .str "_Accumulator.push" 426, .str "/claim/cut.py" 427, .int 80 0, .int 3 0, .int 0 0, .int 0 0, .int 3 0, .ref 133, .bool true, .int 276 0, .ref 134, .none, .ref 135, .ref 136, .ref 137, .int 431 0, .int 80 0, .str "/claim/cut.py" 432] }),
  (139, fo (.type "function") "_Accumulator.push" (me 6 1) 3 [] (.none) (.none) (.str "cpy313.email.header" 289) (.ref 138) (.none)),
  (140, { cls := .type "tuple", data := .seq #[.int 0 434] }),
  (146, { cls := .type "code", data := .fields #[.str "pop_from" 435, .str "_Accumulator.pop_from" 436, .str "/claim/cut.py" 437, .int 83 0, .int 2 0, .int 0 0, .int 0 0, .int 3 0, .ref 141, .bool true, .int 276 0, .ref 142, .none, .ref 143, .ref 144, .ref 145, .int 441 0, .int 83 0, .str "/claim/cut.py" 442] }),
  (147, fo (.type "function") "_Accumulator.pop_from" (me 6 2) 3 [] (.ref 140) (.none) (.str "cpy313.email.header" 289) (.ref 146) (.none)),
  (148, { cls := .type "tuple", data := .seq #[.ref 119] }),
  (154, { cls := .type "code", data := .fields #[.str "pop" 444, .str "_Accumulator.pop" 445, .str "/claim/cut.py" 446, .int 88 0, .int 1 0, .int 0 0, .int 0 0, .int 3 0, .ref 149, .bool true, .int 276 0, .ref 150, .none, .ref 151, .ref 152, .ref 153, .int 449 0, .int 88 0, .str "/claim/cut.py" 450] }),
  (155, fo (.type "function") "_Accumulator.pop" (me 6 3) 3 [("__class__", 119)] (.none) (.none) (.str "cpy313.email.header" 289) (.ref 154) (.ref 148)),
  (157, { cls := .none, data := .fields #[] }),
  (161, { cls := .type "code", data := .fields #[.str "__len__" 452, .str "_Accumulator.__len__" 453, .str "/claim/cut.py" 454, .int 93 0, .int 1 0, .int 0 0, .int 0 0, .int 3 0, .ref 156, .bool true, .int 276 0, .ref 157, .none, .ref 158, .ref 159, .ref 160, .int 456 0, .int 93 0, .str "/claim/cut.py" 457] }),
  (162, fo (.type "function") "_Accumulator.__len__" (me 6 4) 3 [] (.none) (.none) (.str "cpy313.email.header" 289) (.ref 161) (.none)),
  (164, { cls := .none, data := .fields #[] }),
  (168, { cls := .type "code", data := .fields #[.str "__str__" 459, .str "_Accumulator.__str__" 460, .str "/claim/cut.py" 461, .int 96 0, .int 1 0, .int 0 0, .int 0 0, .int 3 0, .ref 163, .bool true, .int 276 0, .ref 164, .none, .ref 165, .ref 166, .ref 167, .int 463 0, .int 96 0, .str "/claim/cut.py" 464] }),
  (169, fo (.type "function") "_Accumulator.__str__" (me 6 5) 3 [] (.none) (.none) (.str "cpy313.email.header" 289) (.ref 168) (.none)),
  (170, { cls := .type "tuple", data := .seq #[.none] }),
  (176, { cls := .type "code", data := .fields #[.str "reset" 466, .str "_Accumulator.reset" 467, .str "/claim/cut.py" 468, .int 99 0, .int 2 0, .int 0 0, .int 0 0, .int 3 0, .ref 171, .bool true, .int 276 0, .ref 172, .none, .ref 173, .ref 174, .ref 175, .int 471 0, .int 99 0, .str "/claim/cut.py" 472] }),
  (177, fo (.type "function") "_Accumulator.reset" (me 6 6) 3 [] (.ref 170) (.none) (.str "cpy313.email.header" 289) (.ref 176) (.none)),
  (183, { cls := .type "code", data := .fields #[.str "is_onlyws" 474, .str "_Accumulator.is_onlyws" 475, .str "/claim/cut.py" 476, .int 105 0, .int 1 0, .int 0 0, .int 0 0, .int 3 0, .ref 178, .bool true, .int 276 0, .ref 179, .none, .ref 180, .ref 181, .ref 182, .int 478 0, .int 105 0, .str "/claim/cut.py" 479] }),
  (184, fo (.type "function") "_Accumulator.is_onlyws" (me 6 7) 3 [] (.none) (.none) (.str "cpy313.email.header" 289) (.ref 183) (.none)),
  (185, { cls := .type "tuple", data := .seq #[.ref 119] }),
  (191, { cls := .type "code", data := .fields #[.str "part_count" 481, .str "_Accumulator.part_count" 482, .str "/claim/cut.py" 483, .int 108 0, .int 1 0, .int 0 0, .int 0 0, .int 3 0, .ref 186, .bool true, .int 276 0, .ref 187, .none, .ref 188, .ref 189, .ref 190, .int 486 0, .int 108 0, .str "/claim/cut.py" 487] }),
  (192, fo (.type "function") "_Accumulator.part_count" (me 6 8) 3 [("__class__", 119)] (.none) (.none) (.str "cpy313.email.header" 289) (.ref 191) (.ref 185)),
  (194, { cls := .type "dict", data := .dict #[e P "__module__" 410 (.str "cpy313.email.header" 289), e P "__firstlineno__" 414 (.int 74 413), e P "__init__" 424 (.ref 132), e P "push" 433 (.ref 139), e P "pop_from" 443 (.ref 147), e P "pop" 451 (.ref 155), e P "__len__" 458 (.ref 162), e P "__str__" 465 (.ref 169), e P "reset" 473 (.ref 177), e P "is_onlyws" 480 (.ref 184), e P "part_count" 488 (.ref 192), e P "__static_attributes__" 490 (.ref 193), e P "__dict__" 493 (.ref 196), e P "__weakref__" 495 (.ref 197), e P "__doc__" 496 (.none)] 5 }),
  (195, { cls := .type "type", data := .cls { name := "_Accumulator", bases := [.type "list"], mro := [.ref 195, .type "list", .type "object"], ns := 194, qualname := "_Accumulator" }, slots := #[some (.ref 116), none, some (.str "_Accumulator" 403), some (.str "_Accumulator" 411), some (.builtin "list.__new__"), some (.bool true)] }),
  (196, { cls := .type "getset_descriptor", data := .fields #[.str "__dict__" 492, .ref 195, .builtin "function.__dict__", .builtin "function.__dict__#set"] }),
  (197, { cls := .type "getset_descriptor", data := .fields #[.str "__weakref__" 494, .ref 195, .builtin "ExceptionGroup.__weakref__", .none] }),
  (203, { cls := .type "tuple", data := .seq #[.int 14 0, .int 8 0, .int 1 0, .int 2 0, .int 4294967295 0, .int 1 0, .int 1 0, .int 34 0, .int 0 0, .int 16 0, .int 34 0, .int 28 0, .int 22 0, .int 0 0, .int 4294967295 0, .int 7 0, .int 11 0, .int 13 0, .int 7 0, .int 21 0, .int 16 0, .int 34 0, .int 16 0, .int 92 0, .int 0 0, .int 15 0, .int 8 0, .int 6 0, .int 16 0, .int 92 0, .int 2 0, .int 15 0, .int 2 0, .int 0 0, .int 1 0, .int 16 0, .int 34 0, .int 1 0] }),
  (204, { cls := .type "re.Pattern", data := .fields #[.bytes #[34, 40, 63, 58, 91, 94, 34, 92, 92, 93, 124, 92, 92, 46, 41, 42, 43, 34] 502, .int 0 543, .int 0 0, .none, .none, .ref 203, .int 1 0] }),
  (205, { cls := .type "tuple", data := .seq #[.int 0 545] }),
  (211, { cls := .type "code", data := .fields #[.str "_paren_depth" 546, .str "_paren_depth" 547, .str "/claim/cut.py" 548, .int 112 0, .int 2 0, .int 0 0, .int 0 0, .int 3 0, .ref 206, .bool true, .int 276 0, .ref 207, .none, .ref 208, .ref 209, .ref 210, .int 551 0, .int 112 0, .str "/claim/cut.py" 552] }),
  (212, fo (.type "function") "_paren_depth" (md 9) 3 [] (.ref 205) (.none) (.str "cpy313.imaplib" 499) (.ref 211) (.none)),
  (216, { cls := .type "tuple", data := .seq #[.int 14 0, .int 14 0, .int 4 0, .int 1 0, .int 1 0, .int 9 0, .int 0 0, .int 4227896069 0, .int 939524097 0, .int 0 0, .int 0 0, .int 0 0, .int 0 0, .int 0 0, .int 0 0, .int 13 0, .int 11 0, .int 9 0, .int 0 0, .int 4227896069 0, .int 939524097 0, .int 0 0, .int 0 0, .int 0 0, .int 0 0, .int 0 0, .int 0 0, .int 1 0] }),
  (217, { cls := .type "re.Pattern", data := .fields #[.str "[ \\(\\)<>@,;:\\\\\"/\\[\\]\\?=]" 557, .int 32 588, .int 0 0, .none, .none, .ref 216, .int 0 0] }),
  (221, { cls := .type "tuple", data := .seq #[.int 14 0, .int 10 0, .int 4 0, .int 1 0, .int 1 0, .int 22 0, .int 0 0, .int 31 0, .int 16 0, .int 127 0, .int 0 0, .int 13 0, .int 7 0, .int 22 0, .int 0 0, .int 31 0, .int 16 0, .int 127 0, .int 0 0, .int 1 0] }),
  (222, { cls := .type "re.Pattern", data := .fields #[.str "[\\x00-\\x1F\\x7F]" 591, .int 32 614, .int 0 0, .none, .none, .ref 221, .int 0 0] }),
  (226, { cls := .type "tuple", data := .seq #[.int 14 0, .int 14 0, .int 4 0, .int 1 0, .int 1 0, .int 9 0, .int 4294966783 0, .int 0 0, .int 0 0, .int 2147483648 0, .int 0 0, .int 0 0, .int 0 0, .int 0 0, .int 0 0, .int 13 0, .int 11 0, .int 9 0, .int 4294966783 0, .int 0 0, .int 0 0, .int 2147483648 0, .int 0 0, .int 0 0, .int 0 0, .int 0 0, .int 0 0, .int 1 0] }),
  (227, { cls := .type "re.Pattern", data := .fields #[.str "[\\x00-\\x08\\x0A-\\x1F\\x7F]" 617, .int 32 648, .int 0 0, .none, .none, .ref 226, .int 0 0] }),
  (228, { cls := .type "tuple", data := .seq #[.none, .int 1 650] }),
  (234, { cls := .type "code", data := .fields #[.str "_formatparam" 651, .str "_formatparam" 652, .str "/claim/cut.py" 653, .int 119 0, .int 3 0, .int 0 0, .int 0 0, .int 3 0, .ref 229, .bool true, .int 276 0, .ref 230, .none, .ref 231, .ref 232, .ref 233, .int 657 0, .int 119 0, .str "/claim/cut.py" 658] }),
  (235, fo (.type "function") "_formatparam" (md 14) 3 [] (.ref 228) (.none) (.str "cpy313.wsgiref.headers" 554) (.ref 234) (.none)),
  (243, { cls := .type "tuple", data := .seq #[.none] }),
  (249, { cls := .type "code", data := .fields #[.str "__init__" 672, .str "Headers.__init__" 673, .str "/claim/cut.py" 674, .int 130 0, .int 2 0, .int 0 0, .int 0 0, .int 3 0, .ref 244, .bool true, .int 276 0, .ref 245, .none, .ref 246, .ref 247, .ref 248, .int 679 0, .int 130 0, .str "/claim/cut.py" 680] }),
  (250, fo (.type "function") "Headers.__init__" (me 15 0) 3 [] (.ref 243) (.none) (.str "cpy313.wsgiref.headers" 554) (.ref 249) (.none)),
  (256, { cls := .type "code", data := .fields #[.str "_convert_string_type" 682, .str "Headers._convert_string_type" 683, .str "/claim/cut.py" 684, .int 140 0, .int 2 0, .int 0 0, .int 1 0, .int 3 0, .ref 251, .bool true, .int 276 0, .ref 252, .none, .ref 253, .ref 254, .ref 255, .int 689 0, .int 140 0, .str "/claim/cut.py" 690] }),
  (257, fo (.type "function") "Headers._convert_string_type" (me 15 1) 3 [] (.none) (.none) (.str "cpy313.wsgiref.headers" 554) (.ref 256) (.none)),
  (289, { cls := .type "code", data := .fields #[.str "__contains__" 722, .str "Headers.__contains__" 723, .str "/claim/cut.py" 724, .int 162 0, .int 2 0, .int 0 0, .int 0 0, .int 3 0, .ref 284, .bool true, .int 276 0, .ref 285, .none, .ref 286, .ref 287, .ref 288, .int 727 0, .int 162 0, .str "/claim/cut.py" 728] }),
  (290, fo (.type "function") "Headers.__contains__" (me 15 6) 3 [] (.none) (.none) (.str "cpy313.wsgiref.headers" 554) (.ref 289) (.none)),
  (294, { cls := .type "code", data := .fields #[.str "get_all" 730, .str "Headers.get_all" 731, .str "/claim/cut.py" 732, .int 165 0, .int 2 0, .int 0 0, .int 0 0, .int 3 0, .ref 291, .bool true, .int 276 0, .ref 292, .none, .none, .none, .ref 293, .int 733 0, .int 165 0, .str "/claim/cut.py" 734] }),
  (295, fo (.type "function") "Headers.get_all" (me 15 7) 3 [] (.none) (.none) (.str "cpy313.wsgiref.headers" 554) (.ref 294) (.none)),
  (296, { cls := .type "tuple", data := .seq #[.none] }),
  (302, { cls := .type "code", data := .fields #[.str "get" 736, .str "Headers.get" 737, .str "/claim/cut.py" 738, .int 169 0, .int 3 0, .int 0 0, .int 0 0, .int 3 0, .ref 297, .bool true, .int 276 0, .ref 298, .none, .ref 299, .ref 300, .ref 301, .int 744 0, .int 169 0, .str "/claim/cut.py" 745] }),
  (303, fo (.type "function") "Headers.get" (me 15 8) 3 [] (.ref 296) (.none) (.str "cpy313.wsgiref.headers" 554) (.ref 302) (.none)),
  (319, { cls := .type "code", data := .fields #[.str "items" 759, .str "Headers.items" 760, .str "/claim/cut.py" 761, .int 182 0, .int 1 0, .int 0 0, .int 0 0, .int 3 0, .ref 314, .bool true, .int 276 0, .ref 315, .none, .ref 316, .ref 317, .ref 318, .int 763 0, .int 182 0, .str "/claim/cut.py" 764] }),
  (320, fo (.type "function") "Headers.items" (me 15 11) 3 [] (.none) (.none) (.str "cpy313.wsgiref.headers" 554) (.ref 319) (.none)),
  (352, { cls := .type "code", data := .fields #[.str "add_header" 795, .str "Headers.add_header" 796, .str "/claim/cut.py" 797, .int 197 0, .int 3 0, .int 0 0, .int 0 0, .int 11 0, .ref 347, .bool true, .int 276 0, .ref 348, .none, .ref 349, .ref 350, .ref 351, .int 805 0, .int 197 0, .str "/claim/cut.py" 806] }),
  (353, fo (.type "function") "Headers.add_header" (me 15 16) 3 [] (.none) (.none) (.str "cpy313.wsgiref.headers" 554) (.ref 352) (.none)),
  (355, { cls := .type "dict", data := .dict #[e P "__module__" 667 (.str "cpy313.wsgiref.headers" 554), e P "__firstlineno__" 671 (.int 128 670), e P "__init__" 681 (.ref 250), e P "_convert_string_type" 691 (.ref 257), e P "__len__" 698 (.ref 264), e P "__setitem__" 707 (.ref 271), e P "__delitem__" 713 (.ref 276), e P "__getitem__" 721 (.ref 283), e P "__contains__" 729 (.ref 290), e P "get_all" 735 (.ref 295), e P "get" 746 (.ref 303), e P "keys" 752 (.ref 308), e P "values" 758 (.ref 313), e P "items" 765 (.ref 320), e P "__repr__" 772 (.ref 327), e P "__str__" 778 (.ref 332), e P "__bytes__" 785 (.ref 339), e P "setdefault" 794 (.ref 346), e P "add_header" 807 (.ref 353), e P "__static_attributes__" 809 (.ref 354), e P "__dict__" 811 (.ref 357), e P "__weakref__" 813 (.ref 358), e P "__doc__" 814 (.none)] 4 }),
  (356, { cls := .type "type", data := .cls { name := "Headers", bases := [.type "object"], mro := [.ref 356, .type "object"], ns := 355, qualname := "Headers" }, slots := #[none, none, some (.str "Headers" 660), some (.str "Headers" 668), some (.builtin "object.__new__"), some (.bool true)] }),
  (357, { cls := .type "getset_descriptor", data := .fields #[.str "__dict__" 810, .ref 356, .builtin "function.__dict__", .builtin "function.__dict__#set"] }),
  (358, { cls := .type "getset_descriptor", data := .fields #[.str "__weakref__" 812, .ref 356, .builtin "ExceptionGroup.__weakref__", .none] }),
  (364, { cls := .type "code", data := .fields #[.str "_law_told" 819, .str "_law_told" 820, .str "/claim/cut.py" 821, .int 211 0, .int 1 0, .int 0 0, .int 0 0, .int 3 0, .ref 361, .bool true, .int 276 0, .ref 362, .none, .none, .none, .ref 363, .int 822 0, .int 211 0, .str "/claim/cut.py" 823] }),
  (365, fo (.type "function") "_law_told" (md 17) 3 [] (.none) (.none) (.str "law_xn0029_01" 817) (.ref 364) (.none)),
  (371, { cls := .type "code", data := .fields #[.str "_law_heights" 825, .str "_law_heights" 826, .str "/claim/cut.py" 827, .int 215 0, .int 1 0, .int 0 0, .int 0 0, .int 3 0, .ref 366, .bool true, .int 276 0, .ref 367, .none, .ref 368, .ref 369, .ref 370, .int 831 0, .int 215 0, .str "/claim/cut.py" 832] }),
  (372, fo (.type "function") "_law_heights" (md 18) 3 [] (.none) (.none) (.str "law_xn0029_01" 817) (.ref 371) (.none)),
  (378, { cls := .type "code", data := .fields #[.str "_law_text" 834, .str "_law_text" 835, .str "/claim/cut.py" 836, .int 220 0, .int 1 0, .int 0 0, .int 0 0, .int 3 0, .ref 373, .bool true, .int 276 0, .ref 374, .none, .ref 375, .ref 376, .ref 377, .int 838 0, .int 220 0, .str "/claim/cut.py" 839] }),
  (379, fo (.type "function") "_law_text" (md 19) 3 [] (.none) (.none) (.str "law_xn0029_01" 817) (.ref 378) (.none)),
  (383, { cls := .type "code", data := .fields #[.str "_law_labels" 841, .str "_law_labels" 842, .str "/claim/cut.py" 843, .int 222 0, .int 1 0, .int 0 0, .int 0 0, .int 3 0, .ref 380, .bool true, .int 276 0, .ref 381, .none, .none, .none, .ref 382, .int 844 0, .int 222 0, .str "/claim/cut.py" 845] }),
  (384, fo (.type "function") "_law_labels" (md 20) 3 [] (.none) (.none) (.str "law_xn0029_01" 817) (.ref 383) (.none)),
  (390, { cls := .type "code", data := .fields #[.str "_law_pieces" 847, .str "_law_pieces" 848, .str "/claim/cut.py" 849, .int 230 0, .int 2 0, .int 0 0, .int 0 0, .int 3 0, .ref 385, .bool true, .int 276 0, .ref 386, .none, .ref 387, .ref 388, .ref 389, .int 855 0, .int 230 0, .str "/claim/cut.py" 856] }),
  (391, fo (.type "function") "_law_pieces" (md 21) 3 [] (.none) (.none) (.str "law_xn0029_01" 817) (.ref 390) (.none)),
  (397, { cls := .type "code", data := .fields #[.str "_law_table" 858, .str "_law_table" 859, .str "/claim/cut.py" 860, .int 237 0, .int 2 0, .int 0 0, .int 0 0, .int 3 0, .ref 392, .bool true, .int 276 0, .ref 393, .none, .ref 394, .ref 395, .ref 396, .int 866 0, .int 237 0, .str "/claim/cut.py" 867] }),
  (398, fo (.type "function") "_law_table" (md 22) 3 [] (.none) (.none) (.str "law_xn0029_01" 817) (.ref 397) (.none)),
  (404, { cls := .type "code", data := .fields #[.str "_law_line" 869, .str "_law_line" 870, .str "/claim/cut.py" 871, .int 244 0, .int 1 0, .int 0 0, .int 0 0, .int 3 0, .ref 399, .bool true, .int 276 0, .ref 400, .none, .ref 401, .ref 402, .ref 403, .int 877 0, .int 244 0, .str "/claim/cut.py" 878] }),
  (405, fo (.type "function") "_law_line" (md 23) 3 [] (.none) (.none) (.str "law_xn0029_01" 817) (.ref 404) (.none)),
  (411, { cls := .type "code", data := .fields #[.str "_law_served" 880, .str "_law_served" 881, .str "/claim/cut.py" 882, .int 255 0, .int 1 0, .int 0 0, .int 0 0, .int 3 0, .ref 406, .bool true, .int 276 0, .ref 407, .none, .ref 408, .ref 409, .ref 410, .int 889 0, .int 255 0, .str "/claim/cut.py" 890] }),
  (412, fo (.type "function") "_law_served" (md 24) 3 [] (.none) (.none) (.str "law_xn0029_01" 817) (.ref 411) (.none)),
  (418, { cls := .type "code", data := .fields #[.str "_law_depths" 892, .str "_law_depths" 893, .str "/claim/cut.py" 894, .int 271 0, .int 1 0, .int 0 0, .int 0 0, .int 3 0, .ref 413, .bool true, .int 276 0, .ref 414, .none, .ref 415, .ref 416, .ref 417, .int 899 0, .int 271 0, .str "/claim/cut.py" 900] }),
  (419, fo (.type "function") "_law_depths" (md 25) 3 [] (.none) (.none) (.str "law_xn0029_01" 817) (.ref 418) (.none)),
  (425, { cls := .type "code", data := .fields #[.str "_law_back" 902, .str "_law_back" 903, .str "/claim/cut.py" 904, .int 279 0, .int 1 0, .int 0 0, .int 0 0, .int 3 0, .ref 420, .bool true, .int 276 0, .ref 421, .none, .ref 422, .ref 423, .ref 424, .int 915 0, .int 279 0, .str "/claim/cut.py" 916] }),
  (426, fo (.type "function") "_law_back" (md 26) 3 [] (.none) (.none) (.str "law_xn0029_01" 817) (.ref 425) (.none)),
  (430, { cls := .type "code", data := .fields #[.str "law" 918, .str "law" 919, .str "/claim/cut.py" 920, .int 304 0, .int 1 0, .int 0 0, .int 0 0, .int 3 0, .ref 427, .bool true, .int 276 0, .ref 428, .none, .none, .none, .ref 429, .int 921 0, .int 304 0, .str "/claim/cut.py" 922] }),
  (431, fo (.type "function") "law" (md 27) 3 [] (.none) (.none) (.str "law_xn0029_01" 817) (.ref 430) (.none))]
noncomputable def hA : List Addr := [0, 1, 2, 3, 4, 5, 6, 9, 10, 11, 12, 13, 14, 51, 52, 58, 59, 72, 73, 79, 80, 107, 108, 110, 111, 112, 113, 116, 119, 124, 125, 131, 132, 138, 139, 140, 146, 147, 148, 154, 155, 157, 161, 162, 164, 168, 169, 170, 176, 177, 183, 184, 185, 191, 192, 194, 195, 196, 197, 203, 204, 205, 211, 212, 216, 217, 221, 222, 226, 227, 228, 234, 235, 243, 249, 250, 256, 257, 289, 290, 294, 295, 296, 302, 303, 319, 320, 352, 353, 355, 356, 357, 358, 364, 365, 371, 372, 378, 379, 383, 384, 390, 391, 397, 398, 404, 405, 411, 412, 418, 419, 425, 426, 430, 431]
theorem hA_eq (P : Params) : hA = (kheap P).map (·.1) := by kernel_rfl
/-! the top, run in one go -/
noncomputable def btA : List Obj → BT → Nat → Option BT
  | [], t, _ => some t
  | o :: l, t, n => match ((t.ins n o).get n).isSome with
    | true => btA l (t.ins n o) (n + 1)
    | false => none
theorem btA_of : ∀ {l : List Obj} {t t' : BT} {n : Nat} {life : Life}, btA l t n = some t' → absHeap t' (n + l.length) life = ⟨(absHeap t n life).objs ++ l.toArray, life⟩
  | [], t, t', n, life, h => by cases h; simp [absHeap]
  | o :: l, t, t', n, life, h => by
    unfold btA at h
    cases g : ((t.ins n o).get n).isSome with
    | false => rw [g] at h; cases h
    | true =>
      rw [g] at h
      have := btA_of (life := life) h
      rw [show n + (o :: l).length = n + 1 + l.length by simp only [List.length_cons]; omega, this, absHeap_ins g]
      simp [Heap.push]
noncomputable def toT (s : Shared) : Option SharedT := (btA s.heap.objs.toList .nil 0).map fun t => ⟨t, s.heap.objs.toList.length, s.heap.life, s.gens, s.drawn, s.toks, s.os⟩
theorem toT_abs {s : Shared} {T : SharedT} (h : toT s = some T) : T.abs = s := by
  unfold toT at h
  obtain ⟨t, ht, rfl⟩ := Option.map_eq_some_iff.mp h
  have := btA_of (life := s.heap.life) ht
  rw [Nat.zero_add] at this
  unfold SharedT.abs
  simp only [this]
  obtain ⟨⟨o, l⟩, _, _, _, _⟩ := s
  simp [absHeap, BT.list]
section
variable (aeb : Thread → Option (List Value)) (st : SharedT → Thread → Option (SharedT × Thread)) (ok : Thread → Bool)
noncomputable def imp1 : Nat → SharedT → Thread → Option SharedT :=
  @Nat.rec (fun _ => SharedT → Thread → Option SharedT) (fun _ _ => none) fun _ ih s t => match aeb t with
    | some l => match l with
      | [] => some s
      | _ :: _ => none
    | none => match st s t with
      | some (s', t') => ih s' t'
      | none => none
noncomputable def topT : Nat → SharedT → Thread → Option SharedT :=
  @Nat.rec (fun _ => SharedT → Thread → Option SharedT) (fun _ _ => none) fun _ ih s t => match through t with
    | true => some s
    | false => match ok t with
      | false => none
      | true => match st s t with
        | some (s', t') => ih s' t'
        | none => none
end
theorem imp1_of {tb : String → Option Builtin} {p : Program} {w : World} : ∀ {n : Nat} {s s' : SharedT} {t : Thread}, imp1 Thread.atExitBegin (stepT (denote tb) p w) n s t = some s' → importEnds tb p w n s.abs t = some s'.abs
  | 0, _, _, _, h => nomatch h
  | n + 1, s, s', t, h => by
    have h : (match t.atExitBegin with
      | some l => (match l with
        | [] => some s
        | _ :: _ => none)
      | none => match stepT (denote tb) p w s t with
        | some (s', t') => imp1 Thread.atExitBegin (stepT (denote tb) p w) n s' t'
        | none => none) = some s' := h
    unfold importEnds
    cases ha : t.atExitBegin with
    | some l =>
      rw [ha] at h
      cases l with
      | nil => cases h; rfl
      | cons _ _ => cases h
    | none =>
      rw [ha] at h
      cases hs : stepT (denote tb) p w s t with
      | none => rw [hs] at h; cases h
      | some r => obtain ⟨s₂, t₂⟩ := r; rw [hs] at h; dsimp only; rw [stepT_spec hs]; exact imp1_of h
theorem topT_of {tb : String → Option Builtin} {p : Program} {w : World} {n₀ : Nat} {ann : Option Value} : ∀ {n : Nat} {s s' : SharedT} {t : Thread}, topT (stepT (denote tb) p w) (stepOk n₀ ann) n s t = some s' → topRun tb p w n₀ ann n s.abs t = some s'.abs
  | 0, _, _, _, h => nomatch h
  | n + 1, s, s', t, h => by
    have h : (match through t with
      | true => some s
      | false => match stepOk n₀ ann t with
        | false => none
        | true => match stepT (denote tb) p w s t with
          | some (s', t') => topT (stepT (denote tb) p w) (stepOk n₀ ann) n s' t'
          | none => none) = some s' := h
    unfold topRun
    cases ha : through t with
    | true => rw [ha] at h; cases h; rfl
    | false =>
      rw [ha] at h
      cases hb : stepOk n₀ ann t with
      | false => rw [hb] at h; cases h
      | true =>
        rw [hb] at h
        cases hs : stepT (denote tb) p w s t with
        | none => rw [hs] at h; cases h
        | some r => obtain ⟨s₂, t₂⟩ := r; rw [hs] at h; dsimp only; rw [stepT_spec hs]; exact topT_of h
noncomputable def full {β : Type} (stp : Program → World → SharedT → Thread → Option (SharedT × Thread)) (aeb : Thread → Option (List Value)) (stt : Program → Shared × Thread) (fm : Program → Shared → Option Shared)
    (ok : Nat → Option Value → Thread → Bool) (ns : Heap → Addr → Str → Option Value) (fin : Heap → Shared → Bool) (out : SharedT → β) (p : Program) (w : World) (N : Nat) : Option β :=
  (toT (stt (opening p)).1).bind fun a => (imp1 aeb (stp (opening p) w) N a (stt (opening p)).2).bind fun b => (fm p b.abs).bind fun s0 =>
    match s0.heap.isNs mainGlobals && s0.gens.size == 0 with
    | true => (toT s0).bind fun c => (topT (stp p w) (ok s0.heap.objs.size (ns s0.heap mainGlobals "__annotations__")) N c (topStub p)).bind fun sf =>
      match fin s0.heap sf.abs with
      | true => some (out sf)
      | false => none
    | false => none
noncomputable def finO (p : Program) (h₀ : Heap) (s : Shared) : Bool := staticsOk (importedModules p.main.body) h₀ s.heap && namesBound p s.heap && gensDone s && laidKept h₀ s.heap
theorem full_spec {β : Type} {out : Shared → β} {ot : SharedT → β} (ho : ∀ s, ot s = out s.abs) {p : Program} {w : World} {N : Nat} {r : β} (h : full (stepT (denote treeTable)) Thread.atExitBegin start fenceModules? stepOk Heap.nsMap (finO p) ot p w N = some r) : (openEnds treeTable p w N).map out = some r := by
  unfold full at h
  obtain ⟨a, ha, h⟩ := Option.bind_eq_some_iff.mp h
  obtain ⟨b, hb, h⟩ := Option.bind_eq_some_iff.mp h
  obtain ⟨s0, h0, h⟩ := Option.bind_eq_some_iff.mp h
  have e1 := imp1_of hb
  rw [toT_abs ha] at e1
  have e2 : fencedOpening treeTable p w N = some s0 := by unfold fencedOpening; rw [e1]; exact h0
  cases h1 : (s0.heap.isNs mainGlobals && s0.gens.size == 0) with
  | false => rw [h1] at h; cases h
  | true =>
    rw [h1] at h
    obtain ⟨c, hc, h⟩ := Option.bind_eq_some_iff.mp h
    obtain ⟨sf, hf, h⟩ := Option.bind_eq_some_iff.mp h
    have e3 := topT_of hf
    rw [toT_abs hc] at e3
    cases h2 : finO p s0.heap sf.abs with
    | false => rw [h2] at h; cases h
    | true =>
      rw [h2] at h
      unfold openEnds
      rw [e2]
      show (topFrom treeTable p w N s0).map out = some r
      unfold topFrom
      rw [h1]
      dsimp only
      rw [e3]
      unfold finO at h2
      simp only [Option.bind_some, h2]
      rw [← h, ho]
      rfl
noncomputable def qv : Program := view pg [0, 1, 3, 4, 5, 6, 8, 11, 12, 13, 15, 17, 18, 19, 20, 21, 22, 23, 24, 25, 26, 27]
noncomputable def lo : List Str := ["_Accumulator", "_quoted", "_paren_depth", "tspecials", "_name_disallowed_re", "_value_disallowed_re", "_formatparam"]
noncomputable def rL : OpenRow := (PySem.Challenge.rw_xn0029_01).row
noncomputable def rr : RowW := rL.toRowW
noncomputable def xt (s : Shared) : Bool := xlAt qv [] s && recOk (RowW.records rr) s
noncomputable abbrev hH : Hook := kHook kheap hA hA_eq
/-- what the hook looks at, read off the tree -/
noncomputable def obT (s : SharedT) : List (Option Obj) := hA.map fun a => match Nat.blt a s.n with
  | true => match s.tree.get a with
    | some o => alive o
    | none => alive default
  | false => none
theorem obT_eq (s : SharedT) : obT s = hH.obs s.abs := by
  show hA.map _ = hA.map s.abs.heap.get?
  congr 1
  funext a
  cases hb : Nat.blt a s.n with
  | true =>
    have hl : a < s.n := Nat.le_of_ble_eq_true hb
    cases g : s.tree.get a with
    | some o => exact (abs_get hl g).symm
    | none =>
      show alive default = (absHeap s.tree s.n s.life).get? a
      unfold Heap.get?
      rw [absHeap_at, if_pos hl, g]
      rfl
  | false =>
    have hl : ¬ a < s.n := fun h => by rw [Nat.ble_eq_true_of_le h |> (show Nat.blt a s.n = true from ·)] at hb; cases hb
    exact (abs_get_none hl).symm
end
end Hd
set_option genSizeOf false
set_option genInjectivity false
set_option maxRecDepth 100000
set_option maxHeartbeats 0
namespace Hd
noncomputable section
open PySem PySem.W PySem.W.X PyProof.Rows PySem.Calls
noncomputable def stpQ : Program → World → SharedT → Thread → Option (SharedT × Thread) := PySem.W.Fast.tw10156331382660048174 (PySem.W.Fast.tw11892475500146522536 PySem.W.Fast.tw14364793385576792824)
theorem stp_eq : stepT (denote treeTable) = stpQ := by
  unfold stpQ
  rw [PySem.W.Fast.te10156331382660048174, PySem.W.Fast.te11892475500146522536, PySem.W.Fast.te14364793385576792824]
noncomputable def Ran (w : World) : Prop := full stpQ PySem.W.Fast.tw3805553451399329143 PySem.W.Fast.tw1435165496053646825 PySem.W.Fast.tw14289696077712309145 PySem.W.Fast.tw6613529449190102663 PySem.W.Fast.tw8920871248978507458 (finO pg)
   (fun s => (PySem.W.Fast.tw4187177175401517315 qv lo (importedModules pg.main.body) xt true s.abs, obT s)) pg w 5170 = some (openGood qv lo, hH.val w)
theorem one_w : ∃ w, Ran w → ∀ v, Ran v := by
  by_cases h : ∀ v, Ran v
  · exact ⟨⟨fun _ _ => 0, { strHash := fun _ => 0, shareClass := fun _ => 0, mergeTok := id, idOf := fun _ => 0, idOfShared := fun _ _ => 0, followText := fun _ => false, idOfImm := fun _ => 0 }⟩, fun _ => h⟩
  · exact (Classical.not_forall.mp h).elim fun v hv => ⟨v, fun r => absurd r hv⟩
/-- a world at which the run would fall, if there were one: a closed term, so that the kernel reckons with numbers all along -/
noncomputable def wc : World := Classical.choose one_w
theorem run_c : full stpQ PySem.W.Fast.tw3805553451399329143 PySem.W.Fast.tw1435165496053646825 PySem.W.Fast.tw14289696077712309145 PySem.W.Fast.tw6613529449190102663 PySem.W.Fast.tw8920871248978507458 (finO pg)
   (fun s => (PySem.W.Fast.tw4187177175401517315 qv lo (importedModules pg.main.body) xt true s.abs, obT s)) pg wc 5170 = some (openGood qv lo, hH.val wc) := by kernel_rfl
theorem left_run (w : World) : Ran w := Classical.choose_spec one_w run_c w
theorem left : LeftO pg qv lo xt hH.obs hH.val 5170 := fun w => by
  refine full_spec (ot := fun s => (openSeen qv lo (importedModules pg.main.body) xt true s.abs, obT s)) (fun s => congrArg (Prod.mk _) (obT_eq s)) ?_
  rw [stp_eq, PySem.W.Fast.te3805553451399329143, PySem.W.Fast.te1435165496053646825, PySem.W.Fast.te14289696077712309145, PySem.W.Fast.te6613529449190102663, PySem.W.Fast.te8920871248978507458, PySem.W.Fast.te4187177175401517315]
  exact left_run w
end
end Hd
set_option genSizeOf false
set_option genInjectivity false
set_option maxRecDepth 100000
set_option maxHeartbeats 0
namespace Hd
noncomputable section
open PySem PySem.W PySem.W.X PyProof.Rows PySem.Calls
def dk : DefRec × List (Str × Expr) := match defOf qv rr.name with
  | some x => x
  | none => (⟨"", default, [], default, default⟩, [])
theorem dk_eq : defOf qv rr.name = some (dk.1, dk.2) := by kernel_rfl
theorem said_q : PySem.W.Fast.tw9446332074065402090 PySem.Challenge.rw_xn0029_01 = true := by
  delta PySem.W.Fast.tw9446332074065402090
  with_reducible repeat' (refine look_both ?_ ?_)
  · delta PySem.W.Fast.tw17960256430627541270 PySem.W.Fast.tw2436336058641802641 PySem.W.Fast.tw12908688711261696721
    with_reducible repeat' (refine look_both ?_ ?_)
    all_goals decide +kernel
  all_goals decide +kernel
theorem said : (PySem.Challenge.rw_xn0029_01).wellSaid = true := (congrFun PySem.W.Fast.te9446332074065402090 _).trans said_q
theorem hx (walk : WalkO qv lo (XL qv []) (Hook.says hH) rr dk.1 dk.2 fun f vs => PySem.call f vs) : PySem.Challenge.rw_xn0029_01.Holds :=
  holds_law said fun k1 => holds_open (r := rL) (q := qv) (loose := lo) (Xt := xt) left (Hook.of hH) (Hook.keeps hH) (fun s e => xl_of s (Bool.and_eq_true_iff.mp e).1) XL.keeps dk_eq (by kernel_rfl) (by kernel_rfl)
    (fun s e => recFacts_of (Bool.and_eq_true_iff.mp e).2) (by kernel_rfl) k1 (by decide +kernel) ⟨rfl, rfl, rfl, rfl, rfl, by decide +kernel⟩ ⟨[.list []], by decide +kernel, by decide +kernel⟩ walk
end
end Hd
namespace Mine
noncomputable section
theorem nn {α : Type} {x : α} {p : Prop} (h : (none : Option α) = some x) : p := nomatch h
open PySem PySem.W PyProof.Rows PySem.Calls
theorem au1 (h : Nat → 0 = 0 := by intro _; rfl) : True := trivial
theorem au2 (h : 0 = 0 := by rfl) : True := trivial
theorem au3 (h : 0 = 0 := by intro _ _; rfl) : True := trivial
theorem au4 (h : 0 = 0 := by decide) : True := trivial
theorem au5 (h : 0 = 0 := by kernel_rfl) : True := trivial
theorem au6 (h : 0 = 0 := by kernel_rfl) : True := trivial
theorem au7 (h : 0 = 0 := by with_unfolding_all rfl) : True := trivial
theorem au8 (h : 0 = 0 := by intro _; exact ⟨_, rfl⟩) : True := trivial
theorem au9 (h : 0 = 0 := by intro _ _; exact ⟨_, rfl⟩) : True := trivial
@[elab_as_elim] theorem rwG {α : Sort _} {a b : α} {p : α → Prop} (h : a = b) (k : p b) : p a := by subst h; exact k
@[elab_as_elim] theorem rwH {α : Sort _} {a b : α} {p : α → Prop} (h : b = a) (k : p b) : p a := by subst h; exact k
theorem lt_a {a b c : Nat} (h : a < b) (k : Nat.ble b c = true) : a < c := Nat.lt_of_lt_of_le h (Nat.le_of_ble_eq_true k)
theorem le_a {a b c : Nat} (h : a < b) (k : Nat.ble b (c + 1) = true) : a ≤ c := Nat.le_of_lt_succ (Nat.lt_of_lt_of_le h (Nat.le_of_ble_eq_true k))
theorem lt_1 {a b c : Nat} (h : a < b) (k : Nat.ble (b + 1) c = true) : a + 1 < c := Nat.lt_of_lt_of_le (Nat.add_lt_add_right h 1) (Nat.le_of_ble_eq_true k)
theorem lt_3 {a b c : Nat} (h : a < b) (k : Nat.ble (b + 3) c = true) : a + 3 < c := Nat.lt_of_lt_of_le (Nat.add_lt_add_right h 3) (Nat.le_of_ble_eq_true k)
theorem lt_30 {a b : Nat} (h : a < b) (k : Nat.ble (b + 30) 9900 = true) : a + 30 < cLine := Nat.lt_of_lt_of_le (Nat.add_lt_add_right h 30) (Nat.le_of_ble_eq_true k)
theorem le_le {a b c : Nat} (h : a ≤ b) (k : Nat.ble b c = true) : a ≤ c := Nat.le_trans h (Nat.le_of_ble_eq_true k)
section
variable {α : Type _} {p : List α → Prop}
@[elab_as_elim] theorem ln1 (ws : List α) (h : ws.length = 1) (k : ∀ a, p [a]) : p ws := by
  obtain ⟨a, rfl⟩ := List.length_eq_one_iff.mp h
  exact k a
theorem ln_tl {n : Nat} {ws : List α} (h : ws.length = n + 1) : ∃ a t, ws = a :: t ∧ t.length = n := by
  cases ws with
  | nil => exact absurd h (Nat.succ_ne_zero n).symm
  | cons a t => exact ⟨a, t, rfl, Nat.succ.inj h⟩
@[elab_as_elim] theorem ln2 (ws : List α) (h : ws.length = 2) (k : ∀ a b, p [a, b]) : p ws := by
  obtain ⟨a, t, rfl, h'⟩ := ln_tl h
  exact ln1 (p := fun t => p (a :: t)) t h' (k a)
@[elab_as_elim] theorem ln3 (ws : List α) (h : ws.length = 3) (k : ∀ a b c, p [a, b, c]) : p ws := by
  obtain ⟨a, t, rfl, h'⟩ := ln_tl h
  exact ln2 (p := fun t => p (a :: t)) t h' (k a)
@[elab_as_elim] theorem ln4 (ws : List α) (h : ws.length = 4) (k : ∀ a b c d, p [a, b, c, d]) : p ws := by
  obtain ⟨a, t, rfl, h'⟩ := ln_tl h
  exact ln3 (p := fun t => p (a :: t)) t h' (k a)
@[elab_as_elim] theorem ln5 (ws : List α) (h : ws.length = 5) (k : ∀ a b c d e, p [a, b, c, d, e]) : p ws := by
  obtain ⟨a, t, rfl, h'⟩ := ln_tl h
  exact ln4 (p := fun t => p (a :: t)) t h' (k a)
end
set_option genSizeOf false
set_option genInjectivity false
/-! the virtual machine's data -/
inductive At where
  | ch (c : Nat) | lab (k : Nat)
inductive V where
  | none | bool (b : Bool) | int (i : Int) | str (x : List At) | byt (x : List At) | tn (k : Nat) | ln (x : List At) | ref (n : Nat) | old (a : Nat) | txt (k : Nat) | nm (k : Nat)
inductive VO where
  | list (xs : List V) | tup (xs : List V) | acc (d : Nat) (xs : List V) | ins (c d : Nat)
  | dic (vs : List (Nat × V)) | fr (tag : Nat) (vs : List (Option V))
  | lit (src i : Nat) | tit (src i : Nat) | rng (a b c : Int) | rit (x left step : Int) | slc (l u s : V) | sit (x : List Nat) (i : Nat) | cell (v : Option V) | junk
/-! a trie -/
inductive Tr (α : Type) where
  | nil | node (v : Option α) (l r : Tr α)
namespace Tr
variable {α : Type}
noncomputable def get (t : Tr α) : Nat → Option α := Tr.rec (motive := fun _ => Nat → Option α) (fun _ => none) (fun v _ _ gl gr i => Nat.rec (motive := fun _ => Option α) v (fun i _ => Nat.rec (motive := fun _ => Option α) (gl (i / 2)) (fun _ _ => gr (i / 2)) (i % 2)) i) t
noncomputable def ins (v : α) (f : Nat) : Tr α → Nat → Tr α := Nat.rec (motive := fun _ => Tr α → Nat → Tr α) (fun t _ => t) (fun _ ih t i =>
  Tr.rec (motive := fun _ => Tr α)
    (Nat.rec (motive := fun _ => Tr α) (.node (some v) .nil .nil) (fun i _ => Nat.rec (motive := fun _ => Tr α) (.node none (ih .nil (i / 2)) .nil) (fun _ _ => .node none .nil (ih .nil (i / 2))) (i % 2)) i)
    (fun u l r _ _ => Nat.rec (motive := fun _ => Tr α) (.node (some v) l r) (fun i _ => Nat.rec (motive := fun _ => Tr α) (.node u (ih l (i / 2)) r) (fun _ _ => .node u l (ih r (i / 2))) (i % 2)) i) t) f
noncomputable def val (t : Tr α) : Option α := Tr.rec (motive := fun _ => Option α) none (fun v _ _ _ _ => v) t
noncomputable def sub (t : Tr α) (b : Nat) : Tr α := Tr.rec (motive := fun _ => Tr α) .nil (fun _ l r _ _ => Nat.rec (motive := fun _ => Tr α) l (fun _ _ => r) b) t
theorem get_nil (i : Nat) : (Tr.nil : Tr α).get i = none := rfl
theorem get_zero (t : Tr α) : t.get 0 = t.val := by cases t <;> rfl
theorem get_succ (t : Tr α) (i : Nat) : t.get (i + 1) = (t.sub (i % 2)).get (i / 2) := by
  cases t with
  | nil => rfl
  | node v l r =>
    show (Nat.rec (motive := fun _ => Option α) (l.get (i / 2)) (fun _ _ => r.get (i / 2)) (i % 2)) = (Nat.rec (motive := fun _ => Tr α) l (fun _ _ => r) (i % 2) : Tr α).get (i / 2)
    generalize i % 2 = b
    cases b <;> rfl
theorem ins_zero (v : α) (f : Nat) (t : Tr α) : ins v (f + 1) t 0 = .node (some v) (t.sub 0) (t.sub 1) := by cases t <;> rfl
theorem ins_succ (v : α) (f : Nat) (t : Tr α) (i : Nat) : ins v (f + 1) t (i + 1) =
    .node t.val (Nat.rec (motive := fun _ => Tr α) (ins v f (t.sub 0) (i / 2)) (fun _ _ => t.sub 0) (i % 2)) (Nat.rec (motive := fun _ => Tr α) (t.sub 1) (fun _ _ => ins v f (t.sub 1) (i / 2)) (i % 2)) := by
  cases t with
  | nil =>
    show (Nat.rec (motive := fun _ => Tr α) (Tr.node none (ins v f .nil (i / 2)) .nil) (fun _ _ => .node none .nil (ins v f .nil (i / 2))) (i % 2)) = Tr.node none (Nat.rec (motive := fun _ => Tr α) (ins v f .nil (i / 2)) (fun _ _ => .nil) (i % 2)) (Nat.rec (motive := fun _ => Tr α) .nil (fun _ _ => ins v f .nil (i / 2)) (i % 2))
    generalize i % 2 = b
    cases b <;> rfl
  | node u l r =>
    show (Nat.rec (motive := fun _ => Tr α) (Tr.node u (ins v f l (i / 2)) r) (fun _ _ => .node u l (ins v f r (i / 2))) (i % 2)) = Tr.node u (Nat.rec (motive := fun _ => Tr α) (ins v f l (i / 2)) (fun _ _ => l) (i % 2)) (Nat.rec (motive := fun _ => Tr α) r (fun _ _ => ins v f r (i / 2)) (i % 2))
    generalize i % 2 = b
    cases b <;> rfl
theorem half_eq {i j : Nat} (h : j % 2 = i % 2) : (j + 1 = i + 1) = (j / 2 = i / 2) := propext ⟨fun e => by rw [Nat.succ.inj e], fun e => by rw [← Nat.div_add_mod j 2, ← Nat.div_add_mod i 2, h, e]⟩
theorem half_ne {i j : Nat} (h : ¬ j % 2 = i % 2) : ¬ j + 1 = i + 1 := fun e => h (by rw [Nat.succ.inj e])
theorem get_ins (v : α) : ∀ (f : Nat) (t : Tr α) (i j : Nat), i + 1 < 2 ^ f → (ins v f t i).get j = if j = i then some v else t.get j
  | 0, _, i, _, h => absurd h (by rw [Nat.pow_zero]; exact Nat.not_lt.mpr (Nat.le_add_left 1 i))
  | f + 1, t, 0, 0, _ => by rw [ins_zero, get_zero]; rfl
  | f + 1, t, 0, j + 1, _ => by
    rw [ins_zero, get_succ, get_succ, if_neg (Nat.succ_ne_zero j)]
    rcases Nat.mod_two_eq_zero_or_one j with e | e <;> rw [e] <;> rfl
  | f + 1, t, i + 1, 0, _ => by rw [ins_succ, get_zero, get_zero, if_neg (Nat.succ_ne_zero i).symm]; rfl
  | f + 1, t, i + 1, j + 1, h => by
    have hb : i / 2 + 1 < 2 ^ f := by have := Nat.pow_succ (n := 2) (m := f); omega
    rw [ins_succ, get_succ, get_succ t]
    by_cases e : j % 2 = i % 2
    · simp only [half_eq e]
      rw [e]
      rcases Nat.mod_two_eq_zero_or_one i with q | q <;> rw [q]
      · exact get_ins v f (t.sub 0) (i / 2) (j / 2) hb
      · exact get_ins v f (t.sub 1) (i / 2) (j / 2) hb
    · rw [if_neg (half_ne e)]
      rcases Nat.mod_two_eq_zero_or_one i with q | q <;> rcases Nat.mod_two_eq_zero_or_one j with r | r <;> rw [q, r] at e <;> rw [q, r] <;> first | exact absurd rfl e | rfl
end Tr
structure St where
  n : Nat
  t : Tr VO
noncomputable def St.get (σ : St) (i : Nat) : Option VO := σ.t.get i
noncomputable def St.put (σ : St) (i : Nat) (o : VO) : St := ⟨σ.n, σ.t.ins o 20 i⟩
noncomputable def St.add (σ : St) (o : VO) : St := ⟨σ.n + 1, σ.t.ins o 20 σ.n⟩
abbrev M (α : Type) := St → Option (α × St)
noncomputable def ret {α : Type} (a : α) : M α := fun σ => some (a, σ)
noncomputable def bnd {α β : Type} (f : M α) (g : α → M β) : M β := fun σ => Option.rec (motive := fun _ => Option (β × St)) none (fun p => Prod.rec (motive := fun _ => Option (β × St)) (fun a σ' => g a σ') p) (f σ)
theorem bnd_some {α β : Type} {f : M α} {g : α → M β} {σ : St} {r : β × St} (h : bnd f g σ = some r) : ∃ a σ', f σ = some (a, σ') ∧ g a σ' = some r := by
  unfold bnd at h
  cases e : f σ with
  | none => rw [e] at h; cases h
  | some p => rw [e] at h; exact ⟨p.1, p.2, rfl, h⟩
theorem bnd_e {α β : Type} {f : M α} {g : α → M β} {σ : St} {r : β × St} {p : Prop} (h : bnd f g σ = some r) (k : ∀ a σ', f σ = some (a, σ') → g a σ' = some r → p) : p :=
  let ⟨a, σ', h1, h2⟩ := bnd_some h
  k a σ' h1 h2
noncomputable def no {α : Type} : M α := fun _ => none
noncomputable def alloc (o : VO) : M V := fun σ => match Nat.blt σ.n 60000 with
  | true => some (.ref σ.n, σ.add o)
  | false => none
end
end Mine
set_option genSizeOf false
set_option genInjectivity false
namespace Mine
noncomputable section
open PySem PySem.W PyProof.Rows PySem.Calls
abbrev P : Program := OpenLaw.prog PySem.Challenge.rw_xn0029_01
noncomputable def tabs : List Addr := [157, 164]
noncomputable def KF (p : Params) : Frag := (Hd.kheap p).filter fun q => !(Nat.beq q.1 157 || Nat.beq q.1 164)
theorem get_add (σ : St) (vo : VO) (hn : σ.n < 60000) (i : Nat) : (σ.add vo).get i = if i = σ.n then some vo else σ.get i := by
  have hi : σ.n + 1 < 2 ^ 20 := by omega
  exact Tr.get_ins vo 20 σ.t σ.n i hi
structure Cx where
  w : World
  h : Heap
  l : Nat → Str
  told : Nat → Int
  tx : Nat → Str
  nm : Nat → Int
  os : OsState
noncomputable def Cx.atS (C : Cx) : At → Str
  | .ch c => ⟨#[c]⟩
  | .lab k => C.l k
noncomputable def Cx.str (C : Cx) : List At → Str
  | [] => ⟨#[]⟩
  | a :: r => C.atS a ++ C.str r
noncomputable def Cx.byt (C : Cx) (x : List At) : Array UInt8 := (C.str x).cps.map (·.toUInt8)
inductive RV (C : Cx) (μ : List Addr) : V → Value → Prop
  | none : RV C μ .none .none
  | bool (b : Bool) : RV C μ (.bool b) (.bool b)
  | int (i : Int) (t : Tok) : RV C μ (.int i) (.int i t)
  | str (x : List At) (t : Tok) : RV C μ (.str x) (.str (C.str x) t)
  | byt (x : List At) (t : Tok) : RV C μ (.byt x) (.bytes (C.byt x) t)
  | tn (k : Nat) (t : Tok) : RV C μ (.tn k) (.int (C.told k) t)
  | ln (x : List At) (t : Tok) : RV C μ (.ln x) (.int ((C.str x).length : Nat) t)
  | ref (n : Nat) (a : Addr) (h : μ[n]? = some a) : RV C μ (.ref n) (.ref a)
  | old (a : Addr) : RV C μ (.old a) (.ref a)
  | txt (k : Nat) (t : Tok) : RV C μ (.txt k) (.str (C.tx k) t)
  | nm (k : Nat) (t : Tok) : RV C μ (.nm k) (.int (C.nm k) t)
inductive RVs (C : Cx) (μ : List Addr) : List V → List Value → Prop
  | nil : RVs C μ [] []
  | cons {v : V} {w : Value} {vs : List V} {ws : List Value} (h : RV C μ v w) (t : RVs C μ vs ws) : RVs C μ (v :: vs) (w :: ws)
inductive RO (C : Cx) (μ : List Addr) : Option V → Option Value → Prop
  | none : RO C μ none none
  | some {v : V} {w : Value} (h : RV C μ v w) : RO C μ (some v) (some w)
/-- of an unknown local nothing is asked -/
inductive RQ (C : Cx) (μ : List Addr) : Option V → Option Value → Prop
  | none {w : Option Value} : RQ C μ none w
  | some {v : V} {w : Value} (h : RV C μ v w) : RQ C μ (some v) (some w)
section
variable {C : Cx} {μ : List Addr} {m : Value → Prop} {w : Value}
noncomputable def RVf (C : Cx) (μ : List Addr) : V → Value → Prop := V.rec (motive := fun _ => Value → Prop) (fun w => w = .none) (fun b w => w = .bool b) (fun i w => ∃ t, w = .int i t) (fun x w => ∃ t, w = .str (C.str x) t) (fun x w => ∃ t, w = .bytes (C.byt x) t) (fun n w => ∃ t, w = .int (C.told n) t)
  (fun x w => ∃ t, w = .int ((C.str x).length : Nat) t) (fun n w => ∃ a, μ[n]? = some a ∧ w = .ref a) (fun a w => w = .ref a) (fun n w => ∃ t, w = .str (C.tx n) t) (fun n w => ∃ t, w = .int (C.nm n) t)
theorem RV.f {v : V} (h : RV C μ v w) : RVf C μ v w := by
  induction h with
  | ref n a h => exact ⟨a, h, rfl⟩
  | none => rfl
  | bool b => rfl
  | old a => rfl
  | _ => exact ⟨_, rfl⟩
theorem exE {β : Sort _} {f : β → Value} (h : ∃ t, w = f t) (k : ∀ t, m (f t)) : m w := by
  obtain ⟨t, rfl⟩ := h
  exact k t
theorem eqE {x : Value} (h : w = x) (k : m x) : m w := by subst h; exact k
@[elab_as_elim] theorem RV.eNone (h : RV C μ .none w) (k : m .none) : m w := eqE h.f k
@[elab_as_elim] theorem RV.eBool {b : Bool} (h : RV C μ (.bool b) w) (k : m (.bool b)) : m w := eqE h.f k
@[elab_as_elim] theorem RV.eInt {i : Int} (h : RV C μ (.int i) w) (k : ∀ t, m (.int i t)) : m w := exE h.f k
@[elab_as_elim] theorem RV.eStr {x : List At} (h : RV C μ (.str x) w) (k : ∀ t, m (.str (C.str x) t)) : m w := exE h.f k
@[elab_as_elim] theorem RV.eByt {x : List At} (h : RV C μ (.byt x) w) (k : ∀ t, m (.bytes (C.byt x) t)) : m w := exE h.f k
@[elab_as_elim] theorem RV.eTn {n : Nat} (h : RV C μ (.tn n) w) (k : ∀ t, m (.int (C.told n) t)) : m w := exE h.f k
@[elab_as_elim] theorem RV.eLn {x : List At} (h : RV C μ (.ln x) w) (k : ∀ t, m (.int ((C.str x).length : Nat) t)) : m w := exE h.f k
@[elab_as_elim] theorem RV.eRef {n : Nat} (h : RV C μ (.ref n) w) (k : ∀ a, μ[n]? = some a → m (.ref a)) : m w := by
  obtain ⟨a, h1, rfl⟩ := (show ∃ a, μ[n]? = some a ∧ w = .ref a from h.f)
  exact k a h1
@[elab_as_elim] theorem RV.eOld {a : Addr} (h : RV C μ (.old a) w) (k : m (.ref a)) : m w := eqE h.f k
@[elab_as_elim] theorem RV.eTxt {n : Nat} (h : RV C μ (.txt n) w) (k : ∀ t, m (.str (C.tx n) t)) : m w := exE h.f k
@[elab_as_elim] theorem RV.eNm {n : Nat} (h : RV C μ (.nm n) w) (k : ∀ t, m (.int (C.nm n) t)) : m w := exE h.f k
variable {l : List Value → Prop} {ws : List Value}
@[elab_as_elim] theorem RVs.eNil (h : RVs C μ [] ws) (k : l []) : l ws := by cases h; exact k
@[elab_as_elim] theorem RVs.eCons {v : V} {vs : List V} (h : RVs C μ (v :: vs) ws) (k : ∀ u us, RV C μ v u → RVs C μ vs us → l (u :: us)) : l ws := by cases h; exact k _ _ (by assumption) (by assumption)
variable {o : Option Value → Prop} {x : Option Value}
@[elab_as_elim] theorem RO.eNone (h : RO C μ Option.none x) (k : o Option.none) : o x := by cases h; exact k
@[elab_as_elim] theorem RO.eSome {v : V} (h : RO C μ (Option.some v) x) (k : ∀ u, RV C μ v u → o (Option.some u)) : o x := by cases h; exact k _ (by assumption)
end
theorem mu_ext {μ μ' : List Addr} (h : μ <+: μ') {n : Nat} {a : Addr} (e : μ[n]? = some a) : μ'[n]? = some a := by
  obtain ⟨t, rfl⟩ := h
  obtain ⟨hn, _⟩ := List.getElem?_eq_some_iff.mp e
  rw [List.getElem?_append_left hn]; exact e
theorem RV.ext {C : Cx} {μ μ' : List Addr} (h : μ <+: μ') {v : V} {w : Value} (r : RV C μ v w) : RV C μ' v w := by
  cases r with
  | none => exact .none
  | bool b => exact .bool b
  | int i t => exact .int i t
  | str x t => exact .str x t
  | byt x t => exact .byt x t
  | tn k t => exact .tn k t
  | ln x t => exact .ln x t
  | ref n a e => exact .ref n a (mu_ext h e)
  | old a => exact .old a
  | txt k t => exact .txt k t
  | nm k t => exact .nm k t
theorem RVs.ext {C : Cx} {μ μ' : List Addr} (h : μ <+: μ') {v : List V} {w : List Value} (r : RVs C μ v w) : RVs C μ' v w := by
  induction r with
  | nil => exact .nil
  | cons a _ ih => exact .cons (a.ext h) ih
theorem RO.ext {C : Cx} {μ μ' : List Addr} (h : μ <+: μ') {v : Option V} {w : Option Value} (r : RO C μ v w) : RO C μ' v w := by
  cases r with
  | none => exact .none
  | some a => exact .some (a.ext h)
theorem RQ.ext {C : Cx} {μ μ' : List Addr} (h : μ <+: μ') {v : Option V} {w : Option Value} (r : RQ C μ v w) : RQ C μ' v w := by
  cases r with
  | none => exact .none
  | some a => exact .some (a.ext h)
theorem RVs.len {C : Cx} {μ : List Addr} {v : List V} {w : List Value} (r : RVs C μ v w) : w.length = v.length := by
  induction r with
  | nil => rfl
  | cons _ _ ih => simp [ih]
theorem RVs.append {C : Cx} {μ : List Addr} {v v' : List V} {w w' : List Value} (r : RVs C μ v w) (r' : RVs C μ v' w') : RVs C μ (v ++ v') (w ++ w') := by
  induction r with
  | nil => exact r'
  | cons a _ ih => exact .cons a ih
theorem RVs.get {C : Cx} {μ : List Addr} {v : List V} {w : List Value} (r : RVs C μ v w) : ∀ {i : Nat} {x : V}, v[i]? = some x → ∃ y, w[i]? = some y ∧ RV C μ x y := by
  induction r with
  | nil => intro i x h; cases h
  | cons a _ ih =>
    intro i x h
    cases i with
    | zero => cases h; exact ⟨_, rfl, a⟩
    | succ i => exact ih h
theorem RVs.get_none {C : Cx} {μ : List Addr} {v : List V} {w : List Value} (r : RVs C μ v w) {i : Nat} (h : v[i]? = none) : w[i]? = none := by
  rw [List.getElem?_eq_none_iff] at h ⊢
  rw [r.len]; exact h
theorem RVs.take {C : Cx} {μ : List Addr} {v : List V} {w : List Value} (r : RVs C μ v w) : ∀ i : Nat, RVs C μ (v.take i) (w.take i) := by
  induction r with
  | nil => intro i; rw [List.take_nil, List.take_nil]; exact .nil
  | cons a b ih =>
    intro i
    cases i with
    | zero => exact .nil
    | succ i => exact .cons a (ih i)
noncomputable def tabN : Nat → List Str
  | 132 => ["self", "initial_size"]
  | 162 => ["self"]
  | 169 => ["self"]
  | 212 => ["data", "depth"]
  | 235 => ["param", "value", "quote"]
  | 379 => ["number"]
  | 384 => ["told", "labels", "k", "text", "mark", "inner"]
  | 257 => ["self", "value", "name", "regex"]
  | 365 => ["drawn"]
  | 108 => ["self", "fws", "string", "ch", "i", "prevpart", "part", "remainder"]
  | 73 => ["self", "end_of_line"]
  | 80 => ["self"]
  | 59 => ["self", "linesep"]
  | 52 => ["self", "headerlen", "maxlen", "continuation_ws", "splitchars"]
  | 139 => ["self", "fws", "string"]
  | 147 => ["self", "i", "popped"]
  | 155 => ["self"]
  | 177 => ["self", "startval"]
  | 184 => ["self"]
  | 192 => ["self"]
  | 353 => ["self", "_name", "_value", "_params", "parts", "k", "v"]
  | 290 => ["self", "name"]
  | 303 => ["self", "name", "default", "k", "v"]
  | 295 => ["self"]
  | 320 => ["self"]
  | 250 => ["self", "headers", "k", "v"]
  | 391 => ["heights", "labels", "pieces", "opened", "k"]
  | 398 => ["pieces", "labels", "table", "depth", "k"]
  | 405 => ["table", "line", "k", "name", "label"]
  | 412 => ["line", "hall", "gate", "paper", "standing", "step"]
  | 419 => ["line", "depth", "found", "step"]
  | 426 => ["line", "order", "height", "at", "due", "come", "step", "tail", "blanks", "label"]
  | 431 => ["script", "left", "line", "levels", "level", "due", "ahead", "same", "lower", "order", "wood"]
  | 372 => ["told", "heights", "x"]
  | 1001 => ["n"]
  | 1002 => ["k"]
  | 1003 => ["level"]
  | 1004 => ["i"]
  | 1005 => ["kv"]
  | 1006 => ["sign"]
  | 1008 => ["x"]
  | _ => []
/-- names of a frame: its table and what stands under each -/
noncomputable def MR (C : Cx) (μ : List Addr) (names : List Str) (vs : List (Option V)) (m : Str → Option Value) : Prop :=
  ∀ (i : Nat) (x : Str), names[i]? = some x → RQ C μ (vs[i]?.getD none) (m x)
noncomputable def codeName : Nat → Str
  | 0 => "_initial_size" | 1 => "_maxlen" | 2 => "_continuation_ws" | 3 => "_continuation_ws_len" | 4 => "_splitchars" | 5 => "_lines" | 6 => "_current_line" | _ => "_headers"
inductive DR (C : Cx) (μ : List Addr) : List (Nat × V) → List DictEntry → Prop
  | nil : DR C μ [] []
  | cons {k : Nat} {v : V} {t : Tok} {w : Value} {vs es} (h : RV C μ v w) (r : DR C μ vs es) : DR C μ ((k, v) :: vs) (⟨PyData.keyHash C.w.params (codeName k), .str (codeName k) t, w⟩ :: es)
/-- what the real object is -/
noncomputable def OR (C : Cx) (μ : List Addr) (o : Obj) : VO → Prop
  | .list xs => ∃ ws n, o = ⟨.type "list", none, .seq ws n, #[]⟩ ∧ RVs C μ xs ws.toList
  | .tup xs => ∃ ws n, o = ⟨.type "tuple", none, .seq ws n, #[]⟩ ∧ RVs C μ xs ws.toList
  | .acc d xs => ∃ ws n da, μ[d]? = some da ∧ o = ⟨.ref 195, some da, .seq ws n, #[]⟩ ∧ RVs C μ xs ws.toList
  | .ins c d => ∃ da, μ[d]? = some da ∧ o = ⟨.ref c, some da, .plain, #[]⟩
  | .dic vs => ∃ es n, o = dictOf es n ∧ DR C μ vs es
  | .fr tag vs => ∃ es ep m, o.data = .dict es ep ∧ StrKeys es ∧ (∀ name, nsFind es name = m name) ∧ vs.length = (tabN tag).length ∧ MR C μ (tabN tag) vs m
  | .lit src i => ∃ a, μ[src]? = some a ∧ o.cls = .type "list_iterator" ∧ o.data = .fields #[.ref a, .int i 0]
  | .tit src i => ∃ a, μ[src]? = some a ∧ o.cls = .type "tuple_iterator" ∧ o.data = .fields #[.ref a, .int i 0]
  | .rng a b c => ∃ t u v, o = { cls := .type "range", dict := none, data := .fields #[.int a t, .int b u, .int c v], slots := #[] }
  | .rit x l st => o = { cls := .type "range_iterator", dict := none, data := .fields #[rawInt x, rawInt l, rawInt st], slots := #[] }
  | .slc l u st => ∃ a b c, o = { cls := .type "slice", dict := none, data := .fields #[a, b, c], slots := #[] } ∧ RV C μ l a ∧ RV C μ u b ∧ RV C μ st c
  | .sit x i => ∃ t, o.cls = .type "str_ascii_iterator" ∧ o.data = .fields #[.str ⟨x.toArray⟩ t, .int i 0]
  | .cell v => ∃ w, o.data = .cell w ∧ RO C μ v w
  | .junk => True
theorem DR.ext {C : Cx} {μ μ' : List Addr} (h : μ <+: μ') {vs es} (r : DR C μ vs es) : DR C μ' vs es := by
  induction r with
  | nil => exact .nil
  | cons a _ ih => exact .cons (a.ext h) ih
theorem OR.ext {C : Cx} {μ μ' : List Addr} (h : μ <+: μ') {o : Obj} {vo : VO} (x : OR C μ o vo) : OR C μ' o vo := by
  cases vo with
  | list xs => exact x.imp fun ws x => x.imp fun n x => ⟨x.1, x.2.ext h⟩
  | tup xs => exact x.imp fun ws x => x.imp fun n x => ⟨x.1, x.2.ext h⟩
  | acc d xs => exact x.imp fun ws x => x.imp fun n x => x.imp fun da x => ⟨mu_ext h x.1, x.2.1, x.2.2.ext h⟩
  | ins c d => exact x.imp fun da x => ⟨mu_ext h x.1, x.2⟩
  | dic vs => exact x.imp fun es x => x.imp fun n x => ⟨x.1, x.2.ext h⟩
  | fr tag vs => exact x.imp fun es x => x.imp fun ep x => x.imp fun m x => ⟨x.1, x.2.1, x.2.2.1, x.2.2.2.1, fun i y hy => (x.2.2.2.2 i y hy).ext h⟩
  | lit src i => exact x.imp fun a x => ⟨mu_ext h x.1, x.2⟩
  | tit src i => exact x.imp fun a x => ⟨mu_ext h x.1, x.2⟩
  | rng a b c => exact x
  | rit a b c => exact x
  | slc l u st => exact x.imp fun a x => x.imp fun b x => x.imp fun c x => ⟨x.1, x.2.1.ext h, x.2.2.1.ext h, x.2.2.2.ext h⟩
  | sit y i => exact x
  | cell v => exact x.imp fun w x => ⟨x.1, x.2.ext h⟩
  | junk => exact x
noncomputable def pz : Params := { strHash := fun _ => 0, shareClass := fun _ => 0, mergeTok := id, idOf := fun _ => 0, idOfShared := fun _ _ => 0, followText := fun _ => false, idOfImm := fun _ => 0 }
/-- a table at the start -/
noncomputable def tb0 (t : Addr) : Array Value := match (Hd.kheap pz).lookup t with
  | some ⟨_, _, .fields vs, _⟩ => vs
  | _ => #[]
noncomputable def TabAt (h : Heap) (t : Addr) : Prop := ∃ vs : Array Value, h.get? t = some { cls := .none, data := .fields (tb0 t ++ vs) } ∧ TriplesOk (tb0 t ++ vs).toList
noncomputable def live : VO → Bool
  | .junk => false
  | _ => true
structure Rel (C : Cx) (μ : List Addr) (σ : St) (s : Shared) : Prop where
  len : μ.length = σ.n
  obj : ∀ i vo, σ.get i = some vo → live vo = true → ∃ a o, μ[i]? = some a ∧ s.heap.get? a = some o ∧ OR C μ o vo ∧ C.h.get? a = none ∧ a ∉ tabs
  inj : ∀ i j vo vo' a, σ.get i = some vo → σ.get j = some vo' → live vo = true → live vo' = true → μ[i]? = some a → μ[j]? = some a → i = j
  old : ∀ b o, C.h.get? b = some o → s.heap.get? b = some o
  tab : ∀ t ∈ tabs, C.h.get? t = none ∧ TabAt s.heap t
  bare : AllBare s.gens
  os : s.os = C.os
section
variable {C : Cx} {μ : List Addr} {σ : St} {s : Shared}
theorem Rel.toks (r : Rel C μ σ s) (h : Heap) (g : Array GenState) (d : Drawn) (t : Nat) (hh : h = s.heap) (hg : g = s.gens) : Rel C μ σ ⟨h, g, d, t, s.os⟩ := by
  subst hh hg
  exact ⟨r.len, r.obj, r.inj, r.old, r.tab, r.bare, r.os⟩
/-- the heap has grown, or stands -/
theorem Rel.grow (r : Rel C μ σ s) {h : Heap} {t : Nat} {d : Drawn} (k : ∀ b o, s.heap.get? b = some o → h.get? b = some o) : Rel C μ σ ⟨h, s.gens, d, t, s.os⟩ :=
  ⟨r.len, fun i vo e l => let ⟨a, o, e1, e2, e3⟩ := r.obj i vo e l; ⟨a, o, e1, k a o e2, e3⟩, r.inj, fun b o e => k b o (r.old b o e),
    fun t ht => ⟨(r.tab t ht).1, let ⟨vs, e, q⟩ := (r.tab t ht).2; ⟨vs, k _ _ e, q⟩⟩, r.bare, r.os⟩
/-- a new object, whatever else has grown -/
theorem Rel.add (r : Rel C μ σ s) {a : Addr} {o : Obj} {vo : VO} {h : Heap} {t : Nat} {d : Drawn} (k : ∀ b o, s.heap.get? b = some o → h.get? b = some o) (ha : s.heap.get? a = none) (hg : h.get? a = some o) (hn : σ.n < 60000) (ho : OR C (μ ++ [a]) o vo) :
    Rel C (μ ++ [a]) (σ.add vo) ⟨h, s.gens, d, t, s.os⟩ := by
  have ext : μ <+: μ ++ [a] := List.prefix_append _ _
  have hi : σ.n + 1 < 2 ^ 20 := by omega
  have at_n : (μ ++ [a])[σ.n]? = some a := by rw [← r.len]; simp
  have old_ne : ∀ i x b, σ.get i = some x → live x = true → μ[i]? = some b → b ≠ a := fun i x b e l e1 z => by
    obtain ⟨b', o', f1, f2, _⟩ := r.obj i x e l
    rw [f1] at e1
    cases e1
    rw [z, ha] at f2
    cases f2
  have get : ∀ i, (σ.add vo).get i = if i = σ.n then some vo else σ.get i := fun i => Tr.get_ins _ _ _ _ _ hi
  have lt : ∀ i x, σ.get i = some x → live x = true → i < μ.length := fun i x e l => by
    obtain ⟨b', o', f1, _⟩ := r.obj i x e l
    exact (List.getElem?_eq_some_iff.mp f1).1
  refine ⟨by simp [St.add, r.len], fun i x e l => ?_, fun i j x y b e1 e2 l1 l2 g1 g2 => ?_, fun b x e => k b x (r.old b x e), fun t ht => ⟨(r.tab t ht).1, let ⟨vs, e, q⟩ := (r.tab t ht).2; ⟨vs, k _ _ e, q⟩⟩, r.bare, r.os⟩
  · rw [get] at e
    split at e
    · rename_i e'
      subst e'
      (first | (have q := qc e q) | (have q := qcB e q) | cases e)
      refine ⟨a, o, at_n, hg, ho, ?_, fun ht => ?_⟩
      · cases q : C.h.get? a with
        | none => rfl
        | some x => rw [r.old _ _ q] at ha; cases ha
      · obtain ⟨vs, e, _⟩ := (r.tab _ ht).2
        rw [ha] at e
        (first | (have q := qc e q) | (have q := qcB e q) | cases e)
    · obtain ⟨a', o', e1, e2, e3, e4⟩ := r.obj i x e l
      exact ⟨a', o', mu_ext ext e1, k _ _ e2, e3.ext ext, e4⟩
  · rw [get] at e1 e2
    have low : ∀ (i : Nat) (x : VO) (b : Addr), σ.get i = some x → live x = true → (μ ++ [a])[i]? = some b → μ[i]? = some b := fun i x b e l g => by
      rw [List.getElem?_append_left (lt i x e l)] at g; exact g
    split at e1
    · rename_i h1
      subst h1
      rw [at_n] at g1
      cases g1
      split at e2
      · rename_i h2; exact h2.symm
      · exact absurd rfl (old_ne j y _ e2 l2 (low j y _ e2 l2 g2))
    · split at e2
      · rename_i h2
        subst h2
        rw [at_n] at g2
        cases g2
        exact absurd rfl (old_ne i x _ e1 l1 (low i x _ e1 l1 g1))
      · exact r.inj i j x y b e1 e2 l1 l2 (low i x b e1 l1 g1) (low j y b e2 l2 g2)
theorem get_size_none (h : Heap) : h.get? h.objs.size = none := by
  unfold Heap.get?
  rw [Array.getElem?_eq_none (Nat.le_refl _)]
/-- a new object -/
theorem Rel.alloc (r : Rel C μ σ s) {o : Obj} {vo : VO} {t : Nat} {d : Drawn} (hf : o.isFreed = false) (hn : σ.n < 60000) (ho : OR C (μ ++ [s.heap.objs.size]) o vo) :
    Rel C (μ ++ [s.heap.objs.size]) (σ.add vo) ⟨s.heap.push o, s.gens, d, t, s.os⟩ :=
  r.add (fun b x e => Heap.get?_push_of_some _ e) (get_size_none _) (Heap.get?_push_size _ hf) hn ho
/-- an own object turned; of junk nothing is asked -/
theorem Rel.put (r : Rel C μ σ s) {i : Nat} {a : Addr} {x₀ vo : VO} {h : Heap} {t : Nat} {d : Drawn} (hx : σ.get i = some x₀) (lx : live x₀ = true) (hi : μ[i]? = some a) (hn : σ.n < 60001) (hs : Heap.ExtBut a s.heap h) (ho : live vo = true → ∃ o', h.get? a = some o' ∧ OR C μ o' vo) :
    Rel C μ (σ.put i vo) ⟨h, s.gens, d, t, s.os⟩ := by
  obtain ⟨a', _, q1, _, _, q4, q5⟩ := r.obj i x₀ hx lx
  rw [hi] at q1
  cases q1
  have lt : i < σ.n := by rw [← r.len]; exact (List.getElem?_eq_some_iff.mp hi).1
  have hi2 : i + 1 < 2 ^ 20 := by omega
  have get : ∀ j, (σ.put i vo).get j = if j = i then some vo else σ.get j := fun j => Tr.get_ins _ _ _ _ _ hi2
  refine ⟨r.len, fun j x e l => ?_, fun j k x y b e1 e2 l1 l2 g1 g2 => ?_, fun b x e => hs b x (fun z => by subst z; rw [q4] at e; cases e) (r.old b x e),
    fun t ht => ⟨(r.tab t ht).1, let ⟨vs, e, q⟩ := (r.tab t ht).2; ⟨vs, hs _ _ (fun z => q5 (z ▸ ht)) e, q⟩⟩, r.bare, r.os⟩
  · rw [get] at e
    split at e
    · rename_i q
      subst q
      (first | (have q := qc e q) | (have q := qcB e q) | cases e)
      obtain ⟨o', f1, f2⟩ := ho l
      exact ⟨a, o', hi, f1, f2, q4, q5⟩
    · rename_i q
      obtain ⟨b, o, e1, e2, e3⟩ := r.obj j x e l
      refine ⟨b, o, e1, hs b o (fun z => q ?_) e2, e3⟩
      subst z
      exact r.inj j i x x₀ b e hx l lx e1 hi
  · rw [get] at e1 e2
    split at e1
    · rename_i h1
      subst h1
      split at e2
      · rename_i h2; exact h2.symm
      · exact (r.inj k _ y x₀ b e2 hx l2 lx g2 g1).symm
    · split at e2
      · rename_i h2
        subst h2
        exact r.inj j _ x x₀ b e1 hx l1 lx g1 g2
      · exact r.inj j k x y b e1 e2 l1 l2 g1 g2
end
theorem qc {α β : Type} {C : Cx} {R : List Addr → β → α → Prop} {Q : α → Shared → Prop} {b0 b : β} {σ0 σ' : St} {μ : List Addr} (e : some (b0, σ0) = some (b, σ')) (q : ∀ μ' s' a, μ <+: μ' → Rel C μ' σ' s' → R μ' b a → Q a s') :
    ∀ μ' s' a, μ <+: μ' → Rel C μ' σ0 s' → R μ' b0 a → Q a s' := by cases e; exact q
theorem qcB {C : Cx} {Q : Value → Shared → Prop} {b0 b : Bool} {σ0 σ' : St} {μ : List Addr} (e : some (b0, σ0) = some (b, σ')) (q : ∀ μ' s' a, μ <+: μ' → Rel C μ' σ' s' → (fun (_ : List Addr) (b : Bool) (w : Value) => w = .bool b) μ' b a → Q a s') :
    ∀ μ' s' a, μ <+: μ' → Rel C μ' σ0 s' → a = .bool b0 → Q a s' := by cases e; exact q
/-- the frames and the C units below stay under these -/
structure AOk (D U : Nat) (A : Around) : Prop where
  hd : A.handled = none
  dp : A.depth ≤ D
  un : A.units ≤ U
  gd : A.guards = some []
  fr : ∃ fr, A.frames = some fr
section
variable {M : Model} {A : Around} {E : Value → Shared → Prop} {s : Shared}
theorem gnT {α : Type} {t : Sem α} {Q : α → Shared → Prop} (k : ∀ t', t' = t → wpAny M A t' Q E s) : wpAny M A t Q E s := k t rfl
theorem wite_n {α : Type} {c : Prop} [Decidable c] {a b : Sem α} {Q : α → Shared → Prop} (h : ¬ c) (k : wpAny M A b Q E s) : wpAny M A (if c then a else b) Q E s := by rw [if_neg h]; exact k
theorem wite_p {α : Type} {c : Prop} [Decidable c] {a b : Sem α} {Q : α → Shared → Prop} (h : c) (k : wpAny M A a Q E s) : wpAny M A (if c then a else b) Q E s := by rw [if_pos h]; exact k
end
/-- the tree gives what the machine's step gives -/
noncomputable def Snd (C : Cx) (D U : Nat) {α β : Type} (R : List Addr → β → α → Prop) (t : Sem α) (f : M β) (μ : List Addr) : Prop :=
  ∀ (A : Around), AOk D U A → ∀ (σ : St) (s : Shared), Rel C μ σ s → ∀ b σ', f σ = some (b, σ') →
    ∀ (Q : α → Shared → Prop) (E : Value → Shared → Prop), (∀ μ' s' a, μ <+: μ' → Rel C μ' σ' s' → R μ' b a → Q a s') → wpAny (model P C.w) A t Q E s
end
end Mine
set_option genSizeOf false
set_option genInjectivity false
namespace Mine
noncomputable section
open PySem PySem.W PyProof.Rows PySem.Calls
/-- a label by its letter and one of twelve classes -/
noncomputable def tailOf : Nat → List Nat
  | 0 => [] | 6 => [] | 1 => [61, 120] | 7 => [61, 34, 120, 34] | 2 => [61, 34, 40, 34] | 8 => [61, 34, 40, 34]
  | 3 => [61, 34, 92, 34, 41, 41, 34] | 9 => [61, 34, 92, 34, 41, 41, 34] | 4 => [61, 34, 40, 92, 92, 34] | 10 => [61, 34, 40, 92, 92, 34] | _ => [61, 34, 97, 32, 98, 34]
/-- less what stands in quotes -/
noncomputable def cutOf : Nat → List Nat
  | 0 => [] | 6 => [] | 1 => [61, 120] | _ => [61]
/-- the text within, its mark, and as it is written -/
noncomputable def textOf : Nat → List Nat
  | 0 => [] | 6 => [] | 1 => [120] | 7 => [120] | 2 => [40] | 8 => [40] | 3 => [34, 41, 41] | 9 => [34, 41, 41] | 4 => [40, 92] | 10 => [40, 92] | _ => [97, 32, 98]
noncomputable def markOf : Nat → List Nat
  | 1 => [] | _ => [34]
noncomputable def innerOf : Nat → List Nat
  | 0 => [] | 6 => [] | 1 => [120] | 7 => [120] | 2 => [40] | 8 => [40] | 3 => [92, 34, 41, 41] | 9 => [92, 34, 41, 41] | 4 => [40, 92, 92] | 10 => [40, 92, 92] | _ => [97, 32, 98]
structure Cls (C : Cx) (k j : Nat) : Prop where
  lt : j < 12
  l : C.l k = ⟨((97 + k) :: tailOf j).toArray⟩
  c : C.l (k + 6) = ⟨((97 + k) :: cutOf j).toArray⟩
  t : Int.fmod (Int.fdiv (C.told k) 420) 6 = ((j % 6 : Nat) : Int)
  q : Int.fmod (Int.fdiv (C.told k) 2520) 2 = ((j / 6 : Nat) : Int)
  x0 : C.tx k = ⟨(textOf j).toArray⟩
  x1 : C.tx (k + 6) = ⟨(markOf j).toArray⟩
  x2 : C.tx (k + 12) = ⟨(innerOf j).toArray⟩
  n0 : C.nm k = Int.fdiv (C.told k) 2520
  n1 : C.nm (k + 6) = ((j / 6 : Nat) : Int)
structure CxOk (C : Cx) : Prop where
  cls : ∀ k, k < 6 → ∃ j, Cls C k j
  K : (KF C.w.params).In C.h
  lim : C.h.NoLimit
  lab : ∀ k, 0 < (C.l k).length ∧ (C.l k).length ≤ 20
  asc : ∀ k, k < 6 → ∃ r, (C.l k).cps.toList = (97 + k) :: r ∧ ∀ c ∈ r, c < 128
theorem AOk.in1 {D U : Nat} {A : Around} (h : AOk D U A) : AOk D (U + 1) A.in1 := ⟨h.hd, h.dp, Nat.succ_le_succ h.un, h.gd, h.fr⟩
theorem AOk.mono {D U D' U' : Nat} {A : Around} (h : AOk D U A) (hD : D ≤ D') (hU : U ≤ U') : AOk D' U' A := ⟨h.hd, Nat.le_trans h.dp hD, Nat.le_trans h.un hU, h.gd, h.fr⟩
theorem AOk.deeper {D U : Nat} {A : Around} (h : AOk D U A) (env : Env) : AOk (D + 1) (U + 3) (A.deeper env) :=
  ⟨h.hd, Nat.succ_le_succ h.dp, Nat.add_le_add_right h.un 3, h.gd, let ⟨fr, e⟩ := h.fr; ⟨env :: fr, by show A.frames.map _ = _; rw [e]; rfl⟩⟩
section
variable {C : Cx} {D U : Nat}
end
/-- an environment by the address of its names -/
structure FE where
  env : Addr → Env
  ok : List Addr → Prop
  mono : ∀ {μ μ' : List Addr}, μ <+: μ' → ok μ → ok μ'
  tag : Nat
  fn : ∀ L, (env L).scope.kind = .function
  loc : ∀ L, (env L).locals = L
  glb : ∀ L, (env L).globals = mainGlobals
  blt : ∀ L, (env L).builtins = builtinsNs
  knd : ∀ L x, x ∈ tabN tag → (env L).kindOf x = some .local
  nd : (tabN tag).Nodup
noncomputable def SE (C : Cx) (D U : Nat) (Γ : FE) (e : Expr) (f : Nat → M V) : Prop := ∀ l L μ, Γ.ok μ → μ[l]? = some L → Snd C D U (RV C) (eval e (Γ.env L)) (f l) μ
noncomputable def BR (_ : List Addr) (b b' : Bool) : Prop := b = b'
noncomputable def STt (C : Cx) (D U : Nat) (Γ : FE) (e : Expr) (f : Nat → M Bool) : Prop := ∀ l L μ, Γ.ok μ → μ[l]? = some L → Snd C D U BR (isTrue e (Γ.env L) (eval e (Γ.env L))) (f l) μ
noncomputable def SEs (C : Cx) (D U : Nat) (Γ : FE) (es : List Expr) (f : Nat → M (List V)) : Prop := ∀ l L μ pos, Γ.ok μ → μ[l]? = some L → Snd C D U (RVs C) (spliced (backTo pos (starEach es (Γ.env L)))) (f l) μ
inductive VF where
  | next | brk | cont | ret (v : V)
inductive FR (C : Cx) (μ : List Addr) : VF → Flow → Prop
  | next : FR C μ .next .next
  | brk : FR C μ .brk .brk
  | cont : FR C μ .cont .cont
  | ret {v : V} {w : Value} (h : RV C μ v w) : FR C μ (.ret v) (.ret w)
noncomputable def SX (C : Cx) (D U : Nat) (Γ : FE) (st : Stmt) (f : Nat → M VF) : Prop := ∀ l L μ, Γ.ok μ → μ[l]? = some L → Snd C D U (FR C) (exec st (Γ.env L)) (f l) μ
noncomputable def SXs (C : Cx) (D U : Nat) (Γ : FE) (st : List Stmt) (f : Nat → M VF) : Prop := ∀ l L μ, Γ.ok μ → μ[l]? = some L → Snd C D U (FR C) (execs st (Γ.env L)) (f l) μ
section
variable {C : Cx} {D U : Nat} {Γ : FE}
theorem SXs_nil : SXs C D U Γ [] (fun _ => ret .next) := fun l L μ hok hl A hA σ s r b σ' e Q E k => by
  (first | (have q := qc e q) | (have q := qcB e q) | cases e)
  exact wpAny_execs_nil (k μ s .next (List.prefix_refl _) r .next)
theorem SXs_cons {st : Stmt} {rest : List Stmt} {f g : Nat → M VF} (hf : SX C D U Γ st f) (hg : SXs C D U Γ rest g) :
    SXs C D U Γ (st :: rest) (fun l => bnd (f l) fun x => match x with | .next => g l | y => ret y) := fun l L μ hok hl A hA σ s r b σ' e Q E k => by
  obtain ⟨x, σ₁, e1, e2⟩ := bnd_some e
  refine wpAny_execs_cons (hf l L μ hok hl A hA σ s r x σ₁ e1 _ E fun μ' s' a hp r' ha => ?_)
  induction ha with
  | next => exact hg l L μ' (Γ.mono hp hok) (mu_ext hp hl) A hA σ₁ s' r' b σ' e2 Q E fun μ'' s'' a' hp' => k μ'' s'' a' (List.IsPrefix.trans hp hp')
  | brk => cases e2; exact k μ' s' .brk hp r' .brk
  | cont => cases e2; exact k μ' s' .cont hp r' .cont
  | ret h => cases e2; exact k μ' s' _ hp r' (.ret h)
theorem SX_ret {e : Expr} {pos : Pos} {f : Nat → M V} (h : SE C D U Γ e f) : SX C D U Γ (.Return (some e) pos) (fun l => bnd (f l) fun v => ret (.ret v)) := fun l L μ hok hl A hA σ s r b σ' e Q E k => by
  obtain ⟨x, σ₁, e1, e2⟩ := bnd_some e
  cases e2
  exact wpAny_Return_some (h l L μ hok hl A hA σ s r x _ e1 _ E fun μ' s' a hp r' ha => k μ' s' _ hp r' (.ret ha))
theorem SX_if {t : Expr} {body orelse : List Stmt} {pos : Pos} {f : Nat → M Bool} {g g' : Nat → M VF} (ht : STt C D U Γ t f) (h1 : SXs C D U Γ body g) (h2 : SXs C D U Γ orelse g') :
    SX C D U Γ (.If t body orelse pos) (fun l => bnd (f l) fun b => match b with | true => g l | false => g' l) := fun l L μ hok hl A hA σ s r b σ' e Q E k => by
  obtain ⟨x, σ₁, e1, e2⟩ := bnd_some e
  refine wpAny_If (ht l L μ hok hl A hA σ s r x σ₁ e1 _ E fun μ' s' a hp r' ha => ?_)
  cases ha
  cases x with
  | true => exact h1 l L μ' (Γ.mono hp hok) (mu_ext hp hl) A hA σ₁ s' r' b σ' e2 Q E fun μ'' s'' a' hp' => k μ'' s'' a' (List.IsPrefix.trans hp hp')
  | false => exact h2 l L μ' (Γ.mono hp hok) (mu_ext hp hl) A hA σ₁ s' r' b σ' e2 Q E fun μ'' s'' a' hp' => k μ'' s'' a' (List.IsPrefix.trans hp hp')
theorem SX_expr {e : Expr} {pos : Pos} {f : Nat → M V} (h : SE C D U Γ e f) (hi : ∀ L, interactive (Γ.env L) = false) (hs : autoParam (∀ L, swapsWith e none pos.line (Γ.env L) = pure false) au1._auto_1) :
    SX C D U Γ (.Expr e pos) (fun l => bnd (f l) fun _ => ret .next) := fun l L μ hok hl A hA σ s r b σ' e Q E k => by
  obtain ⟨x, σ₁, e1, e2⟩ := bnd_some e
  cases e2
  exact wpAny_Expr_any (h l L μ hok hl A hA σ s r x _ e1 _ E fun μ' s' a hp r' ha => k μ' s' _ hp r' .next) (hi L) (hs L)
/-! constants -/
theorem SE_none {k : Nat} {pos : Pos} : SE C D U Γ (.Constant .none k pos) (fun _ => ret .none) := fun l L μ hok hl A hA σ s r b σ' e Q E q => by
  cases e; exact wpAny_Constant_none (q μ s _ (List.prefix_refl _) r .none)
theorem SE_bool {b : Bool} {k : Nat} {pos : Pos} : SE C D U Γ (.Constant (.bool b) k pos) (fun _ => ret (.bool b)) := fun l L μ hok hl A hA σ s r b σ' e Q E q => by
  cases e; exact wpAny_pure (q μ s _ (List.prefix_refl _) r (.bool _))
theorem SE_int {i : Int} {k : Nat} {pos : Pos} : SE C D U Γ (.Constant (.int i) k pos) (fun _ => ret (.int i)) := fun l L μ hok hl A hA σ s r b σ' e Q E q => by
  cases e; exact wpAny_Constant_int (q μ _ _ (List.prefix_refl _) (r.toks s.heap s.gens _ _ rfl rfl) (.int i _))
theorem Cx_str_chs (C : Cx) : ∀ l : List Nat, C.str (l.map .ch) = ⟨l.toArray⟩
  | [] => rfl
  | a :: l => by
    show (⟨#[a]⟩ : Str) ++ C.str (l.map .ch) = _
    refine rwG (Cx_str_chs C l) ?_
    exact Str.ext' (by simp [Str.cps_append])
theorem SE_str {x : Str} {y : List Nat} {k : Nat} {pos : Pos} (hx : x = ⟨y.toArray⟩) : SE C D U Γ (.Constant (.str x) k pos) (fun _ => ret (.str (y.map .ch))) := fun l L μ hok hl A hA σ s r b σ' e Q E q => by
  (first | (have q := qc e q) | (have q := qcB e q) | cases e)
  refine wpAny_Constant_str (q μ _ _ (List.prefix_refl _) (r.toks s.heap s.gens _ _ rfl rfl) ?_)
  refine rwG (hx) ?_; refine rwH (Cx_str_chs C y) ?_
  exact .str _ _
/-! names -/
noncomputable def locGet (tag i l : Nat) : M V := fun σ => match σ.get l with
  | some (.fr t vs) => match Nat.beq t tag with
    | true => match vs[i]? with
      | some (some v) => some (v, σ)
      | _ => none
    | false => none
  | _ => none
noncomputable def locSet (tag i l : Nat) (v : V) : M Unit := fun σ => match Nat.blt σ.n 60001 with
  | true => match σ.get l with
    | some (.fr t vs) => match Nat.beq t tag with
      | true => match vs[i]? with
        | some _ => some ((), σ.put l (.fr t (vs.set i (some v))))
        | none => none
      | false => none
    | _ => none
  | false => none
end
end
end Mine
set_option genSizeOf false
set_option genInjectivity false
namespace Mine
noncomputable section
open PySem PySem.W PyProof.Rows PySem.Calls
noncomputable def p0 : Params := { strHash := fun _ => 0, shareClass := fun _ => 0, mergeTok := id, idOf := fun _ => 0, idOfShared := fun _ _ => 0, followText := fun _ => false, idOfImm := fun _ => 0 }
noncomputable def fdOf (f : Addr) : FuncData := match (Hd.kheap p0).lookup f with
  | some ⟨_, _, .func fd, _⟩ => fd
  | _ => default
noncomputable def bodyOf (f : Addr) : List Stmt := match (fdOf f).body with
  | .stmts b => b
  | _ => []
section
variable {C : Cx} {μ : List Addr} {names : List Str} {vs : List (Option V)} {m : Str → Option Value}
theorem MR.get (h : MR C μ names vs m) {i : Nat} {x : Str} {v : V} (hx : names[i]? = some x) (hv : vs[i]? = some (some v)) : ∃ w, m x = some w ∧ RV C μ v w := by
  have := h i x hx
  rw [hv] at this
  generalize m x = y at this
  cases this with
  | some r => exact ⟨_, rfl, r⟩
theorem MR.set (h : MR C μ names vs m) (hn : names.Nodup) (hl : vs.length = names.length) {i : Nat} {x : Str} {v : V} {w : Value} (hx : names[i]? = some x) (r : RV C μ v w) :
    MR C μ names (vs.set i (some v)) (fun y => if y = x then some w else m y) := by
  intro j y hy
  obtain ⟨hi1, hi2⟩ := List.getElem?_eq_some_iff.mp hx
  obtain ⟨hj1, hj2⟩ := List.getElem?_eq_some_iff.mp hy
  by_cases e : i = j
  · subst e
    have : y = x := by rw [← hi2, ← hj2]
    subst this
    refine rwG (List.getElem?_set_self (by omega)) ?_
    show RQ C μ (some v) (if y = y then some w else m y)
    refine rwG (if_pos rfl) ?_
    exact .some r
  · refine rwG (List.getElem?_set_ne e) ?_
    have : ¬ (y = x) := by
      intro z
      subst z
      rcases Nat.lt_trichotomy i j with q | q | q
      · exact (List.pairwise_iff_getElem.mp hn) i j hi1 hj1 q (hi2.trans hj2.symm)
      · exact e q
      · exact (List.pairwise_iff_getElem.mp hn) j i hj1 hi1 q (hj2.trans hi2.symm)
    show RQ C μ _ (if y = x then some w else m y)
    refine rwG (if_neg this) ?_
    exact h j y hy
end
section
variable {C : Cx} {D U : Nat} {Γ : FE}
theorem Rel.at (r : Rel C μ σ s) {i : Nat} {vo : VO} {a : Addr} (e : σ.get i = some vo) (ha : μ[i]? = some a) (lv : autoParam (live vo = true) au2._auto_1) : ∃ o, s.heap.get? a = some o ∧ OR C μ o vo := by
  obtain ⟨b, o, e1, e2, e3, _⟩ := r.obj i vo e lv
  rw [ha] at e1
  cases e1
  exact ⟨o, e2, e3⟩
theorem Rel.at_e (r : Rel C μ σ s) {i : Nat} {vo : VO} {a : Addr} {p : Prop} (e : σ.get i = some vo) (ha : μ[i]? = some a) (k : ∀ o, s.heap.get? a = some o → OR C μ o vo → p) (lv : autoParam (live vo = true) au2._auto_1) : p :=
  let ⟨o, h1, h2⟩ := r.at e ha lv
  k o h1 h2
theorem ns_of {μ : List Addr} {h : Heap} {a : Addr} {o : Obj} {tag : Nat} {vs : List (Option V)} (ho : h.get? a = some o) (r : OR C μ o (.fr tag vs)) : ∃ m, h.Ns a m ∧ vs.length = (tabN tag).length ∧ MR C μ (tabN tag) vs m := by
  obtain ⟨es, ep, m, e1, e2, e3, e4, e5⟩ := r
  exact ⟨m, ⟨o, es, ep, ho, e1, e2, e3⟩, e4, e5⟩
theorem ns_to {μ : List Addr} {h : Heap} {a : Addr} {tag : Nat} {vs : List (Option V)} {m : Str → Option Value} (hn : h.Ns a m) (hl : vs.length = (tabN tag).length) (hm : MR C μ (tabN tag) vs m) : ∃ o, h.get? a = some o ∧ OR C μ o (.fr tag vs) := by
  obtain ⟨o, es, ep, ho, e1, e2, e3⟩ := hn
  exact ⟨o, ho, es, ep, m, e1, e2, e3, hl, hm⟩
theorem locGet_some {tag i l : Nat} {σ : St} {r : V × St} (h : locGet tag i l σ = some r) : ∃ vs, σ.get l = some (.fr tag vs) ∧ vs[i]? = some (some r.1) ∧ r.2 = σ := by
  unfold locGet at h
  split at h
  · rename_i t vs e
    split at h
    · rename_i q
      have := Nat.eq_of_beq_eq_true q
      subst this
      split at h
      · rename_i v e'
        cases h
        exact ⟨vs, e, e', rfl⟩
      · (first | exact nn h | cases h)
    · (first | exact nn h | cases h)
  · (first | exact nn h | cases h)
theorem locSet_some {tag i l : Nat} {v : V} {σ : St} {r : Unit × St} (h : locSet tag i l v σ = some r) : ∃ vs, σ.n < 60001 ∧ σ.get l = some (.fr tag vs) ∧ i < vs.length ∧ r.2 = σ.put l (.fr tag (vs.set i (some v))) := by
  unfold locSet at h
  split at h
  · rename_i hb
    have hn : σ.n < 60001 := Nat.le_of_ble_eq_true hb
    split at h
    · rename_i t vs e
      split at h
      · rename_i q
        have := Nat.eq_of_beq_eq_true q
        subst this
        split at h
        · rename_i v e'
          cases h
          exact ⟨vs, hn, e, (List.getElem?_eq_some_iff.mp e').1, rfl⟩
        · (first | exact nn h | cases h)
      · (first | exact nn h | cases h)
    · (first | exact nn h | cases h)
  · (first | exact nn h | cases h)
theorem SE_loc {x : Str} {pos : Pos} (i : Nat) (hi : (tabN Γ.tag)[i]? = some x) (hd : (x == ("__debug__" : Str)) = false) : SE C D U Γ (.Name x pos) (locGet Γ.tag i) :=
  fun l L μ hok hl A hA σ s r b σ' e Q E q => by
  obtain ⟨vs, e1, e2, e3⟩ := locGet_some e
  simp only at e2 e3
  subst e3
  obtain ⟨o, ho, hr⟩ := r.at e1 hl
  obtain ⟨m, hn, _, hm⟩ := ns_of ho hr
  obtain ⟨w, hw, rv⟩ := hm.get hi e2
  refine wpAny_Name (wpAny_loadName_local (Γ.fn L) (Γ.knd L x (List.mem_of_getElem? hi)) (m := m) (v := w) ?_ hw (q μ s w (List.prefix_refl _) r rv)) hd
  rw [Γ.loc L]; exact hn
theorem store_loc {x : Str} {i : Nat} (hi : (tabN Γ.tag)[i]? = some x) {l : Nat} {L : Addr} {μ : List Addr} (hl : μ[l]? = some L) {v : V} {w : Value} (rv : RV C μ v w) :
    Snd C D U (fun _ _ _ => True) (storeName (Γ.env L) x w) (locSet Γ.tag i l v) μ := fun A hA σ s r b σ' e Q E q => by
  obtain ⟨vs, hn0, e1, e2, e3⟩ := locSet_some e
  simp only at e3
  subst e3
  obtain ⟨o, ho, hr⟩ := r.at e1 hl
  obtain ⟨m, hn, hlen, hm⟩ := ns_of ho hr
  have hloc := Γ.loc L
  refine wpAny_storeName_local (Γ.knd L x (List.mem_of_getElem? hi)) (m := m) (by rw [hloc]; exact hn) (fun h' hn' hs' => ?_) (by rw [Γ.fn L]; rfl)
  rw [hloc] at hn' hs'
  obtain ⟨o', ho', hr'⟩ := ns_to (C := C) (μ := μ) (tag := Γ.tag) (vs := vs.set i (some v)) hn' (by rw [List.length_set]; exact hlen) (hm.set Γ.nd hlen hi rv)
  exact q μ _ () (List.prefix_refl _) (r.put e1 rfl hl hn0 hs'.extBut fun _ => ⟨o', ho', hr'⟩) trivial
theorem SX_assign {x : Str} {pos' pos : Pos} {e : Expr} {f : Nat → M V} (i : Nat) (h : SE C D U Γ e f) (hi : (tabN Γ.tag)[i]? = some x)
    (hs : autoParam (∀ L, swapsWith e (some (.Name x pos')) pos.line (Γ.env L) = pure false) au1._auto_1) : SX C D U Γ (.Assign [.Name x pos'] e pos) (fun l => bnd (f l) fun v => bnd (locSet Γ.tag i l v) fun _ => ret .next) :=
  fun l L μ hok hl A hA σ s r b σ' e Q E q => by
  obtain ⟨v, σ₁, e1, e2⟩ := bnd_some e
  obtain ⟨_, σ₂, e3, e4⟩ := bnd_some e2
  cases e4
  refine wpAny_Assign_Name (h l L μ hok hl A hA σ s r v σ₁ e1 _ E fun μ' s' w hp r' rv => ?_) (hs L)
  exact store_loc hi (mu_ext hp hl) rv A hA σ₁ s' r' () _ e3 _ E fun μ'' s'' _ hp' r'' _ => q μ'' s'' .next (List.IsPrefix.trans hp hp') r'' .next
theorem asg_name {x : Str} {pos : Pos} {i : Nat} (hi : (tabN Γ.tag)[i]? = some x) {l : Nat} {L : Addr} {μ : List Addr} (hl : μ[l]? = some L) {v : V} {w : Value} (rv : RV C μ v w) :
    Snd C D U (fun _ _ _ => True) (assign (.Name x pos) (Γ.env L) w) (locSet Γ.tag i l v) μ := fun A hA σ s r b σ' e Q E q =>
  wpAny_assign_Name (store_loc hi hl rv A hA σ s r b σ' e Q E q)
/-! lists of arguments -/
theorem SEs_nil : SEs C D U Γ [] (fun _ => ret []) := fun l L μ pos hok hl A hA σ s r b σ' e Q E q => by
  (first | (have q := qc e q) | (have q := qcB e q) | cases e)
  exact spliced_nil (q μ s [] (List.prefix_refl _) r .nil)
theorem SEs_cons {e : Expr} {es : List Expr} {f : Nat → M V} {g : Nat → M (List V)} (h : SE C D U Γ e f) (h2 : SEs C D U Γ es g) (hst : autoParam (∀ env, starEach (e :: es) env = (false, eval e env) :: starEach es env) au1._auto_1) :
    SEs C D U Γ (e :: es) (fun l => bnd (f l) fun v => bnd (g l) fun vs => ret (v :: vs)) := fun l L μ pos hok hl A hA σ s r b σ' e Q E q => by
  obtain ⟨v, σ₁, e1, e2⟩ := bnd_some e
  obtain ⟨vs, σ₂, e3, e4⟩ := bnd_some e2
  cases e4
  rw [hst]
  refine spliced_cons (h l L μ hok hl A hA σ s r v σ₁ e1 _ E fun μ' s' w hp r' rv => ?_)
  exact h2 l L μ' pos (Γ.mono hp hok) (mu_ext hp hl) A hA σ₁ s' r' vs _ e3 _ E fun μ'' s'' ws hp' r'' rvs => q μ'' s'' _ (List.IsPrefix.trans hp hp') r'' (.cons (rv.ext hp') rvs)
/-! calls of the text's defs -/
noncomputable def SFn (C : Cx) (D U : Nat) (f : Addr) (fn : List V → M V) : Prop := ∀ vs ws μ, RVs C μ vs ws → Snd C D U (RV C) (call (.ref f) ws) (fn vs) μ
theorem Rel.K (ok : CxOk C) {μ : List Addr} {σ : St} {s : Shared} (r : Rel C μ σ s) : (KF C.w.params).In s.heap := ok.K.keeps r.old
end
end
end Mine
set_option genSizeOf false
set_option genInjectivity false
namespace Mine
noncomputable section
open PySem PySem.W PyProof.Rows PySem.Calls
section
variable {C : Cx} {D U : Nat} {Γ : FE}
/-! while -/
noncomputable def whileM (t : M Bool) (body : M VF) : Nat → M VF
  | 0 => no
  | n + 1 => bnd t fun b => match b with
    | false => ret .next
    | true => bnd body fun fl => match fl with
      | .next => whileM t body n
      | .cont => whileM t body n
      | .brk => ret .next
      | .ret v => ret (.ret v)
theorem SX_while {t : Expr} {body : List Stmt} {pos : Pos} {f : Nat → M Bool} {g : Nat → M VF} (n : Nat) (ht : STt C D U Γ t f) (hb : SXs C D U Γ body g) :
    SX C D U Γ (.While t body [] pos) (fun l => whileM (f l) (g l) n) := fun l L μ hok hl A hA σ s r b σ' e Q E q => by
  refine wpAny_While ?_
  refine codeAny_whileLoop (I := fun n s => ∃ μ₁ σ₁, μ <+: μ₁ ∧ Rel C μ₁ σ₁ s ∧ whileM (f l) (g l) n σ₁ = some (b, σ')) (fun n s hI => ?_) n ⟨μ, σ, List.prefix_refl _, r, e⟩
  obtain ⟨μ₁, σ₁, hp, r₁, e₁⟩ := hI
  cases n with
  | zero => (first | exact nn e₁ | cases e₁)
  | succ n =>
    refine bnd_e e₁ fun c σ₂ e2 e3 => ?_
    refine ht l L μ₁ (Γ.mono hp hok) (mu_ext hp hl) A hA σ₁ s r₁ c σ₂ e2 _ _ fun μ₂ s₂ c' hp2 r₂ hc => ?_
    cases hc
    cases c with
    | false => cases e3; exact wpAny_execs_nil (q μ₂ s₂ .next (List.IsPrefix.trans hp hp2) r₂ .next)
    | true =>
      refine bnd_e e3 fun fl σ₃ e4 e5 => ?_
      refine hb l L μ₂ (Γ.mono (List.IsPrefix.trans hp hp2) hok) (mu_ext (List.IsPrefix.trans hp hp2) hl) A hA σ₂ s₂ r₂ fl σ₃ e4 _ _ fun μ₃ s₃ fl' hp3 r₃ hf => ?_
      have hp' := List.IsPrefix.trans (List.IsPrefix.trans hp hp2) hp3
      induction hf with
      | next => exact ⟨n, Nat.lt_succ_self _, μ₃, σ₃, hp', r₃, e5⟩
      | cont => exact ⟨n, Nat.lt_succ_self _, μ₃, σ₃, hp', r₃, e5⟩
      | brk => cases e5; exact q μ₃ s₃ .next hp' r₃ .next
      | ret h => cases e5; exact q μ₃ s₃ _ hp' r₃ (.ret h)
/-! iterators -/
noncomputable def chsOf : List At → Option (List Nat)
  | [] => some []
  | .ch c :: r => match chsOf r with
    | some t => some (c :: t)
    | none => none
  | .lab _ :: _ => none
theorem chsOf_map : ∀ {x : List At} {y : List Nat}, chsOf x = some y → x = y.map .ch
  | [], _, h => by cases h; rfl
  | .ch c :: r, y, h => by
    unfold chsOf at h
    split at h
    · rename_i t e
      (first | (have q := qc h q) | (have q := qcB h q) | cases h)
      rw [chsOf_map e]; rfl
    · (first | exact nn h | cases h)
  | .lab _ :: _, _, h => by cases h
noncomputable def iterM (v : V) : M V := fun σ => match v with
  | .ref n => match σ.get n with
    | some (.list _) => alloc (.lit n 0) σ
    | some (.tup _) => alloc (.tit n 0) σ
    | some (.rng a b c) => match PySem.Builtin.Range.small a b c with
      | true => alloc (.rit a (PySem.Builtin.Range.rangeSize a b c) c) σ
      | false => none
    | _ => none
  | .str x => match chsOf x with
    | some cs => match cs.all (fun c => Nat.blt c 128) with
      | true => alloc (.sit cs 0) σ
      | false => none
    | none => none
  | _ => none
noncomputable def nextM (v : V) : M (Option V) := fun σ => match Nat.blt σ.n 60001 with
  | false => none
  | true => match v with
    | .ref n => match σ.get n with
      | some (.lit s i) => match σ.get s with
        | some (.list xs) => match xs[i]? with
          | some x => some (some x, σ.put n (.lit s (i + 1)))
          | none => some (none, σ.put n .junk)
        | _ => none
      | some (.tit s i) => match σ.get s with
        | some (.tup xs) => match xs[i]? with
          | some x => some (some x, σ.put n (.tit s (i + 1)))
          | none => some (none, σ.put n .junk)
        | _ => none
      | some (.rit x l st) => match decide (0 < l) with
        | true => some (some (.int x), σ.put n (.rit (x + st) (l - 1) st))
        | false => some (none, σ.put n .junk)
      | some (.sit x i) => match x[i]? with
        | some c => some (some (.str [.ch c]), σ.put n (.sit x (i + 1)))
        | none => some (none, σ.put n .junk)
      | _ => none
    | _ => none
noncomputable def ownM (v : V) : M Unit := fun σ => match v with
  | .ref n => match σ.get n with
    | some (.lit _ _) => some ((), σ)
    | some (.tit _ _) => some ((), σ)
    | some (.rit _ _ _) => some ((), σ)
    | some (.sit _ _) => some ((), σ)
    | _ => none
  | _ => none
theorem alloc_some {o : VO} {σ : St} {r : V × St} (h : alloc o σ = some r) : σ.n < 60000 ∧ r.1 = .ref σ.n ∧ r.2 = σ.add o := by
  unfold alloc at h
  split at h
  · rename_i hb
    (first | (have q := qc h q) | (have q := qcB h q) | cases h)
    exact ⟨Nat.le_of_ble_eq_true hb, rfl, rfl⟩
  · (first | exact nn h | cases h)
theorem ref_new {C : Cx} {μ : List Addr} {σ : St} {s : Shared} (r : Rel C μ σ s) : RV C (μ ++ [s.heap.objs.size]) (.ref σ.n) (.ref s.heap.objs.size) := .ref _ _ (by rw [← r.len]; simp)
theorem list_of {μ : List Addr} {h : Heap} {a : Addr} {o : Obj} {xs : List V} (ho : h.get? a = some o) (r : OR C μ o (.list xs)) : ∃ ws, h.IsList a ws ∧ RVs C μ xs ws.toList := by
  obtain ⟨ws, n, e, rv⟩ := r
  exact ⟨ws, ⟨o, ho, by rw [e], n, by rw [e]⟩, rv⟩
theorem tup_of {μ : List Addr} {h : Heap} {a : Addr} {o : Obj} {xs : List V} (ho : h.get? a = some o) (r : OR C μ o (.tup xs)) : ∃ ws, h.IsTuple a ws ∧ RVs C μ xs ws.toList := by
  obtain ⟨ws, n, e, rv⟩ := r
  exact ⟨ws, ⟨o, ho, by rw [e], n, by rw [e]⟩, rv⟩
theorem iter_snd {μ : List Addr} {v : V} {w : Value} (rv : RV C μ v w) : Snd C D U (RV C) (pyIter w) (iterM v) μ := fun A hA σ s r b σ' e Q E q => by
  unfold iterM at e
  induction rv with
  | ref n a hn =>
    simp only at e
    split at e
    · rename_i xs e1
      refine Rel.at_e r e1 hn (fun o ho hr => ?_)
      obtain ⟨ws, hl, _⟩ := list_of ho hr
      obtain ⟨hz, e2, e3⟩ := alloc_some e
      simp only at e2 e3
      subst e2 e3
      refine wpAny_pyIter_list hl (q _ _ _ (List.prefix_append _ _) (r.alloc rfl hz ?_) (ref_new r))
      exact ⟨a, mu_ext (List.prefix_append _ _) hn, rfl, rfl⟩
    · rename_i xs e1
      refine Rel.at_e r e1 hn (fun o ho hr => ?_)
      obtain ⟨ws, hl, _⟩ := tup_of ho hr
      obtain ⟨hz, e2, e3⟩ := alloc_some e
      simp only at e2 e3
      subst e2 e3
      refine wpAny_pyIter_tuple hl (q _ _ _ (List.prefix_append _ _) (r.alloc rfl hz ?_) (ref_new r))
      exact ⟨a, mu_ext (List.prefix_append _ _) hn, rfl, rfl⟩
    · rename_i x y z e1
      split at e
      · rename_i hsm
        refine Rel.at_e r e1 hn (fun o ho hzz => ?_); obtain ⟨t, u, v, hr⟩ := hzz
        subst hr
        obtain ⟨hz, e2, e3⟩ := alloc_some e
        simp only at e2 e3
        subst e2 e3
        exact wpAny_pyIter_range ho hsm (q _ _ _ (List.prefix_append _ _) (r.alloc rfl hz rfl) (ref_new r))
      · (first | exact nn e | cases e)
    · (first | exact nn e | cases e)
  | str x t =>
    simp only at e
    split at e
    · rename_i cs hcs
      split at e
      · rename_i hall
        obtain ⟨hz, e2, e3⟩ := alloc_some e
        simp only at e2 e3
        subst e2 e3
        have hx := chsOf_map hcs
        subst hx
        rw [Cx_str_chs]
        refine wpAny_pyIter_ascii (x := ⟨cs.toArray⟩) ?_ (q _ _ _ (List.prefix_append _ _) (r.alloc rfl hz ⟨t, rfl, rfl⟩) (ref_new r))
        rw [← Array.all_toList, List.all_eq_true]
        intro c hc
        have := Nat.le_of_ble_eq_true (List.all_eq_true.mp hall c hc)
        simp; omega
      · (first | exact nn e | cases e)
    · (first | exact nn e | cases e)
  | _ => (first | exact nn e | cases e)
theorem next_snd {μ : List Addr} {v : V} {w : Value} (rv : RV C μ v w) : Snd C D U (RO C) (pyNext w) (nextM v) μ := fun A hA σ s r b σ' e Q E q => by
  unfold nextM at e
  split at e
  · (first | exact nn e | cases e)
  rename_i hb
  have hz : σ.n < 60001 := Nat.le_of_ble_eq_true hb
  induction rv with
  | ref n a hn =>
    simp only at e
    split at e
    · rename_i src i e1
      refine Rel.at_e r e1 hn (fun o ho hzz => ?_); obtain ⟨b', hsrc, hc, hd⟩ := hzz
      split at e
      · rename_i xs e2
        refine Rel.at_e r e2 hsrc (fun o2 ho2 hr2 => ?_)
        obtain ⟨ws, hl, rvs⟩ := list_of ho2 hr2
        have hit : s.heap.IsListIter a b' i := ⟨o, ho, hc, hd⟩
        split at e
        · rename_i x hx
          obtain ⟨y, hy, rv⟩ := rvs.get hx
          (first | (have q := qc e q) | (have q := qcB e q) | cases e)
          refine wpAny_pyNext_list_item hit hl (x := y) (by rw [← Array.getElem?_toList]; exact hy) fun h' hit' hs => ?_
          obtain ⟨o', ho', hc', hd'⟩ := hit'
          exact q μ _ _ (List.prefix_refl _) (r.put e1 rfl hn hz hs.extBut fun _ => ⟨o', ho', b', hsrc, hc', hd'⟩) (.some rv)
        · rename_i hx
          (first | (have q := qc e q) | (have q := qcB e q) | cases e)
          have hy := rvs.get_none hx
          refine wpAny_pyNext_list_end hA.hd hit hl (by rw [← Array.getElem?_toList]; exact hy) fun h' hs => ?_
          exact q μ _ _ (List.prefix_refl _) (r.put e1 rfl hn hz hs fun l => by cases l) .none
      · (first | exact nn e | cases e)
    · rename_i src i e1
      refine Rel.at_e r e1 hn (fun o ho hzz => ?_); obtain ⟨b', hsrc, hc, hd⟩ := hzz
      split at e
      · rename_i xs e2
        refine Rel.at_e r e2 hsrc (fun o2 ho2 hr2 => ?_)
        obtain ⟨ws, hl, rvs⟩ := tup_of ho2 hr2
        have hit : s.heap.IsTupleIter a b' i := ⟨o, ho, hc, hd⟩
        split at e
        · rename_i x hx
          obtain ⟨y, hy, rv⟩ := rvs.get hx
          (first | (have q := qc e q) | (have q := qcB e q) | cases e)
          refine wpAny_pyNext_tuple_item hit hl (x := y) (by rw [← Array.getElem?_toList]; exact hy) fun h' hit' hs => ?_
          obtain ⟨o', ho', hc', hd'⟩ := hit'
          exact q μ _ _ (List.prefix_refl _) (r.put e1 rfl hn hz hs.extBut fun _ => ⟨o', ho', b', hsrc, hc', hd'⟩) (.some rv)
        · rename_i hx
          (first | (have q := qc e q) | (have q := qcB e q) | cases e)
          have hy := rvs.get_none hx
          refine wpAny_pyNext_tuple_end hA.hd hit hl (by rw [← Array.getElem?_toList]; exact hy) fun h' hs => ?_
          exact q μ _ _ (List.prefix_refl _) (r.put e1 rfl hn hz hs fun l => by cases l) .none
      · (first | exact nn e | cases e)
    · rename_i x lf st e1
      refine Rel.at_e r e1 hn (fun o ho hr => ?_)
      have hit : IsRangeIter s.heap a x lf st := by rw [IsRangeIter, ho]; exact congrArg some hr
      split at e
      · rename_i hlt
        (first | (have q := qc e q) | (have q := qcB e q) | cases e)
        refine wpAny_pyNext_range_item hit (of_decide_eq_true hlt) fun h' hit' hs => ?_
        exact q μ _ _ (List.prefix_refl _) (r.put e1 rfl hn hz hs.extBut fun _ => ⟨_, hit', rfl⟩) (.some (.int _ _))
      · rename_i hlt
        (first | (have q := qc e q) | (have q := qcB e q) | cases e)
        have hge : lf ≤ 0 := by have := of_decide_eq_false hlt; omega
        refine wpAny_pyNext_range_end hA.hd hit hge fun h' hs => ?_
        exact q μ _ _ (List.prefix_refl _) (r.put e1 rfl hn hz hs fun l => by cases l) .none
    · rename_i x i e1
      refine Rel.at_e r e1 hn (fun o ho hzz => ?_); obtain ⟨t, hc, hd⟩ := hzz
      have hit : s.heap.IsStrIter a "str_ascii_iterator" ⟨x.toArray⟩ t i := ⟨o, ho, hc, hd⟩
      split at e
      · rename_i c hx
        (first | (have q := qc e q) | (have q := qcB e q) | cases e)
        refine wpAny_pyNext_ascii_item hit (c := c) (by rw [← Array.getElem?_toList]; exact hx) fun h' hit' hs => ?_
        obtain ⟨o', ho', hc', hd'⟩ := hit'
        exact q μ _ _ (List.prefix_refl _) (r.put e1 rfl hn hz hs.extBut fun _ => ⟨o', ho', t, hc', hd'⟩) (.some (by
          have := RV.str (C := C) (μ := μ) [.ch c] s.toks
          rw [show C.str [.ch c] = (⟨#[c]⟩ : Str) from Cx_str_chs C [c]] at this
          exact this))
      · rename_i hx
        (first | (have q := qc e q) | (have q := qcB e q) | cases e)
        refine wpAny_pyNext_ascii_end hA.hd hit (by rw [← Array.getElem?_toList]; exact hx) fun h' hs => ?_
        exact q μ _ _ (List.prefix_refl _) (r.put e1 rfl hn hz hs fun l => by cases l) .none
    · (first | exact nn e | cases e)
  | _ => (first | exact nn e | cases e)
end
end
end Mine
set_option genSizeOf false
set_option genInjectivity false
namespace Mine
noncomputable section
open PySem PySem.W PyProof.Rows PySem.Calls
section
variable {C : Cx} {D U : Nat} {Γ : FE}
theorem go_own {M : Model} {A : Around} {E : Value → Shared → Prop} {s : Shared} {target : Expr} {r : Addr} {v : Value} {o : Obj} {n : String} {Q : Unit → Shared → Prop} (ho : s.heap.get? r = some o) (hc : o.cls = .type n)
    (hn : (["enumerate", "zip", "dict_itemiterator", "dict_reverseitemiterator", "odict_iterator", "itertools.zip_longest", "itertools.pairwise"] : List String).contains n = false) (h : Q () s) : wpAny M A (letOwnedTupleGo target (.ref r) v) Q E s := by
  have key : ∀ a, wpAny M A (do
      let o ← load r
      match o.cls, o.data with
      | .type n, .fields vs =>
        if (["enumerate", "zip", "dict_itemiterator", "dict_reverseitemiterator", "odict_iterator", "itertools.zip_longest", "itertools.pairwise"] : List String).contains n && vs[0]? == some (rawInt a) then
          rule "for.unpacks-the-owned-tuple"
          updateField r 0 .none
      | _, _ => pure ()) Q E s := fun a => by
    refine wpAny_bind (wpAny_load ho ?_)
    refine rwG (hc) ?_
    cases o.data with
    | fields vs => exact wite_n (by rw [hn, Bool.false_and]; exact Bool.false_ne_true) (wpAny_pure h)
    | _ => exact wpAny_pure h
  cases target <;> first | exact wpAny_pure h | (cases v <;> first | exact wpAny_pure h | exact key _)
theorem own_snd {target : Expr} {μ : List Addr} {v : V} {w : Value} (rv : RV C μ v w) (x : Value) : Snd C D U (fun _ _ _ => True) (letOwnedTupleGo target w x) (ownM v) μ := fun A hA σ s r b σ' e Q E q => by
  unfold ownM at e
  induction rv with
  | ref n a hn =>
    simp only at e
    split at e
    · rename_i src i e1
      refine Rel.at_e r e1 hn (fun o ho hzz => ?_); obtain ⟨b', hsrc, hc, hd⟩ := hzz
      (first | (have q := qc e q) | (have q := qcB e q) | cases e)
      exact go_own ho hc (by decide +kernel) (q μ s () (List.prefix_refl _) r trivial)
    · rename_i src i e1
      refine Rel.at_e r e1 hn (fun o ho hzz => ?_); obtain ⟨b', hsrc, hc, hd⟩ := hzz
      (first | (have q := qc e q) | (have q := qcB e q) | cases e)
      exact go_own ho hc (by decide +kernel) (q μ s () (List.prefix_refl _) r trivial)
    · rename_i x lf st e1
      refine Rel.at_e r e1 hn (fun o ho hr => ?_)
      (first | (have q := qc e q) | (have q := qcB e q) | cases e)
      exact go_own ho (by rw [hr]) (by decide +kernel) (q μ s () (List.prefix_refl _) r trivial)
    · rename_i x i e1
      refine Rel.at_e r e1 hn (fun o ho hzz => ?_); obtain ⟨t, hc, hd⟩ := hzz
      (first | (have q := qc e q) | (have q := qcB e q) | cases e)
      exact go_own ho hc (by decide +kernel) (q μ s () (List.prefix_refl _) r trivial)
    · (first | exact nn e | cases e)
  | _ => (first | exact nn e | cases e)
theorem codeAny_for {prog : Program} {w : World} {A : Around} {env : Env} {s : Shared} {R : Result → Shared → Prop} {target : Expr} {it : Value} {body : List Stmt} (I : Nat → Shared → Prop)
    (turn : ∀ n s, I n s → wpAny (model prog w) A (pyNext it) (fun r s₁ => match r with
      | none => R (.ok .next) s₁
      | some v => wpAny (model prog w) A (letOwnedTupleGo target it v) (fun _ s₀ => wpAny (model prog w) A (assign target env v) (fun _ s₂ => wpAny (model prog w) A (execs body env) (fun f s₃ => match f with
          | .next | .cont => ∃ m, m < n ∧ I m s₃
          | .brk => R (.ok .next) s₃
          | .ret v => R (.ok (.ret v)) s₃) (notedBy (model prog w) A env fun e s' => R (.error e) s') s₂) (notedBy (model prog w) A env fun e s' => R (.error e) s') s₀) (notedBy (model prog w) A env fun e s' => R (.error e) s') s₁) (notedBy (model prog w) A env fun e s' => R (.error e) s') s)
    (n : Nat) (h : I n s) : codeAny (model prog w) A (.forLoop target it body [] env) R s := by
  refine codeAny_loop' rfl I (fun n s hI => ?_) n h
  show wpAny _ _ ((forTurn target it body [] env).onRaise (fun x => do noteFrame x env; theTreesLotGoes x)) _ _ s
  refine wpAny_noted ?_
  simp only [forTurn]
  refine wpAny_bind (wpAny_standAt (wpAny_bind (wpAny_onRaise (wpAny_mono (turn n s hI) (fun r s₁ h₁ => ?_) fun _ _ h' => wpAny_standAt h'))))
  induction r with
  | none => exact wpAny_pure (.inr ⟨rfl, codeAny_block (wpAny_execs_nil h₁)⟩)
  | some v =>
    refine wpAny_bind (wpAny_mono h₁ (fun _ s₀ h₀ => ?_) fun _ _ h' => h')
    refine wpAny_bind (wpAny_mono h₀ (fun _ s₂ h₂ => wpAny_bind (wpAny_mono h₂ (fun f s₃ h₃ => ?_) fun _ _ h' => h')) fun _ _ h' => h')
    induction f with
    | next => exact wpAny_pure (.inl ⟨rfl, h₃⟩)
    | cont => exact wpAny_pure (.inl ⟨rfl, h₃⟩)
    | brk => exact wpAny_pure h₃
    | ret v => exact wpAny_pure h₃
noncomputable def forM' (nx : M (Option V)) (own : M Unit) (asg : V → M Unit) (body : M VF) : Nat → M VF
  | 0 => no
  | n + 1 => bnd nx fun r => match r with
    | none => ret .next
    | some v => bnd own fun _ => bnd (asg v) fun _ => bnd body fun fl => match fl with
      | .next => forM' nx own asg body n
      | .cont => forM' nx own asg body n
      | .brk => ret .next
      | .ret v => ret (.ret v)
/-- a target's assignment -/
noncomputable def SAsg (C : Cx) (D U : Nat) (Γ : FE) (t : Expr) (f : Nat → V → M Unit) : Prop := ∀ l L μ v w, Γ.ok μ → μ[l]? = some L → RV C μ v w → Snd C D U (fun _ _ _ => True) (assign t (Γ.env L) w) (f l v) μ
theorem for_snd {target : Expr} {body : List Stmt} {fa : Nat → V → M Unit} {g : Nat → M VF} (ha : SAsg C D U Γ target fa) (hb : SXs C D U Γ body g) {l : Nat} {L : Addr} {μ : List Addr} (hok : Γ.ok μ) (hl : μ[l]? = some L) {itv : V} {it : Value} (rv : RV C μ itv it)
    {A : Around} (hA : AOk D U A) (n : Nat) {σ : St} {s : Shared} (r : Rel C μ σ s) {b : VF} {σ' : St} (e : forM' (nextM itv) (ownM itv) (fa l) (g l) n σ = some (b, σ')) {R : Result → Shared → Prop}
    (q : ∀ μ' s' a, μ <+: μ' → Rel C μ' σ' s' → FR C μ' b a → R (.ok a) s') : codeAny (model P C.w) A (.forLoop target it body [] (Γ.env L)) R s := by
  refine codeAny_for (I := fun n s => ∃ μ₁ σ₁, μ <+: μ₁ ∧ Rel C μ₁ σ₁ s ∧ forM' (nextM itv) (ownM itv) (fa l) (g l) n σ₁ = some (b, σ')) (fun n s hI => ?_) n ⟨μ, σ, List.prefix_refl _, r, e⟩
  obtain ⟨μ₁, σ₁, hp, r₁, e₁⟩ := hI
  cases n with
  | zero => (first | exact nn e₁ | cases e₁)
  | succ n =>
    refine bnd_e e₁ fun c σ₂ e2 e3 => ?_
    refine next_snd (rv.ext hp) A hA σ₁ s r₁ c σ₂ e2 _ _ fun μ₂ s₂ c' hp2 r₂ hc => ?_
    have h2 := List.IsPrefix.trans hp hp2
    induction hc with
    | none => cases e3; exact q μ₂ s₂ .next h2 r₂ .next
    | @some v w rvv =>
      refine bnd_e e3 fun _ σ₃ e4 e5 => ?_
      refine bnd_e e5 fun _ σ₄ e6 e7 => ?_
      refine bnd_e e7 fun fl σ₅ e8 e9 => ?_
      refine own_snd (rv.ext h2) w A hA σ₂ s₂ r₂ () σ₃ e4 _ _ fun μ₃ s₃ _ hp3 r₃ _ => ?_
      have h3 := List.IsPrefix.trans h2 hp3
      refine ha l L μ₃ v w (Γ.mono h3 hok) (mu_ext h3 hl) (rvv.ext hp3) A hA σ₃ s₃ r₃ () σ₄ e6 _ _ fun μ₄ s₄ _ hp4 r₄ _ => ?_
      have h4 := List.IsPrefix.trans h3 hp4
      refine hb l L μ₄ (Γ.mono h4 hok) (mu_ext h4 hl) A hA σ₄ s₄ r₄ fl σ₅ e8 _ _ fun μ₅ s₅ fl' hp5 r₅ hf => ?_
      have h5 := List.IsPrefix.trans h4 hp5
      induction hf with
      | next => exact ⟨n, Nat.lt_succ_self _, μ₅, σ₅, h5, r₅, e9⟩
      | cont => exact ⟨n, Nat.lt_succ_self _, μ₅, σ₅, h5, r₅, e9⟩
      | brk => cases e9; exact q μ₅ s₅ .next h5 r₅ .next
      | ret h => cases e9; exact q μ₅ s₅ _ h5 r₅ (.ret h)
theorem SX_for {target iter : Expr} {body : List Stmt} {pos : Pos} {fi : Nat → M V} {fa : Nat → V → M Unit} {g : Nat → M VF} (n : Nat) (hi : SE C D U Γ iter fi) (ha : SAsg C D U Γ target fa) (hb : SXs C D U Γ body g)
    (hs : autoParam (∀ L x, foldedSetIterable iter (Γ.env L) x = pure x) au3._auto_1) :
    SX C D U Γ (.For target iter body [] pos) (fun l => bnd (fi l) fun v => bnd (iterM v) fun it => forM' (nextM it) (ownM it) (fa l) (g l) n) := fun l L μ hok hl A hA σ s r b σ' e Q E q => by
  refine bnd_e e fun v σ₁ e1 e2 => ?_
  refine bnd_e e2 fun it σ₂ e3 e4 => ?_
  refine wpAny_For (hi l L μ hok hl A hA σ s r v σ₁ e1 _ E fun μ₁ s₁ w hp1 r₁ rv => ?_) (hs L)
  refine iter_snd rv A hA σ₁ s₁ r₁ it σ₂ e3 _ E fun μ₂ s₂ wi hp2 r₂ rvi => ?_
  have h2 := List.IsPrefix.trans hp1 hp2
  exact for_snd ha hb (Γ.mono h2 hok) (mu_ext h2 hl) rvi hA n r₂ e4 fun μ' s' a hp => q μ' s' a (List.IsPrefix.trans h2 hp)
theorem SAsg_name {x : Str} {pos : Pos} (i : Nat) (hi : (tabN Γ.tag)[i]? = some x) : SAsg C D U Γ (.Name x pos) (fun l v => locSet Γ.tag i l v) :=
  fun _ _ _ _ _ _ hl rv => asg_name hi hl rv
/-! defs -/
theorem lookup_mem {l : List (Str × Value)} (hn : (l.map (·.1)).Nodup) {k : Str} {v : Value} (h : (k, v) ∈ l) : l.lookup k = some v := by
  induction l with
  | nil => (first | exact nn h | cases h)
  | cons p t ih =>
    obtain ⟨a, b⟩ := p
    rw [List.map_cons, List.nodup_cons] at hn
    rcases List.mem_cons.mp h with e | h
    · (first | exact nn e | cases e)
      simp [List.lookup]
    · have : ¬ (k = a) := fun z => hn.1 (z ▸ List.mem_map_of_mem (f := (·.1)) h)
      have hb : (k == a) = false := by simpa using this
      simp [List.lookup, hb, ih hn.2 h]
theorem lookup_not {l : List (Str × Value)} {k : Str} (h : k ∉ l.map (·.1)) : l.lookup k = none := by
  induction l with
  | nil => rfl
  | cons p t ih =>
    obtain ⟨a, b⟩ := p
    rw [List.map_cons, List.mem_cons] at h
    have hb : (k == a) = false := by simpa using fun z => h (.inl z)
    simp [List.lookup, hb, ih fun z => h (.inr z)]
theorem MR_binds {μ : List Addr} {names : List Str} (hn : names.Nodup) {vs : List V} {ws : List Value} (rv : RVs C μ vs ws) (hle : vs.length ≤ names.length) :
    MR C μ names (vs.map some ++ List.replicate (names.length - vs.length) none) (fun x => ((names.take vs.length).zip ws).reverse.lookup x) := by
  intro i x hx
  obtain ⟨hi, hxe⟩ := List.getElem?_eq_some_iff.mp hx
  have keys : (((names.take vs.length).zip ws).map (·.1)) = names.take vs.length := by
    rw [List.map_fst_zip]
    rw [rv.len, List.length_take]; omega
  have nd : (((names.take vs.length).zip ws).reverse.map (·.1)).Nodup := by
    refine rwG (List.map_reverse) ?_; refine rwG (keys) ?_
    exact List.pairwise_reverse.mpr ((hn.sublist (List.take_sublist _ _)).imp fun h => h.symm)
  by_cases h : i < vs.length
  · have e1 : (vs.map some ++ List.replicate (names.length - vs.length) none)[i]? = some (some vs[i]) := by
      refine rwG (List.getElem?_append_left (by simpa using h)) ?_
      simp [h]
    obtain ⟨y, hy, ry⟩ := rv.get (List.getElem?_eq_getElem h)
    refine rwG (e1) ?_
    have : ((names.take vs.length).zip ws).reverse.lookup x = some y := by
      refine lookup_mem nd (List.mem_reverse.mpr ?_)
      refine List.mem_of_getElem? (i := i) ?_
      rw [List.getElem?_zip_eq_some]
      exact ⟨by rw [List.getElem?_take_of_lt h]; exact hx, hy⟩
    show RQ C μ (some vs[i]) (List.lookup x _)
    refine rwG (this) ?_
    exact .some ry
  · have e1 : (vs.map some ++ List.replicate (names.length - vs.length) none)[i]?.getD none = (none : Option V) := by
      refine rwG (List.getElem?_append_right (by simpa using Nat.le_of_not_lt h)) ?_
      refine rwG (List.getElem?_replicate) ?_
      split <;> rfl
    refine rwG (e1) ?_
    have : ((names.take vs.length).zip ws).reverse.lookup x = none := by
      refine lookup_not ?_
      rw [List.map_reverse, keys, List.mem_reverse]
      intro hm
      obtain ⟨j, hj, hje⟩ := List.mem_iff_getElem.mp hm
      rw [List.getElem_take] at hje
      rw [List.length_take] at hj
      have hj2 : j < names.length := by omega
      have : j = i := by
        rcases Nat.lt_trichotomy j i with q | q | q
        · exact absurd (hje.trans hxe.symm) ((List.pairwise_iff_getElem.mp hn) j i hj2 hi q)
        · exact q
        · exact absurd (hxe.trans hje.symm) ((List.pairwise_iff_getElem.mp hn) i j hi hj2 q)
      omega
    show RQ C μ none (List.lookup x _)
    refine rwG (this) ?_
    exact .none
noncomputable def retOf : VF → V
  | .ret v => v
  | _ => .none
end
end
end Mine
set_option genSizeOf false
set_option genInjectivity false
namespace Mine
noncomputable section
open PySem PySem.W PyProof.Rows PySem.Calls
theorem Str_nil_append (x : Str) : (⟨#[]⟩ : Str) ++ x = x := Str.ext' (by rw [Str.cps_append]; simp)
theorem Str_append_assoc (x y z : Str) : (x ++ y) ++ z = x ++ (y ++ z) := Str.ext' (by simp [Str.cps_append, Array.append_assoc])
theorem Cx_str_append (C : Cx) : ∀ x y : List At, C.str (x ++ y) = C.str x ++ C.str y
  | [], y => (Str_nil_append _).symm
  | a :: x, y => by
    show C.atS a ++ C.str (x ++ y) = (C.atS a ++ C.str x) ++ C.str y
    rw [Cx_str_append C x y, Str_append_assoc]
theorem Cx_str_len {C : Cx} (ok : CxOk C) : ∀ x : List At, (C.str x).length ≤ 20 * x.length
  | [] => by show (#[] : Array Nat).size ≤ _; simp
  | a :: x => by
    have ih := Cx_str_len ok x
    have h1 : (C.str (a :: x)).length = (C.atS a).length + (C.str x).length := Str.length_append _ _
    have h2 : (C.atS a).length ≤ 20 := by
      induction a with
      | ch c => show (#[c] : Array Nat).size ≤ 20; simp
      | lab k => exact (ok.lab k).2
    rw [h1, List.length_cons]
    omega
section
variable {C : Cx} {D U : Nat} {Γ : FE}
/-! displays -/
noncomputable def listM (vs : List V) : M V := match Nat.ble vs.length 1000 with | true => alloc (.list vs) | false => no
noncomputable def tupM (vs : List V) : M V := match Nat.ble vs.length 1000 with | true => alloc (.tup vs) | false => no
theorem listM_some {vs : List V} {σ : St} {r : V × St} (h : listM vs σ = some r) : vs.length ≤ 1000 ∧ alloc (.list vs) σ = some r := by
  unfold listM at h
  cases q : Nat.ble vs.length 1000 with
  | true => rw [q] at h; exact ⟨Nat.le_of_ble_eq_true q, h⟩
  | false => rw [q] at h; cases h
theorem tupM_some {vs : List V} {σ : St} {r : V × St} (h : tupM vs σ = some r) : vs.length ≤ 1000 ∧ alloc (.tup vs) σ = some r := by
  unfold tupM at h
  cases q : Nat.ble vs.length 1000 with
  | true => rw [q] at h; exact ⟨Nat.le_of_ble_eq_true q, h⟩
  | false => rw [q] at h; cases h
theorem k_le_line : 1000 ≤ sizeLine := by decide
theorem SE_list {es : List Expr} {pos : Pos} {f : Nat → M (List V)} (h : SEs C D U Γ es f) : SE C D U Γ (.List es pos) (fun l => bnd (f l) listM) := fun l L μ hok hl A hA σ s r b σ' e Q E q => by
  obtain ⟨vs, σ₁, e1, e2⟩ := bnd_some e
  obtain ⟨hlen, e2⟩ := listM_some e2
  obtain ⟨hz, e3, e4⟩ := alloc_some e2
  simp only at e3 e4
  subst e3 e4
  refine wpAny_List_spliced (h l L μ pos hok hl A hA σ s r vs σ₁ e1 _ E fun μ' s' ws hp r' rv => ⟨by rw [rv.len]; exact Nat.le_trans hlen k_le_line, ?_⟩)
  exact q _ _ _ (List.IsPrefix.trans hp (List.prefix_append _ _)) (r'.alloc rfl hz ⟨ws.toArray, 0, rfl, by simpa using rv.ext (List.prefix_append _ _)⟩) (ref_new r')
theorem SE_tup {es : List Expr} {k : Nat} {pos : Pos} {f : Nat → M (List V)} (h : SEs C D U Γ es f) : SE C D U Γ (.Tuple es k pos) (fun l => bnd (f l) tupM) := fun l L μ hok hl A hA σ s r b σ' e Q E q => by
  obtain ⟨vs, σ₁, e1, e2⟩ := bnd_some e
  obtain ⟨hlen, e2⟩ := tupM_some e2
  obtain ⟨hz, e3, e4⟩ := alloc_some e2
  simp only at e3 e4
  subst e3 e4
  refine wpAny_Tuple_spliced (h l L μ pos hok hl A hA σ s r vs σ₁ e1 _ E fun μ' s' ws hp r' rv => ⟨by rw [rv.len]; exact Nat.le_trans hlen k_le_line, ?_⟩)
  exact q _ _ _ (List.IsPrefix.trans hp (List.prefix_append _ _)) (r'.alloc rfl hz ⟨ws.toArray, 0, rfl, by simpa using rv.ext (List.prefix_append _ _)⟩) (ref_new r')
/-! two-place operators -/
noncomputable def SOp (C : Cx) (D U : Nat) (op : Operator) (f : V → V → M V) : Prop := ∀ a b wa wb μ, RV C μ a wa → RV C μ b wb → Snd C D U (RV C) (binaryOp op wa wb) (f a b) μ
theorem SE_bin {op : Operator} {x y : Expr} {pos : Pos} {f g : Nat → M V} {o : V → V → M V} (ho : SOp C D U op o) (h1 : SE C D U Γ x f) (h2 : SE C D U Γ y g) : SE C D U Γ (.BinOp x op y pos) (fun l => bnd (f l) fun a => bnd (g l) fun b => o a b) := fun l L μ hok hl A hA σ s r b σ' e Q E q => by
  obtain ⟨a, σ₁, e1, e2⟩ := bnd_some e
  obtain ⟨c, σ₂, e3, e4⟩ := bnd_some e2
  refine wpAny_BinOp (h1 l L μ hok hl A hA σ s r a σ₁ e1 _ E fun μ' s' wa hp r' ra => ?_)
  refine h2 l L μ' (Γ.mono hp hok) (mu_ext hp hl) A hA σ₁ s' r' c σ₂ e3 _ E fun μ'' s'' wb hp' r'' rb => ?_
  exact ho a c wa wb μ'' (ra.ext hp') rb A hA σ₂ s'' r'' b σ' e4 Q E fun μ₃ s₃ w hp3 => q μ₃ s₃ w (List.IsPrefix.trans (List.IsPrefix.trans hp hp') hp3)
noncomputable def addM (a b : V) : M V := fun σ => match a, b with
  | .int i, .int j => some (.int (i + j), σ)
  | .str x, .str y => match Nat.ble (x.length + y.length) 1000 with
    | true => some (.str (x ++ y), σ)
    | false => none
  | .ref m, .ref n => match σ.get m with
    | some (.list xs) => match σ.get n with
      | some (.list ys) => match Nat.ble (xs.length + ys.length) 1000 with
        | true => alloc (.list (xs ++ ys)) σ
        | false => none
      | _ => none
    | _ => none
  | _, _ => none
theorem SOp_add (ok : CxOk C) : SOp C D U .Add addM := fun a b wa wb μ ra rb A hA σ s r v σ' e Q E q => by
  induction ra with
  | int i t =>
    induction rb with
    | int j u => (first | (have q := qc e q) | (have q := qcB e q) | cases e); exact PySem.wpAny_add_int (q μ _ _ (List.prefix_refl _) (r.toks _ _ _ _ rfl rfl) (.int _ _))
    | _ => (first | exact nn e | cases e)
  | str x t =>
    induction rb with
    | str y u =>
      unfold addM at e
      simp only at e
      split at e
      · rename_i hb
        (first | (have q := qc e q) | (have q := qcB e q) | cases e)
        have hz := Nat.le_of_ble_eq_true hb
        have l1 := Cx_str_len ok x
        have l2 := Cx_str_len ok y
        refine PyProof.Rows.add_str (fun t' tk => ?_) (by rw [sizeLine_eq]; omega)
        rw [← Cx_str_append]
        exact q μ _ _ (List.prefix_refl _) (r.toks _ _ _ _ rfl rfl) (.str _ _)
      · (first | exact nn e | cases e)
    | _ => (first | exact nn e | cases e)
  | ref m x hm =>
    induction rb with
    | ref n y hn =>
      unfold addM at e
      simp only at e
      split at e
      · rename_i xs e1
        split at e
        · rename_i ys e2
          split at e
          · rename_i hb
            have hz := Nat.le_of_ble_eq_true hb
            obtain ⟨hz2, e3, e4⟩ := alloc_some e
            simp only at e3 e4
            subst e3 e4
            obtain ⟨o1, ho1, ws1, n1, q1, rv1⟩ := r.at e1 hm
            obtain ⟨o2, ho2, ws2, n2, q2, rv2⟩ := r.at e2 hn
            subst q1 q2
            refine P.add_list ho1 ho2 (q _ _ _ (List.prefix_append _ _) (r.alloc rfl hz2 ⟨_, 0, rfl, ?_⟩) (ref_new r)) ?_
            · rw [Array.toList_append]; exact (rv1.append rv2).ext (List.prefix_append _ _)
            · have := rv1.len; have := rv2.len; simp only [Array.length_toList] at *; rw [sizeLine_eq]; omega
          · (first | exact nn e | cases e)
        · (first | exact nn e | cases e)
      · (first | exact nn e | cases e)
    | _ => (first | exact nn e | cases e)
  | _ => (first | exact nn e | cases e)
noncomputable def subM (a b : V) : M V := fun σ => match a, b with
  | .int i, .int j => some (.int (i - j), σ)
  | _, _ => none
theorem SOp_sub : SOp C D U .Sub subM := fun a b wa wb μ ra rb A hA σ s r v σ' e Q E q => by
  induction ra with
  | int i t =>
    induction rb with
    | int j u => (first | (have q := qc e q) | (have q := qcB e q) | cases e); exact PyProof.Rows.sub_int (q μ _ _ (List.prefix_refl _) (r.toks _ _ _ _ rfl rfl) (.int _ _))
    | _ => (first | exact nn e | cases e)
  | _ => (first | exact nn e | cases e)
/-! comparisons -/
noncomputable def SCmp (C : Cx) (D U : Nat) (op : CmpOp) (f : V → V → M Bool) : Prop := ∀ a b wa wb μ, RV C μ a wa → RV C μ b wb → Snd C D U (fun _ (b : Bool) (w : Value) => w = .bool b) (compareOp op wa wb) (f a b) μ
theorem SE_cmp {op : CmpOp} {x y : Expr} {pos : Pos} {f g : Nat → M V} {o : V → V → M Bool} (ho : SCmp C D U op o) (h1 : SE C D U Γ x f) (h2 : SE C D U Γ y g) (hm : autoParam (behindInMarks op y = false) au7._auto_1) :
    SE C D U Γ (.Compare x [op] [y] pos) (fun l => bnd (f l) fun a => bnd (g l) fun b => bnd (o a b) fun c => ret (.bool c)) := fun l L μ hok hl A hA σ s r b σ' e Q E q => by
  obtain ⟨a, σ₁, e1, e2⟩ := bnd_some e
  obtain ⟨c, σ₂, e3, e4⟩ := bnd_some e2
  obtain ⟨d, σ₃, e5, e6⟩ := bnd_some e4
  cases e6
  refine wpAny_Compare1 (h1 l L μ hok hl A hA σ s r a σ₁ e1 _ E fun μ' s' wa hp r' ra => ?_) hm
  refine h2 l L μ' (Γ.mono hp hok) (mu_ext hp hl) A hA σ₁ s' r' c σ₂ e3 _ E fun μ'' s'' wb hp' r'' rb => ?_
  refine ho a c wa wb μ'' (ra.ext hp') rb A hA σ₂ s'' r'' d _ e5 Q E fun μ₃ s₃ w hp3 r₃ hw => ?_
  subst hw
  exact q μ₃ s₃ _ (List.IsPrefix.trans (List.IsPrefix.trans hp hp') hp3) r₃ (.bool _)
theorem ST_cmp {op : CmpOp} {x y : Expr} {pos : Pos} {f g : Nat → M V} {o : V → V → M Bool} (ho : SCmp C D U op o) (h1 : SE C D U Γ x f) (h2 : SE C D U Γ y g) (hm : autoParam (behindInMarks op y = false) au7._auto_1) :
    STt C D U Γ (.Compare x [op] [y] pos) (fun l => bnd (f l) fun a => bnd (g l) fun b => o a b) := fun l L μ hok hl A hA σ s r b σ' e Q E q => by
  obtain ⟨a, σ₁, e1, e2⟩ := bnd_some e
  obtain ⟨c, σ₂, e3, e4⟩ := bnd_some e2
  refine wpAny_isTrue_Compare1 (h1 l L μ hok hl A hA σ s r a σ₁ e1 _ E fun μ' s' wa hp r' ra => ?_) hm
  refine h2 l L μ' (Γ.mono hp hok) (mu_ext hp hl) A hA σ₁ s' r' c σ₂ e3 _ E fun μ'' s'' wb hp' r'' rb => ?_
  refine ho a c wa wb μ'' (ra.ext hp') rb A hA σ₂ s'' r'' b σ' e4 _ E fun μ₃ s₃ w hp3 r₃ hw => ?_
  subst hw
  exact wpAny_truthy_bool (q μ₃ s₃ _ (List.IsPrefix.trans (List.IsPrefix.trans hp hp') hp3) r₃ rfl)
theorem ST_or2 {x y : Expr} {pos : Pos} {f g : Nat → M Bool} (h : STt C D U Γ x f) (h2 : STt C D U Γ y g) : STt C D U Γ (.BoolOp .Or [x, y] pos) (fun l => bnd (f l) fun b => match b with | true => ret true | false => g l) := fun l L μ hok hl A hA σ s r b σ' e Q E q => by
  obtain ⟨a, σ₁, e1, e2⟩ := bnd_some e
  refine wpAny_isTrue_BoolOp (wpAny_allTrue_Or_cons (h l L μ hok hl A hA σ s r a σ₁ e1 _ E fun μ' s' c hp r' hc => ?_))
  cases hc
  cases a with
  | true => cases e2; exact q μ' s' _ hp r' rfl
  | false =>
    refine wpAny_allTrue_Or_cons (h2 l L μ' (Γ.mono hp hok) (mu_ext hp hl) A hA σ₁ s' r' b σ' e2 _ E fun μ'' s'' c hp' r'' hc => ?_)
    cases hc
    cases b with
    | true => exact q μ'' s'' _ (List.IsPrefix.trans hp hp') r'' rfl
    | false => exact wpAny_allTrue_Or_nil (q μ'' s'' _ (List.IsPrefix.trans hp hp') r'' rfl)
theorem ST_and2 {x y : Expr} {pos : Pos} {f g : Nat → M Bool} (h : STt C D U Γ x f) (h2 : STt C D U Γ y g) : STt C D U Γ (.BoolOp .And [x, y] pos) (fun l => bnd (f l) fun b => match b with | true => g l | false => ret false) := fun l L μ hok hl A hA σ s r b σ' e Q E q => by
  obtain ⟨a, σ₁, e1, e2⟩ := bnd_some e
  refine wpAny_isTrue_BoolOp (wpAny_allTrue_And_cons (h l L μ hok hl A hA σ s r a σ₁ e1 _ E fun μ' s' c hp r' hc => ?_))
  cases hc
  cases a with
  | false => cases e2; exact q μ' s' _ hp r' rfl
  | true =>
    refine wpAny_allTrue_And_cons (h2 l L μ' (Γ.mono hp hok) (mu_ext hp hl) A hA σ₁ s' r' b σ' e2 _ E fun μ'' s'' c hp' r'' hc => ?_)
    cases hc
    cases b with
    | false => exact q μ'' s'' _ (List.IsPrefix.trans hp hp') r'' rfl
    | true => exact wpAny_allTrue_And_nil (q μ'' s'' _ (List.IsPrefix.trans hp hp') r'' rfl)
/-- strings' equality, where the atoms tell it -/
noncomputable def cmpA (a b : At) : Option Bool := match a with
  | .ch a => match b with
    | .ch b => some (Nat.beq a b)
    | .lab _ => none
  | .lab a => match b with
    | .ch _ => none
    | .lab b => match Nat.beq a b with
      | true => some true
      | false => none
theorem cmpA_true {a b : At} (h : cmpA a b = some true) : a = b := by
  cases a with
  | ch a => cases b with
    | ch b => exact congrArg At.ch (Nat.eq_of_beq_eq_true (Option.some.inj h))
    | lab b => exact nn h
  | lab a => cases b with
    | ch b => exact nn h
    | lab b =>
      unfold cmpA at h
      dsimp only at h
      split at h
      · rename_i q; rw [Nat.eq_of_beq_eq_true q]
      · exact nn h
theorem cmpA_false {a b : At} (h : cmpA a b = some false) : ∃ c d, a = .ch c ∧ b = .ch d ∧ c ≠ d := by
  cases a with
  | ch a => cases b with
    | ch b => exact ⟨a, b, rfl, rfl, Nat.ne_of_beq_eq_false (Option.some.inj h)⟩
    | lab b => exact nn h
  | lab a => cases b with
    | ch b => exact nn h
    | lab b =>
      unfold cmpA at h
      dsimp only at h
      split at h
      · cases h
      · exact nn h
noncomputable def strEq : List At → List At → Option Bool
  | [], y => match y with
    | [] => some true
    | _ :: _ => some false
  | a :: x, y => match y with
    | [] => some false
    | b :: y => match cmpA a b with
      | some c => match c with
        | true => strEq x y
        | false => some false
      | none => none
theorem atS_ne {C : Cx} (ok : CxOk C) (a : At) (x : List At) : (C.str (a :: x)).cps.toList ≠ [] := by
  show ((C.atS a) ++ C.str x).cps.toList ≠ []
  rw [Str.cps_append, Array.toList_append]
  intro h
  have h1 := (List.append_eq_nil_iff.mp h).1
  induction a with
  | ch c => (first | exact nn h1 | cases h1)
  | lab k =>
    have := (ok.lab k).1
    have h2 : (C.l k).cps.size = 0 := by rw [← Array.length_toList]; exact congrArg List.length h1
    exact absurd h2 (Nat.ne_of_gt this)
theorem strEq_true {C : Cx} : ∀ {x y : List At}, strEq x y = some true → x = y
  | [], [], _ => rfl
  | [], _ :: _, h => by cases h
  | _ :: _, [], h => by cases h
  | a :: x, b :: y, h => by
    unfold strEq at h
    dsimp only at h
    split at h
    · rename_i q
      split at h
      · rw [cmpA_true q, strEq_true (C := C) h]
      · cases h
    · exact nn h
theorem str_cons {C : Cx} (a : At) (x : List At) : (C.str (a :: x)).cps.toList = (C.atS a).cps.toList ++ (C.str x).cps.toList := by
  show (C.atS a ++ C.str x).cps.toList = _
  rw [Str.cps_append, Array.toList_append]
theorem strEq_false {C : Cx} (ok : CxOk C) : ∀ {x y : List At}, strEq x y = some false → (C.str x).cps.toList ≠ (C.str y).cps.toList
  | [], [], h => by cases h
  | [], a :: y, _ => fun z => atS_ne ok a y z.symm
  | a :: x, [], _ => fun z => atS_ne ok a x z
  | a :: x, b :: y, h => by
    unfold strEq at h
    dsimp only at h
    split at h
    · rename_i q
      intro z
      rw [str_cons, str_cons] at z
      split at h
      · rw [cmpA_true q] at z
        exact strEq_false ok h (List.append_cancel_left z)
      · obtain ⟨c, d, rfl, rfl, n⟩ := cmpA_false q
        exact n (List.cons.inj z).1
    · exact nn h
noncomputable def eqB (a b : V) : M Bool := fun σ => match a, b with
  | .int i, .int j => some (i == j, σ)
  | .str x, .str y => match strEq x y with
    | some c => some (c, σ)
    | none => none
  | _, _ => none
theorem SCmp_eq (ok : CxOk C) : SCmp C D U .Eq eqB := fun a b wa wb μ ra rb A hA σ s r v σ' e Q E q => by
  induction ra with
  | int i t =>
    induction rb with
    | int j u => (first | (have q := qc e q) | (have q := qcB e q) | cases e); exact PyProof.Rows.eq_int (q μ _ _ (List.prefix_refl _) r rfl)
    | _ => (first | exact nn e | cases e)
  | str x t =>
    induction rb with
    | str y u =>
      unfold eqB at e
      simp only at e
      split at e
      · rename_i c hc
        (first | (have q := qc e q) | (have q := qcB e q) | cases e)
        refine PySem.P.eq_str (q μ _ _ (List.prefix_refl _) r (congrArg Value.bool ?_))
        cases c with
        | true => rw [strEq_true (C := C) hc]; exact beq_self_eq_true _
        | false => exact beq_eq_false_iff_ne.mpr (strEq_false ok hc)
      · (first | exact nn e | cases e)
    | _ => (first | exact nn e | cases e)
  | _ => (first | exact nn e | cases e)
noncomputable def neB (a b : V) : M Bool := bnd (eqB a b) fun c => ret (!c)
theorem SCmp_ne (ok : CxOk C) : SCmp C D U .NotEq neB := fun a b wa wb μ ra rb A hA σ s r v σ' e Q E q => by
  obtain ⟨c, σ₁, e, e2⟩ := bnd_some e
  cases e2
  induction ra with
  | int i t =>
    induction rb with
    | int j u => (first | (have q := qc e q) | (have q := qcB e q) | cases e); exact PyProof.Rows.ne_int (q μ _ _ (List.prefix_refl _) r rfl)
    | _ => (first | exact nn e | cases e)
  | str x t =>
    induction rb with
    | str y u =>
      unfold eqB at e
      simp only at e
      split at e
      · rename_i c' hc
        (first | (have q := qc e q) | (have q := qcB e q) | cases e)
        refine PySem.P.ne_str (q μ _ _ (List.prefix_refl _) r (congrArg Value.bool ?_))
        cases c with
        | true => rw [strEq_true (C := C) hc]; simp
        | false => exact bne_iff_ne.mpr (strEq_false ok hc)
      · (first | exact nn e | cases e)
    | _ => (first | exact nn e | cases e)
  | _ => (first | exact nn e | cases e)
noncomputable def gtB (a b : V) : M Bool := fun σ => match a, b with
  | .int i, .int j => some (decide (j < i), σ)
  | _, _ => none
theorem SCmp_gt : SCmp C D U .Gt gtB := fun a b wa wb μ ra rb A hA σ s r v σ' e Q E q => by
  induction ra with
  | int i t =>
    induction rb with
    | int j u => (first | (have q := qc e q) | (have q := qcB e q) | cases e); exact PyProof.Rows.gt_int (q μ _ _ (List.prefix_refl _) r rfl)
    | _ => (first | exact nn e | cases e)
  | _ => (first | exact nn e | cases e)
end
end
end Mine
set_option genSizeOf false
set_option genInjectivity false
namespace Mine
noncomputable section
open PySem PySem.W PyProof.Rows PySem.Calls
noncomputable def dget : List (Nat × V) → Nat → Option V
  | [], _ => none
  | (k, v) :: r, j => match Nat.beq k j with
    | true => some v
    | false => dget r j
theorem codeName_inj : ∀ i j : Fin 8, codeName i = codeName j → i = j := by decide
section
variable {C : Cx} {μ : List Addr}
theorem DR.find {vs : List (Nat × V)} {es : List DictEntry} (r : DR C μ vs es) (hk : ∀ p ∈ vs, p.1 < 8) {k : Nat} (hk8 : k < 8) {v : V} (h : dget vs k = some v) : ∃ e w, es.find? (·.key.isStr (codeName k)) = some e ∧ e.val = w ∧ RV C μ v w := by
  induction r with
  | nil => (first | exact nn h | cases h)
  | @cons j x t w vs es rv _ ih =>
    unfold dget at h
    have hj : j < 8 := hk (j, x) (.head _)
    cases q : Nat.beq j k with
    | true =>
      rw [q] at h
      (first | (have q := qc h q) | (have q := qcB h q) | cases h)
      have := Nat.eq_of_beq_eq_true q
      subst this
      exact ⟨⟨PyData.keyHash C.w.params (codeName j), .str (codeName j) t, w⟩, w, by rw [List.find?_cons]; simp [Value.isStr], rfl, rv⟩
    | false =>
      rw [q] at h
      obtain ⟨e, w', e1, e2, e3⟩ := ih (fun p hp => hk p (.tail _ hp)) h
      refine ⟨e, w', ?_, e2, e3⟩
      refine rwG (List.find?_cons) ?_
      have : (Value.str (codeName j) t).isStr (codeName k) = false := by
        show (codeName j == codeName k) = false
        rw [beq_eq_false_iff_ne]
        intro z
        have := codeName_inj ⟨j, hj⟩ ⟨k, hk8⟩ z
        have e : j = k := congrArg Fin.val this
        subst e
        rw [Nat.beq_refl] at q
        cases q
      simp only [this]
      exact e1
theorem DR.miss {vs : List (Nat × V)} {es : List DictEntry} (r : DR C μ vs es) (hk : ∀ p ∈ vs, p.1 < 8) {name : Str} (h : ∀ k : Fin 8, codeName k ≠ name) : es.find? (·.key.isStr name) = none ∧ es.any (·.refKey) = false := by
  induction r with
  | nil => exact ⟨rfl, rfl⟩
  | @cons j x t w vs es rv _ ih =>
    obtain ⟨h1, h2⟩ := ih fun p hp => hk p (.tail _ hp)
    have hj : j < 8 := hk (j, x) (.head _)
    refine ⟨?_, ?_⟩
    · refine rwG (List.find?_cons) ?_
      have : (Value.str (codeName j) t).isStr name = false := by
        show (codeName j == name) = false
        rw [beq_eq_false_iff_ne]
        exact h ⟨j, hj⟩
      simp only [this]
      exact h1
    · rw [List.any_cons, h2]; rfl
theorem DR.look {vs : List (Nat × V)} {es : List DictEntry} (r : DR C μ vs es) (hk : ∀ p ∈ vs, p.1 < 8) {k : Nat} (hk8 : k < 8) {v : V} (h : dget vs k = some v) (n : Nat) : ∃ w, lookIn (codeName k) (dictOf es n) = some (some w) ∧ RV C μ v w := by
  obtain ⟨e, w, e1, e2, e3⟩ := r.find hk hk8 h
  refine ⟨w, ?_, e3⟩
  unfold lookIn dictOf
  simp only [e1, e2]
theorem DR.lookMiss {vs : List (Nat × V)} {es : List DictEntry} (r : DR C μ vs es) (hk : ∀ p ∈ vs, p.1 < 8) {name : Str} (h : ∀ k : Fin 8, codeName k ≠ name) (n : Nat) : lookIn name (dictOf es n) = some none := by
  obtain ⟨e1, e2⟩ := r.miss hk h
  unfold lookIn dictOf
  simp only [e1, e2]
  rfl
end
noncomputable def keysOk : List (Nat × V) → Bool
  | [] => true
  | (k, _) :: r => match Nat.blt k 8 with
    | true => keysOk r
    | false => false
theorem keysOk_all : ∀ {vs : List (Nat × V)}, keysOk vs = true → ∀ p ∈ vs, p.1 < 8
  | [], _, _, h => nomatch h
  | (k, v) :: r, h, p, hp => by
    unfold keysOk at h
    cases q : Nat.blt k 8 with
    | true =>
      rw [q] at h
      rcases List.mem_cons.mp hp with rfl | hp
      · exact Nat.le_of_ble_eq_true q
      · exact keysOk_all h p hp
    | false => rw [q] at h; cases h
section
variable {C : Cx} {D U : Nat} {Γ : FE}
/-- an object of the class at c: its names -/
noncomputable def insAt (c : Nat) (v : V) (σ : St) : Option (List (Nat × V)) := match v with
  | .ref n => match σ.get n with
    | some (.ins c' d) => match Nat.beq c' c with
      | true => match σ.get d with
        | some (.dic vs) => match keysOk vs with
          | true => some vs
          | false => none
        | _ => none
      | false => none
    | _ => none
  | _ => none
theorem insAt_some {c : Nat} {v : V} {σ : St} {vs : List (Nat × V)} (h : insAt c v σ = some vs) : ∃ n d, v = .ref n ∧ σ.get n = some (.ins c d) ∧ σ.get d = some (.dic vs) ∧ keysOk vs = true := by
  unfold insAt at h
  split at h
  · split at h
    · split at h
      · rename_i q
        have := Nat.eq_of_beq_eq_true q
        subst this
        split at h
        · split at h
          · (first | exact nn h | cases h)
            exact ⟨_, _, rfl, by assumption, by assumption, by assumption⟩
          · (first | exact nn h | cases h)
        · (first | exact nn h | cases h)
      · (first | exact nn h | cases h)
    · (first | exact nn h | cases h)
  · (first | exact nn h | cases h)
theorem ins_inst {μ : List Addr} {σ : St} {s : Shared} (r : Rel C μ σ s) {c n d : Nat} {a : Addr} {vs : List (Nat × V)} (hn : μ[n]? = some a) (h1 : σ.get n = some (.ins c d)) (h2 : σ.get d = some (.dic vs)) :
    ∃ da es m, InstAt s.heap a ⟨.ref c, some da, .plain, #[]⟩ c (some (dictOf es m)) ∧ DR C μ vs es := by
  refine Rel.at_e r h1 hn (fun o ho hzz => ?_); obtain ⟨da, hd, e⟩ := hzz
  subst e
  refine Rel.at_e r h2 hd (fun od hod hzz => ?_); obtain ⟨es, m, e, dr⟩ := hzz
  subst e
  exact ⟨da, es, m, ⟨ho, rfl, rfl, hod⟩, dr⟩
theorem handed_rv {μ : List Addr} {v : V} {w : Value} (h : RV C μ v w) : handedIn w = true := by cases h <;> rfl
/-- an attribute of its own -/
noncomputable def attrM (c k : Nat) (v : V) : M V := fun σ => match insAt c v σ with
  | some vs => match dget vs k with
    | some x => some (x, σ)
    | none => none
  | none => none
theorem letTemp_ok {base : Expr} (hb : ∀ o r, letTemporaryGo base o r = pure ()) {M : Model} {A : Around} {E : Value → Shared → Prop} {s : Shared} {o r : Value} {Q : Unit → Shared → Prop} (h : Q () s) : wpAny M A (letTemporaryGo base o r) Q E s := by
  rw [hb]; exact wpAny_pure h
theorem SE_attr {e : Expr} {name : Str} {pos : Pos} {f : Nat → M V} (c k : Nat) (ok : CxOk C) (h : SE C D U Γ e f) (hb : autoParam (∀ env whole, attributeBase e name env whole = whole) au3._auto_1) (ht : autoParam (∀ o r, letTemporaryGo e o r = pure ()) au3._auto_1)
    (hk8 : autoParam (k < 8) au4._auto_1) (hname : autoParam (codeName k = name) au4._auto_1) (hga : autoParam (findIn (KF C.w.params) (.ref c) "__getattribute__" = some (some (.builtin "object.__getattribute__"))) au5._auto_1)
    (ha : autoParam (findIn (KF C.w.params) (.ref c) name = some none) au5._auto_1) (hh : autoParam (hasDictIn (KF C.w.params) c = true) au5._auto_1) : SE C D U Γ (.Attribute e name pos) (fun l => bnd (f l) (attrM c k)) := fun l L μ hok hl A hA σ s r b σ' e Q E q => by
  refine bnd_e e fun v σ₁ e1 e2 => ?_
  unfold attrM at e2
  split at e2
  · rename_i vs hi
    split at e2
    · rename_i x hx
      (first | (have q := qc e2 q) | (have q := qcB e2 q) | cases e2)
      obtain ⟨n, d, rfl, g1, g2, g3⟩ := insAt_some hi
      show wpAny _ _ (attributeBase _ name _ _ >>= fun o => standAt pos.atName >>= fun _ => holding [o] (getAttr o name true) >>= fun r => letTemporaryGo _ o r >>= fun _ => pure r) Q E s
      rw [hb]
      refine wpAny_bind (h l L μ hok hl A hA σ s r _ _ e1 _ E fun μ' s' w hp r' rv => ?_)
      refine RV.eRef rv fun a hn => ?_
      ·
        obtain ⟨da, es, m, I, dr⟩ := ins_inst r' hn g1 g2
        obtain ⟨w, hw, rw'⟩ := dr.look (keysOk_all g3) hk8 hx m
        rw [hname] at hw
        refine wpAny_bind (wpAny_standAt (wpAny_bind (wpAny_holding ?_)))
        refine get_value (r'.K ok) I hga (findObj_own hh ha rfl hw) (handed_rv rw') ?_
        refine wpAny_bind (letTemp_ok ht (wpAny_pure ?_))
        exact q μ' _ w hp (r'.toks _ _ _ _ rfl rfl) rw'
    · (first | exact nn e2 | cases e2)
  · (first | exact nn e2 | cases e2)
/-- a def of its class, called -/
theorem SE_meth {o : Expr} {name : Str} {apos pos : Pos} {args : List Expr} {fo : Nat → M V} {fa : Nat → M (List V)} {fn : List V → M V} (c f : Nat) (ok : CxOk C) (h : SE C D U Γ o fo) (ha : SEs C D U Γ args fa) (hf : SFn C D U f fn)
    (he : autoParam (∀ env, ∃ pl : Sem Bool, eval (.Call (.Attribute o name apos) args [] pos) env = (do
      let ov ← eval o env
      standAt apos.atName
      let (f, first) ← holding [ov] (getMethod ov name pl)
      callWith pos f first (backTo pos (starEach args env)) (backToKw pos (keywordEach [] env)))) au8._auto_1)
    (hnm : autoParam (∀ k : Fin 8, codeName k ≠ name) au4._auto_1)
    (hga : autoParam (findIn (KF C.w.params) (.ref c) "__getattribute__" = some (some (.builtin "object.__getattribute__"))) au5._auto_1) (hgk : autoParam (findIn (KF C.w.params) (.ref c) "__getattr__" = some none) au5._auto_1)
    (hm : autoParam (findIn (KF C.w.params) (.ref c) name = some (some (.ref f))) au5._auto_1) (ht : autoParam (typeIn (KF C.w.params) (.ref f) = some (.type "function")) au5._auto_1) (hkp : autoParam (keepIn (KF C.w.params) (.ref f) = true) au5._auto_1)
    (hpl : autoParam (∀ env, ((backTo pos (starEach args env)).any (·.1) || (backToKw pos (keywordEach [] env)).any (·.1.isNone)) = false) au1._auto_1)
    (hev : ∀ (env : Env) (A : Around) (Q : Args → Shared → Prop) (E : Value → Shared → Prop) (s : Shared), wpAny (model P C.w) A (spliced (backTo pos (starEach args env))) (fun vs s' => Q ⟨vs, []⟩ s') E s → wpAny (model P C.w) A (evalArgs (.ref f) true (backTo pos (starEach args env)) (backToKw pos (keywordEach [] env))) Q E s) :
    SE C D U Γ (.Call (.Attribute o name apos) args [] pos) (fun l => bnd (fo l) fun v => bnd (fun σ => match insAt c v σ with | some _ => some ((), σ) | none => none) fun _ => bnd (fa l) fun vs => fn (v :: vs)) := fun l L μ hok hl A hA σ s r b σ' e Q E q => by
  refine bnd_e e fun v σ₁ e1 e2 => ?_
  refine bnd_e e2 fun _ σ₂ e3 e4 => ?_
  refine bnd_e e4 fun vs σ₃ e5 e6 => ?_
  split at e3
  · rename_i nms hi
    (first | (have q := qc e3 q) | (have q := qcB e3 q) | cases e3)
    obtain ⟨n, d, rfl, g1, g2, g3⟩ := insAt_some hi
    obtain ⟨pl, he⟩ := he (Γ.env L)
    refine rwG (he) ?_
    refine wpAny_bind (h l L μ hok hl A hA σ s r _ _ e1 _ E fun μ' s' w hp r' rv => ?_)
    refine RV.eRef rv fun a hn => ?_
    ·
      obtain ⟨da, es, m, I, dr⟩ := ins_inst r' hn g1 g2
      refine wpAny_bind (wpAny_standAt (wpAny_bind (wpAny_holding ?_)))
      refine method_fn (r'.K ok) I hga hgk hm ht (by show Option.map _ (lookIn name (dictOf es m)) = _; rw [dr.lookMiss (keysOk_all g3) hnm m]; rfl) ?_
      show wpAny _ _ (callWith pos (.ref f) [.ref a] _ _) _ _ _
      refine callWith_of (P := fun h => (KF C.w.params).In h) (hpl _) (keeps_K hkp) (hev _ _ _ _ _ ?_)
      refine ha l L μ' pos (Γ.mono hp hok) (mu_ext hp hl) A hA _ s' r' vs σ₃ e5 _ E fun μ'' s'' ws hp' r'' rvs => ⟨r''.K ok, ?_⟩
      exact hf (.ref n :: vs) (.ref a :: ws) μ'' (.cons (.ref n a (mu_ext hp' hn)) rvs) A hA σ₃ s'' r'' b σ' e6 Q E fun μ₃ s₃ x hp3 => q μ₃ s₃ x (List.IsPrefix.trans (List.IsPrefix.trans hp hp') hp3)
  · (first | exact nn e3 | cases e3)
end
end
end Mine
set_option genSizeOf false
set_option genInjectivity false
namespace Mine
noncomputable section
open PySem PySem.W PyProof.Rows PySem.Calls
theorem evA {M : Model} {A : Around} {E : Value → Shared → Prop} {s : Shared} {f : Value} {args : List (Bool × Sem Value)} {Q : Args → Shared → Prop} (hm : args.any (·.1) = false)
    (h : wpAny M A (spliced args) (fun vs s' => Q ⟨vs, []⟩ s') E s) : wpAny M A (evalArgs f true args []) Q E s := by
  induction args with
  | nil =>
    unfold evalArgs
    show wpAny M A (spliced [] >>= _) Q E s
    refine wpAny_bind (wpAny_mono h (fun vs s' hq => ?_) fun _ _ x => x)
    refine wpAny_holding ?_
    show wpAny M A (evalAll [] >>= fun kw => (pure vs : Sem (List Value)) >>= fun p => pure ⟨p, [].zip kw⟩) Q E s'
    exact wpAny_bind (wpAny_evalAll_nil (wpAny_bind (wpAny_pure (wpAny_pure hq))))
  | cons a r =>
    obtain ⟨b, x⟩ := a
    cases b with
    | true => (first | exact nn hm | cases hm)
    | false => exact evalArgs_plain h
section
variable {C : Cx} {D U : Nat} {Γ : FE}
noncomputable def SCl (C : Cx) (D U : Nat) (f : Value) (fn : List V → M V) : Prop := ∀ vs ws μ, RVs C μ vs ws → Snd C D U (RV C) (call f ws) (fn vs) μ
noncomputable def KeepOk (C : Cx) (f : Value) : Prop := ∀ h, (KF C.w.params).In h → ∃ k, (k = Keeper.frame ∨ k = Keeper.machine ∨ k = Keeper.boundFrame) ∧ Looks (model P C.w) h (keeperOf f) k
theorem keep_ref {f : Addr} (h : keepIn (KF C.w.params) (.ref f) = true) : KeepOk C (.ref f) := keeps_K h
theorem keep_type (n : String) : KeepOk C (.type n) := fun _ _ => ⟨.machine, .inr (.inl rfl), Looks.of_pure rfl⟩
theorem keep_bi (n : String) : KeepOk C (.builtin n) := fun _ _ => ⟨.machine, .inr (.inl rfl), Looks.of_pure rfl⟩
theorem SE_call {x : Str} {p pos : Pos} {es : List Expr} {fa : Nat → M (List V)} {fn : List V → M V} {f : Value} (ok : CxOk C) (hn : ∀ L, peek (KF C.w.params) ⟨P, C.w.params⟩ (loadName (Γ.env L) x) = some f) (hkp : KeepOk C f)
    (ha : SEs C D U Γ es fa) (hf : SCl C D U f fn) (hd : autoParam ((x == ("__debug__" : Str)) = false) au4._auto_1) (hpl : autoParam (∀ env, (backTo pos (starEach es env)).any (·.1) = false) au1._auto_1) :
    SE C D U Γ (.Call (.Name x p) es [] pos) (fun l => bnd (fa l) fn) := fun l L μ hok hl A hA σ s r b σ' e Q E q => by
  refine bnd_e e fun vs σ₁ e1 e2 => ?_
  refine wpAny_Call_NameR (wpAny_Name ?_ hd)
  refine (Looks.of_peek (M := model P C.w) (r.K ok) (hn L)).here ?_
  refine callWith_of (P := fun h => (KF C.w.params).In h) (by rw [hpl]; rfl) hkp (evA (hpl _) ?_)
  refine ha l L μ pos hok hl A hA σ s r vs σ₁ e1 _ E fun μ' s' ws hp r' rvs => ⟨r'.K ok, ?_⟩
  exact hf vs ws μ' rvs A hA σ₁ s' r' b σ' e2 Q E fun μ'' s'' a hp' => q μ'' s'' a (List.IsPrefix.trans hp hp')
noncomputable def rangeM (vs : List V) : M V := fun σ => match vs with
  | [.int n] => match decide (-(2 ^ 30) < n) && decide (n < 2 ^ 30) with
    | true => alloc (.rng 0 n 1) σ
    | false => none
  | _ => none
theorem SCl_range : SCl C D U (.type "range") rangeM := fun vs ws μ rv A hA σ s r b σ' e Q E q => by
  unfold rangeM at e
  split at e
  · split at e
    · rename_i hb
      obtain ⟨hz, e3, e4⟩ := alloc_some e
      simp only at e3 e4
      subst e3 e4
      refine RVs.eCons rv fun _ _ h t => ?_
      ·
        refine RVs.eNil t ?_
        refine RV.eInt h fun t => ?_
        exact call_range_1 (q _ _ _ (List.prefix_append _ _) (r.alloc rfl hz ⟨_, _, _, rfl⟩) (ref_new r))
    · (first | exact nn e | cases e)
  · (first | exact nn e | cases e)
/-! a list's append -/
noncomputable def chkList (v : V) : M Unit := fun σ => match v with
  | .ref n => match σ.get n with
    | some (.list _) => some ((), σ)
    | _ => none
  | _ => none
noncomputable def appM (v x : V) : M V := fun σ => match Nat.blt σ.n 60001 with
  | true => match v with
    | .ref n => match σ.get n with
      | some (.list xs) => match Nat.ble xs.length 1000 with
        | true => some (.none, σ.put n (.list (xs ++ [x])))
        | false => none
      | _ => none
    | _ => none
  | false => none
theorem app_snd {μ : List Addr} {v x : V} {w y : Value} (rv : RV C μ v w) (rx : RV C μ x y) : Snd C D U (RV C) (call (.builtin "list.append") [w, y]) (appM v x) μ := fun A hA σ s r b σ' e Q E q => by
  unfold appM at e
  split at e
  · rename_i hb
    have hz : σ.n < 60001 := Nat.le_of_ble_eq_true hb
    induction rv with
    | ref n a hn =>
      simp only at e
      split at e
      · rename_i xs e1
        split at e
        · rename_i hl
          have hl := Nat.le_of_ble_eq_true hl
          (first | (have q := qc e q) | (have q := qcB e q) | cases e)
          refine Rel.at_e r e1 hn (fun o ho hzz => ?_); obtain ⟨ws, m, eo, rvs⟩ := hzz
          subst eo
          refine wpAny_list_append_plain (l := a) (items := ws) ⟨m, ho⟩ (fun h' hp' hs => ?_) (by have := rvs.len; rw [Array.length_toList] at this; rw [sizeLine_eq]; omega)
          obtain ⟨m', hp'⟩ := hp'
          refine q μ _ _ (List.prefix_refl _) (r.put e1 rfl hn hz hs.extBut fun _ => ⟨_, hp', _, m', rfl, ?_⟩) .none
          refine rwG (Array.toList_push) ?_
          exact rvs.append (.cons rx .nil)
        · (first | exact nn e | cases e)
      · (first | exact nn e | cases e)
    | _ => (first | exact nn e | cases e)
  · (first | exact nn e | cases e)
theorem SE_append {o elt : Expr} {apos pos : Pos} {f g : Nat → M V} (h1 : SE C D U Γ o f) (h2 : SE C D U Γ elt g)
    (hbase : autoParam (∀ L, attributeBase o "append" (Γ.env L) (eval o (Γ.env L)) = eval o (Γ.env L)) au1._auto_1)
    (hfew : autoParam (∀ env, ((backTo pos (starEach [elt] env)).all (fun x => !x.1) && (backToKw pos (keywordEach [] env)).all (fun x => x.1.isSome)
      && decide (([elt] : List Expr).length + ([] : List Keyword).length + (if ([] : List Keyword).isEmpty then 0 else 1) < 30)) = true) au1._auto_1)
    (hline : autoParam ((apos.endLine == pos.line) = true) au2._auto_1) (htrees : autoParam (∀ env, backTo pos (starEach [elt] env) = [(false, eval elt env)]) au1._auto_1) :
    SE C D U Γ (.Call (.Attribute o "append" apos) [elt] [] pos) (fun l => bnd (f l) fun a => bnd (chkList a) fun _ => bnd (g l) fun x => appM a x) := fun l L μ hok hl A hA σ s r b σ' e Q E q => by
  refine bnd_e e fun a σ₁ e1 e2 => ?_
  refine bnd_e e2 fun _ σ₂ e3 e4 => ?_
  refine bnd_e e4 fun x σ₃ e5 e6 => ?_
  refine wpAny_Call_append (hbase L) (hfew _) hline (htrees _) ?_
  refine h1 l L μ hok hl A hA σ s r a σ₁ e1 _ E fun μ' s' w hp r' rv => ?_
  unfold chkList at e3
  induction rv with
  | ref n ad hn =>
    simp only at e3
    split at e3
    · rename_i xs g1
      (first | (have q := qc e3 q) | (have q := qcB e3 q) | cases e3)
      refine Rel.at_e r' g1 hn (fun o' ho hzz => ?_); obtain ⟨ws, m, eo, rvs⟩ := hzz
      subst eo
      refine ⟨ad, ws, rfl, ⟨_, m, ho, rfl, rfl, rfl⟩, ?_⟩
      refine h2 l L μ' (Γ.mono hp hok) (mu_ext hp hl) A hA _ s' r' x σ₃ e5 _ E fun μ'' s'' y hp' r'' ry => ?_
      exact app_snd (.ref n ad (mu_ext hp' hn)) ry A hA σ₃ s'' r'' b σ' e6 Q E fun μ₃ s₃ v hp3 => q μ₃ s₃ v (List.IsPrefix.trans (List.IsPrefix.trans hp hp') hp3)
    · (first | exact nn e3 | cases e3)
  | _ => (first | exact nn e3 | cases e3)
/-! items by their number -/
end
end
end Mine
set_option genSizeOf false
set_option genInjectivity false
namespace Mine
noncomputable section
open PySem PySem.W PyProof.Rows PySem.Calls
section
variable {C : Cx} {D U : Nat} {Γ : FE}
noncomputable def repS (x : List At) : Nat → List At
  | 0 => []
  | n + 1 => x ++ repS x n
theorem fold_rep (C : Cx) (x : List At) : ∀ (n : Nat) (acc : Array Nat), (List.replicate n (C.str x).cps).foldl (· ++ ·) acc = acc ++ (C.str (repS x n)).cps
  | 0, acc => by show acc = acc ++ #[]; simp
  | n + 1, acc => by
    rw [List.replicate_succ, List.foldl_cons, fold_rep C x n]
    show _ = acc ++ (C.str (x ++ repS x n)).cps
    rw [Cx_str_append, Str.cps_append, Array.append_assoc]
noncomputable def mulM (a b : V) : M V := fun σ => match a, b with
  | .str x, .int n => match decide (-1000 < n) with
    | false => none
    | true => match decide (n < 1) with
      | true => some (.str [], σ)
      | false => match decide (n < 50) && Nat.ble x.length 10 with
        | true => some (.str (repS x n.toNat), σ)
        | false => none
  | _, _ => none
theorem SOp_mul (ok : CxOk C) : SOp C D U .Mult mulM := fun a b wa wb μ ra rb A hA σ s r v σ' e Q E q => by
  induction ra with
  | str x t =>
    induction rb with
    | int n u =>
      unfold mulM at e
      simp only at e
      split at e
      · (first | exact nn e | cases e)
      rename_i hlow
      have hlow := of_decide_eq_true hlow
      cases hn : decide (n < 1) with
      | true =>
        rw [hn] at e
        (first | (have q := qc e q) | (have q := qcB e q) | cases e)
        have hn := of_decide_eq_true hn
        have hr : (decide (n < -(2 ^ 63 : Int)) || decide (n ≥ 2 ^ 63)) = false := by rw [Bool.or_eq_false_iff]; exact ⟨decide_eq_false (by omega), decide_eq_false (by omega)⟩
        refine PySem.P.mul_str hr (fun h => absurd hn h) (fun h => absurd hn h) ?_
        refine rwG (if_pos hn) ?_
        exact ⟨by decide, q μ _ _ (List.prefix_refl _) (r.toks _ _ _ _ rfl rfl) (.str [] _)⟩
      | false =>
        rw [hn] at e
        simp only at e
        split at e
        · rename_i hb
          (first | (have q := qc e q) | (have q := qcB e q) | cases e)
          rw [Bool.and_eq_true, decide_eq_true_eq] at hb
          have hx := Nat.le_of_ble_eq_true hb.2
          have hn := of_decide_eq_false hn
          have l1 := Cx_str_len ok x
          have hn1 : n.toNat < 50 := by omega
          have hmul : (C.str x).length * n.toNat ≤ 200 * 50 := Nat.mul_le_mul (by omega) (by omega)
          refine PySem.P.mul_str (by rw [Bool.or_eq_false_iff]; exact ⟨decide_eq_false (by omega), decide_eq_false (by omega)⟩) (fun _ _ => ?_) (fun _ _ => ?_) ?_
          · have : (1 : Int) ≤ n := by omega
            have h2 : (2 ^ 63 - 1 : Int) / n ≥ (2 ^ 63 - 1) / 50 := by
              refine Int.le_ediv_of_mul_le (by omega) ?_
              have : ((2 ^ 63 - 1) / 50 : Int) * n ≤ ((2 ^ 63 - 1) / 50 : Int) * 50 := Int.mul_le_mul_of_nonneg_left (by omega) (by decide)
              refine Int.le_trans this (by decide)
            intro h
            have h3 : ((C.str x).length : Int) ≤ 200 := by omega
            have h4 : (200 : Int) < (2 ^ 63 - 1) / 50 := by decide
            omega
          · unfold PySem.Builtin.Str.tooLong
            first | (exact decide_eq_false (by rw [sizeLine_eq]; omega)) | (simp [sizeLine_eq]; omega)
          · refine rwG (if_neg hn) ?_
            split
            · rename_i h1
              rw [Bool.or_eq_true, beq_iff_eq, beq_iff_eq] at h1
              have key : C.str (repS x n.toNat) = C.str x := by
                rcases h1 with h1 | h1
                · subst h1
                  show C.str (x ++ []) = _
                  rw [List.append_nil]
                · have e0 := fold_rep C x n.toNat #[]
                  have hx0 : (C.str x).cps = #[] := Array.eq_empty_of_size_eq_zero h1
                  rw [hx0] at e0
                  have : ∀ k, (List.replicate k (#[] : Array Nat)).foldl (· ++ ·) #[] = #[] := fun k => by
                    induction k with
                    | zero => rfl
                    | succ k ih => rw [List.replicate_succ, List.foldl_cons]; simpa using ih
                  rw [this] at e0
                  exact Str.ext' (by rw [hx0]; simpa using e0.symm)
              have := q μ s (.str (C.str x) t) (List.prefix_refl _) r (by rw [← key]; exact .str _ _)
              exact this
            · have e0 := fold_rep C x n.toNat #[]
              have key : (⟨(List.replicate n.toNat (C.str x).cps).foldl (· ++ ·) #[]⟩ : Str) = C.str (repS x n.toNat) := Str.ext' (by rw [e0]; simp)
              refine rwG (key) ?_
              refine ⟨?_, q μ _ _ (List.prefix_refl _) (r.toks _ _ _ _ rfl rfl) (.str _ _)⟩
              have h5 := Cx_str_len ok (repS x n.toNat)
              have h6 : ∀ k, (repS x k).length = x.length * k := fun k => by
                induction k with
                | zero => rfl
                | succ k ih => show (x ++ repS x k).length = _; rw [List.length_append, ih, Nat.mul_succ, Nat.add_comm]
              rw [h6] at h5
              have : x.length * n.toNat ≤ 10 * 50 := Nat.mul_le_mul hx (by omega)
              rw [sizeLine_eq]; omega
        · (first | exact nn e | cases e)
    | _ => (first | exact nn e | cases e)
  | _ => (first | exact nn e | cases e)
end
end
end Mine
set_option genSizeOf false
set_option genInjectivity false
namespace Mine
noncomputable section
open PySem PySem.W PyProof.Rows PySem.Calls
noncomputable def GD (f : Addr) (h1 : (fdOf f).scope.kind = .function) (h2 : (fdOf f).globals = mainGlobals) (h3 : (fdOf f).builtins = builtinsNs) (h4 : (tabN f).all (fun x => (callEnv (fdOf f) 0 f).kindOf x == some .local) = true) (h5 : (tabN f).Nodup) : FE where
  env L := callEnv (fdOf f) L f
  ok _ := True
  mono _ h := h
  tag := f
  fn _ := h1
  loc _ := rfl
  glb _ := h2
  blt _ := h3
  knd L x hx := by
    have := List.all_eq_true.mp h4 x hx
    exact eq_of_beq this
  nd := h5
structure GOk (f : Addr) : Prop where
  a : (fdOf f).scope.kind = .function
  b : (fdOf f).globals = mainGlobals
  c : (fdOf f).builtins = builtinsNs
  d : (tabN f).all (fun x => (callEnv (fdOf f) 0 f).kindOf x == some .local) = true
  e : (tabN f).Nodup
noncomputable abbrev GG (f : Addr) (h : GOk f) : FE := GD f h.a h.b h.c h.d h.e
theorem ok391 : GOk 391 := ⟨by kernel_rfl, by kernel_rfl, by kernel_rfl, by kernel_rfl, by decide⟩
end
end Mine
set_option genSizeOf false
set_option genInjectivity false
namespace Mine
noncomputable section
open PySem PySem.W PyProof.Rows PySem.Calls
section
variable {C : Cx} {D U : Nat} {Γ : FE}
theorem go_letT {prog : Program} {w : World} {A : Around} {E : Value → Shared → Prop} {s : Shared} {base : Expr} {o r : Value} {Q : Unit → Shared → Prop} (h : Q () s) : wpAny (model prog w) A (letTemporaryGo base o r) Q E s := by
  have key : wpAny (model prog w) A (do let _ ← holding [r] (runValue (.builtin "proto.let_go" {}))) Q E s :=
    wpAny_bind (wpAny_holding (wpAny_runValue (codeAny_builtin entry_let_go (show wpAny _ _ (_root_.PySem.ret .none) _ _ s from wpAny_pure (wpAny_pure h)))))
  have goO : wpAny (model prog w) A (letTemporaryGo (.Tuple [] 0 ⟨0, 0, 0, 0⟩) o r) Q E s := by cases o <;> first | exact wpAny_pure h | exact key
  have go1 : ∀ X : Sem Unit, X = letTemporaryGo (.Tuple [] 0 ⟨0, 0, 0, 0⟩) o r → wpAny (model prog w) A X Q E s := fun X e => e ▸ goO
  clear key goO
  cases base <;> first | exact wpAny_pure h | exact go1 _ (by kernel_rfl)
/-- the last of a subscript, whichever its form -/
theorem sub_tail {prog : Program} {w : World} {A : Around} {E : Value → Shared → Prop} {s : Shared} {value slice : Expr} {o i : Value} {Q : Value → Shared → Prop}
    (hsp : ∀ Q' : Bool → Shared → Prop, Q' false s → wpAny (model prog w) A (getitemInPython o) Q' E s)
    (h : wpAny (model prog w) A (getItem o i) Q E s) (hs : ∃ l, subscripted slice false o i = operate l (getItem o i)) : wpAny (model prog w) A (subscriptTail value slice o i) Q E s := by
  obtain ⟨l, hs⟩ := hs
  unfold subscriptTail
  refine wpAny_bind (hsp _ ?_)
  have fin : wpAny (model prog w) A (subscripted slice false o i) (fun r s₃ => wpAny (model prog w) A (letTemporaryGo value o r >>= fun _ => pure r) Q E s₃) E s := by
    refine rwG (hs) ?_
    exact wpAny_operating (wpAny_mono h (fun r s₃ h₃ => wpAny_bind (go_letT (wpAny_pure h₃))) fun _ _ x => x)
  exact wpAny_bind fin
theorem gip_type {prog : Program} {w : World} {A : Around} {E : Value → Shared → Prop} {s : Shared} {o : Value} {T id : String} (hT : s.TypeIs o T) (hl : typeLookup (.type T) "__getitem__" = pure (some (.builtin id))) (Q' : Bool → Shared → Prop) (q : Q' false s) :
    wpAny (model prog w) A (getitemInPython o) Q' E s := by
  refine rwG (getitemInPython_of_ne hT.not_modules) ?_
  refine wpAny_bind (wpAny_specialOf hT hl ?_)
  first
    | exact wpAny_pure q
    | exact wpAny_bind (wpAny_pure q)
/-- an item: what the VM picks -/
noncomputable def idxV (k : Int) (n : Nat) : Option Nat := match decide (0 ≤ k) && decide (k < 2 ^ 30) with
  | true => some k.toNat
  | false => match decide (-(n : Int) ≤ k) && decide (k < 0) && decide (-(2 ^ 30) < k) with
    | true => some (k + n).toNat
    | false => none
noncomputable def strAt : List At → Nat → Option Nat
  | .ch c :: _, 0 => some c
  | .ch _ :: r, n + 1 => strAt r n
  | _, _ => none
theorem strAt_some {C : Cx} : ∀ {x : List At} {n c : Nat}, strAt x n = some c → (C.str x).cps[n]? = some c
  | .ch d :: r, 0, c, h => by
    have h : d = c := Option.some.inj h
    subst h
    show ((⟨#[d]⟩ : Str) ++ C.str r).cps[0]? = some d
    rw [Str.cps_append, Array.getElem?_append_left (by simp)]; rfl
  | .ch d :: r, n + 1, c, h => by
    show ((⟨#[d]⟩ : Str) ++ C.str r).cps[n + 1]? = some c
    rw [Str.cps_append, Array.getElem?_append_right (by simp)]
    exact strAt_some (x := r) h
  | [], _, _, h => by cases h
  | .lab _ :: _, _, _, h => by cases h
noncomputable def itM (a i : V) : M V := fun σ => match a, i with
  | .ref n, .int k => match σ.get n with
    | some (.list xs) => match idxV k xs.length with
      | some j => match xs[j]? with
        | some x => some (x, σ)
        | none => none
      | none => none
    | some (.tup xs) => match idxV k xs.length with
      | some j => match xs[j]? with
        | some x => some (x, σ)
        | none => none
      | none => none
    | _ => none
  | .str x, .int k => match decide (0 ≤ k) && decide (k < 2 ^ 30) with
    | true => match strAt x k.toNat with
      | some c => some (.str [.ch c], σ)
      | none => none
    | false => none
  | _, _ => none
theorem idxV_some {k : Int} {n j : Nat} (h : idxV k n = some j) : (0 ≤ k ∧ k < 2 ^ 30 ∧ j = k.toNat) ∨ (k < 0 ∧ -(n : Int) ≤ k ∧ -(2 ^ 30) < k ∧ j = (k + n).toNat) := by
  unfold idxV at h
  split at h
  · rename_i q
    rw [Bool.and_eq_true, decide_eq_true_eq, decide_eq_true_eq] at q
    cases h; exact .inl ⟨q.1, q.2, rfl⟩
  · split at h
    · rename_i q
      rw [Bool.and_eq_true, Bool.and_eq_true, decide_eq_true_eq, decide_eq_true_eq, decide_eq_true_eq] at q
      cases h; exact .inr ⟨q.1.2, q.1.1, q.2, rfl⟩
    · (first | exact nn h | cases h)
theorem str_one (c : Nat) : C.str [.ch c] = (⟨#[c]⟩ : Str) := Str.ext' (by show ((⟨#[c]⟩ : Str) ++ (⟨#[]⟩ : Str)).cps = _; rw [Str.cps_append]; simp)
theorem it_snd {value slice : Expr} (hs : ∀ o i, ∃ l, subscripted slice false o i = operate l (getItem o i)) {μ : List Addr} {a i : V} {w wi : Value} (rv : RV C μ a w) (ri : RV C μ i wi) : Snd C D U (RV C) (subscriptTail value slice w wi) (itM a i) μ := fun A hA σ s r b σ' e Q E q => by
  unfold itM at e
  induction rv with
  | ref n ad hn =>
    induction ri with
    | int k t =>
      simp only at e
      split at e
      · rename_i xs g1
        split at e
        · rename_i j hj
          split at e
          · rename_i y hy
            (first | (have q := qc e q) | (have q := qcB e q) | cases e)
            refine Rel.at_e r g1 hn (fun o' ho hr => ?_)
            obtain ⟨ws, hl', rvs⟩ := list_of ho hr
            obtain ⟨z, hz, rz⟩ := rvs.get hy
            have hsz : ws.size = xs.length := by rw [← rvs.len]; simp
            refine sub_tail (gip_type hl'.typeIs F.slot_list_getitem.lookup) ?_ (hs _ _)
            rcases idxV_some hj with ⟨h0, h1, h2⟩ | ⟨h0, h1, h2, h3⟩
            · exact wpAny_getItem_list hl' h0 (by omega) (x := z) (by rw [← h2, ← Array.getElem?_toList]; exact hz) (q μ s z (List.prefix_refl _) r rz)
            · exact wpAny_getItem_list_neg hl' h0 (by rw [hsz]; exact h1) (by omega) (x := z) (by rw [hsz, ← h3, ← Array.getElem?_toList]; exact hz) (q μ s z (List.prefix_refl _) r rz)
          · (first | exact nn e | cases e)
        · (first | exact nn e | cases e)
      · rename_i xs g1
        split at e
        · rename_i j hj
          split at e
          · rename_i y hy
            (first | (have q := qc e q) | (have q := qcB e q) | cases e)
            refine Rel.at_e r g1 hn (fun o' ho hr => ?_)
            obtain ⟨ws, hl', rvs⟩ := tup_of ho hr
            obtain ⟨z, hz, rz⟩ := rvs.get hy
            have hsz : ws.size = xs.length := by rw [← rvs.len]; simp
            have hT : IsTup s.heap ad ws := hl'
            have hjl : j < xs.length := (List.getElem?_eq_some_iff.mp hy).1
            refine sub_tail (gip_type hT.typeIs slot_tuple_getitem.lookup) (getItem_tuple hT (j := j) (x := z) ?_ ?_ ?_ (by rw [← Array.getElem?_toList]; exact hz) (q μ s z (List.prefix_refl _) r rz)) (hs _ _)
            · rcases idxV_some hj with ⟨h0, h1, h2⟩ | ⟨h0, h1, h2, h3⟩ <;> omega
            · rcases idxV_some hj with ⟨h0, h1, h2⟩ | ⟨h0, h1, h2, h3⟩ <;> omega
            · unfold seqIndex?
              rcases idxV_some hj with ⟨h0, h1, h2⟩ | ⟨h0, h1, h2, h3⟩
              · simp only [hsz]
                have e1 : ¬ (k < 0) := by omega
                simp only [e1, if_false]
                subst h2
                first
                  | (rw [if_pos (by omega)])
                  | (simp; omega)
              · simp only [hsz]
                have e1 : (k < 0) := by omega
                simp only [e1, if_true]
                subst h3
                first
                  | (rw [if_pos (by omega)])
                  | (simp; omega)
          · (first | exact nn e | cases e)
        · (first | exact nn e | cases e)
      · (first | exact nn e | cases e)
    | _ => (first | exact nn e | cases e)
  | str x t =>
    induction ri with
    | int k t =>
      simp only at e
      split at e
      · rename_i hb
        rw [Bool.and_eq_true, decide_eq_true_eq, decide_eq_true_eq] at hb
        split at e
        · rename_i c hc
          (first | (have q := qc e q) | (have q := qcB e q) | cases e)
          have hc' := strAt_some (C := C) hc
          have hlt := (Array.getElem?_eq_some_iff.mp hc').1
          refine sub_tail (gip_type (typeIs_str _ _ _) slot_str_getitem.lookup) (PyProof.Rows.getItem_str (c := c) ?_ ?_ (q μ _ _ (List.prefix_refl _) (r.toks _ _ _ _ rfl rfl) ?_)) (hs _ _)
          · rw [Bool.or_eq_false_iff]; exact ⟨decide_eq_false (by omega), decide_eq_false (by omega)⟩
          · have : seqIndex? k (C.str x).length = some k.toNat := by
              unfold seqIndex?
              have e1 : ¬ (k < 0) := by omega
              have h3 : k.toNat < (C.str x).length := hlt
              simp only [e1, if_false]
              first
                | (rw [if_pos (by omega)])
                | (simp; omega)
            rw [this]; exact hc'
          · rw [← str_one (C := C) c]; exact .str _ _
        · (first | exact nn e | cases e)
      · (first | exact nn e | cases e)
    | _ => (first | exact nn e | cases e)
  | _ => (first | exact nn e | cases e)
end
end
end Mine
set_option genSizeOf false
set_option genInjectivity false
namespace Mine
noncomputable section
open PySem PySem.W PyProof.Rows PySem.Calls
section
variable {C : Cx} {D U : Nat} {Γ : FE}
/-! an accumulator: a list of the program's own class -/
noncomputable def accAt (v : V) (σ : St) : Option (Nat × Nat × List V × List (Nat × V)) := match v with
  | .ref n => match σ.get n with
    | some (.acc d xs) => match σ.get d with
      | some (.dic vs) => match keysOk vs && Nat.ble xs.length 1000 with
        | true => some (n, d, xs, vs)
        | false => none
      | _ => none
    | _ => none
  | _ => none
theorem accAt_some {v : V} {σ : St} {n d : Nat} {xs : List V} {vs : List (Nat × V)} (h : accAt v σ = some (n, d, xs, vs)) : v = .ref n ∧ σ.get n = some (.acc d xs) ∧ σ.get d = some (.dic vs) ∧ keysOk vs = true ∧ xs.length ≤ 1000 := by
  unfold accAt at h
  split at h
  · split at h
    · split at h
      · split at h
        · rename_i q
          rw [Bool.and_eq_true] at q
          (first | (have q := qc h q) | (have q := qcB h q) | cases h)
          exact ⟨rfl, by assumption, by assumption, q.1, Nat.le_of_ble_eq_true q.2⟩
        · (first | exact nn h | cases h)
      · (first | exact nn h | cases h)
    · (first | exact nn h | cases h)
  · (first | exact nn h | cases h)
theorem acc_inst {μ : List Addr} {σ : St} {s : Shared} (r : Rel C μ σ s) {n d : Nat} {a : Addr} {xs : List V} {vs : List (Nat × V)} (hn : μ[n]? = some a) (h1 : σ.get n = some (.acc d xs)) (h2 : σ.get d = some (.dic vs)) :
    ∃ ws k da es m, s.heap.get? a = some ⟨.ref 195, some da, .seq ws k, #[]⟩ ∧ μ[d]? = some da ∧ RVs C μ xs ws.toList ∧ ws.size = xs.length ∧ InstAt s.heap a ⟨.ref 195, some da, .seq ws k, #[]⟩ 195 (some (dictOf es m)) ∧ DR C μ vs es := by
  refine Rel.at_e r h1 hn (fun o ho hzz => ?_); obtain ⟨ws, k, da, hd, e, rvs⟩ := hzz
  subst e
  refine Rel.at_e r h2 hd (fun od hod hzz => ?_); obtain ⟨es, m, e, dr⟩ := hzz
  subst e
  exact ⟨ws, k, da, es, m, ho, hd, rvs, by rw [← rvs.len]; simp, ⟨ho, rfl, rfl, hod⟩, dr⟩
theorem fa_sub (p) : subIn (KF p) (.ref 195) (.type "list") = some true := by kernel_rfl
theorem fa_getitem (p) : findIn (KF p) (.ref 195) "__getitem__" = some (some (.builtin "list.__getitem__")) := by kernel_rfl
theorem fa_setitem (p) : findIn (KF p) (.ref 195) "__setitem__" = some (some (.builtin "list.__setitem__")) := by kernel_rfl
theorem fa_iter (p) : findIn (KF p) (.ref 195) "__iter__" = some (some (.builtin "list.__iter__")) := by kernel_rfl
theorem fa_len (p) : findIn (KF p) (.ref 195) "__len__" = some (some (.ref 162)) := by kernel_rfl
theorem fa_bool (p) : findIn (KF p) (.ref 195) "__bool__" = some none := by kernel_rfl
theorem fa_noseq (p) : noSeq (KF p) 195 = true := by kernel_rfl
theorem fa_ga (p) : findIn (KF p) (.ref 195) "__getattribute__" = some (some (.builtin "list.__getattribute__")) := by kernel_rfl
theorem fa_gk (p) : findIn (KF p) (.ref 195) "__getattr__" = some none := by kernel_rfl
theorem canon_lga : Manifest.canonical "list.__getattribute__" = "object.__getattribute__" := by decide +kernel
/-- a builtin of list's own, called with one of the class below list -/
theorem acc_call {w : World} {A : Around} {E : Value → Shared → Prop} {s : Shared} {a : Addr} {ox : Obj} {od : Option Obj} {id n : String} {b : Builtin} {rest : List Value} {Q : Value → Shared → Prop} (X : (KF w.params).In s.heap) (I : InstAt s.heap a ox 195 od)
    (hk : builtinKind id = some .method ∨ builtinKind id = some .slot) (hs : splitId id = some ("list", n)) (hp : plainId id = true) (hb : entryFor table id = some b) (ha : argsOk id ⟨.ref a :: rest, []⟩)
    (h : wpAny (model P w) A.in1 (b ⟨.ref a :: rest, []⟩) (fun fin s' => ∃ v, fin = .done (.ret v) ∧ Q v s') E s) : wpAny (model P w) A (call (.builtin id) (.ref a :: rest)) Q E s := by
  refine wpAny_call (codeAny_call_builtin hp hb ?_)
  have fin : wpAny (model P w) A.in1 (b ⟨.ref a :: rest, []⟩) (fun fin s' => match fin with | .done f => (match Except.ok f with | .ok (.ret v) => Q v s' | .ok _ => False | .error x => E x s') | .again c' => c'.quiet = true ∧ codeAny (model P w) A c' (fun r s' => match r with | .ok (.ret v) => Q v s' | .ok _ => False | .error x => E x s') s') (fun e s' => E e s') s :=
    wpAny_mono h (fun fin s' h' => by obtain ⟨v, rfl, hv⟩ := h'; exact hv) fun _ _ x => x
  have inst : Looks (model P w) s.heap (isInstance (.ref a) (.type "list")) true := I.type.andThen (looks_subIn X (fa_sub w.params))
  rcases hk with hk | hk <;>
  · simp only [checkBuiltinCall, hk, hs]
    refine wpAny_bind (inst.here ?_)
    simp only [Bool.not_true, Bool.false_eq_true, if_false]
    cases hsig : Manifest.signature? id with
    | none => exact wpAny_pure fin
    | some sig =>
      simp only [argsOk, hsig] at ha
      have h2 : Bind.checkArgs id sig ⟨.ref a :: rest, []⟩ = pure () := ha
      show wpAny _ _ (Bind.checkArgs id sig ⟨.ref a :: rest, []⟩) _ _ _
      rw [h2]; exact wpAny_pure fin
end
end
end Mine
set_option genSizeOf false
set_option genInjectivity false
namespace Mine
noncomputable section
open PySem PySem.W PyProof.Rows PySem.Calls
section
variable {C : Cx} {D U : Nat} {Γ : FE}
theorem acc_special {w : World} {A : Around} {E : Value → Shared → Prop} {s : Shared} {a : Addr} {ox : Obj} {od : Option Obj} {id : String} {name : Str} {args : List Value} {Q : Option Value → Shared → Prop} (X : (KF w.params).In s.heap) (I : InstAt s.heap a ox 195 od)
    (hf : findIn (KF w.params) (.ref 195) name = some (some (.builtin id))) (hb : ∀ self, bindSpecial (.builtin id) self = pure (.builtin id, [self]))
    (h : wpAny (model P w) A (call (.builtin id) (.ref a :: args)) (fun v => Q (some v)) E s) : wpAny (model P w) A (callSpecial? (.ref a) name args) Q E s := by
  unfold callSpecial?
  refine wpAny_bind (wpAny_bind (I.type.here ((looks_findIn X hf).here ?_)))
  refine wpAny_holding (wpAny_bind ?_)
  rw [hb]
  exact wpAny_pure (wpAny_bind (wpAny_mono h (fun _ _ z => wpAny_pure z) fun _ _ z => z))
theorem acc_key {w : World} {A : Around} {E : Value → Shared → Prop} {s : Shared} {a : Addr} {ox : Obj} {od : Option Obj} {k : Value} {name : Str} {Q : Value → Shared → Prop} (X : (KF w.params).In s.heap) (I : InstAt s.heap a ox 195 od) (h : Q k s) : wpAny (model P w) A (sequenceKey (.ref a) k name) Q E s := by
  unfold sequenceKey
  refine wpAny_bind (I.type.here ?_)
  refine wpAny_bind ((anyM_none X (fa_noseq w.params)).here ?_)
  refine wite_p (show (!false) = true from rfl) ?_
  exact wpAny_pure h
theorem acc_getItem {w : World} {A : Around} {E : Value → Shared → Prop} {s : Shared} {a : Addr} {ox : Obj} {od : Option Obj} {i : Value} {Q : Value → Shared → Prop} (X : (KF w.params).In s.heap) (I : InstAt s.heap a ox 195 od)
    (h : wpAny (model P w) A (call (.builtin "list.__getitem__") [.ref a, i]) Q E s) : wpAny (model P w) A (getItem (.ref a) i) Q E s := by
  unfold getItem
  refine wpAny_holding (wpAny_bind (acc_key X I ?_))
  refine wpAny_bind (acc_special X I (fa_getitem w.params) slot_list_getitem.bind (wpAny_mono h (fun _ _ z => wpAny_pure z) fun _ _ z => z))
theorem acc_gip {w : World} {A : Around} {E : Value → Shared → Prop} {s : Shared} {a : Addr} {ox : Obj} {od : Option Obj} (X : (KF w.params).In s.heap) (I : InstAt s.heap a ox 195 od) (Q : Bool → Shared → Prop) (q : Q false s) : wpAny (model P w) A (getitemInPython (.ref a)) Q E s := by
  unfold getitemInPython
  exact wpAny_bind (wpAny_bind (I.type.here ((looks_findIn X (fa_getitem w.params)).here (wpAny_pure q))))
/-! slices -/
noncomputable def SP (C : Cx) (D U : Nat) (Γ : FE) (x : Option Expr) (f : Nat → M V) : Prop := ∀ l L μ, Γ.ok μ → μ[l]? = some L → Snd C D U (RV C) (evalPart x (Γ.env L)) (f l) μ
theorem SP_none : SP C D U Γ none (fun _ => ret .none) := fun l L μ hok hl A hA σ s r b σ' e Q E q => by
  cases e; exact wpAny_pure (q μ s _ (List.prefix_refl _) r .none)
theorem SP_some {e : Expr} {f : Nat → M V} (h : SE C D U Γ e f) : SP C D U Γ (some e) f := h
theorem SE_slice {lo hi st : Option Expr} {p : Pos} {f g h : Nat → M V} (h1 : SP C D U Γ lo f) (h2 : SP C D U Γ hi g) (h3 : SP C D U Γ st h) :
    SE C D U Γ (.Slice lo hi st p) (fun l => bnd (f l) fun a => bnd (g l) fun b => bnd (h l) fun c => alloc (.slc a b c)) := fun l L μ hok hl A hA σ s r b σ' e Q E q => by
  refine bnd_e e fun a σ₁ e1 e => ?_
  refine bnd_e e fun b σ₂ e2 e => ?_
  refine bnd_e e fun c σ₃ e3 e => ?_
  obtain ⟨hz, e4, e5⟩ := alloc_some e
  simp only at e4 e5
  subst e4 e5
  refine wpAny_Slice (h1 l L μ hok hl A hA σ s r a σ₁ e1 _ E fun μ₁ s₁ va hp1 r₁ ra => ?_)
  refine h2 l L μ₁ (Γ.mono hp1 hok) (mu_ext hp1 hl) A hA σ₁ s₁ r₁ b σ₂ e2 _ E fun μ₂ s₂ vb hp2 r₂ rb => ?_
  have p2 := List.IsPrefix.trans hp1 hp2
  refine h3 l L μ₂ (Γ.mono p2 hok) (mu_ext p2 hl) A hA σ₂ s₂ r₂ c σ₃ e3 _ E fun μ₃ s₃ vc hp3 r₃ rc => ?_
  have p3 := List.IsPrefix.trans p2 hp3
  have px := List.prefix_append μ₃ [s₃.heap.objs.size]
  exact q _ _ _ (List.IsPrefix.trans p3 px) (r₃.alloc rfl hz ⟨va, vb, vc, rfl, (ra.ext (List.IsPrefix.trans hp2 hp3)).ext px, (rb.ext hp3).ext px, rc.ext px⟩) (ref_new r₃)
noncomputable def partV : V → Option (Option Int)
  | .none => some none
  | .int i => some (some i)
  | _ => none
theorem partV_is {μ : List Addr} {v : V} {w : Value} {p : Option Int} (r : RV C μ v w) (h : partV v = some p) : IsPart w p := by
  induction r with
  | none => cases h; exact .none
  | int i t => cases h; exact .int i t
  | _ => (first | exact nn h | cases h)
noncomputable def nz : Option Int → Bool
  | none => true
  | some k => !(decide (k = 0))
theorem nz_ne {st : Option Int} (h : nz st = true) : st ≠ some 0 := by
  rintro rfl; cases h
noncomputable def pickV (xs : List V) (lo hi st : Option Int) : List V := (sliceRange (sliceBounds lo hi st xs.length).1 (sliceBounds lo hi st xs.length).2.1 (sliceBounds lo hi st xs.length).2.2).filterMap (xs[·]?)
theorem RVs.pick {μ : List Addr} {xs : List V} {ws : List Value} (r : RVs C μ xs ws) : ∀ is : List Nat, RVs C μ (is.filterMap (xs[·]?)) (is.filterMap (ws[·]?))
  | [] => .nil
  | i :: is => by
    have ih := r.pick is
    cases h : xs[i]? with
    | none => rw [List.filterMap_cons_none (by exact h), List.filterMap_cons_none (by exact r.get_none h)]; exact ih
    | some x =>
      obtain ⟨y, hy, ry⟩ := r.get h
      refine rwG (List.filterMap_cons_some (by exact h)) ?_; refine rwG (List.filterMap_cons_some (by exact hy)) ?_
      exact .cons ry ih
theorem pick_rel {μ : List Addr} {xs : List V} {ws : Array Value} (r : RVs C μ xs ws.toList) (lo hi st : Option Int) : RVs C μ (pickV xs lo hi st) (slicePick ws lo hi st).toList := by
  have hsz : ws.size = xs.length := by rw [← r.len]; simp
  have := r.pick (sliceRange (sliceBounds lo hi st xs.length).1 (sliceBounds lo hi st xs.length).2.1 (sliceBounds lo hi st xs.length).2.2)
  unfold pickV slicePick
  refine rwG (hsz) ?_
  simpa using this
/-- the slice's parts -/
noncomputable def slcAt (i : V) (σ : St) : Option (Option Int × Option Int × Option Int) := match i with
  | .ref m => match σ.get m with
    | some (.slc l u st) => match partV l with
      | some lo => match partV u with
        | some hi => match partV st with
          | some s => match nz s with
            | true => some (lo, hi, s)
            | false => none
          | none => none
        | none => none
      | none => none
    | _ => none
  | _ => none
theorem slcAt_some {i : V} {σ : St} {lo hi st : Option Int} (h : slcAt i σ = some (lo, hi, st)) : ∃ m l u s, i = .ref m ∧ σ.get m = some (.slc l u s) ∧ partV l = some lo ∧ partV u = some hi ∧ partV s = some st ∧ nz st = true := by
  unfold slcAt at h
  split at h
  · split at h
    · split at h
      · split at h
        · split at h
          · split at h
            · cases h; exact ⟨_, _, _, _, rfl, by assumption, by assumption, by assumption, by assumption, by assumption⟩
            · (first | exact nn h | cases h)
          · (first | exact nn h | cases h)
        · (first | exact nn h | cases h)
      · (first | exact nn h | cases h)
    · (first | exact nn h | cases h)
  · (first | exact nn h | cases h)
noncomputable def slM (a i : V) : M V := fun σ => match slcAt i σ with
  | some (lo, hi, st) => match a with
    | .ref n => match σ.get n with
      | some (.list xs) => match Nat.ble xs.length 1000 with
        | true => alloc (.list (pickV xs lo hi st)) σ
        | false => none
      | some (.acc _ _) => match accAt (.ref n) σ with
        | some (_, _, xs, _) => alloc (.list (pickV xs lo hi st)) σ
        | none => none
      | _ => none
    | .str (.ch _ :: x) => match lo, hi, st with
      | some 1, none, none => match Nat.ble x.length 1000 with
        | true => some (.str x, σ)
        | false => none
      | _, _, _ => none
    | _ => none
  | none => none
theorem slc_is {μ : List Addr} {σ : St} {s : Shared} (r : Rel C μ σ s) {m : Nat} {a : Addr} {l u st : V} (hm : μ[m]? = some a) (h : σ.get m = some (.slc l u st)) : ∃ va vb vc, s.heap.IsSliceOf a va vb vc ∧ RV C μ l va ∧ RV C μ u vb ∧ RV C μ st vc := by
  refine Rel.at_e r h hm (fun o ho hzz => ?_); obtain ⟨va, vb, vc, e, r1, r2, r3⟩ := hzz
  subst e
  exact ⟨va, vb, vc, ⟨_, ho, rfl, rfl⟩, r1, r2, r3⟩
end
end
end Mine
set_option genSizeOf false
set_option genInjectivity false
namespace Mine
noncomputable section
open PySem PySem.W PyProof.Rows PySem.Calls
section
variable {C : Cx} {D U : Nat} {Γ : FE}
theorem acc_getslice {w : World} {A : Around} {E : Value → Shared → Prop} {s : Shared} {l sl : Addr} {ox : Obj} {od : Option Obj} {items : Array Value} {ne : Nat} {vl vu vs : Value} {lo hi st : Option Int} {Q : Value → Shared → Prop} (X : (KF w.params).In s.heap) (I : InstAt s.heap l ox 195 od)
    (hd : ox.data = .seq items ne) (hs : s.heap.IsSliceOf sl vl vu vs) (pl : IsPart vl lo) (pu : IsPart vu hi) (ps : IsPart vs st) (h0 : st ≠ some 0)
    (h : Q (.ref s.heap.objs.size) { s with heap := s.heap.push { cls := .type "list", data := .seq (slicePick items lo hi st) } })
    (hsz : items.size ≤ sizeLine) : wpAny (model P w) A (getItem (.ref l) (.ref sl)) Q E s := by
  have ho := I.at_
  obtain ⟨os, hos, hcs, hds⟩ := id hs
  have hTs : s.TypeIs (.ref sl) "slice" := ⟨os, hos, hcs⟩
  refine acc_getItem X I (acc_call X I (n := "__getitem__") (by decide +kernel) (by decide +kernel) (by decide +kernel) entry_list_getitem (args_list_getitem _ _) ?_)
  show wpAny _ _ (Builtin.List.listSubscript? (.ref sl) >>= _) _ _ s
  refine wpAny_bind ?_
  · unfold Builtin.List.listSubscript?
    refine wpAny_bind (wpAny_specialOf hTs slice_no_index ?_)
    simp only [Option.isNone_none, if_true]
    refine wpAny_pure ?_
    show wpAny _ _ (typeOf (.ref sl) >>= _) _ _ s
    refine wpAny_bind (wpAny_typeOf hTs ?_)
    refine wite_n (by decide) ?_
    rw [listSliceParts_eq]
    have hstep : ¬ ((rawPart st == rawInt 0) = true) := by
      induction st with
      | none => exact Bool.false_ne_true
      | some c =>
        intro hh
        have : c = 0 := by simpa [rawPart, rawInt] using hh
        exact h0 (by rw [this])
    refine wpAny_bind (wpAny_bind (wpAny_field hos hds (x := vs) rfl (wpAny_bind (wpAny_listPart ps ?_))))
    refine wite_n hstep ?_
    refine wpAny_bind (wpAny_field hos hds (x := vl) rfl (wpAny_bind (wpAny_listPart pl ?_)))
    refine wpAny_bind (wpAny_field hos hds (x := vu) rfl (wpAny_bind (wpAny_listPart pu (wpAny_pure ?_))))
    refine wpAny_bind (m := Builtin.List.listItems (.ref l)) ?_
    · unfold Builtin.List.listItems
      refine wpAny_bind (wpAny_seqItems ho hd (wpAny_pure ?_))
      refine wpAny_bind (wpAny_of_eq (sliceIndices_raw lo hi st items.size h0) ?_)
      refine wpAny_bind (wpAny_newObj_type (wpAny_pure ⟨_, rfl, h⟩) (Nat.le_trans (slicePick_size_le items lo hi st) hsz))
theorem acc_getint {w : World} {A : Around} {E : Value → Shared → Prop} {s : Shared} {l : Addr} {ox : Obj} {od : Option Obj} {items : Array Value} {ne : Nat} {k : Int} {t : Tok} {x : Value} {Q : Value → Shared → Prop} (X : (KF w.params).In s.heap) (I : InstAt s.heap l ox 195 od)
    (hd : ox.data = .seq items ne) (h0 : 0 ≤ k) (hfit : k < 2 ^ 63) (hx : items[k.toNat]? = some x) (h : Q x s) : wpAny (model P w) A (getItem (.ref l) (.int k t)) Q E s := by
  have ho := I.at_
  refine acc_getItem X I (acc_call X I (n := "__getitem__") (by decide +kernel) (by decide +kernel) (by decide +kernel) entry_list_getitem (args_list_getitem _ _) ?_)
  show wpAny _ _ (Builtin.List.listSubscript? (.int k t) >>= _) _ _ s
  refine wpAny_bind (wpAny_listSubscript_int (by unfold Builtin.List.listFitsIndex; rw [Bool.and_eq_true, decide_eq_true_eq, decide_eq_true_eq]; omega) ?_)
  clear hfit
  obtain ⟨j, rfl⟩ := Int.eq_ofNat_of_zero_le h0
  have hx' : items[j]? = some x := hx
  show wpAny _ _ ((seqItemAt l j >>= fun r => pure (r.map (j, ·))) >>= _) _ _ s
  refine wpAny_bind (wpAny_bind (wpAny_seqItemAt ho hd (wpAny_pure ?_)))
  refine rwG (hx') ?_
  first
    | exact wpAny_bind (wpAny_pure (wpAny_pure ⟨x, rfl, h⟩))
    | exact wpAny_pure ⟨x, rfl, h⟩
    | exact wpAny_bind (wpAny_pure ⟨x, rfl, h⟩)
theorem str_rest {c : Nat} {x : List At} {t : Tok} {s : Shared} {Q : Value → Shared → Prop} (hz : (C.str x).length ≤ sizeLine) (h : ∀ t' k, Q (.str (C.str x) t') { s with toks := k }) (u : Tok) :
    (sliceMade (C.str (.ch c :: x)) t (some (1, u)) none none).post Q s := by
  have hl : (C.str (.ch c :: x)).length = (C.str x).length + 1 := by
    show ((⟨#[c]⟩ : Str) ++ C.str x).length = _
    rw [Str.length_append]; show 1 + _ = _; omega
  have hcps : (C.str (.ch c :: x)).cps = #[c] ++ (C.str x).cps := Str.cps_append _ _
  generalize hX : C.str (.ch c :: x) = X at *
  have hsz : X.cps.size = (C.str x).length + 1 := hl
  have hp : slicePicked X (some (1, u)) none none = (List.range (C.str x).length).map (1 + ·) := by
    unfold slicePicked PySem.Builtin.Str.strSliceIndices
    refine rwG (hl) ?_
    have e1 : (max (0 : Int) (min 1 (((C.str x).length + 1 : Nat) : Int))) = ((1 : Nat) : Int) := by omega
    simp only [Option.map_some, Option.map_none, Option.getD_none, show ((1 : Int) > 0) = True from by simp, if_true, show ¬ ((1 : Int) < 0) from by decide, if_false, e1]
    rw [sliceRange_one]
    simp
  unfold sliceMade
  refine rwG (hp) ?_
  rw [if_neg]
  · have key : (⟨(((List.range (C.str x).length).map (1 + ·)).filterMap (X.cps[·]?)).toArray⟩ : Str) = C.str x := by
      refine Str.ext' ?_
      rw [pick_run, hcps]
      have : (C.str x).length = (C.str x).cps.toList.length := by simp [Str.length]
      apply Array.toList_inj.mp
      have e3 : (C.str x).cps.toList.take (C.str x).cps.size = (C.str x).cps.toList := List.take_of_length_le (by simp)
      simp [this, e3]
    rw [key]
    exact ⟨hz, h _ _⟩
  · simp [Str.length] at hl ⊢
    omega
end
end
end Mine
set_option genSizeOf false
set_option genInjectivity false
namespace Mine
noncomputable section
open PySem PySem.W PyProof.Rows PySem.Calls
section
variable {C : Cx} {D U : Nat} {Γ : FE}
theorem sl_snd (ok : CxOk C) {value : Expr} {lo hi st : Option Expr} {p : Pos} {μ : List Addr} {a i : V} {w wi : Value} (rv : RV C μ a w) (ri : RV C μ i wi) : Snd C D U (RV C) (subscriptTail value (.Slice lo hi st p) w wi) (slM a i) μ := fun A hA σ s r b σ' e Q E q => by
  unfold slM at e
  split at e
  · rename_i l u t hi'
    obtain ⟨m, vl, vu, vs, rfl, g1, g2, g3, g4, g5⟩ := slcAt_some hi'
    have hsub : ∀ o i, ∃ l, subscripted (.Slice lo hi st p) false o i = operate l (getItem o i) := fun o i => by cases st <;> exact ⟨_, rfl⟩
    refine RV.eRef ri fun sa hm => ?_
    ·
      obtain ⟨wl, wu, wst, hsl, r1, r2, r3⟩ := slc_is r hm g1
      induction rv with
      | ref n ad hn =>
        simp only at e
        split at e
        · rename_i xs e1
          split at e
          · rename_i hb
            have hb := Nat.le_of_ble_eq_true hb
            obtain ⟨hz, e3, e4⟩ := alloc_some e
            simp only at e3 e4
            subst e3 e4
            refine Rel.at_e r e1 hn (fun o' ho hr => ?_)
            obtain ⟨ws, hl', rvs⟩ := list_of ho hr
            have hsz : ws.size = xs.length := by rw [← rvs.len]; simp
            refine sub_tail (gip_type hl'.typeIs F.slot_list_getitem.lookup) (wpAny_getItem_list_slice hl' hsl (partV_is r1 g2) (partV_is r2 g3) (partV_is r3 g4) (nz_ne g5) ?_ (by rw [hsz, sizeLine_eq]; omega)) (hsub _ _)
            exact q _ _ _ (List.prefix_append _ _) (r.alloc rfl hz ⟨_, 0, rfl, (pick_rel rvs _ _ _).ext (List.prefix_append _ _)⟩) (ref_new r)
          · (first | exact nn e | cases e)
        · rename_i d xs e1
          split at e
          · rename_i n' d' xs' vs' ha
            obtain ⟨h1, h2, h3, h4, h5⟩ := accAt_some ha
            cases h1
            obtain ⟨hz, e3, e4⟩ := alloc_some e
            simp only at e3 e4
            subst e3 e4
            obtain ⟨ws, k, da, es, mm, ho, hd, rvs, hsz, I, dr⟩ := acc_inst r hn h2 h3
            refine sub_tail (acc_gip (r.K ok) I) (acc_getslice (r.K ok) I rfl hsl (partV_is r1 g2) (partV_is r2 g3) (partV_is r3 g4) (nz_ne g5) ?_ (by rw [hsz, sizeLine_eq]; omega)) (hsub _ _)
            exact q _ _ _ (List.prefix_append _ _) (r.alloc rfl hz ⟨_, 0, rfl, (pick_rel rvs _ _ _).ext (List.prefix_append _ _)⟩) (ref_new r)
          · (first | exact nn e | cases e)
        · (first | exact nn e | cases e)
      | str x t' =>
        induction x with
        | nil => (first | exact nn e | cases e)
        | cons a x =>
          induction a with
          | lab k => (first | exact nn e | cases e)
          | ch c =>
            simp only at e
            split at e
            · split at e
              · rename_i hb
                (first | (have q := qc e q) | (have q := qcB e q) | cases e)
                have hb := Nat.le_of_ble_eq_true hb
                have hlen := Cx_str_len ok x
                cases partV_is r1 g2 with
                | int _ tk =>
                  cases partV_is r2 g3
                  cases partV_is r3 g4
                  refine sub_tail (gip_type (typeIs_str _ _ _) F.slot_str_getitem.lookup) (wpAny_getItem_str_slice (l := some (1, tk)) (u := none) (st := none) hsl rfl (str_rest (by rw [sizeLine_eq]; omega) (fun t' k => ?_) tk)) (hsub _ _)
                  exact q μ _ _ (List.prefix_refl _) (r.toks _ _ _ _ rfl rfl) (.str _ _)
              · (first | exact nn e | cases e)
            · (first | exact nn e | cases e)
      | _ => (first | exact nn e | cases e)
  · (first | exact nn e | cases e)
theorem SE_subS {value : Expr} {lo hi st : Option Expr} {p pos : Pos} {f g : Nat → M V} (ok : CxOk C) (h1 : SE C D U Γ value f) (h2 : SE C D U Γ (.Slice lo hi st p) g) :
    SE C D U Γ (.Subscript value (.Slice lo hi st p) pos) (fun l => bnd (f l) fun a => bnd (g l) fun b => slM a b) := fun l L μ hok hl A hA σ s r b σ' e Q E q => by
  refine bnd_e e fun a σ₁ e1 e2 => ?_
  refine bnd_e e2 fun c σ₂ e3 e4 => ?_
  refine Subscript_ ?_
  refine h1 l L μ hok hl A hA σ s r a σ₁ e1 _ E fun μ' s' w hp r' rv => ?_
  refine h2 l L μ' (Γ.mono hp hok) (mu_ext hp hl) A hA σ₁ s' r' c σ₂ e3 _ E fun μ'' s'' wi hp' r'' ri => ?_
  exact sl_snd ok (rv.ext hp') ri A hA σ₂ s'' r'' b σ' e4 Q E fun μ₃ s₃ v hp3 => q μ₃ s₃ v (List.IsPrefix.trans (List.IsPrefix.trans hp hp') hp3)
/-! an item of an accumulator -/
noncomputable def itA (a i : V) : M V := fun σ => match accAt a σ with
  | some (_, _, xs, _) => match i with
    | .int k => match decide (0 ≤ k) && decide (k < 2 ^ 30) with
      | true => match xs[k.toNat]? with
        | some x => some (x, σ)
        | none => none
      | false => none
    | _ => none
  | none => none
noncomputable def it2M (a i : V) : M V := fun σ => match accAt a σ with
  | some _ => itA a i σ
  | none => itM a i σ
theorem it2_snd (ok : CxOk C) {value slice : Expr} (hs : ∀ o i, ∃ l, subscripted slice false o i = operate l (getItem o i)) {μ : List Addr} {a i : V} {w wi : Value} (rv : RV C μ a w) (ri : RV C μ i wi) : Snd C D U (RV C) (subscriptTail value slice w wi) (it2M a i) μ := fun A hA σ s r b σ' e Q E q => by
  unfold it2M at e
  split at e
  · unfold itA at e
    split at e
    · rename_i n' d' xs' vs' ha
      obtain ⟨rfl, h2, h3, h4, h5⟩ := accAt_some ha
      refine RV.eRef rv fun ad hn => ?_
      ·
        induction ri with
        | int k t =>
          simp only at e
          split at e
          · rename_i hb
            rw [Bool.and_eq_true, decide_eq_true_eq, decide_eq_true_eq] at hb
            split at e
            · rename_i y hy
              (first | (have q := qc e q) | (have q := qcB e q) | cases e)
              obtain ⟨ws, kk, da, es, mm, ho, hd, rvs, hsz, I, dr⟩ := acc_inst r hn h2 h3
              obtain ⟨z, hz, rz⟩ := rvs.get hy
              exact sub_tail (acc_gip (r.K ok) I) (acc_getint (r.K ok) I rfl hb.1 (by omega) (x := z) (by rw [← Array.getElem?_toList]; exact hz) (q μ s z (List.prefix_refl _) r rz)) (hs _ _)
            · (first | exact nn e | cases e)
          · (first | exact nn e | cases e)
        | _ => (first | exact nn e | cases e)
    · (first | exact nn e | cases e)
  · exact it_snd hs rv ri A hA σ s r b σ' e Q E q
theorem SE_sub2 {value slice : Expr} {pos : Pos} {f g : Nat → M V} (ok : CxOk C) (h1 : SE C D U Γ value f) (h2 : SE C D U Γ slice g) (hs : autoParam (∀ o i, ∃ l, subscripted slice false o i = operate l (getItem o i)) au9._auto_1) :
    SE C D U Γ (.Subscript value slice pos) (fun l => bnd (f l) fun a => bnd (g l) fun b => it2M a b) := fun l L μ hok hl A hA σ s r b σ' e Q E q => by
  refine bnd_e e fun a σ₁ e1 e2 => ?_
  refine bnd_e e2 fun c σ₂ e3 e4 => ?_
  refine Subscript_ ?_
  refine h1 l L μ hok hl A hA σ s r a σ₁ e1 _ E fun μ' s' w hp r' rv => ?_
  refine h2 l L μ' (Γ.mono hp hok) (mu_ext hp hl) A hA σ₁ s' r' c σ₂ e3 _ E fun μ'' s'' wi hp' r'' ri => ?_
  exact it2_snd ok hs (rv.ext hp') ri A hA σ₂ s'' r'' b σ' e4 Q E fun μ₃ s₃ v hp3 => q μ₃ s₃ v (List.IsPrefix.trans (List.IsPrefix.trans hp hp') hp3)
/-! a slice of an accumulator, stored -/
noncomputable def startV (lo : Option Int) (n : Nat) : Option Nat := match lo with
  | none => some 0
  | some i => match decide (0 ≤ i) && decide (i ≤ n) with
    | true => some i.toNat
    | false => none
theorem startV_bounds {lo : Option Int} {n k : Nat} (h : startV lo n = some k) : sliceBounds lo none none n = ((k : Int), (n : Int), 1) ∧ k ≤ n := by
  unfold startV at h
  split at h
  · cases h; exact ⟨rfl, Nat.zero_le _⟩
  · rename_i i
    split at h
    · rename_i hb
      rw [Bool.and_eq_true, decide_eq_true_eq, decide_eq_true_eq] at hb
      (first | (have q := qc h q) | (have q := qcB h q) | cases h)
      refine ⟨?_, by omega⟩
      unfold sliceBounds
      simp only [Option.getD_none, show ((1 : Int) > 0) = True from by simp, if_true]
      have e1 : ¬ (i < 0) := by omega
      simp only [e1, if_false]
      have : max 0 (min i (n : Int)) = ((i.toNat : Nat) : Int) := by omega
      rw [this]
    · (first | exact nn h | cases h)
noncomputable def setSl (a i v : V) : M Unit := fun σ => match slcAt i σ with
  | some (lo, none, none) => match accAt a σ with
    | some (n, d, xs, _) => match v with
      | .ref m => match σ.get m with
        | some (.list ys) => match startV lo xs.length with
          | some k => match Nat.ble (xs.length + ys.length) 1000 && Nat.blt σ.n 60001 with
            | true => some ((), σ.put n (.acc d (xs.take k ++ ys)))
            | false => none
          | none => none
        | _ => none
      | _ => none
    | none => none
  | _ => none
end
end
end Mine
set_option genSizeOf false
set_option genInjectivity false
namespace Mine
noncomputable section
open PySem PySem.W PyProof.Rows PySem.Calls
section
variable {C : Cx} {D U : Nat} {Γ : FE}
theorem acc_setItem {w : World} {A : Around} {E : Value → Shared → Prop} {s : Shared} {a : Addr} {ox : Obj} {od : Option Obj} {i v : Value} {Q : Unit → Shared → Prop} (X : (KF w.params).In s.heap) (I : InstAt s.heap a ox 195 od)
    (h : wpAny (model P w) A (call (.builtin "list.__setitem__") [.ref a, i, v]) (fun _ => Q ()) E s) : wpAny (model P w) A (setItem (.ref a) i v) Q E s := by
  unfold setItem
  refine wpAny_holding (wpAny_bind (acc_key X I ?_))
  exact wpAny_bind (acc_special X I (fa_setitem w.params) slot_list_setitem.bind (wpAny_mono h (fun _ _ z => wpAny_pure z) fun _ _ z => z))
theorem mapSeq_seq (c : Value) (d : Option Addr) (xs : Array Value) (n : Nat) (sl : Array (Option Value)) (f : Array Value → Array Value) : ∃ n', Obj.mapSeq f ⟨c, d, .seq xs n, sl⟩ = ⟨c, d, .seq (f xs) n', sl⟩ := ⟨_, rfl⟩
theorem acc_setslice {w : World} {A : Around} {E : Value → Shared → Prop} {s : Shared} {l sl v : Addr} {od : Option Obj} {da : Option Addr} {items new : Array Value} {ne : Nat} {vl vu vs : Value} {lo : Option Int} {k : Nat} {osl : Array (Option Value)} {Q : Unit → Shared → Prop} (X : (KF w.params).In s.heap) (I : InstAt s.heap l ⟨.ref 195, da, .seq items ne, osl⟩ 195 od)
    (hs : s.heap.IsSliceOf sl vl vu vs) (pl : IsPart vl lo) (pu : IsPart vu none) (ps : IsPart vs none) (hk : startV lo items.size = some k) (hv : s.heap.IsList v new) (hlv : l ≠ v)
    (h : Q () { s with heap := s.heap.update l (Obj.mapSeq fun xs => xs.extract 0 k ++ new ++ xs.extract (max k items.size) xs.size) })
    (hsz : items.size + new.size ≤ sizeLine) : wpAny (model P w) A (setItem (.ref l) (.ref sl) (.ref v)) Q E s := by
  have ho := I.at_
  obtain ⟨os, hos, hcs, hds⟩ := id hs
  obtain ⟨ov, hov, hcv, nv, hdv⟩ := id hv
  have hTs : s.TypeIs (.ref sl) "slice" := ⟨os, hos, hcs⟩
  refine acc_setItem X I (acc_call X I (n := "__setitem__") (by decide +kernel) (by decide +kernel) (by decide +kernel) entry_list_setitem (args_list_setitem _ _ _) ?_)
  show wpAny _ _ (Builtin.List.listSubscript? (.ref sl) >>= _) _ _ s
  refine wpAny_bind ?_
  unfold Builtin.List.listSubscript?
  refine wpAny_bind (wpAny_specialOf hTs slice_no_index ?_)
  simp only [Option.isNone_none, if_true]
  refine wpAny_pure ?_
  show wpAny _ _ (typeOf (.ref sl) >>= _) _ _ s
  refine wpAny_bind (wpAny_typeOf hTs ?_)
  refine wite_n (by decide) ?_
  rw [listSliceParts_eq]
  refine wpAny_bind (wpAny_bind (wpAny_field hos hds (x := vs) rfl (wpAny_bind (wpAny_listPart ps ?_))))
  refine wite_n (show ¬ ((rawPart none == rawInt 0) = true) from Bool.false_ne_true) ?_
  refine wpAny_bind (wpAny_field hos hds (x := vl) rfl (wpAny_bind (wpAny_listPart pl ?_)))
  refine wpAny_bind (wpAny_field hos hds (x := vu) rfl (wpAny_bind (wpAny_listPart pu (wpAny_pure ?_))))
  have hne : Builtin.List.listSameRef (.ref l) (.ref v) = false := by
    show (l == v) = false
    simpa using hlv
  refine rwG (hne) ?_
  refine wpAny_bind (m := Builtin.List.listAllItems (.ref v) "must assign iterable to extended slice") ?_
  unfold Builtin.List.listAllItems
  refine wpAny_bind (wpAny_typeOf hv.typeIs ?_)
  refine wite_p (by decide) ?_
  obtain ⟨hb1, hb2⟩ := startV_bounds hk
  refine wpAny_bind (m := seqItems? (.ref v)) (wpAny_seqItems hov hdv (wpAny_pure ?_))
  refine wpAny_bind (wpAny_bind (m := seqItems? (.ref l)) (wpAny_seqItems ho rfl (wpAny_pure ?_)))
  refine wpAny_bind (wpAny_of_eq (sliceIndices_raw lo none none items.size (by simp)) ?_)
  refine rwG (hb1) ?_
  refine wite_p (show ((((k : Int), ((items.size : Int), (1 : Int))).2.2 == 1) = true) from rfl) ?_
  refine wpAny_bind (wpAny_rule ?_)
  have hlong : ¬ (Builtin.List.listTooLong (items.size + new.size) = true) := by
    unfold Builtin.List.listTooLong
    rw [decide_eq_true_eq]; omega
  refine wite_n hlong ?_
  have e1 : ((k : Int)).toNat = k := by omega
  have e2 : (max (k : Int) (items.size : Int)).toNat = max k items.size := by omega
  simp only [e1, e2]
  refine wpAny_bind (wpAny_updateSeq (n := ne) ho rfl ?_ (by omega) ?_)
  · refine wpAny_bind (wpAny_letGo (wpAny_pure ⟨_, rfl, h⟩))
  · simp; omega
theorem setSl_snd (ok : CxOk C) {μ : List Addr} {a i v : V} {w wi wv : Value} (rv : RV C μ a w) (ri : RV C μ i wi) (rx : RV C μ v wv) : Snd C D U (fun _ _ _ => True) (setItem w wi wv) (setSl a i v) μ := fun A hA σ s r b σ' e Q E q => by
  unfold setSl at e
  split at e
  · rename_i lo hs
    obtain ⟨m, vl, vu, vs, rfl, g1, g2, g3, g4, g5⟩ := slcAt_some hs
    refine RV.eRef ri fun sa hm => ?_
    obtain ⟨wl, wu, wst, hsl, r1, r2, r3⟩ := slc_is r hm g1
    split at e
    · rename_i n d xs vs' ha
      obtain ⟨rfl, h2, h3, h4, h5⟩ := accAt_some ha
      refine RV.eRef rv fun ad hn => ?_
      induction rx with
      | ref m' va hv =>
        simp only at e
        split at e
        · rename_i ys e1
          split at e
          · rename_i k hk
            split at e
            · rename_i hb
              rw [Bool.and_eq_true] at hb
              have hb1 := Nat.le_of_ble_eq_true hb.1
              have hb2 : σ.n < 60001 := Nat.le_of_ble_eq_true hb.2
              (first | (have q := qc e q) | (have q := qcB e q) | cases e)
              obtain ⟨ws, kk, da, es, mm, ho, hd, rvs, hsz, I, dr⟩ := acc_inst r hn h2 h3
              refine Rel.at_e r e1 hv (fun ov hov hrv => ?_)
              obtain ⟨new, hl', rvn⟩ := list_of hov hrv
              have hszn : new.size = ys.length := by rw [← rvn.len]; simp
              have hne : ad ≠ va := by
                intro z; subst z
                have := r.inj n m' _ _ ad h2 e1 rfl rfl hn hv
                subst this
                rw [h2] at e1; cases e1
              rw [← hsz] at hk
              refine acc_setslice (r.K ok) I hsl (partV_is r1 g2) (partV_is r2 g3) (partV_is r3 g4) hk hl' hne ?_ (by rw [hsz, hszn, sizeLine_eq]; omega)
              refine q μ _ () (List.prefix_refl _) (r.put h2 rfl hn hb2 (Heap.SameBut.update ..).extBut fun _ => ?_) trivial
              obtain ⟨n', hn'⟩ := mapSeq_seq (.ref 195) (some da) ws kk #[] (fun xs => xs.extract 0 k ++ new ++ xs.extract (max k ws.size) xs.size)
              refine ⟨_, Heap.get?_update_self _ ho (by rw [hn']; rfl), ?_⟩
              refine rwG (hn') ?_
              refine ⟨_, n', da, hd, rfl, ?_⟩
              have hle := (startV_bounds hk).2
              have : (ws.extract 0 k ++ new ++ ws.extract (max k ws.size) ws.size).toList = ws.toList.take k ++ new.toList := by
                have e5 : ws.extract (max k ws.size) ws.size = #[] := by apply Array.eq_empty_of_size_eq_zero; simp; omega
                rw [e5]; simp
              refine rwG (this) ?_
              exact (rvs.take k).append rvn
            · (first | exact nn e | cases e)
          · (first | exact nn e | cases e)
        · (first | exact nn e | cases e)
      | _ => (first | exact nn e | cases e)
    · (first | exact nn e | cases e)
  · (first | exact nn e | cases e)
theorem SX_setsl {value o : Expr} {lo hi st : Option Expr} {p pos' pos : Pos} {f g h : Nat → M V} (ok : CxOk C) (h0 : SE C D U Γ value f) (h1 : SE C D U Γ o g) (h2 : SE C D U Γ (.Slice lo hi st p) h)
    (hs : autoParam (∀ env, swapsWith value (some (.Subscript o (.Slice lo hi st p) pos')) pos.line env = pure false) au1._auto_1) :
    SX C D U Γ (.Assign [.Subscript o (.Slice lo hi st p) pos'] value pos) (fun l => bnd (f l) fun v => bnd (g l) fun a => bnd (h l) fun i => bnd (setSl a i v) fun _ => ret .next) := fun l L μ hok hl A hA σ s r b σ' e Q E q => by
  refine bnd_e e fun v σ₁ e1 e => ?_
  refine bnd_e e fun a σ₂ e2 e => ?_
  refine bnd_e e fun i σ₃ e3 e => ?_
  refine bnd_e e fun _ σ₄ e4 e => ?_
  (first | (have q := qc e q) | (have q := qcB e q) | cases e)
  refine wpAny_Assign_Subscript (h0 l L μ hok hl A hA σ s r v σ₁ e1 _ E fun μ₁ s₁ wv hp1 r₁ rv => ?_) (hs _)
  refine h1 l L μ₁ (Γ.mono hp1 hok) (mu_ext hp1 hl) A hA σ₁ s₁ r₁ a σ₂ e2 _ E fun μ₂ s₂ wa hp2 r₂ ra => ?_
  have p2 := List.IsPrefix.trans hp1 hp2
  refine h2 l L μ₂ (Γ.mono p2 hok) (mu_ext p2 hl) A hA σ₂ s₂ r₂ i σ₃ e3 _ E fun μ₃ s₃ wi hp3 r₃ ri => ?_
  have p3 := List.IsPrefix.trans p2 hp3
  exact setSl_snd ok (ra.ext hp3) ri (rv.ext (List.IsPrefix.trans hp2 hp3)) A hA σ₃ s₃ r₃ () _ e4 _ E fun μ₄ s₄ _ hp4 r₄ _ => q μ₄ s₄ .next (List.IsPrefix.trans p3 hp4) r₄ .next
end
end
end Mine
set_option genSizeOf false
set_option genInjectivity false
namespace Mine
noncomputable section
open PySem PySem.W PyProof.Rows PySem.Calls
section
variable {C : Cx} {D U : Nat} {Γ : FE}
theorem acc_method {w : World} {A : Around} {E : Value → Shared → Prop} {s : Shared} {a : Addr} {ox o : Obj} {name : Str} {fv : Value} {T : String} {pl : Sem Bool} {Q : Value × List Value → Shared → Prop} (X : (KF w.params).In s.heap) (I : InstAt s.heap a ox 195 (some o))
    (hf : findIn (KF w.params) (.ref 195) name = some (some fv)) (ht : typeIn (KF w.params) fv = some (.type T)) (hT : T = "function" ∨ T = "method_descriptor") (hs : lookIn name o = some none) (h : Q (fv, [.ref a]) s) :
    wpAny (model P w) A (getMethod (.ref a) name pl) Q E s := by
  unfold getMethod specialOf
  refine wpAny_bind (wpAny_bind (I.type.here ((looks_findIn X (fa_ga w.params)).here ?_)))
  dsimp only
  refine rwG (canon_lga) ?_; refine wite_n (by decide) ?_
  refine wpAny_bind (wpAny_bind (I.type.here ((looks_findIn X (fa_gk w.params)).here ?_)))
  refine wpAny_bind (wpAny_bind (I.type.here ((looks_findIn X hf).here (wpAny_bind ((looks_typeIn X ht).here ?_)))))
  refine wite_n (by rcases hT with rfl | rfl <;> decide +kernel) ?_
  refine wpAny_bind (wpAny_loadPart I.at_ ?_)
  have hd := I.dict
  cases e : ox.dict with
  | none => exact wpAny_bind (wpAny_rule (wpAny_pure h))
  | some dx =>
    rw [e] at hd
    refine wpAny_bind (wpAny_bind (wpAny_loadPart hd ?_))
    refine wpAny_of_eq (nsLook_of hs) ?_
    exact wpAny_bind (wpAny_rule (wpAny_pure h))
noncomputable def accChk (v : V) : M Unit := fun σ => match accAt v σ with | some _ => some ((), σ) | none => none
/-- a method of an accumulator, be it the class's own def or list's -/
theorem SE_methA {o : Expr} {name : Str} {apos pos : Pos} {args : List Expr} {fo : Nat → M V} {fa : Nat → M (List V)} {fn : List V → M V} (fv : Value) (T : String) (ok : CxOk C) (h : SE C D U Γ o fo) (ha : SEs C D U Γ args fa) (hf : SCl C D U fv fn)
    (he : autoParam (∀ env, ∃ pl : Sem Bool, eval (.Call (.Attribute o name apos) args [] pos) env = (do
      let ov ← eval o env
      standAt apos.atName
      let (f, first) ← holding [ov] (getMethod ov name pl)
      callWith pos f first (backTo pos (starEach args env)) (backToKw pos (keywordEach [] env)))) au8._auto_1)
    (hm : autoParam (findIn (KF C.w.params) (.ref 195) name = some (some fv)) au6._auto_1) (ht : autoParam (typeIn (KF C.w.params) fv = some (.type T)) au6._auto_1) (hT : autoParam (T = "function" ∨ T = "method_descriptor") au4._auto_1)
    (hnm : autoParam (∀ k : Fin 8, codeName k ≠ name) au4._auto_1)
    (hkp : KeepOk C fv)
    (hpl : autoParam (∀ env, (backTo pos (starEach args env)).any (·.1) = false) au1._auto_1) :
    SE C D U Γ (.Call (.Attribute o name apos) args [] pos) (fun l => bnd (fo l) fun v => bnd (accChk v) fun _ => bnd (fa l) fun vs => fn (v :: vs)) := fun l L μ hok hl A hA σ s r b σ' e Q E q => by
  refine bnd_e e fun v σ₁ e1 e2 => ?_
  refine bnd_e e2 fun _ σ₂ e3 e4 => ?_
  refine bnd_e e4 fun vs σ₃ e5 e6 => ?_
  unfold accChk at e3
  split at e3
  · rename_i p hi
    obtain ⟨n, d, xs, nms⟩ := p
    (first | (have q := qc e3 q) | (have q := qcB e3 q) | cases e3)
    obtain ⟨rfl, g1, g2, g3, g4⟩ := accAt_some hi
    obtain ⟨pl, he⟩ := he (Γ.env L)
    refine rwG (he) ?_
    refine wpAny_bind (h l L μ hok hl A hA σ s r _ _ e1 _ E fun μ' s' w hp r' rv => ?_)
    refine RV.eRef rv fun a hn => ?_
    ·
      obtain ⟨ws, kk, da, es, m, ho, hd, rvs, hsz, I, dr⟩ := acc_inst r' hn g1 g2
      refine wpAny_bind (wpAny_standAt (wpAny_bind (wpAny_holding ?_)))
      refine acc_method (r'.K ok) I hm ht hT (dr.lookMiss (keysOk_all g3) hnm m) ?_
      show wpAny _ _ (callWith pos fv [.ref a] _ _) _ _ _
      refine callWith_of (P := fun h => (KF C.w.params).In h) (by rw [hpl]; rfl) hkp (evA (hpl _) ?_)
      refine ha l L μ' pos (Γ.mono hp hok) (mu_ext hp hl) A hA _ s' r' vs σ₃ e5 _ E fun μ'' s'' ws hp' r'' rvs => ⟨r''.K ok, ?_⟩
      exact hf (.ref n :: vs) (.ref a :: ws) μ'' (.cons (.ref n a (mu_ext hp' hn)) rvs) A hA σ₃ s'' r'' b σ' e6 Q E fun μ₃ s₃ x hp3 => q μ₃ s₃ x (List.IsPrefix.trans (List.IsPrefix.trans hp hp') hp3)
  · (first | exact nn e3 | cases e3)
/-! list's append, of an accumulator -/
noncomputable def accApp (vs : List V) : M V := fun σ => match vs with
  | [v, x] => match accAt v σ with
    | some (n, d, xs, _) => match Nat.blt xs.length 1000 && Nat.blt σ.n 60001 with
      | true => some (.none, σ.put n (.acc d (xs ++ [x])))
      | false => none
    | none => none
  | _ => none
theorem SCl_accApp (ok : CxOk C) : SCl C D U (.builtin "list.append") accApp := fun vs ws μ rv A hA σ s r b σ' e Q E q => by
  unfold accApp at e
  split at e
  · rename_i v x
    split at e
    · rename_i n d xs nms ha
      split at e
      · rename_i hb
        rw [Bool.and_eq_true] at hb
        have hb1 : xs.length < 1000 := Nat.le_of_ble_eq_true hb.1
        have hb2 : σ.n < 60001 := Nat.le_of_ble_eq_true hb.2
        (first | (have q := qc e q) | (have q := qcB e q) | cases e)
        obtain ⟨rfl, g1, g2, g3, g4⟩ := accAt_some ha
        refine RVs.eCons rv fun _ _ h t => ?_
        refine RVs.eCons t fun _ _ h2 t => ?_
        cases t
        cases h with
        | ref _ a hn =>
          obtain ⟨ws, kk, da, es, m, ho, hd, rvs, hsz, I, dr⟩ := acc_inst r hn g1 g2
          rename_i y
          refine acc_call (r.K ok) I (n := "append") (by decide +kernel) (by decide +kernel) (by decide +kernel) entry_list_append (args_list_append _ _) ?_
          show wpAny _ _ (updateSeq a (·.push y) >>= fun _ => _root_.PySem.ret .none) _ _ s
          refine wpAny_bind (wpAny_updateSeq (n := kk) ho rfl (wpAny_pure ⟨.none, rfl, ?_⟩) (by rw [hsz, sizeLine_eq]; omega) (by simp; rw [hsz, sizeLine_eq]; omega))
          refine q μ _ _ (List.prefix_refl _) (r.put g1 rfl hn hb2 (Heap.SameBut.update ..).extBut fun _ => ?_) .none
          obtain ⟨n', hn'⟩ := mapSeq_seq (.ref 195) (some da) ws kk #[] (·.push y)
          refine ⟨_, Heap.get?_update_self _ ho (by rw [hn']; rfl), ?_⟩
          refine rwG (hn') ?_
          refine ⟨_, n', da, hd, rfl, ?_⟩
          refine rwG (Array.toList_push) ?_
          exact rvs.append (.cons h2 .nil)
      · (first | exact nn e | cases e)
    · (first | exact nn e | cases e)
  · (first | exact nn e | cases e)
end
end
end Mine
set_option genSizeOf false
set_option genInjectivity false
namespace Mine
noncomputable section
open PySem PySem.W PyProof.Rows PySem.Calls
structure DefOk (f : Addr) (np nl : Nat) (dw : List Value) : Prop where
  K : ∀ p, (KF p).lookup f = some ⟨.type "function", none, .func (fdOf f), #[]⟩
  cd : ∀ p, codeIn (KF p) (fdOf f).code (fdOf f).qualname = true
  body : (fdOf f).body = .stmts (bodyOf f)
  hnl : Nat.beq (tabN f).length nl = true
  hnp : Nat.ble (np + dw.length) nl = true
  cell : (fdOf f).scope.names.all (fun x => x.2 != .cell) = true
  loc : ((tabN f).take (np + dw.length)).all (fun x => (fdOf f).scope.names.lookup x == some .local) = true
  co : (fdOf f).scope.isCoroutine = false
  gen : (fdOf f).scope.isGenerator = false
  kind : (fdOf f).scope.kind = .function
  bind : ∀ p S ws, ws.length = np → peek (KF p) S (bindArgs (fdOf f) ⟨ws, []⟩) = some (((tabN f).take (np + dw.length)).zip (ws ++ dw))
section
variable {C : Cx} {D U : Nat} {Γ : FE}
noncomputable def defD (tag np nl : Nat) (dv : List V) (g : Nat → M VF) (vs : List V) : M V := match Nat.beq vs.length np with
  | true => bnd (alloc (.fr tag ((vs ++ dv).map some ++ List.replicate (nl - (np + dv.length)) none))) fun r => match r with
    | .ref l => bnd (g l) fun fl => ret (retOf fl)
    | _ => no
  | false => no
theorem SFn_def2 {f : Addr} {h : GOk f} {g : Nat → M VF} {np nl : Nat} {dv : List V} {dw : List Value} (ok : CxOk C) (hd : ∀ μ, RVs C μ dv dw) (ok2 : DefOk f np nl dw)
    (hD : D < 900) (hb : SXs C (D + 1) (U + 3) (GG f h) (bodyOf f) g) : SFn C D U f (defD f np nl dv g) := fun vs ws μ rv A hA σ s r b σ' e Q E q => by
  unfold defD at e
  have hnl := Nat.eq_of_beq_eq_true ok2.hnl
  have hnp := Nat.le_of_ble_eq_true ok2.hnp
  have hdl : dw.length = dv.length := (hd μ).len
  cases hlen : Nat.beq vs.length np with
  | true =>
    rw [hlen] at e
    replace hlen := Nat.eq_of_beq_eq_true hlen
    refine bnd_e e fun r0 σ₁ e1 e2 => ?_
    obtain ⟨hz, e3, e4⟩ := alloc_some e1
    simp only at e3 e4
    subst e3 e4
    refine bnd_e e2 fun fl σ₂ e5 e6 => ?_
    (first | (have q := qc e6 q) | (have q := qcB e6 q) | cases e6)
    have X := r.K ok
    have rva : RVs C μ (vs ++ dv) (ws ++ dw) := rv.append (hd μ)
    refine wpAny_call ?_
    refine codeAny_call_def (binds := ((tabN f).take (np + dw.length)).zip (ws ++ dw)) (Nat.lt_of_le_of_lt hA.dp (Nat.lt_trans hD (by decide))) (X _ _ (ok2.K _)) rfl (ok.lim.keeps r.old) (codeRec_of X (ok2.cd _)) ok2.body
      (fun M A E Q hq => (Looks.of_peek X (ok2.bind _ ⟨M.prog, M.w.params⟩ ws (by rw [rv.len, hlen]))).here hq) (fun x hx => by
        have := List.all_eq_true.mp ok2.cell x hx
        simpa using this) (fun x hx => eq_of_beq (List.all_eq_true.mp ok2.loc _ (List.of_mem_zip hx).1)) (fun h₁ hns hk₁ => ?_) ok2.co ok2.gen ok2.kind
    obtain ⟨o, ho, hr⟩ := ns_to (C := C) (μ := μ ++ [s.heap.objs.size]) (tag := f) (vs := (vs ++ dv).map some ++ List.replicate (nl - (np + dv.length)) none) hns (by simp; omega) (by
      have := MR_binds (C := C) h.e (rva.ext (List.prefix_append μ [s.heap.objs.size])) (by rw [List.length_append]; omega)
      rw [List.length_append, hlen, hnl, ← hdl] at this
      refine rwH (hdl) ?_
      exact this)
    have r₁ := r.add (t := s.toks + (((tabN f).take (np + dw.length)).zip (ws ++ dw)).length) (d := s.drawn) hk₁ (get_size_none _) ho hz hr
    have hat : (μ ++ [s.heap.objs.size])[σ.n]? = some s.heap.objs.size := by rw [← r.len]; simp
    have hb' := hb σ.n s.heap.objs.size _ trivial hat
    refine hb' _ (hA.deeper _) _ _ r₁ fl _ e5 _ _ fun μ' s' a hp r' hf => ?_
    have hp' := List.IsPrefix.trans (List.prefix_append μ [s.heap.objs.size]) hp
    induction hf with
    | ret h => exact q μ' s' _ hp' r' h
    | next => exact q μ' s' _ hp' r' .none
    | brk => exact q μ' s' _ hp' r' .none
    | cont => exact q μ' s' _ hp' r' .none
  | false => rw [hlen] at e; cases e
/-- dead code -/
theorem SX_no {st : Stmt} : SX C D U Γ st (fun _ => no) := fun l L μ hok hl A hA σ s r b σ' e Q E q => by cases e
theorem SXs_no {st : List Stmt} : SXs C D U Γ st (fun _ => no) := fun l L μ hok hl A hA σ s r b σ' e Q E q => by cases e
theorem SE_no {e : Expr} : SE C D U Γ e (fun _ => no) := fun l L μ hok hl A hA σ s r b σ' e Q E q => by cases e
end
end
end Mine
set_option genSizeOf false
set_option genInjectivity false
namespace Mine
noncomputable section
open PySem PySem.W PyProof.Rows PySem.Calls PySem.SeqAt
section
variable {C : Cx} {D U : Nat} {Γ : FE}
/-! equality of two values, through lists and tuples -/
mutual
noncomputable def eqF : Nat → St → V → V → Option Bool
  | 0, _, _, _ => none
  | n + 1, σ, a, b => match a with
    | .int i => match b with
      | .int j => some (i == j)
      | _ => none
    | .str x => match b with
      | .str y => strEq x y
      | _ => none
    | .ln x => match b with
      | .ln y => match strEq x y with
        | some true => some true
        | _ => none
      | _ => none
    | .ref i => match b with
      | .ref j => match Nat.beq i j with
        | true => none
        | false => rcF n σ (.ref i) (.ref j)
      | _ => none
    | _ => none
noncomputable def rcF : Nat → St → V → V → Option Bool
  | 0, _, _, _ => none
  | n + 1, σ, a, b => match a with
    | .ref i => match b with
      | .ref j => match σ.get i with
        | some (.list xs) => match σ.get j with
          | some (.list ys) => match Nat.beq xs.length ys.length with
            | true => eqL n σ xs ys
            | false => some false
          | _ => none
        | some (.tup xs) => match σ.get j with
          | some (.tup ys) => match Nat.beq xs.length ys.length with
            | true => eqL n σ xs ys
            | false => none
          | _ => none
        | _ => none
      | _ => none
    | _ => none
noncomputable def eqL : Nat → St → List V → List V → Option Bool
  | 0, _, _, _ => none
  | n + 1, σ, xs, ys => match xs with
    | [] => match ys with
      | [] => some true
      | _ :: _ => none
    | x :: xs => match ys with
      | y :: ys => match eqF n σ x y with
        | some c => match eqL n σ xs ys with
          | some d => some (c && d)
          | none => none
        | none => none
      | [] => none
end
theorem all_sz (us : Array Value) {j} (h : j < us.size) : us.toList[j]? = some us[j] := by simp [h]
theorem rcl {A : Around} {s : Shared} {x y : Addr} {us vs : Array Value} {c : Bool} (hl1 : s.heap.IsList x us) (hl2 : s.heap.IsList y vs) (hu : A.units < cLine)
    (H : ∃ e : Nat → Bool, (∀ (j : Nat) (u v : Value), us.toList[j]? = some u → vs.toList[j]? = some v → EqAt A.in1 s u v (e j)) ∧ (List.range us.toList.length).all e = c ∧ us.toList.length = vs.toList.length) :
    RcAt A s (.ref x) (.ref y) c ∧ RcNeAt A s (.ref x) (.ref y) (!c) := by
  obtain ⟨e, he, hall, hs⟩ := H
  subst hall
  exact ⟨RcAt.lists hl1 hl2 hs hu fun j h1 h2 => he j _ _ (all_sz us h1) (all_sz vs h2), RcNeAt.lists hl1 hl2 hs hu fun j h1 h2 => he j _ _ (all_sz us h1) (all_sz vs h2)⟩
theorem rcd {A : Around} {s : Shared} {x y : Addr} {us vs : Array Value} {n m : Nat} (hl1 : s.heap.IsList x us) (hl2 : s.heap.IsList y vs) (hu : A.units < cLine) (h1 : us.toList.length = n) (h2 : vs.toList.length = m) (h : Nat.beq n m = false) :
    RcAt A s (.ref x) (.ref y) false ∧ RcNeAt A s (.ref x) (.ref y) (!false) := by
  have hs : (us.size != vs.size) = true := by
    have := Nat.ne_of_beq_eq_false h
    subst h1; subst h2
    exact bne_iff_ne.mpr this
  exact ⟨RcAt.lists_lengths hl1 hl2 hs hu, RcNeAt.lists_lengths hl1 hl2 hs hu⟩
theorem rct {A : Around} {s : Shared} {x y : Addr} {us vs : Array Value} {c : Bool} (hl1 : s.heap.IsTuple x us) (hl2 : s.heap.IsTuple y vs) (hu : A.units < cLine)
    (H : ∃ e : Nat → Bool, (∀ (j : Nat) (u v : Value), us.toList[j]? = some u → vs.toList[j]? = some v → EqAt A.in1 s u v (e j)) ∧ (List.range us.toList.length).all e = c ∧ us.toList.length = vs.toList.length) :
    RcAt A s (.ref x) (.ref y) c ∧ RcNeAt A s (.ref x) (.ref y) (!c) := by
  obtain ⟨e, he, hall, hs⟩ := H
  have hs : us.size = vs.size := hs
  have e0 : ((List.range (min us.size vs.size)).all e && us.size == vs.size) = c := by
    rw [← hs, Nat.min_self, beq_self_eq_true, Bool.and_true]; exact hall
  rw [← e0]
  exact ⟨RcAt.tuples hl1 hl2 hu fun j h1 h2 => he j _ _ (all_sz us h1) (all_sz vs h2), RcNeAt.tuples hl1 hl2 hu fun j h1 h2 => he j _ _ (all_sz us h1) (all_sz vs h2)⟩
theorem live2 {σ : St} {n i j : Nat} {c : Bool} (h : rcF n σ (.ref i) (.ref j) = some c) : ∃ vo vo', σ.get i = some vo ∧ σ.get j = some vo' ∧ live vo = true ∧ live vo' = true := by
  cases n with
  | zero => unfold rcF at h; cases h
  | succ n =>
    unfold rcF at h
    simp only at h
    split at h
    · split at h
      · exact ⟨_, _, by assumption, by assumption, rfl, rfl⟩
      · exact nn h
    · split at h
      · exact ⟨_, _, by assumption, by assumption, rfl, rfl⟩
      · exact nn h
    · exact nn h
theorem le_n {k n : Nat} (h : k + (n + 1) < cLine) : k + n < cLine := Nat.lt_of_succ_lt h
theorem le_1n {k n : Nat} (h : k + (n + 1) < cLine) : k + 1 + n < cLine := by rw [Nat.add_right_comm]; exact h
theorem le_0n {k n : Nat} (h : k + n < cLine) : k < cLine := Nat.lt_of_le_of_lt (Nat.le_add_right k n) h
theorem strEq_b (ok : CxOk C) {x y : List At} {c : Bool} (h : strEq x y = some c) : (C.str x == C.str y) = c := by
  cases c with
  | true => rw [strEq_true (C := C) h]; exact beq_self_eq_true _
  | false => exact beq_eq_false_iff_ne.mpr fun z => strEq_false ok h (congrArg (fun s => s.cps.toList) z)
theorem eqs_cons {us vs : List Value} {A : Around} {s : Shared} {u v : Value} {c1 d : Bool} (h0 : EqAt A s u v c1) (H : ∃ e : Nat → Bool, (∀ (j : Nat) (u v : Value), us[j]? = some u → vs[j]? = some v → EqAt A s u v (e j)) ∧ (List.range us.length).all e = d ∧ us.length = vs.length) :
    ∃ e : Nat → Bool, (∀ (j : Nat) (u' v' : Value), (u :: us)[j]? = some u' → (v :: vs)[j]? = some v' → EqAt A s u' v' (e j)) ∧ (List.range (u :: us).length).all e = (c1 && d) ∧ (u :: us).length = (v :: vs).length := by
  obtain ⟨e, he, hall, hl⟩ := H
  refine ⟨fun j => Nat.rec c1 (fun j _ => e j) j, fun j u' v' eu ev => ?_, ?_, congrArg (· + 1) hl⟩
  · cases j with
    | zero => cases eu; cases ev; exact h0
    | succ j => exact he j u' v' eu ev
  · rw [List.length_cons, List.range_succ_eq_map, List.all_cons, List.all_map, ← hall]; rfl
theorem eq_sound (ok : CxOk C) {μ : List Addr} {σ : St} {s : Shared} (r : Rel C μ σ s) : ∀ n : Nat,
    (∀ (A : Around) (a b : V) (wa wb : Value) (c : Bool), A.units + n < cLine → RV C μ a wa → RV C μ b wb → eqF n σ a b = some c → EqAt A s wa wb c) ∧
    (∀ (A : Around) (a b : V) (wa wb : Value) (c : Bool), A.units + n < cLine → RV C μ a wa → RV C μ b wb → rcF n σ a b = some c → RcAt A s wa wb c ∧ RcNeAt A s wa wb (!c)) ∧
    (∀ (A : Around) (xs ys : List V) (us vs : List Value) (c : Bool), A.units + n < cLine → RVs C μ xs us → RVs C μ ys vs → eqL n σ xs ys = some c →
      ∃ e : Nat → Bool, (∀ (j : Nat) (u v : Value), us[j]? = some u → vs[j]? = some v → EqAt A s u v (e j)) ∧ (List.range us.length).all e = c ∧ us.length = vs.length)
  | 0 => ⟨fun _ _ _ _ _ _ _ _ _ h => nn h, fun _ _ _ _ _ _ _ _ _ h => nn h, fun _ _ _ _ _ _ _ _ _ h => nn h⟩
  | n + 1 => by
    obtain ⟨ih1, ih2, ih3⟩ := eq_sound ok r n
    refine ⟨fun A a b wa wb c hu ra rb h => ?_, fun A a b wa wb c hu ra rb h => ?_, fun A xs ys us vs c hu rx ry h => ?_⟩
    · clear ih1 ih3
      unfold eqF at h
      induction ra with
      | int i t =>
        induction rb with
        | int j u =>
          cases h
          exact EqAt.int_int i t j u
        | _ => exact nn h
      | str x t =>
        induction rb with
        | str y u => exact strEq_b ok h ▸ EqAt.str_str (A := A) (s := s) (C.str x) t (C.str y) u
        | _ => exact nn h
      | ln x t =>
        induction rb with
        | ln y u =>
          simp only at h
          split at h
          · rename_i hx
            cases h
            rw [strEq_true (C := C) hx]
            exact beq_self_eq_true (((C.str y).length : Nat) : Int) ▸ EqAt.int_int (A := A) (s := s) ((C.str y).length : Nat) t ((C.str y).length : Nat) u
          · exact nn h
        | _ => exact nn h
      | ref i x hi =>
        induction rb with
        | ref j y hj =>
          simp only at h
          split at h
          · exact nn h
          · rename_i hne
            refine EqAt.of_refs (fun z => ?_) (ih2 A _ _ _ _ c (le_n hu) (.ref i x hi) (.ref j y hj) h).1
            subst z
            obtain ⟨vo, vo', g1, g2, g3, g4⟩ := live2 h
            exact Nat.ne_of_beq_eq_false hne (r.inj i j vo vo' x g1 g2 g3 g4 hi hj)
        | _ => exact nn h
      | _ => exact nn h
    · clear ih1 ih2
      unfold rcF at h
      induction ra with
      | ref i x hi =>
        induction rb with
        | ref j y hj =>
          simp only at h
          split at h
          · rename_i xs g1
            split at h
            · rename_i ys g2
              refine Rel.at_e r g1 hi (fun o1 ho1 q1 => ?_)
              refine Rel.at_e r g2 hj (fun o2 ho2 q2 => ?_)
              obtain ⟨us, hl1, rx⟩ := list_of ho1 q1
              obtain ⟨vs, hl2, ry⟩ := list_of ho2 q2
              split at h
              · exact rcl hl1 hl2 (le_0n hu) (ih3 A.in1 xs ys _ _ c (le_1n hu) rx ry h)
              · rename_i hlen
                cases h
                exact rcd hl1 hl2 (le_0n hu) rx.len ry.len hlen
            · exact nn h
          · rename_i xs g1
            split at h
            · rename_i ys g2
              refine Rel.at_e r g1 hi (fun o1 ho1 q1 => ?_)
              refine Rel.at_e r g2 hj (fun o2 ho2 q2 => ?_)
              obtain ⟨us, hl1, rx⟩ := tup_of ho1 q1
              obtain ⟨vs, hl2, ry⟩ := tup_of ho2 q2
              split at h
              · exact rct hl1 hl2 (le_0n hu) (ih3 A.in1 xs ys _ _ c (le_1n hu) rx ry h)
              · exact nn h
            · exact nn h
          · exact nn h
        | _ => exact nn h
      | _ => exact nn h
    · clear ih2
      unfold eqL at h
      induction rx with
      | nil =>
        induction ry with
        | nil => cases h; exact ⟨fun _ => true, fun j u v e => nn e, rfl, rfl⟩
        | cons _ _ => exact nn h
      | @cons x u xs us hx tx =>
        induction ry with
        | nil => exact nn h
        | @cons y v ys vs hy ty =>
          simp only at h
          split at h
          · rename_i c1 hc
            split at h
            · rename_i d hd
              cases h
              exact eqs_cons (ih1 A x y _ _ c1 (le_n hu) hx hy hc) (ih3 A xs ys us vs d (le_n hu) tx ty hd)
            · exact nn h
          · exact nn h
noncomputable def eqM (a b : V) : M Bool := fun σ => match a, b with
  | .ref i, .ref j => match Nat.beq i j with
    | true => none
    | false => match rcF 30 σ (.ref i) (.ref j) with
      | some c => some (c, σ)
      | none => none
  | _, _ => eqB a b σ
theorem SCmp_eq2 (ok : CxOk C) (hU : U + 30 < cLine) : SCmp C D U .Eq eqM := fun a b wa wb μ ra rb A hA σ s r v σ' e Q E q => by
  unfold eqM at e
  split at e
  · split at e
    · (first | exact nn e | cases e)
    · split at e
      · rename_i c hc
        (first | (have q := qc e q) | (have q := qcB e q) | cases e)
        exact ((eq_sound ok r 30).2.1 A _ _ _ _ _ (by have := hA.un; omega) ra rb hc).1 _ _ _ _ (q μ _ _ (List.prefix_refl _) r rfl)
      · (first | exact nn e | cases e)
  · exact SCmp_eq ok a b wa wb μ ra rb A hA σ s r v σ' e Q E q
noncomputable def neM (a b : V) : M Bool := fun σ => match a, b with
  | .ref i, .ref j => match Nat.beq i j with
    | true => none
    | false => match rcF 30 σ (.ref i) (.ref j) with
      | some c => some (!c, σ)
      | none => none
  | _, _ => neB a b σ
theorem SCmp_ne2 (ok : CxOk C) (hU : U + 30 < cLine) : SCmp C D U .NotEq neM := fun a b wa wb μ ra rb A hA σ s r v σ' e Q E q => by
  unfold neM at e
  split at e
  · split at e
    · (first | exact nn e | cases e)
    · split at e
      · rename_i c hc
        (first | (have q := qc e q) | (have q := qcB e q) | cases e)
        exact ((eq_sound ok r 30).2.1 A _ _ _ _ _ (by have := hA.un; omega) ra rb hc).2 _ _ _ _ (q μ _ _ (List.prefix_refl _) r rfl)
      · (first | exact nn e | cases e)
  · exact SCmp_ne ok a b wa wb μ ra rb A hA σ s r v σ' e Q E q
end
end
end Mine
set_option genSizeOf false
set_option genInjectivity false
namespace Mine
noncomputable section
open PySem PySem.W PyProof.Rows PySem.Calls
section
variable {C : Cx} {D U : Nat} {Γ : FE}
/-! augmented assignment of a local int -/
noncomputable def SIn (C : Cx) (D U : Nat) (op : Operator) (f : V → V → M V) : Prop := ∀ a b wa wb μ, RV C μ a wa → RV C μ b wb → Snd C D U (RV C) (inplaceOp op wa wb) (f a b) μ
noncomputable def iaddM (a b : V) : M V := fun σ => match a, b with
  | .int i, .int j => some (.int (i + j), σ)
  | _, _ => none
theorem SIn_add : SIn C D U .Add iaddM := fun a b wa wb μ ra rb A hA σ s r v σ' e Q E q => by
  induction ra with
  | int i t =>
    induction rb with
    | int j u => (first | (have q := qc e q) | (have q := qcB e q) | cases e); exact PyProof.Rows.iadd_int (q μ _ _ (List.prefix_refl _) (r.toks _ _ _ _ rfl rfl) (.int _ _))
    | _ => (first | exact nn e | cases e)
  | _ => (first | exact nn e | cases e)
theorem SIn_sub : SIn C D U .Sub subM := fun a b wa wb μ ra rb A hA σ s r v σ' e Q E q => by
  induction ra with
  | int i t =>
    induction rb with
    | int j u => (first | (have q := qc e q) | (have q := qcB e q) | cases e); exact PyProof.Rows.isub_int (q μ _ _ (List.prefix_refl _) (r.toks _ _ _ _ rfl rfl) (.int _ _))
    | _ => (first | exact nn e | cases e)
  | _ => (first | exact nn e | cases e)
theorem SX_aug {x : Str} {op : Operator} {pos' pos : Pos} {e : Expr} {f : Nat → M V} {o : V → V → M V} (i : Nat) (ho : SIn C D U op o) (h : SE C D U Γ e f) (hi : (tabN Γ.tag)[i]? = some x) :
    SX C D U Γ (.AugAssign (.Name x pos') op e pos) (fun l => bnd (locGet Γ.tag i l) fun a => bnd (f l) fun b => bnd (o a b) fun v => bnd (locSet Γ.tag i l v) fun _ => ret .next) := fun l L μ hok hl A hA σ s r b σ' e Q E q => by
  refine bnd_e e fun a σ₁ e1 e => ?_
  refine bnd_e e fun c σ₂ e2 e => ?_
  refine bnd_e e fun v σ₃ e3 e => ?_
  refine bnd_e e fun _ σ₄ e4 e => ?_
  (first | (have q := qc e q) | (have q := qcB e q) | cases e)
  obtain ⟨vs, g1, g2, g3⟩ := locGet_some e1
  simp only at g2 g3
  subst g3
  refine Rel.at_e r g1 hl (fun ob ho' hr => ?_)
  obtain ⟨m, hn, _, hm⟩ := ns_of ho' hr
  obtain ⟨w, hw, rv⟩ := hm.get hi g2
  refine wpAny_AugAssign_Name (wpAny_loadName_local (Γ.fn L) (Γ.knd L x (List.mem_of_getElem? hi)) (m := m) (v := w) (by rw [Γ.loc L]; exact hn) hw ?_)
  refine h l L μ hok hl A hA _ s r c σ₂ e2 _ E fun μ₁ s₁ wc hp1 r₁ rc => ?_
  refine ho a c w wc μ₁ (rv.ext hp1) rc A hA σ₂ s₁ r₁ v σ₃ e3 _ E fun μ₂ s₂ wv hp2 r₂ rv' => ?_
  have p2 := List.IsPrefix.trans hp1 hp2
  exact store_loc hi (mu_ext p2 hl) rv' A hA σ₃ s₂ r₂ () _ e4 _ E fun μ₃ s₃ _ hp3 r₃ _ => q μ₃ s₃ .next (List.IsPrefix.trans p2 hp3) r₃ .next
/-! remainder, of ints and of a told number (h tells what it is) -/
noncomputable def modM (h : Nat → Int) (a b : V) : M V := fun σ => match a, b with
  | .int i, .int j => match decide (0 < j) with
    | true => some (.int (i.fmod j), σ)
    | false => none
  | .tn k, .int j => match decide (j = h (k - 1) + 2) && decide (0 < j) && Nat.blt 0 k with
    | true => some (.int (h k), σ)
    | false => none
  | _, _ => none
noncomputable def HgtOk (C : Cx) (h : Nat → Int) : Prop := ∀ k, 0 < k → (C.told k).fmod (h (k - 1) + 2) = h k
theorem SOp_mod {h : Nat → Int} (hh : HgtOk C h) : SOp C D U .Mod (modM h) := fun a b wa wb μ ra rb A hA σ s r v σ' e Q E q => by
  unfold modM at e
  induction ra with
  | int i t =>
    induction rb with
    | int j u =>
      simp only at e
      split at e
      · rename_i hb
        have hb := of_decide_eq_true hb
        cases e; exact PyProof.Rows.mod_int (by omega) (q μ _ _ (List.prefix_refl _) (r.toks _ _ _ _ rfl rfl) (.int _ _))
      · (first | exact nn e | cases e)
    | _ => (first | exact nn e | cases e)
  | tn k t =>
    induction rb with
    | int j u =>
      simp only at e
      split at e
      · rename_i hb
        rw [Bool.and_eq_true, Bool.and_eq_true, decide_eq_true_eq, decide_eq_true_eq] at hb
        obtain ⟨⟨h1, h2⟩, h3⟩ := hb
        (first | (have q := qc e q) | (have q := qcB e q) | cases e)
        refine PyProof.Rows.mod_int (by omega) (q μ _ _ (List.prefix_refl _) (r.toks _ _ _ _ rfl rfl) ?_)
        refine rwG (h1) ?_; refine rwG (hh k (Nat.le_of_ble_eq_true h3)) ?_
        exact .int _ _
      · (first | exact nn e | cases e)
    | _ => (first | exact nn e | cases e)
  | _ => (first | exact nn e | cases e)
/-! is -/
noncomputable def isN (a : V) : Bool := V.rec (motive := fun _ => Bool) true (fun _ => false) (fun _ => false) (fun _ => false) (fun _ => false) (fun _ => false) (fun _ => false) (fun _ => false) (fun _ => false) (fun _ => false) (fun _ => false) a
noncomputable def isNoneB (f : Bool → Bool) (a b : V) : M Bool := fun σ => Bool.rec (motive := fun _ => Option (Bool × St)) none (some (f (isN a), σ)) (isN b)
theorem rv_none {μ : List Addr} {a : V} {w : Value} (h : RV C μ a w) : (w == Value.none) = isN a := by induction h <;> rfl
theorem rv_isN {μ : List Addr} {a : V} {w : Value} (h : RV C μ a w) (e : isN a = true) : w = .none := by
  induction h <;> first | rfl | exact absurd e Bool.false_ne_true
theorem SCmp_is : SCmp C D U .Is (isNoneB fun c => c) := fun a b wa wb μ ra rb A hA σ s r v σ' e Q E q => by
  unfold isNoneB at e
  cases hb : isN b with
  | false => rw [hb] at e; exact nn e
  | true =>
    rw [hb] at e
    refine rwG (rv_isN rb hb) ?_
    have q := qcB e q
    exact PySem.is_none (q μ _ _ (List.prefix_refl _) r (congrArg Value.bool (rv_none ra)))
theorem SCmp_isNot : SCmp C D U .IsNot (isNoneB (!·)) := fun a b wa wb μ ra rb A hA σ s r v σ' e Q E q => by
  unfold isNoneB at e
  cases hb : isN b with
  | false => rw [hb] at e; exact nn e
  | true =>
    rw [hb] at e
    refine rwG (rv_isN rb hb) ?_
    have q := qcB e q
    exact PySem.isNot_none (q μ _ _ (List.prefix_refl _) r (congrArg Value.bool (congrArg Bool.not (rv_none ra))))
/-! truth -/
noncomputable def truB (v : V) : M Bool := fun σ => match v with
  | .bool b => some (b, σ)
  | .none => some (false, σ)
  | .int i => some (i != 0, σ)
  | .str x => match chsOf x with
    | some cs => match Nat.ble cs.length 1000 with
      | true => some (!cs.isEmpty, σ)
      | false => none
    | none => none
  | .ref n => match σ.get n with
    | some (.list xs) => match xs with
      | [] => some (false, σ)
      | _ :: _ => match Nat.ble xs.length 1000 with
        | true => some (true, σ)
        | false => none
    | _ => none
  | _ => none
theorem tru_snd {μ : List Addr} {v : V} {w : Value} (rv : RV C μ v w) : Snd C D U BR (truthy w) (truB v) μ := fun A hA σ s r b σ' e Q E q => by
  unfold truB at e
  induction rv with
  | bool c => (first | (have q := qc e q) | (have q := qcB e q) | cases e); exact wpAny_truthy_bool (q μ s _ (List.prefix_refl _) r rfl)
  | none =>
    (first | (have q := qc e q) | (have q := qcB e q) | cases e)
    show wpAny _ _ (pure false) _ _ _
    exact wpAny_pure (q μ s _ (List.prefix_refl _) r rfl)
  | int i t => (first | (have q := qc e q) | (have q := qcB e q) | cases e); exact PyProof.Rows.truthy_int (q μ s _ (List.prefix_refl _) r rfl)
  | str x t =>
    simp only at e
    split at e
    · rename_i cs hcs
      split at e
      · rename_i hb
        have hb := Nat.le_of_ble_eq_true hb
        (first | (have q := qc e q) | (have q := qcB e q) | cases e)
        have := chsOf_map hcs
        subst this
        rw [Cx_str_chs]
        have hl : (⟨cs.toArray⟩ : Str).length = cs.length := rfl
        refine PySem.P.truthy_str (by rw [hl]; omega) (q μ _ _ (List.prefix_refl _) (r.toks _ _ _ _ rfl rfl) ?_)
        refine rwG (hl) ?_
        show (!cs.isEmpty) = _
        induction cs with
        | nil => rfl
        | cons a l => simp; omega
      · (first | exact nn e | cases e)
    · (first | exact nn e | cases e)
  | ref n a hn =>
    simp only at e
    split at e
    · rename_i xs e1
      refine Rel.at_e r e1 hn (fun o ho hr => ?_)
      obtain ⟨ws, hl, rvs⟩ := list_of ho hr
      have hsz : ws.size = xs.length := by rw [← rvs.len]; simp
      induction xs with
      | nil =>
        (first | (have q := qc e q) | (have q := qcB e q) | cases e)
        refine wpAny_truthy_list hl (by rw [hsz]; decide) (q μ _ _ (List.prefix_refl _) (r.toks _ _ _ _ rfl rfl) ?_)
        have : ws = #[] := Array.eq_empty_of_size_eq_zero hsz
        rw [this]; rfl
      | cons x xs =>
        simp only at e
        split at e
        · rename_i hb
          have hb := Nat.le_of_ble_eq_true hb
          (first | (have q := qc e q) | (have q := qcB e q) | cases e)
          refine wpAny_truthy_list hl (by rw [hsz]; simp at hb ⊢; omega) (q μ _ _ (List.prefix_refl _) (r.toks _ _ _ _ rfl rfl) ?_)
          show true = !ws.isEmpty
          have : ws.isEmpty = false := by rw [Array.isEmpty_eq_false_iff]; intro h; rw [h] at hsz; simp at hsz
          rw [this]; rfl
        · (first | exact nn e | cases e)
    · (first | exact nn e | cases e)
  | _ => (first | exact nn e | cases e)
end
end
end Mine
set_option genSizeOf false
set_option genInjectivity false
namespace Mine
noncomputable section
open PySem PySem.W PyProof.Rows PySem.Calls
section
variable {C : Cx} {D U : Nat} {Γ : FE}
/-! a pair taken apart -/
noncomputable def pr2 (l : List V) : Option (V × V) := match l with
  | [] => none
  | a :: t => match t with
    | [] => none
    | b :: u => match u with
      | [] => some (a, b)
      | _ :: _ => none
noncomputable def pr1 (o : VO) : Option (V × V) := match o with
  | .tup l => pr2 l
  | _ => none
noncomputable def prO (o : Option VO) : Option (V × V) := match o with
  | some o => pr1 o
  | none => none
noncomputable def pairAt (v : V) (σ : St) : Option (V × V) := match v with
  | .ref n => prO (σ.get n)
  | _ => none
theorem pr2_some {l : List V} {p : V × V} (h : pr2 l = some p) : l = [p.1, p.2] := by
  cases l with
  | nil => exact nn h
  | cons a t =>
    cases t with
    | nil => exact nn h
    | cons b u =>
      cases u with
      | nil => cases h; rfl
      | cons _ _ => exact nn h
theorem pr1_some {o : VO} {p : V × V} (h : pr1 o = some p) : o = .tup [p.1, p.2] := by
  cases o <;> first | exact nn h | exact congrArg VO.tup (pr2_some h)
theorem prO_some {o : Option VO} {p : V × V} (h : prO o = some p) : o = some (.tup [p.1, p.2]) := by
  cases o with
  | none => exact nn h
  | some o => exact congrArg some (pr1_some h)
theorem pairAt_some {v : V} {σ : St} {a b : V} (h : pairAt v σ = some (a, b)) : ∃ n, v = .ref n ∧ σ.get n = some (.tup [a, b]) := by
  cases v <;> first | exact nn h | exact ⟨_, rfl, prO_some h⟩
noncomputable def pairM (v : V) : M (V × V) := fun σ => match pairAt v σ with
  | some p => some (p, σ)
  | none => none
theorem SAsg_pair {t1 t2 : Expr} {k : Nat} {pos : Pos} {f g : Nat → V → M Unit} (h1 : SAsg C D U Γ t1 f) (h2 : SAsg C D U Γ t2 g)
    (he : autoParam (∀ env, assignEach [t1, t2] env = [(false, assign t1 env), (false, assign t2 env)]) au1._auto_1) :
    SAsg C D U Γ (.Tuple [t1, t2] k pos) (fun l v => bnd (pairM v) fun p => bnd (f l p.1) fun _ => g l p.2) := fun l L μ v w hok hl rv A hA σ s r b σ' e Q E q => by
  refine bnd_e e fun p σ₁ e1 e => ?_
  refine bnd_e e fun _ σ₂ e2 e3 => ?_
  obtain ⟨a, c⟩ := p
  unfold pairM at e1
  split at e1
  · rename_i p' hp
    (first | (have q := qc e1 q) | (have q := qcB e1 q) | cases e1)
    obtain ⟨n, rfl, g1⟩ := pairAt_some hp
    refine RV.eRef rv fun ad hn => ?_
    ·
      refine Rel.at_e r g1 hn (fun o ho hr => ?_)
      obtain ⟨ws, ht, rvs⟩ := tup_of ho hr
      obtain ⟨wl⟩ := ws
      cases rvs with
      | cons ra t =>
      cases t with
      | cons rc t =>
      cases t
      refine wpAny_assign_Tuple hA.hd ht (by rw [he]; rfl) (by rw [he]; rfl) fun h' hx => ?_
      rw [he]
      have r' : Rel C μ _ { s with heap := h' } := r.grow (fun b o e => hx b o (Nat.ne_of_lt (Heap.lt_size e)) e)
      refine wpAny_assignInOrder_more (h1 l L μ a _ hok hl ra A hA _ _ r' () σ₂ e2 _ E fun μ₁ s₁ _ hp1 r₁ _ => ?_)
      refine wpAny_assignInOrder_more (h2 l L μ₁ c _ (Γ.mono hp1 hok) (mu_ext hp1 hl) (rc.ext hp1) A hA _ _ r₁ b σ' e3 _ E fun μ₂ s₂ _ hp2 r₂ _ => ?_)
      exact wpAny_assignInOrder_none (q μ₂ s₂ () (List.IsPrefix.trans hp1 hp2) r₂ trivial)
  · (first | exact nn e1 | cases e1)
theorem SX_asgPair {t1 t2 e : Expr} {k : Nat} {tpos pos : Pos} {f : Nat → M V} {g : Nat → V → M Unit} (h : SE C D U Γ e f) (ht : SAsg C D U Γ (.Tuple [t1, t2] k tpos) g)
    (hs : autoParam (∀ env, swapsWithSole [.Tuple [t1, t2] k tpos] e pos.line env = pure false) au1._auto_1) (hw : autoParam (∀ env, swappedStores [.Tuple [t1, t2] k tpos] e env = pure none) au1._auto_1) :
    SX C D U Γ (.Assign [.Tuple [t1, t2] k tpos] e pos) (fun l => bnd (f l) fun v => bnd (g l v) fun _ => ret .next) := fun l L μ hok hl A hA σ s r b σ' e Q E q => by
  refine bnd_e e fun v σ₁ e1 e => ?_
  refine bnd_e e fun _ σ₂ e2 e => ?_
  (first | (have q := qc e q) | (have q := qcB e q) | cases e)
  refine Assign_Tuple (h l L μ hok hl A hA σ s r v σ₁ e1 _ E fun μ₁ s₁ w hp1 r₁ rv => ?_) (hs _) (hw _)
  exact ht l L μ₁ v w (Γ.mono hp1 hok) (mu_ext hp1 hl) rv A hA σ₁ s₁ r₁ () _ e2 _ E fun μ₂ s₂ _ hp2 r₂ _ => q μ₂ s₂ .next (List.IsPrefix.trans hp1 hp2) r₂ .next
/-! methods of text -/
noncomputable def strChk (v : V) : M Unit := fun σ => match v with | .str _ => some ((), σ) | _ => none
theorem SE_strM {o : Expr} {name : Str} {apos pos : Pos} {args : List Expr} {fo : Nat → M V} {fa : Nat → M (List V)} {fn : List V → M V} (id : String) (slot : Slot "str" name id) (ty : typeOf (.builtin id) = pure (.type "method_descriptor"))
    (ok : CxOk C) (h : SE C D U Γ o fo) (ha : SEs C D U Γ args fa) (hf : SCl C D U (.builtin id) fn)
    (hbase : autoParam (∀ env, attributeBase o name env (eval o env) = eval o env) au1._auto_1)
    (hfew : autoParam (∀ env, ((backTo pos (starEach args env)).all (fun x => !x.1) && (backToKw pos (keywordEach [] env)).all (fun x => x.1.isSome)
      && decide (args.length + ([] : List Keyword).length + (if ([] : List Keyword).isEmpty then 0 else 1) < 30)) = true) au1._auto_1)
    (hline : autoParam ((apos.endLine == pos.line) = true) au2._auto_1) (hpl : autoParam (∀ env, (backTo pos (starEach args env)).any (·.1) = false) au1._auto_1) :
    SE C D U Γ (.Call (.Attribute o name apos) args [] pos) (fun l => bnd (fo l) fun v => bnd (strChk v) fun _ => bnd (fa l) fun vs => fn (v :: vs)) := fun l L μ hok hl A hA σ s r b σ' e Q E q => by
  refine bnd_e e fun v σ₁ e1 e2 => ?_
  refine bnd_e e2 fun _ σ₂ e3 e4 => ?_
  refine bnd_e e4 fun vs σ₃ e5 e6 => ?_
  refine wpAny_Call_method_lateS (hbase _) (hfew _) hline ?_
  refine h l L μ hok hl A hA σ s r v σ₁ e1 _ E fun μ' s' w hp r' rv => ?_
  unfold strChk at e3
  induction rv with
  | str x t =>
    (first | (have q := qc e3 q) | (have q := qcB e3 q) | cases e3)
    refine ⟨"str", id, F.plainAttrs_str, slot, ty, typeIs_str _ _ _, (fun _ e => nomatch e), ?_⟩
    refine callWith_of (P := fun h => (KF C.w.params).In h) (by rw [hpl]; rfl) (keep_bi id) (evA (hpl _) ?_)
    refine ha l L μ' pos (Γ.mono hp hok) (mu_ext hp hl) A hA _ s' r' vs σ₃ e5 _ E fun μ'' s'' ws hp' r'' rvs => ⟨r''.K ok, ?_⟩
    exact hf (.str x :: vs) (.str (C.str x) t :: ws) μ'' (.cons (.str x t) rvs) A hA σ₃ s'' r'' b σ' e6 Q E fun μ₃ s₃ x hp3 => q μ₃ s₃ x (List.IsPrefix.trans (List.IsPrefix.trans hp hp') hp3)
  | _ => (first | exact nn e3 | cases e3)
/-- one sign, turned -/
noncomputable def upC (c : Nat) : Option Nat := match Nat.ble 97 c && Nat.ble c 122 with
  | true => some (c - 32)
  | false => match Nat.blt c 128 with
    | true => some c
    | false => none
noncomputable def loC (c : Nat) : Option Nat := match Nat.ble 65 c && Nat.ble c 90 with
  | true => some (c + 32)
  | false => match Nat.blt c 128 with
    | true => some c
    | false => none
theorem upC_some {c d : Nat} (h : upC c = some d) : c < 128 ∧ up1 c = d := by
  unfold upC at h
  unfold up1
  split at h
  · rename_i q
    rw [Bool.and_eq_true] at q
    have h1 := Nat.le_of_ble_eq_true q.1
    have h2 := Nat.le_of_ble_eq_true q.2
    (first | (have q := qc h q) | (have q := qcB h q) | cases h)
    exact ⟨by omega, if_pos ⟨h1, h2⟩⟩
  · rename_i q
    split at h
    · rename_i q2
      (first | (have q := qc h q) | (have q := qcB h q) | cases h)
      refine ⟨Nat.le_of_ble_eq_true q2, if_neg fun z => ?_⟩
      rw [Nat.ble_eq_true_of_le z.1, Nat.ble_eq_true_of_le z.2] at q
      cases q
    · (first | exact nn h | cases h)
theorem loC_some {c d : Nat} (h : loC c = some d) : c < 128 ∧ lo1 c = d := by
  unfold loC at h
  unfold lo1
  split at h
  · rename_i q
    rw [Bool.and_eq_true] at q
    have h1 := Nat.le_of_ble_eq_true q.1
    have h2 := Nat.le_of_ble_eq_true q.2
    (first | (have q := qc h q) | (have q := qcB h q) | cases h)
    exact ⟨by omega, if_pos ⟨h1, h2⟩⟩
  · rename_i q
    split at h
    · rename_i q2
      (first | (have q := qc h q) | (have q := qcB h q) | cases h)
      refine ⟨Nat.le_of_ble_eq_true q2, if_neg fun z => ?_⟩
      rw [Nat.ble_eq_true_of_le z.1, Nat.ble_eq_true_of_le z.2] at q
      cases q
    · (first | exact nn h | cases h)
noncomputable def ch1 (a : At) : Option Nat := match a with
  | .ch c => some c
  | .lab _ => none
noncomputable def ch2 (l : List At) : Option Nat := match l with
  | [] => none
  | a :: t => match t with
    | [] => ch1 a
    | _ :: _ => none
noncomputable def ch3 (v : V) : Option Nat := match v with
  | .str l => ch2 l
  | _ => none
noncomputable def ch4 (vs : List V) : Option Nat := match vs with
  | [] => none
  | v :: t => match t with
    | [] => ch3 v
    | _ :: _ => none
theorem ch1_some {a : At} {c : Nat} (h : ch1 a = some c) : a = .ch c := by
  cases a with
  | ch d => exact congrArg At.ch (Option.some.inj h)
  | lab _ => exact nn h
theorem ch2_some {l : List At} {c : Nat} (h : ch2 l = some c) : l = [.ch c] := by
  cases l with
  | nil => exact nn h
  | cons a t =>
    cases t with
    | nil => exact congrArg (fun x => [x]) (ch1_some h)
    | cons _ _ => exact nn h
theorem ch3_some {v : V} {c : Nat} (h : ch3 v = some c) : v = .str [.ch c] := by
  cases v <;> first | exact nn h | exact congrArg V.str (ch2_some h)
theorem ch4_some {vs : List V} {c : Nat} (h : ch4 vs = some c) : vs = [.str [.ch c]] := by
  cases vs with
  | nil => exact nn h
  | cons a t =>
    cases t with
    | nil => exact congrArg (fun x => [x]) (ch3_some h)
    | cons _ _ => exact nn h
noncomputable def upM (vs : List V) : M V := fun σ => match ch4 vs with
  | some c => match upC c with
    | some d => some (.str [.ch d], σ)
    | none => none
  | none => none
noncomputable def loM (vs : List V) : M V := fun σ => match ch4 vs with
  | some c => match loC c with
    | some d => some (.str [.ch d], σ)
    | none => none
  | none => none
theorem SCl_upper : SCl C D U (.builtin "str.upper") upM := fun vs ws μ rv A hA σ s r b σ' e Q E q => by
  unfold upM at e
  split at e
  · rename_i c hv
    have hv := ch4_some hv
    subst hv
    split at e
    · rename_i d hd
      (first | (have q := qc e q) | (have q := qcB e q) | cases e)
      obtain ⟨h1, h2⟩ := upC_some hd
      refine RVs.eCons rv fun _ _ h t => ?_
      refine RVs.eNil t ?_
      (first | (have q := qc h q) | (have q := qcB h q) | cases h)
      have hx : Txt.upper (C.str [.ch c]) = C.str [.ch d] := by
        rw [str_one, str_one, upper_ascii (by intro k hk; simp at hk; omega)]
        refine Str.ext' ?_
        simp [h2]
      refine SC.upper (by rw [hx, str_one]; exact (by decide : Builtin.Str.tooLong 1 = false)) ?_
      refine rwG (hx) ?_
      exact q μ _ _ (List.prefix_refl _) (r.toks _ _ _ _ rfl rfl) (.str _ _)
    · (first | exact nn e | cases e)
  · (first | exact nn e | cases e)
theorem SCl_lower : SCl C D U (.builtin "str.lower") loM := fun vs ws μ rv A hA σ s r b σ' e Q E q => by
  unfold loM at e
  split at e
  · rename_i c hv
    have hv := ch4_some hv
    subst hv
    split at e
    · rename_i d hd
      (first | (have q := qc e q) | (have q := qcB e q) | cases e)
      obtain ⟨h1, h2⟩ := loC_some hd
      refine RVs.eCons rv fun _ _ h t => ?_
      refine RVs.eNil t ?_
      (first | (have q := qc h q) | (have q := qcB h q) | cases h)
      have hx : Txt.lower (C.str [.ch c]) = C.str [.ch d] := by
        rw [str_one, str_one, lower_ascii (by intro k hk; simp at hk; omega)]
        refine Str.ext' ?_
        simp [h2]
      refine SC.lower (by rw [hx, str_one]; exact (by decide : Builtin.Str.tooLong 1 = false)) ?_
      refine rwG (hx) ?_
      exact q μ _ _ (List.prefix_refl _) (r.toks _ _ _ _ rfl rfl) (.str _ _)
    · (first | exact nn e | cases e)
  · (first | exact nn e | cases e)
/-! join -/
noncomputable def strY (v : V) : Option (List At) := match v with
  | .str x => some x
  | _ => none
noncomputable def joinT (sep : List At) (x : List At) (r : List V) (z : List At) : List At := match r with
  | [] => x
  | _ :: _ => x ++ (sep ++ z)
noncomputable def joinV (sep : List At) : List V → Option (List At)
  | [] => some []
  | v :: r => match strY v with
    | some x => match joinV sep r with
      | some z => some (joinT sep x r z)
      | none => none
    | none => none
theorem strY_rv {μ : List Addr} {v : V} {w : Value} (r : RV C μ v w) : ∀ {x : List At}, strY v = some x → ∃ t, w = .str (C.str x) t := by
  induction r with
  | str x t => intro y h; cases h; exact ⟨t, rfl⟩
  | _ => intro y h; exact nn h
theorem joinT_some (sep x z : List At) : ∀ {xs : List V} {ys : List Str}, Txt.join (C.str sep) ys = C.str z → ys.length = xs.length → Txt.join (C.str sep) (C.str x :: ys) = C.str (joinT sep x xs z) := fun {xs ys} h2 h3 => by
  cases xs with
  | nil =>
    cases ys with
    | nil => rfl
    | cons _ _ => cases h3
  | cons _ _ =>
    cases ys with
    | nil => cases h3
    | cons y' ys' =>
      unfold Txt.join at h2 ⊢
      rw [StrLaws.glued_eq_join] at h2 ⊢
      show (C.str x ++ C.str sep) ++ Str.join (C.str sep) (y' :: ys') = C.str (x ++ (sep ++ z))
      rw [h2, Cx_str_append, Cx_str_append, Str_append_assoc]
theorem joinV_some (sep : List At) {xs : List V} {ws : List Value} {μ : List Addr} {z : List At} (h : joinV sep xs = some z) (rv : RVs C μ xs ws) : ∃ ys, StrsAre ws ys ∧ Txt.join (C.str sep) ys = C.str z ∧ ys.length = xs.length := by
  induction rv generalizing z with
  | nil => cases h; exact ⟨[], .nil, rfl, rfl⟩
  | cons a t ih =>
    unfold joinV at h
    split at h
    · rename_i x hx
      split at h
      · rename_i z' hz
        cases h
        obtain ⟨ys, h1, h2, h3⟩ := ih hz
        obtain ⟨tk, rfl⟩ := strY_rv a hx
        exact ⟨C.str x :: ys, .cons _ _ h1, joinT_some sep x z' h2 h3, congrArg (· + 1) h3⟩
      · exact nn h
    · exact nn h
end
end
end Mine
set_option genSizeOf false
set_option genInjectivity false
namespace Mine
noncomputable section
open PySem PySem.W PyProof.Rows PySem.Calls
section
variable {C : Cx} {D U : Nat} {Γ : FE}
noncomputable def shX (o : Option (List At)) : Bool := match o with
  | some x => Nat.ble x.length 1000
  | none => false
noncomputable def shortAll : List V → Bool
  | [] => true
  | v :: r => match shX (strY v) with
    | true => shortAll r
    | false => false
theorem shX_rv (ok : CxOk C) {μ : List Addr} {v : V} {w : Value} (r : RV C μ v w) (h : shX (strY v) = true) : ∃ x t, w = .str x t ∧ x.length ≤ 20000 := by
  induction r with
  | str x t => exact ⟨_, t, rfl, Nat.le_trans (Cx_str_len ok x) (Nat.mul_le_mul_left 20 (Nat.le_of_ble_eq_true h))⟩
  | _ => cases h
theorem shortAll_sum (ok : CxOk C) {xs : List V} {ws : List Value} {ys : List Str} {μ : List Addr} (hs : shortAll xs = true) (r : RVs C μ xs ws) (h : StrsAre ws ys) : (ys.map (·.length)).sum ≤ xs.length * 20000 := by
  induction r generalizing ys with
  | nil => cases h; exact Nat.zero_le _
  | cons a t ih =>
    unfold shortAll at hs
    split at hs
    · rename_i q
      obtain ⟨x, tk, rfl, hx⟩ := shX_rv ok a q
      cases h with
      | cons _ _ h =>
      rw [List.map_cons, List.sum_cons, List.length_cons, Nat.succ_mul, Nat.add_comm]
      exact Nat.add_le_add (ih hs h) hx
    · cases hs
noncomputable def joinM (vs : List V) : M V := fun σ => match vs with
  | [.str sep, .ref n] => match σ.get n with
    | some (.list xs) => match shortAll xs && (Nat.ble xs.length 100 && Nat.ble sep.length 10) with
      | true => match joinV sep xs with
        | some z => some (.str z, σ)
        | none => none
      | false => none
    | _ => none
  | _ => none
theorem SCl_join (ok : CxOk C) : SCl C D U (.builtin "str.join") joinM := fun vs ws μ rv A hA σ s r b σ' e Q E q => by
  unfold joinM at e
  split at e
  · rename_i sep n
    split at e
    · rename_i xs g1
      split at e
      · rename_i hb
        rw [Bool.and_eq_true, Bool.and_eq_true] at hb
        obtain ⟨b1, b2, b3⟩ := hb
        have b2 := Nat.le_of_ble_eq_true b2
        have b3 := Nat.le_of_ble_eq_true b3
        split at e
        · rename_i z hz
          (first | (have q := qc e q) | (have q := qcB e q) | cases e)
          refine RVs.eCons rv fun _ _ h t => ?_
          refine RVs.eCons t fun _ _ h2 t => ?_
          refine RVs.eNil t ?_
          (first | (have q := qc h q) | (have q := qcB h q) | cases h)
          refine RV.eRef h2 fun a hn => ?_
          ·
            refine Rel.at_e r g1 hn (fun o ho hr => ?_)
            obtain ⟨us, hl, rvs⟩ := list_of ho hr
            obtain ⟨ys, h1, h2, h3⟩ := joinV_some sep hz rvs
            have hs := shortAll_sum ok b1 rvs h1
            have hsep := Cx_str_len ok sep
            have m1 : ys.length * (C.str sep).length ≤ 100 * 200 := Nat.mul_le_mul (by omega) (by omega)
            have m2 : xs.length * 20000 ≤ 100 * 20000 := Nat.mul_le_mul_right _ b2
            refine join_list hl h1 (by omega) fun t' k => ?_
            refine rwG (h2) ?_
            exact q μ _ _ (List.prefix_refl _) (r.toks _ _ _ _ rfl rfl) (.str _ _)
        · (first | exact nn e | cases e)
      · (first | exact nn e | cases e)
    · (first | exact nn e | cases e)
  · (first | exact nn e | cases e)
noncomputable def chrM (vs : List V) : M V := fun σ => match vs with
  | [.int i] => match decide (0 ≤ i) && decide (i < 128) with
    | true => some (.str [.ch i.toNat], σ)
    | false => none
  | _ => none
theorem SCl_chr : SCl C D U (.builtin "chr") chrM := fun vs ws μ rv A hA σ s r b σ' e Q E q => by
  unfold chrM at e
  split at e
  · rename_i i
    split at e
    · rename_i hb
      rw [Bool.and_eq_true, decide_eq_true_eq, decide_eq_true_eq] at hb
      (first | (have q := qc e q) | (have q := qcB e q) | cases e)
      refine RVs.eCons rv fun _ _ h t => ?_
      refine RVs.eNil t ?_
      (first | (have q := qc h q) | (have q := qcB h q) | cases h)
      refine PySem.P.chr_of_int (by rw [Bool.or_eq_false_iff]; exact ⟨decide_eq_false (by omega), decide_eq_false (by omega)⟩) ?_
      have := q μ ⟨s.heap, s.gens, s.drawn, s.toks + 1, s.os⟩ (.str (C.str [.ch i.toNat]) s.toks) (List.prefix_refl _) (r.toks _ _ _ _ rfl rfl) (.str _ _)
      rw [str_one] at this
      exact this
    · (first | exact nn e | cases e)
  · (first | exact nn e | cases e)
noncomputable def lenM (vs : List V) : M V := fun σ => match vs with
  | [.ref n] => match σ.get n with
    | some (.list xs) => match Nat.ble xs.length 1000 with
      | true => some (.int xs.length, σ)
      | false => none
    | _ => none
  | [.str x] => match Nat.ble x.length 1000 with
    | true => some (.ln x, σ)
    | false => none
  | _ => none
theorem SCl_len (ok : CxOk C) : SCl C D U (.builtin "len") lenM := fun vs ws μ rv A hA σ s r b σ' e Q E q => by
  unfold lenM at e
  split at e
  · rename_i n
    split at e
    · rename_i xs g1
      split at e
      · rename_i hb
        have hb := Nat.le_of_ble_eq_true hb
        (first | (have q := qc e q) | (have q := qcB e q) | cases e)
        refine RVs.eCons rv fun _ _ h t => ?_
        refine RVs.eNil t ?_
        refine RV.eRef h fun a hn => ?_
        ·
          refine Rel.at_e r g1 hn (fun o ho hr => ?_)
          obtain ⟨us, hl, rvs⟩ := list_of ho hr
          have hsz : us.size = xs.length := by rw [← rvs.len]; simp
          refine call_len_list hl (by rw [hsz]; omega) ?_
          refine rwG (hsz) ?_
          exact q μ _ _ (List.prefix_refl _) (r.toks _ _ _ _ rfl rfl) (.int _ _)
      · (first | exact nn e | cases e)
    · (first | exact nn e | cases e)
  · rename_i x
    split at e
    · rename_i hb
      have hb := Nat.le_of_ble_eq_true hb
      (first | (have q := qc e q) | (have q := qcB e q) | cases e)
      refine RVs.eCons rv fun _ _ h t => ?_
      refine RVs.eNil t ?_
      (first | (have q := qc h q) | (have q := qcB h q) | cases h)
      have := Cx_str_len ok x
      exact P.len_str (by omega) (q μ _ _ (List.prefix_refl _) (r.toks _ _ _ _ rfl rfl) (.ln _ _))
    · (first | exact nn e | cases e)
  · (first | exact nn e | cases e)
noncomputable def range2M (vs : List V) : M V := fun σ => match vs with
  | [.int a, .int b] => match decide (-(2 ^ 30) < a) && decide (a < 2 ^ 30) && (decide (-(2 ^ 30) < b) && decide (b < 2 ^ 30)) with
    | true => alloc (.rng a b 1) σ
    | false => none
  | _ => rangeM vs σ
theorem SCl_range2 : SCl C D U (.type "range") range2M := fun vs ws μ rv A hA σ s r b σ' e Q E q => by
  unfold range2M at e
  split at e
  · split at e
    · obtain ⟨hz, e3, e4⟩ := alloc_some e
      simp only at e3 e4
      subst e3 e4
      refine RVs.eCons rv fun _ _ h t => ?_
      refine RVs.eCons t fun _ _ h2 t => ?_
      refine RVs.eNil t ?_
      (first | (have q := qc h q) | (have q := qcB h q) | cases h)
      cases h2
      exact call_range_2 (q _ _ _ (List.prefix_append _ _) (r.alloc rfl hz ⟨_, _, _, rfl⟩) (ref_new r))
    · (first | exact nn e | cases e)
  · exact SCl_range vs ws μ rv A hA σ s r b σ' e Q E q
/-! max of a list of ints -/
noncomputable def intsV : List V → Option (List Int)
  | [] => some []
  | .int i :: r => match intsV r with
    | some l => some (i :: l)
    | none => none
  | _ => none
theorem intsV_are : ∀ {xs : List V} {ws : List Value} {μ : List Addr} {ns : List Int}, intsV xs = some ns → RVs C μ xs ws → IntsAre ws ns
  | [], _, _, _, h, r => by cases r; cases h; exact .nil
  | .int i :: xs, _, _, _, h, r => by
    unfold intsV at h
    split at h
    · rename_i l hl
      (first | (have q := qc h q) | (have q := qcB h q) | cases h)
      refine RVs.eCons r fun _ _ a t => ?_
      cases a
      exact .cons _ _ (intsV_are hl t)
    · (first | exact nn h | cases h)
  | .none :: _, _, _, _, h, _ => by cases h
  | .bool _ :: _, _, _, _, h, _ => by cases h
  | .str _ :: _, _, _, _, h, _ => by cases h
  | .byt _ :: _, _, _, _, h, _ => by cases h
  | .tn _ :: _, _, _, _, h, _ => by cases h
  | .ln _ :: _, _, _, _, h, _ => by cases h
  | .ref _ :: _, _, _, _, h, _ => by cases h
noncomputable def maxL : List Int → Option Int
  | [] => none
  | [a] => some a
  | a :: b :: r => match maxL (b :: r) with
    | some m => match decide (m < a) with
      | true => some a
      | false => some m
    | none => none
theorem maxL_spec : ∀ {l : List Int} {m : Int}, maxL l = some m → m ∈ l ∧ ∀ a ∈ l, a ≤ m
  | [a], m, h => by cases h; simp
  | a :: b :: r, m, h => by
    unfold maxL at h
    split at h
    · rename_i k hk
      obtain ⟨h1, h2⟩ := maxL_spec hk
      split at h
      · rename_i q
        have q := of_decide_eq_true q
        (first | (have q := qc h q) | (have q := qcB h q) | cases h)
        refine ⟨.head _, fun x hx => ?_⟩
        rcases List.mem_cons.mp hx with rfl | hx
        · exact Int.le_refl _
        · exact Int.le_of_lt (Int.lt_of_le_of_lt (h2 x hx) q)
      · rename_i q
        have q := of_decide_eq_false q
        (first | (have q := qc h q) | (have q := qcB h q) | cases h)
        refine ⟨.tail _ h1, fun x hx => ?_⟩
        rcases List.mem_cons.mp hx with rfl | hx
        · omega
        · exact h2 x hx
    · (first | exact nn h | cases h)
noncomputable def maxM (vs : List V) : M V := fun σ => match vs with
  | [.ref n] => match σ.get n with
    | some (.list xs) => match intsV xs with
      | some ns => match maxL ns with
        | some m => some (.int m, σ)
        | none => none
      | none => none
    | _ => none
  | _ => none
theorem SCl_max : SCl C D U (.builtin "max") maxM := fun vs ws μ rv A hA σ s r b σ' e Q E q => by
  unfold maxM at e
  split at e
  · rename_i n
    split at e
    · rename_i xs g1
      split at e
      · rename_i ns hns
        split at e
        · rename_i m hm
          (first | (have q := qc e q) | (have q := qcB e q) | cases e)
          refine RVs.eCons rv fun _ _ h t => ?_
          refine RVs.eNil t ?_
          refine RV.eRef h fun a hn => ?_
          ·
            refine Rel.at_e r g1 hn (fun o ho hr => ?_)
            obtain ⟨us, hl, rvs⟩ := list_of ho hr
            have hi := intsV_are hns rvs
            obtain ⟨zs, e⟩ := hi.allInts.items
            have hns' : ns = zs.toList.map (·.1) := by rw [← hi.numsOf, ← nums_intItems, ← e]
            obtain ⟨m1, m2⟩ := maxL_spec hm
            have hne : 0 < zs.size := by
              have : 0 < ns.length := List.length_pos_of_mem m1
              rw [hns', List.length_map, Array.length_toList] at this; exact this
            have hl' : s.heap.IsList a (intItems zs) := by
              have e2 : us = intItems zs := by rw [← e]
              rw [← e2]; exact hl
            refine max_intList hA.hd hl' hne fun v h' tk hv hk => ?_
            obtain ⟨t, rfl⟩ := intItems_at hv
            obtain ⟨h1, h2⟩ := argBest_gt (numAt zs) (zs.size - 1)
            have k1 : numAt zs (argBest (fun i j => decide (numAt zs i > numAt zs j)) (zs.size - 1)) ∈ ns := by
              rw [hns', numAt_eq]; exact getD_mem (by rw [List.length_map, Array.length_toList]; omega)
            have k2 : ∀ a ∈ ns, a ≤ numAt zs (argBest (fun i j => decide (numAt zs i > numAt zs j)) (zs.size - 1)) := fun a ha => by
              rw [hns'] at ha
              obtain ⟨j, hj, rfl⟩ := mem_getD ha
              rw [List.length_map, Array.length_toList] at hj
              rw [← numAt_eq]; exact h2 j (by omega)
            have : numAt zs (argBest (fun i j => decide (numAt zs i > numAt zs j)) (zs.size - 1)) = m := Int.le_antisymm (m2 _ k1) (k2 m m1)
            refine rwG (this) ?_
            exact q μ _ _ (List.prefix_refl _) (r.grow hk) (.int _ _)
        · (first | exact nn e | cases e)
      · (first | exact nn e | cases e)
    · (first | exact nn e | cases e)
  · (first | exact nn e | cases e)
end
end
end Mine
set_option genSizeOf false
set_option genInjectivity false
namespace Mine
noncomputable section
open PySem PySem.W PyProof.Rows PySem.Calls
set_option maxRecDepth 100000
theorem slot_md_get : Slot "method_descriptor" "__get__" "method_descriptor.__get__" := .of (owner := "method_descriptor") (n := "__get__") (by rw [typeLookup_type, builtinLookup_eq_fast]; kernel_rfl) (by decide +kernel) (by decide +kernel) (by decide +kernel)
  (by first | exact .inl (by decide +kernel) | exact .inr (by decide +kernel)) (by rw [isSubtype_type]; kernel_rfl)
theorem entry_md_get : entryFor table "method_descriptor.__get__" = some Builtin.«method_descriptor.__get__» := entryFor_of_tree (by kernel_rfl)
theorem args_md_get (a b c : Value) : argsOk "method_descriptor.__get__" ⟨[a, b, c], []⟩ := by unfold argsOk; kernel_rfl
theorem slot_wd_get : Slot "wrapper_descriptor" "__get__" "wrapper_descriptor.__get__" := .of (owner := "wrapper_descriptor") (n := "__get__") (by rw [typeLookup_type, builtinLookup_eq_fast]; kernel_rfl) (by decide +kernel) (by decide +kernel) (by decide +kernel)
  (by first | exact .inl (by decide +kernel) | exact .inr (by decide +kernel)) (by rw [isSubtype_type]; kernel_rfl)
theorem entry_wd_get : entryFor table "wrapper_descriptor.__get__" = some Builtin.«wrapper_descriptor.__get__» := entryFor_of_tree (by kernel_rfl)
theorem args_wd_get (a b c : Value) : argsOk "wrapper_descriptor.__get__" ⟨[a, b, c], []⟩ := by unfold argsOk; kernel_rfl
section
variable {w : World} {A : Around} {E : Value → Shared → Prop} {h : Heap} {g : Array GenState} {d : Drawn} {t : Nat} {os : OsState} {a : Addr} {od : Option Addr} {dt : Data} {sl : Array (Option Value)} {Q : Fin → Shared → Prop}
theorem md_get (id : String) (ho : h.get? a = some ⟨.ref 195, od, dt, sl⟩) (hsub : Looks (model P w) h (isSubtype (.ref 195) (.type "list")) true) (tc : Manifest.toldItsClass.contains id = false) (own : ".".intercalate (id.cutAt '.').dropLast = "list")
    (q : Q (.done (.ret (.ref h.objs.size))) ⟨h.push { cls := .type "builtin_function_or_method", data := .fields #[.builtin id, .ref a] }, g, d, t, os⟩) :
    wpAny (model P w) A (Builtin.«method_descriptor.__get__» ⟨[.builtin id, .ref a, .ref 195], []⟩) Q E ⟨h, g, d, t, os⟩ := by
  unfold Builtin.«method_descriptor.__get__»
  repeat (first | (with_reducible refine Looks.at hsub ?_) | wp_step | (rw [own]) | (simp only [tc, Bool.false_eq_true, if_false]) | dsimp only)
  all_goals exact q
theorem wd_get (id : String) (ho : h.get? a = some ⟨.ref 195, od, dt, sl⟩) (hsub : Looks (model P w) h (isSubtype (.ref 195) (.type "list")) true) (own : ".".intercalate (id.cutAt '.').dropLast = "list")
    (q : Q (.done (.ret (.ref h.objs.size))) ⟨h.push { cls := .type "method-wrapper", data := .fields #[.builtin id, .ref a] }, g, d, t, os⟩) :
    wpAny (model P w) A (Builtin.«wrapper_descriptor.__get__» ⟨[.builtin id, .ref a, .ref 195], []⟩) Q E ⟨h, g, d, t, os⟩ := by
  unfold Builtin.«wrapper_descriptor.__get__»
  repeat (first | (with_reducible refine Looks.at hsub ?_) | wp_step | (rw [own]) | dsimp only)
  all_goals exact q
end
end
end Mine
set_option genSizeOf false
set_option genInjectivity false
namespace Mine
noncomputable section
open PySem PySem.W PyProof.Rows PySem.Calls
set_option maxRecDepth 100000
section
variable {w : World} {A : Around} {E : Value → Shared → Prop} {h : Heap} {g : Array GenState} {d : Drawn} {t : Nat} {os : OsState} {x so : Addr} {od : Option Addr} {dt : Data} {sl : Array (Option Value)}
theorem fa_opq (p) : peek (KF p) ⟨P, p⟩ (opaqueClassAbove (.ref 195)) = some none := by kernel_rfl
theorem fa_mro (p) : peek (KF p) ⟨P, p⟩ (mroOf (.ref 195)) = some [.ref 195, .type "list", .type "object"] := by kernel_rfl
theorem sup_ga {id T getId bT : String} {getB : Builtin} {name : Str} {tk : Tok} {Q : Fin → Shared → Prop} (X : (KF w.params).In h) (hx : h.get? x = some ⟨.ref 195, od, dt, sl⟩) (hx195 : x ≠ 195)
    (hso : h.get? so = some { cls := .type "super", dict := none, data := .fields #[.ref 195, .ref x, .ref 195], slots := #[] })
    (hf : alongIn (KF w.params) name [.type "list", .type "object"] = some (some (.builtin id))) (hT : typeOf (.builtin id) = pure (.type T)) (slot : Slot T "__get__" getId) (entry : entryFor table getId = some getB) (args : ∀ a b c, argsOk getId ⟨[a, b, c], []⟩)
    (hget : ∀ (A : Around) (E : Value → Shared → Prop) (Q : Fin → Shared → Prop), Q (.done (.ret (.ref h.objs.size))) ⟨h.push { cls := .type bT, data := .fields #[.builtin id, .ref x] }, g, d, t, os⟩ → wpAny (model P w) A (getB ⟨[.builtin id, .ref x, .ref 195], []⟩) Q E ⟨h, g, d, t, os⟩)
    (hn : (name == ("__class__" : Str)) = false)
    (hq : Q (.done (.ret (.ref h.objs.size))) ⟨h.push { cls := .type bT, data := .fields #[.builtin id, .ref x] }, g, d, t, os⟩) :
    wpAny (model P w) A (Builtin.«super.__getattribute__» ⟨[.ref so, .str name tk], []⟩) Q E ⟨h, g, d, t, os⟩ := by
  have hlk := slot.lookup
  have hno : Looks (model P w) h (opaqueClassAbove (.ref 195)) none := Looks.of_peek X (fa_opq w.params)
  have hC : Looks (model P w) h (mroOf (.ref 195)) [.ref 195, .type "list", .type "object"] := Looks.of_peek X (fa_mro w.params)
  have hl : (([.ref 195, .type "list", .type "object"] : List Value).dropWhile (· != .ref 195)).drop 1 = [.type "list", .type "object"] := by decide +kernel
  have hne : (Value.ref x == Value.ref 195) = false := by simp [hx195]
  have hTf : (⟨h, g, d, t, os⟩ : Shared).TypeIs (.builtin id) T := hT
  have hdt : ({ cls := .type "super", dict := none, data := .fields #[.ref 195, .ref x, .ref 195], slots := #[] } : Obj).data = .fields #[.ref 195, .ref x, .ref 195] := rfl
  have f0 : (#[.ref 195, .ref x, .ref 195] : Array Value)[0]? = some (.ref 195) := rfl
  have f1 : (#[.ref 195, .ref x, .ref 195] : Array Value)[1]? = some (.ref x) := rfl
  have f2 : (#[.ref 195, .ref x, .ref 195] : Array Value)[2]? = some (.ref 195) := rfl
  unfold Builtin.«super.__getattribute__»
  repeat (first
    | (with_reducible refine wpAny_field hso hdt f0 ?_) | (with_reducible refine wpAny_field hso hdt f1 ?_) | (with_reducible refine wpAny_field hso hdt f2 ?_)
    | (with_reducible refine ks_wpAny_notOpaque hno ?_)
    | (with_reducible refine Looks.at hC ?_; rw [hl])
    | (refine ks_forIn_along X (fun _ _ => rfl) rfl ?_ hf)
    | (with_reducible refine wpAny_typeOf hTf ?_)
    | (with_reducible refine wpAny_call_entry slot hTf entry ?_ (args _ _ _))
    | (with_reducible refine hget _ _ _ ?_)
    | (with_reducible refine ⟨_, rfl, ?_⟩)
    | (simp only [hn, hne, Bool.or_false, Bool.false_eq_true, if_false])
    | wp_step
    | dsimp only)
  all_goals exact hq
end
end
end Mine
set_option genSizeOf false
set_option genInjectivity false
namespace Mine
noncomputable section
open PySem PySem.W PyProof.Rows PySem.Calls
set_option maxRecDepth 100000
theorem fa_cls (p) : (clsIn (KF p) 195).isSome = true := by kernel_rfl
theorem fa_self (p) : subIn (KF p) (.ref 195) (.ref 195) = some true := by kernel_rfl
theorem fa_ctype (p) : typeIn (KF p) (.ref 195) = some (.type "type") := by kernel_rfl
theorem fa_nomod (p) : subIn (KF p) (.ref 195) (.type "module") = some false := by kernel_rfl
section
variable {w : World} {A : Around} {E : Value → Shared → Prop} {h : Heap} {g : Array GenState} {d : Drawn} {t : Nat} {os : OsState} {x so : Addr} {od : Option Addr} {dt : Data} {sl : Array (Option Value)}
theorem cls_at (X : (KF w.params).In h) : ∃ oD cd, h.get? 195 = some oD ∧ oD.data = .cls cd := by
  have := fa_cls w.params
  obtain ⟨cd, hc⟩ := Option.isSome_iff_exists.mp this
  unfold clsIn at hc
  split at hc
  · rename_i c d cd' sl ho
    cases hc
    exact ⟨_, _, X _ _ ho, rfl⟩
  · (first | exact nn hc | cases hc)
theorem ne195 (X : (KF w.params).In h) {ws : Array Value} {k : Nat} (hx : h.get? x = some ⟨.ref 195, od, .seq ws k, sl⟩) : x ≠ 195 := by
  rintro rfl
  obtain ⟨oD, cd, h1, h2⟩ := cls_at (w := w) X
  rw [hx] at h1
  cases h1
  cases h2
theorem sup_getMethod {id T getId bT : String} {getB : Builtin} {name : Str} {pl : Sem Bool} {Q : Value × List Value → Shared → Prop} (X : (KF w.params).In h) (hx : h.get? x = some ⟨.ref 195, od, dt, sl⟩) (hx195 : x ≠ 195)
    (hso : h.get? so = some { cls := .type "super", dict := none, data := .fields #[.ref 195, .ref x, .ref 195], slots := #[] })
    (hf : alongIn (KF w.params) name [.type "list", .type "object"] = some (some (.builtin id))) (hT : typeOf (.builtin id) = pure (.type T)) (slot : Slot T "__get__" getId) (entry : entryFor table getId = some getB) (args : ∀ a b c, argsOk getId ⟨[a, b, c], []⟩)
    (hget : ∀ (t : Nat) (A : Around) (E : Value → Shared → Prop) (Q : Fin → Shared → Prop), Q (.done (.ret (.ref h.objs.size))) ⟨h.push { cls := .type bT, data := .fields #[.builtin id, .ref x] }, g, d, t, os⟩ → wpAny (model P w) A (getB ⟨[.builtin id, .ref x, .ref 195], []⟩) Q E ⟨h, g, d, t, os⟩)
    (hn : (name == ("__class__" : Str)) = false)
    (hq : Q (.ref h.objs.size, []) ⟨h.push { cls := .type bT, data := .fields #[.builtin id, .ref x] }, g, d, t + 1, os⟩) :
    wpAny (model P w) A (getMethod (.ref so) name pl) Q E ⟨h, g, d, t, os⟩ := by
  have hlk := F.ks_slot_super_ga.lookup
  have hcan := F.ks_canon_super_ga
  have hT' : ∀ t', (⟨h, g, d, t', os⟩ : Shared).TypeIs (.ref so) "super" := fun _ => ⟨_, hso, rfl⟩
  unfold getMethod
  refine wpAny_bind (wpAny_specialOf (hT' _) hlk ?_)
  show wpAny _ _ (if (Manifest.canonical "super.__getattribute__" != "object.__getattribute__") = true then _ else _) _ _ _
  refine wite_p hcan ?_
  unfold getAttr getAttrBy
  refine wpAny_bind (wpAny_bind (wpAny_mkText (wpAny_holding (wpAny_bind (wpAny_typeOf (hT' _) (wpAny_bind (wpAny_of_eq hlk ?_)))))))
  show wpAny _ _ (getAttrByItsOwn (.ref so) (.str name t) (.type "super") (.builtin "super.__getattribute__") true false) _ _ _
  unfold getAttrByItsOwn hookBefore callGetattribute boundAndCalled
  refine wpAny_bind (wpAny_of_eq (show (if onTheHeap (.type "super") then typeLookup (.type "super") "__getattr__" else pure none) = pure none from rfl) ?_)
  refine wpAny_bind (wpAny_attempt (wpAny_holding ?_))
  show wpAny _ _ (bindSpecial (.builtin "super.__getattribute__") (.ref so) >>= _) _ _ _
  refine wpAny_bind (wpAny_of_eq (F.ks_slot_super_ga.bind _) ?_)
  refine wpAny_mono (Q := fun v s' => v = .ref h.objs.size ∧ s' = ⟨h.push { cls := .type bT, data := .fields #[.builtin id, .ref x] }, g, d, t + 1, os⟩) (E := fun _ _ => False)
    (wpAny_call_entry F.ks_slot_super_ga (hT' _) F.ks_entry_super_ga (sup_ga X hx hx195 hso hf hT slot entry args (hget _) hn ⟨_, rfl, rfl, rfl⟩) (F.ks_gaArgs_super _ _)) (fun v s' hv => ?_) fun _ _ z => z.elim
  obtain ⟨rfl, rfl⟩ := hv
  exact wpAny_pure (wpAny_pure hq)
/-- the bound built-in, called -/
theorem bound_call {id bT : String} {B : Builtin} {b : Addr} {args : List Value} {s : Shared} {Q : Value → Shared → Prop} (hb : s.heap.get? b = some { cls := .type bT, dict := none, data := .fields #[.builtin id, .ref x], slots := #[] })
    (hbT : bT = "builtin_function_or_method" ∨ bT = "method-wrapper") (hchk : ∀ (A : Around) (E : Value → Shared → Prop) (Q : Unit → Shared → Prop), Q () s → wpAny (model P w) A (checkBoundCall id ⟨.ref x :: args, []⟩) Q E s)
    (hp : plainId id = true) (he : entryFor table id = some B)
    (hB : wpAny (model P w) A.in1 (B ⟨.ref x :: args, []⟩) (fun fin s' => ∃ v, fin = .done (.ret v) ∧ Q v s') E s) : wpAny (model P w) A (call (.ref b) args) Q E s := by
  refine wpAny_call (codeAny_of_tree ?_)
  show wpAny _ A.in1 (callAny (.ref b) ⟨args, []⟩) _ _ _
  unfold callAny
  refine wpAny_bind (wpAny_load hb ?_)
  have hc : ((Value.type bT == .type "method" || Value.type bT == .type "builtin_function_or_method" || Value.type bT == .type "method-wrapper") = true) := by rcases hbT with rfl | rfl <;> decide +kernel
  have hc2 : ((Value.type bT != .type "method") = true) := by rcases hbT with rfl | rfl <;> decide +kernel
  dsimp only
  refine wite_p hc ?_
  show wpAny _ _ (if (Value.type bT != .type "method") = true then _ else _) _ _ _
  refine wite_p hc2 ?_
  refine wpAny_bind (hchk _ _ _ (wpAny_pure ⟨plainId_quiet hp _, codeAny_builtin he ?_⟩))
  refine rwG (Around.under_plainId hp _) ?_
  refine wpAny_mono hB (fun fin s' hf => ?_) fun _ _ z => z
  obtain ⟨v, rfl, hv⟩ := hf
  exact hv
end
end
end Mine
set_option genSizeOf false
set_option genInjectivity false
namespace Mine
noncomputable section
open PySem PySem.W PyProof.Rows PySem.Calls
set_option maxRecDepth 100000
section
variable {C : Cx} {D U : Nat} {Γ : FE}
noncomputable def FinR (C : Cx) (μ : List Addr) (b : V) (fin : Fin) : Prop := ∃ v, fin = .done (.ret v) ∧ RV C μ b v
noncomputable def SBI (C : Cx) (D U : Nat) (B : Builtin) (fn : List V → M V) : Prop := ∀ vs ws μ, RVs C μ vs ws → Snd C D U (FinR C) (B ⟨ws, []⟩) (fn vs) μ
noncomputable def accLen (vs : List V) : M V := fun σ => match vs with
  | [v] => match accAt v σ with
    | some (_, _, xs, _) => some (.int xs.length, σ)
    | none => none
  | _ => none
theorem SBI_len : SBI C D U Builtin.«list.__len__» accLen := fun vs ws μ rv A hA σ s r b σ' e Q E q => by
  unfold accLen at e
  split at e
  · rename_i v
    split at e
    · rename_i n d xs nms ha
      cases e
      obtain ⟨rfl, g1, g2, g3, g4⟩ := accAt_some ha
      refine RVs.eCons rv fun _ _ h t => ?_
      refine RVs.eNil t ?_
      refine RV.eRef h fun a hn => ?_
      ·
        obtain ⟨us, kk, da, es, m, ho, hd, rvs, hsz, I, dr⟩ := acc_inst r hn g1 g2
        have q' := q μ { s with toks := s.toks + 1 } (.done (.ret (.int xs.length s.toks))) (List.prefix_refl _) (r.toks _ _ _ _ rfl rfl) ⟨_, rfl, .int _ _⟩
        rw [← hsz] at q'
        obtain ⟨hh, g, d', tk, os⟩ := s
        unfold Builtin.«list.__len__»
        repeat (first | wp_step | dsimp only)
        all_goals exact q'
    · (first | exact nn e | cases e)
  · (first | exact nn e | cases e)
noncomputable def accPop (vs : List V) : M V := fun σ => match vs with
  | [v] => match accAt v σ with
    | some (n, d, xs, _) => match xs.getLast? with
      | some x => match Nat.blt σ.n 60001 with
        | true => some (x, σ.put n (.acc d xs.dropLast))
        | false => none
      | none => none
    | none => none
  | _ => none
theorem SBI_pop : SBI C D U Builtin.«list.pop» accPop := fun vs ws μ rv A hA σ s r b σ' e Q E q => by
  unfold accPop at e
  split at e
  · rename_i v
    split at e
    · rename_i n d xs nms ha
      split at e
      · rename_i x hx
        split at e
        · rename_i hb
          have hb2 : σ.n < 60001 := Nat.le_of_ble_eq_true hb
          cases e
          obtain ⟨rfl, g1, g2, g3, g4⟩ := accAt_some ha
          refine RVs.eCons rv fun _ _ h t => ?_
          refine RVs.eNil t ?_
          refine RV.eRef h fun a hn => ?_
          ·
            obtain ⟨us, kk, da, es, m, ho, hd, rvs, hsz, I, dr⟩ := acc_inst r hn g1 g2
            have hx' : xs[xs.length - 1]? = some b := by rw [← hx, List.getLast?_eq_getElem?]
            have hpos : 0 < xs.length := by
              induction xs with
              | nil => (first | exact nn hx | cases hx)
              | cons _ _ => simp
            obtain ⟨y, hy, ry⟩ := rvs.get hx'
            have hyA : us[us.size - 1]? = some y := by rw [hsz, ← Array.getElem?_toList]; exact hy
            have hidx : ((seqIndex? (-1) us.size).bind fun k => us[k]?.map (k, ·)) = some (us.size - 1, y) := by
              have : seqIndex? (-1) us.size = some (us.size - 1) := by
                unfold seqIndex?
                have e1 : ((-1 : Int) < 0) := by decide
                simp only [e1, if_true]
                have e2 : ((-1 : Int) + us.size).toNat = us.size - 1 := by omega
                first
                  | (rw [if_pos (by omega)]; rw [e2])
                  | (simp; omega)
              refine rwG (this) ?_
              show (us[us.size - 1]?.map _) = _
              rw [hyA]; rfl
            have hemp : us.isEmpty = false := by
              rw [Array.isEmpty_eq_false_iff]; intro z; rw [z] at hsz; simp at hsz; omega
            show wpAny _ _ (do
              let i ← pure (-1 : Int)
              if !Builtin.List.listFitsIndex i then rule "list.pop.index-too-large"; raiseError "OverflowError" "Python int too large to convert to C ssize_t"
              let xs ← Builtin.List.listItems (.ref a)
              if xs.isEmpty then rule "list.pop.empty"; raiseError "IndexError" "pop from empty list"
              match (seqIndex? i xs.size).bind fun k => xs[k]?.map (k, ·) with
              | some (k, x) => Builtin.List.listUpdate (.ref a) (·.eraseIdxIfInBounds k); _root_.PySem.ret x
              | none => rule "list.pop.out-of-range"; raiseError "IndexError" "pop index out of range") Q E s
            refine wpAny_bind (wpAny_pure ?_)
            refine wite_n (by decide +kernel) ?_
            refine wpAny_bind (wpAny_bind (m := seqItems? (.ref a)) (wpAny_seqItems ho rfl (wpAny_pure ?_)))
            refine rwG (hemp) ?_; refine wite_n (by decide) ?_
            refine rwG (hidx) ?_
            refine wpAny_bind (wpAny_updateSeq (n := kk) ho rfl (wpAny_pure ?_) (by rw [hsz, sizeLine_eq]; omega) (by
              have e9 := List.length_eraseIdx_le us.toList (us.size - 1); rw [← Array.toList_eraseIdxIfInBounds, Array.length_toList, Array.length_toList] at e9; rw [sizeLine_eq]; omega))
            refine q μ _ _ (List.prefix_refl _) (r.put g1 rfl hn hb2 (Heap.SameBut.update ..).extBut fun _ => ?_) ⟨y, rfl, ry⟩
            obtain ⟨n', hn'⟩ := mapSeq_seq (.ref 195) (some da) us kk #[] (·.eraseIdxIfInBounds (us.size - 1))
            refine ⟨_, Heap.get?_update_self _ ho (by rw [hn']; rfl), ?_⟩
            refine rwG (hn') ?_
            refine ⟨_, n', da, hd, rfl, ?_⟩
            have e3 : (us.eraseIdxIfInBounds (us.size - 1)).toList = us.toList.take (us.size - 1) := by
              refine rwG (Array.toList_eraseIdxIfInBounds) ?_
              rw [List.eraseIdx_eq_take_drop_succ]
              rw [List.drop_of_length_le (by simp; omega), List.append_nil]
            refine rwG (e3) ?_; refine rwG (List.dropLast_eq_take) ?_; refine rwG (hsz) ?_
            exact rvs.take _
        · (first | exact nn e | cases e)
      · (first | exact nn e | cases e)
    · (first | exact nn e | cases e)
  · (first | exact nn e | cases e)
end
end
end Mine
set_option genSizeOf false
set_option genInjectivity false
namespace Mine
noncomputable section
open PySem PySem.W PyProof.Rows PySem.Calls
set_option maxRecDepth 100000
section
variable {C : Cx} {D U : Nat} {Γ : FE}
noncomputable def SXsAt (C : Cx) (D U : Nat) (f : Addr) (Γ : FE) (st : List Stmt) (g : Nat → M VF) : Prop := ∀ l L μ, Γ.ok μ → μ[l]? = some L → ∀ (A : Around), AOk D U A → ∀ (σ : St) (s : Shared), Rel C μ σ s → ∀ b σ', g l σ = some (b, σ') →
    ∀ (Q : Flow → Shared → Prop) (E : Value → Shared → Prop), (∀ μ' s' a, μ <+: μ' → Rel C μ' σ' s' → FR C μ' b a → Q a s') → _root_.PySem.wpAt (model P C.w) A (.func (bodyOf f) (Γ.env L)) (execs st (Γ.env L)) Q E s
theorem SXsAt_cons {fn : Addr} {st : Stmt} {rest : List Stmt} {f g : Nat → M VF} (hf : SX C D U Γ st f) (hg : SXsAt C D U fn Γ rest g) :
    SXsAt C D U fn Γ (st :: rest) (fun l => bnd (f l) fun x => match x with | .next => g l | y => ret y) := fun l L μ hok hl A hA σ s r b σ' e Q E k => by
  refine bnd_e e fun x σ₁ e1 e2 => ?_
  refine ks_wpAt_execs_cons (_root_.PySem.wpAt_of_wpAny (hf l L μ hok hl A hA σ s r x σ₁ e1 _ E fun μ' s' a hp r' ha => ?_))
  induction ha with
  | next => exact hg l L μ' (Γ.mono hp hok) (mu_ext hp hl) A hA σ₁ s' r' b σ' e2 Q E fun μ'' s'' a' hp' => k μ'' s'' a' (List.IsPrefix.trans hp hp')
  | brk => cases e2; exact k μ' s' .brk hp r' .brk
  | cont => cases e2; exact k μ' s' .cont hp r' .cont
  | ret h => cases e2; exact k μ' s' _ hp r' (.ret h)
/-- what super needs of a def -/
structure SupOk (f : Addr) (me : Str) : Prop where
  arg : ∃ ar, ((fdOf f).params.posonlyargs ++ (fdOf f).params.args).head? = some ar ∧ ar.arg = me
  ks : ∀ L, (callEnv (fdOf f) L f).kindOf "super" = some .globalImplicit
  kc : ∀ L, (callEnv (fdOf f) L f).kindOf "__class__" = some .free
  K : ∀ p, (KF p).lookup f = some ⟨.type "function", none, .func (fdOf f), #[]⟩
  code : ∃ cc oc od osl vs file, (fdOf f).code = .ref cc ∧ (∀ p, (KF p).lookup cc = some ⟨oc, od, .fields vs, osl⟩) ∧ (∃ tf, vs[2]? = some (.str file tf)) ∧ ((P.main.file : Str) == file) = true
  top : (P.main.scope.names.lookup ("super" : Str)).isSome = false
  sup : ∀ p L, peek (KF p) ⟨P, p⟩ (loadName (callEnv (fdOf f) L f) "super") = some (.type "super")
  cls : ∀ p L, peek (KF p) ⟨P, p⟩ (loadName (callEnv (fdOf f) L f) "__class__") = some (.ref 195)
theorem sup_eval {f : Addr} {hg : GOk f} {me name : Str} {p0 p1 apos pos : Pos} {id T getId bT : String} {getB B : Builtin} {fn : List V → M V} (ok : CxOk C) (so : SupOk f me) (hme : (tabN f)[0]? = some me) (hn : (name == ("__class__" : Str)) = false)
    (hf : alongIn (KF C.w.params) name [.type "list", .type "object"] = some (some (.builtin id))) (hT : typeOf (.builtin id) = pure (.type T)) (slot : Slot T "__get__" getId) (entry : entryFor table getId = some getB) (args : ∀ a b c, argsOk getId ⟨[a, b, c], []⟩)
    (hget : ∀ (h : Heap) (x : Addr) (od : Option Addr) (dt : Data) (sl : Array (Option Value)) (g : Array GenState) (d : Drawn) (t : Nat) (os : OsState) (A : Around) (E : Value → Shared → Prop) (Q : Fin → Shared → Prop), h.get? x = some ⟨.ref 195, od, dt, sl⟩ →
      Looks (model P C.w) h (isSubtype (.ref 195) (.type "list")) true →
      Q (.done (.ret (.ref h.objs.size))) ⟨h.push { cls := .type bT, data := .fields #[.builtin id, .ref x] }, g, d, t, os⟩ → wpAny (model P C.w) A (getB ⟨[.builtin id, .ref x, .ref 195], []⟩) Q E ⟨h, g, d, t, os⟩)
    (hbT : bT = "builtin_function_or_method" ∨ bT = "method-wrapper")
    (hchk : ∀ (s : Shared) (x : Addr) (ox : Obj) (od : Option Obj) (A : Around) (E : Value → Shared → Prop) (Q : Unit → Shared → Prop), (KF C.w.params).In s.heap → W.InstAt s.heap x ox 195 od → Q () s → wpAny (model P C.w) A (checkBoundCall id ⟨[.ref x], []⟩) Q E s)
    (hpl : plainId id = true) (he : entryFor table id = some B) (hB : SBI C D (U + 1) B fn)
    (hev : autoParam (∀ env, ∃ pl : Sem Bool, eval (.Call (.Attribute (.Call (.Name "super" p0) [] [] p1) name apos) [] [] pos) env = (do
      let ov ← attributeBase (.Call (.Name "super" p0) [] [] p1) name env (eval (.Call (.Name "super" p0) [] [] p1) env)
      standAt apos.atName
      let (f, first) ← holding [ov] (getMethod ov name pl)
      callWith pos f first (backTo pos (starEach [] env)) [])) au8._auto_1)
    {l : Nat} {L : Addr} {μ : List Addr} (hl : μ[l]? = some L) {A : Around} (hA : AOk D U A) {σ : St} {s : Shared} (r : Rel C μ σ s) {b : V} {σ' : St} (e : bnd (locGet f 0 l) (fun v => bnd (accChk v) fun _ => fn [v]) σ = some (b, σ'))
    {Q : Value → Shared → Prop} {E : Value → Shared → Prop} (q : ∀ μ' s' a, μ <+: μ' → Rel C μ' σ' s' → RV C μ' b a → Q a s') :
    _root_.PySem.wpAt (model P C.w) A (.func (bodyOf f) (callEnv (fdOf f) L f)) (eval (.Call (.Attribute (.Call (.Name "super" p0) [] [] p1) name apos) [] [] pos) (callEnv (fdOf f) L f)) Q E s := by
  refine bnd_e e fun v σ₁ e1 e => ?_
  refine bnd_e e fun _ σ₂ e2 e3 => ?_
  obtain ⟨vs, g1, g2, g3⟩ := locGet_some e1
  simp only at g2 g3
  subst g3
  unfold accChk at e2
  split at e2
  · rename_i pp hi
    obtain ⟨n, d, xs, nms⟩ := pp
    (first | (have q := qc e2 q) | (have q := qcB e2 q) | cases e2)
    obtain ⟨rfl, k1, k2, k3, k4⟩ := accAt_some hi
    refine Rel.at_e r g1 hl (fun ol hol hrl => ?_)
    obtain ⟨m, hns, _, hm⟩ := ns_of hol hrl
    obtain ⟨w0, hw, rw0⟩ := hm.get hme g2
    have hmm : m me = some w0 := hw
    cases rw0 with
    | ref _ a hn' =>
    obtain ⟨us, kk, da, es, mm, ho, hd, rvs, hsz, I, dr⟩ := acc_inst r hn' k1 k2
    have X := r.K ok
    obtain ⟨ar, har, harg⟩ := so.arg
    obtain ⟨cc, oc, od, osl, vsc, file, c1, c2, ⟨tf, c3⟩, c4⟩ := so.code
    obtain ⟨pl, hev⟩ := hev (callEnv (fdOf f) L f)
    refine ks_wpAt_MethodCall (pl := pl) ?_ hev
    refine ks_wpAt_super_base (so.ks L) (so.kc L) hn rfl (X _ _ (so.K _)) rfl har c1 (X _ _ (c2 _)) rfl c3 c4 so.top ?_
    refine (Looks.of_peek (M := model P C.w) X (so.sup C.w.params L)).here ⟨rfl, ?_⟩
    refine (Looks.of_peek (M := model P C.w) X (so.cls C.w.params L)).here ?_
    refine rwG (harg) ?_
    refine wpAny_loadName_local hg.a (by
      have := List.all_eq_true.mp hg.d me (List.mem_of_getElem? hme)
      exact eq_of_beq this) (m := m) (v := .ref a) hns hmm ?_
    obtain ⟨hh, gg, dd, tk, os⟩ := s
    obtain ⟨oD, cd, hD1, hD2⟩ := cls_at (w := C.w) X
    refine ks_wpAny_isType_cls hD1 hD2 ⟨rfl, ?_⟩
    refine ks_wpAny_call_super hD1 hD2 ho rfl (fun c z => by cases z) (looks_subIn X (fa_self _)) (fun h' e' k' => ?_)
    have r1 : Rel C μ _ ⟨h', gg, dd, tk, os⟩ := r.grow k'
    have X1 := r1.K ok
    have ho1 := k' _ _ ho
    have hx195 := ne195 (w := C.w) X ho
    have isub : Looks (model P C.w) h' (isSubtype (.ref 195) (.type "list")) true := looks_subIn X1 (fa_sub _)
    refine sup_getMethod X1 ho1 hx195 e' hf hT slot entry args (fun t A E Q q => hget h' a _ _ _ gg dd t os A E Q ho1 isub q) hn ?_
    have r2 : Rel C μ _ ⟨h'.push { cls := .type bT, data := .fields #[.builtin id, .ref a] }, gg, dd, tk + 1, os⟩ := r1.grow (fun b o e => Heap.get?_push_of_some _ e)
    have hb : (h'.push { cls := .type bT, data := .fields #[.builtin id, .ref a] }).get? h'.objs.size = some { cls := .type bT, dict := none, data := .fields #[.builtin id, .ref a], slots := #[] } := Heap.get?_push_size _ rfl
    refine callWith_of (P := fun h => h.get? h'.objs.size = some { cls := .type bT, dict := none, data := .fields #[.builtin id, .ref a], slots := #[] }) rfl (fun h hP => ⟨.machine, .inr (.inl rfl), fun A Q E s kp q => ?_⟩) (evA rfl (spliced_nil ⟨hb, ?_⟩))
    · unfold keeperOf
      refine wpAny_bind (wpAny_load (kp _ _ hP) ?_)
      rcases hbT with rfl | rfl
      · show wpAny _ _ (if (Value.type "builtin_function_or_method" != .type "method") = true then _ else _) _ _ _
        refine wite_p (by decide +kernel) ?_
        exact wpAny_pure q
      · show wpAny _ _ (if (Value.type "method-wrapper" != .type "method") = true then _ else _) _ _ _
        refine wite_p (by decide +kernel) ?_
        exact wpAny_pure q
    · obtain ⟨us2, kk2, da2, es2, mm2, ho2, hd2, rvs2, hsz2, I2, dr2⟩ := acc_inst r2 hn' k1 k2
      refine bound_call hb hbT (fun A E Q qq => hchk _ _ _ _ A E Q (r2.K ok) I2 qq) hpl he ?_
      refine hB [.ref n] [.ref a] μ (.cons (.ref n a hn') .nil) A.in1 hA.in1 _ _ r2 b σ' e3 _ E fun μ' s' fin hp r' hfin => ?_
      obtain ⟨v, rfl, rv⟩ := hfin
      exact ⟨v, rfl, q μ' s' v hp r' rv⟩
  · (first | exact nn e2 | cases e2)
end
end
end Mine
set_option genSizeOf false
set_option genInjectivity false
namespace Mine
noncomputable section
open PySem PySem.W PyProof.Rows PySem.Calls
set_option maxRecDepth 100000
section
variable {C : Cx} {D U : Nat} {Γ : FE}
theorem SFn_defAt {f : Addr} {h : GOk f} {g : Nat → M VF} {np nl : Nat} {dv : List V} {dw : List Value} (ok : CxOk C) (hd : ∀ μ, RVs C μ dv dw) (ok2 : DefOk f np nl dw)
    (hD : D < 900) (hb : SXsAt C (D + 1) (U + 3) f (GG f h) (bodyOf f) g) : SFn C D U f (defD f np nl dv g) := fun vs ws μ rv A hA σ s r b σ' e Q E q => by
  unfold defD at e
  have hnl := Nat.eq_of_beq_eq_true ok2.hnl
  have hnp := Nat.le_of_ble_eq_true ok2.hnp
  have hdl : dw.length = dv.length := (hd μ).len
  cases hlen : Nat.beq vs.length np with
  | true =>
    rw [hlen] at e
    replace hlen := Nat.eq_of_beq_eq_true hlen
    refine bnd_e e fun r0 σ₁ e1 e2 => ?_
    obtain ⟨hz, e3, e4⟩ := alloc_some e1
    simp only at e3 e4
    subst e3 e4
    refine bnd_e e2 fun fl σ₂ e5 e6 => ?_
    (first | (have q := qc e6 q) | (have q := qcB e6 q) | cases e6)
    have X := r.K ok
    have rva : RVs C μ (vs ++ dv) (ws ++ dw) := rv.append (hd μ)
    refine wpAny_call ?_
    refine ks_codeAny_call_defAt (binds := ((tabN f).take (np + dw.length)).zip (ws ++ dw)) (Nat.lt_of_le_of_lt hA.dp (Nat.lt_trans hD (by decide))) (X _ _ (ok2.K _)) rfl (ok.lim.keeps r.old) (codeRec_of X (ok2.cd _)) ok2.body
      (fun M A E Q hq => (Looks.of_peek X (ok2.bind _ ⟨M.prog, M.w.params⟩ ws (by rw [rv.len, hlen]))).here hq) (fun x hx => by
        have := List.all_eq_true.mp ok2.cell x hx
        simpa using this) (fun x hx => eq_of_beq (List.all_eq_true.mp ok2.loc _ (List.of_mem_zip hx).1)) (fun h₁ hns hk₁ => ?_) ok2.co ok2.gen ok2.kind
    obtain ⟨o, ho, hr⟩ := ns_to (C := C) (μ := μ ++ [s.heap.objs.size]) (tag := f) (vs := (vs ++ dv).map some ++ List.replicate (nl - (np + dv.length)) none) hns (by simp; omega) (by
      have := MR_binds (C := C) h.e (rva.ext (List.prefix_append μ [s.heap.objs.size])) (by rw [List.length_append]; omega)
      rw [List.length_append, hlen, hnl, ← hdl] at this
      refine rwH (hdl) ?_
      exact this)
    have r₁ := r.add (t := s.toks + (((tabN f).take (np + dw.length)).zip (ws ++ dw)).length) (d := s.drawn) hk₁ (get_size_none _) ho hz hr
    have hat : (μ ++ [s.heap.objs.size])[σ.n]? = some s.heap.objs.size := by rw [← r.len]; simp
    have hb' := hb σ.n s.heap.objs.size _ trivial hat
    refine hb' _ (hA.deeper _) _ _ r₁ fl _ e5 _ _ fun μ' s' a hp r' hf => ?_
    have hp' := List.IsPrefix.trans (List.prefix_append μ [s.heap.objs.size]) hp
    induction hf with
    | ret h => exact q μ' s' _ hp' r' h
    | next => exact q μ' s' _ hp' r' .none
    | brk => exact q μ' s' _ hp' r' .none
    | cont => exact q μ' s' _ hp' r' .none
  | false => rw [hlen] at e; cases e
theorem chk_len (s : Shared) (x : Addr) (w : World) (A : Around) (E : Value → Shared → Prop) (Q : Unit → Shared → Prop) (q : Q () s) : wpAny (model P w) A (checkBoundCall "list.__len__" ⟨[.ref x], []⟩) Q E s := by
  have : checkBoundCall "list.__len__" ⟨[.ref x], []⟩ = pure () := by kernel_rfl
  rw [this]; exact wpAny_pure q
theorem fa_qual (p) : (clsIn (KF p) 195).map (·.qualname) = some "_Accumulator" := by kernel_rfl
theorem chk_pop0 (x : Addr) : (match Manifest.signature? "list.pop" with | some sig => Bind.checkArgs "list.pop" { sig with full := toString (Str.ofString "_Accumulator").toString ++ toString "." ++ toString (Bind.lastOf "list.pop") } ⟨[.ref x], []⟩ | none => pure ()) = pure () := by kernel_rfl
theorem chk_pop (s : Shared) (x : Addr) (ox : Obj) (od : Option Obj) (w : World) (A : Around) (E : Value → Shared → Prop) (Q : Unit → Shared → Prop) (X : (KF w.params).In s.heap) (I : W.InstAt s.heap x ox 195 od) (q : Q () s) : wpAny (model P w) A (checkBoundCall "list.pop" ⟨[.ref x], []⟩) Q E s := by
  have hk : builtinKind "list.pop" = some .method := by decide +kernel
  have hv : Manifest.varargsMethods.contains "list.pop" = false := by decide +kernel
  have inst : Looks (model P w) s.heap (isInstance (.ref x) (.type "module")) false := I.type.andThen (looks_subIn X (fa_nomod w.params))
  have hcl := fa_cls w.params
  obtain ⟨cd, hc⟩ := Option.isSome_iff_exists.mp hcl
  unfold checkBoundCall
  cases hs : Manifest.signature? "list.pop" with
  | none => exact wpAny_pure q
  | some sig =>
    refine rwG (hk) ?_
    dsimp only
    refine wite_n (by decide) ?_
    refine wpAny_bind (inst.here ?_)
    refine rwG (hv) ?_
    refine wite_n (by decide) ?_
    have nt : ∀ c, ox.data ≠ .cls c := fun c z => by
      have := I.no
      unfold notCls at this
      rw [z] at this
      cases this
    obtain ⟨hh, g, d, t, os⟩ := s
    refine wpAny_bind (ks_wpAny_isType_inst I.at_ nt ?_)
    refine wite_n (by decide) ?_
    refine wpAny_bind (I.type.here ?_)
    dsimp only
    refine wpAny_bind ((looks_clsIn X hc).here ?_)
    refine wpAny_bind ((looks_typeIn X (fa_ctype w.params)).here ?_)
    refine wite_p (by decide) ?_
    have hqual : cd.qualname = "_Accumulator" := by
      have := fa_qual w.params
      rw [hc] at this
      exact Option.some.inj this
    refine rwG (hqual) ?_
    have h2 := chk_pop0 x
    rw [hs] at h2
    exact wpAny_of_eq h2 q
end
end
end Mine
set_option genSizeOf false
set_option genInjectivity false
namespace Mine
noncomputable section
open PySem PySem.W PyProof.Rows PySem.Calls
set_option maxRecDepth 100000
theorem sup_len_in (p) : alongIn (KF p) "__len__" [.type "list", .type "object"] = some (some (.builtin "list.__len__")) := by kernel_rfl
theorem sup_pop_in (p) : alongIn (KF p) "pop" [.type "list", .type "object"] = some (some (.builtin "list.pop")) := by kernel_rfl
theorem ty_pop : typeOf (.builtin "list.pop") = pure (.type "method_descriptor") := by show builtinType _ = _; rw [builtinType_eq_fast]; kernel_rfl
theorem ty_len : typeOf (.builtin "list.__len__") = pure (.type "wrapper_descriptor") := by show builtinType _ = _; rw [builtinType_eq_fast]; kernel_rfl
theorem ent_len : entryFor table "list.__len__" = some Builtin.«list.__len__» := entryFor_of_tree (by kernel_rfl)
theorem ent_pop : entryFor table "list.pop" = some Builtin.«list.pop» := entryFor_of_tree (by kernel_rfl)
section
variable {C : Cx} {D U : Nat}
theorem SupLen {f : Addr} {hg : GOk f} {me : Str} {p0 p1 apos pos rpos : Pos} (ok : CxOk C) (so : SupOk f me) (hme : (tabN f)[0]? = some me)
    (hev : ∀ env, ∃ pl : Sem Bool, eval (.Call (.Attribute (.Call (.Name "super" p0) [] [] p1) "__len__" apos) [] [] pos) env = (do
      let ov ← attributeBase (.Call (.Name "super" p0) [] [] p1) "__len__" env (eval (.Call (.Name "super" p0) [] [] p1) env)
      standAt apos.atName
      let (f, first) ← holding [ov] (getMethod ov "__len__" pl)
      callWith pos f first (backTo pos (starEach [] env)) []) := by intro _; exact ⟨_, rfl⟩) :
    SXsAt C D U f (GG f hg) [.Return (some (.Call (.Attribute (.Call (.Name "super" p0) [] [] p1) "__len__" apos) [] [] pos)) rpos] (fun l => bnd (bnd (locGet f 0 l) fun v => bnd (accChk v) fun _ => accLen [v]) fun v => ret (.ret v)) := fun l L μ hok hl A hA σ s r b σ' e Q E q => by
  refine bnd_e e fun v σ₁ e1 e2 => ?_
  (first | (have q := qc e2 q) | (have q := qcB e2 q) | cases e2)
  refine ks_wpAt_execs_cons (ks_wpAt_Return_some ?_)
  exact sup_eval (hg := hg) (T := "wrapper_descriptor") (getId := "wrapper_descriptor.__get__") (bT := "method-wrapper") ok so hme (by decide) (sup_len_in _) ty_len slot_wd_get entry_wd_get args_wd_get
    (fun h x od dt sl g d t os A E Q ho hs q => wd_get _ ho hs (by decide +kernel) q) (.inr rfl) (fun s x ox od A E Q _ _ q => chk_len s x C.w A E Q q) (by decide +kernel) ent_len SBI_len hev hl hA r e1
    fun μ' s' a hp r' ra => q μ' s' _ hp r' (.ret ra)
theorem SupPop {f : Addr} {hg : GOk f} {me : Str} {p0 p1 apos pos rpos : Pos} (ok : CxOk C) (so : SupOk f me) (hme : (tabN f)[0]? = some me)
    (hev : autoParam (∀ env, ∃ pl : Sem Bool, eval (.Call (.Attribute (.Call (.Name "super" p0) [] [] p1) "pop" apos) [] [] pos) env = (do
      let ov ← attributeBase (.Call (.Name "super" p0) [] [] p1) "pop" env (eval (.Call (.Name "super" p0) [] [] p1) env)
      standAt apos.atName
      let (f, first) ← holding [ov] (getMethod ov "pop" pl)
      callWith pos f first (backTo pos (starEach [] env)) [])) au8._auto_1) :
    SXsAt C D U f (GG f hg) [.Return (some (.Call (.Attribute (.Call (.Name "super" p0) [] [] p1) "pop" apos) [] [] pos)) rpos] (fun l => bnd (bnd (locGet f 0 l) fun v => bnd (accChk v) fun _ => accPop [v]) fun v => ret (.ret v)) := fun l L μ hok hl A hA σ s r b σ' e Q E q => by
  refine bnd_e e fun v σ₁ e1 e2 => ?_
  (first | (have q := qc e2 q) | (have q := qcB e2 q) | cases e2)
  refine ks_wpAt_execs_cons (ks_wpAt_Return_some ?_)
  exact sup_eval (hg := hg) (T := "method_descriptor") (getId := "method_descriptor.__get__") (bT := "builtin_function_or_method") ok so hme (by decide) (sup_pop_in _) ty_pop slot_md_get entry_md_get args_md_get
    (fun h x od dt sl g d t os A E Q ho hs q => md_get _ ho hs (by decide +kernel) (by decide +kernel) q) (.inl rfl) (fun s x ox od A E Q X I q => chk_pop s x ox od C.w A E Q X I q) (by decide +kernel) ent_pop SBI_pop hev hl hA r e1
    fun μ' s' a hp r' ra => q μ' s' _ hp r' (.ret ra)
end
/-! part_count and pop -/
theorem ok192 : GOk 192 := ⟨by kernel_rfl, by kernel_rfl, by kernel_rfl, by kernel_rfl, by decide⟩
theorem do192 : DefOk 192 1 1 [] := ⟨by intro _; kernel_rfl, by intro _; kernel_rfl, by kernel_rfl, by decide, by decide, by kernel_rfl, by kernel_rfl, by kernel_rfl, by kernel_rfl, by kernel_rfl, by
  intro p S ws h; exact ln1 ws h fun a => by kernel_rfl⟩
theorem so192 : SupOk 192 "self" := ⟨⟨_, rfl, rfl⟩, by intro _; kernel_rfl, by intro _; kernel_rfl, by intro _; kernel_rfl, ⟨_, _, _, _, _, _, rfl, by intro _; rfl, ⟨_, rfl⟩, by kernel_rfl⟩, by kernel_rfl, by intro _ _; kernel_rfl, by intro _ _; kernel_rfl⟩
end
end Mine
set_option genSizeOf false
set_option genInjectivity false
namespace Mine
noncomputable section
open PySem PySem.W PyProof.Rows PySem.Calls Builtin.ObjectAttr
set_option maxRecDepth 100000
theorem fa_obj (p) : subIn (KF p) (.ref 195) (.type "object") = some true := by kernel_rfl
theorem fa_setattr (p) : findIn (KF p) (.ref 195) "__setattr__" = some (some (.builtin "object.__setattr__")) := by kernel_rfl
theorem fa_init0 (p) : findIn (KF p) (.ref 195) "_initial_size" = some none := by kernel_rfl
theorem fa_hasdict (p) : (clsIn (KF p) 195).any (·.hasDict) = true := by kernel_rfl
theorem refuse_list (self : Value) : refuseLoop self "__setattr__" [.type "list", .type "object"] = pure () := by
  have h := PySem.F.store_object.passes self
  have : refuseLoop self "__setattr__" [.type "list", .type "object"] = refuseLoop self "__setattr__" [.type "object"] := by kernel_rfl
  rw [this]; exact h
section
variable {C : Cx} {D U : Nat} {Γ : FE}
theorem acc_osa {w : World} {A : Around} {s : Shared} {a : Addr} {ox : Obj} {od : Option Obj} {tk : Tok} {v : Value} {R : Result → Shared → Prop} (X : (KF w.params).In s.heap) (I : W.InstAt s.heap a ox 195 od)
    (h : wpAny (model P w) A.in1 (storeInOwnDict (.ref a) (.ref 195) (.str "_initial_size" tk) "_initial_size" v false)
      (fun fin s' => match fin with | .done f => R (.ok f) s' | .again c' => c'.quiet = true ∧ codeAny (model P w) A c' R s') (fun e s' => R (.error e) s') s) :
    codeAny (model P w) A (.call (.builtin "object.__setattr__") ⟨[.ref a, .str "_initial_size" tk, v], []⟩) R s := by
  have SF := PySem.F.store_object
  have sub : Looks (model P w) s.heap (isInstance (.ref a) (.type "object")) true := I.type.andThen (looks_subIn X (fa_obj w.params))
  refine codeAny_call_builtin SF.slot.plain SF.entry (@check_slot (model P w) _ _ s "object.__setattr__" "object" "__setattr__" (.ref a) [.str "_initial_size" tk, v] [] _ SF.kind SF.split sub (SF.args (.ref a) (.str "_initial_size" tk) v) ?_)
  have hm : Looks (model P w) s.heap (mroOf (.ref 195)) [.ref 195, .type "list", .type "object"] := Looks.of_peek X (fa_mro w.params)
  rw [osa_eq, refuse_eq]
  refine wpAny_bind (wpAny_bind (I.type.here (wpAny_bind (hm.here ?_))))
  rw [refuseLoop_ref, refuse_list]
  refine wpAny_pure (wpAny_bind (I.type.here (wpAny_bind ((looks_findIn X (fa_init0 w.params)).here (wpAny_bind (wpAny_pure ?_))))))
  exact h
theorem no_ref_key (hs : Int) (t : Tok) (w : Value) : aRefKeyMayBeTheName (Str.ofString "_initial_size") [(⟨hs, .str (codeName 0) t, w⟩ : DictEntry)].toArray = false := by kernel_rfl
theorem put_init (hs : Int) (t t' : Tok) (w v : Value) (hs' : Int) (k : Nat) : Obj.putName "_initial_size" hs' (.str "_initial_size" t') v (dictOf [⟨hs, .str "_initial_size" t, w⟩] k) = dictOf [⟨hs, .str "_initial_size" t, v⟩] k := by
  kernel_rfl
noncomputable def d0B (p : Nat × V) : Bool := Nat.beq p.1 0
noncomputable def d0O (l : List (Nat × V)) : Bool := match l with
  | [p] => d0B p
  | _ => false
theorem d0O_some {l : List (Nat × V)} (h : d0O l = true) : ∃ z, l = [(0, z)] := by
  cases l with
  | nil => cases h
  | cons p t =>
    cases t with
    | cons _ _ => cases h
    | nil => exact ⟨p.2, by rw [← Nat.eq_of_beq_eq_true (show Nat.beq p.1 0 = true from h)]⟩
noncomputable def setInit (v x : V) : M Unit := fun σ => match accAt v σ with
  | some p => match d0O p.2.2.2 with
    | true => match Nat.blt σ.n 60001 with
      | true => some ((), σ.put p.2.1 (.dic [(0, x)]))
      | false => none
    | false => none
  | none => none
theorem setInit_snd (ok : CxOk C) {μ : List Addr} {v x : V} {w y : Value} (rv : RV C μ v w) (rx : RV C μ x y) : Snd C D U (fun _ _ _ => True) (setAttr w "_initial_size" y) (setInit v x) μ := fun A hA σ s r b σ' e Q E q => by
  unfold setInit at e
  split at e
  · rename_i p ha
    split at e
    rotate_left 1
    · exact nn e
    rename_i hd0
    obtain ⟨n, d, xs, l⟩ := p
    obtain ⟨z, hl⟩ := d0O_some hd0
    have hl : l = [(0, z)] := hl
    subst hl
    split at e
    · rename_i hb
      have hb2 : σ.n < 60001 := Nat.le_of_ble_eq_true hb
      (first | (have q := qc e q) | (have q := qcB e q) | cases e)
      obtain ⟨rfl, g1, g2, g3, g4⟩ := accAt_some ha
      refine RV.eRef rv fun a hn => ?_
      ·
        obtain ⟨us, kk, da, es, m, ho, hd, rvs, hsz, I, dr⟩ := acc_inst r hn g1 g2
        have X := r.K ok
        cases dr with
        | @cons _ _ t w0 _ _ rw0 dr =>
        cases dr
        refine Rel.at_e r g2 hd (fun od hod _ => ?_)
        have hod' : s.heap.get? da = some (dictOf [⟨PyData.keyHash C.w.params (codeName 0), .str (codeName 0) t, w0⟩] m) := I.dict
        obtain ⟨hh, gg, ddr, tk, os⟩ := s
        refine set_plain X I (fa_setattr C.w.params) (acc_osa (s := ⟨hh, gg, ddr, tk + 1, os⟩) X I ?_)
        have X' : (KF C.w.params).In hh := X
        obtain ⟨cd, hc, hd'⟩ := any_some (fa_hasdict C.w.params)
        refine wpAny_bind (wpAny_pure (wpAny_bind (wpAny_bind (wpAny_loadPart ho (wpAny_bind ((looks_clsIn (M := model P C.w) X' hc).at ?_))))))
        refine rwG (hd') ?_
        refine wpAny_pure (a := some da) (wpAny_bind (wpAny_pure (wpAny_bind ?_)))
        unfold nsSet
        refine wpAny_bind (wpAny_bind (wpAny_askSetting (wpAny_pure (wpAny_bind (wpAny_mkText (wpAny_bind (wpAny_loadPart hod' ?_)))))))
        dsimp only [dictOf]
        rw [no_ref_key]
        refine wite_n (by decide) ?_
        refine wpAny_updatePart hod' ?_
        have hput := put_init (PyData.keyHash C.w.params (codeName 0)) t (tk + 1) w0 y (PyData.keyHash C.w.params "_initial_size") m
        have D' : (hh.update da (Obj.putName "_initial_size" (PyData.keyHash C.w.params "_initial_size") (.str "_initial_size" (tk + 1)) y)).get? da = some (dictOf [⟨PyData.keyHash C.w.params (codeName 0), .str "_initial_size" t, y⟩] m) := by
          refine rwH (hput) ?_
          refine Heap.get?_update_self _ hod' ?_
          have hput' := hput
          rw [show (Str.ofString "_initial_size") = codeName 0 from rfl] at hput' ⊢
          refine rwG (hput') ?_
          rfl
        refine wpAny_bind (wpAny_lookBehind D' (pastItsLine_dict (by simp [sizeLine_eq])) ?_)
        refine wpAny_pure ?_
        refine q μ _ () (List.prefix_refl _) (r.put g2 rfl hd hb2 (Heap.SameBut.update ..).extBut fun _ => ?_) trivial
        exact ⟨_, D', _, m, rfl, .cons rx .nil⟩
    · (first | exact nn e | cases e)
  · (first | exact nn e | cases e)
end
end
end Mine
set_option genSizeOf false
set_option genInjectivity false
namespace Mine
noncomputable section
open PySem PySem.W PyProof.Rows PySem.Calls
section
variable {C : Cx} {D U : Nat} {Γ : FE}
theorem SX_setInit {value o : Expr} {pos' pos : Pos} {f g : Nat → M V} (ok : CxOk C) (h0 : SE C D U Γ value f) (h1 : SE C D U Γ o g)
    (hs : autoParam (∀ env, swapsWith value (some (.Attribute o "_initial_size" pos')) pos.line env = pure false) au1._auto_1) :
    SX C D U Γ (.Assign [.Attribute o "_initial_size" pos'] value pos) (fun l => bnd (f l) fun v => bnd (g l) fun a => bnd (setInit a v) fun _ => ret .next) := fun l L μ hok hl A hA σ s r b σ' e Q E q => by
  refine bnd_e e fun v σ₁ e1 e => ?_
  refine bnd_e e fun a σ₂ e2 e => ?_
  refine bnd_e e fun _ σ₃ e3 e => ?_
  (first | (have q := qc e q) | (have q := qcB e q) | cases e)
  refine rwG (plainObj_exec_Assign_Attribute o "_initial_size" pos' value pos (hs _)) ?_
  refine wpAny_bind (wpAny_standAt (wpAny_bind (h0 l L μ hok hl A hA σ s r v σ₁ e1 _ E fun μ₁ s₁ wv hp1 r₁ rv => ?_)))
  rw [assign_Attribute]
  refine wpAny_bind (wpAny_bind (wpAny_holding (h1 l L μ₁ (Γ.mono hp1 hok) (mu_ext hp1 hl) A hA σ₁ s₁ r₁ a σ₂ e2 _ E fun μ₂ s₂ wa hp2 r₂ ra => ?_)))
  refine wpAny_bind (wpAny_standAt (wpAny_bind (wpAny_holding ?_)))
  refine setInit_snd ok ra (rv.ext hp2) A hA σ₂ s₂ r₂ () _ e3 _ E fun μ₃ s₃ _ hp3 r₃ _ => ?_
  exact wpAny_release' (wpAny_pure (q μ₃ s₃ .next (List.IsPrefix.trans (List.IsPrefix.trans hp1 hp2) hp3) r₃ .next))
/-- a method of an accumulator, its arguments a tuple's items -/
noncomputable def tupItems (v : V) : M (List V) := fun σ => match v with
  | .ref n => match σ.get n with
    | some (.tup xs) => match Nat.ble xs.length 1000 with
      | true => some (xs, σ)
      | false => none
    | _ => none
  | _ => none
end
end
end Mine
set_option genSizeOf false
set_option genInjectivity false
namespace Mine
noncomputable section
open PySem PySem.W PyProof.Rows PySem.Calls
set_option maxRecDepth 100000
set_option maxHeartbeats 0
theorem c_line : cLine = 9900 := rfl
theorem so155 : SupOk 155 "self" := ⟨⟨_, rfl, rfl⟩, by intro _; kernel_rfl, by intro _; kernel_rfl, by intro _; kernel_rfl, ⟨_, _, _, _, _, _, rfl, by intro _; rfl, ⟨_, rfl⟩, by kernel_rfl⟩, by kernel_rfl, by intro _ _; kernel_rfl, by intro _ _; kernel_rfl⟩
noncomputable def d192 : {g : Nat → M VF // ∀ C, CxOk C → ∀ D U, SXsAt C D U 192 (GG 192 ok192) (bodyOf 192) g} := ⟨_, fun C ok D U => SupLen ok so192 (by kernel_rfl)⟩
theorem c192 {C : Cx} {D U : Nat} (ok : CxOk C) (hD : D < 800) (_hU : U < 5000) : SFn C D U 192 (defD 192 1 1 [] d192.1) := SFn_defAt ok (fun _ => .nil) do192 (lt_a hD rfl) (d192.2 C ok _ _)
theorem ok139 : GOk 139 := ⟨by kernel_rfl, by kernel_rfl, by kernel_rfl, by kernel_rfl, by decide⟩
theorem do139 : DefOk 139 3 3 [] := ⟨by intro _; kernel_rfl, by intro _; kernel_rfl, by kernel_rfl, by decide, by decide, by kernel_rfl, by kernel_rfl, by kernel_rfl, by kernel_rfl, by kernel_rfl, by
  intro p S ws h; exact ln3 ws h fun a b c => by kernel_rfl⟩
noncomputable def d139 : {g : Nat → M VF // ∀ C, CxOk C → ∀ D U, D < 800 → U < 5000 → SXs C D U (GG 139 ok139) (bodyOf 139) g} := ⟨_, fun C ok D U hD hU => by
  refine' SXs_cons ?_ ?_
  refine' SX_expr ?_ (by intro _; kernel_rfl)
  refine' SE_methA (.builtin "list.append") "method_descriptor" (by assumption) ?_ ?_ (SCl_accApp (by assumption)) (hkp := keep_bi _); rotate_left 2
  exact SE_loc 0 (by kernel_rfl) (by decide)
  refine' SEs_cons ?_ ?_
  refine' SE_tup ?_
  refine' SEs_cons ?_ ?_
  exact SE_loc 1 (by kernel_rfl) (by decide)
  refine' SEs_cons ?_ ?_
  exact SE_loc 2 (by kernel_rfl) (by decide)
  exact SEs_nil
  exact SEs_nil
  exact SXs_nil⟩
theorem c139 {C : Cx} {D U : Nat} (ok : CxOk C) (hD : D < 799) (hU : U < 4997) : SFn C D U 139 (defD 139 3 3 [] d139.1) := SFn_def2 ok (fun _ => .nil) do139 (lt_a hD rfl) (d139.2 C ok _ _ (lt_1 hD rfl) (lt_3 hU rfl))
theorem ok147 : GOk 147 := ⟨by kernel_rfl, by kernel_rfl, by kernel_rfl, by kernel_rfl, by decide⟩
theorem do147 : DefOk 147 2 3 [] := ⟨by intro _; kernel_rfl, by intro _; kernel_rfl, by kernel_rfl, by decide, by decide, by kernel_rfl, by kernel_rfl, by kernel_rfl, by kernel_rfl, by kernel_rfl, by
  intro p S ws h; exact ln2 ws h fun a b => by kernel_rfl⟩
noncomputable def d147 : {g : Nat → M VF // ∀ C, CxOk C → ∀ D U, D < 800 → U < 5000 → SXs C D U (GG 147 ok147) (bodyOf 147) g} := ⟨_, fun C ok D U hD hU => by
  refine' SXs_cons ?_ ?_
  refine' SX_assign 2 ?_ (by kernel_rfl)
  refine' SE_subS (by assumption) ?_ ?_; rotate_left 2
  exact SE_loc 0 (by kernel_rfl) (by decide)
  refine' SE_slice ?_ ?_ ?_
  refine' SP_some ?_
  exact SE_loc 1 (by kernel_rfl) (by decide)
  exact SP_none
  exact SP_none
  refine' SXs_cons ?_ ?_
  refine' SX_setsl (by assumption) ?_ ?_ ?_; rotate_left 3
  refine' SE_list ?_
  exact SEs_nil
  exact SE_loc 0 (by kernel_rfl) (by decide)
  refine' SE_slice ?_ ?_ ?_
  refine' SP_some ?_
  exact SE_loc 1 (by kernel_rfl) (by decide)
  exact SP_none
  exact SP_none
  refine' SXs_cons ?_ ?_
  refine' SX_ret ?_
  exact SE_loc 2 (by kernel_rfl) (by decide)
  exact SXs_nil⟩
theorem c147 {C : Cx} {D U : Nat} (ok : CxOk C) (hD : D < 799) (hU : U < 4997) : SFn C D U 147 (defD 147 2 3 [] d147.1) := SFn_def2 ok (fun _ => .nil) do147 (lt_a hD rfl) (d147.2 C ok _ _ (lt_1 hD rfl) (lt_3 hU rfl))
theorem ok177 : GOk 177 := ⟨by kernel_rfl, by kernel_rfl, by kernel_rfl, by kernel_rfl, by decide⟩
theorem do177 : DefOk 177 1 2 [.none] := ⟨by intro _; kernel_rfl, by intro _; kernel_rfl, by kernel_rfl, by decide, by decide, by kernel_rfl, by kernel_rfl, by kernel_rfl, by kernel_rfl, by kernel_rfl, by
  intro p S ws h; exact ln1 ws h fun a => by kernel_rfl⟩
noncomputable def d177 : {g : Nat → M VF // ∀ C, CxOk C → ∀ D U, D < 800 → U < 5000 → SXs C D U (GG 177 ok177) (bodyOf 177) g} := ⟨_, fun C ok D U hD hU => by
  refine' SXs_cons ?_ ?_
  refine' SX_if ?_ ?_ ?_
  refine' ST_cmp SCmp_is ?_ ?_; rotate_left 2
  exact SE_loc 1 (by kernel_rfl) (by decide)
  exact SE_none
  refine' SXs_cons ?_ ?_
  refine' SX_assign 1 ?_ (by kernel_rfl)
  refine' SE_list ?_
  exact SEs_nil
  exact SXs_nil
  exact SXs_nil
  refine' SXs_cons ?_ ?_
  refine' SX_setsl (by assumption) ?_ ?_ ?_; rotate_left 3
  exact SE_loc 1 (by kernel_rfl) (by decide)
  exact SE_loc 0 (by kernel_rfl) (by decide)
  refine' SE_slice ?_ ?_ ?_
  exact SP_none
  exact SP_none
  exact SP_none
  refine' SXs_cons ?_ ?_
  refine' SX_setInit (by assumption) ?_ ?_; rotate_left 2
  exact SE_int
  exact SE_loc 0 (by kernel_rfl) (by decide)
  exact SXs_nil⟩
theorem c177 {C : Cx} {D U : Nat} (ok : CxOk C) (hD : D < 799) (hU : U < 4997) : SFn C D U 177 (defD 177 1 2 [.none] d177.1) := SFn_def2 ok (fun _ => .cons .none .nil) do177 (lt_a hD rfl) (d177.2 C ok _ _ (lt_1 hD rfl) (lt_3 hU rfl))
theorem do177b : DefOk 177 2 2 [] := ⟨by intro _; kernel_rfl, by intro _; kernel_rfl, by kernel_rfl, by decide, by decide, by kernel_rfl, by kernel_rfl, by kernel_rfl, by kernel_rfl, by kernel_rfl, by
  intro p S ws h; exact ln2 ws h fun a b => by kernel_rfl⟩
theorem c177b {C : Cx} {D U : Nat} (ok : CxOk C) (hD : D < 799) (hU : U < 4997) : SFn C D U 177 (defD 177 2 2 [] d177.1) := SFn_def2 ok (fun _ => .nil) do177b (lt_a hD rfl) (d177.2 C ok _ _ (lt_1 hD rfl) (lt_3 hU rfl))
theorem ok155 : GOk 155 := ⟨by kernel_rfl, by kernel_rfl, by kernel_rfl, by kernel_rfl, by decide⟩
theorem do155 : DefOk 155 1 1 [] := ⟨by intro _; kernel_rfl, by intro _; kernel_rfl, by kernel_rfl, by decide, by decide, by kernel_rfl, by kernel_rfl, by kernel_rfl, by kernel_rfl, by kernel_rfl, by
  intro p S ws h; exact ln1 ws h fun a => by kernel_rfl⟩
noncomputable def d155 : {g : Nat → M VF // ∀ C, CxOk C → ∀ D U, D < 799 → U < 4997 → SXsAt C D U 155 (GG 155 ok155) (bodyOf 155) g} := ⟨_, fun C ok D U hD hU => by
  refine' SXsAt_cons ?_ (SupPop ok so155 (by kernel_rfl))
  refine' SX_if ?_ ?_ ?_
  refine' ST_cmp (SCmp_eq2 (by assumption) (lt_30 hU rfl)) ?_ ?_; rotate_left 2
  refine' SE_methA (.ref 192) "function" (by assumption) ?_ ?_ (c192 (by assumption) (lt_a hD rfl) (lt_a hU rfl)) (hkp := keep_ref (by kernel_rfl)); rotate_left 2
  exact SE_loc 0 (by kernel_rfl) (by decide)
  exact SEs_nil
  exact SE_int
  refine' SXs_cons ?_ ?_
  refine' SX_ret ?_
  refine' SE_tup ?_
  refine' SEs_cons ?_ ?_
  exact SE_str (by rfl)
  refine' SEs_cons ?_ ?_
  exact SE_str (by rfl)
  exact SEs_nil
  exact SXs_nil
  exact SXs_nil⟩
theorem c155 {C : Cx} {D U : Nat} (ok : CxOk C) (hD : D < 798) (hU : U < 4994) : SFn C D U 155 (defD 155 1 1 [] d155.1) := SFn_defAt ok (fun _ => .nil) do155 (lt_a hD rfl) (d155.2 C ok _ _ (lt_1 hD rfl) (lt_3 hU rfl))
end
end Mine
set_option genSizeOf false
set_option genInjectivity false
namespace Mine
noncomputable section
open PySem PySem.W PyProof.Rows PySem.Calls
/-! a list_iterator over whatever keeps a row of items -/
section
variable {prog : Program} {w : World} {A : Around} {E : Value → Shared → Prop} {s : Shared}
theorem next_item {it l : Addr} {i nl : Nat} {items : Array Value} {ol : Obj} {x : Value} {Q : Option Value → Shared → Prop} (hit : s.heap.IsListIter it l i)
    (hol : s.heap.get? l = some ol) (hdl : ol.data = .seq items nl) (hx : items[i]? = some x)
    (hQ : ∀ h', h'.IsListIter it l (i + 1) → Heap.SameBut it s.heap h' → Q (some x) { s with heap := h' }) :
    wpAny (model prog w) A (pyNext (.ref it)) Q E s := by
  obtain ⟨o, ho, hc, hd⟩ := id hit
  unfold pyNext
  refine wpAny_bind (wpAny_attempt (wpAny_callSpecial?_slot (name := Str.ofString "__next__") hit.typeIs slot_listiter_next
    (wpAny_call_entry slot_listiter_next hit.typeIs entry_listiter_next ?_ (args_listiter_next _))))
  show wpAny _ _ (field (.ref it) 0 >>= _) _ _ s
  refine wpAny_bind (wpAny_field ho hd (x := .ref l) rfl ?_)
  show wpAny _ _ (if (Value.ref l == Value.none) = true then _ else _) _ _ s
  refine wite_n (show ¬ ((Value.ref l == Value.none) = true) from Bool.false_ne_true) ?_
  show wpAny _ _ (field (.ref it) 1 >>= _) _ _ s
  refine wpAny_bind (wpAny_field ho hd (x := .int i 0) rfl ?_)
  show wpAny _ _ (seqItems? (.ref l) >>= _) _ _ s
  refine wpAny_bind (wpAny_seqItems hol hdl ?_)
  simp only [Int.toNat_natCast, hx]
  refine wpAny_bind (wpAny_setField ho hd (by simp) (wpAny_pure ⟨x, rfl, wpAny_pure (hQ _ ?_ (Heap.SameBut.update ..))⟩))
  exact ⟨_, Heap.get?_update_self _ ho (Obj.isFreed_of_fields (Obj.data_mapFields hd _)), (Obj.cls_mapFields ..).trans hc, by
    rw [Obj.data_mapFields hd]; simp [rawInt]⟩
theorem next_end {it l : Addr} {i nl : Nat} {items : Array Value} {ol : Obj} {Q : Option Value → Shared → Prop} (hh : A.handled = none) (hit : s.heap.IsListIter it l i)
    (hol : s.heap.get? l = some ol) (hdl : ol.data = .seq items nl) (hx : items[i]? = none)
    (hQ : ∀ h', Heap.ExtBut it s.heap h' → Q none { s with heap := h' }) : wpAny (model prog w) A (pyNext (.ref it)) Q E s := by
  obtain ⟨o, ho, hc, hd⟩ := id hit
  unfold pyNext
  refine wpAny_bind (wpAny_attempt (wpAny_callSpecial?_slot (name := Str.ofString "__next__") hit.typeIs slot_listiter_next
    (wpAny_call_entry slot_listiter_next hit.typeIs entry_listiter_next ?_ (args_listiter_next _))))
  show wpAny _ _ (field (.ref it) 0 >>= _) _ _ s
  refine wpAny_bind (wpAny_field ho hd (x := .ref l) rfl ?_)
  show wpAny _ _ (if (Value.ref l == Value.none) = true then _ else _) _ _ s
  refine wite_n (show ¬ ((Value.ref l == Value.none) = true) from Bool.false_ne_true) ?_
  show wpAny _ _ (field (.ref it) 1 >>= _) _ _ s
  refine wpAny_bind (wpAny_field ho hd (x := .int i 0) rfl ?_)
  show wpAny _ _ (seqItems? (.ref l) >>= _) _ _ s
  refine wpAny_bind (wpAny_seqItems hol hdl ?_)
  simp only [Int.toNat_natCast, hx]
  refine wpAny_bind (wpAny_rule (wpAny_bind (wpAny_setField ho hd (by simp) ?_)))
  show wpAny _ _ (newExc (.type "StopIteration") [] >>= _) _ _ _
  refine wpAny_bind ?_
  simp only [newExc, newTuple]
  refine wpAny_bind (wpAny_newObj_type ?_ (by size_fits))
  refine wpAny_bind (m := firstArgMember _ _) (wpAny_of_eq (a := Value.none) (by first | rfl | (simp only [firstArgMember]; rfl)) ?_)
  refine wpAny_newObj_type ?_ (by size_fits)
  simp only [raiseNew]
  refine wpAny_bind (wpAny_handled ?_)
  refine rwG (show A.in1.handled = none from hh) ?_
  refine wpAny_bind (wpAny_pure (wpAny_throw ?_))
  refine wpAny_bind (wpAny_isInstance (T := "StopIteration") (b := true) ⟨_, Heap.get?_push_size _ rfl, rfl⟩ isSubtype_stop ?_)
  exact wpAny_pure (hQ _ (((Heap.SameBut.update ..).extBut.push _).push _))
/-- pairs walked by an iterator over a row -/
structure Pairs (h : Heap) (a I : Addr) (ws : Array Value) (vals : Nat → Array Value) : Prop where
  row : ∃ o n, h.get? a = some o ∧ o.data = .seq ws n
  ne : a ≠ I
  it : ∀ i v, ws[i]? = some v → ∃ T n, v = .ref T ∧ T ≠ I ∧ h.get? T = some ⟨.type "tuple", none, .seq (vals i) n, #[]⟩ ∧ (vals i).size ≤ 1000
theorem pairs_walk (hh : A.handled = none) {h0 : Heap} {a I : Addr} {ws : Array Value} {vals : Nat → Array Value} (hp : Pairs h0 a I ws vals) (hI : I < h0.objs.size) :
    WalksU prog w A I (List.range h0.objs.size) [I] ws.size (fun i v => v = vals i ∧ i < ws.size) (fun i h => h.IsListIter I a i ∧ ∀ b o, b ≠ I → h0.get? b = some o → h.get? b = some o)
      (fun i T h => (h.IsListIter I a (i + 1) ∧ ∀ b o, b ≠ I → h0.get? b = some o → h.get? b = some o) ∧ T ≠ I) where
  sub := fun b hb => by simp at hb; subst hb; exact List.mem_range.mpr hI
  frame := fun i h h' st hk => ⟨st.1.at fun o e => hk I (List.mem_range.mpr hI) o e, fun b o hb e => hk b (List.mem_range.mpr (Heap.lt_size e)) o (st.2 b o hb e)⟩
  item := fun i s Q E hi st hQ => by
    obtain ⟨o, n, ho, hd⟩ := hp.row
    have hx : ws[i]? = some ws[i] := by simp [hi]
    obtain ⟨T, nt, e, hT, hTo, hsz⟩ := hp.it i _ hx
    refine next_item st.1 (st.2 _ _ hp.ne ho) hd hx fun h' hit' hs' => ?_
    refine rwG (e) ?_
    refine hQ T (vals i) h' s.toks ⟨rfl, hi⟩ ⟨_, hs'.extBut _ _ hT (st.2 _ _ hT hTo), rfl, nt, rfl⟩ ⟨⟨hit', fun b o hb e => hs'.extBut b o hb (st.2 b o hb e)⟩, hT⟩ fun b o hb e => hs'.extBut b o (fun z => hb (by simp [z])) e
  go := fun elts k pos i T s Q E hm hQ => by
    obtain ⟨o, ho, hc, hd⟩ := hm.1.1
    exact go_own ho hc (by decide +kernel) (hQ s.heap hm.1 fun _ _ _ e => e)
  apart := fun i T h hm hb => hm.2 (by simpa using hb)
  done := fun s Q E st hQ => by
    obtain ⟨o, n, ho, hd⟩ := hp.row
    refine next_end hh st.1 (st.2 _ _ hp.ne ho) hd (by simp) fun h' he' => hQ h' s.toks fun b o hb e => he' b o (fun z => hb (by simp [z])) e
  self := fun i s Q E st hQ => wpAny_pyIter_listiter st.1 hQ
end
section
variable {C : Cx} {D U : Nat}
/-- an accumulator's iterator -/
theorem acc_iter {w : World} {A : Around} {E : Value → Shared → Prop} {s : Shared} {a : Addr} {ox : Obj} {od : Option Obj} {Q : Value → Shared → Prop} (X : (KF w.params).In s.heap) (I : W.InstAt s.heap a ox 195 od)
    (h : Q (.ref s.heap.objs.size) { s with heap := s.heap.push { cls := .type "list_iterator", data := .fields #[.ref a, .int 0 0] } }) : wpAny (model P w) A (pyIter (.ref a)) Q E s := by
  obtain ⟨hh, g, d, t, os⟩ := s
  have hb := F.slot_list_iter.bind (.ref a)
  have L1 := I.type (M := model P w)
  have L2 : Looks (model P w) hh (typeLookup (.ref 195) "__iter__") (some (.builtin "list.__iter__")) := looks_findIn X (fa_iter w.params)
  unfold pyIter specialOf
  refine wpAny_bind (wpAny_bind (Looks.at L1 (Looks.at L2 ?_)))
  show wpAny _ _ (callSpecialIfBoundUnlessNone? (.ref a) "__iter__" _ >>= _) _ _ _
  refine wpAny_bind ?_
  simp only [callSpecialIfBoundUnlessNone?, bindSpecialIfBound?, specialOf]
  refine wpAny_holding (wpAny_bind (wpAny_bind (wpAny_bind (Looks.at L1 (Looks.at L2 ?_)))))
  simp only [hb]
  refine wpAny_bind (wpAny_askSetting (wpAny_ite ?_))
  have fin : ∀ refuse : Sem Value, wpAny (model P w) A (if (Value.builtin "list.__iter__" == Value.none) = true then (refuse >>= fun v => pure (some v)) else (call (.builtin "list.__iter__") [.ref a] >>= fun v => pure (some v)))
      (fun r s' => match r with | some it => wpAny (model P w) A (do match ← specialOf it "__next__" with | none => rule "iter.non-iterator"; raiseError "TypeError" s!"iter() returned non-iterator of type '{← typeNameOf it}'" | some _ => pure it) Q E s' | none => False) E ⟨hh, g, d, t, os⟩ := fun refuse => by
    refine wite_n (by simp) ?_
    refine wpAny_bind (acc_call X I (n := "__iter__") (by decide +kernel) (by decide +kernel) (by decide +kernel) F.entry_list_iter (F.args_list_iter_1 _) ?_)
    show wpAny _ _ (newFields "list_iterator" [.ref a, rawInt 0] >>= fun r => _root_.PySem.ret r) _ _ _
    refine wpAny_bind (wpAny_newObj_type (wpAny_pure ⟨_, rfl, wpAny_pure ?_⟩) (by size_fits))
    have hT : (⟨hh.push { cls := .type "list_iterator", data := .fields #[.ref a, .int 0 0] }, g, d, t, os⟩ : Shared).TypeIs (.ref hh.objs.size) "list_iterator" := ⟨_, Heap.get?_push_size _ rfl, rfl⟩
    exact wpAny_bind (wpAny_specialOf hT slot_listiter_next.lookup (wpAny_pure h))
  split
  · refine wpAny_bind (wpAny_pure (wpAny_pure (wpAny_mono (fin _) (fun r s' hr => ?_) fun _ _ z => z)))
    induction r with
    | none => exact hr.elim
    | some it => exact hr
  · refine wpAny_tryCatch (wpAny_bind (wpAny_pure (wpAny_pure (wpAny_mono (fin _) (fun r s' hr => ?_) fun _ _ z => z))))
    induction r with
    | none => exact hr.elim
    | some it => exact hr
end
end
end Mine
set_option genSizeOf false
set_option genInjectivity false
namespace Mine
noncomputable section
open PySem PySem.W PyProof.Rows PySem.Calls
set_option maxRecDepth 100000
section
variable {prog : Program} {w : World} {A : Around} {E : Value → Shared → Prop} {s : Shared}
theorem args_sum2 (a b : Value) : argsOk "sum" ⟨[a, b], []⟩ := by unfold argsOk; kernel_rfl
theorem sum_from_zero {x : Value} {t : Tok} {Q : Value → Shared → Prop}
    (h : wpAny (model prog w) A.in1 (pyIter x) (fun it s₂ => ∃ I fp wr G n P St val, it = .ref I ∧ WalksS prog w A.in1 I fp wr G n P St ∧ St 0 s₂ ∧ (∀ b ∈ fp, b < s₂.heap.objs.size) ∧
      (∀ i v, P i v → ∃ t, v = .int (val i) t) ∧ ∀ s' t', Moved wr G s₂ s' → Q (.int (preSum val n) t') s') E s) :
    wpAny (model prog w) A (call (.builtin "sum") [x, .int 0 t]) Q E s := by
  refine call_function_tree F.kind_sum F.plain_sum F.entry_sum (args_sum2 _ _) ?_
  unfold Builtin.«sum»
  simp only [List.length_cons, List.length_nil]
  refine wite_n (by decide) ?_
  refine wpAny_bind (wpAny_of_eq (show Builtin.Builtins.bindParams "sum" ["start"] 0 { pos := [Value.int 0 t] } = pure [some (Value.int 0 t)] from rfl) ?_)
  refine wpAny_bind (wpAny_mono h (fun it s₂ h₂ => ?_) fun _ _ e => e)
  obtain ⟨I, fp, wr, G, n, P, St, val, rfl, W, hst, hfp, hval, hQ⟩ := h₂
  dsimp only
  refine wite_p (by decide) ?_
  refine wpAny_bind (wpAny_rule ?_)
  refine wpAny_bind (wpAny_mkInt ?_)
  refine wpAny_bind (wpAny_pure ?_)
  simp only [List.forIn_cons, List.forIn_nil]
  refine wpAny_bind (wpAny_bind (wpAny_bind (wpAny_isInstance (T := "int") (b := false) (typeIs_int _ _ _) PySem.sub_int_str ?_)))
  simp only [Bool.false_eq_true, if_false]
  refine wpAny_pure (wpAny_bind (wpAny_bind (wpAny_isInstance (T := "int") (b := false) (typeIs_int _ _ _) PySem.sub_int_bytes ?_)))
  simp only [Bool.false_eq_true, if_false]
  refine wpAny_pure (wpAny_bind (wpAny_bind (wpAny_isInstance (T := "int") (b := false) (typeIs_int _ _ _) PySem.sub_int_bytearray ?_)))
  simp only [Bool.false_eq_true, if_false]
  refine wpAny_pure (wpAny_pure ?_)
  refine wpAny_bind (wpAny_newObj_type ?_)
  have hSf : s₂.heap.objs.size ∉ fp := fun hm => Nat.lt_irrefl _ (hfp _ hm)
  refine wpAny_pure ⟨plainId_quiet F.plain_sum_loop _, codeAny_sum_loopAnyS W val hval s₂.heap.objs.size hSf n 0 _ s₂.toks 0 0 (.inl rfl) rfl (Nat.zero_le _)
    (W.frame 0 s₂ _ _ hst (by first | exact Nat.le_refl _ | exact Nat.le_succ _ | omega) fun b _ o e => Heap.get?_push_of_some _ e) (Heap.get?_push_size _ rfl) fun s' t' hm => ?_⟩
  exact hQ s' t' (hm.drop_new (by first | exact Nat.le_refl _ | exact Nat.le_succ _ | omega))
end
/-! the memo of a def's generator codes -/
section
variable {C : Cx} {μ : List Addr} {σ : St} {s : Shared}
theorem Rel.to (r : Rel C μ σ s) {s' : Shared} (hk : ∀ b o, b ∉ tabs → s.heap.get? b = some o → s'.heap.get? b = some o) (ht : ∀ t ∈ tabs, TabAt s'.heap t) (hb : AllBare s'.gens) (hos : s'.os = s.os) : Rel C μ σ s' :=
  ⟨r.len, fun i vo e l => let ⟨a, o, e1, e2, e3, e4, e5⟩ := r.obj i vo e l; ⟨a, o, e1, hk a o e5 e2, e3, e4, e5⟩, r.inj,
    fun b o e => hk b o (fun h => by have := (r.tab b h).1; rw [this] at e; cases e) (r.old b o e), fun t h => ⟨(r.tab t h).1, ht t h⟩, hb, hos.trans r.os⟩
/-- where a def's code keeps its memo -/
structure CodeOk (c T : Addr) : Prop where
  rcd : ∃ oc od osl vs file tf flags tg inF text tt, (∀ p, (KF p).lookup c = some ⟨oc, od, .fields vs, osl⟩) ∧ oc = .type "code" ∧ vs.getD 11 .none = .ref T ∧ vs[11]? = some (.ref T) ∧ vs.getD 18 .none = .str file tf ∧
    vs.getD 7 .none = .int flags tg ∧ vs.getD 9 .none = .bool inF ∧ vs.getD 10 .none = .int text tt
  mem : T ∈ tabs
  ne : c ≠ T
theorem code_tab {c T : Addr} (k : CodeOk c T) {w : World} {h : Heap} (X : (KF w.params).In h) (ht : TabAt h T) : ∃ ps, h.IsCode c T (tb0 T ++ ps) ∧ h.TableAt c T (tb0 T ++ ps) := by
  obtain ⟨oc, od, osl, vs, file, tf, flags, tg, inF, text, tt, h1, h2, h3, h4, h5, h6, h7, h8⟩ := k.rcd
  obtain ⟨ps, hp, tr⟩ := ht
  exact ⟨ps, ⟨_, vs, file, tf, flags, tg, inF, text, tt, _, X _ _ (h1 _), rfl, h3, h5, h6, h7, h8, hp, rfl, tr, k.ne⟩, ⟨⟨_, vs, X _ _ (h1 _), h2, rfl, h4⟩, hp⟩⟩
theorem gen_code {c T : Addr} (k : CodeOk c T) {w : World} {A : Around} {E : Value → Shared → Prop} {s : Shared} {env : Env} {pos : Pos} {qualname : Str} {scope : Scope} {Q : Value → Shared → Prop} (X : (KF w.params).In s.heap) (hc : env.code = .ref c) (ht : TabAt s.heap T)
    (h : ∀ code h' tk, Heap.ExtBut T s.heap h' → s.heap.objs.size ≤ h'.objs.size → TabAt h' T → Q code { s with heap := h', toks := tk }) : wpAny (model P w) A (genexprCode env pos qualname scope) Q E s := by
  obtain ⟨ps, hi, htab⟩ := code_tab k X ht
  cases hf : codeAmong pos (tb0 T ++ ps).toList with
  | some c' => exact wpAny_genexprCode_hit hc hi hf (h c' s.heap s.toks (Heap.ExtBut.refl _ _) (Nat.le_refl _) ht)
  | none =>
    refine wpAny_genexprCodeX hc hi htab hf fun c' h' tk hx hge hlt hi' _ ht' _ => ?_
    obtain ⟨_, _, _, _, _, _, _, _, _, op, _, _, _, _, _, _, _, hop, hpd, htr, _⟩ := hi'
    exact h _ h' tk hx (Nat.le_trans hge (Nat.le_of_lt hlt)) ⟨ps ++ #[rawInt pos.line, rawInt pos.col, .ref c'], by rw [← Array.append_assoc]; exact ht'.2, by rw [← Array.append_assoc]; exact htr⟩
end
theorem code162 : CodeOk 161 157 := ⟨⟨_, _, _, _, _, _, _, _, _, _, _, by intro _; rfl, rfl, rfl, rfl, rfl, rfl, rfl, rfl⟩, by decide, by decide⟩
theorem code169 : CodeOk 168 164 := ⟨⟨_, _, _, _, _, _, _, _, _, _, _, by intro _; rfl, rfl, rfl, rfl, rfl, rfl, rfl, rfl⟩, by decide, by decide⟩
theorem fdc162 : (fdOf 162).code = .ref 161 := by kernel_rfl
theorem fdc169 : (fdOf 169).code = .ref 168 := by kernel_rfl
theorem fa_builtins (p : Params) : peek (KF p) ⟨P, p⟩ (builtinsFor mainGlobals builtinsNs) = some builtinsNs := by kernel_rfl
end
end Mine
set_option genSizeOf false
set_option genInjectivity false
namespace Mine
noncomputable section
open PySem PySem.W PyProof.Rows PySem.Calls
set_option maxRecDepth 100000
/-- the texts of a row of pairs -/
noncomputable def strPairs (σ : St) : List V → Option (List (List At × List At))
  | [] => some []
  | x :: r => match pairAt x σ with
    | some (.str p, .str q) => match strPairs σ r with
      | some ps => some ((p, q) :: ps)
      | none => none
    | _ => none
noncomputable def rowAt (h : Heap) (ws : Array Value) (i : Nat) : Array Value := match ws[i]? with
  | some (.ref T) => match h.get? T with
    | some ⟨_, _, .seq vs _, _⟩ => vs
    | _ => #[]
  | _ => #[]
section
variable {C : Cx} {μ : List Addr} {σ : St} {s : Shared}
theorem pairs_of (r : Rel C μ σ s) : ∀ {xs : List V} {ws : List Value} {ps : List (List At × List At)}, strPairs σ xs = some ps → RVs C μ xs ws →
    ps.length = ws.length ∧ ∀ (i : Nat) (v : Value), ws[i]? = some v → ∃ (T : Addr) (n : Nat) (p q : List At) (t u : Tok), v = .ref T ∧ s.heap.get? T = some ⟨.type "tuple", none, .seq #[.str (C.str p) t, .str (C.str q) u] n, #[]⟩ ∧ ps[i]? = some (p, q) ∧ T ∉ tabs
  | [], _, ps, h, rv => by cases rv; cases h; exact ⟨rfl, fun i v e => by simp at e⟩
  | x :: xs, _, ps, h, rv => by
    unfold strPairs at h
    split at h
    · rename_i p q hp
      split at h
      · rename_i ps' hps
        (first | (have q := qc h q) | (have q := qcB h q) | cases h)
        refine RVs.eCons rv fun _ _ a t => ?_
        obtain ⟨ih1, ih2⟩ := pairs_of r hps t
        obtain ⟨n, rfl, g1⟩ := pairAt_some hp
        refine RV.eRef a fun T hT => ?_
        obtain ⟨b, o, e1, e2, e3, e4, e5⟩ := r.obj n _ g1 rfl
        rw [hT] at e1
        (first | (have q := qc e1 q) | (have q := qcB e1 q) | cases e1)
        obtain ⟨us, k, eo, ru⟩ := e3
        subst eo
        obtain ⟨ul⟩ := us
        cases ru with
        | cons h1 t1 =>
        cases t1 with
        | cons h2 t2 =>
        cases t2
        cases h1
        cases h2
        refine ⟨by simp [ih1], fun i v e => ?_⟩
        cases i with
        | zero => (first | (have q := qc e q) | (have q := qcB e q) | cases e); exact ⟨T, k, p, q, _, _, rfl, e2, rfl, e5⟩
        | succ i => exact ih2 i v e
      · (first | exact nn h | cases h)
    · (first | exact nn h | cases h)
theorem pairs_in (r : Rel C μ σ s) {xs : List V} {ws : Array Value} {ps : List (List At × List At)} (h : strPairs σ xs = some ps) (rv : RVs C μ xs ws.toList) {h' : Heap} (hk : ∀ b o, b ∉ tabs → s.heap.get? b = some o → h'.get? b = some o)
    {a I : Addr} {n : Nat} {oa : Obj} (ha : s.heap.get? a = some oa) (hd : oa.data = .seq ws n) (hat : a ∉ tabs) (hI : s.heap.get? I = none) :
    Pairs h' a I ws (rowAt s.heap ws) ∧ ps.length = ws.size ∧ ∀ i, i < ws.size → ∃ (p q : List At) (t u : Tok), rowAt s.heap ws i = #[.str (C.str p) t, .str (C.str q) u] ∧ ps[i]? = some (p, q) := by
  obtain ⟨h1, h2⟩ := pairs_of r h rv
  have key : ∀ (i : Nat) (v : Value), ws[i]? = some v → ∃ (T : Addr) (n : Nat) (p q : List At) (t u : Tok), v = .ref T ∧ s.heap.get? T = some ⟨.type "tuple", none, .seq #[.str (C.str p) t, .str (C.str q) u] n, #[]⟩ ∧ ps[i]? = some (p, q) ∧ T ∉ tabs := fun i v e => h2 i v (by rw [Array.getElem?_toList]; exact e)
  refine ⟨⟨⟨oa, n, hk _ _ hat ha, hd⟩, (fun z => by subst z; rw [ha] at hI; cases hI), fun i v e => ?_⟩, by rw [h1, Array.length_toList], fun i hi => ?_⟩
  · obtain ⟨T, k, p, q, t, u, e1, e2, e3, e4⟩ := key i v e
    subst e1
    have hrow : rowAt s.heap ws i = #[.str (C.str p) t, .str (C.str q) u] := by unfold rowAt; rw [e]; simp only [e2]
    refine ⟨T, k, rfl, (fun z => by subst z; rw [e2] at hI; cases hI), ?_, ?_⟩
    · rw [hrow]; exact hk _ _ e4 e2
    · rw [hrow]; exact (by decide : 2 ≤ 1000)
  · have e : ws[i]? = some ws[i] := by simp [hi]
    obtain ⟨T, k, p, q, t, u, e1, e2, e3, e4⟩ := key i _ e
    refine ⟨p, q, t, u, ?_, e3⟩
    unfold rowAt
    refine rwG (e) ?_; refine rwG (e1) ?_
    simp only [e2]
/-- a generator of so many turns -/
noncomputable def GenR (w : World) (A : Around) (N a : Addr) (n : Nat) (F : Nat → Value → Prop) (s : Shared) : Prop :=
  ∃ fp wr g St, WalksS P w A.in4 a fp wr (GenOnlyQ g) n F St ∧ St 0 s ∧ (∀ i s', St i s' → s'.TypeIs (.ref a) "generator") ∧ a ∈ fp ∧ (∀ b ∈ fp, b < s.heap.objs.size) ∧ ∀ b ∈ wr, N ≤ b
theorem walks_mono {prog : Program} {w : World} {A : Around} {I : Addr} {fp wr : List Addr} {G : Array GenState → Array GenState → Prop} {n : Nat} {F F' : Nat → Value → Prop} {St : Nat → Shared → Prop} (W : WalksS prog w A I fp wr G n F St) (h : ∀ j v, F j v → F' j v) : WalksS prog w A I fp wr G n F' St :=
  ⟨W.sub, W.grefl, W.gtrans, W.frame, fun i s Q E hi st hQ => W.item i s Q E hi st fun v s' hP hst hm => hQ v s' (h i v hP) hst hm, W.done, W.self⟩
theorem get_lt {h : Heap} {a : Addr} {o : Obj} (e : h.get? a = some o) : a < h.objs.size := Heap.lt_size e
theorem gen_pairs {C : Cx} {μ : List Addr} {σ : St} {s : Shared} {D U : Nat} {f : Addr} {hg : GOk f} {c T : Addr} (ok : CxOk C) (kc : CodeOk c T) (hcode : (fdOf f).code = .ref c) {A : Around} (hA : AOk D U A) (hD : D < 900) (r : Rel C μ σ s) {L a : Addr} {na d : Nat} {xs : List V} {nms : List (Nat × V)} {ps : List (List At × List At)}
    (hna : μ[na]? = some a) (g1 : σ.get na = some (.acc d xs)) (g2 : σ.get d = some (.dic nms)) (hps : strPairs σ xs = some ps)
    {elt iter : Expr} {xa xb : Str} {pa pb pt : Pos} {kt : Nat} {scope : Scope} {pos : Pos} {F : Nat → Value → Prop} {Q : Value → Shared → Prop} {E : Value → Shared → Prop}
    (hco : scope.isCoroutine = false) (hcell : ∀ y ∈ scope.names, y.2 ≠ .cell) (hfree : ∀ x ∈ scope.names, x.2 ≠ .free) (h0 : scope.names.lookup (".0" : Str) = some NameKind.local)
    (hxa : scope.names.lookup xa = some .local) (hxb : scope.names.lookup xb = some .local) (hab : xa ≠ xb) (hkind : scope.kind = .function)
    (hiter : ∀ Q' : Value → Shared → Prop, Q' (.ref a) s → wpAny (model P C.w) A (eval iter (callEnv (fdOf f) L f)) Q' E s)
    (helt : ∀ (A' : Around) E' (i : Nat) (code : Value) (cl : Addr) (p q : List At) (t u : Tok) (s₂ : Shared) m₂, A'.handled = none → A'.depth ≤ A.depth + 1 → A'.units ≤ A.units + 8 → ps[i]? = some (p, q) → (KF C.w.params).In s₂.heap → s₂.heap.Ns cl m₂ → m₂ xa = some (.str (C.str p) t) → m₂ xb = some (.str (C.str q) u) →
      wpAny (model P C.w) A' (eval elt (genEnv scope [] cl code builtinsNs (callEnv (fdOf f) L f))) (fun y s₃ => F i y ∧ Keeps s₂ s₃) E' s₂)
    (hQ : ∀ g s₅, Rel C μ σ s₅ → (∀ b o, b ∉ tabs → s.heap.get? b = some o → s₅.heap.get? b = some o) → GenR C.w A s.heap.objs.size g ps.length F s₅ → Q (.ref g) s₅)
    (hs : ∀ x, genFold iter (callEnv (fdOf f) L f) x = pure x) :
    wpAny (model P C.w) A (eval (.GeneratorExp elt [⟨.Tuple [.Name xa pa, .Name xb pb] kt pt, iter, [], 0⟩] scope pos) (callEnv (fdOf f) L f)) Q E s := by
  obtain ⟨ws, kk, da, es, mm, ho, hd, rvs, hsz, I, dr⟩ := acc_inst r hna g1 g2
  obtain ⟨a', oa, e1, e2, e3, e4, hat⟩ := r.obj na _ g1 rfl
  rw [hna] at e1
  (first | (have q := qc e1 q) | (have q := qcB e1 q) | cases e1)
  have X := r.K ok
  have hTm := kc.mem
  refine wpAny_GeneratorExp_walksQTD hA.hd hco (closureFor_none hfree) hcell h0 hxa hxb hab hkind (Nat.lt_of_le_of_lt hA.dp (Nat.lt_trans hD (by decide))) (hiter _ (acc_iter X I ?_)) hs
  generalize hH : (s.heap.push { cls := .type "list_iterator", data := .fields #[.ref a, .int 0 0] }) = H
  have up : ∀ b o, s.heap.get? b = some o → H.get? b = some o := fun b o e => by rw [← hH]; exact Heap.get?_push_of_some _ e
  have hI : H.get? s.heap.objs.size = some { cls := .type "list_iterator", data := .fields #[.ref a, .int 0 0] } := by rw [← hH]; exact Heap.get?_push_size _ rfl
  have hHs : H.objs.size = s.heap.objs.size + 1 := by rw [← hH, Heap.size_push]
  have hlim : H.NoLimit := (ok.lim.keeps r.old).keeps up
  have X1 : (KF C.w.params).In H := X.keeps up
  have ht1 : ∀ t ∈ tabs, TabAt H t := fun t ht => let ⟨vs, e, q⟩ := (r.tab t ht).2; ⟨vs, up _ _ e, q⟩
  refine ⟨hlim, gen_code kc (s := { s with heap := H }) X1 hcode (ht1 _ hTm) fun code h₃ tk hx hsz3 htab₃ => ?_⟩
  have hTlt : T < s.heap.objs.size := by
    obtain ⟨vs, e, _⟩ := (r.tab T hTm).2
    exact get_lt e
  have hk3 : ∀ b o, b ∉ tabs → s.heap.get? b = some o → h₃.get? b = some o := fun b o hb e => hx b o (fun z => hb (z ▸ hTm)) (up b o e)
  have ht3 : ∀ t ∈ tabs, TabAt h₃ t := fun t ht => by
    by_cases z : t = T
    · rw [z]; exact htab₃
    · obtain ⟨vs, e, q⟩ := ht1 t ht
      exact ⟨vs, hx t _ z e, q⟩
  have Xt : ∀ b o, (KF C.w.params).lookup b = some o → b ∉ tabs := fun b o e h => by
    have e9 := ok.K b o e
    rw [(r.tab b h).1] at e9
    (first | (have q := qc e9 q) | (have q := qcB e9 q) | cases e9)
  have X3 : (KF C.w.params).In h₃ := fun b o e => hk3 b o (Xt b o e) (X b o e)
  have hIT : s.heap.objs.size ≠ T := Nat.ne_of_gt hTlt
  have hI3 : h₃.IsListIter s.heap.objs.size a ((0 : Nat)) := ⟨_, hx _ _ hIT hI, rfl, rfl⟩
  have hI0 : s.heap.get? s.heap.objs.size = none := get_size_none _
  obtain ⟨hp, hpl, hrow⟩ := pairs_in r hps rvs hk3 ho rfl hat hI0
  have hsz4 : s.heap.objs.size < h₃.objs.size := by
    have : H.objs.size ≤ h₃.objs.size := hsz3
    omega
  have hlim3 : h₃.NoLimit := by
    refine hlim.extBut hx (fun e => ?_)
    obtain ⟨_, hns, _⟩ := hlim
    obtain ⟨o, es, ep, ho', hd', _⟩ := hns
    obtain ⟨vs, e9, _⟩ := ht1 _ hTm
    rw [e, e9] at ho'
    cases ho'
    cases hd'
  have hcs : cStatics < s.heap.objs.size := by
    obtain ⟨_, hns, _⟩ := ok.lim.keeps r.old
    obtain ⟨o, es, ep, ho', _⟩ := hns
    exact get_lt ho'
  have e1 : (callEnv (fdOf f) L f).globals = mainGlobals := hg.b
  have e2' : (callEnv (fdOf f) L f).builtins = builtinsNs := hg.c
  refine rwG (e1) ?_; refine rwG (e2') ?_
  refine (Looks.of_peek (M := model P C.w) X3 (fa_builtins C.w.params)) _ _ _ _ (fun _ _ e => e) ?_
  refine ⟨s.heap.objs.size, List.range h₃.objs.size, [s.heap.objs.size], ws.size, _, _, _, fun _ => true, F, rfl, fun A' hA' => pairs_walk hA' hp hsz4, ?_, ⟨hI3, fun b o _ e => e⟩, fun b hb => List.mem_range.mp hb, hlim3, ?_, fun href hhref => ⟨?_, ?_⟩, ?_⟩
  · rintro i vals ⟨rfl, hi⟩
    obtain ⟨p, q, t, u, e, _⟩ := hrow i hi
    exact ⟨_, _, e⟩
  · simpa using Nat.ne_of_lt hcs
  · intro A' E' i va vb s₂ m₂ _ _ _ _ _ _ _ _
    exact wpAny_tests_nil ⟨rfl, s₂.heap, s₂.toks, rfl, fun _ _ e => e⟩
  · intro A' E' i va vb s₂ m₂ h1 h2 h3 hP _ hn hma hmb hkp
    obtain ⟨hv, hi⟩ := hP
    obtain ⟨p, q, t, u, e, e9⟩ := hrow i hi
    rw [e] at hv
    have ea : va = .str (C.str p) t := by injection hv with hv; injection hv
    have eb : vb = .str (C.str q) u := by injection hv with hv; injection hv with _ hv; injection hv
    subst ea eb
    refine helt A' E' i code _ p q t u s₂ m₂ h1 h2 h3 e9 (fun b o eb => ?_) hn hma hmb
    have hb := X b o eb
    refine hkp b (List.mem_range.mpr (get_lt (X3 b o eb))) (by simp; exact Nat.ne_of_lt (get_lt hb)) o (hhref b o (X3 b o eb))
  · intro g h₅ tk5 gs hbare hgt hsz5 hk5 W hat5
    have hk : ∀ b o, b ∉ tabs → s.heap.get? b = some o → h₅.get? b = some o := fun b o hb e => hk5 b o (hk3 b o hb e)
    have hpr : passing (fun _ => true) ws.size 0 = List.range ws.size := by
      unfold passing; rw [List.drop_zero]; exact List.filter_eq_self.mpr fun _ _ => rfl
    have hpass : (passing (fun _ => true) ws.size 0).length = ps.length := by rw [hpr, hpl, List.length_range]
    have hpi : ∀ j i, (passing (fun _ => true) ws.size 0)[j]? = some i → i = j := fun j i e => by
      rw [hpr] at e
      obtain ⟨h1, h2⟩ := List.getElem?_eq_some_iff.mp e
      simpa using h2.symm
    rw [hpass] at W
    refine hQ g _ (r.to (s' := { s with heap := h₅, toks := tk5, gens := s.gens.push gs }) hk (fun t ht => let ⟨vs, e, q⟩ := ht3 t ht; ⟨vs, hk5 _ _ e, q⟩) (r.bare.push hbare) rfl) hk ?_
    have W' := walks_mono (F' := F) W (fun j v hP => by
      obtain ⟨k, hk, hF⟩ := hP
      rw [hpi j k hk] at hF
      exact hF)
    refine ⟨_, _, _, _, W', hat5, fun i s' st => st.1.typeIs, List.mem_cons_self, fun b hb => ?_, fun b hb => ?_⟩
    · show b < h₅.objs.size
      refine rwG (hsz5) ?_
      rcases List.mem_cons.mp hb with rfl | hb
      · exact Nat.lt_succ_self _
      · rcases List.mem_cons.mp hb with rfl | hb
        · exact Nat.lt_succ_of_lt hgt
        · exact Nat.lt_succ_of_lt (Nat.lt_trans (List.mem_range.mp hb) hgt)
    · rcases List.mem_cons.mp hb with rfl | hb
      · exact Nat.le_of_lt hsz4
      · exact Nat.le_of_eq (List.mem_singleton.mp hb).symm
end
end
end Mine
set_option genSizeOf false
set_option genInjectivity false
namespace Mine
noncomputable section
open PySem PySem.W PyProof.Rows PySem.Calls
set_option maxRecDepth 100000
theorem fa_hasdict2 (p) : hasDictIn (KF p) 195 = true := by kernel_rfl
section
variable {C : Cx} {D U : Nat} {Γ : FE}
theorem acc_attr {w : World} {A : Around} {E : Value → Shared → Prop} {s : Shared} {a : Addr} {ox : Obj} {od : Option Obj} {name : Str} {v : Value} {expr : Bool} {Q : Value → Shared → Prop} (X : (KF w.params).In s.heap) (I : W.InstAt s.heap a ox 195 od)
    (hf : findObj (KF w.params) 195 od name = some (.value v)) (hh : handedIn v = true) (h : Q v { s with toks := s.toks + 1 }) : wpAny (model P w) A (getAttr (.ref a) name expr) Q E s := by
  obtain ⟨hp, g, d, t, os⟩ := s
  have L0 := InstAt.type (M := model P w) I
  have L1 : Looks (model P w) hp (typeLookup (.ref 195) "__getattribute__") (some (.builtin "list.__getattribute__")) := looks_findIn X (fa_ga w.params)
  have L2 : Looks (model P w) hp (typeLookup (.ref 195) "__getattr__") none := looks_findIn X (fa_gk w.params)
  have L3 := looks_find (M := model P w) X I hf
  have hb := F.slot_list_getattribute.bind (.ref a)
  unfold getAttr getAttrBy
  refine wpAny_bind (wpAny_mkText (wpAny_holding (wpAny_bind (L0.at (wpAny_bind (L1.at ?_))))))
  show wpAny _ _ (getAttrByItsOwn (.ref a) (.str name t) (.ref 195) (.builtin "list.__getattribute__") true expr) _ _ _
  unfold getAttrByItsOwn hookBefore callGetattribute boundAndCalled
  refine wpAny_bind (L2.at (wpAny_bind (wpAny_attempt (wpAny_holding ?_))))
  have hex : ¬ ((expr && onTheHeap (.builtin "list.__getattribute__")) = true) := by cases expr <;> decide
  refine wite_n hex ?_; refine rwG (hb) ?_
  refine wpAny_bind (wpAny_pure (acc_call (s := ⟨hp, g, d, t + 1, os⟩) X I (n := "__getattribute__") (by decide +kernel) (by decide +kernel) (by decide +kernel) F.entry_list_ga (F.args_list_getattribute_2 _ _) ?_))
  show wpAny _ _ (typeOf (.ref a) >>= _) _ _ _
  refine wpAny_bind (L0.at (wpAny_bind (L3.at ?_)))
  refine wpAny_pure ⟨v, rfl, ?_⟩
  show wpAny _ _ (handedOut v) _ _ _
  rw [handedOut_of hh]; exact wpAny_pure h
/-- the first size of an accumulator -/
noncomputable def initM (v : V) : M V := fun σ => match accAt v σ with
  | some (_, _, _, vs) => match dget vs 0 with
    | some x => some (x, σ)
    | none => none
  | none => none
theorem SE_init {e : Expr} {pos : Pos} {f : Nat → M V} (ok : CxOk C) (h : SE C D U Γ e f) (hb : autoParam (∀ env whole, attributeBase e "_initial_size" env whole = whole) au3._auto_1) :
    SE C D U Γ (.Attribute e "_initial_size" pos) (fun l => bnd (f l) initM) := fun l L μ hok hl A hA σ s r b σ' e Q E q => by
  refine bnd_e e fun v σ₁ e1 e2 => ?_
  unfold initM at e2
  split at e2
  · rename_i n d xs vs hi
    split at e2
    · rename_i x hx
      (first | (have q := qc e2 q) | (have q := qcB e2 q) | cases e2)
      obtain ⟨rfl, g1, g2, g3, g4⟩ := accAt_some hi
      show wpAny _ _ (attributeBase _ "_initial_size" _ _ >>= fun o => standAt pos.atName >>= fun _ => holding [o] (getAttr o "_initial_size" true) >>= fun r => letTemporaryGo _ o r >>= fun _ => pure r) Q E s
      rw [hb]
      refine wpAny_bind (h l L μ hok hl A hA σ s r _ _ e1 _ E fun μ' s' w hp r' rv => ?_)
      refine RV.eRef rv fun a hn => ?_
      ·
        obtain ⟨us, kk, da, es, m, ho, hd, rvs, hsz, I, dr⟩ := acc_inst r' hn g1 g2
        obtain ⟨w, hw, rw'⟩ := dr.look (keysOk_all g3) (by decide : 0 < 8) hx m
        refine wpAny_bind (wpAny_standAt (wpAny_bind (wpAny_holding ?_)))
        refine acc_attr (r'.K ok) I (findObj_own (fa_hasdict2 _) (fa_init0 _) rfl hw) (handed_rv rw') ?_
        refine wpAny_bind (go_letT (wpAny_pure ?_))
        exact q μ' _ w hp (r'.toks _ _ _ _ rfl rfl) rw'
    · (first | exact nn e2 | cases e2)
  · (first | exact nn e2 | cases e2)
end
end
end Mine
set_option genSizeOf false
set_option genInjectivity false
namespace Mine
noncomputable section
open PySem PySem.W PyProof.Rows PySem.Calls
set_option maxRecDepth 100000
theorem ok162 : GOk 162 := ⟨by kernel_rfl, by kernel_rfl, by kernel_rfl, by kernel_rfl, by decide⟩
theorem ok169 : GOk 169 := ⟨by kernel_rfl, by kernel_rfl, by kernel_rfl, by kernel_rfl, by decide⟩
noncomputable def catP : List (List At × List At) → List At
  | [] => []
  | (p, q) :: r => p ++ (q ++ catP r)
section
variable {C : Cx} {D U : Nat}
noncomputable def valP (C : Cx) (ps : List (List At × List At)) (j : Nat) : Int := match ps[j]? with
  | some (p, q) => ((C.str p).length : Int) + ((C.str q).length : Int)
  | none => 0
theorem preSum_shift (v : Nat → Int) : ∀ n, preSum v (n + 1) = v 0 + preSum (fun j => v (j + 1)) n
  | 0 => by show preSum v 0 + v 0 = v 0 + 0; show (0 : Int) + v 0 = v 0 + 0; omega
  | n + 1 => by
    have ih := preSum_shift v n
    show preSum v (n + 1) + v (n + 1) = v 0 + (preSum (fun j => v (j + 1)) n + v (n + 1))
    rw [ih]; omega
theorem valP_sum : ∀ ps : List (List At × List At), preSum (valP C ps) ps.length = ((C.str (catP ps)).length : Int)
  | [] => rfl
  | (p, q) :: ps => by
    rw [List.length_cons, preSum_shift]
    have ih := valP_sum ps
    have e : (fun j => valP C ((p, q) :: ps) (j + 1)) = valP C ps := rfl
    rw [e, ih]
    show ((C.str p).length : Int) + ((C.str q).length : Int) + _ = ((C.str (p ++ (q ++ catP ps))).length : Int)
    rw [Cx_str_append, Cx_str_append, Str.length_append, Str.length_append]
    omega
noncomputable def shortP : List (List At × List At) → Bool
  | [] => true
  | (p, q) :: r => match Nat.ble p.length 1000 && Nat.ble q.length 1000 with
    | true => shortP r
    | false => false
theorem shortP_all : ∀ {ps : List (List At × List At)}, shortP ps = true → ∀ {i : Nat} {p q : List At}, ps[i]? = some (p, q) → p.length ≤ 1000 ∧ q.length ≤ 1000
  | (a, b) :: r, h, i, p, q, e => by
    unfold shortP at h
    split at h
    · rename_i hb
      rw [Bool.and_eq_true] at hb
      cases i with
      | zero => (first | (have q := qc e q) | (have q := qcB e q) | cases e); exact ⟨Nat.le_of_ble_eq_true hb.1, Nat.le_of_ble_eq_true hb.2⟩
      | succ i => exact shortP_all h (i := i) e
    · (first | exact nn h | cases h)
  | [], _, i, p, q, e => by simp at e
noncomputable def lenAccM (v : V) : M V := fun σ => match accAt v σ with
  | some (_, _, xs, vs) => match dget vs 0 with
    | some (.int i) => match decide (i = 0) with
      | true => match strPairs σ xs with
        | some ps => match shortP ps with
          | true => some (.ln (catP ps), σ)
          | false => none
        | none => none
      | false => none
    | _ => none
  | none => none
theorem SE_sumLen {p1 p2 p3 p4 p5 p6 p7 p8 p9 p10 p11 gp ap cp pt bp : Pos} {kt : Nat} {scope : Scope} (ok : CxOk C) (hD : D < 900)
    (hco : scope.isCoroutine = false) (hnm : (scope.names.all fun y => y.2 != .cell && y.2 != .free) = true) (h0 : scope.names.lookup (".0" : Str) = some NameKind.local)
    (hxa : scope.names.lookup ("fws" : Str) = some .local) (hxb : scope.names.lookup ("part" : Str) = some .local) (hkind : scope.kind = .function)
    (hlen : ∀ p code cl L, peek (KF p) ⟨P, p⟩ (loadName (genEnv scope [] cl code builtinsNs (callEnv (fdOf 162) L 162)) "len") = some (.builtin "len"))
    (hsum : ∀ p L, peek (KF p) ⟨P, p⟩ (loadName (callEnv (fdOf 162) L 162) "sum") = some (.builtin "sum")) :
    SE C D U (GG 162 ok162) (.Call (.Name "sum" p1) [.GeneratorExp (.BinOp (.Call (.Name "len" p2) [.Name "fws" p3] [] p4) .Add (.Call (.Name "len" p5) [.Name "part" p6] [] p7) bp) [⟨.Tuple [.Name "fws" p8, .Name "part" p9] kt pt, .Name "self" p10, [], 0⟩] scope gp,
      .Attribute (.Name "self" p11) "_initial_size" ap] [] cp) (fun l => bnd (locGet 162 0 l) lenAccM) := fun l L μ hok hl A hA σ s r b σ' e Q E q => by
  have hcell : ∀ y ∈ scope.names, y.2 ≠ .cell := fun y hy => by
    have := List.all_eq_true.mp hnm y hy
    rw [Bool.and_eq_true] at this
    simpa using this.1
  have hfree : ∀ y ∈ scope.names, y.2 ≠ .free := fun y hy => by
    have := List.all_eq_true.mp hnm y hy
    rw [Bool.and_eq_true] at this
    simpa using this.2
  refine gnT fun tt htt => ?_
  refine bnd_e e fun v σ₁ e1 e2 => ?_
  obtain ⟨vs0, g1, g2, g3⟩ := locGet_some e1
  simp only at g2 g3
  subst g3
  unfold lenAccM at e2
  split at e2
  · rename_i n d xs nms hi
    split at e2
    · rename_i i0 hdg
      split at e2
      · rename_i hz
        have hz := of_decide_eq_true hz
        subst hz
        split at e2
        · rename_i ps hps
          split at e2
          · rename_i hsh
            (first | (have q := qc e2 q) | (have q := qcB e2 q) | cases e2)
            obtain ⟨rfl, k1, k2, k3, k4⟩ := accAt_some hi
            refine Rel.at_e r g1 hl (fun ol hol hrl => ?_)
            obtain ⟨m, hns, _, hm⟩ := ns_of hol hrl
            obtain ⟨w0, hw, rw0⟩ := hm.get (x := "self") rfl g2
            cases rw0 with
            | ref _ a hna =>
            subst htt
            refine wpAny_Call_NameR (wpAny_Name ?_ (by decide))
            refine (Looks.of_peek (M := model P C.w) (r.K ok) (hsum C.w.params L)).here ?_
            refine callWith_of (P := fun h => (KF C.w.params).In h) rfl (keep_bi _) (evA rfl ?_)
            refine spliced_cons ?_
            refine gen_pairs (hg := ok162) (f := 162) (F := fun i y => ∃ t, y = .int (valP C ps i) t) ok code162 fdc162 hA hD r hna k1 k2 hps hco hcell hfree h0 hxa hxb (by decide) hkind (fun Q' hq => ?_) ?_ ?_ (fun x => rfl)
            · exact wpAny_Name (wpAny_loadName_local ok162.a ((GG 162 ok162).knd L "self" (by decide)) (m := m) (v := .ref a) hns hw hq) (by decide)
            · intro A' E' i code cl p q t u s₂ m₂ h1 h2 h3 hpi X₂ hn2 hma hmb
              have hl1 := Cx_str_len ok p
              have hl2 := Cx_str_len ok q
              have hsp := shortP_all hsh hpi
              refine wpAny_BinOp ?_
              refine wpAny_Call_NameR (wpAny_Name ?_ (by decide))
              refine (Looks.of_peek (M := model P C.w) X₂ (hlen C.w.params code cl L)) _ _ _ _ (fun _ _ e => e) ?_
              refine callWith_of (P := fun h => (KF C.w.params).In h) rfl (keep_bi _) (evA rfl (spliced_cons ?_))
              refine wpAny_Name (wpAny_loadName_local hkind hxa (m := m₂) (v := .str (C.str p) t) hn2 hma (spliced_nil ⟨X₂, ?_⟩)) (by decide)
              refine P.len_str (by omega) ?_
              refine wpAny_Call_NameR (wpAny_Name ?_ (by decide))
              refine (Looks.of_peek (M := model P C.w) X₂ (hlen C.w.params code cl L)) _ _ _ _ (fun _ _ e => e) ?_
              refine callWith_of (P := fun h => (KF C.w.params).In h) rfl (keep_bi _) (evA rfl (spliced_cons ?_))
              refine wpAny_Name (wpAny_loadName_local hkind hxb (m := m₂) (v := .str (C.str q) u) hn2 hmb (spliced_nil ⟨X₂, ?_⟩)) (by decide)
              refine P.len_str (by omega) ?_
              refine PySem.wpAny_add_int ?_
              have hv : valP C ps i = ((C.str p).length : Int) + ((C.str q).length : Int) := by unfold valP; rw [hpi]
              refine rwH (hv) ?_
              exact ⟨⟨_, rfl⟩, _, _, rfl, fun _ _ e => e⟩
            · intro g s₅ r5 hk5 hG
              obtain ⟨fp, wr, gg, St, W, hst, hTy, ha, hfp, hwr⟩ := hG
              refine Rel.at_e r5 g1 hl (fun ol5 hol5 hrl5 => ?_)
              obtain ⟨m5, hns5, _, hm5⟩ := ns_of hol5 hrl5
              obtain ⟨w5, hw5, rw5⟩ := hm5.get (x := "self") rfl g2
              cases rw5 with
              | ref _ a5 hna5 =>
              obtain ⟨us, kk, da, es, mm, ho5, hd5, rvs5, hsz5, I5, dr5⟩ := acc_inst r5 hna5 k1 k2
              obtain ⟨w6, hw6, rv6⟩ := dr5.look (keysOk_all k3) (by decide : 0 < 8) hdg mm
              cases rv6 with
              | int _ t6 =>
              refine spliced_cons ?_
              show wpAny _ _ (eval (.Name "self" p11) (callEnv (fdOf 162) L 162) >>= fun o => standAt ap.atName >>= fun _ => holding [o] (getAttr o "_initial_size" true) >>= fun r => letTemporaryGo (.Name "self" p11) o r >>= fun _ => pure r) _ _ _
              refine wpAny_bind (wpAny_Name (wpAny_loadName_local ok162.a ((GG 162 ok162).knd L "self" (by decide)) (m := m5) (v := .ref a5) hns5 hw5 ?_) (by decide))
              refine wpAny_bind (wpAny_standAt (wpAny_bind (wpAny_holding ?_)))
              refine acc_attr (r5.K ok) I5 (findObj_own (fa_hasdict2 _) (fa_init0 _) rfl hw6) rfl ?_
              refine wpAny_bind (go_letT (wpAny_pure (spliced_nil ⟨r5.K ok, ?_⟩)))
              have hst' : St 0 { s₅ with toks := s₅.toks + 1 } := W.frame 0 s₅ s₅.heap (s₅.toks + 1) hst (Nat.le_succ _) (fun _ _ _ e => e)
              refine sum_from_zero (W.in4_1.self 0 _ _ _ hst' ⟨g, _, _, _, _, _, _, valP C ps, rfl, W.in4_1, hst', hfp, fun _ _ hv => hv, fun s' t' hmv => ?_⟩)
              have hold : ∀ b o, b ∉ tabs → s.heap.get? b = some o → s'.heap.get? b = some o := fun b o hb e => hmv.heap b o (fun hw => Nat.lt_irrefl _ (Nat.lt_of_lt_of_le (get_lt e) (hwr b hw))) (hk5 b o hb e)
              have r' : Rel C μ _ s' := r.to hold (fun t ht => by
                obtain ⟨vs0, e0, _⟩ := (r.tab t ht).2
                obtain ⟨vs, e, q⟩ := (r5.tab t ht).2
                exact ⟨vs, hmv.heap t _ (fun hw => Nat.lt_irrefl _ (Nat.lt_of_lt_of_le (get_lt e0) (hwr t hw))) e, q⟩) (hmv.gens.bare r5.bare) (hmv.os.trans (r5.os.trans r.os.symm))
              rw [valP_sum]
              exact q μ s' _ (List.prefix_refl _) r' (.ln _ _)
          · (first | exact nn e2 | cases e2)
        · (first | exact nn e2 | cases e2)
      · (first | exact nn e2 | cases e2)
    · (first | exact nn e2 | cases e2)
  · (first | exact nn e2 | cases e2)
end
end
end Mine
set_option genSizeOf false
set_option genInjectivity false
namespace Mine
noncomputable section
open PySem PySem.W PyProof.Rows PySem.Calls
set_option maxRecDepth 100000
set_option maxHeartbeats 0
/-! len and str of an accumulator, by its own defs -/
theorem do162 : DefOk 162 1 1 [] := ⟨by intro _; kernel_rfl, by intro _; kernel_rfl, by kernel_rfl, by decide, by decide, by kernel_rfl, by kernel_rfl, by kernel_rfl, by kernel_rfl, by kernel_rfl, by
  intro p S ws h; exact ln1 ws h fun a => by kernel_rfl⟩
noncomputable def d162 : {g : Nat → M VF // ∀ C, CxOk C → ∀ D U, D < 800 → U < 5000 → SXs C D U (GG 162 ok162) (bodyOf 162) g} := ⟨_, fun C ok D U hD hU => by
  refine' SXs_cons (SX_ret ?h) SXs_nil
  case h =>
    exact (SE_sumLen ok (by omega) (by kernel_rfl) (by kernel_rfl) (by kernel_rfl) (by kernel_rfl) (by kernel_rfl) (by kernel_rfl) (by intro _ _ _ _; kernel_rfl) (by intro _ _; kernel_rfl))⟩
theorem c162 {C : Cx} {D U : Nat} (ok : CxOk C) (hD : D < 799) (hU : U < 4997) : SFn C D U 162 (defD 162 1 1 [] d162.1) := SFn_def2 ok (fun _ => .nil) do162 (by omega) (d162.2 C ok _ _ (by omega) (by omega))
section
variable {C : Cx} {D U : Nat} {Γ : FE}
theorem fa_lenty (p) : typeIn (KF p) (.ref 162) = some (.type "function") := by kernel_rfl
noncomputable def lnChk (v : V) : M V := fun σ => match v with
  | .ln x => match Nat.ble x.length 1000 with
    | true => some (.ln x, σ)
    | false => none
  | _ => none
noncomputable def lenA (vs : List V) : M V := fun σ => match vs with
  | [.ref n] => match accAt (.ref n) σ with
    | some _ => bnd (defD 162 1 1 [] d162.1 [.ref n]) lnChk σ
    | none => lenM vs σ
  | _ => lenM vs σ
theorem SCl_lenA (ok : CxOk C) (hD : D < 799) (hU : U < 4990) : SCl C D U (.builtin "len") lenA := fun vs ws μ rv A hA σ s r b σ' e Q E q => by
  unfold lenA at e
  split at e
  · rename_i n
    split at e
    · rename_i p hi
      obtain ⟨n', d, xs, nms⟩ := p
      obtain ⟨h1, k1, k2, k3, k4⟩ := accAt_some hi
      cases h1
      refine bnd_e e fun v σ₁ e1 e2 => ?_
      unfold lnChk at e2
      split at e2
      · rename_i x
        split at e2
        · rename_i hb
          have hb := Nat.le_of_ble_eq_true hb
          (first | (have q := qc e2 q) | (have q := qcB e2 q) | cases e2)
          refine RVs.eCons rv fun _ _ h t => ?_
          refine RVs.eNil t ?_
          refine RV.eRef h fun a hn => ?_
          ·
            obtain ⟨us, kk, da, es, m, ho, hd, rvs, hsz, I, dr⟩ := acc_inst r hn k1 k2
            refine Calls.call_function_entry kind_len plain_len entry_len (args_len1 _) ?_
            unfold Builtin.«len»
            refine wpAny_bind (m := PySem.oneArg "len" _) (wpAny_pure ?_)
            refine wpAny_bind (m := callSpecial? (.ref a) (Str.ofString "__len__")) (special_fn (r.K ok) I (fa_len _) (fa_lenty _) ?_)
            refine c162 (C := C) (D := D) (U := U + 1) ok hD (by omega) [.ref n] [.ref a] μ (.cons (.ref n a hn) .nil) A.in1 hA.in1 σ s r _ _ e1 _ E fun μ' s' w hp r' rw' => ?_
            refine RV.eLn rw' fun t => ?_
            ·
              have hlen := Cx_str_len ok x
              refine wpAny_bind (wpAny_holding (wpAny_pure ?_))
              refine wpAny_bind (wpAny_letGo ?_)
              show wpAny _ _ (if ((C.str x).length : Int) < 0 then _ else _) _ _ _
              refine wite_n (by omega) ?_
              show wpAny _ _ (if ((C.str x).length : Int) ≥ 2 ^ 63 then _ else _) _ _ _
              refine wite_n (by omega) ?_
              exact wpAny_bind (wpAny_mkInt (wpAny_pure ⟨_, rfl, q μ' _ _ hp (r'.toks _ _ _ _ rfl rfl) (.ln _ _)⟩))
        · (first | exact nn e2 | cases e2)
      · (first | exact nn e2 | cases e2)
    · exact SCl_len ok _ ws μ rv A hA σ s r b σ' e Q E q
  · exact SCl_len ok _ ws μ rv A hA σ s r b σ' e Q E q
end
end
end Mine
set_option genSizeOf false
set_option genInjectivity false
namespace Mine
noncomputable section
open PySem PySem.W PyProof.Rows PySem.Calls
set_option maxRecDepth 100000
set_option maxHeartbeats 0
section
variable {C : Cx} {D U : Nat}
noncomputable def txP (C : Cx) (ps : List (List At × List At)) : List Str := ps.map fun x => C.str (x.1 ++ x.2)
theorem join_nil_str : ∀ ys : List Str, ∀ z : Str, Txt.join (⟨#[]⟩ : Str) (z :: ys) = z ++ Txt.join (⟨#[]⟩ : Str) ys
  | [], z => by
    show z = z ++ (⟨#[]⟩ : Str)
    exact Str.ext' (by rw [Str.cps_append]; simp)
  | y :: ys, z => by
    unfold Txt.join
    rw [StrLaws.glued_eq_join, StrLaws.glued_eq_join]
    show z ++ (⟨#[]⟩ : Str) ++ Str.join (⟨#[]⟩ : Str) (y :: ys) = z ++ Str.join (⟨#[]⟩ : Str) (y :: ys)
    refine Str.ext' ?_
    simp [Str.cps_append]
theorem join_txP : ∀ ps : List (List At × List At), Txt.join (⟨#[]⟩ : Str) (txP C ps) = C.str (catP ps)
  | [] => rfl
  | (p, q) :: ps => by
    show Txt.join (⟨#[]⟩ : Str) (C.str (p ++ q) :: txP C ps) = C.str (p ++ (q ++ catP ps))
    rw [join_nil_str, join_txP ps, Cx_str_append, Cx_str_append, Cx_str_append, Str_append_assoc]
theorem txP_sum (ok : CxOk C) : ∀ {ps : List (List At × List At)}, shortP ps = true → ((txP C ps).map (·.length)).sum ≤ ps.length * 40000
  | [], _ => by simp [txP]
  | (p, q) :: ps, h => by
    have hpq := shortP_all h (i := 0) rfl
    have hr : shortP ps = true := by
      unfold shortP at h
      split at h
      · exact h
      · (first | exact nn h | cases h)
    have ih := txP_sum ok hr
    have h1 := Cx_str_len ok (p ++ q)
    rw [List.length_append] at h1
    show (C.str (p ++ q)).length + ((txP C ps).map (·.length)).sum ≤ (ps.length + 1) * 40000
    rw [Nat.add_mul]
    omega
noncomputable def strAccM (v : V) : M V := fun σ => match accAt v σ with
  | some (_, _, xs, _) => match strPairs σ xs with
    | some ps => match shortP ps && Nat.ble ps.length 100 with
      | true => some (.str (catP ps), σ)
      | false => none
    | none => none
  | none => none
theorem SE_joinAcc {p1 p2 p3 p4 p5 p6 p7 ap ap2 ep gp cp pt tp : Pos} {kt kt2 : Nat} {tE : Tok} {scope : Scope} (ok : CxOk C) (hD : D < 900)
    (hco : scope.isCoroutine = false) (hnm : (scope.names.all fun y => y.2 != .cell && y.2 != .free) = true) (h0 : scope.names.lookup (".0" : Str) = some NameKind.local)
    (hxa : scope.names.lookup ("fws" : Str) = some .local) (hxb : scope.names.lookup ("part" : Str) = some .local) (hkind : scope.kind = .function)
    (hE2 : ∀ p code cl L, peek (KF p) ⟨P, p⟩ (loadName (genEnv scope [] cl code builtinsNs (callEnv (fdOf 169) L 169)) "EMPTYSTRING") = some (.str ⟨#[]⟩ tE))
    (hE : ∀ p L, peek (KF p) ⟨P, p⟩ (loadName (callEnv (fdOf 169) L 169) "EMPTYSTRING") = some (.str ⟨#[]⟩ tE))
    (hl1 : (ap.endLine == cp.line) = true) (hl2 : (ap2.endLine == ep.line) = true) :
    SE C D U (GG 169 ok169) (.Call (.Attribute (.Name "EMPTYSTRING" p1) "join" ap) [.GeneratorExp (.Call (.Attribute (.Name "EMPTYSTRING" p2) "join" ap2) [.Tuple [.Name "fws" p3, .Name "part" p4] kt2 tp] [] ep) [⟨.Tuple [.Name "fws" p5, .Name "part" p6] kt pt, .Name "self" p7, [], 0⟩] scope gp] [] cp)
      (fun l => bnd (locGet 169 0 l) strAccM) := fun l L μ hok hl A hA σ s r b σ' e Q E q => by
  have hcell : ∀ y ∈ scope.names, y.2 ≠ .cell := fun y hy => by
    have := List.all_eq_true.mp hnm y hy
    rw [Bool.and_eq_true] at this
    simpa using this.1
  have hfree : ∀ y ∈ scope.names, y.2 ≠ .free := fun y hy => by
    have := List.all_eq_true.mp hnm y hy
    rw [Bool.and_eq_true] at this
    simpa using this.2
  refine bnd_e e fun v σ₁ e1 e2 => ?_
  obtain ⟨vs0, g1, g2, g3⟩ := locGet_some e1
  simp only at g2 g3
  subst g3
  unfold strAccM at e2
  split at e2
  · rename_i n d xs nms hi
    split at e2
    · rename_i ps hps
      split at e2
      · rename_i hsh
        rw [Bool.and_eq_true] at hsh
        obtain ⟨hsh, hpl⟩ := hsh
        have hpl := Nat.le_of_ble_eq_true hpl
        (first | (have q := qc e2 q) | (have q := qcB e2 q) | cases e2)
        obtain ⟨rfl, k1, k2, k3, k4⟩ := accAt_some hi
        refine Rel.at_e r g1 hl (fun ol hol hrl => ?_)
        obtain ⟨m, hns, _, hm⟩ := ns_of hol hrl
        obtain ⟨w0, hw, rw0⟩ := hm.get (x := "self") rfl g2
        cases rw0 with
        | ref _ a hna =>
        refine wpAny_Call_method_lateS rfl rfl hl1 ?_
        refine wpAny_Name ?_ (by decide)
        refine (Looks.of_peek (M := model P C.w) (r.K ok) (hE C.w.params L)).here ?_
        refine ⟨"str", "str.join", F.plainAttrs_str, F.slot_str_join, F.type_str_join, typeIs_str _ _ _, (fun _ e => nomatch e), ?_⟩
        refine callWith_of (P := fun h => (KF C.w.params).In h) rfl (keep_bi _) (evA rfl (spliced_cons ?_))
        refine gen_pairs (hg := ok169) (f := 169) (F := fun i y => ∃ p q t, ps[i]? = some (p, q) ∧ y = .str (C.str (p ++ q)) t) ok code169 fdc169 hA hD r hna k1 k2 hps hco hcell hfree h0 hxa hxb (by decide) hkind (fun Q' hq => ?_) ?_ ?_ (fun x => rfl)
        · exact wpAny_Name (wpAny_loadName_local ok169.a ((GG 169 ok169).knd L "self" (by decide)) (m := m) (v := .ref a) hns hw hq) (by decide)
        · intro A' E' i code cl p q t u s₂ m₂ h1 h2 h3 hpi X₂ hn2 hma hmb
          have hlp := Cx_str_len ok p
          have hlq := Cx_str_len ok q
          have hsp := shortP_all hsh hpi
          refine wpAny_Call_method_lateS rfl rfl hl2 ?_
          refine wpAny_Name ?_ (by decide)
          refine (Looks.of_peek (M := model P C.w) X₂ (hE2 C.w.params code cl L)) _ _ _ _ (fun _ _ e => e) ?_
          refine ⟨"str", "str.join", F.plainAttrs_str, F.slot_str_join, F.type_str_join, typeIs_str _ _ _, (fun _ e => nomatch e), ?_⟩
          refine callWith_of (P := fun h => (KF C.w.params).In h) rfl (keep_bi _) (evA rfl (spliced_cons ?_))
          refine wpAny_Tuple_spliced (x1 := kt2) ?_
          refine spliced_cons (wpAny_Name (wpAny_loadName_local hkind hxa (m := m₂) (v := .str (C.str p) t) hn2 hma ?_) (by decide))
          refine spliced_cons (wpAny_Name (wpAny_loadName_local hkind hxb (m := m₂) (v := .str (C.str q) u) hn2 hmb ?_) (by decide))
          refine spliced_nil ⟨?_, ?_⟩
          · exact Nat.le_trans (by decide : 2 ≤ 1000) k_le_line
          · have kp : ∀ b o, s₂.heap.get? b = some o → (s₂.heap.push { cls := .type "tuple", data := .seq [Value.str (C.str p) t, Value.str (C.str q) u].toArray }).get? b = some o := fun b o e => Heap.get?_push_of_some _ e
            refine spliced_nil ⟨X₂.keeps kp, ?_⟩
            refine join_tuple (ys := [C.str p, C.str q]) ⟨_, Heap.get?_push_size _ rfl, rfl, 0, rfl⟩ (.cons _ _ (.cons _ _ .nil)) ?_ fun t' k => ?_
            · show (C.str p).length + ((C.str q).length + 0) + 2 * 0 ≤ 16777216
              omega
            · refine ⟨⟨p, q, t', hpi, ?_⟩, _, k, rfl, kp⟩
              have : Txt.join (⟨#[]⟩ : Str) [C.str p, C.str q] = C.str (p ++ q) := by
                rw [join_nil_str, Cx_str_append]
                rfl
              rw [this]
        · intro g s₅ r5 hk5 hG
          obtain ⟨fp, wr, gg, St, W, hst, hTy, ha, hfp, hwr⟩ := hG
          refine spliced_nil ⟨r5.K ok, ?_⟩
          refine SC.joinGen W.in4_2 hTy hst hfp ha (fun i v hv => let ⟨p, q, t, _, e⟩ := hv; ⟨_, t, e⟩) (fun s' lt hmv hacc => ?_) (by rw [sizeLine_eq]; omega)
          have hlt : lt.map (·.1) = txP C ps := by
            apply List.ext_getElem?
            intro j
            have hsz : lt.length = ps.length := by simpa [strValues] using hacc.1
            by_cases hj : j < ps.length
            · have hj' : j < lt.length := hsz ▸ hj
              obtain ⟨p, q, t, hpj, hv⟩ := hacc.2 j (.str lt[j].1 lt[j].2) (by simp [strValues, List.getElem?_eq_getElem hj'])
              injection hv with h1 _
              rw [List.getElem?_map, List.getElem?_eq_getElem hj']
              unfold txP
              rw [List.getElem?_map, hpj]
              simp [h1]
            · rw [List.getElem?_eq_none (by simpa [hsz] using Nat.le_of_not_lt hj), List.getElem?_eq_none (by simpa [txP] using Nat.le_of_not_lt hj)]
          rw [hlt]
          have hold : ∀ b o, b ∉ tabs → s.heap.get? b = some o → s'.heap.get? b = some o := fun b o hb e => hmv.heap b o (fun hw => Nat.lt_irrefl _ (Nat.lt_of_lt_of_le (get_lt e) (hwr b hw))) (hk5 b o hb e)
          have r' : Rel C μ _ s' := r.to hold (fun t ht => by
            obtain ⟨vs0, e0, _⟩ := (r.tab t ht).2
            obtain ⟨vs, e, q⟩ := (r5.tab t ht).2
            exact ⟨vs, hmv.heap t _ (fun hw => Nat.lt_irrefl _ (Nat.lt_of_lt_of_le (get_lt e0) (hwr t hw))) e, q⟩) (hmv.gens.bare r5.bare) (hmv.os.trans (r5.os.trans r.os.symm))
          refine ⟨joinOk_of ?_, fun t' k => ?_⟩
          · have h1 := txP_sum ok hsh
            show _ + _ * 0 ≤ _
            have h2 : ps.length * 40000 ≤ 100 * 40000 := Nat.mul_le_mul_right _ hpl
            omega
          · rw [join_txP]
            exact q μ { s' with toks := k } _ (List.prefix_refl _) (r'.toks _ _ _ _ rfl rfl) (.str _ _)
      · (first | exact nn e2 | cases e2)
    · (first | exact nn e2 | cases e2)
  · (first | exact nn e2 | cases e2)
end
end
end Mine
set_option genSizeOf false
set_option genInjectivity false
namespace Mine
noncomputable section
open PySem PySem.W PyProof.Rows PySem.Calls
set_option maxRecDepth 100000
set_option maxHeartbeats 0
theorem do169 : DefOk 169 1 1 [] := ⟨by intro _; kernel_rfl, by intro _; kernel_rfl, by kernel_rfl, by decide, by decide, by kernel_rfl, by kernel_rfl, by kernel_rfl, by kernel_rfl, by kernel_rfl, by
  intro p S ws h; exact ln1 ws h fun a => by kernel_rfl⟩
noncomputable def tokE : Tok := match peek (KF p0) ⟨P, p0⟩ (loadName (callEnv (fdOf 169) 0 169) "EMPTYSTRING") with
  | some (.str _ t) => t
  | _ => 0
noncomputable def d169 : {g : Nat → M VF // ∀ C, CxOk C → ∀ D U, D < 800 → U < 5000 → SXs C D U (GG 169 ok169) (bodyOf 169) g} := ⟨_, fun C ok D U hD hU => by
  refine' SXs_cons (SX_ret ?h) SXs_nil
  case h =>
    exact (SE_joinAcc (tE := tokE) ok (by omega) (by kernel_rfl) (by kernel_rfl) (by kernel_rfl) (by kernel_rfl) (by kernel_rfl) (by kernel_rfl) (by intro _ _ _ _; kernel_rfl) (by intro _ _; kernel_rfl) (by rfl) (by rfl))⟩
theorem c169 {C : Cx} {D U : Nat} (ok : CxOk C) (hD : D < 799) (hU : U < 4997) : SFn C D U 169 (defD 169 1 1 [] d169.1) := SFn_def2 ok (fun _ => .nil) do169 (by omega) (d169.2 C ok _ _ (by omega) (by omega))
theorem fa_str (p) : findIn (KF p) (.ref 195) "__str__" = some (some (.ref 169)) := by kernel_rfl
theorem fa_strfn (p) : isFn (KF p) (.ref 169) = true := by kernel_rfl
section
variable {C : Cx} {D U : Nat} {Γ : FE}
noncomputable def strChk2 (v : V) : M V := fun σ => match v with
  | .str x => some (.str x, σ)
  | _ => none
noncomputable def strA (vs : List V) : M V := fun σ => match vs with
  | [.ref n] => match accAt (.ref n) σ with
    | some _ => bnd (defD 169 1 1 [] d169.1 [.ref n]) strChk2 σ
    | none => none
  | _ => none
theorem SCl_strA (ok : CxOk C) (hD : D < 799) (hU : U < 4990) : SCl C D U (.type "str") strA := fun vs ws μ rv A hA σ s r b σ' e Q E q => by
  unfold strA at e
  split at e
  · rename_i n
    split at e
    · rename_i p hi
      obtain ⟨n', d, xs, nms⟩ := p
      obtain ⟨h1, k1, k2, k3, k4⟩ := accAt_some hi
      cases h1
      refine bnd_e e fun v σ₁ e1 e2 => ?_
      unfold strChk2 at e2
      split at e2
      · (first | exact nn e2 | cases e2)
        refine RVs.eCons rv fun _ _ h t => ?_
        refine RVs.eNil t ?_
        refine RV.eRef h fun a hn => ?_
        ·
          obtain ⟨us, kk, da, es, m, ho, hd, rvs, hsz, I, dr⟩ := acc_inst r hn k1 k2
          have hu := hA.un
          refine kso_call (by show A.units + 1 + 1 < 9900; omega) (r.K ok) I (fa_str _) (fa_strfn _) ?_
          refine c169 (C := C) (D := D) (U := U + 1 + 1) ok hD (by omega) [.ref n] [.ref a] μ (.cons (.ref n a hn) .nil) A.in1.in1 hA.in1.in1 σ s r _ _ e1 _ E fun μ' s' w hp r' rw' => ?_
          refine RV.eStr rw' fun t => ?_
          exact q μ' _ _ hp r' (.str _ _)
      · (first | exact nn e2 | cases e2)
    · (first | exact nn e | cases e)
  · (first | exact nn e | cases e)
/-! truth of an accumulator -/
noncomputable def lnPos (v : V) : M Bool := fun σ => match v with
  | .ln [] => some (false, σ)
  | .ln (_ :: _) => some (true, σ)
  | _ => none
noncomputable def truA (v : V) : M Bool := fun σ => match accAt v σ with
  | some _ => bnd (bnd (defD 162 1 1 [] d162.1 [v]) lnChk) lnPos σ
  | none => truB v σ
theorem truA_snd (ok : CxOk C) (hD : D < 799) (hU : U < 4990) {μ : List Addr} {v : V} {w : Value} (rv : RV C μ v w) : Snd C D U BR (truthy w) (truA v) μ := fun A hA σ s r b σ' e Q E q => by
  unfold truA at e
  split at e
  · rename_i p hi
    obtain ⟨n, d, xs, nms⟩ := p
    obtain ⟨rfl, k1, k2, k3, k4⟩ := accAt_some hi
    refine bnd_e e fun y σ₁ e0 e3 => ?_
    refine bnd_e e0 fun v σ₂ e1 e2 => ?_
    unfold lnChk at e2
    split at e2
    · rename_i x
      split at e2
      · rename_i hb
        have hb := Nat.le_of_ble_eq_true hb
        (first | (have q := qc e2 q) | (have q := qcB e2 q) | cases e2)
        refine RV.eRef rv fun a hn => ?_
        ·
          obtain ⟨us, kk, da, es, m, ho, hd, rvs, hsz, I, dr⟩ := acc_inst r hn k1 k2
          have X := r.K ok
          have L1 : Looks (model P C.w) s.heap (specialOf (.ref a) "__bool__") none := I.type.andThen (looks_findIn X (fa_bool _))
          have L2 : Looks (model P C.w) s.heap (specialOf (.ref a) "__len__") (some (.ref 162)) := I.type.andThen (looks_findIn X (fa_len _))
          have key : wpAny (model P C.w) A (runValue (.builtin "len" ⟨[.ref a], []⟩)) (fun r s' => ∃ t, r = .int ((C.str x).length : Nat) t ∧ Q b s') E s := by
            refine wpAny_runValue (codeAny_builtin entry_len ?_)
            rw [Around.under_plainId plain_len _]
            unfold Builtin.«len»
            refine wpAny_bind (m := PySem.oneArg "len" _) (wpAny_pure ?_)
            refine wpAny_bind (m := callSpecial? (.ref a) (Str.ofString "__len__")) (special_fn X I (fa_len _) (fa_lenty _) ?_)
            refine c162 (C := C) (D := D) (U := U + 1) ok hD (by omega) [.ref n] [.ref a] μ (.cons (.ref n a hn) .nil) A.in1 hA.in1 σ s r _ _ e1 _ E fun μ' s' w hp r' rw' => ?_
            refine RV.eLn rw' fun t => ?_
            ·
              have hlen := Cx_str_len ok x
              refine wpAny_bind (wpAny_holding (wpAny_pure ?_))
              refine wpAny_bind (wpAny_letGo ?_)
              show wpAny _ _ (if ((C.str x).length : Int) < 0 then _ else _) _ _ _
              refine wite_n (by omega) ?_
              show wpAny _ _ (if ((C.str x).length : Int) ≥ 2 ^ 63 then _ else _) _ _ _
              refine wite_n (by omega) ?_
              refine wpAny_bind (wpAny_mkInt (wpAny_pure ⟨_, rfl, ?_⟩))
              have hσ : σ' = σ₁ := by
                unfold lnPos at e3
                split at e3 <;> first | (cases e3; rfl) | (cases e3)
              subst hσ
              exact q μ' _ b hp (r'.toks _ _ _ _ rfl rfl) rfl
          have hbv : (((C.str x).length : Int) != 0) = b := by
            unfold lnPos at e3
            induction x with
            | nil => cases e3; rfl
            | cons c x =>
              cases e3
              have := atS_ne ok c x
              have h2 : (C.str (c :: x)).length ≠ 0 := fun z => this (List.length_eq_zero_iff.mp (by rw [Array.length_toList]; exact z))
              exact bne_iff_ne.mpr (by omega)
          unfold truthy
          refine wpAny_bind ?_
          unfold callSpecial?
          refine wpAny_bind (L1.here (wpAny_pure ?_))
          refine wpAny_bind (L2.here ?_)
          refine wite_n (by simp) ?_
          refine wpAny_bind (wpAny_mono key (fun r s' hr => ?_) fun _ _ z => z)
          obtain ⟨t, rfl, hq⟩ := hr
          refine wpAny_pure ?_
          rw [hbv]
          exact hq
      · (first | exact nn e2 | cases e2)
    · (first | exact nn e2 | cases e2)
  · exact tru_snd rv A hA σ s r b σ' e Q E q
end
end
end Mine
set_option genSizeOf false
set_option genInjectivity false
namespace Mine
noncomputable section
open PySem PySem.W PyProof.Rows PySem.Calls
set_option maxRecDepth 100000
section
variable {C : Cx} {D U : Nat} {Γ : FE}
/-! and, or, not as values -/
theorem SE_andA {x y : Expr} {pos : Pos} {f g : Nat → M V} (ok : CxOk C) (hD : D < 799) (hU : U < 4990) (h1 : SE C D U Γ x f) (h2 : SE C D U Γ y g) (he : autoParam (∀ env, evalEach [x, y] env = [eval x env, eval y env]) au1._auto_1) :
    SE C D U Γ (.BoolOp .And [x, y] pos) (fun l => bnd (f l) fun v => bnd (truA v) fun t => match t with | true => g l | false => ret v) := fun l L μ hok hl A hA σ s r b σ' e Q E q => by
  refine bnd_e e fun v σ₁ e1 e => ?_
  refine bnd_e e fun t σ₂ e2 e3 => ?_
  rw [arm_eval_BoolOp, he]
  unfold boolOp
  refine wpAny_bind (h1 l L μ hok hl A hA σ s r v σ₁ e1 _ E fun μ₁ s₁ w hp1 r₁ rv => ?_)
  refine wpAny_bind (wpAny_standAt (wpAny_bind (wpAny_holding ?_)))
  refine truA_snd ok hD hU rv A hA σ₁ s₁ r₁ t σ₂ e2 _ E fun μ₂ s₂ c hp2 r₂ hc => ?_
  have hp := List.IsPrefix.trans hp1 hp2
  cases hc
  cases t with
  | true =>
    show wpAny _ _ (eval y (Γ.env L)) _ _ _
    exact h2 l L μ₂ (Γ.mono hp hok) (mu_ext hp hl) A hA σ₂ s₂ r₂ b σ' e3 Q E fun μ₃ s₃ z hp3 => q μ₃ s₃ z (List.IsPrefix.trans hp hp3)
  | false => cases e3; exact wpAny_pure (q μ₂ s₂ w hp r₂ (rv.ext hp2))
theorem SE_orA {x y : Expr} {pos : Pos} {f g : Nat → M V} (ok : CxOk C) (hD : D < 799) (hU : U < 4990) (h1 : SE C D U Γ x f) (h2 : SE C D U Γ y g) (he : autoParam (∀ env, evalEach [x, y] env = [eval x env, eval y env]) au1._auto_1) :
    SE C D U Γ (.BoolOp .Or [x, y] pos) (fun l => bnd (f l) fun v => bnd (truA v) fun t => match t with | false => g l | true => ret v) := fun l L μ hok hl A hA σ s r b σ' e Q E q => by
  refine bnd_e e fun v σ₁ e1 e => ?_
  refine bnd_e e fun t σ₂ e2 e3 => ?_
  rw [arm_eval_BoolOp, he]
  unfold boolOp
  refine wpAny_bind (h1 l L μ hok hl A hA σ s r v σ₁ e1 _ E fun μ₁ s₁ w hp1 r₁ rv => ?_)
  refine wpAny_bind (wpAny_standAt (wpAny_bind (wpAny_holding ?_)))
  refine truA_snd ok hD hU rv A hA σ₁ s₁ r₁ t σ₂ e2 _ E fun μ₂ s₂ c hp2 r₂ hc => ?_
  have hp := List.IsPrefix.trans hp1 hp2
  cases hc
  cases t with
  | false =>
    show wpAny _ _ (eval y (Γ.env L)) _ _ _
    exact h2 l L μ₂ (Γ.mono hp hok) (mu_ext hp hl) A hA σ₂ s₂ r₂ b σ' e3 Q E fun μ₃ s₃ z hp3 => q μ₃ s₃ z (List.IsPrefix.trans hp hp3)
  | true => cases e3; exact wpAny_pure (q μ₂ s₂ w hp r₂ (rv.ext hp2))
theorem SE_notA {x : Expr} {pos : Pos} {f : Nat → M V} (ok : CxOk C) (hD : D < 799) (hU : U < 4990) (h : SE C D U Γ x f) :
    SE C D U Γ (.UnaryOp .Not x pos) (fun l => bnd (f l) fun v => bnd (truA v) fun t => ret (.bool (!t))) := fun l L μ hok hl A hA σ s r b σ' e Q E q => by
  refine bnd_e e fun v σ₁ e1 e => ?_
  refine bnd_e e fun t σ₂ e2 e3 => ?_
  (first | (have q := qc e3 q) | (have q := qcB e3 q) | cases e3)
  refine wpAny_UnaryOp (h l L μ hok hl A hA σ s r v σ₁ e1 _ E fun μ₁ s₁ w hp1 r₁ rv => ?_)
  refine not_of (truA_snd ok hD hU rv A hA σ₁ s₁ r₁ t _ e2 _ E fun μ₂ s₂ c hp2 r₂ hc => ?_)
  cases hc
  exact q μ₂ s₂ _ (List.IsPrefix.trans hp1 hp2) r₂ (.bool _)
theorem ST_valA {e : Expr} {f : Nat → M V} (ok : CxOk C) (hD : D < 799) (hU : U < 4990) (h : SE C D U Γ e f) (he : autoParam (∀ env whole, isTrue e env whole = (do let v ← whole; standAt e.pos; holding [v] (truthy v))) au3._auto_1) :
    STt C D U Γ e (fun l => bnd (f l) truA) := fun l L μ hok hl A hA σ s r b σ' e' Q E q => by
  refine bnd_e e' fun v σ₁ e1 e2 => ?_
  refine wpAny_isTrue_value (h l L μ hok hl A hA σ s r v σ₁ e1 _ E fun μ' s' w hp r' rv => ?_) (he _ _)
  exact truA_snd ok hD hU rv A hA σ₁ s' r' b σ' e2 Q E fun μ'' s'' c hp' => q μ'' s'' c (List.IsPrefix.trans hp hp')
/-! isspace: told by a label ahead -/
noncomputable def spA (a : At) : Bool := match a with
  | .lab k => Nat.blt k 6
  | .ch _ => false
noncomputable def spL (x : List At) : Bool := match x with
  | [] => true
  | a :: _ => spA a
noncomputable def spV (v : V) : Bool := match v with
  | .str x => spL x
  | _ => false
noncomputable def spM (vs : List V) : M V := fun σ => match vs with
  | [] => none
  | v :: us => match us with
    | [] => match spV v with
      | true => some (.bool false, σ)
      | false => none
    | _ :: _ => none
theorem lab_notspace : ∀ k, k < 6 → Unicode.isSpace (97 + k) = false := by decide +kernel
theorem spL_ok (ok : CxOk C) {x : List At} (h : spL x = true) : Txt.isspace (C.str x) = false := by
  cases x with
  | nil => rfl
  | cons a x =>
    cases a with
    | ch c => cases h
    | lab k =>
      have hk : k < 6 := Nat.le_of_ble_eq_true h
      obtain ⟨rr, h1, _⟩ := ok.asc k hk
      unfold Txt.isspace
      rw [Bool.and_eq_false_iff]
      right
      have e1 : (C.str (.lab k :: x)).cps.toList = (97 + k) :: (rr ++ (C.str x).cps.toList) := by
        show ((C.l k) ++ C.str x).cps.toList = _
        rw [Str.cps_append, Array.toList_append, h1]; rfl
      refine rwH (Array.all_toList) ?_; refine rwG (e1) ?_; refine rwG (List.all_cons) ?_; refine rwG (lab_notspace k hk) ?_
      rfl
theorem SCl_isspace (ok : CxOk C) : SCl C D U (.builtin "str.isspace") spM := fun vs ws μ rv A hA σ s r b σ' e Q E q => by
  unfold spM at e
  induction rv with
  | nil => exact nn e
  | cons h t =>
    induction t with
    | cons _ _ => exact nn e
    | nil =>
      simp only at e
      split at e
      · rename_i hs
        (first | (have q := qc e q) | (have q := qcB e q) | cases e)
        induction h with
        | str x t =>
          refine SC.isspace ?_
          refine rwG (spL_ok ok hs) ?_
          exact q μ s _ (List.prefix_refl _) r (.bool false)
        | _ => cases hs
      · exact nn e
theorem Cx_str_ge (ok : CxOk C) : ∀ x : List At, x.length ≤ (C.str x).length
  | [] => Nat.zero_le _
  | a :: x => by
    have ih := Cx_str_ge ok x
    have h1 : (C.str (a :: x)).length = (C.atS a).length + (C.str x).length := Str.length_append _ _
    have h2 : 1 ≤ (C.atS a).length := by
      induction a with
      | ch c => exact Nat.le_refl 1
      | lab k => exact (ok.lab k).1
    refine rwG (h1) ?_; refine rwG (List.length_cons) ?_
    omega
noncomputable def gtM (a b : V) : M Bool := fun σ => match a, b with
  | .ln x, .int j => match decide (j < x.length) with
    | true => some (true, σ)
    | false => match decide (20 * (x.length : Int) ≤ j) with
      | true => some (false, σ)
      | false => none
  | _, _ => gtB a b σ
theorem SCmp_gtM (ok : CxOk C) : SCmp C D U .Gt gtM := fun a b wa wb μ ra rb A hA σ s r v σ' e Q E q => by
  unfold gtM at e
  split at e
  · rename_i x j
    refine RV.eLn ra fun t => ?_
    refine RV.eInt rb fun u => ?_
    have h1 := Cx_str_len ok x
    have h2 := Cx_str_ge ok x
    refine PyProof.Rows.gt_int ?_
    split at e
    · rename_i hb
      have hb := of_decide_eq_true hb
      (first | (have q := qc e q) | (have q := qcB e q) | cases e)
      exact q μ s _ (List.prefix_refl _) r (congrArg Value.bool (decide_eq_true (by omega)))
    · split at e
      · rename_i hb
        have hb := of_decide_eq_true hb
        (first | (have q := qc e q) | (have q := qcB e q) | cases e)
        exact q μ s _ (List.prefix_refl _) r (congrArg Value.bool (decide_eq_false (by omega)))
      · (first | exact nn e | cases e)
  · exact SCmp_gt a b wa wb μ ra rb A hA σ s r v σ' e Q E q
end
end
end Mine
set_option genSizeOf false
set_option genInjectivity false
namespace Mine
noncomputable section
open PySem PySem.W PyProof.Rows PySem.Calls
set_option maxRecDepth 100000
set_option maxHeartbeats 0
theorem ok184 : GOk 184 := ⟨by kernel_rfl, by kernel_rfl, by kernel_rfl, by kernel_rfl, by decide⟩
theorem do184 : DefOk 184 1 1 [] := ⟨by intro _; kernel_rfl, by intro _; kernel_rfl, by kernel_rfl, by decide, by decide, by kernel_rfl, by kernel_rfl, by kernel_rfl, by kernel_rfl, by kernel_rfl, by
  intro p S ws h; exact ln1 ws h fun a => by kernel_rfl⟩
noncomputable def d184 : {g : Nat → M VF // ∀ C, CxOk C → ∀ D U, D < 780 → U < 4900 → SXs C D U (GG 184 ok184) (bodyOf 184) g} := ⟨_, fun C ok D U hD hU => by
  refine' SXs_cons ?_ ?_
  refine' SX_ret ?_
  refine' SE_andA (by assumption) (lt_a hD rfl) (lt_a hU rfl) ?_ ?_; rotate_left 2
  refine' SE_cmp (SCmp_eq2 (by assumption) (lt_30 hU rfl)) ?_ ?_; rotate_left 2
  refine' SE_init (by assumption) ?_; rotate_left 1
  exact SE_loc 0 (by kernel_rfl) (by decide)
  exact SE_int
  refine' SE_orA (by assumption) (lt_a hD rfl) (lt_a hU rfl) ?_ ?_; rotate_left 2
  refine' SE_notA (by assumption) (lt_a hD rfl) (lt_a hU rfl) ?_; rotate_left 1
  exact SE_loc 0 (by kernel_rfl) (by decide)
  with_reducible refine' SE_strM "str.isspace" F.slot_str_isspace F.type_str_isspace (by assumption) ?_ ?_ (SCl_isspace (by assumption)) (hbase := by intro _; with_unfolding_all rfl) (hfew := by intro _; with_unfolding_all rfl) (hline := by with_unfolding_all rfl) (hpl := by intro _; with_unfolding_all rfl); rotate_left 2
  refine' SE_call (f := .type "str") (by assumption) (by intro _; kernel_rfl) (keep_type _) ?_ (SCl_strA (by assumption) (lt_a hD rfl) (lt_a hU rfl)); rotate_left 1
  refine' SEs_cons ?_ ?_
  exact SE_loc 0 (by kernel_rfl) (by decide)
  exact SEs_nil
  exact SEs_nil
  exact SXs_nil⟩
theorem c184 {C : Cx} {D U : Nat} (ok : CxOk C) (hD : D < 779) (hU : U < 4897) : SFn C D U 184 (defD 184 1 1 [] d184.1) := SFn_def2 ok (fun _ => .nil) do184 (lt_a hD rfl) (d184.2 C ok _ _ (lt_1 hD rfl) (lt_3 hU rfl))
end
end Mine
set_option genSizeOf false
set_option genInjectivity false
namespace Mine
noncomputable section
open PySem PySem.W PyProof.Rows PySem.Calls
set_option maxRecDepth 100000
/-! a def of an accumulator, bound, and called with a tuple's items -/
structure BindOk (name : Str) (f : Addr) : Prop where
  m : ∀ p, findIn (KF p) (.ref 195) name = some (some (.ref f))
  g : ∀ p, specialIn (KF p) (.ref f) "__get__" = some (some (.builtin "function.__get__"))
  t : ∀ p, takesIn (KF p) (.ref f) = some false
  c : copiedNames.contains name = false
  fn : ∀ p, (KF p).lookup f = some ⟨.type "function", none, .func (fdOf f), #[]⟩
theorem find_bind {name : Str} {f : Addr} (b : BindOk name f) {p : Params} {od : Obj} (h : lookIn name od = some none) : findObj (KF p) 195 (some od) name = some (.bind (.builtin "function.__get__") (.ref f)) := by
  obtain ⟨cd, hc, hd⟩ := any_some (fa_hasdict p)
  unfold findObj
  rw [hc, Option.bind_some, b.m p, Option.bind_some]
  dsimp only
  rw [b.g p, Option.bind_some]
  dsimp only
  rw [b.t p, Option.bind_some]
  dsimp only
  unfold PySem.W.ownOf
  refine rwG (hd) ?_; refine rwG (if_pos rfl) ?_
  show (lookIn name od).bind _ = _
  rw [h, Option.bind_some]
  dsimp only
  refine rwG (b.c) ?_
  rfl
section
variable {C : Cx} {D U : Nat} {Γ : FE}
theorem acc_bind {w : World} {A : Around} {E : Value → Shared → Prop} {s : Shared} {a f : Addr} {ox : Obj} {od : Obj} {name : Str} {expr : Bool} {Q : Value → Shared → Prop} (b : BindOk name f) (X : (KF w.params).In s.heap) (I : W.InstAt s.heap a ox 195 (some od)) (hl : lookIn name od = some none)
    (h : Q (.ref s.heap.objs.size) { s with heap := s.heap.push { cls := .type "method", data := .fields #[.ref f, .ref a] }, toks := s.toks + 1 }) : wpAny (model P w) A (getAttr (.ref a) name expr) Q E s := by
  obtain ⟨hp, g, d, t, os⟩ := s
  have L0 := InstAt.type (M := model P w) I
  have L1 : Looks (model P w) hp (typeLookup (.ref 195) "__getattribute__") (some (.builtin "list.__getattribute__")) := looks_findIn X (fa_ga w.params)
  have L2 : Looks (model P w) hp (typeLookup (.ref 195) "__getattr__") none := looks_findIn X (fa_gk w.params)
  have L3 := looks_find (M := model P w) X I (find_bind b hl)
  have hb := F.slot_list_getattribute.bind (.ref a)
  unfold getAttr getAttrBy
  refine wpAny_bind (wpAny_mkText (wpAny_holding (wpAny_bind (L0.at (wpAny_bind (L1.at ?_))))))
  show wpAny _ _ (getAttrByItsOwn (.ref a) (.str name t) (.ref 195) (.builtin "list.__getattribute__") true expr) _ _ _
  unfold getAttrByItsOwn hookBefore callGetattribute boundAndCalled
  refine wpAny_bind (L2.at (wpAny_bind (wpAny_attempt (wpAny_holding ?_))))
  have hex : ¬ ((expr && onTheHeap (.builtin "list.__getattribute__")) = true) := by cases expr <;> decide
  refine wite_n hex ?_; refine rwG (hb) ?_
  refine wpAny_bind (wpAny_pure (acc_call (s := ⟨hp, g, d, t + 1, os⟩) X I (n := "__getattribute__") (by decide +kernel) (by decide +kernel) (by decide +kernel) F.entry_list_ga (F.args_list_getattribute_2 _ _) ?_))
  show wpAny _ _ (typeOf (.ref a) >>= _) _ _ _
  refine wpAny_bind (L0.at (wpAny_bind (L3.at ?_)))
  show wpAny _ _ (holding [Value.ref f] (call (.builtin "function.__get__") [.ref f, .ref a, .ref 195]) >>= fun r => _root_.PySem.ret r) _ _ _
  have hTf : (⟨hp, g, d, t + 1, os⟩ : Shared).TypeIs (.ref f) "function" := ⟨_, X _ _ (b.fn w.params), rfl⟩
  refine wpAny_bind (wpAny_holding (wpAny_call_entry F.ks_slot_function_get hTf F.ks_entry_function_get ?_ (F.ks_getArgs_function _ _ _)))
  unfold Builtin.«function.__get__»
  repeat (first | wp_step | dsimp only)
  all_goals
    refine ⟨_, rfl, wpAny_pure ⟨_, rfl, ?_⟩⟩
    refine rwG (handedOut_of rfl) ?_
    exact wpAny_pure h
/-- a def's contract, as code -/
noncomputable def SFnC (C : Cx) (D U : Nat) (f : Addr) (fn : List V → M V) : Prop := ∀ vs ws μ, RVs C μ vs ws → ∀ (A : Around), AOk D U A → ∀ (σ : St) (s : Shared), Rel C μ σ s → ∀ b σ', fn vs σ = some (b, σ') →
    ∀ (Q : Value → Shared → Prop) (E : Value → Shared → Prop), (∀ μ' s' a, μ <+: μ' → Rel C μ' σ' s' → RV C μ' b a → Q a s') → codeAny (model P C.w) A (.call (.ref f) ⟨ws, []⟩) (wants Q E) s
theorem SFnC_def {f : Addr} {h : GOk f} {g : Nat → M VF} {np nl : Nat} {dv : List V} {dw : List Value} (ok : CxOk C) (hd : ∀ μ, RVs C μ dv dw) (ok2 : DefOk f np nl dw)
    (hD : D < 900) (hb : SXs C (D + 1) (U + 3) (GG f h) (bodyOf f) g) : SFnC C D U f (defD f np nl dv g) := fun vs ws μ rv A hA σ s r b σ' e Q E q => by
  unfold defD at e
  have hnl := Nat.eq_of_beq_eq_true ok2.hnl
  have hnp := Nat.le_of_ble_eq_true ok2.hnp
  have hdl : dw.length = dv.length := (hd μ).len
  cases hlen : Nat.beq vs.length np with
  | true =>
    rw [hlen] at e
    replace hlen := Nat.eq_of_beq_eq_true hlen
    refine bnd_e e fun r0 σ₁ e1 e2 => ?_
    obtain ⟨hz, e3, e4⟩ := alloc_some e1
    simp only at e3 e4
    subst e3 e4
    refine bnd_e e2 fun fl σ₂ e5 e6 => ?_
    (first | (have q := qc e6 q) | (have q := qcB e6 q) | cases e6)
    have X := r.K ok
    have rva : RVs C μ (vs ++ dv) (ws ++ dw) := rv.append (hd μ)
    refine codeAny_call_def (binds := ((tabN f).take (np + dw.length)).zip (ws ++ dw)) (Nat.lt_of_le_of_lt hA.dp (Nat.lt_trans hD (by decide))) (X _ _ (ok2.K _)) rfl (ok.lim.keeps r.old) (codeRec_of X (ok2.cd _)) ok2.body
      (fun M A E Q hq => (Looks.of_peek X (ok2.bind _ ⟨M.prog, M.w.params⟩ ws (by rw [rv.len, hlen]))).here hq) (fun x hx => by
        have := List.all_eq_true.mp ok2.cell x hx
        simpa using this) (fun x hx => eq_of_beq (List.all_eq_true.mp ok2.loc _ (List.of_mem_zip hx).1)) (fun h₁ hns hk₁ => ?_) ok2.co ok2.gen ok2.kind
    obtain ⟨o, ho, hr⟩ := ns_to (C := C) (μ := μ ++ [s.heap.objs.size]) (tag := f) (vs := (vs ++ dv).map some ++ List.replicate (nl - (np + dv.length)) none) hns (by simp; omega) (by
      have := MR_binds (C := C) h.e (rva.ext (List.prefix_append μ [s.heap.objs.size])) (by rw [List.length_append]; omega)
      rw [List.length_append, hlen, hnl, ← hdl] at this
      refine rwH (hdl) ?_
      exact this)
    have r₁ := r.add (t := s.toks + (((tabN f).take (np + dw.length)).zip (ws ++ dw)).length) (d := s.drawn) hk₁ (get_size_none _) ho hz hr
    have hat : (μ ++ [s.heap.objs.size])[σ.n]? = some s.heap.objs.size := by rw [← r.len]; simp
    have hb' := hb σ.n s.heap.objs.size _ trivial hat
    refine hb' _ (hA.deeper _) _ _ r₁ fl _ e5 _ _ fun μ' s' a hp r' hf => ?_
    have hp' := List.IsPrefix.trans (List.prefix_append μ [s.heap.objs.size]) hp
    induction hf with
    | ret h => exact q μ' s' _ hp' r' h
    | next => exact q μ' s' _ hp' r' .none
    | brk => exact q μ' s' _ hp' r' .none
    | cont => exact q μ' s' _ hp' r' .none
  | false => rw [hlen] at e; cases e
theorem SE_methStar2 {o : Expr} {name x1 : Str} {apos pos sp np : Pos} {fo : Nat → M V} {fn : List V → M V} (f i : Nat) (b : BindOk name f) (ok : CxOk C) (h : SE C D U Γ o fo) (hi1 : (tabN Γ.tag)[i]? = some x1) (hdb : (x1 == ("__debug__" : Str)) = false) (hf : SFnC C D U f fn)
    (he : autoParam (∀ env, eval (.Call (.Attribute o name apos) [.Starred (.Name x1 np) sp] [] pos) env = (do
      let ov ← eval o env
      standAt apos.atName
      let (f, first) ← holding [ov] (do pure (← getAttr ov name true, []))
      callWith pos f first (backTo pos (starEach [.Starred (.Name x1 np) sp] env)) [])) au1._auto_1)
    (hnm : autoParam (∀ k : Fin 8, codeName k ≠ name) au4._auto_1) :
    SE C D U Γ (.Call (.Attribute o name apos) [.Starred (.Name x1 np) sp] [] pos) (fun l => bnd (fo l) fun v => bnd (accChk v) fun _ => bnd (locGet Γ.tag i l) fun x => bnd (tupItems x) fun vs => fn (v :: vs)) := fun l L μ hok hl A hA σ s r b' σ' e Q E q => by
  refine bnd_e e fun v σ₁ g1 e => ?_
  refine bnd_e e fun _ σ₂ g2 e => ?_
  refine bnd_e e fun x σ₃ g3 e => ?_
  refine bnd_e e fun vs σ₄ g4 g5 => ?_
  unfold accChk at g2
  split at g2
  · rename_i p hi
    obtain ⟨n, d, xs, nms⟩ := p
    cases g2
    obtain ⟨rfl, k1, k2, k3, k4⟩ := accAt_some hi
    rw [he]
    refine wpAny_bind (h l L μ hok hl A hA σ s r _ _ g1 _ E fun μ' s' w hp r' rv => ?_)
    refine RV.eRef rv fun a hn => ?_
    ·
      obtain ⟨ws, kk, da, es, m, ho, hd, rvs, hsz, I, dr⟩ := acc_inst r' hn k1 k2
      refine wpAny_bind (wpAny_standAt (wpAny_bind (wpAny_holding (wpAny_bind ?_))))
      refine acc_bind b (r'.K ok) I (dr.lookMiss (keysOk_all k3) hnm m) (wpAny_pure ?_)
      have kp : ∀ b o, s'.heap.get? b = some o → (s'.heap.push { cls := .type "method", data := .fields #[.ref f, .ref a] }).get? b = some o := fun b o e => Heap.get?_push_of_some _ e
      have r1 : Rel C μ' _ { s' with heap := s'.heap.push { cls := .type "method", data := .fields #[.ref f, .ref a] }, toks := s'.toks + 1 } := r'.grow kp
      have hb : (s'.heap.push { cls := .type "method", data := .fields #[.ref f, .ref a] }).get? s'.heap.objs.size = some { cls := .type "method", dict := none, data := .fields #[.ref f, .ref a], slots := #[] } := Heap.get?_push_size _ rfl
      have hfn : ∀ h, (KF C.w.params).In h → h.get? f = some ⟨.type "function", none, .func (fdOf f), #[]⟩ := fun h X => X _ _ (b.fn _)
      show wpAny _ _ (callWith pos (.ref s'.heap.objs.size) [] (backTo pos (starEach [.Starred (.Name x1 np) sp] (Γ.env L))) []) _ _ _
      refine rwG (show starEach [.Starred (.Name x1 np) sp] (Γ.env L) = [(true, eval (.Name x1 np) (Γ.env L))] from rfl) ?_
      refine ks_call (P := fun h => (KF C.w.params).In h ∧ h.get? s'.heap.objs.size = some { cls := .type "method", dict := none, data := .fields #[.ref f, .ref a], slots := #[] }) rfl (fun h hP => ⟨.boundFrame, .inr (.inr rfl), fun A Q E s kq q => ?_⟩) (ks_lone ?_)
      · unfold keeperOf
        refine wpAny_bind (wpAny_load (kq _ _ hP.2) ?_)
        show wpAny _ _ (if (Value.type "method" != .type "method") = true then _ else _) _ _ _
        refine wite_n (by decide +kernel) ?_
        show wpAny _ _ (load f >>= _) _ _ _
        exact wpAny_bind (wpAny_load (kq _ _ (hfn _ hP.1)) (wpAny_pure q))
      obtain ⟨vs0, q1, q2, q3⟩ := locGet_some g3
      simp only at q2 q3
      subst q3
      obtain ⟨ol, hol, hrl⟩ := r1.at q1 (mu_ext hp hl)
      obtain ⟨m0, hns, _, hm0⟩ := ns_of hol hrl
      obtain ⟨wx, hwx, rx⟩ := hm0.get hi1 q2
      refine wpAny_Name (wpAny_loadName_local (Γ.fn L) (Γ.knd L x1 (List.mem_of_getElem? hi1)) (m := m0) (v := wx) (by rw [Γ.loc L]; exact hns) hwx ?_) hdb
      unfold tupItems at g4
      induction rx with
      | ref tn ta htn =>
        simp only at g4
        split at g4
        · rename_i ys gy
          split at g4
          · rename_i hbl
            have hbl := Nat.le_of_ble_eq_true hbl
            cases g4
            refine Rel.at_e r1 gy htn (fun ot hot hzz => ?_); obtain ⟨us, nn, eo, rus⟩ := hzz
            subst eo
            have hsz2 : us.size = vs.length := by rw [← rus.len]; simp
            have hT : Shared.TypeIs { s' with heap := s'.heap.push { cls := .type "method", data := .fields #[.ref f, .ref a] }, toks := s'.toks + 1 } (.ref ta) "tuple" := ⟨_, hot, rfl⟩
            unfold StarOf notIterableAtAll
            refine wpAny_bind (wpAny_specialOf hT PySem.F.slot_tuple_iter.lookup (wpAny_pure ⟨rfl, ?_⟩))
            refine wpAny_collect_seq ta (.inr rfl) hot rfl rfl (fun h' hk => ?_) (by rw [hsz2, sizeLine_eq]; omega)
            have r3 := r1.grow (t := s'.toks + 1) (d := s'.drawn) hk
            refine ⟨⟨r3.K ok, hk _ _ hb⟩, wpAny_call (ks_codeAny_call_bound (hk _ _ hb) ?_)⟩
            exact hf (.ref n :: vs) (.ref a :: us.toList) μ' (.cons (.ref n a hn) rus) A hA _ _ r3 b' σ' g5 Q E fun μ₃ s₃ x hp3 => q μ₃ s₃ x (List.IsPrefix.trans hp hp3)
          · (first | exact nn g4 | cases g4)
        · (first | exact nn g4 | cases g4)
      | _ => (first | exact nn g4 | cases g4)
  · (first | exact nn g2 | cases g2)
end
end
end Mine
set_option genSizeOf false
set_option genInjectivity false
namespace Mine
noncomputable section
open PySem PySem.W PyProof.Rows PySem.Calls
set_option maxRecDepth 100000
set_option maxHeartbeats 0
theorem bind139 : BindOk "push" 139 := ⟨by intro _; kernel_rfl, by intro _; kernel_rfl, by intro _; kernel_rfl, by decide +kernel, by intro _; kernel_rfl⟩
theorem cc139 {C : Cx} {D U : Nat} (ok : CxOk C) (hD : D < 799) (hU : U < 4997) : SFnC C D U 139 (defD 139 3 3 [] d139.1) := SFnC_def ok (fun _ => .nil) do139 (lt_a hD rfl) (d139.2 C ok _ _ (lt_1 hD rfl) (lt_3 hU rfl))
theorem ok80 : GOk 80 := ⟨by kernel_rfl, by kernel_rfl, by kernel_rfl, by kernel_rfl, by decide⟩
theorem do80 : DefOk 80 1 1 [] := ⟨by intro _; kernel_rfl, by intro _; kernel_rfl, by kernel_rfl, by decide, by decide, by kernel_rfl, by kernel_rfl, by kernel_rfl, by kernel_rfl, by kernel_rfl, by
  intro p S ws h; exact ln1 ws h fun a => by kernel_rfl⟩
noncomputable def d80 : {g : Nat → M VF // ∀ C, CxOk C → ∀ D U, D < 770 → U < 4860 → SXs C D U (GG 80 ok80) (bodyOf 80) g} := ⟨_, fun C ok D U hD hU => by
  refine' SXs_cons ?_ ?_
  refine' SX_expr ?_ (by intro _; kernel_rfl)
  refine' SE_methA (.ref 139) "function" (by assumption) ?_ ?_ (c139 (by assumption) (lt_a hD rfl) (lt_a hU rfl)) (hkp := keep_ref (by kernel_rfl)); rotate_left 2
  refine' SE_attr 111 6 (by assumption) ?_; rotate_left 1
  exact SE_loc 0 (by kernel_rfl) (by decide)
  refine' SEs_cons ?_ ?_
  exact SE_str (by rfl)
  refine' SEs_cons ?_ ?_
  exact SE_str (by rfl)
  exact SEs_nil
  exact SXs_nil⟩
theorem c80 {C : Cx} {D U : Nat} (ok : CxOk C) (hD : D < 769) (hU : U < 4857) : SFn C D U 80 (defD 80 1 1 [] d80.1) := SFn_def2 ok (fun _ => .nil) do80 (lt_a hD rfl) (d80.2 C ok _ _ (lt_1 hD rfl) (lt_3 hU rfl))
theorem ok73 : GOk 73 := ⟨by kernel_rfl, by kernel_rfl, by kernel_rfl, by kernel_rfl, by decide⟩
theorem do73 : DefOk 73 1 2 [] := ⟨by intro _; kernel_rfl, by intro _; kernel_rfl, by kernel_rfl, by decide, by decide, by kernel_rfl, by kernel_rfl, by kernel_rfl, by kernel_rfl, by kernel_rfl, by
  intro p S ws h; exact ln1 ws h fun a => by kernel_rfl⟩
noncomputable def d73 : {g : Nat → M VF // ∀ C, CxOk C → ∀ D U, D < 770 → U < 4860 → SXs C D U (GG 73 ok73) (bodyOf 73) g} := ⟨_, fun C ok D U hD hU => by
  refine' SXs_cons ?_ ?_
  refine' SX_assign 1 ?_ (by kernel_rfl)
  refine' SE_methA (.ref 155) "function" (by assumption) ?_ ?_ (c155 (by assumption) (lt_a hD rfl) (lt_a hU rfl)) (hkp := keep_ref (by kernel_rfl)); rotate_left 2
  refine' SE_attr 111 6 (by assumption) ?_; rotate_left 1
  exact SE_loc 0 (by kernel_rfl) (by decide)
  exact SEs_nil
  refine' SXs_cons ?_ ?_
  refine' SX_if ?_ ?_ ?_
  refine' ST_cmp (SCmp_ne2 (by assumption) (lt_30 hU rfl)) ?_ ?_; rotate_left 2
  exact SE_loc 1 (by kernel_rfl) (by decide)
  refine' SE_tup ?_
  refine' SEs_cons ?_ ?_
  exact SE_str (by rfl)
  refine' SEs_cons ?_ ?_
  exact SE_str (by rfl)
  exact SEs_nil
  refine' SXs_cons ?_ ?_
  refine' SX_expr ?_ (by intro _; kernel_rfl)
  refine' SE_methStar2 139 1 bind139 (by assumption) ?_ (by kernel_rfl) (by decide) (cc139 (by assumption) (lt_a hD rfl) (lt_a hU rfl)); rotate_left 1
  refine' SE_attr 111 6 (by assumption) ?_; rotate_left 1
  exact SE_loc 0 (by kernel_rfl) (by decide)
  exact SXs_nil
  exact SXs_nil
  refine' SXs_cons ?_ ?_
  refine' SX_if ?_ ?_ ?_
  refine' ST_cmp (SCmp_gtM (by assumption)) ?_ ?_; rotate_left 2
  refine' SE_call (f := .builtin "len") (by assumption) (by intro _; kernel_rfl) (keep_bi _) ?_ (SCl_lenA (by assumption) (lt_a hD rfl) (lt_a hU rfl)); rotate_left 1
  refine' SEs_cons ?_ ?_
  refine' SE_attr 111 6 (by assumption) ?_; rotate_left 1
  exact SE_loc 0 (by kernel_rfl) (by decide)
  exact SEs_nil
  exact SE_int
  refine' SXs_cons ?_ ?_
  refine' SX_if ?_ ?_ ?_
  refine' ST_and2 ?_ ?_
  refine' ST_valA (by assumption) (lt_a hD rfl) (lt_a hU rfl) ?_; rotate_left 1
  refine' SE_methA (.ref 184) "function" (by assumption) ?_ ?_ (c184 (by assumption) (lt_a hD rfl) (lt_a hU rfl)) (hkp := keep_ref (by kernel_rfl)); rotate_left 2
  refine' SE_attr 111 6 (by assumption) ?_; rotate_left 1
  exact SE_loc 0 (by kernel_rfl) (by decide)
  exact SEs_nil
  refine' ST_valA (by assumption) (lt_a hD rfl) (lt_a hU rfl) ?_; rotate_left 1
  refine' SE_attr 111 5 (by assumption) ?_; rotate_left 1
  exact SE_loc 0 (by kernel_rfl) (by decide)
  refine' SXs_cons ?_ ?_
  exact SX_no
  exact SXs_nil
  refine' SXs_cons ?_ ?_
  refine' SX_expr ?_ (by intro _; kernel_rfl)
  refine' SE_append ?_ ?_
  refine' SE_attr 111 5 (by assumption) ?_; rotate_left 1
  exact SE_loc 0 (by kernel_rfl) (by decide)
  refine' SE_call (f := .type "str") (by assumption) (by intro _; kernel_rfl) (keep_type _) ?_ (SCl_strA (by assumption) (lt_a hD rfl) (lt_a hU rfl)); rotate_left 1
  refine' SEs_cons ?_ ?_
  refine' SE_attr 111 6 (by assumption) ?_; rotate_left 1
  exact SE_loc 0 (by kernel_rfl) (by decide)
  exact SEs_nil
  exact SXs_nil
  exact SXs_nil
  exact SXs_nil
  refine' SXs_cons ?_ ?_
  refine' SX_expr ?_ (by intro _; kernel_rfl)
  refine' SE_methA (.ref 177) "function" (by assumption) ?_ ?_ (c177 (by assumption) (lt_a hD rfl) (lt_a hU rfl)) (hkp := keep_ref (by kernel_rfl)); rotate_left 2
  refine' SE_attr 111 6 (by assumption) ?_; rotate_left 1
  exact SE_loc 0 (by kernel_rfl) (by decide)
  exact SEs_nil
  exact SXs_nil⟩
theorem c73 {C : Cx} {D U : Nat} (ok : CxOk C) (hD : D < 769) (hU : U < 4857) : SFn C D U 73 (defD 73 1 2 [] d73.1) := SFn_def2 ok (fun _ => .nil) do73 (lt_a hD rfl) (d73.2 C ok _ _ (lt_1 hD rfl) (lt_3 hU rfl))
theorem ok108 : GOk 108 := ⟨by kernel_rfl, by kernel_rfl, by kernel_rfl, by kernel_rfl, by decide⟩
theorem do108 : DefOk 108 3 8 [] := ⟨by intro _; kernel_rfl, by intro _; kernel_rfl, by kernel_rfl, by decide, by decide, by kernel_rfl, by kernel_rfl, by kernel_rfl, by kernel_rfl, by kernel_rfl, by
  intro p S ws h; exact ln3 ws h fun a b c => by kernel_rfl⟩
noncomputable def d108 : {g : Nat → M VF // ∀ C, CxOk C → ∀ D U, D < 750 → U < 4800 → SXs C D U (GG 108 ok108) (bodyOf 108) g} := ⟨_, fun C ok D U hD hU => by
  refine' SXs_cons ?_ ?_
  refine' SX_expr ?_ (by intro _; kernel_rfl)
  refine' SE_methA (.ref 139) "function" (by assumption) ?_ ?_ (c139 (by assumption) (lt_a hD rfl) (lt_a hU rfl)) (hkp := keep_ref (by kernel_rfl)); rotate_left 2
  refine' SE_attr 111 6 (by assumption) ?_; rotate_left 1
  exact SE_loc 0 (by kernel_rfl) (by decide)
  refine' SEs_cons ?_ ?_
  exact SE_loc 1 (by kernel_rfl) (by decide)
  refine' SEs_cons ?_ ?_
  exact SE_loc 2 (by kernel_rfl) (by decide)
  exact SEs_nil
  refine' SXs_cons ?_ ?_
  refine' SX_if ?_ ?_ ?_
  refine' ST_cmp (SCmp_gtM (by assumption)) ?_ ?_; rotate_left 2
  refine' SE_call (f := .builtin "len") (by assumption) (by intro _; kernel_rfl) (keep_bi _) ?_ (SCl_lenA (by assumption) (lt_a hD rfl) (lt_a hU rfl)); rotate_left 1
  refine' SEs_cons ?_ ?_
  refine' SE_attr 111 6 (by assumption) ?_; rotate_left 1
  exact SE_loc 0 (by kernel_rfl) (by decide)
  exact SEs_nil
  refine' SE_attr 111 1 (by assumption) ?_; rotate_left 1
  exact SE_loc 0 (by kernel_rfl) (by decide)
  refine' SXs_cons ?_ ?_
  exact SX_no
  refine' SXs_cons ?_ ?_
  refine' SX_assign 7 ?_ (by kernel_rfl)
  refine' SE_methA (.ref 147) "function" (by assumption) ?_ ?_ (c147 (by assumption) (lt_a hD rfl) (lt_a hU rfl)) (hkp := keep_ref (by kernel_rfl)); rotate_left 2
  refine' SE_attr 111 6 (by assumption) ?_; rotate_left 1
  exact SE_loc 0 (by kernel_rfl) (by decide)
  refine' SEs_cons ?_ ?_
  exact SE_loc 4 (by kernel_rfl) (by decide)
  exact SEs_nil
  refine' SXs_cons ?_ ?_
  refine' SX_expr ?_ (by intro _; kernel_rfl)
  refine' SE_append ?_ ?_
  refine' SE_attr 111 5 (by assumption) ?_; rotate_left 1
  exact SE_loc 0 (by kernel_rfl) (by decide)
  refine' SE_call (f := .type "str") (by assumption) (by intro _; kernel_rfl) (keep_type _) ?_ (SCl_strA (by assumption) (lt_a hD rfl) (lt_a hU rfl)); rotate_left 1
  refine' SEs_cons ?_ ?_
  refine' SE_attr 111 6 (by assumption) ?_; rotate_left 1
  exact SE_loc 0 (by kernel_rfl) (by decide)
  exact SEs_nil
  refine' SXs_cons ?_ ?_
  refine' SX_expr ?_ (by intro _; kernel_rfl)
  refine' SE_methA (.ref 177) "function" (by assumption) ?_ ?_ (c177b (by assumption) (lt_a hD rfl) (lt_a hU rfl)) (hkp := keep_ref (by kernel_rfl)); rotate_left 2
  refine' SE_attr 111 6 (by assumption) ?_; rotate_left 1
  exact SE_loc 0 (by kernel_rfl) (by decide)
  refine' SEs_cons ?_ ?_
  exact SE_loc 7 (by kernel_rfl) (by decide)
  exact SEs_nil
  exact SXs_nil
  exact SXs_nil
  exact SXs_nil⟩
theorem c108 {C : Cx} {D U : Nat} (ok : CxOk C) (hD : D < 749) (hU : U < 4797) : SFn C D U 108 (defD 108 3 8 [] d108.1) := SFn_def2 ok (fun _ => .nil) do108 (lt_a hD rfl) (d108.2 C ok _ _ (lt_1 hD rfl) (lt_3 hU rfl))
end
end Mine
set_option genSizeOf false
set_option genInjectivity false
namespace Mine
noncomputable section
open PySem PySem.W PySem.W.X PyProof.Rows PySem.Calls
abbrev A1 (fr : List Env) : Around := { handled := none, depth := 500, frames := some fr, guards := some [], units := 5000 }
theorem kfill (w : World) : PySem.Challenge.rw_xn0029_01.prog = PySem.Challenge.rw_xn0029_01.prog ∧ Mine.KF w.params = Mine.KF w.params := ⟨rfl, rfl⟩
theorem wpAny_le {α : Type} {M : Model} {A A' : Around} {t : Sem α} {Q : α → Shared → Prop} {E : Value → Shared → Prop} {s : Shared} (h : wpAny M A' t Q E s) (h1 : A.handled = A'.handled) (h2 : A.depth ≤ A'.depth) (h3 : A.frames = A'.frames) (h4 : A.guards = A'.guards) (h5 : A.units ≤ A'.units) : wpAny M A t Q E s :=
  fun Γ p hΓ => h Γ p ⟨hΓ.1.trans h1, Nat.le_trans hΓ.2.1 h2, fun l e => hΓ.2.2.1 l (h3.trans e), fun g e => hΓ.2.2.2.1 g (h4.trans e), Nat.le_trans hΓ.2.2.2.2 h5⟩
theorem nw_chk0 (p) : peek (KF p) ⟨P, p⟩ (checkBuiltinCall "list.__new__" ⟨[.ref 195], []⟩) = some () := by kernel_rfl
theorem nw_chk1 (p) (a : Value) : peek (KF p) ⟨P, p⟩ (checkBuiltinCall "list.__new__" ⟨[.ref 195, a], []⟩) = some () := by kernel_rfl
theorem nw_ty (p) : peek (KF p) ⟨P, p⟩ (isType (.ref 195)) = some true := by kernel_rfl
theorem nw_sub (p) : peek (KF p) ⟨P, p⟩ (isSubtype (.ref 195) (.type "list")) = some true := by kernel_rfl
theorem nw_del (p) : peek (KF p) ⟨P, p⟩ (classHasDel 195) = some false := by kernel_rfl
theorem new195 {w : World} {A : Around} {Q : Value → Shared → Prop} {E : Value → Shared → Prop} {s : Shared} {da : Addr} (X : (KF w.params).In s.heap) (q : Q (.ref s.heap.objs.size) { s with heap := s.heap.push { cls := .ref 195, dict := some da, data := .seq #[] } }) :
    wpAny (model P w) A (newObj (.ref 195) (.seq #[]) (some da)) Q E s := by
  unfold newObj
  refine wite_n (by simp) ?_
  unfold newObjAsIs
  refine wpAny_bind (wpAny_alloc ?_)
  refine wpAny_bind ((Looks.of_peek (M := model P w) (X.keeps fun _ _ e => Heap.get?_push_of_some _ e) (nw_del w.params)).at ?_)
  refine wite_n (by decide) ?_
  exact wpAny_pure q
theorem newAcc {w : World} {A : Around} {Q : Value → Shared → Prop} {E : Value → Shared → Prop} {h : Heap} {g : Array GenState} {d : Drawn} {t : Nat} {os : OsState} {rest : List Value}
    (X : (KF w.params).In h) (hc : peek (KF w.params) ⟨P, w.params⟩ (checkBuiltinCall "list.__new__" ⟨.ref 195 :: rest, []⟩) = some ())
    (q : ∀ h' a da tk', (∀ b o, h.get? b = some o → h'.get? b = some o) → h.get? a = none → h.get? da = none → a ≠ da → h'.get? a = some ⟨.ref 195, some da, .seq #[] 0, #[]⟩ → h'.get? da = some (dictOf [] 0) → Q (.ref a) ⟨h', g, d, tk', os⟩) :
    wpAny (model P w) A (call (.builtin "list.__new__") (.ref 195 :: rest)) Q E ⟨h, g, d, t, os⟩ := by
  have hty : Looks (model P w) h (isType (.ref 195)) true := Looks.of_peek X (nw_ty w.params)
  have hsub : Looks (model P w) h (isSubtype (.ref 195) (.type "list")) true := Looks.of_peek X (nw_sub w.params)
  refine wpAny_call (codeAny_of_tree ?_)
  show wpAny _ A.in1 (do checkBuiltinCall "list.__new__" ⟨.ref 195 :: rest, []⟩; again (.builtin "list.__new__" ⟨.ref 195 :: rest, []⟩)) _ _ _
  refine wpAny_bind ((Looks.of_peek (M := model P w) X hc).at (wpAny_pure ⟨plainId_quiet F.plain_list_new _, codeAny_builtin_stack F.entry_list_new rfl fun p st => ?_⟩))
  rw [Around.under_plainId F.plain_list_new _]
  dsimp only
  rw [owner_list_new]
  refine wpAny_bind (hty.at ?_)
  refine wite_n (by decide) ?_
  refine wpAny_bind (hsub.at ?_)
  refine wite_n (by decide) ?_
  refine wpAny_bind (wpAny_pure ?_)
  refine wite_n (by decide) ?_
  refine wpAny_bind (wpAny_newObj_type (data := .dict #[]) ?_ (by simp [sizeOk]))
  refine wpAny_bind (new195 (X.keeps fun _ _ e => Heap.get?_push_of_some _ e) ?_)
  have k1 : ∀ b o, h.get? b = some o → (h.push { cls := .type "dict", data := .dict #[] }).get? b = some o := fun b o e => Heap.get?_push_of_some _ e
  have k2 : ∀ b o, (h.push { cls := .type "dict", data := .dict #[] }).get? b = some o → ((h.push { cls := .type "dict", data := .dict #[] }).push { cls := .ref 195, dict := some h.objs.size, data := .seq #[] }).get? b = some o := fun b o e => Heap.get?_push_of_some _ e
  have hsz : (h.push { cls := .type "dict", data := .dict #[] }).objs.size = h.objs.size + 1 := by simp [Heap.push]
  have hno : h.get? (h.push { cls := .type "dict", data := .dict #[] }).objs.size = none := by
    unfold Heap.get?
    rw [hsz, Array.getElem?_eq_none (Nat.le_succ _)]
  refine wpAny_pure ?_
  exact q _ _ _ _ (fun b o e => k2 b o (k1 b o e)) hno (get_size_none h) (by rw [hsz]; exact Nat.succ_ne_self _) (Heap.get?_push_size _ rfl) (k2 _ _ (Heap.get?_push_size _ rfl))
end
end Mine
set_option genSizeOf false
set_option genInjectivity false
namespace Mine
noncomputable section
open PySem PySem.W PyProof.Rows PySem.Calls
set_option maxRecDepth 100000
theorem fa_made (p) : peek (KF p) ⟨P, p⟩ (Bind.madeBy (.ref 195)) = some (some "list.__new__") := by kernel_rfl
theorem fa_ccall (p) : peek (KF p) ⟨P, p⟩ (specialOf (.ref 195) "__call__") = some (some (.builtin "type.__call__")) := by kernel_rfl
theorem fa_ctyp (p) : instIn (KF p) (.ref 195) (.type "type") = some true := by kernel_rfl
theorem fa_init (p) : findIn (KF p) (.ref 195) "__init__" = some (some (.ref 132)) := by kernel_rfl
theorem fa_initfn (p) : typeIn (KF p) (.ref 132) = some (.type "function") := by kernel_rfl
theorem fa_cobj (p) : ∃ oc od cd sl, (KF p).lookup 195 = some ⟨oc, od, .cls cd, sl⟩ := by
  have h := fa_cls p
  unfold clsIn at h
  split at h
  · rename_i c d cd sl e
    exact ⟨_, _, _, _, e⟩
  · (first | exact nn h | cases h)
theorem tc_w (rest : List Value) : (Code.builtin "type.__call__" ⟨.ref 195 :: rest, []⟩).weight = 1 := by kernel_rfl
theorem tc_u (rest : List Value) : (Code.builtin "type.__call__" ⟨.ref 195 :: rest, []⟩).cUnits = 1 := by kernel_rfl
theorem tc_e (rest : List Value) : (Code.builtin "type.__call__" ⟨.ref 195 :: rest, []⟩).envs = [] := by kernel_rfl
theorem tc_g (rest : List Value) : (Code.builtin "type.__call__" ⟨.ref 195 :: rest, []⟩).guards = [] := by kernel_rfl
theorem AOk.tc {D U : Nat} {A : Around} {rest : List Value} (h : AOk D U A) : AOk (D + 1) (U + 1) (A.under (.builtin "type.__call__" ⟨.ref 195 :: rest, []⟩)) := by
  obtain ⟨fr, hf⟩ := h.fr
  have h1 := h.hd
  have h2 := h.dp
  have h3 := h.un
  have h4 := h.gd
  obtain ⟨hd, d, f, gs, u⟩ := A
  simp only at h1 h2 h3 h4 hf
  subst h1 h4 hf
  refine ⟨rfl, ?_, ?_, ?_, ?_⟩
  · show d + Code.weight _ ≤ _; rw [tc_w]; omega
  · show u + Code.cUnits _ ≤ _; rw [tc_u]; omega
  · simp [Around.under, pushGuards, tc_g]
  · exact ⟨fr, by simp [Around.under, pushEnvs, tc_e]⟩
section
variable {w : World} {A : Around} {R : Result → Shared → Prop} {h : Heap} {g : Array GenState} {d : Drawn} {t : Nat} {os : OsState}
/-- the class below list, called: its new object, then its own __init__ -/
theorem make_acc {rest : List Value} (X : (KF w.params).In h)
    (hnew : ∀ (E : Value → Shared → Prop) (Q : Value → Shared → Prop),
      (∀ h' a da tk', (∀ b o, h.get? b = some o → h'.get? b = some o) → h.get? a = none → h.get? da = none → a ≠ da → h'.get? a = some ⟨.ref 195, some da, .seq #[] 0, #[]⟩ → h'.get? da = some (dictOf [] 0) → Q (.ref a) ⟨h', g, d, tk', os⟩) →
      wpAny (model P w) (A.under (.builtin "type.__call__" ⟨.ref 195 :: rest, []⟩)) (call (.builtin "list.__new__") (.ref 195 :: rest)) Q E ⟨h, g, d, t, os⟩)
    (hq : ∀ h' a da tk', (∀ b o, h.get? b = some o → h'.get? b = some o) → h.get? a = none → h.get? da = none → a ≠ da → h'.get? a = some ⟨.ref 195, some da, .seq #[] 0, #[]⟩ → h'.get? da = some (dictOf [] 0) →
      codeAny (model P w) (A.under (.builtin "type.__call__" ⟨.ref 195 :: rest, []⟩)) (.call (.ref 132) ⟨.ref a :: rest, []⟩) (InitBack a R) ⟨h', g, d, tk', os⟩) :
    codeAny (model P w) A (.call (.ref 195) ⟨rest, []⟩) R ⟨h, g, d, t, os⟩ := by
  obtain ⟨oc, od, cd, sl, hC⟩ := fa_cobj w.params
  have call : Looks (model P w) h (specialOf (.ref 195) "__call__") (some (.builtin "type.__call__")) := Looks.of_peek X (fa_ccall w.params)
  have typ : Looks (model P w) h (isInstance (.ref 195) (.type "type")) true := looks_instIn X (fa_ctyp w.params)
  have hm : Looks (model P w) h (mroOf (.ref 195)) [.ref 195, .type "list", .type "object"] := Looks.of_peek X (fa_mro w.params)
  have made : Looks (model P w) h (Bind.madeBy (.ref 195)) (some "list.__new__") := Looks.of_peek X (fa_made w.params)
  refine codeAny_of_tree ?_
  show wpAny _ _ (callAny (.ref 195) _) _ _ _
  refine nd_load (X _ _ hC) ?_
  show wpAny _ _ (callAny.viaDunder (.ref 195) _) _ _ _
  unfold callAny.viaDunder
  refine wpAny_bind (call.at ?_)
  dsimp only
  rw [tc_bind]
  refine wpAny_bind (wpAny_pure (wpAny_bind (wpAny_pure ?_)))
  refine wpAny_pure (a := Fin.again (.call (.builtin "type.__call__") ⟨.ref 195 :: rest, []⟩)) (And.intro rfl ?_)
  refine codeAny_call_builtin_at (Code.quiet_builtin _ (by decide +kernel)) entry_typeCall (check_slot tc_kind tc_split typ (tc_args _ _ _) ?_)
  unfold Builtin.«type.__call__»
  repeat (first | (with_reducible refine hm.at ?_) | (with_reducible refine made.at ?_) | (with_reducible refine hnew _ _ ?_) | lk)
  intro h' a da tk' k ha hda hne e1 e2
  have X' := X.keeps k
  have t1 : Looks (model P w) h' (typeOf (.ref a)) (.ref 195) := (Looks.ld e1).andThen .now
  have s1 : Looks (model P w) h' (isSubtype (.ref 195) (.ref 195)) true := looks_subIn X' (fa_self w.params)
  have i1 : Looks (model P w) h' (typeLookup (.ref 195) "__init__") (some (.ref 132)) := looks_findIn X' (fa_init w.params)
  have b1 : Looks (model P w) h' (bindSpecial (.ref 132) (.ref a)) (.ref 132, [.ref a]) := bind_fn X' (.ref a) (fa_initfn w.params)
  unfold isInstance callSpecial? specialOf
  repeat (first | with_reducible refine wpAny_call ?_ | (with_reducible refine t1.at ?_) | (with_reducible refine s1.at ?_) | (with_reducible refine i1.at ?_) | (with_reducible refine b1.at ?_) | lk)
  refine codeAny_mono (hq h' a da tk' k ha hda hne e1 e2) fun r s' z => ?_
  rcases r with e | (v | _ | _ | _) <;> first | exact z | exact z.elim | skip
  obtain ⟨rfl, z⟩ := z
  exact wpAny_pure (wpAny_pure z)
end
end
end Mine
set_option genSizeOf false
set_option genInjectivity false
namespace Mine
noncomputable section
open PySem PySem.W PyProof.Rows PySem.Calls Builtin.ObjectAttr
set_option maxRecDepth 100000
theorem no_ref_key0 : aRefKeyMayBeTheName (Str.ofString "_initial_size") ([] : List DictEntry).toArray = false := by kernel_rfl
theorem put_init0 (t' : Tok) (v : Value) (hs' : Int) (k : Nat) : Obj.putName "_initial_size" hs' (.str "_initial_size" t') v (dictOf [] k) = dictOf [⟨hs', .str "_initial_size" t', v⟩] (k + 1) := by
  kernel_rfl
section
variable {C : Cx} {D U : Nat} {Γ : FE}
noncomputable def setInitN (v x : V) : M Unit := fun σ => match accAt v σ with
  | some (_, d, _, []) => match Nat.blt σ.n 60001 with
    | true => some ((), σ.put d (.dic [(0, x)]))
    | false => none
  | _ => none
theorem setInitN_snd (ok : CxOk C) {μ : List Addr} {v x : V} {w y : Value} (rv : RV C μ v w) (rx : RV C μ x y) : Snd C D U (fun _ _ _ => True) (setAttr w "_initial_size" y) (setInitN v x) μ := fun A hA σ s r b σ' e Q E q => by
  unfold setInitN at e
  split at e
  · rename_i n d xs ha
    split at e
    · rename_i hb
      have hb2 : σ.n < 60001 := Nat.le_of_ble_eq_true hb
      (first | (have q := qc e q) | (have q := qcB e q) | cases e)
      obtain ⟨rfl, g1, g2, g3, g4⟩ := accAt_some ha
      refine RV.eRef rv fun a hn => ?_
      ·
        obtain ⟨us, kk, da, es, m, ho, hd, rvs, hsz, I, dr⟩ := acc_inst r hn g1 g2
        have X := r.K ok
        cases dr
        refine Rel.at_e r g2 hd (fun od hod _ => ?_)
        have hod' : s.heap.get? da = some (dictOf [] m) := I.dict
        obtain ⟨hh, gg, ddr, tk, os⟩ := s
        refine set_plain X I (fa_setattr C.w.params) (acc_osa (s := ⟨hh, gg, ddr, tk + 1, os⟩) X I ?_)
        have X' : (KF C.w.params).In hh := X
        obtain ⟨cd, hc, hd'⟩ := any_some (fa_hasdict C.w.params)
        refine wpAny_bind (wpAny_pure (wpAny_bind (wpAny_bind (wpAny_loadPart ho (wpAny_bind ((looks_clsIn (M := model P C.w) X' hc).at ?_))))))
        refine rwG (hd') ?_
        refine wpAny_pure (a := some da) (wpAny_bind (wpAny_pure (wpAny_bind ?_)))
        unfold nsSet
        refine wpAny_bind (wpAny_bind (wpAny_askSetting (wpAny_pure (wpAny_bind (wpAny_mkText (wpAny_bind (wpAny_loadPart hod' ?_)))))))
        dsimp only [dictOf]
        refine rwG (no_ref_key0) ?_
        refine wite_n (by decide) ?_
        refine wpAny_updatePart hod' ?_
        have hput := put_init0 (tk + 1) y (PyData.keyHash C.w.params "_initial_size") m
        have D' : (hh.update da (Obj.putName "_initial_size" (PyData.keyHash C.w.params "_initial_size") (.str "_initial_size" (tk + 1)) y)).get? da = some (dictOf [⟨PyData.keyHash C.w.params (codeName 0), .str "_initial_size" (tk + 1), y⟩] (m + 1)) := by
          refine rwG (show PyData.keyHash C.w.params (codeName 0) = PyData.keyHash C.w.params "_initial_size" from rfl) ?_; refine rwH (hput) ?_
          refine Heap.get?_update_self _ hod' ?_
          refine rwG (hput) ?_
          rfl
        refine wpAny_bind (wpAny_lookBehind D' (pastItsLine_dict (by simp [sizeLine_eq])) ?_)
        refine wpAny_pure ?_
        refine q μ _ () (List.prefix_refl _) (r.put g2 rfl hd hb2 (Heap.SameBut.update ..).extBut fun _ => ?_) trivial
        exact ⟨_, D', _, m + 1, rfl, .cons rx .nil⟩
    · (first | exact nn e | cases e)
  · (first | exact nn e | cases e)
theorem SX_setInitN {value o : Expr} {pos' pos : Pos} {f g : Nat → M V} (ok : CxOk C) (h0 : SE C D U Γ value f) (h1 : SE C D U Γ o g)
    (hs : autoParam (∀ env, swapsWith value (some (.Attribute o "_initial_size" pos')) pos.line env = pure false) au1._auto_1) :
    SX C D U Γ (.Assign [.Attribute o "_initial_size" pos'] value pos) (fun l => bnd (f l) fun v => bnd (g l) fun a => bnd (setInitN a v) fun _ => ret .next) := fun l L μ hok hl A hA σ s r b σ' e Q E q => by
  refine bnd_e e fun v σ₁ e1 e => ?_
  refine bnd_e e fun a σ₂ e2 e => ?_
  refine bnd_e e fun _ σ₃ e3 e => ?_
  (first | (have q := qc e q) | (have q := qcB e q) | cases e)
  refine rwG (plainObj_exec_Assign_Attribute o "_initial_size" pos' value pos (hs _)) ?_
  refine wpAny_bind (wpAny_standAt (wpAny_bind (h0 l L μ hok hl A hA σ s r v σ₁ e1 _ E fun μ₁ s₁ wv hp1 r₁ rv => ?_)))
  rw [assign_Attribute]
  refine wpAny_bind (wpAny_bind (wpAny_holding (h1 l L μ₁ (Γ.mono hp1 hok) (mu_ext hp1 hl) A hA σ₁ s₁ r₁ a σ₂ e2 _ E fun μ₂ s₂ wa hp2 r₂ ra => ?_)))
  refine wpAny_bind (wpAny_standAt (wpAny_bind (wpAny_holding ?_)))
  refine setInitN_snd ok ra (rv.ext hp2) A hA σ₂ s₂ r₂ () _ e3 _ E fun μ₃ s₃ _ hp3 r₃ _ => ?_
  exact wpAny_release' (wpAny_pure (q μ₃ s₃ .next (List.IsPrefix.trans (List.IsPrefix.trans hp1 hp2) hp3) r₃ .next))
end
end
end Mine
set_option genSizeOf false
set_option genInjectivity false
namespace Mine
noncomputable section
open PySem PySem.W PyProof.Rows PySem.Calls
set_option maxRecDepth 100000
set_option maxHeartbeats 0
theorem sup_init_in (p) : alongIn (KF p) "__init__" [.type "list", .type "object"] = some (some (.builtin "list.__init__")) := by kernel_rfl
theorem ty_init : typeOf (.builtin "list.__init__") = pure (.type "wrapper_descriptor") := by show builtinType _ = _; rw [builtinType_eq_fast]; kernel_rfl
theorem ent_init : entryFor table "list.__init__" = some Builtin.«list.__init__» := entryFor_of_tree (by kernel_rfl)
theorem chk_init (s : Shared) (x : Addr) (w : World) (A : Around) (E : Value → Shared → Prop) (Q : Unit → Shared → Prop) (q : Q () s) : wpAny (model P w) A (checkBoundCall "list.__init__" ⟨[.ref x], []⟩) Q E s := by
  have : checkBoundCall "list.__init__" ⟨[.ref x], []⟩ = pure () := by kernel_rfl
  rw [this]; exact wpAny_pure q
section
variable {C : Cx} {D U : Nat} {Γ : FE}
noncomputable def accInit0 (vs : List V) : M V := fun σ => match vs with
  | [v] => match accAt v σ with
    | some (n, d, [], _) => match Nat.blt σ.n 60001 with
      | true => some (.none, σ.put n (.acc d []))
      | false => none
    | _ => none
  | _ => none
theorem SBI_init : SBI C D U Builtin.«list.__init__» accInit0 := fun vs ws μ rv A hA σ s r b σ' e Q E q => by
  unfold accInit0 at e
  split at e
  · rename_i v
    split at e
    · rename_i n d nms ha
      split at e
      · rename_i hb
        have hb2 : σ.n < 60001 := Nat.le_of_ble_eq_true hb
        (first | (have q := qc e q) | (have q := qcB e q) | cases e)
        obtain ⟨rfl, g1, g2, g3, g4⟩ := accAt_some ha
        refine RVs.eCons rv fun _ _ h t => ?_
        refine RVs.eNil t ?_
        refine RV.eRef h fun a hn => ?_
        ·
          obtain ⟨us, kk, da, es, m, ho, hd, rvs, hsz, I, dr⟩ := acc_inst r hn g1 g2
          show wpAny _ _ (do
            let old ← Builtin.List.listItems (.ref a)
            Builtin.List.listUpdate (.ref a) fun _ => #[]
            letGo old.toList.reverse
            _root_.PySem.ret .none) Q E s
          refine wpAny_bind (wpAny_bind (m := seqItems? (.ref a)) (wpAny_seqItems ho rfl (wpAny_pure ?_)))
          refine wpAny_bind (wpAny_updateSeq (n := kk) ho rfl ?_ (by rw [hsz, sizeLine_eq]; simp) (by simp))
          refine wpAny_bind (wpAny_letGo (wpAny_pure ?_))
          refine q μ _ _ (List.prefix_refl _) (r.put g1 rfl hn hb2 (Heap.SameBut.update ..).extBut fun _ => ?_) ⟨_, rfl, .none⟩
          obtain ⟨n', hn'⟩ := mapSeq_seq (.ref 195) (some da) us kk #[] (fun _ => #[])
          refine ⟨_, Heap.get?_update_self _ ho (by rw [hn']; rfl), ?_⟩
          refine rwG (hn') ?_
          exact ⟨_, n', da, hd, rfl, .nil⟩
      · (first | exact nn e | cases e)
    · (first | exact nn e | cases e)
  · (first | exact nn e | cases e)
theorem SupInit {f : Addr} {hg : GOk f} {me : Str} {p0 p1 apos pos rpos : Pos} (ok : CxOk C) (so : SupOk f me) (hme : (tabN f)[0]? = some me) (hint : ∀ L, interactive (callEnv (fdOf f) L f) = false)
    (hsw : autoParam (∀ env, swapsWith (.Call (.Attribute (.Call (.Name "super" p0) [] [] p1) "__init__" apos) [] [] pos) none rpos.line env = pure false) au1._auto_1)
    (hev : ∀ env, ∃ pl : Sem Bool, eval (.Call (.Attribute (.Call (.Name "super" p0) [] [] p1) "__init__" apos) [] [] pos) env = (do
      let ov ← attributeBase (.Call (.Name "super" p0) [] [] p1) "__init__" env (eval (.Call (.Name "super" p0) [] [] p1) env)
      standAt apos.atName
      let (f, first) ← holding [ov] (getMethod ov "__init__" pl)
      callWith pos f first (backTo pos (starEach [] env)) []) := by intro _; exact ⟨_, rfl⟩) :
    SXsAt C D U f (GG f hg) [.Expr (.Call (.Attribute (.Call (.Name "super" p0) [] [] p1) "__init__" apos) [] [] pos) rpos] (fun l => bnd (bnd (locGet f 0 l) fun v => bnd (accChk v) fun _ => accInit0 [v]) fun _ => ret .next) := fun l L μ hok hl A hA σ s r b σ' e Q E q => by
  refine bnd_e e fun v σ₁ e1 e2 => ?_
  (first | (have q := qc e2 q) | (have q := qcB e2 q) | cases e2)
  refine ks_wpAt_execs_cons (ks_wpAt_Expr_any ?_ (hint L) (hsw _))
  refine sup_eval (hg := hg) (T := "wrapper_descriptor") (getId := "wrapper_descriptor.__get__") (bT := "method-wrapper") ok so hme (by decide) (sup_init_in _) ty_init slot_wd_get entry_wd_get args_wd_get
    (fun h x od dt sl g d t os A E Q ho hs q => wd_get _ ho hs (by decide +kernel) q) (.inr rfl) (fun s x ox od A E Q _ _ q => chk_init s x C.w A E Q q) (by decide +kernel) ent_init SBI_init hev hl hA r e1
    fun μ' s' a hp r' ra => _root_.PySem.wpAt_of_wpAny (wpAny_execs_nil (q μ' s' _ hp r' .next))
end
end
end Mine
set_option genSizeOf false
set_option genInjectivity false
namespace Mine
noncomputable section
open PySem PySem.W PyProof.Rows PySem.Calls
set_option maxRecDepth 100000
set_option maxHeartbeats 0
section
variable {C : Cx} {μ : List Addr} {σ : St} {s : Shared} {D U : Nat}
/-- an object that the heap holds and that none of the machine's names yet -/
theorem Rel.addF (r : Rel C μ σ s) {a : Addr} {o : Obj} {vo : VO} (fresh : ∀ i x b, σ.get i = some x → live x = true → μ[i]? = some b → b ≠ a) (hC : C.h.get? a = none) (hT : a ∉ tabs) (hg : s.heap.get? a = some o) (hn : σ.n < 60000) (ho : OR C (μ ++ [a]) o vo) :
    Rel C (μ ++ [a]) (σ.add vo) s := by
  have ext : μ <+: μ ++ [a] := List.prefix_append _ _
  have hi : σ.n + 1 < 2 ^ 20 := by omega
  have at_n : (μ ++ [a])[σ.n]? = some a := by rw [← r.len]; simp
  have get : ∀ i, (σ.add vo).get i = if i = σ.n then some vo else σ.get i := fun i => Tr.get_ins _ _ _ _ _ hi
  have lt : ∀ i x, σ.get i = some x → live x = true → i < μ.length := fun i x e l => by
    obtain ⟨b', o', f1, _⟩ := r.obj i x e l
    exact (List.getElem?_eq_some_iff.mp f1).1
  refine ⟨by simp [St.add, r.len], fun i x e l => ?_, fun i j x y b e1 e2 l1 l2 g1 g2 => ?_, r.old, r.tab, r.bare, r.os⟩
  · rw [get] at e
    split at e
    · rename_i e'
      subst e'
      (first | (have q := qc e q) | (have q := qcB e q) | cases e)
      exact ⟨a, o, at_n, hg, ho, hC, hT⟩
    · obtain ⟨a', o', e1, e2, e3, e4⟩ := r.obj i x e l
      exact ⟨a', o', mu_ext ext e1, e2, e3.ext ext, e4⟩
  · rw [get] at e1 e2
    have low : ∀ (i : Nat) (x : VO) (b : Addr), σ.get i = some x → live x = true → (μ ++ [a])[i]? = some b → μ[i]? = some b := fun i x b e l g => by
      rw [List.getElem?_append_left (lt i x e l)] at g; exact g
    split at e1
    · rename_i h1
      subst h1
      rw [at_n] at g1
      cases g1
      split at e2
      · rename_i h2; exact h2.symm
      · exact absurd rfl (fresh j y _ e2 l2 (low j y _ e2 l2 g2))
    · split at e2
      · rename_i h2
        subst h2
        rw [at_n] at g2
        cases g2
        exact absurd rfl (fresh i x _ e1 l1 (low i x _ e1 l1 g1))
      · exact r.inj i j x y b e1 e2 l1 l2 (low i x b e1 l1 g1) (low j y b e2 l2 g2)
end
theorem ok132 : GOk 132 := ⟨by kernel_rfl, by kernel_rfl, by kernel_rfl, by kernel_rfl, by decide⟩
theorem do132 : DefOk 132 2 2 [] := ⟨by intro _; kernel_rfl, by intro _; kernel_rfl, by kernel_rfl, by decide, by decide, by kernel_rfl, by kernel_rfl, by kernel_rfl, by kernel_rfl, by kernel_rfl, by
  intro p S ws h; match ws, h with | [a, b], _ => kernel_rfl⟩
noncomputable def tokI : Tok := match peek (KF p0) ⟨P, p0⟩ (bindArgs (fdOf 132) ⟨[.none], []⟩) with
  | some [_, (_, .int _ t)] => t
  | _ => 0
theorem do132z : DefOk 132 1 2 [.int 0 tokI] := ⟨by intro _; kernel_rfl, by intro _; kernel_rfl, by kernel_rfl, by kernel_rfl, by kernel_rfl, by kernel_rfl, by kernel_rfl, by kernel_rfl, by kernel_rfl, by kernel_rfl, by
  intro p S ws h; exact ln1 ws h fun a => by kernel_rfl⟩
theorem so132 : SupOk 132 "self" := ⟨⟨_, rfl, rfl⟩, by intro _; kernel_rfl, by intro _; kernel_rfl, by intro _; kernel_rfl, ⟨_, _, _, _, _, _, rfl, by intro _; rfl, ⟨_, rfl⟩, by kernel_rfl⟩, by kernel_rfl, by intro _ _; kernel_rfl, by intro _ _; kernel_rfl⟩
noncomputable def d132 : {g : Nat → M VF // ∀ C, CxOk C → ∀ D U, SXsAt C D U 132 (GG 132 ok132) (bodyOf 132) g} := ⟨_, fun C ok D U => by
  refine' SXsAt_cons (SX_setInitN ok ?a ?b) ?c
  case a => exact SE_loc 1 (by kernel_rfl) (by decide)
  case b => exact SE_loc 0 (by kernel_rfl) (by decide)
  case c => exact SupInit ok so132 (by kernel_rfl) (by intro _; kernel_rfl)⟩
end
end Mine
set_option genSizeOf false
set_option genInjectivity false
namespace Mine
noncomputable section
open PySem PySem.W PyProof.Rows PySem.Calls
set_option maxRecDepth 100000
set_option maxHeartbeats 0
section
variable {C : Cx} {D U : Nat}
theorem SFnC_defAt {f : Addr} {h : GOk f} {g : Nat → M VF} {np nl : Nat} {dv : List V} {dw : List Value} (ok : CxOk C) (hd : ∀ μ, RVs C μ dv dw) (ok2 : DefOk f np nl dw)
    (hD : D < 900) (hb : SXsAt C (D + 1) (U + 3) f (GG f h) (bodyOf f) g) : SFnC C D U f (defD f np nl dv g) := fun vs ws μ rv A hA σ s r b σ' e Q E q => by
  unfold defD at e
  have hnl := Nat.eq_of_beq_eq_true ok2.hnl
  have hnp := Nat.le_of_ble_eq_true ok2.hnp
  have hdl : dw.length = dv.length := (hd μ).len
  cases hlen : Nat.beq vs.length np with
  | true =>
    rw [hlen] at e
    replace hlen := Nat.eq_of_beq_eq_true hlen
    refine bnd_e e fun r0 σ₁ e1 e2 => ?_
    obtain ⟨hz, e3, e4⟩ := alloc_some e1
    simp only at e3 e4
    subst e3 e4
    refine bnd_e e2 fun fl σ₂ e5 e6 => ?_
    (first | (have q := qc e6 q) | (have q := qcB e6 q) | cases e6)
    have X := r.K ok
    have rva : RVs C μ (vs ++ dv) (ws ++ dw) := rv.append (hd μ)
    refine ks_codeAny_call_defAt (binds := ((tabN f).take (np + dw.length)).zip (ws ++ dw)) (Nat.lt_of_le_of_lt hA.dp (Nat.lt_trans hD (by decide))) (X _ _ (ok2.K _)) rfl (ok.lim.keeps r.old) (codeRec_of X (ok2.cd _)) ok2.body
      (fun M A E Q hq => (Looks.of_peek X (ok2.bind _ ⟨M.prog, M.w.params⟩ ws (by rw [rv.len, hlen]))).here hq) (fun x hx => by
        have := List.all_eq_true.mp ok2.cell x hx
        simpa using this) (fun x hx => eq_of_beq (List.all_eq_true.mp ok2.loc _ (List.of_mem_zip hx).1)) (fun h₁ hns hk₁ => ?_) ok2.co ok2.gen ok2.kind
    obtain ⟨o, ho, hr⟩ := ns_to (C := C) (μ := μ ++ [s.heap.objs.size]) (tag := f) (vs := (vs ++ dv).map some ++ List.replicate (nl - (np + dv.length)) none) hns (by simp; omega) (by
      have := MR_binds (C := C) h.e (rva.ext (List.prefix_append μ [s.heap.objs.size])) (by rw [List.length_append]; omega)
      rw [List.length_append, hlen, hnl, ← hdl] at this
      refine rwH (hdl) ?_
      exact this)
    have r₁ := r.add (t := s.toks + (((tabN f).take (np + dw.length)).zip (ws ++ dw)).length) (d := s.drawn) hk₁ (get_size_none _) ho hz hr
    have hat : (μ ++ [s.heap.objs.size])[σ.n]? = some s.heap.objs.size := by rw [← r.len]; simp
    have hb' := hb σ.n s.heap.objs.size _ trivial hat
    refine hb' _ (hA.deeper _) _ _ r₁ fl _ e5 _ _ fun μ' s' a hp r' hf => ?_
    have hp' := List.IsPrefix.trans (List.prefix_append μ [s.heap.objs.size]) hp
    induction hf with
    | ret h => exact q μ' s' _ hp' r' h
    | next => exact q μ' s' _ hp' r' .none
    | brk => exact q μ' s' _ hp' r' .none
    | cont => exact q μ' s' _ hp' r' .none
  | false => rw [hlen] at e; cases e
end
end
end Mine
set_option genSizeOf false
set_option genInjectivity false
namespace Mine
noncomputable section
open PySem PySem.W PySem.W.X PyProof.Rows PySem.Calls
set_option maxRecDepth 100000
set_option maxHeartbeats 0
section
variable {C : Cx} {D U : Nat}
noncomputable def accNewM (init : List V → M V) (vs : List V) : M V := bnd (alloc (.dic [])) fun dd => match dd with
  | .ref d => bnd (alloc (.acc d [])) fun a => bnd (init (a :: vs)) fun r => match r with
    | .none => ret a
    | _ => no
  | _ => no
theorem new_of {w : World} {A : Around} {h : Heap} {g : Array GenState} {d : Drawn} {t : Nat} {os : OsState} {rest : List Value} (X : (KF w.params).In h) (hA : AOk 500 5000 A) (hr : rest = [] ∨ ∃ v, rest = [v]) (E : Value → Shared → Prop) (Q : Value → Shared → Prop)
    (k : ∀ h' a da tk', (∀ b o, h.get? b = some o → h'.get? b = some o) → h.get? a = none → h.get? da = none → a ≠ da → h'.get? a = some ⟨.ref 195, some da, .seq #[] 0, #[]⟩ → h'.get? da = some (dictOf [] 0) → Q (.ref a) ⟨h', g, d, tk', os⟩) :
    wpAny (model P w) A (call (.builtin "list.__new__") (.ref 195 :: rest)) Q E ⟨h, g, d, t, os⟩ := by
  have := hA
  rcases hr with rfl | ⟨v, rfl⟩
  · exact newAcc X (nw_chk0 _) k
  · exact newAcc X (nw_chk1 _ _) k
theorem SCl_accNew {init : List V → M V} (ok : CxOk C) (hD : D ≤ 400) (hU : U ≤ 4900) (hi : SFnC C (D + 1) (U + 1) 132 init) {vs : List V} {ws : List Value} {μ : List Addr} (rv : RVs C μ vs ws) (hr : ws = [] ∨ ∃ v, ws = [v]) :
    Snd C D U (RV C) (call (.ref 195) ws) (accNewM init vs) μ := fun A hA σ s r b σ' e Q E q => by
  refine bnd_e e fun dd σ₁ e1 e => ?_
  obtain ⟨hz1, f1, f2⟩ := alloc_some e1
  simp only at f1 f2
  subst f1 f2
  refine bnd_e e fun aa σ₂ e2 e => ?_
  obtain ⟨hz2, f3, f4⟩ := alloc_some e2
  simp only at f3 f4
  subst f3 f4
  refine bnd_e e fun rr σ₃ e3 e4 => ?_
  obtain ⟨hh, gg, ddr, tk, os⟩ := s
  refine wpAny_call (make_acc (r.K ok) (fun E' Q' k => new_of (r.K ok) ((hA.tc (rest := ws)).mono (by omega) (by omega)) hr E' Q' k) fun h' a da tk' k ha hda hne o1 o2 => ?_)
  have tn : ∀ b, hh.get? b = none → b ∉ tabs := fun b hb ht => by
    obtain ⟨vs, e, _⟩ := (r.tab b ht).2
    rw [show (⟨hh, gg, ddr, tk, os⟩ : Shared).heap.get? b = hh.get? b from rfl, hb] at e
    (first | (have q := qc e q) | (have q := qcB e q) | cases e)
  have cn : ∀ b, hh.get? b = none → C.h.get? b = none := fun b hb => by
    cases z : C.h.get? b with
    | none => rfl
    | some o => have := r.old b o z; rw [show (⟨hh, gg, ddr, tk, os⟩ : Shared).heap.get? b = hh.get? b from rfl, hb] at this; cases this
  have r1 : Rel C (μ ++ [da]) (σ.add (.dic [])) ⟨h', gg, ddr, tk', os⟩ := r.add (t := tk') (d := ddr) k hda o2 hz1 ⟨[], 0, rfl, .nil⟩
  have at_d : (μ ++ [da])[σ.n]? = some da := by rw [← r.len]; simp
  have get1 : ∀ i, (σ.add (.dic [])).get i = if i = σ.n then some (.dic []) else σ.get i := fun i => get_add _ _ (by assumption) i
  have fresh : ∀ i x b, (σ.add (.dic [])).get i = some x → live x = true → (μ ++ [da])[i]? = some b → b ≠ a := fun i x b e l g => by
    rw [get1] at e
    split at e
    · rename_i z
      subst z
      rw [at_d] at g
      cases g
      exact fun z => hne z.symm
    · obtain ⟨b', o', g1, g2, _⟩ := r.obj i x e l
      rw [mu_ext (List.prefix_append _ _) g1] at g
      cases g
      intro z
      have g3 : hh.get? b = some o' := g2
      rw [z, ha] at g3
      cases g3
  have r2 := r1.addF (vo := .acc σ.n []) fresh (cn a ha) (tn a ha) o1 hz2 ⟨#[], 0, da, mu_ext (List.prefix_append _ _) at_d, rfl, .nil⟩
  have at_a : (μ ++ [da] ++ [a])[σ.n + 1]? = some a := by rw [← r.len]; simp
  have px : μ <+: μ ++ [da] ++ [a] := List.IsPrefix.trans (List.prefix_append _ _) (List.prefix_append _ _)
  refine codeAny_mono (hi (.ref (σ.n + 1) :: vs) (.ref a :: ws) _ (.cons (.ref _ _ at_a) (rv.ext px)) _ hA.tc _ _ r2 rr σ₃ e3 (fun v s' => v = .none ∧ Q (.ref a) s') E fun μ' s' v hp r' rv' => ?_) fun r s' z => ?_
  · split at e4
    · (first | exact nn e4 | cases e4)
      cases rv'
      exact ⟨rfl, q μ' s' _ (List.IsPrefix.trans px hp) r' (.ref _ _ (mu_ext hp at_a))⟩
    · (first | exact nn e4 | cases e4)
  · rcases r with e | (v | _ | _ | _) <;> first | exact z | exact z.elim
end
end
end Mine
set_option genSizeOf false
set_option genInjectivity false
namespace Mine
noncomputable section
open PySem PySem.W PyProof.Rows PySem.Calls Builtin.ObjectAttr
set_option maxRecDepth 100000
theorem put_new {name : Str} {h : Int} {key v : Value} {es : List DictEntry} {n : Nat} (hm : es.find? (·.key.isStr name) = none) : Obj.putName name h key v (dictOf es n) = dictOf (es ++ [⟨h, key, v⟩]) (n + 1) := by
  refine rwG (Obj.putName_eq) ?_
  have : es.toArray.findIdx? (·.key.isStr name) = none := by
    rw [List.findIdx?_toArray, List.findIdx?_eq_none_iff]
    intro x hx
    have := List.find?_eq_none.mp hm x hx
    simpa using this
  unfold dictOf Obj.putNameByArray
  simp only [this]
  congr 2
  simp
section
variable {C : Cx} {μ : List Addr}
theorem DR.snoc {vs : List (Nat × V)} {es : List DictEntry} (r : DR C μ vs es) {k : Nat} {v : V} {t : Tok} {w : Value} (h : RV C μ v w) : DR C μ (vs ++ [(k, v)]) (es ++ [⟨PyData.keyHash C.w.params (codeName k), .str (codeName k) t, w⟩]) := by
  induction r with
  | nil => exact .cons h .nil
  | cons a _ ih => exact .cons a ih
theorem DR.len {vs : List (Nat × V)} {es : List DictEntry} (r : DR C μ vs es) : es.length = vs.length := by
  induction r with
  | nil => rfl
  | cons a _ ih => simp [ih]
theorem DR.noKey {vs : List (Nat × V)} {es : List DictEntry} (r : DR C μ vs es) (hk : ∀ p ∈ vs, p.1 < 8) {k : Nat} (hk8 : k < 8) (h : dget vs k = none) : es.find? (·.key.isStr (codeName k)) = none ∧ es.any (·.refKey) = false := by
  induction r with
  | nil => exact ⟨rfl, rfl⟩
  | @cons j x t w vs es rv _ ih =>
    unfold dget at h
    have hj : j < 8 := hk (j, x) (.head _)
    cases q : Nat.beq j k with
    | true => rw [q] at h; cases h
    | false =>
      rw [q] at h
      obtain ⟨h1, h2⟩ := ih (fun p hp => hk p (.tail _ hp)) h
      refine ⟨?_, ?_⟩
      · refine rwG (List.find?_cons) ?_
        have : (Value.str (codeName j) t).isStr (codeName k) = false := by
          show (codeName j == codeName k) = false
          rw [beq_eq_false_iff_ne]
          intro z
          have := codeName_inj ⟨j, hj⟩ ⟨k, hk8⟩ z
          have e : j = k := congrArg Fin.val this
          subst e
          rw [Nat.beq_refl] at q
          cases q
        simp only [this]
        exact h1
      · rw [List.any_cons, h2]; rfl
end
structure PutOk (c k : Nat) : Prop where
  hs : ∀ p, findIn (KF p) (.ref c) "__setattr__" = some (some (.builtin "object.__setattr__"))
  po : ∀ p, plainOver (KF p) c = true
  tk : ∀ p, takerIn (KF p) c (codeName k) = some none
  hd : ∀ p, (clsIn (KF p) c).any (·.hasDict) = true
  k8 : k < 8
section
variable {C : Cx} {D U : Nat} {Γ : FE}
noncomputable def insPut (c k : Nat) (v x : V) : M Unit := fun σ => match v with
  | .ref n => match σ.get n with
    | some (.ins c' d) => match Nat.beq c' c with
      | true => match σ.get d with
        | some (.dic vs) => match keysOk vs && Nat.blt vs.length 900 && Nat.blt σ.n 60001 with
          | true => match dget vs k with
            | none => some ((), σ.put d (.dic (vs ++ [(k, x)])))
            | some _ => none
          | false => none
        | _ => none
      | false => none
    | _ => none
  | _ => none
theorem insPut_snd {c k : Nat} (ok : CxOk C) (po : PutOk c k) {μ : List Addr} {v x : V} {w y : Value} (rv : RV C μ v w) (rx : RV C μ x y) : Snd C D U (fun _ _ _ => True) (setAttr w (codeName k) y) (insPut c k v x) μ := fun A hA σ s r b σ' e Q E q => by
  unfold insPut at e
  split at e
  · rename_i n
    split at e
    · rename_i c' d g1
      split at e
      · rename_i hc
        have hc := Nat.eq_of_beq_eq_true hc
        subst hc
        split at e
        · rename_i vs g2
          split at e
          · rename_i hall
            simp only [Bool.and_eq_true] at hall
            obtain ⟨⟨g3, g4⟩, g5⟩ := hall
            have g4 : vs.length < 900 := Nat.le_of_ble_eq_true g4
            have g5 : σ.n < 60001 := Nat.le_of_ble_eq_true g5
            split at e
            · rename_i g6
              (first | (have q := qc e q) | (have q := qcB e q) | cases e)
              refine RV.eRef rv fun a hn => ?_
              ·
                obtain ⟨da, es, m, I, dr⟩ := ins_inst r hn g1 g2
                refine Rel.at_e r g1 hn (fun o ho hzz => ?_); obtain ⟨da', hd, e⟩ := hzz
                have X := r.K ok
                have I0 := I
                obtain ⟨hx, hcl, hnn, -⟩ := I
                rw [ho] at hx
                cases hx
                (first | (have q := qc e q) | (have q := qcB e q) | cases e)
                refine Rel.at_e r g2 hd (fun od hod _ => ?_)
                have hod' : s.heap.get? da = some (dictOf es m) := I0.dict
                obtain ⟨hh, gg, ddr, tk, os⟩ := s
                refine set_plain X I0 (po.hs C.w.params) (osa_open (s := ⟨hh, gg, ddr, tk + 1, os⟩) X I0 (po.po C.w.params) (po.tk C.w.params) fun bb => ?_)
                have X' : (KF C.w.params).In hh := X
                obtain ⟨cd, hc, hd'⟩ := any_some (po.hd C.w.params)
                refine wpAny_bind (wpAny_pure (wpAny_bind (wpAny_bind (wpAny_loadPart ho (wpAny_bind ((looks_clsIn (M := model P C.w) X' hc).at ?_))))))
                refine rwG (hd') ?_
                refine wpAny_pure (a := some da) (wpAny_bind (wpAny_pure (wpAny_bind ?_)))
                unfold nsSet
                refine wpAny_bind (wpAny_bind (wpAny_askSetting (wpAny_pure (wpAny_bind (wpAny_mkText (wpAny_bind (wpAny_loadPart hod' ?_)))))))
                obtain ⟨nk, nr⟩ := dr.noKey (keysOk_all g3) po.k8 g6
                have nar : aRefKeyMayBeTheName (codeName k) es.toArray = false := by
                  rw [aRefKeyMayBeTheName_at, ← Array.any_toList, ← Array.any_toList]
                  rw [show es.toArray.toList = es from rfl, nr, Bool.and_false]
                dsimp only [dictOf]
                refine rwG (nar) ?_
                refine wite_n (by decide) ?_
                refine wpAny_updatePart hod' ?_
                have hput := put_new (name := codeName k) (h := PyData.keyHash C.w.params (codeName k)) (key := .str (codeName k) (tk + 1)) (v := y) (n := m) nk
                have D' : (hh.update da (Obj.putName (codeName k) (PyData.keyHash C.w.params (codeName k)) (.str (codeName k) (tk + 1)) y)).get? da = some (dictOf (es ++ [⟨PyData.keyHash C.w.params (codeName k), .str (codeName k) (tk + 1), y⟩]) (m + 1)) := by
                  refine rwH (hput) ?_
                  refine Heap.get?_update_self _ hod' ?_
                  refine rwG (hput) ?_
                  rfl
                refine wpAny_bind (wpAny_lookBehind D' (pastItsLine_dict (by have := dr.len; simp [sizeLine_eq]; omega)) ?_)
                refine wpAny_pure ?_
                refine q μ _ () (List.prefix_refl _) (r.put g2 rfl hd g5 (Heap.SameBut.update ..).extBut fun _ => ?_) trivial
                exact ⟨_, D', _, m + 1, rfl, dr.snoc rx⟩
            · (first | exact nn e | cases e)
          · (first | exact nn e | cases e)
        · (first | exact nn e | cases e)
      · (first | exact nn e | cases e)
    · (first | exact nn e | cases e)
  · (first | exact nn e | cases e)
theorem SX_insPut {value o : Expr} {pos' pos : Pos} {f g : Nat → M V} {name : Str} (c k : Nat) (po : PutOk c k) (ok : CxOk C) (hname : codeName k = name) (h0 : SE C D U Γ value f) (h1 : SE C D U Γ o g)
    (hs : autoParam (∀ env, swapsWith value (some (.Attribute o name pos')) pos.line env = pure false) au1._auto_1) :
    SX C D U Γ (.Assign [.Attribute o name pos'] value pos) (fun l => bnd (f l) fun v => bnd (g l) fun a => bnd (insPut c k a v) fun _ => ret .next) := fun l L μ hok hl A hA σ s r b σ' e Q E q => by
  subst hname
  refine bnd_e e fun v σ₁ e1 e => ?_
  refine bnd_e e fun a σ₂ e2 e => ?_
  refine bnd_e e fun _ σ₃ e3 e => ?_
  (first | (have q := qc e q) | (have q := qcB e q) | cases e)
  refine rwG (plainObj_exec_Assign_Attribute o (codeName k) pos' value pos (hs _)) ?_
  refine wpAny_bind (wpAny_standAt (wpAny_bind (h0 l L μ hok hl A hA σ s r v σ₁ e1 _ E fun μ₁ s₁ wv hp1 r₁ rv => ?_)))
  rw [assign_Attribute]
  refine wpAny_bind (wpAny_bind (wpAny_holding (h1 l L μ₁ (Γ.mono hp1 hok) (mu_ext hp1 hl) A hA σ₁ s₁ r₁ a σ₂ e2 _ E fun μ₂ s₂ wa hp2 r₂ ra => ?_)))
  refine wpAny_bind (wpAny_standAt (wpAny_bind (wpAny_holding ?_)))
  refine insPut_snd ok po ra (rv.ext hp2) A hA σ₂ s₂ r₂ () _ e3 _ E fun μ₃ s₃ _ hp3 r₃ _ => ?_
  exact wpAny_release' (wpAny_pure (q μ₃ s₃ .next (List.IsPrefix.trans (List.IsPrefix.trans hp1 hp2) hp3) r₃ .next))
/-- a plain class, called -/
structure NewOk (c f : Nat) : Prop where
  mks : ∀ p, makesIn (KF p) c = true
  hi : ∀ p, findIn (KF p) (.ref c) "__init__" = some (some (.ref f))
  ty : ∀ p, typeIn (KF p) (.ref f) = some (.type "function")
noncomputable def insNewM (c : Nat) (init : List V → M V) (vs : List V) : M V := bnd (alloc (.dic [])) fun dd => match dd with
  | .ref d => bnd (alloc (.ins c d)) fun a => bnd (init (a :: vs)) fun r => match r with
    | .none => ret a
    | _ => no
  | _ => no
theorem tcC_w (c : Nat) (rest : List Value) : (Code.builtin "type.__call__" ⟨.ref c :: rest, []⟩).weight = 1 := by kernel_rfl
theorem tcC_u (c : Nat) (rest : List Value) : (Code.builtin "type.__call__" ⟨.ref c :: rest, []⟩).cUnits = 1 := by kernel_rfl
theorem tcC_e (c : Nat) (rest : List Value) : (Code.builtin "type.__call__" ⟨.ref c :: rest, []⟩).envs = [] := by kernel_rfl
theorem tcC_g (c : Nat) (rest : List Value) : (Code.builtin "type.__call__" ⟨.ref c :: rest, []⟩).guards = [] := by kernel_rfl
theorem AOk.tcC {D U : Nat} {A : Around} {c : Nat} {rest : List Value} (h : AOk D U A) : AOk (D + 1) (U + 1) (A.under (.builtin "type.__call__" ⟨.ref c :: rest, []⟩)) := by
  obtain ⟨fr, hf⟩ := h.fr
  have h1 := h.hd
  have h2 := h.dp
  have h3 := h.un
  have h4 := h.gd
  obtain ⟨hd, d, f, gs, u⟩ := A
  simp only at h1 h2 h3 h4 hf
  subst h1 h4 hf
  refine ⟨rfl, ?_, ?_, ?_, ?_⟩
  · show d + Code.weight _ ≤ _; rw [tcC_w]; omega
  · show u + Code.cUnits _ ≤ _; rw [tcC_u]; omega
  · simp [Around.under, pushGuards, tcC_g]
  · exact ⟨fr, by simp [Around.under, pushEnvs, tcC_e]⟩
theorem SCl_insNew {c f : Nat} (nw : NewOk c f) {init : List V → M V} (ok : CxOk C) (hi : SFnC C (D + 1) (U + 1) f init) : SCl C D U (.ref c) (insNewM c init) := fun vs ws μ rv A hA σ s r b σ' e Q E q => by
  refine bnd_e e fun dd σ₁ e1 e => ?_
  obtain ⟨hz1, f1, f2⟩ := alloc_some e1
  simp only at f1 f2
  subst f1 f2
  refine bnd_e e fun aa σ₂ e2 e => ?_
  obtain ⟨hz2, f3, f4⟩ := alloc_some e2
  simp only at f3 f4
  subst f3 f4
  refine bnd_e e fun rr σ₃ e3 e4 => ?_
  obtain ⟨hh, gg, ddr, tk, os⟩ := s
  have X := r.K ok
  refine wpAny_call (make_core (makes_of X (nw.mks C.w.params)) (looks_findIn X (nw.hi C.w.params)) (fun self => bind_fn X self (nw.ty C.w.params)) (.inl rfl) ?_)
  have r1 := r.alloc (o := emptyDict) (vo := .dic []) (t := tk) (d := ddr) rfl hz1 ⟨[], 0, rfl, .nil⟩
  have at_d : (μ ++ [hh.objs.size])[σ.n]? = some hh.objs.size := by rw [← r.len]; simp
  have r2 := r1.alloc (o := instObj c hh.objs.size) (vo := .ins c σ.n) (t := tk) (d := ddr) rfl hz2 ⟨hh.objs.size, mu_ext (List.prefix_append _ _) at_d, rfl⟩
  have hsz : (hh.push emptyDict).objs.size = hh.objs.size + 1 := Heap.size_push ..
  have at_a : (μ ++ [hh.objs.size] ++ [(hh.push emptyDict).objs.size])[σ.n + 1]? = some (hh.objs.size + 1) := by rw [← r.len, hsz]; simp
  have px : μ <+: μ ++ [hh.objs.size] ++ [(hh.push emptyDict).objs.size] := List.IsPrefix.trans (List.prefix_append _ _) (List.prefix_append _ _)
  refine codeAny_mono (hi (.ref (σ.n + 1) :: vs) (.ref (hh.objs.size + 1) :: ws) _ (.cons (.ref _ _ at_a) (rv.ext px)) _ hA.tcC _ _ r2 rr σ₃ e3 (fun v s' => v = .none ∧ Q (.ref (hh.objs.size + 1)) s') E fun μ' s' v hp r' rv' => ?_) fun r s' z => ?_
  · split at e4
    · (first | exact nn e4 | cases e4)
      cases rv'
      exact ⟨rfl, q μ' s' _ (List.IsPrefix.trans px hp) r' (.ref _ _ (mu_ext hp at_a))⟩
    · (first | exact nn e4 | cases e4)
  · rcases r with e | (v | _ | _ | _) <;> first | exact z | exact z.elim
end
end
end Mine
set_option genSizeOf false
set_option genInjectivity false
namespace Mine
noncomputable section
open PySem PySem.W PySem.W.X PyProof.Rows PySem.Calls
set_option maxRecDepth 100000
set_option maxHeartbeats 0
section
variable {C : Cx} {D U : Nat}
noncomputable def accNew (vs : List V) : M V := match vs with
  | [] => accNewM (defD 132 1 2 [.int 0] d132.1) []
  | [x] => accNewM (defD 132 2 2 [] d132.1) [x]
  | _ => no
theorem SCl_acc (ok : CxOk C) (hD : D < 390) (hU : U < 4800) : SCl C D U (.ref 195) accNew := fun vs ws μ rv => by
  induction rv with
  | nil => exact SCl_accNew ok (by omega) (by omega) (SFnC_defAt ok (fun _ => .cons (.int 0 tokI) .nil) do132z (by omega) (d132.2 C ok _ _)) .nil (.inl rfl)
  | cons h t => induction t with
    | nil => exact SCl_accNew ok (by omega) (by omega) (SFnC_defAt ok (fun _ => .nil) do132 (by omega) (d132.2 C ok _ _)) (.cons h .nil) (.inr ⟨_, rfl⟩)
    | cons h' t' => exact fun A hA σ s r b σ' e => by cases e
end
end
end Mine
set_option genSizeOf false
set_option genInjectivity false
namespace Mine
noncomputable section
open PySem PySem.W PyProof.Rows PySem.Calls
set_option maxRecDepth 100000
set_option maxHeartbeats 0
theorem po111_1 : PutOk 111 1 := ⟨by intro _; kernel_rfl, by intro _; kernel_rfl, by intro _; kernel_rfl, by intro _; kernel_rfl, by decide⟩
theorem po111_2 : PutOk 111 2 := ⟨by intro _; kernel_rfl, by intro _; kernel_rfl, by intro _; kernel_rfl, by intro _; kernel_rfl, by decide⟩
theorem po111_3 : PutOk 111 3 := ⟨by intro _; kernel_rfl, by intro _; kernel_rfl, by intro _; kernel_rfl, by intro _; kernel_rfl, by decide⟩
theorem po111_4 : PutOk 111 4 := ⟨by intro _; kernel_rfl, by intro _; kernel_rfl, by intro _; kernel_rfl, by intro _; kernel_rfl, by decide⟩
theorem po111_5 : PutOk 111 5 := ⟨by intro _; kernel_rfl, by intro _; kernel_rfl, by intro _; kernel_rfl, by intro _; kernel_rfl, by decide⟩
theorem po111_6 : PutOk 111 6 := ⟨by intro _; kernel_rfl, by intro _; kernel_rfl, by intro _; kernel_rfl, by intro _; kernel_rfl, by decide⟩
theorem ok52 : GOk 52 := ⟨by kernel_rfl, by kernel_rfl, by kernel_rfl, by kernel_rfl, by decide⟩
theorem do52 : DefOk 52 5 5 [] := ⟨by intro _; kernel_rfl, by intro _; kernel_rfl, by kernel_rfl, by decide, by decide, by kernel_rfl, by kernel_rfl, by kernel_rfl, by kernel_rfl, by kernel_rfl, by
  intro p S ws h; exact ln5 ws h fun a b c d e => by kernel_rfl⟩
noncomputable def d52 : {g : Nat → M VF // ∀ C, CxOk C → ∀ D U, D < 380 → U < 4700 → SXs C D U (GG 52 ok52) (bodyOf 52) g} := ⟨_, fun C ok D U hD hU => by
  refine' SXs_cons ?_ ?_
  refine' SX_insPut 111 1 po111_1 (by assumption) (by rfl) ?_ ?_; rotate_left 2
  exact SE_loc 2 (by kernel_rfl) (by decide)
  exact SE_loc 0 (by kernel_rfl) (by decide)
  refine' SXs_cons ?_ ?_
  refine' SX_insPut 111 2 po111_2 (by assumption) (by rfl) ?_ ?_; rotate_left 2
  exact SE_loc 3 (by kernel_rfl) (by decide)
  exact SE_loc 0 (by kernel_rfl) (by decide)
  refine' SXs_cons ?_ ?_
  refine' SX_insPut 111 3 po111_3 (by assumption) (by rfl) ?_ ?_; rotate_left 2
  refine' SE_call (f := .builtin "len") (by assumption) (by intro _; kernel_rfl) (keep_bi _) ?_ (SCl_lenA (by assumption) (lt_a hD rfl) (lt_a hU rfl)); rotate_left 1
  refine' SEs_cons ?_ ?_
  exact SE_loc 3 (by kernel_rfl) (by decide)
  exact SEs_nil
  exact SE_loc 0 (by kernel_rfl) (by decide)
  refine' SXs_cons ?_ ?_
  refine' SX_insPut 111 4 po111_4 (by assumption) (by rfl) ?_ ?_; rotate_left 2
  exact SE_loc 4 (by kernel_rfl) (by decide)
  exact SE_loc 0 (by kernel_rfl) (by decide)
  refine' SXs_cons ?_ ?_
  refine' SX_insPut 111 5 po111_5 (by assumption) (by rfl) ?_ ?_; rotate_left 2
  refine' SE_list ?_
  exact SEs_nil
  exact SE_loc 0 (by kernel_rfl) (by decide)
  refine' SXs_cons ?_ ?_
  refine' SX_insPut 111 6 po111_6 (by assumption) (by rfl) ?_ ?_; rotate_left 2
  refine' SE_call (f := .ref 195) (by assumption) (by intro _; kernel_rfl) (keep_ref (by kernel_rfl)) ?_ (SCl_acc (by assumption) (lt_a hD rfl) (lt_a hU rfl)); rotate_left 1
  refine' SEs_cons ?_ ?_
  exact SE_loc 1 (by kernel_rfl) (by decide)
  exact SEs_nil
  exact SE_loc 0 (by kernel_rfl) (by decide)
  exact SXs_nil⟩
theorem cc52 {C : Cx} {D U : Nat} (ok : CxOk C) (hD : D < 379) (hU : U < 4697) : SFnC C D U 52 (defD 52 5 5 [] d52.1) := SFnC_def ok (fun _ => .nil) do52 (lt_a hD rfl) (d52.2 C ok _ _ (lt_1 hD rfl) (lt_3 hU rfl))
theorem nw111 : NewOk 111 52 := ⟨by intro _; kernel_rfl, by intro _; kernel_rfl, by intro _; kernel_rfl⟩
noncomputable def vfNew : List V → M V := insNewM 111 (defD 52 5 5 [] d52.1)
theorem SCl_vf {C : Cx} {D U : Nat} (ok : CxOk C) (hD : D < 370) (hU : U < 4690) : SCl C D U (.ref 111) vfNew := SCl_insNew nw111 ok (cc52 ok (lt_1 hD rfl) (lt_1 hU rfl))
theorem ok59 : GOk 59 := ⟨by kernel_rfl, by kernel_rfl, by kernel_rfl, by kernel_rfl, by decide⟩
theorem do59 : DefOk 59 2 2 [] := ⟨by intro _; kernel_rfl, by intro _; kernel_rfl, by kernel_rfl, by decide, by decide, by kernel_rfl, by kernel_rfl, by kernel_rfl, by kernel_rfl, by kernel_rfl, by
  intro p S ws h; exact ln2 ws h fun a b => by kernel_rfl⟩
noncomputable def d59 : {g : Nat → M VF // ∀ C, CxOk C → ∀ D U, D < 740 → U < 4790 → SXs C D U (GG 59 ok59) (bodyOf 59) g} := ⟨_, fun C ok D U hD hU => by
  refine' SXs_cons ?_ ?_
  refine' SX_expr ?_ (by intro _; kernel_rfl)
  refine' SE_meth 111 73 (by assumption) ?_ ?_ (c73 (by assumption) (lt_a hD rfl) (lt_a hU rfl)) (hev := fun _ _ _ _ _ h => evA rfl h); rotate_left 2
  exact SE_loc 0 (by kernel_rfl) (by decide)
  exact SEs_nil
  refine' SXs_cons ?_ ?_
  refine' SX_ret ?_
  with_reducible refine' SE_strM "str.join" F.slot_str_join F.type_str_join (by assumption) ?_ ?_ (SCl_join (by assumption)) (hbase := by intro _; with_unfolding_all rfl) (hfew := by intro _; with_unfolding_all rfl) (hline := by with_unfolding_all rfl) (hpl := by intro _; with_unfolding_all rfl); rotate_left 2
  exact SE_loc 1 (by kernel_rfl) (by decide)
  refine' SEs_cons ?_ ?_
  refine' SE_attr 111 5 (by assumption) ?_; rotate_left 1
  exact SE_loc 0 (by kernel_rfl) (by decide)
  exact SEs_nil
  exact SXs_nil⟩
theorem c59 {C : Cx} {D U : Nat} (ok : CxOk C) (hD : D < 739) (hU : U < 4787) : SFn C D U 59 (defD 59 2 2 [] d59.1) := SFn_def2 ok (fun _ => .nil) do59 (lt_a hD rfl) (d59.2 C ok _ _ (lt_1 hD rfl) (lt_3 hU rfl))
end
end Mine
set_option genSizeOf false
set_option genInjectivity false
namespace Mine
noncomputable section
open PySem PySem.W PyProof.Rows PySem.Calls
set_option maxRecDepth 100000
set_option maxHeartbeats 0
section
variable {C : Cx} {D U : Nat} {Γ : FE}
theorem SE_neg {i : Int} {k : Nat} {pos pos' : Pos} : SE C D U Γ (.UnaryOp .USub (.Constant (.int i) k pos) pos') (fun _ => ret (.int (-i))) := fun l L μ hok hl A hA σ s r b σ' e Q E q => by
  (first | (have q := qc e q) | (have q := qcB e q) | cases e)
  exact UnaryOp_ (wpAny_Constant_int (neg_int (q μ _ _ (List.prefix_refl _) (r.toks s.heap s.gens _ _ rfl rfl) (.int _ _))))
end
theorem do391 : DefOk 391 2 5 [] := ⟨by intro _; kernel_rfl, by intro _; kernel_rfl, by kernel_rfl, by decide, by decide, by kernel_rfl, by kernel_rfl, by kernel_rfl, by kernel_rfl, by kernel_rfl, by
  intro p S ws h; exact ln2 ws h fun a b => by kernel_rfl⟩
noncomputable def d391 : {g : Nat → M VF // ∀ C, CxOk C → ∀ D U, D < 350 → U < 4600 → SXs C D U (GG 391 ok391) (bodyOf 391) g} := ⟨_, fun C ok D U hD hU => by
  refine' SXs_cons ?_ ?_
  refine' SX_assign 2 ?_ (by kernel_rfl)
  refine' SE_list ?_
  exact SEs_nil
  refine' SXs_cons ?_ ?_
  refine' SX_assign 3 ?_ (by kernel_rfl)
  exact SE_int
  refine' SXs_cons ?_ ?_
  refine' SX_for 100 ?_ ?_ ?_
  refine' SE_call (f := .type "range") (by assumption) (by intro _; kernel_rfl) (keep_type _) ?_ SCl_range2; rotate_left 1
  refine' SEs_cons ?_ ?_
  exact SE_int
  exact SEs_nil
  exact SAsg_name 4 (by kernel_rfl)
  refine' SXs_cons ?_ ?_
  refine' SX_expr ?_ (by intro _; kernel_rfl)
  refine' SE_append ?_ ?_
  exact SE_loc 2 (by kernel_rfl) (by decide)
  refine' SE_bin (SOp_add (by assumption)) ?_ ?_; rotate_left 2
  refine' SE_bin (SOp_add (by assumption)) ?_ ?_; rotate_left 2
  refine' SE_bin (SOp_mul (by assumption)) ?_ ?_; rotate_left 2
  exact SE_str (by rfl)
  refine' SE_bin SOp_sub ?_ ?_; rotate_left 2
  exact SE_loc 3 (by kernel_rfl) (by decide)
  refine' SE_sub2 (by assumption) ?_ ?_; rotate_left 2
  exact SE_loc 0 (by kernel_rfl) (by decide)
  exact SE_loc 4 (by kernel_rfl) (by decide)
  exact SE_str (by rfl)
  refine' SE_sub2 (by assumption) ?_ ?_; rotate_left 2
  exact SE_loc 1 (by kernel_rfl) (by decide)
  exact SE_loc 4 (by kernel_rfl) (by decide)
  refine' SXs_cons ?_ ?_
  refine' SX_assign 3 ?_ (by kernel_rfl)
  refine' SE_bin (SOp_add (by assumption)) ?_ ?_; rotate_left 2
  refine' SE_sub2 (by assumption) ?_ ?_; rotate_left 2
  exact SE_loc 0 (by kernel_rfl) (by decide)
  exact SE_loc 4 (by kernel_rfl) (by decide)
  exact SE_int
  exact SXs_nil
  refine' SXs_cons ?_ ?_
  refine' SX_ret ?_
  refine' SE_bin (SOp_add (by assumption)) ?_ ?_; rotate_left 2
  exact SE_loc 2 (by kernel_rfl) (by decide)
  refine' SE_list ?_
  refine' SEs_cons ?_ ?_
  refine' SE_bin (SOp_mul (by assumption)) ?_ ?_; rotate_left 2
  exact SE_str (by rfl)
  exact SE_loc 3 (by kernel_rfl) (by decide)
  exact SEs_nil
  exact SXs_nil⟩
theorem c391 {C : Cx} {D U : Nat} (ok : CxOk C) (hD : D < 349) (hU : U < 4597) : SFn C D U 391 (defD 391 2 5 [] d391.1) := SFn_def2 ok (fun _ => .nil) do391 (lt_a hD rfl) (d391.2 C ok _ _ (lt_1 hD rfl) (lt_3 hU rfl))
theorem ok412 : GOk 412 := ⟨by kernel_rfl, by kernel_rfl, by kernel_rfl, by kernel_rfl, by decide⟩
theorem do412 : DefOk 412 1 6 [] := ⟨by intro _; kernel_rfl, by intro _; kernel_rfl, by kernel_rfl, by decide, by decide, by kernel_rfl, by kernel_rfl, by kernel_rfl, by kernel_rfl, by kernel_rfl, by
  intro p S ws h; exact ln1 ws h fun a => by kernel_rfl⟩
noncomputable def d412 : {g : Nat → M VF // ∀ C, CxOk C → ∀ D U, D < 350 → U < 4600 → SXs C D U (GG 412 ok412) (bodyOf 412) g} := ⟨_, fun C ok D U hD hU => by
  refine' SXs_cons ?_ ?_
  refine' SX_assign 1 ?_ (by kernel_rfl)
  refine' SE_call (f := .ref 195) (by assumption) (by intro _; kernel_rfl) (keep_ref (by kernel_rfl)) ?_ (SCl_acc (by assumption) (lt_a hD rfl) (lt_a hU rfl)); rotate_left 1
  refine' SEs_cons ?_ ?_
  exact SE_int
  exact SEs_nil
  refine' SXs_cons ?_ ?_
  refine' SX_assign 2 ?_ (by kernel_rfl)
  refine' SE_call (f := .ref 195) (by assumption) (by intro _; kernel_rfl) (keep_ref (by kernel_rfl)) ?_ (SCl_acc (by assumption) (lt_a hD rfl) (lt_a hU rfl)); rotate_left 1
  exact SEs_nil
  refine' SXs_cons ?_ ?_
  refine' SX_assign 3 ?_ (by kernel_rfl)
  refine' SE_call (f := .ref 111) (by assumption) (by intro _; kernel_rfl) (keep_ref (by kernel_rfl)) ?_ (SCl_vf (by assumption) (lt_a hD rfl) (lt_a hU rfl)); rotate_left 1
  refine' SEs_cons ?_ ?_
  exact SE_int
  refine' SEs_cons ?_ ?_
  exact SE_int
  refine' SEs_cons ?_ ?_
  exact SE_str (by rfl)
  refine' SEs_cons ?_ ?_
  exact SE_str (by rfl)
  exact SEs_nil
  refine' SXs_cons ?_ ?_
  refine' SX_assign 4 ?_ (by kernel_rfl)
  refine' SE_list ?_
  exact SEs_nil
  refine' SXs_cons ?_ ?_
  refine' SX_for 100 ?_ ?_ ?_
  exact SE_loc 0 (by kernel_rfl) (by decide)
  exact SAsg_name 5 (by kernel_rfl)
  refine' SXs_cons ?_ ?_
  refine' SX_if ?_ ?_ ?_
  refine' ST_cmp (SCmp_ne2 (by assumption) (lt_30 hU rfl)) ?_ ?_; rotate_left 2
  exact SE_loc 5 (by kernel_rfl) (by decide)
  exact SE_str (by rfl)
  refine' SXs_cons ?_ ?_
  refine' SX_expr ?_ (by intro _; kernel_rfl)
  refine' SE_append ?_ ?_
  exact SE_loc 4 (by kernel_rfl) (by decide)
  refine' SE_bin (SOp_add (by assumption)) ?_ ?_; rotate_left 2
  refine' SE_methA (.ref 192) "function" (by assumption) ?_ ?_ (c192 (by assumption) (lt_a hD rfl) (lt_a hU rfl)) (hkp := keep_ref (by kernel_rfl)); rotate_left 2
  exact SE_loc 1 (by kernel_rfl) (by decide)
  exact SEs_nil
  refine' SE_methA (.ref 192) "function" (by assumption) ?_ ?_ (c192 (by assumption) (lt_a hD rfl) (lt_a hU rfl)) (hkp := keep_ref (by kernel_rfl)); rotate_left 2
  exact SE_loc 2 (by kernel_rfl) (by decide)
  exact SEs_nil
  refine' SXs_cons ?_ ?_
  refine' SX_expr ?_ (by intro _; kernel_rfl)
  refine' SE_methA (.ref 139) "function" (by assumption) ?_ ?_ (c139 (by assumption) (lt_a hD rfl) (lt_a hU rfl)) (hkp := keep_ref (by kernel_rfl)); rotate_left 2
  exact SE_loc 1 (by kernel_rfl) (by decide)
  refine' SEs_cons ?_ ?_
  exact SE_str (by rfl)
  refine' SEs_cons ?_ ?_
  refine' SE_subS (by assumption) ?_ ?_; rotate_left 2
  exact SE_loc 5 (by kernel_rfl) (by decide)
  refine' SE_slice ?_ ?_ ?_
  refine' SP_some ?_
  exact SE_int
  exact SP_none
  exact SP_none
  exact SEs_nil
  exact SXs_nil
  refine' SXs_cons ?_ ?_
  refine' SX_if ?_ ?_ ?_
  refine' ST_cmp (SCmp_eq2 (by assumption) (lt_30 hU rfl)) ?_ ?_; rotate_left 2
  refine' SE_methA (.ref 192) "function" (by assumption) ?_ ?_ (c192 (by assumption) (lt_a hD rfl) (lt_a hU rfl)) (hkp := keep_ref (by kernel_rfl)); rotate_left 2
  exact SE_loc 2 (by kernel_rfl) (by decide)
  exact SEs_nil
  exact SE_int
  refine' SXs_cons ?_ ?_
  refine' SX_expr ?_ (by intro _; kernel_rfl)
  refine' SE_meth 111 73 (by assumption) ?_ ?_ (c73 (by assumption) (lt_a hD rfl) (lt_a hU rfl)) (hev := fun _ _ _ _ _ h => evA rfl h); rotate_left 2
  exact SE_loc 3 (by kernel_rfl) (by decide)
  exact SEs_nil
  refine' SXs_cons ?_ ?_
  refine' SX_expr ?_ (by intro _; kernel_rfl)
  refine' SE_methA (.ref 177) "function" (by assumption) ?_ ?_ (c177b (by assumption) (lt_a hD rfl) (lt_a hU rfl)) (hkp := keep_ref (by kernel_rfl)); rotate_left 2
  exact SE_loc 2 (by kernel_rfl) (by decide)
  refine' SEs_cons ?_ ?_
  refine' SE_subS (by assumption) ?_ ?_; rotate_left 2
  refine' SE_methA (.ref 147) "function" (by assumption) ?_ ?_ (c147 (by assumption) (lt_a hD rfl) (lt_a hU rfl)) (hkp := keep_ref (by kernel_rfl)); rotate_left 2
  exact SE_loc 1 (by kernel_rfl) (by decide)
  refine' SEs_cons ?_ ?_
  exact SE_int
  exact SEs_nil
  refine' SE_slice ?_ ?_ ?_
  exact SP_none
  exact SP_none
  refine' SP_some ?_
  exact SE_neg
  exact SEs_nil
  exact SXs_nil
  exact SXs_nil
  refine' SXs_cons ?_ ?_
  refine' SX_expr ?_ (by intro _; kernel_rfl)
  refine' SE_meth 111 108 (by assumption) ?_ ?_ (c108 (by assumption) (lt_a hD rfl) (lt_a hU rfl)) (hev := fun _ _ _ _ _ h => evA rfl h); rotate_left 2
  exact SE_loc 3 (by kernel_rfl) (by decide)
  refine' SEs_cons ?_ ?_
  exact SE_str (by rfl)
  refine' SEs_cons ?_ ?_
  refine' SE_sub2 (by assumption) ?_ ?_; rotate_left 2
  refine' SE_methA (.ref 155) "function" (by assumption) ?_ ?_ (c155 (by assumption) (lt_a hD rfl) (lt_a hU rfl)) (hkp := keep_ref (by kernel_rfl)); rotate_left 2
  exact SE_loc 2 (by kernel_rfl) (by decide)
  exact SEs_nil
  exact SE_int
  exact SEs_nil
  refine' SXs_cons ?_ ?_
  refine' SX_expr ?_ (by intro _; kernel_rfl)
  refine' SE_meth 111 80 (by assumption) ?_ ?_ (c80 (by assumption) (lt_a hD rfl) (lt_a hU rfl)) (hev := fun _ _ _ _ _ h => evA rfl h); rotate_left 2
  exact SE_loc 3 (by kernel_rfl) (by decide)
  exact SEs_nil
  exact SXs_nil
  exact SXs_nil
  refine' SXs_cons ?_ ?_
  refine' SX_ret ?_
  refine' SE_tup ?_
  refine' SEs_cons ?_ ?_
  exact SE_loc 4 (by kernel_rfl) (by decide)
  refine' SEs_cons ?_ ?_
  refine' SE_meth 111 59 (by assumption) ?_ ?_ (c59 (by assumption) (lt_a hD rfl) (lt_a hU rfl)) (hev := fun _ _ _ _ _ h => evA rfl h); rotate_left 2
  exact SE_loc 3 (by kernel_rfl) (by decide)
  refine' SEs_cons ?_ ?_
  exact SE_str (by rfl)
  exact SEs_nil
  exact SEs_nil
  exact SXs_nil⟩
theorem c412 {C : Cx} {D U : Nat} (ok : CxOk C) (hD : D < 349) (hU : U < 4597) : SFn C D U 412 (defD 412 1 6 [] d412.1) := SFn_def2 ok (fun _ => .nil) do412 (lt_a hD rfl) (d412.2 C ok _ _ (lt_1 hD rfl) (lt_3 hU rfl))
theorem ok426 : GOk 426 := ⟨by kernel_rfl, by kernel_rfl, by kernel_rfl, by kernel_rfl, by decide⟩
theorem do426 : DefOk 426 1 10 [] := ⟨by intro _; kernel_rfl, by intro _; kernel_rfl, by kernel_rfl, by decide, by decide, by kernel_rfl, by kernel_rfl, by kernel_rfl, by kernel_rfl, by kernel_rfl, by
  intro p S ws h; exact ln1 ws h fun a => by kernel_rfl⟩
noncomputable def d426 : {g : Nat → M VF // ∀ C, CxOk C → ∀ D U, D < 350 → U < 4600 → SXs C D U (GG 426 ok426) (bodyOf 426) g} := ⟨_, fun C ok D U hD hU => by
  refine' SXs_cons ?_ ?_
  refine' SX_assign 1 ?_ (by kernel_rfl)
  refine' SE_call (f := .ref 195) (by assumption) (by intro _; kernel_rfl) (keep_ref (by kernel_rfl)) ?_ (SCl_acc (by assumption) (lt_a hD rfl) (lt_a hU rfl)); rotate_left 1
  exact SEs_nil
  refine' SXs_cons ?_ ?_
  refine' SX_assign 2 ?_ (by kernel_rfl)
  exact SE_int
  refine' SXs_cons ?_ ?_
  refine' SX_assign 3 ?_ (by kernel_rfl)
  exact SE_int
  refine' SXs_cons ?_ ?_
  refine' SX_assign 4 ?_ (by kernel_rfl)
  exact SE_int
  refine' SXs_cons ?_ ?_
  refine' SX_assign 5 ?_ (by kernel_rfl)
  exact SE_int
  refine' SXs_cons ?_ ?_
  refine' SX_for 100 ?_ ?_ ?_
  exact SE_loc 0 (by kernel_rfl) (by decide)
  exact SAsg_name 6 (by kernel_rfl)
  refine' SXs_cons ?_ ?_
  refine' SX_if ?_ ?_ ?_
  refine' ST_cmp (SCmp_eq2 (by assumption) (lt_30 hU rfl)) ?_ ?_; rotate_left 2
  exact SE_loc 6 (by kernel_rfl) (by decide)
  exact SE_str (by rfl)
  refine' SXs_cons ?_ ?_
  refine' SX_if ?_ ?_ ?_
  refine' ST_cmp (SCmp_eq2 (by assumption) (lt_30 hU rfl)) ?_ ?_; rotate_left 2
  exact SE_loc 4 (by kernel_rfl) (by decide)
  exact SE_int
  refine' SXs_cons ?_ ?_
  refine' SX_aug 2 SIn_add ?_ (by kernel_rfl); rotate_left 1
  exact SE_int
  refine' SXs_cons ?_ ?_
  refine' SX_assign 3 ?_ (by kernel_rfl)
  exact SE_int
  refine' SXs_cons ?_ ?_
  refine' SX_assign 4 ?_ (by kernel_rfl)
  exact SE_loc 5 (by kernel_rfl) (by decide)
  refine' SXs_cons ?_ ?_
  refine' SX_assign 5 ?_ (by kernel_rfl)
  exact SE_int
  exact SXs_nil
  exact SXs_nil
  refine' SXs_cons ?_ ?_
  refine' SX_aug 4 SIn_sub ?_ (by kernel_rfl); rotate_left 1
  exact SE_int
  refine' SXs_cons ?_ ?_
  refine' SX_while 100 ?_ ?_
  refine' ST_cmp (SCmp_ne2 (by assumption) (lt_30 hU rfl)) ?_ ?_; rotate_left 2
  refine' SE_sub2 (by assumption) ?_ ?_; rotate_left 2
  refine' SE_sub2 (by assumption) ?_ ?_; rotate_left 2
  exact SE_loc 1 (by kernel_rfl) (by decide)
  exact SE_loc 3 (by kernel_rfl) (by decide)
  exact SE_int
  refine' SE_bin (SOp_mul (by assumption)) ?_ ?_; rotate_left 2
  exact SE_str (by rfl)
  refine' SE_bin SOp_sub ?_ ?_; rotate_left 2
  exact SE_loc 2 (by kernel_rfl) (by decide)
  exact SE_int
  refine' SXs_cons ?_ ?_
  refine' SX_aug 3 SIn_add ?_ (by kernel_rfl); rotate_left 1
  exact SE_int
  exact SXs_nil
  refine' SXs_cons ?_ ?_
  refine' SX_aug 3 SIn_add ?_ (by kernel_rfl); rotate_left 1
  exact SE_int
  exact SXs_nil
  refine' SXs_cons ?_ ?_
  refine' SX_assign 7 ?_ (by kernel_rfl)
  refine' SE_methA (.ref 147) "function" (by assumption) ?_ ?_ (c147 (by assumption) (lt_a hD rfl) (lt_a hU rfl)) (hkp := keep_ref (by kernel_rfl)); rotate_left 2
  exact SE_loc 1 (by kernel_rfl) (by decide)
  refine' SEs_cons ?_ ?_
  exact SE_loc 3 (by kernel_rfl) (by decide)
  exact SEs_nil
  refine' SXs_cons ?_ ?_
  refine' SX_expr ?_ (by intro _; kernel_rfl)
  refine' SE_methA (.ref 139) "function" (by assumption) ?_ ?_ (c139 (by assumption) (lt_a hD rfl) (lt_a hU rfl)) (hkp := keep_ref (by kernel_rfl)); rotate_left 2
  exact SE_loc 1 (by kernel_rfl) (by decide)
  refine' SEs_cons ?_ ?_
  refine' SE_bin (SOp_mul (by assumption)) ?_ ?_; rotate_left 2
  exact SE_str (by rfl)
  exact SE_loc 2 (by kernel_rfl) (by decide)
  refine' SEs_cons ?_ ?_
  refine' SE_subS (by assumption) ?_ ?_; rotate_left 2
  exact SE_loc 6 (by kernel_rfl) (by decide)
  refine' SE_slice ?_ ?_ ?_
  refine' SP_some ?_
  exact SE_int
  exact SP_none
  exact SP_none
  exact SEs_nil
  refine' SXs_cons ?_ ?_
  refine' SX_for 100 ?_ ?_ ?_
  exact SE_loc 7 (by kernel_rfl) (by decide)
  refine' SAsg_pair ?_ ?_
  exact SAsg_name 8 (by kernel_rfl)
  exact SAsg_name 9 (by kernel_rfl)
  refine' SXs_cons ?_ ?_
  refine' SX_expr ?_ (by intro _; kernel_rfl)
  refine' SE_methA (.ref 139) "function" (by assumption) ?_ ?_ (c139 (by assumption) (lt_a hD rfl) (lt_a hU rfl)) (hkp := keep_ref (by kernel_rfl)); rotate_left 2
  exact SE_loc 1 (by kernel_rfl) (by decide)
  refine' SEs_cons ?_ ?_
  exact SE_loc 8 (by kernel_rfl) (by decide)
  refine' SEs_cons ?_ ?_
  exact SE_loc 9 (by kernel_rfl) (by decide)
  exact SEs_nil
  exact SXs_nil
  refine' SXs_cons ?_ ?_
  refine' SX_aug 3 SIn_add ?_ (by kernel_rfl); rotate_left 1
  exact SE_int
  refine' SXs_cons ?_ ?_
  refine' SX_aug 5 SIn_add ?_ (by kernel_rfl); rotate_left 1
  exact SE_int
  exact SXs_nil
  exact SXs_nil
  refine' SXs_cons ?_ ?_
  refine' SX_ret ?_
  exact SE_loc 1 (by kernel_rfl) (by decide)
  exact SXs_nil⟩
theorem c426 {C : Cx} {D U : Nat} (ok : CxOk C) (hD : D < 349) (hU : U < 4597) : SFn C D U 426 (defD 426 1 10 [] d426.1) := SFn_def2 ok (fun _ => .nil) do426 (lt_a hD rfl) (d426.2 C ok _ _ (lt_1 hD rfl) (lt_3 hU rfl))
end
end Mine
set_option genSizeOf false
set_option genInjectivity false
namespace Mine
noncomputable section
open PySem PySem.W PyProof.Rows PySem.Calls
set_option maxRecDepth 100000
set_option maxHeartbeats 0
/-! cells -/
noncomputable def cellGet (i : Nat) : M V := fun σ => match σ.get i with
  | some (.cell (some v)) => some (v, σ)
  | _ => none
noncomputable def cellSet (i : Nat) (v : V) : M Unit := fun σ => match Nat.blt σ.n 60001 with
  | true => match σ.get i with
    | some (.cell _) => some ((), σ.put i (.cell (some v)))
    | _ => none
  | false => none
structure CellAt (Γ : FE) (x : Str) (i : Nat) (c : Addr) : Prop where
  hk : ∀ L, (Γ.env L).kindOf x = some .cell
  hc : ∀ L, (Γ.env L).cells.lookup x = some c
  hm : ∀ μ, Γ.ok μ → μ[i]? = some c
section
variable {C : Cx} {D U : Nat} {Γ : FE}
theorem SE_cell {x : Str} {pos : Pos} {i : Nat} {c : Addr} (h : CellAt Γ x i c) (hd : autoParam ((x == ("__debug__" : Str)) = false) au4._auto_1) : SE C D U Γ (.Name x pos) (fun _ => cellGet i) := fun l L μ hok hl A hA σ s r b σ' e Q E q => by
  replace e : cellGet i σ = some (b, σ') := e
  unfold cellGet at e
  split at e
  · rename_i v e1
    (first | (have q := qc e q) | (have q := qcB e q) | cases e)
    obtain ⟨o, ho, w, hw, rw⟩ := r.at e1 (h.hm μ hok)
    cases rw with
    | some rv => exact wpAny_Name (wpAny_loadName_cell (Γ.fn L) (h.hk L) (h.hc L) ⟨o, ho, hw⟩ (q μ s _ (List.prefix_refl _) r rv)) hd
  · (first | exact nn e | cases e)
theorem store_cell {x : Str} {i : Nat} {c : Addr} (h : CellAt Γ x i c) {L : Addr} {μ : List Addr} (hok : Γ.ok μ) {v : V} {w : Value} (rv : RV C μ v w) :
    Snd C D U (fun _ _ _ => True) (storeName (Γ.env L) x w) (cellSet i v) μ := fun A hA σ s r b σ' e Q E q => by
  unfold cellSet at e
  split at e
  · rename_i hb
    have hb : σ.n < 60001 := Nat.le_of_ble_eq_true hb
    split at e
    · rename_i v0 e1
      (first | (have q := qc e q) | (have q := qcB e q) | cases e)
      have hm := h.hm μ hok
      refine Rel.at_e r e1 hm (fun o ho hzz => ?_); obtain ⟨w0, hw, rw⟩ := hzz
      refine wpAny_storeName_cell (Γ.fn L) (h.hk L) (h.hc L) ⟨o, ho, hw⟩ fun h' hc hs => ?_
      obtain ⟨o', ho', hd'⟩ := hc
      exact q μ _ () (List.prefix_refl _) (r.put e1 rfl hm hb hs.extBut fun _ => ⟨o', ho', _, hd', .some rv⟩) trivial
    · (first | exact nn e | cases e)
  · (first | exact nn e | cases e)
theorem SX_assignC {x : Str} {pos' pos : Pos} {e : Expr} {f : Nat → M V} {i : Nat} {c : Addr} (hc : CellAt Γ x i c) (h : SE C D U Γ e f)
    (hs : autoParam (∀ L, swapsWith e (some (.Name x pos')) pos.line (Γ.env L) = pure false) au1._auto_1) : SX C D U Γ (.Assign [.Name x pos'] e pos) (fun l => bnd (f l) fun v => bnd (cellSet i v) fun _ => ret .next) :=
  fun l L μ hok hl A hA σ s r b σ' e Q E q => by
  refine bnd_e e fun v σ₁ e1 e2 => ?_
  refine bnd_e e2 fun _ σ₂ e3 e4 => ?_
  (first | (have q := qc e4 q) | (have q := qcB e4 q) | cases e4)
  refine wpAny_Assign_Name (h l L μ hok hl A hA σ s r v σ₁ e1 _ E fun μ' s' w hp r' rv => ?_) (hs L)
  exact store_cell hc (Γ.mono hp hok) rv A hA σ₁ s' r' () _ e3 _ E fun μ'' s'' _ hp' r'' _ => q μ'' s'' .next (List.IsPrefix.trans hp hp') r'' .next
theorem SAsg_cell {x : Str} {pos : Pos} {i : Nat} {c : Addr} (hc : CellAt Γ x i c) : SAsg C D U Γ (.Name x pos) (fun _ v => cellSet i v) :=
  fun _ _ _ _ _ hok _ rv A hA σ s r b σ' e Q E q => wpAny_assign_Name (store_cell hc hok rv A hA σ s r b σ' e Q E q)
/-! comprehensions -/
noncomputable def STs (C : Cx) (D U : Nat) (Γ : FE) (ifs : List Expr) (f : Nat → M Bool) : Prop := ∀ l L μ, Γ.ok μ → μ[l]? = some L →
  Snd C D U BR (forIn ifs true fun c r => if r = true then do let ok ← isTrue c (Γ.env L) (eval c (Γ.env L)); pure (ForInStep.yield ok) else pure (ForInStep.yield r)) (f l) μ
theorem STs_nil : STs C D U Γ [] (fun _ => ret true) := fun l L μ hok hl A hA σ s r b σ' e Q E q => by
  (first | (have q := qc e q) | (have q := qcB e q) | cases e)
  exact wpAny_tests_nil (q μ s _ (List.prefix_refl _) r rfl)
theorem STs_one {c : Expr} {f : Nat → M Bool} (h : STt C D U Γ c f) : STs C D U Γ [c] f := fun l L μ hok hl A hA σ s r b σ' e Q E q =>
  wpAny_tests_one (h l L μ hok hl A hA σ s r b σ' e Q E q)
noncomputable def compLoopM (nx : M (Option V)) (asg : V → M Unit) (ts : M Bool) (el : M V) (acc : V) : Nat → M Unit
  | 0 => no
  | n + 1 => bnd nx fun r => match r with
    | none => ret ()
    | some v => bnd (asg v) fun _ => bnd ts fun b => match b with
      | true => bnd el fun x => bnd (appM acc x) fun _ => compLoopM nx asg ts el acc n
      | false => compLoopM nx asg ts el acc n
theorem compLoop_snd {elt iter target : Expr} {ifs : List Expr} {scope : Scope} {pos : Pos} {fa : Nat → V → M Unit} {ft : Nat → M Bool} {fe : Nat → M V} (ha : SAsg C D U Γ target fa) (ht : STs C D U Γ ifs ft) (he : SE C D U Γ elt fe)
    {lc : Nat} {Lc : Addr} {μ : List Addr} (hok : Γ.ok μ) (hl : μ[lc]? = some Lc) {itv : V} {it : Value} (rv : RV C μ itv it) {accv : V} {acc : Value} (ra : RV C μ accv acc)
    {A : Around} (hA : AOk D U A) (n : Nat) {σ : St} {s : Shared} (r : Rel C μ σ s) {σ' : St} (e : compLoopM (nextM itv) (fa lc) (ft lc) (fe lc) accv n σ = some ((), σ')) {R : Result → Shared → Prop}
    (q : ∀ μ' s', μ <+: μ' → Rel C μ' σ' s' → R (.ok .next) s') (hown : autoParam (∀ v, letOwnedTupleGo target it v = pure ()) au1._auto_1) :
    codeAny (model P C.w) A (.compLoop (.ListComp elt [⟨target, iter, ifs, 0⟩] scope pos) 0 it acc (Γ.env Lc)) R s := by
  refine codeAny_compLoop_tests (I := fun n s => ∃ μ₁ σ₁, μ <+: μ₁ ∧ Rel C μ₁ σ₁ s ∧ compLoopM (nextM itv) (fa lc) (ft lc) (fe lc) accv n σ₁ = some ((), σ')) (fun n s hI => ?_) n ⟨μ, σ, List.prefix_refl _, r, e⟩ hown
  obtain ⟨μ₁, σ₁, hp, r₁, e₁⟩ := hI
  cases n with
  | zero => (first | exact nn e₁ | cases e₁)
  | succ n =>
    refine bnd_e e₁ fun c σ₂ e2 e3 => ?_
    refine next_snd (rv.ext hp) A hA σ₁ s r₁ c σ₂ e2 _ _ fun μ₂ s₂ c' hp2 r₂ hc => ?_
    have h2 := List.IsPrefix.trans hp hp2
    induction hc with
    | none => cases e3; exact q μ₂ s₂ h2 r₂
    | @some v w rvv =>
      refine bnd_e e3 fun _ σ₃ e4 e5 => ?_
      refine bnd_e e5 fun bb σ₄ e6 e7 => ?_
      refine ha lc Lc μ₂ v w (Γ.mono h2 hok) (mu_ext h2 hl) rvv A hA σ₂ s₂ r₂ () σ₃ e4 _ _ fun μ₃ s₃ _ hp3 r₃ _ => ?_
      have h3 := List.IsPrefix.trans h2 hp3
      refine ht lc Lc μ₃ (Γ.mono h3 hok) (mu_ext h3 hl) A hA σ₃ s₃ r₃ bb σ₄ e6 _ _ fun μ₄ s₄ okb hp4 r₄ hb => ?_
      have h4 := List.IsPrefix.trans h3 hp4
      cases hb
      cases bb with
      | true =>
        refine bnd_e e7 fun x σ₅ e8 e9 => ?_
        refine bnd_e e9 fun _ σ₆ e10 e11 => ?_
        refine rwG (if_pos rfl) ?_
        refine he lc Lc μ₄ (Γ.mono h4 hok) (mu_ext h4 hl) A hA σ₄ s₄ r₄ x σ₅ e8 _ _ fun μ₅ s₅ xw hp5 r₅ rx => ?_
        have h5 := List.IsPrefix.trans h4 hp5
        refine app_snd (ra.ext h5) rx A hA σ₅ s₅ r₅ _ σ₆ e10 _ _ fun μ₆ s₆ _ hp6 r₆ _ => ?_
        exact ⟨n, Nat.lt_succ_self _, μ₆, σ₆, List.IsPrefix.trans h5 hp6, r₆, e11⟩
      | false =>
        refine rwG (if_neg (by decide)) ?_
        exact ⟨n, Nat.lt_succ_self _, μ₄, σ₄, h4, r₄, e7⟩
/-- an iterator is its own iterator -/
noncomputable def isIter (v : V) (σ : St) : Bool := match v with
  | .ref n => match σ.get n with
    | some (.lit _ _) => true
    | some (.tit _ _) => true
    | some (.rit _ _ _) => true
    | some (.sit _ _) => true
    | _ => false
  | _ => false
theorem iter_self {μ : List Addr} {σ : St} {s : Shared} (r : Rel C μ σ s) {v : V} {w : Value} (rv : RV C μ v w) (hi : isIter v σ = true) {A : Around} {Q : Value → Shared → Prop} {E : Value → Shared → Prop} (q : Q w s) : wpAny (model P C.w) A (pyIter w) Q E s := by
  unfold isIter at hi
  induction rv with
  | ref n a hn =>
    simp only at hi
    split at hi
    · rename_i e1
      refine Rel.at_e r e1 hn (fun o ho hzz => ?_); obtain ⟨b', hsrc, hc, hd⟩ := hzz
      exact wpAny_pyIter_listiter ⟨o, ho, hc, hd⟩ q
    · rename_i e1
      refine Rel.at_e r e1 hn (fun o ho hzz => ?_); obtain ⟨b', hsrc, hc, hd⟩ := hzz
      exact wpAny_pyIter_tupleiter ⟨o, ho, hc, hd⟩ q
    · rename_i e1
      refine Rel.at_e r e1 hn (fun o ho hr => ?_)
      exact wpAny_pyIter_rangeiter (by rw [IsRangeIter, ho]; exact congrArg some hr) q
    · rename_i e1
      refine Rel.at_e r e1 hn (fun o ho hzz => ?_); obtain ⟨t, hc, hd⟩ := hzz
      exact wpAny_pyIter_striter_ascii ⟨o, ho, hc, hd⟩ q
    · (first | exact nn hi | cases hi)
  | _ => (first | exact nn hi | cases hi)
/-! what a comprehension takes along -/
noncomputable def clGo (env : Env) : List (Str × NameKind) → List (Str × Addr) → List (Str × Addr)
  | [], cs => cs
  | (n, k) :: r, cs => match k == .free with
    | true => match env.cells.lookup n with
      | some a => clGo env r ((n, a) :: cs)
      | none => clGo env r cs
    | false => clGo env r cs
theorem clGo_keep {env : Env} {x : Str} {c : Addr} (hx : env.cells.lookup x = some c) : ∀ (names : List (Str × NameKind)) (acc : List (Str × Addr)), acc.lookup x = some c → (clGo env names acc).lookup x = some c
  | [], _, h => h
  | (n, k) :: r, acc, h => by
    unfold clGo
    split
    · split
      · rename_i a ha
        refine clGo_keep hx r _ ?_
        refine rwG (List.lookup_cons) ?_
        cases q : x == n with
        | true =>
          have := beq_iff_eq.mp q
          subst this
          rw [hx] at ha
          cases ha
          rfl
        | false => exact h
      · exact clGo_keep hx r _ h
    · exact clGo_keep hx r _ h
theorem clGo_free {env : Env} {x : Str} {c : Addr} (hx : env.cells.lookup x = some c) : ∀ (names : List (Str × NameKind)) (acc : List (Str × Addr)), names.lookup x = some .free → (clGo env names acc).lookup x = some c
  | [], _, h => by cases h
  | (n, k) :: r, acc, h => by
    rw [List.lookup_cons] at h
    unfold clGo
    cases q : x == n with
    | true =>
      rw [q] at h
      (first | (have q := qc h q) | (have q := qcB h q) | cases h)
      have := beq_iff_eq.mp q
      subst this
      simp only [hx]
      exact clGo_keep hx r _ (by rw [List.lookup_cons]; simp)
    | false =>
      rw [q] at h
      split
      · split
        · exact clGo_free hx r _ h
        · exact clGo_free hx r _ h
      · exact clGo_free hx r _ h
noncomputable def freeOk (env : Env) (names : List (Str × NameKind)) : Bool := names.all fun y => y.2 != .free || (env.cells.lookup y.1).isSome
theorem closureFor_eq {scope : Scope} {env : Env} (h : freeOk env scope.names = true) : closureFor scope env = pure (clGo env scope.names []) := by
  have key : ∀ (names : List (Str × NameKind)) (cs : List (Str × Addr)), freeOk env names = true →
      (forIn names cs (fun (x : Str × NameKind) cs => if (x.2 == NameKind.free) = true then (do let a ← cellOf env x.1; pure (ForInStep.yield ((x.1, a) :: cs))) else pure (ForInStep.yield cs)) : Sem (List (Str × Addr))) = pure (clGo env names cs) := by
    intro names
    induction names with
    | nil => intro cs _; rfl
    | cons y r ih =>
      intro cs h
      obtain ⟨n, k⟩ := y
      unfold freeOk at h
      rw [List.all_cons, Bool.and_eq_true] at h
      rw [List.forIn_cons]
      unfold clGo
      cases q : k == NameKind.free with
      | false =>
        simp only [q, Bool.false_eq_true, if_false]
        exact ih cs h.2
      | true =>
        have h1 := h.1
        simp only [bne, q, Bool.not_true, Bool.false_or] at h1
        obtain ⟨a, ha⟩ := Option.isSome_iff_exists.mp h1
        simp only [q, if_true, ha]
        unfold cellOf
        refine rwG (ha) ?_
        exact ih _ h.2
  show (forIn scope.names ([] : List (Str × Addr)) (fun (x : Str × NameKind) cs => if (x.2 == NameKind.free) = true then (do let a ← cellOf env x.1; pure (ForInStep.yield ((x.1, a) :: cs))) else pure (ForInStep.yield cs)) >>= fun cs => pure cs) = _
  refine rwG (key scope.names [] h) ?_
  rfl
theorem lookup_relabel_free {env : Env} (hk : env.scope.kind = .function) : ∀ {names : List (Str × NameKind)} {x : Str}, names.lookup x = some .free → env.kindOf x = some .cell →
    (names.map fun (n, k) => if (k == NameKind.free && env.scope.kind == .function && env.kindOf n == some .cell) then (n, NameKind.cell) else (n, k)).lookup x = some .cell
  | [], _, h, _ => by simp at h
  | (n, k) :: r, x, h, hx => by
    have ih := @lookup_relabel_free env hk r x
    show List.lookup x ((if (k == NameKind.free && env.scope.kind == .function && env.kindOf n == some .cell) = true then (n, NameKind.cell) else (n, k)) :: _) = _
    cases q : x == n with
    | true =>
      rw [List.lookup_cons, q] at h
      (first | (have q := qc h q) | (have q := qcB h q) | cases h)
      have := beq_iff_eq.mp q
      subst this
      rw [if_pos (by rw [hk, hx]; rfl), List.lookup_cons, q]
    | false =>
      rw [List.lookup_cons, q] at h
      split
      · rw [List.lookup_cons, q]; exact ih h hx
      · rw [List.lookup_cons, q]; exact ih h hx
/-- a comprehension's frame -/
structure CompOk (tag : Nat) (scope : Scope) : Prop where
  kind : scope.kind = .function
  loc : (tabN tag).all (fun x => scope.names.lookup x == some .local) = true
  nd : (tabN tag).Nodup
  names : scope.names.all (fun y => y.2 != .local || scope.names.lookup y.1 == some .local) = true
noncomputable def FC (tag : Nat) (scope : Scope) (co : CompOk tag scope) (Γ : FE) (L : Addr) : FE where
  env L' := compEnvC scope (clGo (Γ.env L) scope.names []) L' (Γ.env L)
  ok := Γ.ok
  mono := Γ.mono
  tag := tag
  fn _ := co.kind
  loc _ := rfl
  glb _ := Γ.glb L
  blt _ := Γ.blt L
  knd L x hx := lookup_relabel_local (eq_of_beq (List.all_eq_true.mp co.loc x hx))
  nd := co.nd
/-- the same with a cell of its own -/
noncomputable def FCo (tag : Nat) (scope : Scope) (co : CompOk tag scope) (x : Str) (Γ : FE) (L : Addr) (lc : Nat) (Lc : Addr) : FE where
  env L' := compEnvC scope ((x, Lc + 1) :: clGo (Γ.env L) scope.names []) L' (Γ.env L)
  ok μ := Γ.ok μ ∧ μ[lc + 1]? = some (Lc + 1)
  mono h e := ⟨Γ.mono h e.1, mu_ext h e.2⟩
  tag := tag
  fn _ := co.kind
  loc _ := rfl
  glb _ := Γ.glb L
  blt _ := Γ.blt L
  knd L x hx := lookup_relabel_local (eq_of_beq (List.all_eq_true.mp co.loc x hx))
  nd := co.nd
theorem CellAt.comp {x : Str} {i : Nat} {c : Addr} {tag : Nat} {scope : Scope} {co : CompOk tag scope} {L : Addr} (h : CellAt Γ x i c) (hf : scope.names.lookup x = some .free) : CellAt (FC tag scope co Γ L) x i c where
  hk _ := lookup_relabel_free (Γ.fn L) hf (h.hk L)
  hc _ := clGo_free (h.hc L) _ _ hf
  hm := h.hm
theorem CellAt.compo {x y : Str} {i : Nat} {c : Addr} {tag lc : Nat} {scope : Scope} {co : CompOk tag scope} {L Lc : Addr} (h : CellAt Γ x i c) (hf : scope.names.lookup x = some .free) (hne : (x == y) = false) : CellAt (FCo tag scope co y Γ L lc Lc) x i c where
  hk _ := lookup_relabel_free (Γ.fn L) hf (h.hk L)
  hc _ := by
    show List.lookup x ((y, Lc + 1) :: clGo (Γ.env L) scope.names []) = _
    refine rwG (List.lookup_cons) ?_; refine rwG (hne) ?_
    exact clGo_free (h.hc L) _ _ hf
  hm μ h' := h.hm μ h'.1
theorem lookup_relabel_cell {env : Env} : ∀ {names : List (Str × NameKind)} {x : Str}, names.lookup x = some .cell →
    (names.map fun (n, k) => if (k == NameKind.free && env.scope.kind == .function && env.kindOf n == some .cell) then (n, NameKind.cell) else (n, k)).lookup x = some .cell
  | [], _, h => by simp at h
  | (n, k) :: r, x, h => by
    have ih := @lookup_relabel_cell env r x
    show List.lookup x ((if (k == NameKind.free && env.scope.kind == .function && env.kindOf n == some .cell) = true then (n, NameKind.cell) else (n, k)) :: _) = _
    cases q : x == n with
    | true =>
      rw [List.lookup_cons, q] at h
      (first | (have q := qc h q) | (have q := qcB h q) | cases h)
      rw [if_neg (by simp), List.lookup_cons, q]
    | false =>
      rw [List.lookup_cons, q] at h
      split
      · rw [List.lookup_cons, q]; exact ih h
      · rw [List.lookup_cons, q]; exact ih h
theorem CellAt.own {x : Str} {tag lc : Nat} {scope : Scope} {co : CompOk tag scope} {L Lc : Addr} (hf : scope.names.lookup x = some .cell) : CellAt (FCo tag scope co x Γ L lc Lc) x (lc + 1) (Lc + 1) where
  hk _ := lookup_relabel_cell hf
  hc _ := by
    show List.lookup x ((x, Lc + 1) :: clGo (Γ.env L) scope.names []) = _
    refine rwG (List.lookup_cons) ?_
    simp
  hm μ h' := h'.2
noncomputable def dropM (tag lc : Nat) : M Unit := fun σ => match Nat.blt σ.n 60001 with
  | true => match σ.get lc with
    | some (.fr t _) => match Nat.beq t tag with
      | true => some ((), σ.put lc .junk)
      | false => none
    | _ => none
  | false => none
theorem drop_snd {tag lc : Nat} {μ : List Addr} {σ σ' : St} {s : Shared} (r : Rel C μ σ s) {a : Addr} (ha : μ[lc]? = some a) (e : dropM tag lc σ = some ((), σ')) :
    ∃ m, s.heap.Ns a m ∧ ∀ h', Heap.SameBut a s.heap h' → Rel C μ σ' { s with heap := h' } := by
  unfold dropM at e
  split at e
  · rename_i hb
    have hb : σ.n < 60001 := Nat.le_of_ble_eq_true hb
    split at e
    · rename_i t vs g1
      split at e
      · (first | exact nn e | cases e)
        refine Rel.at_e r g1 ha (fun o5 ho5 hr5 => ?_)
        obtain ⟨m5, hns5, _, _⟩ := ns_of ho5 hr5
        exact ⟨m5, hns5, fun h' hs' => r.put g1 rfl ha hb hs'.extBut fun l => by cases l⟩
      · (first | exact nn e | cases e)
    · (first | exact nn e | cases e)
  · (first | exact nn e | cases e)
noncomputable def guardM (p : St → Bool) : M Unit := fun σ => match p σ with
  | true => some ((), σ)
  | false => none
theorem guardM_some {p : St → Bool} {σ : St} {r : Unit × St} (h : guardM p σ = some r) : p σ = true ∧ r.2 = σ := by
  unfold guardM at h
  split at h
  · cases h; exact ⟨by assumption, rfl⟩
  · (first | exact nn h | cases h)
noncomputable def compM (tag nl : Nat) (fi : Nat → M V) (fa : Nat → V → M Unit) (ft : Nat → M Bool) (fe : Nat → M V) (n : Nat) (l : Nat) : M V :=
  bnd (fi l) fun v => bnd (iterM v) fun it => bnd (alloc (.list [])) fun acc => bnd (alloc (.fr tag (List.replicate nl none))) fun fr => bnd (guardM (isIter it)) fun _ => match fr with
    | .ref lc => bnd (compLoopM (nextM it) (fa lc) (ft lc) (fe lc) acc n) fun _ => bnd (dropM tag lc) fun _ => ret acc
    | _ => no
theorem rq_none {μ : List Addr} {tag nl : Nat} {m : Str → Option Value} : MR C μ (tabN tag) (List.replicate nl none) m := fun i x hx => by
  have : (List.replicate nl (none : Option V))[i]?.getD none = none := by
    refine rwG (List.getElem?_replicate) ?_
    split <;> rfl
  refine rwG (this) ?_
  exact .none
theorem SE_comp {elt iter target : Expr} {ifs : List Expr} {scope : Scope} {pos : Pos} {fi : Nat → M V} {fa : Nat → V → M Unit} {ft : Nat → M Bool} {fe : Nat → M V} (tag nl n : Nat) (co : CompOk tag scope)
    (hclos : ∀ L, freeOk (Γ.env L) scope.names = true) (hcell : scope.names.all (fun y => y.2 != .cell) = true) (hnl : Nat.beq (tabN tag).length nl = true)
    (hi : SE C D U Γ iter fi)
    (ha : ∀ L, SAsg C D U (FC tag scope co Γ L) target fa)
    (ht : ∀ L, STs C D U (FC tag scope co Γ L) ifs ft)
    (he : ∀ L, SE C D U (FC tag scope co Γ L) elt fe)
    (hs : autoParam (∀ L x, foldedSetIterable iter (Γ.env L) x = pure x) au3._auto_1) (hown : autoParam (∀ it v, letOwnedTupleGo target it v = pure ()) au3._auto_1) :
    SE C D U Γ (.ListComp elt [⟨target, iter, ifs, 0⟩] scope pos) (compM tag nl fi fa ft fe n) := fun l L μ hok hl A hA σ s r b σ' e Q E q => by
  refine bnd_e e fun v σ₁ e1 e => ?_
  refine bnd_e e fun itv σ₂ e2 e => ?_
  refine bnd_e e fun acc σ₃ e3 e => ?_
  obtain ⟨hz1, f1, f2⟩ := alloc_some e3
  simp only at f1 f2
  subst f1 f2
  refine bnd_e e fun fr σ₄ e4 e => ?_
  obtain ⟨hz2, f3, f4⟩ := alloc_some e4
  simp only at f3 f4
  subst f3 f4
  refine bnd_e e fun _ σ₅ e5 e => ?_
  obtain ⟨hii, f5⟩ := guardM_some e5
  simp only at f5
  subst f5
  refine bnd_e e fun _ σ₆ e6 e => ?_
  refine bnd_e e fun _ σ₇ e7 e8 => ?_
  (first | (have q := qc e8 q) | (have q := qcB e8 q) | cases e8)
  rw [eval_ListComp]
  refine wpAny_comprehension_free (use := none) rfl (hs L) (closureFor_eq (hclos L)) co.kind (fun x hx hlx => by
    have := List.all_eq_true.mp co.names x hx
    simpa [hlx] using this) ?_
  refine hi l L μ hok hl A hA σ s r v σ₁ e1 _ E fun μ₁ s₁ wv hp1 r₁ rv => ?_
  refine iter_snd rv A hA σ₁ s₁ r₁ itv σ₂ e2 _ E fun μ₂ s₂ wi hp2 r₂ ri => ?_
  have h2 := List.IsPrefix.trans hp1 hp2
  refine wpAny_newObj_type (wpAny_newFunctionEnv (fun y hy => by
    have := List.all_eq_true.mp hcell y hy
    simpa using this) (by intro y hy; simp at hy) (fun h₁ hns₁ hsb₁ => ?_) co.kind)
  have r3 := r₂.alloc (o := { cls := .type "list", dict := none, data := .seq ([] : List Value).toArray }) (vo := .list []) (t := s₂.toks) (d := s₂.drawn) rfl hz1 ⟨#[], _, rfl, .nil⟩
  generalize hH2 : s₂.heap.push { cls := .type "list", dict := none, data := .seq ([] : List Value).toArray } = H2 at hns₁ hsb₁ r3 ⊢
  obtain ⟨of, hof, hrf⟩ := ns_to (C := C) (μ := μ₂ ++ [s₂.heap.objs.size] ++ [H2.objs.size]) (tag := tag) (vs := List.replicate nl none) hns₁ (by simp [Nat.eq_of_beq_eq_true hnl]) rq_none
  have kp : ∀ b o, H2.get? b = some o → h₁.get? b = some o := fun b o eb => hsb₁.extBut b o (Nat.ne_of_lt (Heap.lt_size eb)) (Heap.get?_push_of_some _ eb)
  have r4 := r3.add (a := H2.objs.size) (vo := .fr tag (List.replicate nl none)) (t := s₂.toks + ([] : List (Str × Value)).length) (d := s₂.drawn) kp (get_size_none _) hof hz2 hrf
  have px : μ₂ <+: μ₂ ++ [s₂.heap.objs.size] ++ [H2.objs.size] := List.IsPrefix.trans (List.prefix_append _ _) (List.prefix_append _ _)
  have at_acc : (μ₂ ++ [s₂.heap.objs.size] ++ [H2.objs.size])[σ₂.n]? = some s₂.heap.objs.size := mu_ext (List.prefix_append _ _) (by rw [← r₂.len]; simp)
  have at_fr : (μ₂ ++ [s₂.heap.objs.size] ++ [H2.objs.size])[(σ₂.add (.list [])).n]? = some H2.objs.size := by rw [← r3.len]; simp
  have racc : RV C (μ₂ ++ [s₂.heap.objs.size] ++ [H2.objs.size]) (.ref σ₂.n) (.ref s₂.heap.objs.size) := .ref _ _ at_acc
  have h4 := List.IsPrefix.trans h2 px
  have loop : codeAny (model P C.w) A (.compLoop (.ListComp elt [⟨target, iter, ifs, 0⟩] scope pos) 0 wi (.ref s₂.heap.objs.size) (compEnvC scope (clGo (Γ.env L) scope.names []) H2.objs.size (Γ.env L)))
      (compPost (model P C.w) A E none Q (.ref s₂.heap.objs.size) H2.objs.size) ⟨h₁, s₂.gens, s₂.drawn, s₂.toks + ([] : List (Str × Value)).length, s₂.os⟩ := by
    refine compLoop_snd (Γ := FC tag scope co Γ L) (ha L) (ht L) (he L) (lc := (σ₂.add (.list [])).n) (Γ.mono h4 hok) at_fr (ri.ext px) racc hA n r4 e6 (fun μ₅ s₅ hp5 r₅ => ?_) (hown wi)
    obtain ⟨m5, hns5, k5⟩ := drop_snd r₅ (mu_ext hp5 at_fr) e7
    exact ⟨m5, hns5, fun h' hs' => q _ _ _ (List.IsPrefix.trans h4 hp5) (k5 h' hs') (racc.ext hp5)⟩
  exact codeAny_compStart_list loop (iter_self r4 (ri.ext px) hii loop)
/-! a comprehension with one cell of its own -/
theorem newEnv_own {M : Model} {A : Around} {E : Value → Shared → Prop} {s : Shared} {scope : Scope} {globals : Addr} {cl : List (Str × Addr)} {qual : Str} {env : Env} {x : Str} {Q : Env → Shared → Prop}
    (hc : ∀ n acc, cellsFrom n scope.names acc = (x, n) :: acc) (hp : ∀ h, pushCells h scope.names = h.push { cls := .type "cell", data := .cell none })
    (hQ : Q (newEnv scope s.heap.objs.size globals ((x, s.heap.objs.size + 1) :: cl) qual none .none (some env) builtinsNs) { s with heap := (s.heap.push { cls := .type "dict", data := .dict #[] }).push { cls := .type "cell", data := .cell none } }) :
    wpAny M A (newFunctionEnv scope globals cl [] qual none .none (some env)) Q E s := by
  simp only [newFunctionEnv, Option.isSome_some, if_true]
  refine wpAny_bind (wpAny_alloc ?_)
  refine wpAny_bind (wpAny_layCells _ (fun name kind cells => by cases hkc : kind == NameKind.cell <;> simp [hkc]) _ _ _ _ ?_)
  rw [hc, hp]
  refine rwG (show ({ s with heap := s.heap.push { cls := .type "dict", data := .dict #[] } } : Shared).heap.objs.size = s.heap.objs.size + 1 from Heap.size_push ..) ?_
  exact wpAny_pure hQ
end
end
end Mine
set_option genSizeOf false
set_option genInjectivity false
namespace Mine
noncomputable section
open PySem PySem.W PyProof.Rows PySem.Calls PySem.Builtin PySem.Builtin.Re PySem.Builtin._codecs
set_option maxRecDepth 100000
set_option maxHeartbeats 0
/-! text to bytes -/
theorem enc_fold : ∀ (l : List Nat) (acc : Array UInt8), l.foldl (fun acc y => acc ++ (asciiCodec.bytesOf y).toArray) acc = acc ++ (l.map (·.toUInt8)).toArray
  | [], acc => by simp
  | a :: l, acc => by
    rw [List.foldl_cons, enc_fold l]
    apply Array.ext'
    simp [asciiCodec]
section
variable {M : Model} {A : Around} {E : Value → Shared → Prop} {s : Shared}
theorem enc_loop {β : Type} {F : Nat → β → Sem (ForInStep β)} {init fin : β} {n : Nat} {Q : β → Shared → Prop} (h0 : n = 0 → Q init s) (h1 : 0 < n → ∀ (Q : ForInStep β → Shared → Prop), Q (.yield fin) s → wpAny M A (F 0 init) Q E s)
    (h2 : 1 < n → ∀ (Q : ForInStep β → Shared → Prop), Q (.done fin) s → wpAny M A (F 1 fin) Q E s) (q : 0 < n → Q fin s) : wpAny M A (forIn [:n] init F) Q E s := by
  rw [Std.Legacy.Range.forIn_eq_forIn_range']
  rcases n with _ | _ | n
  · exact wpAny_pure (h0 rfl)
  · refine wpAny_bind (h1 (Nat.succ_pos _) _ ?_)
    exact wpAny_pure (q (Nat.succ_pos _))
  · rw [show List.range' 0 (Std.Legacy.Range.size [:n + 1 + 1]) 1 = 0 :: 1 :: List.range' 2 n 1 by simp [Std.Legacy.Range.size]; rfl]
    refine wpAny_bind (h1 (Nat.succ_pos _) _ ?_)
    refine wpAny_bind (h2 (by omega) _ ?_)
    exact wpAny_pure (q (Nat.succ_pos _))
theorem enc {id : String} {self : Value} {x : Str} {Q : Array UInt8 → Shared → Prop} (ha : ∀ c ∈ x.cps, c < 128) (hs : x.cps.size ≤ 1000) (q : Q (x.cps.map (·.toUInt8)) s) : wpAny M A (encodeNarrow id asciiCodec none self x) Q E s := by
  have hbad : ∀ c ∈ x.cps, asciiCodec.bad c = false := fun c hc => by
    have := ha c hc
    simp [asciiCodec]; omega
  have hfi : x.cps.findIdx? asciiCodec.bad = none := by
    rw [Array.findIdx?_eq_none_iff]
    exact hbad
  have full : ∀ y : Array Nat, Array.foldl (fun acc y => acc ++ (asciiCodec.bytesOf y).toArray) #[] y = y.map (·.toUInt8) := fun y => by
    rw [← Array.foldl_toList, enc_fold]
    apply Array.ext'; simp
  have hx : x.cps.extract 0 x.cps.size = x.cps := by simp
  have hR : (0 + (Array.findIdx? asciiCodec.bad (x.cps.extract 0)).getD (x.cps.extract 0).size, Array.foldl (fun acc y => acc ++ (asciiCodec.bytesOf y).toArray) #[] ((x.cps.extract 0).extract 0 ((Array.findIdx? asciiCodec.bad (x.cps.extract 0)).getD (x.cps.extract 0).size)), ({} : Faults)) =
      (x.cps.size, x.cps.map (·.toUInt8), ({} : Faults)) := by
    rw [hx, hfi, Option.getD_none, hx, full, Nat.zero_add]
  unfold encodeNarrow
  refine wpAny_bind (enc_loop (fin := (x.cps.size, x.cps.map (·.toUInt8), ({} : Faults))) (fun h => ?_) (fun h Q q => ?_) (fun h Q q => ?_) fun h => ?_)
  · have : x.cps = #[] := Array.eq_empty_of_size_eq_zero h
    rw [this, Array.map_empty] at q
    exact wpAny_pure q
  · have h : 0 < x.cps.size := h
    refine wite_n (by simp) ?_
    refine rwG (show x.cps[0]? = some x.cps[0] by simp [h]) ?_
    refine wite_p (by rw [hbad _ (by simp)]; rfl) ?_
    exact wpAny_pure (hR ▸ q)
  · refine wite_n (by simp [sizeLine_eq]; omega) ?_
    refine rwG (show x.cps[x.cps.size]? = none by simp) ?_
    exact wpAny_pure q
  · exact wpAny_pure q
end
theorem encodeRoad_ascii (id : String) (self : Value) (x : Str) (errors : Option Str) : encodeRoad id self x (Str.ofString "ascii") errors = (do mkBytes (← encodeNarrow id asciiCodec errors self x)) := by
  kernel_rfl
theorem encode_tree2 (x : Str) (t u : Tok) : «str.encode» ⟨[.str x t, .str (Str.ofString "ascii") u], []⟩ = (do PySem.ret (← encodeRoad "str.encode" (.str x t) x (Str.ofString "ascii") none)) := by kernel_rfl
theorem call_encode {w : World} {A : Around} {E : Value → Shared → Prop} {s : Shared} {x : Str} {t u : Tok} (ha : ∀ c ∈ x.cps, c < 128) (hs : x.cps.size ≤ 1000) {Q : Value → Shared → Prop} (q : Q (.bytes (x.cps.map (·.toUInt8)) s.toks) { s with toks := s.toks + 1 }) :
    wpAny (model P w) A (call (.builtin "str.encode") [.str x t, .str (Str.ofString "ascii") u]) Q E s := by
  refine wpAny_call_entry PySem.F.slot_str_encode (typeIs_str _ _ _) PySem.F.entry_str_encode ?_ (PySem.F.args_str_encode_2 _ _)
  rw [encode_tree2, encodeRoad_ascii]
  refine wpAny_bind (wpAny_bind (enc ha hs (wpAny_mkBytes (wpAny_pure ⟨_, rfl, q⟩) (by simp [sizeLine_eq]; omega))))
theorem pa_re : PlainAttrs "re.Pattern" :=
  ⟨⟨"object.__getattribute__", by rw [typeLookup_type, builtinLookup_eq_fast]; kernel_rfl, by decide +kernel⟩, by rw [typeLookup_type, builtinLookup_eq_fast]; kernel_rfl⟩
theorem slot_search : Slot "re.Pattern" "search" "re.Pattern.search" :=
  .of (owner := "re.Pattern") (n := "search") (by rw [typeLookup_type, builtinLookup_eq_fast]; kernel_rfl) (by decide +kernel) (by decide +kernel) (by decide +kernel)
    (by first | exact .inl (by decide +kernel) | exact .inr (by decide +kernel)) (by rw [isSubtype_type]; kernel_rfl)
theorem type_search : typeOf (.builtin "re.Pattern.search") = pure (.type "method_descriptor") := by show builtinType _ = _; rw [builtinType_eq_fast]; kernel_rfl
theorem entry_search : entryFor table "re.Pattern.search" = some Builtin.«re.Pattern.search» := entryFor_of_tree (by kernel_rfl)
theorem args_search (a b : Value) : argsOk "re.Pattern.search" ⟨[a, b], []⟩ := by unfold argsOk; kernel_rfl
theorem slot_sub : Slot "re.Pattern" "sub" "re.Pattern.sub" :=
  .of (owner := "re.Pattern") (n := "sub") (by rw [typeLookup_type, builtinLookup_eq_fast]; kernel_rfl) (by decide +kernel) (by decide +kernel) (by decide +kernel)
    (by first | exact .inl (by decide +kernel) | exact .inr (by decide +kernel)) (by rw [isSubtype_type]; kernel_rfl)
theorem type_sub : typeOf (.builtin "re.Pattern.sub") = pure (.type "method_descriptor") := by show builtinType _ = _; rw [builtinType_eq_fast]; kernel_rfl
theorem entry_sub : entryFor table "re.Pattern.sub" = some Builtin.«re.Pattern.sub» := entryFor_of_tree (by kernel_rfl)
theorem entry_subloop : entryFor table "re.Pattern.sub.loop" = some Builtin.«re.Pattern.sub.loop» := entryFor_of_tree (by kernel_rfl)
theorem args_sub (a b c : Value) : argsOk "re.Pattern.sub" ⟨[a, b, c], []⟩ := by unfold argsOk; kernel_rfl
theorem pa_bytes : PlainAttrs "bytes" :=
  ⟨⟨"bytes.__getattribute__", by rw [typeLookup_type, builtinLookup_eq_fast]; kernel_rfl, by decide +kernel⟩, by rw [typeLookup_type, builtinLookup_eq_fast]; kernel_rfl⟩
theorem slot_count : Slot "bytes" "count" "bytes.count" :=
  .of (owner := "bytes") (n := "count") (by rw [typeLookup_type, builtinLookup_eq_fast]; kernel_rfl) (by decide +kernel) (by decide +kernel) (by decide +kernel)
    (by first | exact .inl (by decide +kernel) | exact .inr (by decide +kernel)) (by rw [isSubtype_type]; kernel_rfl)
theorem type_count : typeOf (.builtin "bytes.count") = pure (.type "method_descriptor") := by show builtinType _ = _; rw [builtinType_eq_fast]; kernel_rfl
theorem entry_count : entryFor table "bytes.count" = some Builtin.«bytes.count» := entryFor_of_tree (by kernel_rfl)
theorem args_count (a b : Value) : argsOk "bytes.count" ⟨[a, b], []⟩ := by unfold argsOk; kernel_rfl
/-! the machine of the text rules -/
noncomputable def driveM : Nat → Sre.M → Option Sre.M
  | 0, _ => none
  | n + 1, m => match (m.runFor reTurnSteps).outcome.isSome with
    | true => some (m.runFor reTurnSteps)
    | false => driveM n (m.runFor reTurnSteps)
section
variable {M : Model} {A : Around} {E : Value → Shared → Prop} {s : Shared}
theorem wpAny_drive : ∀ (n fuel : Nat) (m m' : Sre.M), driveM n m = some m' → n ≤ fuel → ∀ {Q : Sre.M → Shared → Prop}, Q m' s → wpAny M A (reDrive fuel m) Q E s
  | 0, _, _, _, h, _, _, _ => by cases h
  | n + 1, 0, _, _, _, h, _, _ => by omega
  | n + 1, fuel + 1, m, m', h, hf, Q, q => by
    unfold driveM at h
    unfold reDrive
    dsimp only
    split at h
    · rename_i hs
      cases h
      refine wite_p hs ?_
      exact wpAny_pure q
    · rename_i hs
      refine wite_n (by rw [hs]; decide) ?_
      exact wpAny_bind (wpAny_rule (wpAny_drive n fuel _ m' h (by omega) q))
theorem wpAny_rules {c : Nat → Bool} {nm : Nat → String} {Q : PUnit → Shared → Prop} (q : Q ⟨⟩ s) : ∀ (l : List Nat), wpAny M A (forIn l PUnit.unit fun i _ => (if c i = true then do rule (nm i); pure (ForInStep.yield PUnit.unit) else pure (ForInStep.yield PUnit.unit))) Q E s
  | [] => wpAny_pure q
  | i :: l => by
    rw [List.forIn_cons]
    refine wpAny_bind ?_
    cases c i with
    | true => rw [if_pos rfl]; exact wpAny_bind (wpAny_rule (wpAny_pure (wpAny_rules q l)))
    | false => rw [if_neg (by decide)]; exact wpAny_pure (wpAny_rules q l)
theorem wpAny_toEnd {m m' : Sre.M} {r : Option Sre.M} (h : driveM 1000 m = some m') (hr : (m'.outcome = some .matched ∧ r = some m') ∨ (m'.outcome = some .failed ∧ r = none)) {Q : Option Sre.M → Shared → Prop} (q : Q r s) : wpAny M A (reRunToEnd m) Q E s := by
  unfold reRunToEnd
  refine wpAny_bind (wpAny_drive 1000 (2 ^ 64) m m' h (by decide) ?_)
  refine wpAny_bind (wpAny_rules ?_ _)
  rcases hr with ⟨h1, h2⟩ | ⟨h1, h2⟩ <;> subst h2 <;> rw [h1] <;> exact wpAny_pure q
/-- a rule's own code -/
structure ReAt (h : Heap) (pt : Addr) (code : List Nat) (want : Nat) : Prop where
  ex : ∃ a0 a1 a3 a4 ct tk tk2, h.get? pt = some ⟨.type "re.Pattern", none, .fields #[a0, a1, .int 0 tk, a3, a4, .ref ct, .int want tk2], #[]⟩ ∧
    ∃ o xs n, h.get? ct = some o ∧ o.data = .seq xs n ∧ (xs.map reRawOf).map (·.toNat) = code.toArray
theorem wpAny_rawItems {ct : Addr} {o : Obj} {xs : Array Value} {n : Nat} {Q : Array Int → Shared → Prop} (ho : s.heap.get? ct = some o) (hd : o.data = .seq xs n) (q : Q (xs.map reRawOf) s) : wpAny M A (reRawItems (.ref ct)) Q E s := by
  unfold reRawItems
  refine wpAny_bind (wpAny_bind (wpAny_load ho ?_))
  refine rwG (hd) ?_
  exact wpAny_pure (wpAny_pure q)
theorem named_search (x : Str) (t : Tok) : reNamed "re.Pattern.search" "search" ["string", "pos", "endpos"] 1 [.str x t] [] = pure [some (.str x t), none, none] := by kernel_rfl
theorem search_none {w : World} {A : Around} {E : Value → Shared → Prop} {s : Shared} {pt : Addr} {code : List Nat} (hre : ReAt s.heap pt code 0) {x : Str} {t : Tok} {m' : Sre.M} (hx : x.cps.size ≤ 1000)
    (hrun : driveM 1000 (Sre.forSearch code.toArray x.cps 0 0 x.cps.size false) = some m') (hf : m'.outcome = some .failed) {Q : Value → Shared → Prop} (q : Q .none s) :
    wpAny (model P w) A (call (.builtin "re.Pattern.search") [.ref pt, .str x t]) Q E s := by
  obtain ⟨a0, a1, a3, a4, ct, tk, tk2, hp, o, xs, n, hc, hd, hcode⟩ := hre.ex
  refine wpAny_call_entry slot_search ⟨_, hp, rfl⟩ entry_search ?_ (args_search _ _)
  unfold Builtin.«re.Pattern.search» reTarget
  refine wpAny_bind ?_
  show wpAny _ _ (reNamed "re.Pattern.search" "search" ["string", "pos", "endpos"] 1 [.str x t] [] >>= _) _ _ _
  rw [named_search]
  refine wpAny_bind (wpAny_pure ?_)
  dsimp only
  refine wpAny_bind (wpAny_pure (wpAny_bind (wpAny_pure ?_)))
  refine wpAny_bind ?_
  unfold fieldsOf
  refine wpAny_bind (wpAny_load hp (wpAny_pure ?_))
  refine wpAny_bind ?_
  unfold reTextOf asStr?
  refine wpAny_bind (wpAny_pure (wpAny_pure ?_))
  dsimp only
  refine wite_n (by show ¬ (((0 : Nat) == 0 && (0 : Nat) == 1) = true); decide) ?_; refine wite_n (by show ¬ (((0 : Nat) == 1 && (0 : Nat) == 0) = true); decide) ?_
  unfold reNoCollectionInside
  refine wpAny_bind ?_
  refine wite_n (by decide) ?_
  refine wpAny_pure ?_
  show wpAny _ _ (reRawItems (.ref ct) >>= _) _ _ _
  refine wpAny_bind (wpAny_rawItems hc hd ?_)
  refine rwG (hcode) ?_
  refine wpAny_pure ?_
  unfold reAnswer
  dsimp only
  have e1 : min (0 : Int).toNat x.cps.size = 0 := by simp
  have e2 : min (2 ^ 63 - 1 : Int).toNat x.cps.size = x.cps.size := by
    apply Nat.min_eq_right
    have : (2 ^ 63 - 1 : Int).toNat = 2 ^ 63 - 1 := by decide
    omega
  refine rwG (e1) ?_; refine rwG (e2) ?_
  refine wpAny_bind (wpAny_toEnd hrun (.inr ⟨hf, rfl⟩) ?_)
  exact wpAny_pure ⟨_, rfl, q⟩
end
noncomputable def natsB : List Nat → List Nat → Bool
  | [], [] => true
  | a :: r, b :: t => match Nat.beq a b with
    | true => natsB r t
    | false => false
  | _, _ => false
theorem natsB_eq : ∀ {a b : List Nat}, natsB a b = true → a = b
  | [], [], _ => rfl
  | a :: r, b :: t, h => by
    unfold natsB at h
    split at h
    · rename_i q
      rw [Nat.eq_of_beq_eq_true q, natsB_eq h]
    · (first | exact nn h | cases h)
  | [], _ :: _, h => by cases h
  | _ :: _, [], h => by cases h
noncomputable def oget (p : Params) (a : Addr) : Obj := match (KF p).lookup a with
  | some o => o
  | none => ⟨.none, none, .freed, #[]⟩
noncomputable def fget (p : Params) (a i : Nat) : Value := match (oget p a).data with
  | .fields vs => vs.getD i .none
  | _ => .none
noncomputable def sget (p : Params) (a : Addr) : Array Value := match (oget p a).data with
  | .seq xs _ => xs
  | _ => #[]
noncomputable def sgetN (p : Params) (a : Addr) : Nat := match (oget p a).data with
  | .seq _ n => n
  | _ => 0
structure reIn (K : Frag) (pt : Addr) (code : List Nat) (want : Nat) : Prop where
  ex : ∃ a0 a1 a3 a4 ct tk tk2, K.lookup pt = some ⟨.type "re.Pattern", none, .fields #[a0, a1, .int 0 tk, a3, a4, .ref ct, .int want tk2], #[]⟩ ∧
    ∃ o xs n, K.lookup ct = some o ∧ o.data = .seq xs n ∧ (xs.map reRawOf).map (·.toNat) = code.toArray
theorem reAt_of {K : Frag} {h : Heap} (X : K.In h) {pt : Addr} {code : List Nat} {want : Nat} (e : reIn K pt code want) : ReAt h pt code want :=
  let ⟨a0, a1, a3, a4, ct, tk, tk2, h1, o, xs, n, h2, h3, h4⟩ := e.ex
  ⟨⟨a0, a1, a3, a4, ct, tk, tk2, X _ _ h1, o, xs, n, X _ _ h2, h3, h4⟩⟩
noncomputable def code222 : List Nat := [14, 10, 4, 1, 1, 22, 0, 31, 16, 127, 0, 13, 7, 22, 0, 31, 16, 127, 0, 1]
noncomputable def code227 : List Nat := [14, 14, 4, 1, 1, 9, 4294966783, 0, 0, 2147483648, 0, 0, 0, 0, 0, 13, 11, 9, 4294966783, 0, 0, 2147483648, 0, 0, 0, 0, 0, 1]
noncomputable def code204 : List Nat := [14, 8, 1, 2, 4294967295, 1, 1, 34, 0, 16, 34, 28, 22, 0, 4294967295, 7, 11, 13, 7, 21, 16, 34, 16, 92, 0, 15, 8, 6, 16, 92, 2, 15, 2, 0, 1, 16, 34, 1]
theorem re222 (p : Params) : reIn (KF p) 222 code222 0 := ⟨⟨fget p 222 0, fget p 222 1, fget p 222 3, fget p 222 4, 221, 0, 0, by kernel_rfl, oget p 221, sget p 221, sgetN p 221, by kernel_rfl, by kernel_rfl, by kernel_rfl⟩⟩
theorem re227 (p : Params) : reIn (KF p) 227 code227 0 := ⟨⟨fget p 227 0, fget p 227 1, fget p 227 3, fget p 227 4, 226, 0, 0, by kernel_rfl, oget p 226, sget p 226, sgetN p 226, by kernel_rfl, by kernel_rfl, by kernel_rfl⟩⟩
theorem re204 (p : Params) : reIn (KF p) 204 code204 1 := ⟨⟨fget p 204 0, fget p 204 1, fget p 204 3, fget p 204 4, 203, 0, 0, by kernel_rfl, oget p 203, sget p 203, sgetN p 203, by kernel_rfl, by kernel_rfl, by kernel_rfl⟩⟩
/-- a search that finds nothing -/
noncomputable def missB (code : List Nat) (x : List Nat) : Bool := match driveM 1000 (Sre.forSearch code.toArray x.toArray 0 0 x.length false) with
  | some m => match m.outcome with
    | some .failed => true
    | _ => false
  | none => false
theorem missB_some {code x : List Nat} (h : missB code x = true) : ∃ m, driveM 1000 (Sre.forSearch code.toArray x.toArray 0 0 x.length false) = some m ∧ m.outcome = some .failed := by
  unfold missB at h
  split at h
  · rename_i m e
    refine ⟨m, e, ?_⟩
    split at h
    · assumption
    · (first | exact nn h | cases h)
  · (first | exact nn h | cases h)
theorem miss_lab : (List.range 6).all (fun k => (List.range 12).all fun j => missB code227 ((97 + k) :: tailOf j)) = true := by decide +kernel
theorem miss_name : (List.range 60).all (fun k => missB code222 [65 + k]) = true := by decide +kernel
end
end Mine
set_option genSizeOf false
set_option genInjectivity false
namespace Mine
noncomputable section
open PySem PySem.W PySem.W.X PyProof.Rows PySem.Calls
set_option maxRecDepth 100000
set_option maxHeartbeats 0
/-! the type of a text -/
structure TyPost (h0 : Heap) (g : Array GenState) (d : Drawn) (os : OsState) (Q : Value → Shared → Prop) : Prop where
  use : ∀ tk', Q (.type "str") ⟨h0, g, d, tk', os⟩
local macro_rules | `(tactic| x_close) => `(tactic| (exact TyPost.use (by assumption) _))
theorem type_str {w : World} {fr : List Env} {Q : Value → Shared → Prop} {E : Value → Shared → Prop} {h0 : Heap} {g : Array GenState} {d : Drawn} {t : Nat} {os : OsState}
    (KX : (Mine.KF w.params).In h0) {x : Str} {tk : Tok} (hQ : TyPost h0 g d os Q)
    : wpAny (model (OpenLaw.prog PySem.Challenge.rw_xn0029_01) w) (A1 fr) (call (.type "type") [.str x tk]) Q E ⟨h0, g, d, t, os⟩ := by
  have hf := kfill w
  revert hf
  k_fill
  intro hf
  x_run
section
variable {C : Cx} {D U : Nat} {Γ : FE}
theorem SE_glob {x : Str} {pos : Pos} (a : Addr) (ok : CxOk C) (hn : ∀ L, peek (KF C.w.params) ⟨P, C.w.params⟩ (loadName (Γ.env L) x) = some (.ref a)) (hd : autoParam ((x == ("__debug__" : Str)) = false) au4._auto_1) :
    SE C D U Γ (.Name x pos) (fun _ => ret (.old a)) := fun l L μ hok hl A hA σ s r b σ' e Q E q => by
  (first | (have q := qc e q) | (have q := qcB e q) | cases e)
  refine wpAny_Name ?_ hd
  exact (Looks.of_peek (M := model P C.w) (r.K ok) (hn L)).here (q μ s _ (List.prefix_refl _) r (.old a))
theorem SE_ifx {t a b : Expr} {pos : Pos} {ft : Nat → M Bool} {fa fb : Nat → M V} (ht : STt C D U Γ t ft) (ha : SE C D U Γ a fa) (hb : SE C D U Γ b fb) : SE C D U Γ (.IfExp t a b pos) (fun l => bnd (ft l) fun c => match c with | true => fa l | false => fb l) := fun l L μ hok hl A hA σ s r b' σ' e Q E q => by
  obtain ⟨c, σ₁, e1, e2⟩ := bnd_some e
  refine IfExp_ (ht l L μ hok hl A hA σ s r c σ₁ e1 _ E fun μ' s' c' hp r' hc => ?_)
  cases hc
  cases c with
  | true =>
    refine rwG (if_pos rfl) ?_
    exact ha l L μ' (Γ.mono hp hok) (mu_ext hp hl) A hA σ₁ s' r' b' σ' e2 Q E fun μ'' s'' w hp' => q μ'' s'' w (List.IsPrefix.trans hp hp')
  | false =>
    refine rwG (if_neg (by decide)) ?_
    exact hb l L μ' (Γ.mono hp hok) (mu_ext hp hl) A hA σ₁ s' r' b' σ' e2 Q E fun μ'' s'' w hp' => q μ'' s'' w (List.IsPrefix.trans hp hp')
noncomputable def strs1 (vs : List V) : M Bool := match vs with
  | [.str _] => ret true
  | _ => no
theorem ST_typeStr {es : List Expr} {p1 p2 p3 p4 : Pos} {fa : Nat → M (List V)} (ok : CxOk C) (hD : D ≤ 500) (hU : U ≤ 5000) (ha : SEs C D U Γ es fa)
    (hn1 : ∀ L, peek (KF C.w.params) ⟨P, C.w.params⟩ (loadName (Γ.env L) "type") = some (.type "type")) (hn2 : ∀ L, peek (KF C.w.params) ⟨P, C.w.params⟩ (loadName (Γ.env L) "str") = some (.type "str"))
    (hpl : autoParam (∀ env, (backTo p2 (starEach es env)).any (·.1) = false) au1._auto_1) (hm : autoParam (behindInMarks .Is (.Name "str" p3) = false) au7._auto_1) :
    STt C D U Γ (.Compare (.Call (.Name "type" p1) es [] p2) [.Is] [.Name "str" p3] p4) (fun l => bnd (fa l) strs1) := fun l L μ hok hl A hA σ s r b σ' e0 Q E q => by
  obtain ⟨vs, σ₁, e1, e4⟩ := bnd_some e0
  refine wpAny_isTrue_Compare1 ?_ hm
  refine wpAny_Call_NameR (wpAny_Name ?_ (by decide))
  refine (Looks.of_peek (M := model P C.w) (r.K ok) (hn1 L)).here ?_
  refine callWith_of (P := fun h => (KF C.w.params).In h) (by rw [hpl]; rfl) (keep_type _) (evA (hpl _) ?_)
  refine ha l L μ p2 hok hl A hA σ s r vs σ₁ e1 _ E fun μ' s' ws hp r' rvs => ⟨r'.K ok, ?_⟩
  unfold strs1 at e4
  split at e4
  · (first | exact nn e4 | cases e4)
    refine RVs.eCons rvs fun _ _ rv t => ?_
    refine RVs.eNil t ?_
    refine RV.eStr rv fun tk => ?_
    obtain ⟨fr, hf⟩ := hA.fr
    obtain ⟨h0, g, d, t, os⟩ := s'
    refine wpAny_le (type_str (fr := fr) (r'.K ok) ⟨fun tk' => ?_⟩) hA.hd (by have := hA.dp; show A.depth ≤ 500; omega) hf hA.gd (by have := hA.un; show A.units ≤ 5000; omega)
    have r2 : Rel C μ' _ ⟨h0, g, d, tk', os⟩ := r'.toks h0 g d tk' rfl rfl
    refine wpAny_Name ((Looks.of_peek (M := model P C.w) (r2.K ok) (hn2 L)).here ?_) (by decide)
    have : compareOp .Is (.type "str") (.type "str") = pure (.bool true) := by rfl
    refine rwG (this) ?_
    exact wpAny_pure (wpAny_truthy_bool (q μ' _ _ hp r2 rfl))
  · (first | exact nn e4 | cases e4)
/-! the rules' methods -/
theorem reTy {p : Params} {a : Addr} {code : List Nat} {want : Nat} (e : reIn (KF p) a code want) {h : Heap} (X : (KF p).In h) : ∃ o, h.get? a = some o ∧ o.cls = .type "re.Pattern" ∧ o.dict = none := by
  obtain ⟨_, _, _, _, _, _, _, hp, _⟩ := (reAt_of X e).ex
  exact ⟨_, hp, rfl, rfl⟩
noncomputable def isRe (a : Nat) : Bool := Nat.beq a 204 || Nat.beq a 222 || Nat.beq a 227
noncomputable def reAny (v : V) : M Unit := fun σ => match v with
  | .old a => match isRe a with
    | true => some ((), σ)
    | false => none
  | _ => none
theorem isRe_ty {p : Params} {a : Nat} (e : isRe a = true) {h : Heap} (X : (KF p).In h) : ∃ o, h.get? a = some o ∧ o.cls = .type "re.Pattern" ∧ o.dict = none := by
  unfold isRe at e
  simp only [Bool.or_eq_true] at e
  rcases e with (e | e) | e
  · rw [Nat.eq_of_beq_eq_true e]; exact reTy (re204 p) X
  · rw [Nat.eq_of_beq_eq_true e]; exact reTy (re222 p) X
  · rw [Nat.eq_of_beq_eq_true e]; exact reTy (re227 p) X
theorem SE_reM {o : Expr} {name : Str} {apos pos : Pos} {args : List Expr} {fo : Nat → M V} {fa : Nat → M (List V)} {fn : List V → M V} (id : String) (slot : Slot "re.Pattern" name id) (ty : typeOf (.builtin id) = pure (.type "method_descriptor"))
    (ok : CxOk C) (h : SE C D U Γ o fo) (ha : SEs C D U Γ args fa) (hf : SCl C D U (.builtin id) fn)
    (hbase : autoParam (∀ env, attributeBase o name env (eval o env) = eval o env) au1._auto_1)
    (hfew : autoParam (∀ env, ((backTo pos (starEach args env)).all (fun x => !x.1) && (backToKw pos (keywordEach [] env)).all (fun x => x.1.isSome)
      && decide (args.length + ([] : List Keyword).length + (if ([] : List Keyword).isEmpty then 0 else 1) < 30)) = true) au1._auto_1)
    (hline : autoParam ((apos.endLine == pos.line) = true) au2._auto_1) (hpl : autoParam (∀ env, (backTo pos (starEach args env)).any (·.1) = false) au1._auto_1) :
    SE C D U Γ (.Call (.Attribute o name apos) args [] pos) (fun l => bnd (fo l) fun v => bnd (reAny v) fun _ => bnd (fa l) fun vs => fn (v :: vs)) := fun l L μ hok hl A hA σ s r b σ' e Q E q => by
  obtain ⟨v, σ₁, e1, e2⟩ := bnd_some e
  obtain ⟨_, σ₂, e3, e4⟩ := bnd_some e2
  obtain ⟨vs, σ₃, e5, e6⟩ := bnd_some e4
  refine wpAny_Call_method_lateS (hbase _) (hfew _) hline ?_
  refine h l L μ hok hl A hA σ s r v σ₁ e1 _ E fun μ' s' w hp r' rv => ?_
  unfold reAny at e3
  induction rv with
  | old a =>
    simp only at e3
    split at e3
    · rename_i hre
      cases e3
      obtain ⟨ob, hob, hcl, hdn⟩ := isRe_ty hre (r'.K ok)
      refine ⟨"re.Pattern", id, pa_re, slot, ty, ⟨ob, hob, hcl⟩, (fun a e => by cases e; exact ⟨ob, hob, hdn⟩), ?_⟩
      refine callWith_of (P := fun h => (KF C.w.params).In h) (by rw [hpl]; rfl) (keep_bi id) (evA (hpl _) ?_)
      refine ha l L μ' pos (Γ.mono hp hok) (mu_ext hp hl) A hA _ s' r' vs σ₃ e5 _ E fun μ'' s'' ws hp' r'' rvs => ⟨r''.K ok, ?_⟩
      exact hf (.old a :: vs) (.ref a :: ws) μ'' (.cons (.old a) rvs) A hA σ₃ s'' r'' b σ' e6 Q E fun μ₃ s₃ x hp3 => q μ₃ s₃ x (List.IsPrefix.trans (List.IsPrefix.trans hp hp') hp3)
    · (first | exact nn e3 | cases e3)
  | _ => (first | exact nn e3 | cases e3)
noncomputable def nameC (c : Nat) : Bool := Nat.ble 65 c && Nat.blt c 125
noncomputable def args2 (vs : List V) : Option (V × V) := match vs with
  | [a, b] => some (a, b)
  | _ => none
theorem args2_some {vs : List V} {p : V × V} (h : args2 vs = some p) : vs = [p.1, p.2] := by
  rcases vs with _ | ⟨a, _ | ⟨b, _ | ⟨c, l⟩⟩⟩ <;> first | exact nn h | (cases h; rfl)
noncomputable def args3 (vs : List V) : Option (V × V × V) := match vs with
  | [a, b, c] => some (a, b, c)
  | _ => none
theorem args3_some {vs : List V} {p : V × V × V} (h : args3 vs = some p) : vs = [p.1, p.2.1, p.2.2] := by
  rcases vs with _ | ⟨a, _ | ⟨b, _ | ⟨c, _ | ⟨d, l⟩⟩⟩⟩ <;> first | exact nn h | (cases h; rfl)
noncomputable def atO (x : List At) : Option At := match x with
  | [a] => some a
  | _ => none
theorem atO_some {x : List At} {a : At} (h : atO x = some a) : x = [a] := by
  rcases x with _ | ⟨a, _ | ⟨b, l⟩⟩ <;> first | exact nn h | (cases h; rfl)
noncomputable def strO (v : V) : Option At := match v with
  | .str x => atO x
  | _ => none
theorem strO_some {v : V} {a : At} (h : strO v = some a) : v = .str [a] := by
  cases v <;> first | exact nn h | exact congrArg V.str (atO_some h)
noncomputable def chO (a : Option At) : Option Nat := match a with
  | some (.ch c) => some c
  | _ => none
theorem chO_some {a : Option At} {c : Nat} (h : chO a = some c) : a = some (.ch c) := by
  rcases a with _ | (_ | _) <;> first | exact nn h | (cases h; rfl)
noncomputable def labO (a : Option At) : Option Nat := match a with
  | some (.lab c) => some c
  | _ => none
theorem labO_some {a : Option At} {c : Nat} (h : labO a = some c) : a = some (.lab c) := by
  rcases a with _ | (_ | _) <;> first | exact nn h | (cases h; rfl)
noncomputable def oldO (v : V) : Option Nat := match v with
  | .old a => some a
  | _ => none
theorem oldO_some {v : V} {a : Nat} (h : oldO v = some a) : v = .old a := by
  cases v <;> first | exact nn h | (cases h; rfl)
noncomputable def txtO (v : V) : Option Nat := match v with
  | .txt a => some a
  | _ => none
theorem txtO_some {v : V} {a : Nat} (h : txtO v = some a) : v = .txt a := by
  cases v <;> first | exact nn h | (cases h; rfl)
noncomputable def nmO (v : V) : Option Nat := match v with
  | .nm a => some a
  | _ => none
theorem nmO_some {v : V} {a : Nat} (h : nmO v = some a) : v = .nm a := by
  cases v <;> first | exact nn h | (cases h; rfl)
/-- which search: by the sign or by the label -/
noncomputable def searchK (vs : List V) : Option (Sum Nat Nat) := match args2 vs with
  | some p => match oldO p.1 with
    | some a => match Nat.beq a 222 with
      | true => match chO (strO p.2) with
        | some c => match nameC c with
          | true => some (.inl c)
          | false => none
        | none => none
      | false => match Nat.beq a 227 with
        | true => match labO (strO p.2) with
          | some k => match Nat.blt k 6 with
            | true => some (.inr k)
            | false => none
          | none => none
        | false => none
    | none => none
  | none => none
theorem searchK_some {vs : List V} {x : Sum Nat Nat} (h : searchK vs = some x) : (∃ c, vs = [.old 222, .str [.ch c]] ∧ nameC c = true) ∨ ∃ k, vs = [.old 227, .str [.lab k]] ∧ k < 6 := by
  unfold searchK at h
  split at h
  · rename_i p hp
    have hp := args2_some hp
    split at h
    · rename_i a ha
      have ha := oldO_some ha
      split at h
      · rename_i hb
        have hb := Nat.eq_of_beq_eq_true hb
        split at h
        · rename_i c hc
          have hc := strO_some (chO_some hc)
          split at h
          · rename_i hn
            exact .inl ⟨c, by rw [hp, ha, hc, hb], hn⟩
          · exact nn h
        · exact nn h
      · split at h
        · rename_i hb
          have hb := Nat.eq_of_beq_eq_true hb
          split at h
          · rename_i k hk
            have hk := strO_some (labO_some hk)
            split at h
            · rename_i hn
              exact .inr ⟨k, by rw [hp, ha, hk, hb], Nat.le_of_ble_eq_true hn⟩
            · exact nn h
          · exact nn h
        · exact nn h
    · exact nn h
  · exact nn h
noncomputable def searchM (vs : List V) : M V := fun σ => match searchK vs with
  | some _ => some (.none, σ)
  | none => none
theorem SCl_search (ok : CxOk C) : SCl C D U (.builtin "re.Pattern.search") searchM := fun vs ws μ rv A hA σ s r b σ' e Q E q => by
  unfold searchM at e
  split at e
  · rename_i x hx
    have q := qc e q
    clear e
    rcases searchK_some hx with ⟨c, rfl, hc⟩ | ⟨k, rfl, hk⟩
    · clear hx
      unfold nameC at hc
      rw [Bool.and_eq_true] at hc
      have h1 : 65 ≤ c := Nat.le_of_ble_eq_true hc.1
      have h2 : c < 125 := Nat.le_of_ble_eq_true hc.2
      refine RVs.eCons rv fun _ _ h t => ?_
      refine RVs.eCons t fun _ _ h' t' => ?_
      refine RVs.eNil t' ?_
      refine RV.eOld h ?_
      refine RV.eStr h' fun tk => ?_
      have hm := List.all_eq_true.mp miss_name (c - 65) (by simp; omega)
      rw [show 65 + (c - 65) = c by omega] at hm
      obtain ⟨m', e1, e2⟩ := missB_some hm
      refine rwG (show C.str [.ch c] = (⟨#[c]⟩ : Str) from Cx_str_chs C [c]) ?_
      exact search_none (reAt_of (r.K ok) (re222 _)) (x := ⟨#[c]⟩) (by show 1 ≤ 1000; decide) e1 e2 (q μ s _ (List.prefix_refl _) r .none)
    · clear hx
      obtain ⟨j, cl⟩ := ok.cls k hk
      refine RVs.eCons rv fun _ _ h t => ?_
      refine RVs.eCons t fun _ _ h' t' => ?_
      refine RVs.eNil t' ?_
      refine RV.eOld h ?_
      refine RV.eStr h' fun tk => ?_
      have hm := List.all_eq_true.mp (List.all_eq_true.mp miss_lab k (by simpa using hk)) j (by simpa using cl.lt)
      obtain ⟨m', e1, e2⟩ := missB_some hm
      have hx : C.str [.lab k] = ⟨((97 + k) :: tailOf j).toArray⟩ := by
        show C.l k ++ (⟨#[]⟩ : Str) = _
        refine rwG (cl.l) ?_
        exact Str.ext' (by simp [Str.cps_append])
      refine rwG (hx) ?_
      have hlen : ((97 + k) :: tailOf j).length ≤ 1000 := by
        have := (ok.lab k).2
        rw [cl.l] at this
        have h2 : ((97 + k) :: tailOf j).length ≤ 20 := this
        omega
      exact search_none (reAt_of (r.K ok) (re227 _)) (x := ⟨((97 + k) :: tailOf j).toArray⟩) hlen e1 e2 (q μ s _ (List.prefix_refl _) r .none)
  · exact nn e
end
end
end Mine
set_option genSizeOf false
set_option genInjectivity false
namespace Mine
noncomputable section
open PySem PySem.W PyProof.Rows PySem.Calls
set_option maxRecDepth 100000
set_option maxHeartbeats 0
/-! a def with one argument by name -/
structure DefOkK (f : Addr) (np nl : Nat) (kn : Str) : Prop where
  K : ∀ p, (KF p).lookup f = some ⟨.type "function", none, .func (fdOf f), #[]⟩
  cd : ∀ p, codeIn (KF p) (fdOf f).code (fdOf f).qualname = true
  body : (fdOf f).body = .stmts (bodyOf f)
  hnl : Nat.beq (tabN f).length nl = true
  hnp : Nat.ble (np + 1) nl = true
  cell : (fdOf f).scope.names.all (fun x => x.2 != .cell) = true
  loc : ((tabN f).take (np + 1)).all (fun x => (fdOf f).scope.names.lookup x == some .local) = true
  co : (fdOf f).scope.isCoroutine = false
  gen : (fdOf f).scope.isGenerator = false
  kind : (fdOf f).scope.kind = .function
  bind : ∀ p S ws b, ws.length = np → peek (KF p) S (bindArgs (fdOf f) ⟨ws, [(kn, .bool b)]⟩) = some (((tabN f).take (np + 1)).zip (ws ++ [.bool b]))
section
variable {C : Cx} {D U : Nat} {Γ : FE}
noncomputable def SFnK (C : Cx) (D U : Nat) (f : Addr) (kn : Str) (fn : Bool → List V → M V) : Prop := ∀ b vs ws μ, RVs C μ vs ws → Snd C D U (RV C) (call (.ref f) ws [(kn, .bool b)]) (fn b vs) μ
theorem SFnK_def {f : Addr} {h : GOk f} {g : Nat → M VF} {np nl : Nat} {kn : Str} (ok : CxOk C) (ok2 : DefOkK f np nl kn)
    (hD : D < 900) (hb : SXs C (D + 1) (U + 3) (GG f h) (bodyOf f) g) : SFnK C D U f kn (fun b => defD f np nl [.bool b] g) := fun kb vs ws μ rv A hA σ s r b σ' e Q E q => by
  replace e : defD f np nl [.bool kb] g vs σ = some (b, σ') := e
  unfold defD at e
  have hnl := Nat.eq_of_beq_eq_true ok2.hnl
  have hnp := Nat.le_of_ble_eq_true ok2.hnp
  cases hlen : Nat.beq vs.length np with
  | true =>
    rw [hlen] at e
    replace hlen := Nat.eq_of_beq_eq_true hlen
    refine bnd_e e fun r0 σ₁ e1 e2 => ?_
    obtain ⟨hz, e3, e4⟩ := alloc_some e1
    simp only at e3 e4
    subst e3 e4
    refine bnd_e e2 fun fl σ₂ e5 e6 => ?_
    (first | (have q := qc e6 q) | (have q := qcB e6 q) | cases e6)
    have X := r.K ok
    have rva : RVs C μ (vs ++ [.bool kb]) (ws ++ [.bool kb]) := rv.append (.cons (.bool kb) .nil)
    refine wpAny_call ?_
    refine codeAny_call_def (binds := ((tabN f).take (np + 1)).zip (ws ++ [.bool kb])) (Nat.lt_of_le_of_lt hA.dp (Nat.lt_trans hD (by decide))) (X _ _ (ok2.K _)) rfl (ok.lim.keeps r.old) (codeRec_of X (ok2.cd _)) ok2.body
      (fun M A E Q hq => (Looks.of_peek X (ok2.bind _ ⟨M.prog, M.w.params⟩ ws kb (by rw [rv.len, hlen]))).here hq) (fun x hx => by
        have := List.all_eq_true.mp ok2.cell x hx
        simpa using this) (fun x hx => eq_of_beq (List.all_eq_true.mp ok2.loc _ (List.of_mem_zip hx).1)) (fun h₁ hns hk₁ => ?_) ok2.co ok2.gen ok2.kind
    obtain ⟨o, ho, hr⟩ := ns_to (C := C) (μ := μ ++ [s.heap.objs.size]) (tag := f) (vs := (vs ++ [V.bool kb]).map some ++ List.replicate (nl - (np + 1)) none) hns (by simp; omega) (by
      have := MR_binds (C := C) h.e (rva.ext (List.prefix_append μ [s.heap.objs.size])) (by rw [List.length_append]; simp; omega)
      rw [List.length_append, hlen, hnl] at this
      exact this)
    have r₁ := r.add (t := s.toks + (((tabN f).take (np + 1)).zip (ws ++ [.bool kb])).length) (d := s.drawn) hk₁ (get_size_none _) ho hz hr
    have hat : (μ ++ [s.heap.objs.size])[σ.n]? = some s.heap.objs.size := by rw [← r.len]; simp
    have hb' := hb σ.n s.heap.objs.size _ trivial hat
    refine hb' _ (hA.deeper _) _ _ r₁ fl _ e5 _ _ fun μ' s' a hp r' hf => ?_
    have hp' := List.IsPrefix.trans (List.prefix_append μ [s.heap.objs.size]) hp
    induction hf with
    | ret h => exact q μ' s' _ hp' r' h
    | next => exact q μ' s' _ hp' r' .none
    | brk => exact q μ' s' _ hp' r' .none
    | cont => exact q μ' s' _ hp' r' .none
  | false => rw [hlen] at e; cases e
theorem SE_methK {o x : Expr} {name kn : Str} {kb : Bool} {kk : Nat} {kp kp2 apos pos : Pos} {fo fx : Nat → M V} {fn : Bool → List V → M V} (c f : Nat) (ok : CxOk C) (h : SE C D U Γ o fo) (ha : SE C D U Γ x fx) (hf : SFnK C D U f kn fn)
    (he : autoParam (∀ env, ∃ pl : Sem Bool, eval (.Call (.Attribute o name apos) [x] [⟨some kn, .Constant (.bool kb) kk kp, kp2⟩] pos) env = (do
      let ov ← eval o env
      standAt apos.atName
      let (f, first) ← holding [ov] (getMethod ov name pl)
      callWith pos f first (backTo pos (starEach [x] env)) (backToKw pos (keywordEach [⟨some kn, .Constant (.bool kb) kk kp, kp2⟩] env)))) au8._auto_1)
    (hnm : autoParam (∀ k : Fin 8, codeName k ≠ name) au4._auto_1)
    (hga : autoParam (findIn (KF C.w.params) (.ref c) "__getattribute__" = some (some (.builtin "object.__getattribute__"))) au6._auto_1) (hgk : autoParam (findIn (KF C.w.params) (.ref c) "__getattr__" = some none) au6._auto_1)
    (hm : autoParam (findIn (KF C.w.params) (.ref c) name = some (some (.ref f))) au6._auto_1) (ht : autoParam (typeIn (KF C.w.params) (.ref f) = some (.type "function")) au6._auto_1) (hkp : autoParam (keepIn (KF C.w.params) (.ref f) = true) au6._auto_1)
    (hpl : autoParam (∀ env, ((backTo pos (starEach [x] env)).any (·.1) || (backToKw pos (keywordEach [⟨some kn, .Constant (.bool kb) kk kp, kp2⟩] env)).any (·.1.isNone)) = false) au1._auto_1)
    (hst : autoParam (∀ env, starEach [x] env = [(false, eval x env)]) au1._auto_1)  :
    SE C D U Γ (.Call (.Attribute o name apos) [x] [⟨some kn, .Constant (.bool kb) kk kp, kp2⟩] pos) (fun l => bnd (fo l) fun v => bnd (fun σ => match insAt c v σ with | some _ => some ((), σ) | none => none) fun _ => bnd (fx l) fun y => fn kb [v, y]) := fun l L μ hok hl A hA σ s r b σ' e Q E q => by
  refine bnd_e e fun v σ₁ e1 e2 => ?_
  refine bnd_e e2 fun _ σ₂ e3 e4 => ?_
  refine bnd_e e4 fun y σ₃ e5 e6 => ?_
  split at e3
  · rename_i nms hi
    (first | (have q := qc e3 q) | (have q := qcB e3 q) | cases e3)
    obtain ⟨n, d, rfl, g1, g2, g3⟩ := insAt_some hi
    obtain ⟨pl, he⟩ := he (Γ.env L)
    refine rwG (he) ?_
    refine wpAny_bind (h l L μ hok hl A hA σ s r _ _ e1 _ E fun μ' s' w hp r' rv => ?_)
    refine RV.eRef rv fun a hn => ?_
    ·
      obtain ⟨da, es, m, I, dr⟩ := ins_inst r' hn g1 g2
      refine wpAny_bind (wpAny_standAt (wpAny_bind (wpAny_holding ?_)))
      refine method_fn (r'.K ok) I hga hgk hm ht (by show Option.map _ (lookIn name (dictOf es m)) = _; rw [dr.lookMiss (keysOk_all g3) hnm m]; rfl) ?_
      show wpAny _ _ (callWith pos (.ref f) [.ref a] _ _) _ _ _
      refine callWith_of (P := fun h => (KF C.w.params).In h) (hpl _) (keeps_K hkp) (evalArgs_kw2 (by rfl) ?_ (hst _))
      have hsp := SEs_cons (C := C) (D := D) (U := U) (Γ := Γ) ha SEs_nil (fun env => by rw [hst]; rfl)
      refine hsp l L μ' pos (Γ.mono hp hok) (mu_ext hp hl) A hA _ s' r' [y] σ₃ (by show bnd (fx l) (fun v => bnd (Mine.ret []) fun vs => Mine.ret (v :: vs)) _ = _; unfold bnd; rw [e5]; rfl) _ E fun μ'' s'' ws hp' r'' rvs => ?_
      refine kwAll_cons (wpAny_pure (kwAll_nil ⟨r''.K ok, ?_⟩))
      exact hf kb (.ref n :: [y]) (.ref a :: ws) μ'' (.cons (.ref n a (mu_ext hp' hn)) rvs) A hA σ₃ s'' r'' b σ' e6 Q E fun μ₃ s₃ x hp3 => q μ₃ s₃ x (List.IsPrefix.trans (List.IsPrefix.trans hp hp') hp3)
  · (first | exact nn e3 | cases e3)
end
end
end Mine
set_option genSizeOf false
set_option genInjectivity false
namespace Mine
noncomputable section
open PySem PySem.W PySem.W.X PyProof.Rows PySem.Calls
set_option maxRecDepth 100000
set_option maxHeartbeats 0
/-! Headers([]): its beginning by the machine -/
structure TlPost (h0 : Heap) (g : Array GenState) (d : Drawn) (os : OsState) (Q : Value → Shared → Prop) : Prop where
  use : ∀ tk', Q (.type "list") ⟨h0, g, d, tk', os⟩
local macro_rules | `(tactic| x_close) => `(tactic| (exact TlPost.use (by assumption) _))
theorem type_list {w : World} {fr : List Env} {Q : Value → Shared → Prop} {E : Value → Shared → Prop} {h0 : Heap} {g : Array GenState} {d : Drawn} {t : Nat} {os : OsState}
    (KX : (Mine.KF w.params).In h0) {l : Addr} {n : Nat} (hl : h0.get? l = some ⟨.type "list", none, .seq #[] n, #[]⟩) (hQ : TlPost h0 g d os Q)
    : wpAny (model (OpenLaw.prog PySem.Challenge.rw_xn0029_01) w) (A1 fr) (call (.type "type") [.ref l]) Q E ⟨h0, g, d, t, os⟩ := by
  have hf := kfill w
  revert hf
  k_fill
  intro hf
  x_run
section
variable {C : Cx} {D U : Nat} {Γ : FE}
noncomputable def noList (vs : List V) : M Bool := fun σ => match vs with
  | [.ref n] => match σ.get n with
    | some (.list []) => some (false, σ)
    | _ => none
  | _ => none
theorem ST_typeNotList {es : List Expr} {p1 p2 p3 p4 : Pos} {fa : Nat → M (List V)} (ok : CxOk C) (hD : D ≤ 500) (hU : U ≤ 5000) (ha : SEs C D U Γ es fa)
    (hn1 : ∀ L, peek (KF C.w.params) ⟨P, C.w.params⟩ (loadName (Γ.env L) "type") = some (.type "type")) (hn2 : ∀ L, peek (KF C.w.params) ⟨P, C.w.params⟩ (loadName (Γ.env L) "list") = some (.type "list"))
    (hpl : autoParam (∀ env, (backTo p2 (starEach es env)).any (·.1) = false) au1._auto_1) (hm : autoParam (behindInMarks .IsNot (.Name "list" p3) = false) au7._auto_1) :
    STt C D U Γ (.Compare (.Call (.Name "type" p1) es [] p2) [.IsNot] [.Name "list" p3] p4) (fun l => bnd (fa l) noList) := fun l L μ hok hl A hA σ s r b σ' e0 Q E q => by
  refine bnd_e e0 fun vs σ₁ e1 e4 => ?_
  refine wpAny_isTrue_Compare1 ?_ hm
  refine wpAny_Call_NameR (wpAny_Name ?_ (by decide))
  refine (Looks.of_peek (M := model P C.w) (r.K ok) (hn1 L)).here ?_
  refine callWith_of (P := fun h => (KF C.w.params).In h) (by rw [hpl]; rfl) (keep_type _) (evA (hpl _) ?_)
  refine ha l L μ p2 hok hl A hA σ s r vs σ₁ e1 _ E fun μ' s' ws hp r' rvs => ⟨r'.K ok, ?_⟩
  unfold noList at e4
  split at e4
  · split at e4
    · rename_i g1
      (first | (have q := qc e4 q) | (have q := qcB e4 q) | cases e4)
      refine RVs.eCons rvs fun _ _ rv t => ?_
      refine RVs.eNil t ?_
      refine RV.eRef rv fun a hn => ?_
      refine Rel.at_e r' g1 hn (fun ol hol hzz => ?_); obtain ⟨us, nn, eo, rus⟩ := hzz
      have hus : us = #[] := by
        have := rus.len
        exact Array.eq_empty_of_size_eq_zero (by simpa using this)
      subst hus
      subst eo
      obtain ⟨fr, hf⟩ := hA.fr
      obtain ⟨h0, g, d, t, os⟩ := s'
      refine wpAny_le (type_list (fr := fr) (r'.K ok) hol ⟨fun tk' => ?_⟩) hA.hd (by have := hA.dp; show A.depth ≤ 500; omega) hf hA.gd (by have := hA.un; show A.units ≤ 5000; omega)
      have r2 : Rel C μ' _ ⟨h0, g, d, tk', os⟩ := r'.toks h0 g d tk' rfl rfl
      refine wpAny_Name ((Looks.of_peek (M := model P C.w) (r2.K ok) (hn2 L)).here ?_) (by decide)
      have : compareOp .IsNot (.type "list") (.type "list") = pure (.bool false) := by rfl
      refine rwG (this) ?_
      exact wpAny_pure (wpAny_truthy_bool (q μ' _ _ hp r2 rfl))
    · (first | exact nn e4 | cases e4)
  · (first | exact nn e4 | cases e4)
end
theorem po356_7 : PutOk 356 7 := ⟨by intro _; kernel_rfl, by intro _; kernel_rfl, by intro _; kernel_rfl, by intro _; kernel_rfl, by decide⟩
theorem ok250 : GOk 250 := ⟨by kernel_rfl, by kernel_rfl, by kernel_rfl, by kernel_rfl, by decide⟩
theorem do250 : DefOk 250 2 4 [] := ⟨by intro _; kernel_rfl, by intro _; kernel_rfl, by kernel_rfl, by decide, by decide, by kernel_rfl, by kernel_rfl, by kernel_rfl, by kernel_rfl, by kernel_rfl, by
  intro p S ws h; exact ln2 ws h fun a b => by kernel_rfl⟩
noncomputable def d250 : {g : Nat → M VF // ∀ C, CxOk C → ∀ D U, D < 480 → U < 4700 → SXs C D U (GG 250 ok250) (bodyOf 250) g} := ⟨_, fun C ok D U hD hU => by
  refine' SXs_cons ?_ ?_
  refine' SX_assign 1 ?_ (by kernel_rfl)
  refine' SE_ifx ?_ ?_ ?_
  refine' ST_cmp SCmp_isNot ?_ ?_; rotate_left 2
  exact SE_loc 1 (by kernel_rfl) (by decide)
  exact SE_none
  exact SE_loc 1 (by kernel_rfl) (by decide)
  exact SE_no
  refine' SXs_cons ?_ ?_
  refine' SX_if ?_ ?_ ?_
  refine' ST_typeNotList (by assumption) (le_a hD rfl) (le_a hU rfl) ?_ (by intro _; kernel_rfl) (by intro _; kernel_rfl); rotate_left 1
  refine' SEs_cons ?_ ?_
  exact SE_loc 1 (by kernel_rfl) (by decide)
  exact SEs_nil
  exact SXs_no
  exact SXs_nil
  refine' SXs_cons ?_ ?_
  refine' SX_insPut 356 7 po356_7 (by assumption) (by rfl) ?_ ?_; rotate_left 2
  exact SE_loc 1 (by kernel_rfl) (by decide)
  exact SE_loc 0 (by kernel_rfl) (by decide)
  refine' SXs_cons ?_ ?_
  refine' SX_if ?_ ?_ ?_
  refine' ST_valA (by assumption) (lt_a hD rfl) (lt_a hU rfl) ?_; rotate_left 1
  exact SE_bool
  refine' SXs_cons ?_ ?_
  refine' SX_for 100 ?_ ?_ ?_
  exact SE_loc 1 (by kernel_rfl) (by decide)
  refine' SAsg_pair ?_ ?_
  exact SAsg_name 2 (by kernel_rfl)
  exact SAsg_name 3 (by kernel_rfl)
  exact SXs_no
  exact SXs_nil
  exact SXs_nil
  exact SXs_nil⟩
theorem cc250 {C : Cx} {D U : Nat} (ok : CxOk C) (hD : D < 479) (hU : U < 4697) : SFnC C D U 250 (defD 250 2 4 [] d250.1) := SFnC_def ok (fun _ => .nil) do250 (lt_a hD rfl) (d250.2 C ok _ _ (lt_1 hD rfl) (lt_3 hU rfl))
theorem nw356 : NewOk 356 250 := ⟨by intro _; kernel_rfl, by intro _; kernel_rfl, by intro _; kernel_rfl⟩
noncomputable def hdNew : List V → M V := insNewM 356 (defD 250 2 4 [] d250.1)
theorem SCl_hd {C : Cx} {D U : Nat} (ok : CxOk C) (hD : D < 390) (hU : U < 4690) : SCl C D U (.ref 356) hdNew := SCl_insNew nw356 ok (cc250 ok (lt_1 hD rfl) (lt_1 hU rfl))
end
end Mine
set_option genSizeOf false
set_option genInjectivity false
namespace Mine
noncomputable section
open PySem PySem.W PyProof.Rows PySem.Calls
set_option maxRecDepth 100000
set_option maxHeartbeats 0
theorem ok257 : GOk 257 := ⟨by kernel_rfl, by kernel_rfl, by kernel_rfl, by kernel_rfl, by decide⟩
theorem do257 : DefOkK 257 2 4 "name" := ⟨by intro _; kernel_rfl, by intro _; kernel_rfl, by kernel_rfl, by decide, by decide, by kernel_rfl, by kernel_rfl, by kernel_rfl, by kernel_rfl, by kernel_rfl, by
  intro p S ws b h; exact ln2 ws h fun a b => by kernel_rfl⟩
noncomputable def d257 : {g : Nat → M VF // ∀ C, CxOk C → ∀ D U, D < 500 → U < 4700 → SXs C D U (GG 257 ok257) (bodyOf 257) g} := ⟨_, fun C ok D U hD hU => by
  refine' SXs_cons ?_ ?_
  refine' SX_if ?_ ?_ ?_
  refine' ST_typeStr (by assumption) (le_a hD rfl) (le_a hU rfl) ?_ (by intro _; kernel_rfl) (by intro _; kernel_rfl); rotate_left 1
  refine' SEs_cons ?_ ?_
  exact SE_loc 1 (by kernel_rfl) (by decide)
  exact SEs_nil
  refine' SXs_cons ?_ ?_
  refine' SX_assign 3 ?_ (by kernel_rfl)
  refine' SE_ifx ?_ ?_ ?_
  refine' ST_valA (by assumption) (lt_a hD rfl) (lt_a hU rfl) ?_; rotate_left 1
  exact SE_loc 2 (by kernel_rfl) (by decide)
  refine' SE_glob 222 (by assumption) (by intro _; kernel_rfl)
  refine' SE_glob 227 (by assumption) (by intro _; kernel_rfl)
  refine' SXs_cons ?_ ?_
  refine' SX_if ?_ ?_ ?_
  refine' ST_valA (by assumption) (lt_a hD rfl) (lt_a hU rfl) ?_; rotate_left 1
  refine' SE_reM "re.Pattern.search" slot_search type_search (by assumption) ?_ ?_ (SCl_search (by assumption)); rotate_left 2
  exact SE_loc 3 (by kernel_rfl) (by decide)
  refine' SEs_cons ?_ ?_
  exact SE_loc 1 (by kernel_rfl) (by decide)
  exact SEs_nil
  refine' SXs_cons ?_ ?_
  exact SX_no
  exact SXs_nil
  exact SXs_nil
  refine' SXs_cons ?_ ?_
  refine' SX_ret ?_
  exact SE_loc 1 (by kernel_rfl) (by decide)
  exact SXs_nil
  exact SXs_nil
  refine' SXs_cons ?_ ?_
  exact SX_no
  exact SXs_nil⟩
theorem c257 {C : Cx} {D U : Nat} (ok : CxOk C) (hD : D < 499) (hU : U < 4697) : SFnK C D U 257 "name" (fun b => defD 257 2 4 [.bool b] d257.1) := SFnK_def ok do257 (lt_a hD rfl) (d257.2 C ok _ _ (lt_1 hD rfl) (lt_3 hU rfl))
end
end Mine
set_option genSizeOf false
set_option genInjectivity false
namespace Mine
noncomputable section
open PySem PySem.W PyProof.Rows PySem.Calls
set_option maxRecDepth 100000
set_option maxHeartbeats 0
theorem ok303 : GOk 303 := ⟨by kernel_rfl, by kernel_rfl, by kernel_rfl, by kernel_rfl, by decide⟩
theorem do303 : DefOk 303 2 5 [.none] := ⟨by intro _; kernel_rfl, by intro _; kernel_rfl, by kernel_rfl, by decide, by decide, by kernel_rfl, by kernel_rfl, by kernel_rfl, by kernel_rfl, by kernel_rfl, by
  intro p S ws h; exact ln2 ws h fun a b => by kernel_rfl⟩
noncomputable def d303 : {g : Nat → M VF // ∀ C, CxOk C → ∀ D U, D < 480 → U < 4690 → SXs C D U (GG 303 ok303) (bodyOf 303) g} := ⟨_, fun C ok D U hD hU => by
  refine' SXs_cons ?_ ?_
  refine' SX_assign 1 ?_ (by kernel_rfl)
  refine' SE_methK 356 257 (by assumption) ?_ ?_ (c257 (by assumption) (lt_a hD rfl) (lt_a hU rfl)); rotate_left 2
  exact SE_loc 0 (by kernel_rfl) (by decide)
  with_reducible refine' SE_strM "str.lower" F.slot_str_lower F.type_str_lower (by assumption) ?_ ?_ SCl_lower (hbase := by intro _; with_unfolding_all rfl) (hfew := by intro _; with_unfolding_all rfl) (hline := by with_unfolding_all rfl) (hpl := by intro _; with_unfolding_all rfl); rotate_left 2
  exact SE_loc 1 (by kernel_rfl) (by decide)
  exact SEs_nil
  refine' SXs_cons ?_ ?_
  refine' SX_for 100 ?_ ?_ ?_
  refine' SE_attr 356 7 (by assumption) ?_; rotate_left 1
  exact SE_loc 0 (by kernel_rfl) (by decide)
  refine' SAsg_pair ?_ ?_
  exact SAsg_name 3 (by kernel_rfl)
  exact SAsg_name 4 (by kernel_rfl)
  refine' SXs_cons ?_ ?_
  refine' SX_if ?_ ?_ ?_
  refine' ST_cmp (SCmp_eq2 (by assumption) (lt_30 hU rfl)) ?_ ?_; rotate_left 2
  with_reducible refine' SE_strM "str.lower" F.slot_str_lower F.type_str_lower (by assumption) ?_ ?_ SCl_lower (hbase := by intro _; with_unfolding_all rfl) (hfew := by intro _; with_unfolding_all rfl) (hline := by with_unfolding_all rfl) (hpl := by intro _; with_unfolding_all rfl); rotate_left 2
  exact SE_loc 3 (by kernel_rfl) (by decide)
  exact SEs_nil
  exact SE_loc 1 (by kernel_rfl) (by decide)
  refine' SXs_cons ?_ ?_
  refine' SX_ret ?_
  exact SE_loc 4 (by kernel_rfl) (by decide)
  exact SXs_nil
  exact SXs_nil
  exact SXs_nil
  refine' SXs_cons ?_ ?_
  refine' SX_ret ?_
  exact SE_loc 2 (by kernel_rfl) (by decide)
  exact SXs_nil⟩
theorem c303 {C : Cx} {D U : Nat} (ok : CxOk C) (hD : D < 479) (hU : U < 4687) : SFn C D U 303 (defD 303 2 5 [.none] d303.1) := SFn_def2 ok (fun _ => .cons .none .nil) do303 (lt_a hD rfl) (d303.2 C ok _ _ (lt_1 hD rfl) (lt_3 hU rfl))
theorem ok320 : GOk 320 := ⟨by kernel_rfl, by kernel_rfl, by kernel_rfl, by kernel_rfl, by decide⟩
theorem do320 : DefOk 320 1 1 [] := ⟨by intro _; kernel_rfl, by intro _; kernel_rfl, by kernel_rfl, by decide, by decide, by kernel_rfl, by kernel_rfl, by kernel_rfl, by kernel_rfl, by kernel_rfl, by
  intro p S ws h; exact ln1 ws h fun a => by kernel_rfl⟩
noncomputable def d320 : {g : Nat → M VF // ∀ C, CxOk C → ∀ D U, D < 480 → U < 4690 → SXs C D U (GG 320 ok320) (bodyOf 320) g} := ⟨_, fun C ok D U hD hU => by
  refine' SXs_cons ?_ ?_
  refine' SX_ret ?_
  refine' SE_subS (by assumption) ?_ ?_; rotate_left 2
  refine' SE_attr 356 7 (by assumption) ?_; rotate_left 1
  exact SE_loc 0 (by kernel_rfl) (by decide)
  refine' SE_slice ?_ ?_ ?_
  exact SP_none
  exact SP_none
  exact SP_none
  exact SXs_nil⟩
theorem c320 {C : Cx} {D U : Nat} (ok : CxOk C) (hD : D < 479) (hU : U < 4687) : SFn C D U 320 (defD 320 1 1 [] d320.1) := SFn_def2 ok (fun _ => .nil) do320 (lt_a hD rfl) (d320.2 C ok _ _ (lt_1 hD rfl) (lt_3 hU rfl))
theorem ok290 : GOk 290 := ⟨by kernel_rfl, by kernel_rfl, by kernel_rfl, by kernel_rfl, by decide⟩
theorem do290 : DefOk 290 2 2 [] := ⟨by intro _; kernel_rfl, by intro _; kernel_rfl, by kernel_rfl, by decide, by decide, by kernel_rfl, by kernel_rfl, by kernel_rfl, by kernel_rfl, by kernel_rfl, by
  intro p S ws h; exact ln2 ws h fun a b => by kernel_rfl⟩
noncomputable def d290 : {g : Nat → M VF // ∀ C, CxOk C → ∀ D U, D < 470 → U < 4680 → SXs C D U (GG 290 ok290) (bodyOf 290) g} := ⟨_, fun C ok D U hD hU => by
  refine' SXs_cons ?_ ?_
  refine' SX_ret ?_
  refine' SE_cmp SCmp_isNot ?_ ?_; rotate_left 2
  refine' SE_meth 356 303 (by assumption) ?_ ?_ (c303 (by assumption) (lt_a hD rfl) (lt_a hU rfl)) (hev := fun _ _ _ _ _ h => evA rfl h); rotate_left 2
  exact SE_loc 0 (by kernel_rfl) (by decide)
  refine' SEs_cons ?_ ?_
  exact SE_loc 1 (by kernel_rfl) (by decide)
  exact SEs_nil
  exact SE_none
  exact SXs_nil⟩
theorem c290 {C : Cx} {D U : Nat} (ok : CxOk C) (hD : D < 469) (hU : U < 4677) : SFn C D U 290 (defD 290 2 2 [] d290.1) := SFn_def2 ok (fun _ => .nil) do290 (lt_a hD rfl) (d290.2 C ok _ _ (lt_1 hD rfl) (lt_3 hU rfl))
end
end Mine
set_option genSizeOf false
set_option genInjectivity false
namespace Mine
noncomputable section
open PySem PySem.W PyProof.Rows PySem.Calls
set_option maxRecDepth 100000
set_option maxHeartbeats 0
section
variable {C : Cx} {D U : Nat} {Γ : FE}
/-! in -/
noncomputable def insChk (c : Nat) (v : V) : M Unit := fun σ => match insAt c v σ with
  | some _ => some ((), σ)
  | none => none
noncomputable def inStr (y x : List At) : M Bool := fun σ => match chsOf y with
  | some cs => match x with
    | [.ch c] => some (Txt.contains ⟨cs.toArray⟩ ⟨#[c]⟩, σ)
    | _ => none
  | none => none
noncomputable def inM (fn : List V → M V) (a b : V) : M Bool := match b with
  | .str y => match a with
    | .str x => inStr y x
    | _ => no
  | .ref n => bnd (insChk 356 (.ref n)) fun _ => bnd (fn [.ref n, a]) truB
  | _ => no
theorem in_own {w : World} {A : Around} {E : Value → Shared → Prop} {s : Shared} {K : Frag} {Cl x f : Addr} {ox : Obj} {od : Option Obj} {v : Value} {Q : Value → Shared → Prop} (X : K.In s.heap) (I : InstAt s.heap x ox Cl od) (hs : findIn K (.ref Cl) "__contains__" = some (some (.ref f))) (hf : isFn K (.ref f) = true)
    (h : wpAny (model P w) A (call (.ref f) [.ref x, v]) (fun r s' => wpAny (model P w) A (truthy r) (fun b => Q (.bool b)) E s') E s) : wpAny (model P w) A (compareOp .In v (.ref x)) Q E s := by
  refine wpAny_bind ?_
  unfold contains
  refine wpAny_holding (wpAny_bind (wpAny_bind (I.type.here ((looks_findIn X hs).here ?_))))
  refine wite_n (by simp) ?_
  exact wpAny_bind (unlessNone_K X I hs hf (wpAny_mono h (fun _ _ z => wpAny_mono z (fun _ _ z => wpAny_pure z) fun _ _ z => z) fun _ _ z => z))
theorem fb_in (p) : findIn (KF p) (.ref 356) "__contains__" = some (some (.ref 290)) := by kernel_rfl
theorem fb_fn (p) : isFn (KF p) (.ref 290) = true := by kernel_rfl
theorem SCmp_in {fn : List V → M V} (ok : CxOk C) (hf : SFn C D U 290 fn) : SCmp C D U .In (inM fn) := fun a b wa wb μ ra rb A hA σ s r v σ' e Q E q => by
  unfold inM at e
  induction rb with
  | str y t =>
    induction ra with
    | str x u =>
      simp only at e
      unfold inStr at e
      split at e
      · rename_i cs hcs
        split at e
        · rename_i c
          (first | (have q := qc e q) | (have q := qcB e q) | cases e)
          have hy := chsOf_map hcs
          subst hy
          refine SB.contains ?_
          rw [Cx_str_chs, show C.str [.ch c] = (⟨#[c]⟩ : Str) from Cx_str_chs C [c]]
          exact q μ s _ (List.prefix_refl _) r rfl
        · (first | exact nn e | cases e)
      · (first | exact nn e | cases e)
    | _ => (first | exact nn e | cases e)
  | ref n ad hn =>
    refine bnd_e e fun _ σ₁ e1 e2 => ?_
    refine bnd_e e2 fun x σ₂ e3 e4 => ?_
    unfold insChk at e1
    split at e1
    · rename_i nms hi
      (first | (have q := qc e1 q) | (have q := qcB e1 q) | cases e1)
      obtain ⟨n', d, hv, g1, g2, g3⟩ := insAt_some hi
      cases hv
      obtain ⟨da, es, m, I, dr⟩ := ins_inst r hn g1 g2
      refine in_own (r.K ok) I (fb_in _) (fb_fn _) ?_
      refine hf [.ref n, a] [.ref ad, wa] μ (.cons (.ref n ad hn) (.cons ra .nil)) A hA _ s r x σ₂ e3 _ E fun μ' s' w hp r' rv => ?_
      refine tru_snd rv A hA σ₂ s' r' v σ' e4 _ E fun μ'' s'' b' hp' r'' hb => ?_
      cases hb
      exact q μ'' s'' _ (List.IsPrefix.trans hp hp') r'' rfl
    · (first | exact nn e1 | cases e1)
  | _ => (first | exact nn e | cases e)
/-! a def with one cell, its second argument -/
structure GOkC (f : Addr) : Prop where
  a : (fdOf f).scope.kind = .function
  b : (fdOf f).globals = mainGlobals
  c : (fdOf f).builtins = builtinsNs
  d : (tabN f).all (fun x => (callEnvC (fdOf f) 0 f).kindOf x == some .local) = true
  e : (tabN f).Nodup
noncomputable def GC (f : Addr) (h : GOkC f) (n l0 : Nat) (L0 : Addr) : FE where
  env L := { callEnvC (fdOf f) L0 f with locals := L }
  ok μ := ∀ i, i < n → μ[l0 + 1 + i]? = some (L0 + 1 + i)
  mono hp h i hi := mu_ext hp (h i hi)
  tag := f
  fn _ := h.a
  loc _ := rfl
  glb _ := h.b
  blt _ := h.c
  knd L x hx := by
    have := List.all_eq_true.mp h.d x hx
    exact eq_of_beq this
  nd := h.e
theorem GC_cell {f : Addr} {h : GOkC f} {n l0 : Nat} {L0 : Addr} {x : Str} (i : Nat) (hi : i < n) (hk : (fdOf f).scope.names.lookup x = some .cell) (hc : (cellsFrom (L0 + 1) (fdOf f).scope.names []).lookup x = some (L0 + 1 + i)) : CellAt (GC f h n l0 L0) x (l0 + 1 + i) (L0 + 1 + i) where
  hk _ := hk
  hc _ := hc
  hm μ h := h i hi
structure DefOkC1 (f : Addr) (p1 x : Str) : Prop where
  K : ∀ p, (KF p).lookup f = some ⟨.type "function", none, .func (fdOf f), #[]⟩
  cd : ∀ p, codeIn (KF p) (fdOf f).code (fdOf f).qualname = true
  body : (fdOf f).body = .stmts (bodyOf f)
  co : (fdOf f).scope.isCoroutine = false
  gen : (fdOf f).scope.isGenerator = false
  kind : (fdOf f).scope.kind = .function
  bind : ∀ a b, bindArgs (fdOf f) ⟨[a, b], []⟩ = pure [(p1, a), (x, b)]
  cells : ∀ n, cellsFrom n (fdOf f).scope.names [] = [(x, n)]
  k1 : (fdOf f).scope.names.lookup p1 = some .local
  kx : (fdOf f).scope.names.lookup x = some .cell
  tab : tabN f = [p1]
  clo : (fdOf f).closure = []
noncomputable def defC1 (f : Nat) (g : Nat → Nat → M VF) (vs : List V) : M V := match vs with
  | [a, b] => bnd (alloc (.fr f [some a])) fun r => bnd (alloc (.cell (some b))) fun _ => match r with
    | .ref l => bnd (g l l) fun fl => ret (retOf fl)
    | _ => no
  | _ => no
theorem SFn_defC1 {f : Addr} {h : GOkC f} {p1 x : Str} {g : Nat → Nat → M VF} (ok : CxOk C) (ok2 : DefOkC1 f p1 x) (hD : D < 900) (hb : ∀ l0 L0, SXs C (D + 1) (U + 3) (GC f h 1 l0 L0) (bodyOf f) (g l0)) : SFn C D U f (defC1 f g) := fun vs ws μ rv A hA σ s r b σ' e Q E q => by
  unfold defC1 at e
  split at e
  · rename_i va vb
    cases rv with
    | cons ra t =>
    cases t with
    | cons rb t =>
    cases t
    rename_i wa wb
    refine bnd_e e fun r0 σ₁ e1 e => ?_
    obtain ⟨hz, e3, e4⟩ := alloc_some e1
    simp only at e3 e4
    subst e3 e4
    refine bnd_e e fun r1 σ₂ e2 e => ?_
    obtain ⟨hz2, e5, e6⟩ := alloc_some e2
    simp only at e5 e6
    subst e5 e6
    refine bnd_e e fun fl σ₃ e7 e8 => ?_
    (first | (have q := qc e8 q) | (have q := qcB e8 q) | cases e8)
    have X := r.K ok
    have hcs : (cellsFrom (s.heap.objs.size + 1) (fdOf f).scope.names []).lookup x = some (s.heap.objs.size + 1) := by rw [ok2.cells]; simp
    refine wpAny_call ?_
    refine codeAny_call_cells (binds := [(p1, wa), (x, wb)]) (Nat.lt_of_le_of_lt hA.dp (Nat.lt_trans hD (by decide))) (X _ _ (ok2.K _)) rfl (ok.lim.keeps r.old) (codeRec_of X (ok2.cd _)) ok2.body (ok2.bind wa wb) ok2.clo
      (fun y hy => by
        rcases List.mem_cons.mp hy with rfl | hy
        · exact .inl ok2.k1
        · rcases List.mem_cons.mp hy with rfl | hy
          · exact .inr ⟨ok2.kx, by rw [hcs]; rfl⟩
          · cases hy) (fun s₁ I => ?_) ok2.co ok2.gen ok2.kind
    have kp1 : (callEnvC (fdOf f) s.heap.objs.size f).kindOf p1 = some .local := ok2.k1
    have kpx : (callEnvC (fdOf f) s.heap.objs.size f).kindOf x = some .cell := ok2.kx
    have nl : ¬ (callEnvC (fdOf f) s.heap.objs.size f).kindOf x = some .local := by rw [kpx]; decide
    have hL : bindL (callEnvC (fdOf f) s.heap.objs.size f).kindOf [(p1, wa), (x, wb)] (fun _ => none) = fun y => if y = p1 then some wa else none := by
      simp only [bindL, kp1, if_true, nl, if_false]
    have hCm : bindC (callEnvC (fdOf f) s.heap.objs.size f).kindOf [(p1, wa), (x, wb)] (fun _ => none) = fun y => if y = x then some wb else none := by
      simp only [bindC, kp1, if_true, nl, if_false]
    rw [hL, hCm] at I
    obtain ⟨h', tk, hs₁⟩ := I.toInCall.same
    subst hs₁
    have keep := I.toInCall.keep
    have hns : h'.Ns s.heap.objs.size _ := I.toInCall.ns
    obtain ⟨oc, hoc, hdc⟩ := I.cell x (s.heap.objs.size + 1) hcs
    dsimp only at hdc hoc keep
    rw [if_pos rfl] at hdc
    obtain ⟨o, ho, hr⟩ := ns_to (C := C) (μ := μ ++ [s.heap.objs.size]) (tag := f) (vs := [some va]) hns (by rw [ok2.tab]; rfl) (by
      rw [ok2.tab]
      intro i y hy
      cases i with
      | zero =>
        cases hy
        show RQ C _ (some va) (if p1 = p1 then some wa else none)
        rw [if_pos rfl]
        exact .some (ra.ext (List.prefix_append _ _))
      | succ i => cases hy)
    have r₁ := r.add (t := tk) (d := s.drawn) keep (get_size_none _) ho hz hr
    have nof : s.heap.get? (s.heap.objs.size + 1) = none := by
      unfold Heap.get?
      rw [Array.getElem?_eq_none (by omega)]
    have tn : s.heap.objs.size + 1 ∉ tabs := fun ht => by
      obtain ⟨vs, e, _⟩ := (r.tab _ ht).2
      rw [nof] at e
      (first | (have q := qc e q) | (have q := qcB e q) | cases e)
    have cn : C.h.get? (s.heap.objs.size + 1) = none := by
      cases z : C.h.get? (s.heap.objs.size + 1) with
      | none => rfl
      | some o => have := r.old _ o z; rw [nof] at this; cases this
    have hat : (μ ++ [s.heap.objs.size])[σ.n]? = some s.heap.objs.size := by rw [← r.len]; simp
    have get1 : ∀ i, (σ.add (.fr f [some va])).get i = if i = σ.n then some (.fr f [some va]) else σ.get i := fun i => get_add _ _ (by assumption) i
    have fresh : ∀ i y b, (σ.add (.fr f [some va])).get i = some y → live y = true → (μ ++ [s.heap.objs.size])[i]? = some b → b ≠ s.heap.objs.size + 1 := fun i y b e l g => by
      rw [get1] at e
      split at e
      · rename_i z
        subst z
        rw [hat] at g
        cases g
        exact Nat.ne_of_lt (Nat.lt_succ_self _)
      · obtain ⟨b', o', g1, g2, _⟩ := r.obj i y e l
        rw [mu_ext (List.prefix_append _ _) g1] at g
        cases g
        intro z
        rw [z, nof] at g2
        cases g2
    have px : μ <+: μ ++ [s.heap.objs.size] ++ [s.heap.objs.size + 1] := List.IsPrefix.trans (List.prefix_append _ _) (List.prefix_append _ _)
    have r₂ := r₁.addF (vo := .cell (some vb)) fresh cn tn hoc hz2 ⟨_, hdc, .some (rb.ext px)⟩
    have hat2 : (μ ++ [s.heap.objs.size] ++ [s.heap.objs.size + 1])[σ.n]? = some s.heap.objs.size := mu_ext (List.prefix_append _ _) hat
    have hat3 : (μ ++ [s.heap.objs.size] ++ [s.heap.objs.size + 1])[σ.n + 1]? = some (s.heap.objs.size + 1) := by rw [← r.len]; simp
    have hb' := hb σ.n s.heap.objs.size σ.n s.heap.objs.size (μ ++ [s.heap.objs.size] ++ [s.heap.objs.size + 1]) (fun i hi => by
      have : i = 0 := by omega
      subst this
      exact hat3) hat2
    refine hb' _ (hA.deeper _) _ _ r₂ fl _ e7 _ _ fun μ' s' a hp r' hf => ?_
    have hp' := List.IsPrefix.trans px hp
    induction hf with
    | ret h => exact q μ' s' _ hp' r' h
    | next => exact q μ' s' _ hp' r' .none
    | brk => exact q μ' s' _ hp' r' .none
    | cont => exact q μ' s' _ hp' r' .none
  · (first | exact nn e | cases e)
end
end
end Mine
set_option genSizeOf false
set_option genInjectivity false
namespace Mine
noncomputable section
open PySem PySem.W PyProof.Rows PySem.Calls
set_option maxRecDepth 100000
set_option maxHeartbeats 0
structure TagIs (Γ : FE) (t : Nat) : Prop where
  e : Γ.tag = t
theorem tag_gc {f : Addr} {h : GOkC f} {n l0 : Nat} {L0 : Addr} : TagIs (GC f h n l0 L0) f := ⟨rfl⟩
theorem tag_fc {tag : Nat} {scope : Scope} {co : CompOk tag scope} {Γ : FE} {L : Addr} : TagIs (FC tag scope co Γ L) tag := ⟨rfl⟩
theorem tag_fo {tag lc : Nat} {scope : Scope} {co : CompOk tag scope} {x : Str} {Γ : FE} {L Lc : Addr} : TagIs (FCo tag scope co x Γ L lc Lc) tag := ⟨rfl⟩
theorem tag_gg {f : Addr} {h : GOk f} : TagIs (GG f h) f := ⟨rfl⟩
section
variable {C : Cx} {D U : Nat} {Γ : FE}
theorem SE_locT {t : Nat} {x : Str} {pos : Pos} (ht : TagIs Γ t) (i : Nat) (hi : (tabN t)[i]? = some x) (hd : (x == ("__debug__" : Str)) = false) : SE C D U Γ (.Name x pos) (locGet t i) := by
  obtain ⟨e⟩ := ht
  subst e
  exact SE_loc i hi hd
theorem SAsg_nameT {t : Nat} {x : Str} {pos : Pos} (ht : TagIs Γ t) (i : Nat) (hi : (tabN t)[i]? = some x) : SAsg C D U Γ (.Name x pos) (fun l v => locSet t i l v) := by
  obtain ⟨e⟩ := ht
  subst e
  exact SAsg_name i hi
theorem SX_assignT {t : Nat} {x : Str} {pos' pos : Pos} {e : Expr} {f : Nat → M V} (ht : TagIs Γ t) (i : Nat) (h : SE C D U Γ e f) (hi : (tabN t)[i]? = some x)
    (hs : autoParam (∀ L, swapsWith e (some (.Name x pos')) pos.line (Γ.env L) = pure false) au1._auto_1) : SX C D U Γ (.Assign [.Name x pos'] e pos) (fun l => bnd (f l) fun v => bnd (locSet t i l v) fun _ => ret .next) := by
  obtain ⟨e⟩ := ht
  subst e
  exact SX_assign i h hi hs
end
theorem ok295 : GOkC 295 := ⟨by kernel_rfl, by kernel_rfl, by kernel_rfl, by kernel_rfl, by decide⟩
theorem do295 : DefOkC1 295 "self" "name" := ⟨by intro _; kernel_rfl, by intro _; kernel_rfl, by kernel_rfl, by kernel_rfl, by kernel_rfl, by kernel_rfl, by intro _ _; kernel_rfl, by intro _; kernel_rfl, by kernel_rfl, by kernel_rfl, by kernel_rfl, by kernel_rfl⟩
noncomputable def d295 (l0 : Nat) : {g : Nat → M VF // ∀ C, CxOk C → ∀ D U, D < 470 → U < 4680 → ∀ L0, SXs C D U (GC 295 ok295 1 l0 L0) (bodyOf 295) g} := ⟨_, fun C ok D U hD hU L0 => by
  have hc : CellAt (GC 295 ok295 1 l0 L0) "name" (l0 + 1 + 0) (L0 + 1 + 0) := GC_cell 0 (by decide) (by kernel_rfl) (by kernel_rfl)
  refine' SXs_cons ?_ ?_
  refine' SX_assignC (by assumption) ?_; rotate_left 1
  refine' SE_methK 356 257 (by assumption) ?_ ?_ (c257 (by assumption) (lt_a hD rfl) (lt_a hU rfl)); rotate_left 2
  exact SE_locT (by first | exact tag_gc | exact tag_fc | exact tag_fo | exact tag_gg) 0 (by kernel_rfl) (by decide)
  with_reducible refine' SE_strM "str.lower" F.slot_str_lower F.type_str_lower (by assumption) ?_ ?_ SCl_lower (hbase := by intro _; with_unfolding_all rfl) (hfew := by intro _; with_unfolding_all rfl) (hline := by with_unfolding_all rfl) (hpl := by intro _; with_unfolding_all rfl); rotate_left 2
  exact SE_cell (by assumption)
  exact SEs_nil
  refine' SXs_cons ?_ ?_
  refine' SX_ret ?_
  refine' SE_comp 1005 1 100 ⟨by kernel_rfl, by kernel_rfl, by decide, by kernel_rfl⟩ (by intro _; kernel_rfl) (by kernel_rfl) (by kernel_rfl) ?_ (fun _ => ?_) (fun _ => ?_) (fun _ => ?_); rotate_left 4
  refine' SE_attr 356 7 (by assumption) ?_; rotate_left 1
  exact SE_locT (by first | exact tag_gc | exact tag_fc | exact tag_fo | exact tag_gg) 0 (by kernel_rfl) (by decide)
  exact SAsg_nameT (by first | exact tag_gc | exact tag_fc | exact tag_fo | exact tag_gg) 0 (by kernel_rfl)
  refine' STs_one ?_
  refine' ST_cmp (SCmp_eq2 (by assumption) (lt_30 hU rfl)) ?_ ?_; rotate_left 2
  with_reducible refine' SE_strM "str.lower" F.slot_str_lower F.type_str_lower (by assumption) ?_ ?_ SCl_lower (hbase := by intro _; with_unfolding_all rfl) (hfew := by intro _; with_unfolding_all rfl) (hline := by with_unfolding_all rfl) (hpl := by intro _; with_unfolding_all rfl); rotate_left 2
  refine' SE_sub2 (by assumption) ?_ ?_; rotate_left 2
  exact SE_locT (by first | exact tag_gc | exact tag_fc | exact tag_fo | exact tag_gg) 0 (by kernel_rfl) (by decide)
  exact SE_int
  exact SEs_nil
  exact SE_cell (CellAt.comp (by assumption) (by kernel_rfl))
  refine' SE_sub2 (by assumption) ?_ ?_; rotate_left 2
  exact SE_locT (by first | exact tag_gc | exact tag_fc | exact tag_fo | exact tag_gg) 0 (by kernel_rfl) (by decide)
  exact SE_int
  exact SXs_nil⟩
theorem c295 {C : Cx} {D U : Nat} (ok : CxOk C) (hD : D < 469) (hU : U < 4677) : SFn C D U 295 (defC1 295 fun l0 => (d295 l0).1) := SFn_defC1 ok do295 (by omega) (fun l0 L0 => (d295 l0).2 C ok _ _ (by omega) (by omega) L0)
end
end Mine
set_option genSizeOf false
set_option genInjectivity false
namespace Mine
noncomputable section
open PySem PySem.W PySem.W.X PyProof.Rows PySem.Builtin PySem.Builtin.Re
set_option maxRecDepth 100000
set_option maxHeartbeats 0
theorem named_sub (b : Array UInt8) (t0 t : Tok) : reNamed "re.Pattern.sub" "sub" ["repl", "string", "count"] 2 [.bytes #[] t0, .bytes b t] [] = pure [some (.bytes #[] t0), some (.bytes b t), none] := by kernel_rfl
theorem spec_call (t0 : Tok) : specialOf (.bytes #[] t0) "__call__" = pure none := by kernel_rfl
theorem bq (id : String) (b : Array UInt8) (t : Tok) : Bytes.bufferQuiet? id (.bytes b t) = (do match ← (Bytes.buffer? id (.bytes b t)).attempt with
  | .ok b => pure b
  | .error _ => do rule "memoryview.buffer.refusal-replaced"; pure none) := by rfl
theorem bq1 (id : String) (b : Array UInt8) (t : Tok) : Bytes.buffer? id (.bytes b t) = pure (some b) := by kernel_rfl
theorem inst_b (b : Array UInt8) (t : Tok) : isInstance (.bytes b t) (.type "bytes") = pure true := by kernel_rfl
section
variable {w : World} {A : Around} {E : Value → Shared → Prop} {s : Shared}
theorem wpAny_bq {M : Model} {id : String} {b : Array UInt8} {t : Tok} {Q : Option (Array UInt8) → Shared → Prop} (q : Q (some b) s) : wpAny M A (Bytes.bufferQuiet? id (.bytes b t)) Q E s := by
  rw [bq, bq1]
  exact wpAny_bind (wpAny_attempt (wpAny_pure (wpAny_pure q)))
theorem wpAny_textOf {M : Model} {b : Array UInt8} {t : Tok} {Q : Array Nat × Nat → Shared → Prop} (q : Q (b.map (·.toNat), 1) s) : wpAny M A (reTextOf (.bytes b t)) Q E s := by
  unfold reTextOf
  refine wpAny_bind ?_
  have : asStr? (.bytes b t) = pure none := by kernel_rfl
  refine wpAny_of_eq (this) ?_
  dsimp only
  exact wpAny_bind (wpAny_bq (wpAny_pure q))
theorem wpAny_whole {pt : Addr} {code : List Nat} (hre : ReAt s.heap pt code 1) {b : Array UInt8} {t : Tok} {Q : ReTarget → Shared → Prop}
    (q : Q ⟨.ref pt, .bytes b t, code.toArray, b.map (·.toNat), 1, 0, 0, b.size⟩ s) : wpAny (model P w) A (reWholeTarget (.ref pt) (.bytes b t)) Q E s := by
  obtain ⟨a0, a1, a3, a4, ct, tk, tk2, hp, o, xs, n, hc, hd, hcode⟩ := hre.ex
  unfold reWholeTarget fieldsOf
  refine wpAny_bind (wpAny_bind (wpAny_load hp (wpAny_pure (wpAny_bind (wpAny_textOf ?_)))))
  dsimp only
  refine wite_n (by show ¬ (((1 : Nat) == 0 && (1 : Nat) == 1) = true); decide) ?_; refine wite_n (by show ¬ (((1 : Nat) == 1 && (1 : Nat) == 0) = true); decide) ?_
  unfold reNoCollectionInside
  refine wpAny_bind ?_
  rw [if_pos (by decide), inst_b]
  refine wpAny_bind (wpAny_pure ?_)
  refine wite_n (by decide) ?_
  refine wpAny_pure ?_
  show wpAny _ _ (reRawItems (.ref ct) >>= _) _ _ _
  refine wpAny_bind (wpAny_rawItems hc hd ?_)
  refine rwG (hcode) ?_
  refine wpAny_pure ?_
  refine rwG (show (b.map (·.toNat)).size = b.size by simp) ?_
  exact q
/-- the loop's words -/
noncomputable def loopArgs (pt l : Addr) (b : Array UInt8) (t0 t : Tok) (n done start : Int) (must : Bool) : Args := ⟨[.ref pt, .bytes b t, .bytes #[] t0, rawInt 0, rawInt 0, rawInt n, rawInt done, rawInt start, .bool must, .ref l, .bool false], []⟩
theorem sub_start {pt : Addr} {code : List Nat} (hre : ReAt s.heap pt code 1) {b : Array UInt8} {t0 t : Tok} {R : Result → Shared → Prop}
    (h : codeAny (model P w) A (.builtin "re.Pattern.sub.loop" (loopArgs pt s.heap.objs.size b t0 t 0 0 0 false)) R { s with heap := s.heap.push { cls := .type "list", data := .seq #[] } }) :
    codeAny (model P w) A (.call (.builtin "re.Pattern.sub") ⟨[.ref pt, .bytes #[] t0, .bytes b t], []⟩) R s := by
  obtain ⟨a0, a1, a3, a4, ct, tk, tk2, hp, _⟩ := hre.ex
  refine codeAny_call_builtin slot_sub.plain entry_sub (slot_sub.check _ _ _ _ _ _ _ _ ⟨_, hp, rfl⟩ (args_sub _ _ _) ?_)
  unfold Builtin.«re.Pattern.sub» reSubstitute
  show wpAny _ _ (reNamed "re.Pattern.sub" "sub" ["repl", "string", "count"] 2 [.bytes #[] t0, .bytes b t] [] >>= _) _ _ _
  rw [named_sub]
  refine wpAny_bind (wpAny_pure ?_)
  dsimp only
  refine wpAny_bind (wpAny_pure ?_)
  refine wpAny_bind ?_
  rw [spec_call]
  refine wpAny_pure ?_
  refine wite_n (by decide) ?_
  refine wpAny_bind ?_
  have : asStr? (.bytes #[] t0) = pure none := by kernel_rfl
  refine wpAny_of_eq (this) ?_
  dsimp only
  refine wpAny_bind (wpAny_bq ?_)
  dsimp only
  refine wpAny_bind (wpAny_pure ?_)
  refine wite_n (by decide) ?_; refine wite_p (by decide +kernel) ?_
  refine wpAny_bind (wpAny_pure ?_)
  refine wpAny_bind (wpAny_holding (wpAny_whole hre ?_))
  refine wite_n (by show ¬ (((0 : Nat) == 1) = true); decide) ?_
  refine wpAny_bind (wpAny_newObj_type ?_)
  exact wpAny_pure ⟨Code.quiet_builtin _ (by decide +kernel), h⟩
theorem sub_hit {pt l : Addr} {code : List Nat} (hre : ReAt s.heap pt code 1) {b : Array UInt8} {t0 t : Tok} {R : Result → Shared → Prop} {n done start : Int} {must : Bool} {m : Sre.M} {xs : Array Value} {sz : Nat}
    (hl : s.heap.get? l = some ⟨.type "list", none, .seq xs sz, #[]⟩) (hxs : xs.size ≤ 100) (hb : b.size ≤ 1000)
    (hrun : driveM 1000 (Sre.forSearch code.toArray (b.map (·.toNat)) 0 start.toNat b.size must) = some m) (hm : m.outcome = some .matched) (hlt : done.toNat < m.start)
    (h : ∀ h' sz', (∀ a o, a ≠ l → s.heap.get? a = some o → h'.get? a = some o) → h'.get? l = some ⟨.type "list", none, .seq ((xs.push (.bytes (((b.map (·.toNat)).extract done.toNat m.start).map (·.toUInt8)) s.toks)).push (.bytes #[] t0)) sz', #[]⟩ →
      codeAny (model P w) A (.builtin "re.Pattern.sub.loop" (loopArgs pt l b t0 t (n + 1) m.handed m.handed (m.handed == m.start))) R { s with heap := h', toks := s.toks + 1 }) :
    codeAny (model P w) A (.builtin "re.Pattern.sub.loop" (loopArgs pt l b t0 t n done start must)) R s := by
  refine codeAny_builtin entry_subloop ?_
  unfold loopArgs Builtin.«re.Pattern.sub.loop»
  unfold rawInt
  dsimp only
  refine wpAny_bind (wpAny_whole hre ?_)
  refine wite_p (by decide) ?_
  unfold reLiteralCannotBeTurned
  refine wpAny_bind ?_
  have : asStr? (.bytes #[] t0) = pure none := by kernel_rfl
  refine wpAny_bind (wpAny_of_eq (this) ?_)
  rw [if_pos (by decide), inst_b]
  refine wpAny_bind (wpAny_pure ?_)
  refine wite_n (by decide) ?_
  refine wpAny_pure ?_
  dsimp only
  refine rwG (if_neg (by simp)) ?_
  refine wpAny_bind ?_
  unfold reNextFound
  refine wpAny_toEnd hrun (.inl ⟨hm, rfl⟩) ?_
  dsimp only
  refine wite_p hlt ?_
  unfold reSlice
  refine rwG (if_neg (by decide)) ?_
  have hsz1 : (((b.map (·.toNat)).extract done.toNat m.start).map (·.toUInt8)).size ≤ 1000 := by simp; omega
  refine wpAny_bind (wpAny_mkBytes ?_ (by rw [sizeLine_eq]; omega))
  refine wpAny_bind (wpAny_updateSeq hl rfl ?_ (by rw [sizeLine_eq]; omega) (by simp [sizeLine_eq]; omega))
  refine wite_p (by decide) ?_
  refine wpAny_bind (wpAny_pure ?_)
  refine wite_p (by rfl) ?_
  obtain ⟨z1, g1⟩ : ∃ z1, (s.heap.update l (Obj.mapSeq (·.push (.bytes (((b.map (·.toNat)).extract done.toNat m.start).map (·.toUInt8)) s.toks)))).get? l = some ⟨.type "list", none, .seq (xs.push (.bytes (((b.map (·.toNat)).extract done.toNat m.start).map (·.toUInt8)) s.toks)) z1, #[]⟩ :=
    ⟨_, by rw [Heap.get?_update_self _ hl rfl]; rfl⟩
  refine wpAny_bind (wpAny_updateSeq g1 rfl ?_ (by simp [sizeLine_eq]; omega) (by simp [sizeLine_eq]; omega))
  refine wpAny_pure ⟨Code.quiet_builtin _ (by decide +kernel), ?_⟩
  obtain ⟨z2, g2⟩ : ∃ z2, ((s.heap.update l (Obj.mapSeq (·.push (.bytes (((b.map (·.toNat)).extract done.toNat m.start).map (·.toUInt8)) s.toks)))).update l (Obj.mapSeq (·.push (.bytes #[] t0)))).get? l = some ⟨.type "list", none, .seq ((xs.push (.bytes (((b.map (·.toNat)).extract done.toNat m.start).map (·.toUInt8)) s.toks)).push (.bytes #[] t0)) z2, #[]⟩ :=
    ⟨_, by rw [Heap.get?_update_self _ g1 rfl]; rfl⟩
  exact h _ z2 (fun a o hne e => (Heap.SameBut.update ..).extBut a o hne ((Heap.SameBut.update ..).extBut a o hne e)) g2
theorem sub_end {pt l : Addr} {code : List Nat} (hre : ReAt s.heap pt code 1) {b : Array UInt8} {t0 t : Tok} {R : Result → Shared → Prop} {n done start : Int} {must : Bool} {m : Sre.M} {xs : Array Value} {sz : Nat}
    (hl : s.heap.get? l = some ⟨.type "list", none, .seq xs sz, #[]⟩) (hxs : 0 < xs.size) (hb : b.size ≤ 1000)
    (hrun : driveM 1000 (Sre.forSearch code.toArray (b.map (·.toNat)) 0 start.toNat b.size must) = some m) (hm : m.outcome = some .failed) (hge : b.size ≤ done.toNat)
    (h : wpAny (model P w) (A.under (.builtin "re.Pattern.sub.loop" (loopArgs pt l b t0 t n done start must))) (call (.builtin "bytes.join") [.bytes #[] s.toks, .ref l]) (fun v s' => R (.ok (.ret v)) s') (fun e s' => R (.error e) s') { s with toks := s.toks + 1 }) :
    codeAny (model P w) A (.builtin "re.Pattern.sub.loop" (loopArgs pt l b t0 t n done start must)) R s := by
  refine codeAny_builtin entry_subloop ?_
  unfold loopArgs at h ⊢
  unfold Builtin.«re.Pattern.sub.loop»
  unfold rawInt at h ⊢
  dsimp only
  refine wpAny_bind (wpAny_whole hre ?_)
  refine wite_p (by decide) ?_
  unfold reLiteralCannotBeTurned
  refine wpAny_bind ?_
  have : asStr? (.bytes #[] t0) = pure none := by kernel_rfl
  refine wpAny_bind (wpAny_of_eq (this) ?_)
  rw [if_pos (by decide), inst_b]
  refine wpAny_bind (wpAny_pure ?_)
  refine wite_n (by decide) ?_
  refine wpAny_pure ?_
  dsimp only
  refine rwG (if_neg (by simp)) ?_
  refine wpAny_bind ?_
  unfold reNextFound
  refine wpAny_toEnd hrun (.inr ⟨hm, rfl⟩) ?_
  dsimp only
  refine wite_n (by omega) ?_
  unfold reSlice
  refine rwG (if_neg (by decide)) ?_
  have e0 : (((b.map (·.toNat)).extract 0 0).map (·.toUInt8)) = #[] := by simp
  refine rwG (e0) ?_
  refine wpAny_bind (wpAny_mkBytes ?_ (by simp))
  unfold seqItems?
  refine wpAny_bind (wpAny_bind (wpAny_load hl (wpAny_pure ?_)))
  have hne : ((some xs).getD #[]).isEmpty = false := by
    rw [Option.getD_some, Array.isEmpty_eq_false_iff]
    intro h0
    subst h0
    simp at hxs
  refine wite_n (by rw [hne]; decide) ?_
  refine rwG (if_neg (by decide)) ?_
  refine wpAny_bind (wpAny_mono h (fun v s' hv => ?_) fun _ _ x => x)
  refine wite_n (by decide) ?_
  exact wpAny_pure hv
theorem sub_rest {pt l : Addr} {code : List Nat} (hre : ReAt s.heap pt code 1) {b : Array UInt8} {t0 t : Tok} {R : Result → Shared → Prop} {m : Sre.M} {sz : Nat}
    (hl : s.heap.get? l = some ⟨.type "list", none, .seq #[] sz, #[]⟩) (hb : b.size ≤ 1000) (hb0 : 0 < b.size)
    (hrun : driveM 1000 (Sre.forSearch code.toArray (b.map (·.toNat)) 0 0 b.size false) = some m) (hm : m.outcome = some .failed)
    (h : ∀ h' sz', (∀ a o, a ≠ l → s.heap.get? a = some o → h'.get? a = some o) → h'.get? l = some ⟨.type "list", none, .seq #[.bytes b s.toks] sz', #[]⟩ →
      wpAny (model P w) (A.under (.builtin "re.Pattern.sub.loop" (loopArgs pt l b t0 t 0 0 0 false))) (call (.builtin "bytes.join") [.bytes #[] (s.toks + 1), .ref l]) (fun v s' => R (.ok (.ret v)) s') (fun e s' => R (.error e) s') { s with heap := h', toks := s.toks + 1 + 1 }) :
    codeAny (model P w) A (.builtin "re.Pattern.sub.loop" (loopArgs pt l b t0 t 0 0 0 false)) R s := by
  refine codeAny_builtin entry_subloop ?_
  unfold loopArgs at h ⊢
  unfold Builtin.«re.Pattern.sub.loop»
  unfold rawInt at h ⊢
  dsimp only
  refine wpAny_bind (wpAny_whole hre ?_)
  refine wite_p (by decide) ?_
  unfold reLiteralCannotBeTurned
  refine wpAny_bind ?_
  have : asStr? (.bytes #[] t0) = pure none := by kernel_rfl
  refine wpAny_bind (wpAny_of_eq (this) ?_)
  rw [if_pos (by decide), inst_b]
  refine wpAny_bind (wpAny_pure ?_)
  refine wite_n (by decide) ?_
  refine wpAny_pure ?_
  dsimp only
  refine rwG (if_neg (by simp)) ?_
  refine wpAny_bind ?_
  unfold reNextFound
  refine wpAny_toEnd hrun (.inr ⟨hm, rfl⟩) ?_
  dsimp only
  refine wite_p (by simpa using hb0) ?_
  unfold reSlice
  refine rwG (if_neg (by decide)) ?_
  have e1 : (((b.map (·.toNat)).extract (0 : Int).toNat b.size).map (·.toUInt8)) = b := by
    apply Array.ext'
    have hmap : b.toList.map ((fun x => UInt8.ofNat x) ∘ fun x => x.toNat) = b.toList := by
      conv => rhs; rw [← List.map_id b.toList]
      apply List.map_congr_left
      intro a _
      simp
    simp only [Array.toList_map, Array.toList_extract, Int.toNat_zero, Nat.sub_zero, List.drop_zero, List.extract_eq_take_drop, List.map_take, List.map_map]
    refine (congrArg (List.take b.size) hmap).trans ?_
    rw [List.take_of_length_le]
    simp
  refine rwG (e1) ?_
  refine wpAny_bind (wpAny_mkBytes ?_ (by rw [sizeLine_eq]; omega))
  refine wpAny_bind (wpAny_updateSeq hl rfl ?_ (by simp) (by simp [sizeLine_eq]))
  obtain ⟨z1, g1⟩ : ∃ z1, (s.heap.update l (Obj.mapSeq (·.push (.bytes b s.toks)))).get? l = some ⟨.type "list", none, .seq #[.bytes b s.toks] z1, #[]⟩ :=
    ⟨_, by rw [Heap.get?_update_self _ hl rfl]; rfl⟩
  have e0 : (((b.map (·.toNat)).extract 0 0).map (·.toUInt8)) = #[] := by simp
  refine rwG (e0) ?_
  refine wpAny_bind (wpAny_mkBytes (b := #[]) ?_ (by rw [sizeLine_eq]; decide))
  unfold seqItems?
  refine wpAny_bind (wpAny_bind (wpAny_load g1 (wpAny_pure ?_)))
  refine wite_n (by intro h; cases h) ?_
  refine rwG (if_neg (by decide)) ?_
  refine wpAny_bind (wpAny_mono (h _ z1 (fun a o hne e => (Heap.SameBut.update ..).extBut a o hne e) g1) (fun v s' hv => ?_) fun _ _ x => x)
  refine wite_n (by decide) ?_
  exact wpAny_pure hv
end
/-! the join of the pieces -/
structure BjPost (h0 : Heap) (g : Array GenState) (d : Drawn) (os : OsState) (b : Array UInt8) (Q : Value → Shared → Prop) : Prop where
  use : ∀ b' tk tk', b' = b → Q (.bytes b' tk) ⟨h0, g, d, tk', os⟩
local macro_rules | `(tactic| x_close) => `(tactic| (exact BjPost.use (by assumption) _ _ _ (by kernel_rfl)))
theorem bj1 {w : World} {fr : List Env} {Q : Value → Shared → Prop} {E : Value → Shared → Prop} {h0 : Heap} {g : Array GenState} {d : Drawn} {t : Nat} {os : OsState}
    (KX : (Mine.KF w.params).In h0) {l : Addr} {n : Nat} {b1 : Array UInt8} {t0 t1 : Tok} (hl : h0.get? l = some ⟨.type "list", none, .seq #[.bytes b1 t1] n, #[]⟩) (hQ : BjPost h0 g d os b1 Q)
    : wpAny (model (OpenLaw.prog PySem.Challenge.rw_xn0029_01) w) (A1 fr) (call (.builtin "bytes.join") [.bytes #[] t0, .ref l]) Q E ⟨h0, g, d, t, os⟩ := by
  have hf := kfill w
  revert hf
  k_fill
  intro hf
  x_run
theorem slot_bjoin : Slot "bytes" "join" "bytes.join" :=
  .of (owner := "bytes") (n := "join") (by rw [typeLookup_type, builtinLookup_eq_fast]; kernel_rfl) (by decide +kernel) (by decide +kernel) (by decide +kernel)
    (by first | exact .inl (by decide +kernel) | exact .inr (by decide +kernel)) (by rw [isSubtype_type]; kernel_rfl)
theorem entry_bjoin : entryFor table "bytes.join" = some Builtin.«bytes.join» := entryFor_of_tree (by kernel_rfl)
theorem args_bjoin (a b : Value) : argsOk "bytes.join" ⟨[a, b], []⟩ := by unfold argsOk; kernel_rfl
theorem bj_one (a b : Value) : selfAndOne "bytes.join" ⟨[a, b], []⟩ = pure (a, b) := by kernel_rfl
theorem bj_id : (toString (Bytes.Kind.bytes).name ++ toString ".join" : String) = "bytes.join" := by decide +kernel
section
variable {w : World} {A : Around} {E : Value → Shared → Prop} {s : Shared}
theorem loop2 {β : Type} {M : Model} {F : Nat → β → Sem (ForInStep β)} {i0 i1 i2 : β} {n : Nat} {Q : β → Shared → Prop} (hn : n = 2) (h0 : ∀ (Q : ForInStep β → Shared → Prop), Q (.yield i1) s → wpAny M A (F 0 i0) Q E s) (h1 : ∀ (Q : ForInStep β → Shared → Prop), Q (.yield i2) s → wpAny M A (F 1 i1) Q E s) (q : Q i2 s) : wpAny M A (forIn [:n] i0 F) Q E s := by
  subst hn
  rw [Std.Legacy.Range.forIn_eq_forIn_range']
  exact wpAny_bind (h0 _ (wpAny_bind (h1 _ (wpAny_pure q))))
theorem bj_buf (id : String) (b : Array UInt8) (t : Tok) : Bytes.takeBuffer? id (.bytes b t) 0 = pure (some (b, none)) := by kernel_rfl
theorem bj_go {M : Model} {keep : List Value} : ∀ {l : List (Value × Option Value)} {Q : Unit → Shared → Prop}, (∀ p ∈ l, p.2 = none) → Q () s → wpAny M A (Bytes.joinLetGo l keep) Q E s
  | [], _, _, q => wpAny_pure q
  | (x, none) :: r, _, h, q => by
    unfold Bytes.joinLetGo
    exact wpAny_bind (wpAny_letGo (bj_go (fun p hp => h p (.tail _ hp)) q))
  | (x, some w) :: r, _, h, _ => nomatch h _ (.head _)
theorem bj_join (b : Array UInt8) : Bytes.joined #[] [b, #[]] = b := by
  unfold Bytes.joined
  simp
theorem bj_items {l : Addr} {its : Array Value} {n : Nat} {Q : Option (Array Value) → Shared → Prop} {M : Model} (hl : s.heap.get? l = some ⟨.type "list", none, .seq its n, #[]⟩) (q : Q (some its) s) : wpAny M A (seqItems? (.ref l)) Q E s := by
  unfold seqItems?
  exact wpAny_bind (wpAny_load hl (wpAny_pure q))
theorem bj2 {l : Addr} {n : Nat} {b1 : Array UInt8} (h8 : b1.size ≤ 8) {t0 t1 t2 : Tok} {Q : Value → Shared → Prop} (hl : s.heap.get? l = some ⟨.type "list", none, .seq #[.bytes b1 t1, .bytes #[] t2] n, #[]⟩) (q : ∀ tk tk', Q (.bytes b1 tk) { s with toks := tk' })
    : wpAny (model P w) A (call (.builtin "bytes.join") [.bytes #[] t0, .ref l]) Q E s := by
  refine wpAny_call_entry slot_bjoin (typeIs_bytes _ _ _) entry_bjoin ?_ (args_bjoin _ _)
  show wpAny _ _ (selfAndOne "bytes.join" ⟨[.bytes #[] t0, .ref l], []⟩ >>= _) _ _ _
  refine wpAny_bind (wpAny_of_eq (bj_one _ _) ?_)
  dsimp only
  refine wite_p rfl ?_
  refine wpAny_bind ?_
  unfold Bytes.joinItems
  refine wpAny_bind (wpAny_typeOf (T := "list") ⟨_, hl, rfl⟩ ?_)
  refine wite_p (by decide) ?_
  refine wpAny_pure ?_
  refine wpAny_bind (bj_items hl ?_)
  dsimp only
  refine wite_p rfl ?_
  refine wpAny_bind (loop2 (i1 := (#[b1], [(.bytes b1 t1, none)])) (i2 := (#[b1, #[]], [(.bytes b1 t1, none), (.bytes #[] t2, none)])) rfl (fun Q q => ?_) (fun Q q => ?_) ?_)
  · refine wpAny_bind (bj_items hl ?_)
    refine wite_n (by decide) ?_
    refine wpAny_bind (wpAny_holding ?_)
    unfold Bytes.takeBufferQuiet?
    refine wpAny_bind (wpAny_attempt (wpAny_of_eq (bj_buf _ _ _) (wpAny_pure ?_)))
    refine wpAny_bind (bj_items hl ?_)
    refine wite_n (by intro h; cases h) ?_
    exact wpAny_pure q
  · refine wpAny_bind (bj_items hl ?_)
    refine wite_n (by intro h; cases h) ?_
    refine wpAny_bind (wpAny_holding ?_)
    unfold Bytes.takeBufferQuiet?
    refine wpAny_bind (wpAny_attempt (wpAny_of_eq (bj_buf _ _ _) (wpAny_pure ?_)))
    refine wpAny_bind (bj_items hl ?_)
    refine wite_n (by intro h; cases h) ?_
    exact wpAny_pure q
  · refine wpAny_bind (wpAny_of_eq (show Bytes.payload (.bytes #[] t0) = pure #[] by kernel_rfl) ?_)
    refine wite_n (by show ¬ (decide (0 * 1 + b1.size + 0 > sizeLine) = true); rw [decide_eq_true_eq, sizeLine_eq]; omega) ?_
    rw [bj_join]
    refine wpAny_bind (wpAny_mkBytes ?_ (by rw [sizeLine_eq]; omega))
    refine wpAny_bind (wpAny_holding (wpAny_point ?_))
    refine wpAny_bind (bj_go (by simp) ?_)
    exact wpAny_pure ⟨_, rfl, q _ _⟩
end
end
end Mine
set_option genSizeOf false
set_option genInjectivity false
namespace Mine
noncomputable section
open PySem PySem.W PySem.W.X PyProof.Rows PySem.Calls PySem.Builtin PySem.Builtin.Re
set_option maxRecDepth 100000
set_option maxHeartbeats 0
theorem sl_w (a : Args) : (Code.builtin "re.Pattern.sub.loop" a).weight = 0 := by kernel_rfl
theorem sl_u (a : Args) : (Code.builtin "re.Pattern.sub.loop" a).cUnits = 1 := by kernel_rfl
theorem sl_e (a : Args) : (Code.builtin "re.Pattern.sub.loop" a).envs = [] := by kernel_rfl
theorem sl_g (a : Args) : (Code.builtin "re.Pattern.sub.loop" a).guards = [] := by kernel_rfl
theorem AOk.sl {D U : Nat} {A : Around} {a : Args} (h : AOk D U A) : AOk D (U + 1) (A.under (.builtin "re.Pattern.sub.loop" a)) := by
  obtain ⟨fr, hf⟩ := h.fr
  have h1 := h.hd
  have h2 := h.dp
  have h3 := h.un
  have h4 := h.gd
  obtain ⟨hd, d, f, gs, u⟩ := A
  simp only at h1 h2 h3 h4 hf
  subst h1 h4 hf
  refine ⟨rfl, ?_, ?_, ?_, ?_⟩
  · show d + Code.weight _ ≤ _; rw [sl_w]; omega
  · show u + Code.cUnits _ ≤ _; rw [sl_u]; omega
  · simp [Around.under, pushGuards, sl_g]
  · exact ⟨fr, by simp [Around.under, pushEnvs, sl_e]⟩
/-! what the rule does with a piece -/
noncomputable def pieceL (n k j : Nat) : List Nat := List.replicate n 41 ++ 40 :: (97 + k) :: tailOf j
noncomputable def pieceC (n k j : Nat) : List Nat := List.replicate n 41 ++ 40 :: (97 + k) :: cutOf j
noncomputable def quotedJ : Nat → Bool
  | 0 => false | 6 => false | 1 => false | _ => true
noncomputable def failB (m : Option Sre.M) : Bool := match m with
  | some m => match m.outcome with
    | some .failed => true
    | _ => false
  | none => false
noncomputable def hitB (x : List Nat) (p : Nat) : Bool := match driveM 1000 (Sre.forSearch code204.toArray x.toArray 0 0 x.length false) with
  | some m => match m.outcome with
    | some .matched => Nat.beq m.start p && Nat.beq m.handed x.length && failB (driveM 1000 (Sre.forSearch code204.toArray x.toArray 0 x.length x.length false))
    | _ => false
  | none => false
noncomputable def pieceOk (n k j : Nat) : Bool := match quotedJ j with
  | true => hitB (pieceL n k j) (n + 3) && natsB ((pieceL n k j).take (n + 3)) (pieceC n k j)
  | false => missB code204 (pieceL n k j) && natsB (pieceL n k j) (pieceC n k j)
theorem piece_0_0 : [0, 1, 2, 3, 4, 5, 7].all (fun j => pieceOk 0 0 j) = true := by decide +kernel
theorem piece_1_0 : [0, 1, 2, 3, 4, 5, 7].all (fun j => pieceOk 0 1 j) = true := by decide +kernel
theorem piece_1_1 : [0, 1, 2, 3, 4, 5, 7].all (fun j => pieceOk 1 1 j) = true := by decide +kernel
theorem piece_2_0 : [0, 1, 2, 3, 4, 5, 7].all (fun j => pieceOk 0 2 j) = true := by decide +kernel
theorem piece_2_1 : [0, 1, 2, 3, 4, 5, 7].all (fun j => pieceOk 1 2 j) = true := by decide +kernel
theorem piece_2_2 : [0, 1, 2, 3, 4, 5, 7].all (fun j => pieceOk 2 2 j) = true := by decide +kernel
theorem piece_3_0 : [0, 1, 2, 3, 4, 5, 7].all (fun j => pieceOk 0 3 j) = true := by decide +kernel
theorem piece_3_1 : [0, 1, 2, 3, 4, 5, 7].all (fun j => pieceOk 1 3 j) = true := by decide +kernel
theorem piece_3_2 : [0, 1, 2, 3, 4, 5, 7].all (fun j => pieceOk 2 3 j) = true := by decide +kernel
theorem piece_3_3 : [0, 1, 2, 3, 4, 5, 7].all (fun j => pieceOk 3 3 j) = true := by decide +kernel
theorem piece_4_0 : [0, 1, 2, 3, 4, 5, 7].all (fun j => pieceOk 0 4 j) = true := by decide +kernel
theorem piece_4_1 : [0, 1, 2, 3, 4, 5, 7].all (fun j => pieceOk 1 4 j) = true := by decide +kernel
theorem piece_4_2 : [0, 1, 2, 3, 4, 5, 7].all (fun j => pieceOk 2 4 j) = true := by decide +kernel
theorem piece_4_3 : [0, 1, 2, 3, 4, 5, 7].all (fun j => pieceOk 3 4 j) = true := by decide +kernel
theorem piece_4_4 : [0, 1, 2, 3, 4, 5, 7].all (fun j => pieceOk 4 4 j) = true := by decide +kernel
theorem piece_5_0 : [0, 1, 2, 3, 4, 5, 7].all (fun j => pieceOk 0 5 j) = true := by decide +kernel
theorem piece_5_1 : [0, 1, 2, 3, 4, 5, 7].all (fun j => pieceOk 1 5 j) = true := by decide +kernel
theorem piece_5_2 : [0, 1, 2, 3, 4, 5, 7].all (fun j => pieceOk 2 5 j) = true := by decide +kernel
theorem piece_5_3 : [0, 1, 2, 3, 4, 5, 7].all (fun j => pieceOk 3 5 j) = true := by decide +kernel
theorem piece_5_4 : [0, 1, 2, 3, 4, 5, 7].all (fun j => pieceOk 4 5 j) = true := by decide +kernel
theorem piece_5_5 : [0, 1, 2, 3, 4, 5, 7].all (fun j => pieceOk 5 5 j) = true := by decide +kernel
noncomputable def canonJ : Nat → Nat
  | 6 => 0 | 8 => 2 | 9 => 3 | 10 => 4 | 11 => 5 | j => j
theorem canon_ok : (List.range 12).all (fun j => natsB (tailOf (canonJ j)) (tailOf j) && natsB (cutOf (canonJ j)) (cutOf j) && (quotedJ (canonJ j) == quotedJ j) && [0, 1, 2, 3, 4, 5, 7].contains (canonJ j)) = true := by decide +kernel
theorem piece_tab : ∀ {n k : Nat}, k < 6 → n ≤ k → ∀ j ∈ [0, 1, 2, 3, 4, 5, 7], pieceOk n k j = true := fun {n k} hk hn => match k, n, hk, hn with
  | 0, 0, _, _ => List.all_eq_true.mp piece_0_0
  | 0, n + 1, _, h => absurd h (by omega)
  | 1, 0, _, _ => List.all_eq_true.mp piece_1_0
  | 1, 1, _, _ => List.all_eq_true.mp piece_1_1
  | 1, n + 2, _, h => absurd h (by omega)
  | 2, 0, _, _ => List.all_eq_true.mp piece_2_0
  | 2, 1, _, _ => List.all_eq_true.mp piece_2_1
  | 2, 2, _, _ => List.all_eq_true.mp piece_2_2
  | 2, n + 3, _, h => absurd h (by omega)
  | 3, 0, _, _ => List.all_eq_true.mp piece_3_0
  | 3, 1, _, _ => List.all_eq_true.mp piece_3_1
  | 3, 2, _, _ => List.all_eq_true.mp piece_3_2
  | 3, 3, _, _ => List.all_eq_true.mp piece_3_3
  | 3, n + 4, _, h => absurd h (by omega)
  | 4, 0, _, _ => List.all_eq_true.mp piece_4_0
  | 4, 1, _, _ => List.all_eq_true.mp piece_4_1
  | 4, 2, _, _ => List.all_eq_true.mp piece_4_2
  | 4, 3, _, _ => List.all_eq_true.mp piece_4_3
  | 4, 4, _, _ => List.all_eq_true.mp piece_4_4
  | 4, n + 5, _, h => absurd h (by omega)
  | 5, 0, _, _ => List.all_eq_true.mp piece_5_0
  | 5, 1, _, _ => List.all_eq_true.mp piece_5_1
  | 5, 2, _, _ => List.all_eq_true.mp piece_5_2
  | 5, 3, _, _ => List.all_eq_true.mp piece_5_3
  | 5, 4, _, _ => List.all_eq_true.mp piece_5_4
  | 5, 5, _, _ => List.all_eq_true.mp piece_5_5
  | 5, n + 6, _, h => absurd h (by omega)
  | k + 6, _, h, _ => absurd h (by omega)
theorem piece_ok {n k j : Nat} (hk : k < 6) (hn : n ≤ k) (hj : j < 12) : pieceOk n k j = true := by
  have h := List.all_eq_true.mp canon_ok j (by simpa using hj)
  simp only [Bool.and_eq_true] at h
  obtain ⟨⟨⟨h1, h2⟩, h3⟩, h4⟩ := h
  have h5 := piece_tab hk hn (canonJ j) (by simpa using h4)
  unfold pieceOk pieceL pieceC at h5 ⊢
  rw [natsB_eq h1, natsB_eq h2, beq_iff_eq.mp h3] at h5
  exact h5
theorem close_tab : (List.range 7).all (fun n => missB code204 (List.replicate n 41)) = true := by decide +kernel
end
end Mine
set_option genSizeOf false
set_option genInjectivity false
namespace Mine
noncomputable section
open PySem PySem.W PySem.W.X PyProof.Rows PySem.Calls PySem.Builtin PySem.Builtin.Re
set_option maxRecDepth 100000
set_option maxHeartbeats 0
/-! bytes of a list of signs -/
noncomputable def bytesOf (x : List Nat) : Array UInt8 := (x.map (·.toUInt8)).toArray
theorem bytesOf_back {x : List Nat} (h : ∀ c ∈ x, c < 128) : (bytesOf x).map (·.toNat) = x.toArray := by
  apply Array.ext'
  unfold bytesOf
  simp only [Array.toList_map, List.map_map]
  conv => rhs; rw [← List.map_id x]
  apply List.map_congr_left
  intro a ha
  have := h a ha
  simp
  omega
theorem byt_of {C : Cx} {x : List At} {y : List Nat} (h : C.str x = ⟨y.toArray⟩) : C.byt x = bytesOf y := by
  unfold Cx.byt bytesOf
  rw [h]
  apply Array.ext'
  simp
/-- closing brackets, then an opening one with a label, or no more -/
noncomputable def pf : List At → Option (Nat × Option Nat)
  | [] => some (0, none)
  | .ch c :: r => match Nat.beq c 41 with
    | true => match pf r with
      | some (n, o) => some (n + 1, o)
      | none => none
    | false => match Nat.beq c 40 with
      | true => match r with
        | [.lab k] => some (0, some k)
        | _ => none
      | false => none
  | .lab _ :: _ => none
noncomputable def pfx (n : Nat) (o : Option Nat) : List At := List.replicate n (.ch 41) ++ (match o with | none => [] | some k => [.ch 40, .lab k])
theorem pf_eq : ∀ {x : List At} {n : Nat} {o : Option Nat}, pf x = some (n, o) → x = pfx n o
  | [], _, _, h => by cases h; rfl
  | .ch c :: r, n, o, h => by
    unfold pf at h
    split at h
    · rename_i hc
      have hc := Nat.eq_of_beq_eq_true hc
      subst hc
      split at h
      · rename_i n' o' e
        (first | (have q := qc h q) | (have q := qcB h q) | cases h)
        rw [pf_eq e]
        rfl
      · (first | exact nn h | cases h)
    · split at h
      · rename_i hc
        have hc := Nat.eq_of_beq_eq_true hc
        subst hc
        split at h
        · cases h; rfl
        · (first | exact nn h | cases h)
      · (first | exact nn h | cases h)
  | .lab _ :: _, _, _, h => by cases h
theorem str_rep (C : Cx) (y : List At) (z : List Nat) (h : C.str y = ⟨z.toArray⟩) : ∀ n : Nat, C.str (List.replicate n (.ch 41) ++ y) = ⟨(List.replicate n 41 ++ z).toArray⟩
  | 0 => by simpa using h
  | n + 1 => by
    rw [List.replicate_succ, List.cons_append, List.replicate_succ, List.cons_append]
    show (⟨#[41]⟩ : Str) ++ C.str (List.replicate n (.ch 41) ++ y) = _
    rw [str_rep C y z h n]
    exact Str.ext' (by simp [Str.cps_append])
section
variable {C : Cx} {D U : Nat} {Γ : FE}
theorem str_piece {k j n : Nat} (cl : Cls C k j) : C.str (pfx n (some k)) = ⟨(pieceL n k j).toArray⟩ := by
  refine str_rep C [.ch 40, .lab k] (40 :: (97 + k) :: tailOf j) ?_ n
  show (⟨#[40]⟩ : Str) ++ (C.l k ++ (⟨#[]⟩ : Str)) = _
  rw [cl.l]
  exact Str.ext' (by simp [Str.cps_append])
theorem str_cut {k j n : Nat} (cl : Cls C k j) : C.str (pfx n (some (k + 6))) = ⟨(pieceC n k j).toArray⟩ := by
  refine str_rep C [.ch 40, .lab (k + 6)] (40 :: (97 + k) :: cutOf j) ?_ n
  show (⟨#[40]⟩ : Str) ++ (C.l (k + 6) ++ (⟨#[]⟩ : Str)) = _
  rw [cl.c]
  exact Str.ext' (by simp [Str.cps_append])
theorem str_close {n : Nat} : C.str (pfx n none) = ⟨(List.replicate n 41).toArray⟩ := by
  have := str_rep C [] [] rfl n
  simpa [pfx] using this
theorem tail_lt {j : Nat} : ∀ c ∈ tailOf j, c < 128 := by
  intro c hc
  unfold tailOf at hc
  split at hc <;> simp at hc <;> omega
theorem tail_len (j : Nat) : (tailOf j).length ≤ 7 := by
  unfold tailOf
  split <;> simp
theorem piece_lt {n k j : Nat} (hk : k < 6) : ∀ c ∈ pieceL n k j, c < 128 := by
  intro c hc
  unfold pieceL at hc
  rcases List.mem_append.mp hc with h | h
  · have := List.eq_of_mem_replicate h; omega
  · rcases List.mem_cons.mp h with h | h
    · omega
    · rcases List.mem_cons.mp h with h | h
      · omega
      · exact tail_lt c h
theorem piece_len {n k j : Nat} (hn : n ≤ 5) : (pieceL n k j).length ≤ 14 := by
  unfold pieceL
  have := tail_len j
  simp; omega
theorem quoted_len : (List.range 12).all (fun j => match quotedJ j with | true => Nat.blt 1 (tailOf j).length | false => true) = true := by decide +kernel
/-! the rule -/
noncomputable def bytO (v : V) : Option (List At) := match v with
  | .byt x => some x
  | _ => none
theorem bytO_some {v : V} {x : List At} (h : bytO v = some x) : v = .byt x := by
  cases v <;> first | exact nn h | (cases h; rfl)
noncomputable def strX (v : V) : Option (List At) := match v with
  | .str x => some x
  | _ => none
theorem strX_some {v : V} {x : List At} (h : strX v = some x) : v = .str x := by
  cases v <;> first | exact nn h | (cases h; rfl)
noncomputable def reA (vs : List V) : Option (Nat × List At) := match args3 vs with
  | some p => match oldO p.1 with
    | some a => match bytO p.2.1 with
      | some y => match y.isEmpty with
        | true => match bytO p.2.2 with
          | some x => some (a, x)
          | none => none
        | false => none
      | none => none
    | none => none
  | none => none
theorem reA_some {vs : List V} {a : Nat} {x : List At} (h : reA vs = some (a, x)) : vs = [.old a, .byt [], .byt x] := by
  unfold reA at h
  split at h
  · rename_i p hp
    have hp := args3_some hp
    split at h
    · rename_i a' ha
      have ha := oldO_some ha
      split at h
      · rename_i y hy
        have hy := bytO_some hy
        split at h
        · rename_i he
          split at h
          · rename_i z hz
            have hz := bytO_some hz
            cases h
            rw [hp, ha, hy, hz, List.isEmpty_iff.mp he]
          · exact nn h
        · exact nn h
      · exact nn h
    · exact nn h
  · exact nn h
noncomputable def reSubM (vs : List V) : M V := fun σ => match reA vs with
  | some ax => match Nat.beq ax.1 204 with
    | true => match pf ax.2 with
      | some (n, none) => match Nat.blt 0 n && Nat.ble n 6 with
        | true => some (.byt (pfx n none), σ)
        | false => none
      | some (n, some k) => match Nat.blt k 6 && Nat.ble n k with
        | true => some (.byt (pfx n (some (k + 6))), σ)
        | false => none
      | none => none
    | false => none
  | none => none
theorem call_miss {A : Around} (hA : AOk D U A) (hD : D ≤ 400) (hU : U ≤ 4000) {E : Value → Shared → Prop} {s : Shared} (X : (KF C.w.params).In s.heap) {x : List Nat} (hx : ∀ c ∈ x, c < 128) (hl : x.length ≤ 1000) (h0 : 0 < x.length) (hm : missB code204 x = true) {t0 t : Tok} {Q : Value → Shared → Prop}
    (q : ∀ h' tk tk', (∀ b o, s.heap.get? b = some o → h'.get? b = some o) → Q (.bytes (bytesOf x) tk) ⟨h', s.gens, s.drawn, tk', s.os⟩) :
    wpAny (model P C.w) A (call (.builtin "re.Pattern.sub") [.ref 204, .bytes #[] t0, .bytes (bytesOf x) t]) Q E s := by
  obtain ⟨m, e1, e2⟩ := missB_some hm
  have hre := reAt_of X (re204 C.w.params)
  have hsz : (bytesOf x).size = x.length := by simp [bytesOf]
  refine wpAny_call (sub_start hre ?_)
  have kp : ∀ b o, s.heap.get? b = some o → (s.heap.push { cls := .type "list", data := .seq #[] }).get? b = some o := fun b o e => Heap.get?_push_of_some _ e
  refine sub_rest (reAt_of (X.keeps kp) (re204 C.w.params)) (Heap.get?_push_size _ rfl) (by omega) (by omega) (m := m) (by rw [bytesOf_back hx, hsz]; exact e1) e2 fun h' sz' k g => ?_
  obtain ⟨fr, hf⟩ := hA.sl (a := loopArgs 204 s.heap.objs.size (bytesOf x) t0 t 0 0 0 false) |>.fr
  have hs := hA.sl (a := loopArgs 204 s.heap.objs.size (bytesOf x) t0 t 0 0 0 false)
  have k2 : ∀ b o, s.heap.get? b = some o → h'.get? b = some o := fun b o e => k b o (Nat.ne_of_lt (Heap.lt_size e)) (kp b o e)
  exact wpAny_le (bj1 (fr := fr) (X.keeps k2) g ⟨fun b' tk tk' e => by subst e; exact q h' tk tk' k2⟩) hs.hd (by have := hs.dp; show Around.depth _ ≤ 500; omega) hf hs.gd (by have := hs.un; show Around.units _ ≤ 5000; omega)
theorem hitB_some {x : List Nat} {p : Nat} (h : hitB x p = true) : ∃ m m2, driveM 1000 (Sre.forSearch code204.toArray x.toArray 0 0 x.length false) = some m ∧ m.outcome = some .matched ∧ m.start = p ∧ m.handed = x.length ∧ driveM 1000 (Sre.forSearch code204.toArray x.toArray 0 x.length x.length false) = some m2 ∧ m2.outcome = some .failed := by
  unfold hitB at h
  split at h
  · rename_i m e
    split at h
    · rename_i eo
      simp only [Bool.and_eq_true] at h
      obtain ⟨⟨h1, h2⟩, h3⟩ := h
      unfold failB at h3
      split at h3
      · rename_i m2 e2
        split at h3
        · rename_i eo2
          exact ⟨m, m2, e, eo, Nat.eq_of_beq_eq_true h1, Nat.eq_of_beq_eq_true h2, e2, eo2⟩
        · (first | exact nn h3 | cases h3)
      · (first | exact nn h3 | cases h3)
    · (first | exact nn h | cases h)
  · (first | exact nn h | cases h)
theorem call_hit {A : Around} (hA : AOk D U A) (hD : D ≤ 400) (hU : U ≤ 4000) {E : Value → Shared → Prop} {s : Shared} (X : (KF C.w.params).In s.heap) {x : List Nat} {p : Nat} (hx : ∀ c ∈ x, c < 128) (hl : x.length ≤ 1000) (hp3 : 3 ≤ p) (hp8 : p ≤ 8) (hpl : p < x.length) (hm : hitB x p = true) {t0 t : Tok} {Q : Value → Shared → Prop}
    (q : ∀ h' tk tk', (∀ b o, s.heap.get? b = some o → h'.get? b = some o) → Q (.bytes (bytesOf (x.take p)) tk) ⟨h', s.gens, s.drawn, tk', s.os⟩) :
    wpAny (model P C.w) A (call (.builtin "re.Pattern.sub") [.ref 204, .bytes #[] t0, .bytes (bytesOf x) t]) Q E s := by
  obtain ⟨m, m2, e1, e2, e3, e4, e5, e6⟩ := hitB_some hm
  have hre := reAt_of X (re204 C.w.params)
  have hsz : (bytesOf x).size = x.length := by simp [bytesOf]
  refine wpAny_call (sub_start hre ?_)
  have kp : ∀ b o, s.heap.get? b = some o → (s.heap.push { cls := .type "list", data := .seq #[] }).get? b = some o := fun b o e => Heap.get?_push_of_some _ e
  refine sub_hit (reAt_of (X.keeps kp) (re204 C.w.params)) (Heap.get?_push_size _ rfl) (by simp) (by omega) (m := m) (by rw [bytesOf_back hx, hsz]; exact e1) e2 (by rw [e3]; show 0 < p; omega) fun h' sz' k g => ?_
  have hpre : (((bytesOf x).map (·.toNat)).extract (0 : Int).toNat m.start).map (·.toUInt8) = bytesOf (x.take p) := by
    rw [bytesOf_back hx, e3]
    apply Array.ext'
    simp [bytesOf]
  dsimp only at g
  rw [hpre] at g
  rw [e4, e3]
  have hbq : (x.length == p) = false := by simp; omega
  rw [hbq]
  have k2 : ∀ b o, s.heap.get? b = some o → h'.get? b = some o := fun b o e => k b o (Nat.ne_of_lt (Heap.lt_size e)) (kp b o e)
  refine sub_end (reAt_of (X.keeps k2) (re204 C.w.params)) g (by simp) (by omega) (m := m2) (by rw [bytesOf_back hx, hsz]; exact e5) e6 (by rw [hsz]; simp) ?_
  have hs := hA.sl (a := loopArgs 204 s.heap.objs.size (bytesOf x) t0 t (0 + 1) x.length x.length false)
  obtain ⟨fr, hf⟩ := hs.fr
  have hps : (bytesOf (x.take p)).size = p := by simp [bytesOf]; omega
  exact bj2 (by omega) g fun tk tk' => q h' tk tk' k2
theorem SCl_sub (ok : CxOk C) (hD : D ≤ 400) (hU : U ≤ 4000) : SCl C D U (.builtin "re.Pattern.sub") reSubM := fun vs ws μ rv A hA σ s r b σ' e Q E q => by
  unfold reSubM at e
  split at e
  · rename_i ax hax
    obtain ⟨a, x⟩ := ax
    have hv := reA_some hax
    subst hv
    clear hax
    dsimp only at e
    split at e
    · rename_i ha
      have ha := Nat.eq_of_beq_eq_true ha
      subst ha
      refine RVs.eCons rv fun _ _ h1 t => ?_
      refine RVs.eCons t fun _ _ h2 t => ?_
      refine RVs.eCons t fun _ _ h3 t => ?_
      refine RVs.eNil t ?_
      cases h1
      refine RV.eByt h2 fun t0 => ?_
      refine RV.eByt h3 fun t => ?_
      have hb0 : C.byt [] = #[] := by simp [Cx.byt, Cx.str]
      rw [hb0]
      split at e
      · rename_i n hpf
        split at e
        · rename_i hn
          (first | (have q := qc e q) | (have q := qcB e q) | cases e)
          rw [Bool.and_eq_true] at hn
          have h0 : 0 < n := Nat.le_of_ble_eq_true hn.1
          have h6 : n ≤ 6 := Nat.le_of_ble_eq_true hn.2
          rw [pf_eq hpf, byt_of str_close]
          have hm := List.all_eq_true.mp close_tab n (by simp; omega)
          refine call_miss hA hD hU (r.K ok) (fun c hc => by have := List.eq_of_mem_replicate hc; omega) (by simp; omega) (by simpa using h0) hm fun h' tk tk' k => ?_
          refine q μ _ _ (List.prefix_refl _) (r.grow k) ?_
          rw [← byt_of (C := C) str_close]
          exact .byt _ _
        · (first | exact nn e | cases e)
      · rename_i n k hpf
        split at e
        · rename_i hn
          (first | (have q := qc e q) | (have q := qcB e q) | cases e)
          rw [Bool.and_eq_true] at hn
          have hk : k < 6 := Nat.le_of_ble_eq_true hn.1
          have hnk : n ≤ k := Nat.le_of_ble_eq_true hn.2
          obtain ⟨j, cl⟩ := ok.cls k hk
          have hp := piece_ok hk hnk cl.lt
          rw [pf_eq hpf, byt_of (str_piece cl)]
          have hcut := byt_of (C := C) (str_cut (n := n) cl)
          unfold pieceOk at hp
          have hlen := piece_len (n := n) (k := k) (j := j) (by omega)
          split at hp
          · rename_i hqd
            rw [Bool.and_eq_true] at hp
            have htk := natsB_eq hp.2
            have hlt : n + 3 < (pieceL n k j).length := by
              unfold pieceL
              have : 1 < (tailOf j).length := by
                have hq := List.all_eq_true.mp quoted_len j (by simpa using cl.lt)
                rw [hqd] at hq
                exact Nat.le_of_ble_eq_true hq
              simp; omega
            refine call_hit hA hD hU (r.K ok) (piece_lt hk) (by omega) (by omega) (by omega) hlt hp.1 fun h' tk tk' kk => ?_
            refine q μ _ _ (List.prefix_refl _) (r.grow kk) ?_
            rw [htk, ← hcut]
            exact .byt _ _
          · rw [Bool.and_eq_true] at hp
            have htk := natsB_eq hp.2
            refine call_miss hA hD hU (r.K ok) (piece_lt hk) (by omega) (by unfold pieceL; simp; omega) hp.1 fun h' tk tk' kk => ?_
            refine q μ _ _ (List.prefix_refl _) (r.grow kk) ?_
            rw [htk, ← hcut]
            exact .byt _ _
        · (first | exact nn e | cases e)
      · (first | exact nn e | cases e)
    · (first | exact nn e | cases e)
  · (first | exact nn e | cases e)
end
end
end Mine
set_option genSizeOf false
set_option genInjectivity false
namespace Mine
noncomputable section
open PySem PySem.W PySem.W.X PyProof.Rows PySem.Calls PySem.Builtin
set_option maxRecDepth 100000
set_option maxHeartbeats 0
noncomputable def countW (b : Array UInt8) : Option (Nat × Nat) := if (Bytes.window b.size none none).2 - (Bytes.window b.size none none).1 < ((#[0] : Array UInt8).size : Nat) then none else some ((Bytes.window b.size none none).1.toNat, (Bytes.window b.size none none).2.toNat)
theorem count_tree (b : Array UInt8) (c : UInt8) (t u : Tok) : «bytes.count» ⟨[.bytes b t, .bytes #[c] u], []⟩ = (match countW b with
  | none => retInt 0
  | some (lo, hi) => retInt ((Bytes.occurrences b #[c] lo hi).length : Nat)) := by kernel_rfl
noncomputable def countB (b : Array UInt8) (c : UInt8) (r : Nat) : Bool := match countW b with
  | none => Nat.beq r 0
  | some (lo, hi) => Nat.beq (Bytes.occurrences b #[c] lo hi).length r
theorem call_count {w : World} {A : Around} {E : Value → Shared → Prop} {s : Shared} {b : Array UInt8} {c : UInt8} {r : Nat} (h : countB b c r = true) {t u : Tok} {Q : Value → Shared → Prop} (q : ∀ tk tk', Q (.int r tk) { s with toks := tk' }) :
    wpAny (model P w) A (call (.builtin "bytes.count") [.bytes b t, .bytes #[c] u]) Q E s := by
  refine wpAny_call_entry slot_count (by rfl) entry_count ?_ (args_count _ _)
  rw [count_tree]
  unfold countB at h
  split
  · rename_i e
    rw [e] at h
    have := Nat.eq_of_beq_eq_true h
    subst this
    exact wpAny_bind (wpAny_mkInt (wpAny_pure ⟨_, rfl, q _ _⟩))
  · rename_i lo hi e
    rw [e] at h
    have := Nat.eq_of_beq_eq_true h
    subst this
    exact wpAny_bind (wpAny_mkInt (wpAny_pure ⟨_, rfl, q _ _⟩))
noncomputable def cntOk (n k j : Nat) : Bool := countB (bytesOf (pieceC n k j)) 40 1 && countB (bytesOf (pieceC n k j)) 41 n
theorem cnt_0_0 : [0, 1, 2].all (fun j => cntOk 0 0 j) = true := by decide +kernel
theorem cnt_1_0 : [0, 1, 2].all (fun j => cntOk 0 1 j) = true := by decide +kernel
theorem cnt_1_1 : [0, 1, 2].all (fun j => cntOk 1 1 j) = true := by decide +kernel
theorem cnt_2_0 : [0, 1, 2].all (fun j => cntOk 0 2 j) = true := by decide +kernel
theorem cnt_2_1 : [0, 1, 2].all (fun j => cntOk 1 2 j) = true := by decide +kernel
theorem cnt_2_2 : [0, 1, 2].all (fun j => cntOk 2 2 j) = true := by decide +kernel
theorem cnt_3_0 : [0, 1, 2].all (fun j => cntOk 0 3 j) = true := by decide +kernel
theorem cnt_3_1 : [0, 1, 2].all (fun j => cntOk 1 3 j) = true := by decide +kernel
theorem cnt_3_2 : [0, 1, 2].all (fun j => cntOk 2 3 j) = true := by decide +kernel
theorem cnt_3_3 : [0, 1, 2].all (fun j => cntOk 3 3 j) = true := by decide +kernel
theorem cnt_4_0 : [0, 1, 2].all (fun j => cntOk 0 4 j) = true := by decide +kernel
theorem cnt_4_1 : [0, 1, 2].all (fun j => cntOk 1 4 j) = true := by decide +kernel
theorem cnt_4_2 : [0, 1, 2].all (fun j => cntOk 2 4 j) = true := by decide +kernel
theorem cnt_4_3 : [0, 1, 2].all (fun j => cntOk 3 4 j) = true := by decide +kernel
theorem cnt_4_4 : [0, 1, 2].all (fun j => cntOk 4 4 j) = true := by decide +kernel
theorem cnt_5_0 : [0, 1, 2].all (fun j => cntOk 0 5 j) = true := by decide +kernel
theorem cnt_5_1 : [0, 1, 2].all (fun j => cntOk 1 5 j) = true := by decide +kernel
theorem cnt_5_2 : [0, 1, 2].all (fun j => cntOk 2 5 j) = true := by decide +kernel
theorem cnt_5_3 : [0, 1, 2].all (fun j => cntOk 3 5 j) = true := by decide +kernel
theorem cnt_5_4 : [0, 1, 2].all (fun j => cntOk 4 5 j) = true := by decide +kernel
theorem cnt_5_5 : [0, 1, 2].all (fun j => cntOk 5 5 j) = true := by decide +kernel
theorem cnt_tab : ∀ {n k : Nat}, k < 6 → n ≤ k → ∀ j ∈ [0, 1, 2], cntOk n k j = true := fun {n k} hk hn => match k, n, hk, hn with
  | 0, 0, _, _ => List.all_eq_true.mp cnt_0_0
  | 0, n + 1, _, h => absurd h (by omega)
  | 1, 0, _, _ => List.all_eq_true.mp cnt_1_0
  | 1, 1, _, _ => List.all_eq_true.mp cnt_1_1
  | 1, n + 2, _, h => absurd h (by omega)
  | 2, 0, _, _ => List.all_eq_true.mp cnt_2_0
  | 2, 1, _, _ => List.all_eq_true.mp cnt_2_1
  | 2, 2, _, _ => List.all_eq_true.mp cnt_2_2
  | 2, n + 3, _, h => absurd h (by omega)
  | 3, 0, _, _ => List.all_eq_true.mp cnt_3_0
  | 3, 1, _, _ => List.all_eq_true.mp cnt_3_1
  | 3, 2, _, _ => List.all_eq_true.mp cnt_3_2
  | 3, 3, _, _ => List.all_eq_true.mp cnt_3_3
  | 3, n + 4, _, h => absurd h (by omega)
  | 4, 0, _, _ => List.all_eq_true.mp cnt_4_0
  | 4, 1, _, _ => List.all_eq_true.mp cnt_4_1
  | 4, 2, _, _ => List.all_eq_true.mp cnt_4_2
  | 4, 3, _, _ => List.all_eq_true.mp cnt_4_3
  | 4, 4, _, _ => List.all_eq_true.mp cnt_4_4
  | 4, n + 5, _, h => absurd h (by omega)
  | 5, 0, _, _ => List.all_eq_true.mp cnt_5_0
  | 5, 1, _, _ => List.all_eq_true.mp cnt_5_1
  | 5, 2, _, _ => List.all_eq_true.mp cnt_5_2
  | 5, 3, _, _ => List.all_eq_true.mp cnt_5_3
  | 5, 4, _, _ => List.all_eq_true.mp cnt_5_4
  | 5, 5, _, _ => List.all_eq_true.mp cnt_5_5
  | 5, n + 6, _, h => absurd h (by omega)
  | k + 6, _, h, _ => absurd h (by omega)
noncomputable def canonC : Nat → Nat
  | 6 => 0 | 0 => 0 | 1 => 1 | _ => 2
theorem canonC_ok : (List.range 12).all (fun j => natsB (cutOf (canonC j)) (cutOf j) && [0, 1, 2].contains (canonC j)) = true := by decide +kernel
theorem cnt_ok {n k j : Nat} (hk : k < 6) (hn : n ≤ k) (hj : j < 12) : cntOk n k j = true := by
  have h := List.all_eq_true.mp canonC_ok j (by simpa using hj)
  simp only [Bool.and_eq_true] at h
  obtain ⟨h2, h4⟩ := h
  have h5 := cnt_tab hk hn (canonC j) (by simpa using h4)
  unfold cntOk pieceC at h5 ⊢
  rw [natsB_eq h2] at h5
  exact h5
theorem cnt_close : (List.range 7).all (fun n => countB (bytesOf (List.replicate n 41)) 40 0 && countB (bytesOf (List.replicate n 41)) 41 n) = true := by decide +kernel
section
variable {C : Cx} {D U : Nat} {Γ : FE}
noncomputable def cntRes (n : Nat) (o : Bool) (c : Nat) : Option Int := match Nat.beq c 40 with
  | true => match o with
    | true => some 1
    | false => some 0
  | false => match Nat.beq c 41 with
    | true => some n
    | false => none
noncomputable def cntA (vs : List V) : Option (List At × Nat) := match args2 vs with
  | some p => match bytO p.1 with
    | some x => match bytO p.2 with
      | some y => match chO (atO y) with
        | some c => some (x, c)
        | none => none
      | none => none
    | none => none
  | none => none
theorem cntA_some {vs : List V} {x : List At} {c : Nat} (h : cntA vs = some (x, c)) : vs = [.byt x, .byt [.ch c]] := by
  unfold cntA at h
  split at h
  · rename_i p hp
    have hp := args2_some hp
    split at h
    · rename_i x' hx
      have hx := bytO_some hx
      split at h
      · rename_i y hy
        have hy := bytO_some hy
        split at h
        · rename_i c' hc
          have hc := atO_some (chO_some hc)
          cases h
          rw [hp, hx, hy, hc]
        · exact nn h
      · exact nn h
    · exact nn h
  · exact nn h
noncomputable def cntM (vs : List V) : M V := fun σ => match cntA vs with
  | some xc => match pf xc.1 with
    | some (n, none) => match Nat.ble n 6 with
      | true => match cntRes n false xc.2 with
        | some r => some (.int r, σ)
        | none => none
      | false => none
    | some (n, some k) => match Nat.ble 6 k && Nat.blt k 12 && Nat.ble n (k - 6) with
      | true => match cntRes n true xc.2 with
        | some r => some (.int r, σ)
        | none => none
      | false => none
    | none => none
  | none => none
theorem byt_one (c : Nat) : C.byt [.ch c] = #[c.toUInt8] := by
  show C.byt ([c].map .ch) = _
  rw [byt_of (Cx_str_chs C [c])]; rfl
theorem SCl_count (ok : CxOk C) : SCl C D U (.builtin "bytes.count") cntM := fun vs ws μ rv A hA σ s r b σ' e Q E q => by
  unfold cntM at e
  split at e
  · rename_i xc hxc
    obtain ⟨x, c⟩ := xc
    have hv := cntA_some hxc
    subst hv
    clear hxc
    dsimp only at e
    refine RVs.eCons rv fun _ _ h1 t => ?_
    refine RVs.eCons t fun _ _ h2 t => ?_
    refine RVs.eNil t ?_
    refine RV.eByt h1 fun t1 => ?_
    refine RV.eByt h2 fun t2 => ?_
    rw [byt_one]
    split at e
    · rename_i n hpf
      split at e
      · rename_i hn
        have hn : n ≤ 6 := Nat.le_of_ble_eq_true hn
        have ht := List.all_eq_true.mp cnt_close n (by simp; omega)
        rw [Bool.and_eq_true] at ht
        rw [pf_eq hpf, byt_of str_close]
        unfold cntRes at e
        split at e
        · rename_i rr er
          (first | (have q := qc e q) | (have q := qcB e q) | cases e)
          split at er
          · rename_i hc
            have hc := Nat.eq_of_beq_eq_true hc
            subst hc
            (first | (have q := qc er q) | (have q := qcB er q) | cases er)
            exact call_count ht.1 fun tk tk' => q μ _ _ (List.prefix_refl _) (r.toks s.heap s.gens s.drawn tk' rfl rfl) (.int 0 tk)
          · split at er
            · rename_i hc
              have hc := Nat.eq_of_beq_eq_true hc
              subst hc
              (first | (have q := qc er q) | (have q := qcB er q) | cases er)
              exact call_count ht.2 fun tk tk' => q μ _ _ (List.prefix_refl _) (r.toks s.heap s.gens s.drawn tk' rfl rfl) (.int n tk)
            · (first | exact nn er | cases er)
        · (first | exact nn e | cases e)
      · (first | exact nn e | cases e)
    · rename_i n k hpf
      split at e
      · rename_i hk
        simp only [Bool.and_eq_true] at hk
        obtain ⟨⟨h6, h12⟩, hn⟩ := hk
        have h6 : 6 ≤ k := Nat.le_of_ble_eq_true h6
        have h12 : k < 12 := Nat.le_of_ble_eq_true h12
        have hn : n ≤ k - 6 := Nat.le_of_ble_eq_true hn
        obtain ⟨j, cl⟩ := ok.cls (k - 6) (by omega)
        have ht := cnt_ok (n := n) (k := k - 6) (j := j) (by omega) hn cl.lt
        unfold cntOk at ht
        rw [Bool.and_eq_true] at ht
        have hk6 : k - 6 + 6 = k := by omega
        have hs := str_cut (n := n) cl
        rw [hk6] at hs
        refine rwG (pf_eq hpf) ?_; refine rwG (byt_of hs) ?_
        unfold cntRes at e
        split at e
        · rename_i rr er
          (first | (have q := qc e q) | (have q := qcB e q) | cases e)
          split at er
          · rename_i hc
            have hc := Nat.eq_of_beq_eq_true hc
            subst hc
            (first | (have q := qc er q) | (have q := qcB er q) | cases er)
            exact call_count ht.1 fun tk tk' => q μ _ _ (List.prefix_refl _) (r.toks s.heap s.gens s.drawn tk' rfl rfl) (.int 1 tk)
          · split at er
            · rename_i hc
              have hc := Nat.eq_of_beq_eq_true hc
              subst hc
              (first | (have q := qc er q) | (have q := qcB er q) | cases er)
              exact call_count ht.2 fun tk tk' => q μ _ _ (List.prefix_refl _) (r.toks s.heap s.gens s.drawn tk' rfl rfl) (.int n tk)
            · (first | exact nn er | cases er)
        · (first | exact nn e | cases e)
      · (first | exact nn e | cases e)
    · (first | exact nn e | cases e)
  · (first | exact nn e | cases e)
/-! encode -/
noncomputable def encA (vs : List V) : Option (List At × List At) := match args2 vs with
  | some p => match strX p.1 with
    | some x => match strX p.2 with
      | some y => some (x, y)
      | none => none
    | none => none
  | none => none
theorem encA_some {vs : List V} {x y : List At} (h : encA vs = some (x, y)) : vs = [.str x, .str y] := by
  unfold encA at h
  split at h
  · rename_i p hp
    have hp := args2_some hp
    split at h
    · rename_i x' hx
      have hx := strX_some hx
      split at h
      · rename_i y' hy
        have hy := strX_some hy
        cases h
        rw [hp, hx, hy]
      · exact nn h
    · exact nn h
  · exact nn h
noncomputable def encM (vs : List V) : M V := fun σ => match encA vs with
  | some xy => match chsOf xy.2 with
    | some cs => match natsB cs [97, 115, 99, 105, 105] with
      | true => match pf xy.1 with
        | some (n, none) => match Nat.ble n 6 with
          | true => some (.byt xy.1, σ)
          | false => none
        | some (n, some k) => match Nat.blt k 6 && Nat.ble n 5 with
          | true => some (.byt xy.1, σ)
          | false => none
        | none => none
      | false => none
    | none => none
  | none => none
theorem SCl_encode (ok : CxOk C) : SCl C D U (.builtin "str.encode") encM := fun vs ws μ rv A hA σ s r b σ' e Q E q => by
  unfold encM at e
  split at e
  · rename_i xy hxy
    obtain ⟨x, y⟩ := xy
    have hv := encA_some hxy
    subst hv
    clear hxy
    dsimp only at e
    split at e
    · rename_i cs hcs
      split at e
      · rename_i hc
        have hc := natsB_eq hc
        subst hc
        have hy := chsOf_map hcs
        subst hy
        refine RVs.eCons rv fun _ _ h1 t => ?_
        refine RVs.eCons t fun _ _ h2 t => ?_
        refine RVs.eNil t ?_
        refine RV.eStr h1 fun t1 => ?_
        refine RV.eStr h2 fun t2 => ?_
        rw [Cx_str_chs, show (⟨[97, 115, 99, 105, 105].toArray⟩ : Str) = Str.ofString "ascii" by decide +kernel]
        split at e
        · rename_i n hpf
          split at e
          · rename_i hn
            have hn : n ≤ 6 := Nat.le_of_ble_eq_true hn
            (first | (have q := qc e q) | (have q := qcB e q) | cases e)
            have hx : C.str x = ⟨(List.replicate n 41).toArray⟩ := by rw [pf_eq hpf]; exact str_close
            refine call_encode (by rw [hx]; intro c hc; have := List.eq_of_mem_replicate (List.mem_toArray.mp hc); omega) (by rw [hx]; simp; omega) ?_
            exact q μ _ _ (List.prefix_refl _) (r.toks s.heap s.gens s.drawn _ rfl rfl) (.byt x _)
          · (first | exact nn e | cases e)
        · rename_i n k hpf
          split at e
          · rename_i hn
            rw [Bool.and_eq_true] at hn
            have hk : k < 6 := Nat.le_of_ble_eq_true hn.1
            have hn : n ≤ 5 := Nat.le_of_ble_eq_true hn.2
            (first | (have q := qc e q) | (have q := qcB e q) | cases e)
            obtain ⟨j, cl⟩ := ok.cls k hk
            have hx : C.str x = ⟨(pieceL n k j).toArray⟩ := by rw [pf_eq hpf]; exact str_piece cl
            have hlen := piece_len (n := n) (k := k) (j := j) hn
            refine call_encode (by rw [hx]; intro c hc; exact piece_lt hk c (List.mem_toArray.mp hc)) (by rw [hx]; show (pieceL n k j).length ≤ 1000; omega) ?_
            exact q μ _ _ (List.prefix_refl _) (r.toks s.heap s.gens s.drawn _ rfl rfl) (.byt x _)
          · (first | exact nn e | cases e)
        · (first | exact nn e | cases e)
      · (first | exact nn e | cases e)
    · (first | exact nn e | cases e)
  · (first | exact nn e | cases e)
theorem SE_bytes {x : List UInt8} {y : List Nat} {k : Nat} {pos : Pos} (hx : x.toArray = bytesOf y) : SE C D U Γ (.Constant (.bytes x) k pos) (fun _ => ret (.byt (y.map .ch))) := fun l L μ hok hl A hA σ s r b σ' e Q E q => by
  (first | (have q := qc e q) | (have q := qcB e q) | cases e)
  have : eval (.Constant (.bytes x) k pos) (Γ.env L) = mkTextBytes x.toArray := by rfl
  refine rwG (this) ?_; refine rwG (hx) ?_
  refine wpAny_mkTextBytes (q μ _ _ (List.prefix_refl _) (r.toks s.heap s.gens _ _ rfl rfl) ?_)
  refine rwH (byt_of (C := C) (Cx_str_chs C y)) ?_
  exact .byt _ _
theorem SE_bytes' {x : List UInt8} {k : Nat} {pos : Pos} : SE C D U Γ (.Constant (.bytes x) k pos) (fun _ => ret (.byt ((x.map (·.toNat)).map .ch))) := SE_bytes (by
  unfold bytesOf
  refine rwG (List.map_map) ?_
  congr 1
  conv => lhs; rw [← List.map_id x]
  apply List.map_congr_left
  intro a _
  simp)
noncomputable def bytChk (v : V) : M Unit := fun σ => match v with
  | .byt _ => some ((), σ)
  | _ => none
theorem SE_bytM {o : Expr} {name : Str} {apos pos : Pos} {args : List Expr} {fo : Nat → M V} {fa : Nat → M (List V)} {fn : List V → M V} (id : String) (slot : Slot "bytes" name id) (ty : typeOf (.builtin id) = pure (.type "method_descriptor"))
    (ok : CxOk C) (h : SE C D U Γ o fo) (ha : SEs C D U Γ args fa) (hf : SCl C D U (.builtin id) fn)
    (hbase : autoParam (∀ env, attributeBase o name env (eval o env) = eval o env) au1._auto_1)
    (hfew : autoParam (∀ env, ((backTo pos (starEach args env)).all (fun x => !x.1) && (backToKw pos (keywordEach [] env)).all (fun x => x.1.isSome)
      && decide (args.length + ([] : List Keyword).length + (if ([] : List Keyword).isEmpty then 0 else 1) < 30)) = true) au1._auto_1)
    (hline : autoParam ((apos.endLine == pos.line) = true) au2._auto_1) (hpl : autoParam (∀ env, (backTo pos (starEach args env)).any (·.1) = false) au1._auto_1) :
    SE C D U Γ (.Call (.Attribute o name apos) args [] pos) (fun l => bnd (fo l) fun v => bnd (bytChk v) fun _ => bnd (fa l) fun vs => fn (v :: vs)) := fun l L μ hok hl A hA σ s r b σ' e Q E q => by
  refine bnd_e e fun v σ₁ e1 e2 => ?_
  refine bnd_e e2 fun _ σ₂ e3 e4 => ?_
  refine bnd_e e4 fun vs σ₃ e5 e6 => ?_
  refine wpAny_Call_method_lateS (hbase _) (hfew _) hline ?_
  refine h l L μ hok hl A hA σ s r v σ₁ e1 _ E fun μ' s' w hp r' rv => ?_
  unfold bytChk at e3
  induction rv with
  | byt x t =>
    (first | (have q := qc e3 q) | (have q := qcB e3 q) | cases e3)
    refine ⟨"bytes", id, pa_bytes, slot, ty, (by rfl), (fun _ e => nomatch e), ?_⟩
    refine callWith_of (P := fun h => (KF C.w.params).In h) (by rw [hpl]; rfl) (keep_bi id) (evA (hpl _) ?_)
    refine ha l L μ' pos (Γ.mono hp hok) (mu_ext hp hl) A hA _ s' r' vs σ₃ e5 _ E fun μ'' s'' ws hp' r'' rvs => ⟨r''.K ok, ?_⟩
    exact hf (.byt x :: vs) (.bytes (C.byt x) t :: ws) μ'' (.cons (.byt x t) rvs) A hA σ₃ s'' r'' b σ' e6 Q E fun μ₃ s₃ x hp3 => q μ₃ s₃ x (List.IsPrefix.trans (List.IsPrefix.trans hp hp') hp3)
  | _ => (first | exact nn e3 | cases e3)
end
end
end Mine
set_option genSizeOf false
set_option genInjectivity false
namespace Mine
noncomputable section
open PySem PySem.W PyProof.Rows PySem.Calls
set_option maxRecDepth 100000
set_option maxHeartbeats 0
theorem ok212 : GOk 212 := ⟨by kernel_rfl, by kernel_rfl, by kernel_rfl, by kernel_rfl, by decide⟩
theorem do212 : DefOk 212 2 2 [] := ⟨by intro _; kernel_rfl, by intro _; kernel_rfl, by kernel_rfl, by decide, by decide, by kernel_rfl, by kernel_rfl, by kernel_rfl, by kernel_rfl, by kernel_rfl, by
  intro p S ws h; exact ln2 ws h fun a b => by kernel_rfl⟩
noncomputable def d212 : {g : Nat → M VF // ∀ C, CxOk C → ∀ D U, D < 350 → U < 3900 → SXs C D U (GG 212 ok212) (bodyOf 212) g} := ⟨_, fun C ok D U hD hU => by
  refine' SXs_cons ?_ ?_
  refine' SX_assign 0 ?_ (by kernel_rfl)
  refine' SE_reM "re.Pattern.sub" slot_sub type_sub (by assumption) ?_ ?_ (SCl_sub (by assumption) (le_a hD rfl) (le_a hU rfl)); rotate_left 2
  refine' SE_glob 204 (by assumption) (by intro _; kernel_rfl)
  refine' SEs_cons ?_ ?_
  exact SE_bytes'
  refine' SEs_cons ?_ ?_
  exact SE_loc 0 (by kernel_rfl) (by decide)
  exact SEs_nil
  refine' SXs_cons ?_ ?_
  refine' SX_ret ?_
  refine' SE_bin SOp_sub ?_ ?_; rotate_left 2
  refine' SE_bin (SOp_add (by assumption)) ?_ ?_; rotate_left 2
  exact SE_loc 1 (by kernel_rfl) (by decide)
  refine' SE_bytM "bytes.count" slot_count type_count (by assumption) ?_ ?_ (SCl_count (by assumption)); rotate_left 2
  exact SE_loc 0 (by kernel_rfl) (by decide)
  refine' SEs_cons ?_ ?_
  exact SE_bytes'
  exact SEs_nil
  refine' SE_bytM "bytes.count" slot_count type_count (by assumption) ?_ ?_ (SCl_count (by assumption)); rotate_left 2
  exact SE_loc 0 (by kernel_rfl) (by decide)
  refine' SEs_cons ?_ ?_
  exact SE_bytes'
  exact SEs_nil
  exact SXs_nil⟩
theorem c212 {C : Cx} {D U : Nat} (ok : CxOk C) (hD : D < 349) (hU : U < 3897) : SFn C D U 212 (defD 212 2 2 [] d212.1) := SFn_def2 ok (fun _ => .nil) do212 (lt_a hD rfl) (d212.2 C ok _ _ (lt_1 hD rfl) (lt_3 hU rfl))
end
end Mine
set_option genSizeOf false
set_option genInjectivity false
namespace Mine
noncomputable section
open PySem PySem.W PyProof.Rows PySem.Calls
set_option maxRecDepth 100000
set_option maxHeartbeats 0
theorem ok419 : GOk 419 := ⟨by kernel_rfl, by kernel_rfl, by kernel_rfl, by kernel_rfl, by decide⟩
theorem do419 : DefOk 419 1 4 [] := ⟨by intro _; kernel_rfl, by intro _; kernel_rfl, by kernel_rfl, by decide, by decide, by kernel_rfl, by kernel_rfl, by kernel_rfl, by kernel_rfl, by kernel_rfl, by
  intro p S ws h; exact ln1 ws h fun a => by kernel_rfl⟩
noncomputable def d419 : {g : Nat → M VF // ∀ C, CxOk C → ∀ D U, D < 340 → U < 3880 → SXs C D U (GG 419 ok419) (bodyOf 419) g} := ⟨_, fun C ok D U hD hU => by
  refine' SXs_cons ?_ ?_
  refine' SX_assign 1 ?_ (by kernel_rfl)
  exact SE_int
  refine' SXs_cons ?_ ?_
  refine' SX_assign 2 ?_ (by kernel_rfl)
  refine' SE_list ?_
  exact SEs_nil
  refine' SXs_cons ?_ ?_
  refine' SX_for 100 ?_ ?_ ?_
  exact SE_loc 0 (by kernel_rfl) (by decide)
  exact SAsg_name 3 (by kernel_rfl)
  refine' SXs_cons ?_ ?_
  refine' SX_if ?_ ?_ ?_
  refine' ST_cmp (SCmp_ne2 (by assumption) (lt_30 hU rfl)) ?_ ?_; rotate_left 2
  exact SE_loc 3 (by kernel_rfl) (by decide)
  exact SE_str (by rfl)
  refine' SXs_cons ?_ ?_
  refine' SX_expr ?_ (by intro _; kernel_rfl)
  refine' SE_append ?_ ?_
  exact SE_loc 2 (by kernel_rfl) (by decide)
  exact SE_loc 1 (by kernel_rfl) (by decide)
  exact SXs_nil
  exact SXs_nil
  refine' SXs_cons ?_ ?_
  refine' SX_assign 1 ?_ (by kernel_rfl)
  refine' SE_call (f := .ref 212) (by assumption) (by intro _; kernel_rfl) (keep_ref (by kernel_rfl)) ?_ (c212 (by assumption) (lt_a hD rfl) (lt_a hU rfl)); rotate_left 1
  refine' SEs_cons ?_ ?_
  with_reducible refine' SE_strM "str.encode" F.slot_str_encode F.type_str_encode (by assumption) ?_ ?_ (SCl_encode (by assumption)) (hbase := by intro _; with_unfolding_all rfl) (hfew := by intro _; with_unfolding_all rfl) (hline := by with_unfolding_all rfl) (hpl := by intro _; with_unfolding_all rfl); rotate_left 2
  exact SE_loc 3 (by kernel_rfl) (by decide)
  refine' SEs_cons ?_ ?_
  exact SE_str (by rfl)
  exact SEs_nil
  refine' SEs_cons ?_ ?_
  exact SE_loc 1 (by kernel_rfl) (by decide)
  exact SEs_nil
  exact SXs_nil
  refine' SXs_cons ?_ ?_
  refine' SX_ret ?_
  refine' SE_bin (SOp_add (by assumption)) ?_ ?_; rotate_left 2
  exact SE_loc 2 (by kernel_rfl) (by decide)
  refine' SE_list ?_
  refine' SEs_cons ?_ ?_
  exact SE_loc 1 (by kernel_rfl) (by decide)
  exact SEs_nil
  exact SXs_nil⟩
theorem c419 {C : Cx} {D U : Nat} (ok : CxOk C) (hD : D < 339) (hU : U < 3877) : SFn C D U 419 (defD 419 1 4 [] d419.1) := SFn_def2 ok (fun _ => .nil) do419 (lt_a hD rfl) (d419.2 C ok _ _ (lt_1 hD rfl) (lt_3 hU rfl))
theorem ok405 : GOk 405 := ⟨by kernel_rfl, by kernel_rfl, by kernel_rfl, by kernel_rfl, by decide⟩
theorem do405 : DefOk 405 1 5 [] := ⟨by intro _; kernel_rfl, by intro _; kernel_rfl, by kernel_rfl, by decide, by decide, by kernel_rfl, by kernel_rfl, by kernel_rfl, by kernel_rfl, by kernel_rfl, by
  intro p S ws h; exact ln1 ws h fun a => by kernel_rfl⟩
noncomputable def d405 : {g : Nat → M VF // ∀ C, CxOk C → ∀ D U, D < 340 → U < 3880 → SXs C D U (GG 405 ok405) (bodyOf 405) g} := ⟨_, fun C ok D U hD hU => by
  refine' SXs_cons ?_ ?_
  refine' SX_assign 1 ?_ (by kernel_rfl)
  refine' SE_list ?_
  exact SEs_nil
  refine' SXs_cons ?_ ?_
  refine' SX_assign 2 ?_ (by kernel_rfl)
  exact SE_int
  refine' SXs_cons ?_ ?_
  refine' SX_while 100 ?_ ?_
  refine' ST_or2 ?_ ?_
  refine' ST_cmp (SCmp_eq2 (by assumption) (lt_30 hU rfl)) ?_ ?_; rotate_left 2
  exact SE_loc 2 (by kernel_rfl) (by decide)
  exact SE_int
  refine' ST_cmp (SCmp_in (by assumption) (c290 (by assumption) (lt_a hD rfl) (lt_a hU rfl))) ?_ ?_; rotate_left 2
  refine' SE_call (f := .builtin "chr") (by assumption) (by intro _; kernel_rfl) (keep_bi _) ?_ SCl_chr; rotate_left 1
  refine' SEs_cons ?_ ?_
  exact SE_loc 2 (by kernel_rfl) (by decide)
  exact SEs_nil
  exact SE_loc 0 (by kernel_rfl) (by decide)
  refine' SXs_cons ?_ ?_
  refine' SX_for 100 ?_ ?_ ?_
  refine' SE_meth 356 320 (by assumption) ?_ ?_ (c320 (by assumption) (lt_a hD rfl) (lt_a hU rfl)) (hev := fun _ _ _ _ _ h => evA rfl h); rotate_left 2
  exact SE_loc 0 (by kernel_rfl) (by decide)
  exact SEs_nil
  refine' SAsg_pair ?_ ?_
  exact SAsg_name 3 (by kernel_rfl)
  exact SAsg_name 4 (by kernel_rfl)
  refine' SXs_cons ?_ ?_
  refine' SX_if ?_ ?_ ?_
  refine' ST_cmp (SCmp_eq2 (by assumption) (lt_30 hU rfl)) ?_ ?_; rotate_left 2
  with_reducible refine' SE_strM "str.upper" F.slot_str_upper F.type_str_upper (by assumption) ?_ ?_ SCl_upper (hbase := by intro _; with_unfolding_all rfl) (hfew := by intro _; with_unfolding_all rfl) (hline := by with_unfolding_all rfl) (hpl := by intro _; with_unfolding_all rfl); rotate_left 2
  exact SE_loc 3 (by kernel_rfl) (by decide)
  exact SEs_nil
  refine' SE_call (f := .builtin "chr") (by assumption) (by intro _; kernel_rfl) (keep_bi _) ?_ SCl_chr; rotate_left 1
  refine' SEs_cons ?_ ?_
  refine' SE_bin (SOp_add (by assumption)) ?_ ?_; rotate_left 2
  exact SE_loc 2 (by kernel_rfl) (by decide)
  exact SE_int
  exact SEs_nil
  refine' SXs_cons ?_ ?_
  refine' SX_expr ?_ (by intro _; kernel_rfl)
  refine' SE_append ?_ ?_
  exact SE_loc 1 (by kernel_rfl) (by decide)
  refine' SE_bin (SOp_add (by assumption)) ?_ ?_; rotate_left 2
  exact SE_str (by rfl)
  exact SE_loc 4 (by kernel_rfl) (by decide)
  exact SXs_nil
  refine' SXs_cons ?_ ?_
  refine' SX_if ?_ ?_ ?_
  refine' ST_cmp (SCmp_eq2 (by assumption) (lt_30 hU rfl)) ?_ ?_; rotate_left 2
  with_reducible refine' SE_strM "str.upper" F.slot_str_upper F.type_str_upper (by assumption) ?_ ?_ SCl_upper (hbase := by intro _; with_unfolding_all rfl) (hfew := by intro _; with_unfolding_all rfl) (hline := by with_unfolding_all rfl) (hpl := by intro _; with_unfolding_all rfl); rotate_left 2
  exact SE_loc 3 (by kernel_rfl) (by decide)
  exact SEs_nil
  refine' SE_call (f := .builtin "chr") (by assumption) (by intro _; kernel_rfl) (keep_bi _) ?_ SCl_chr; rotate_left 1
  refine' SEs_cons ?_ ?_
  exact SE_loc 2 (by kernel_rfl) (by decide)
  exact SEs_nil
  refine' SXs_cons ?_ ?_
  refine' SX_expr ?_ (by intro _; kernel_rfl)
  refine' SE_append ?_ ?_
  exact SE_loc 1 (by kernel_rfl) (by decide)
  exact SE_str (by rfl)
  exact SXs_nil
  exact SXs_nil
  exact SXs_nil
  exact SXs_nil
  refine' SXs_cons ?_ ?_
  refine' SX_aug 2 SIn_add ?_ (by kernel_rfl); rotate_left 1
  exact SE_int
  exact SXs_nil
  refine' SXs_cons ?_ ?_
  refine' SX_ret ?_
  exact SE_loc 1 (by kernel_rfl) (by decide)
  exact SXs_nil⟩
theorem c405 {C : Cx} {D U : Nat} (ok : CxOk C) (hD : D < 339) (hU : U < 3877) : SFn C D U 405 (defD 405 1 5 [] d405.1) := SFn_def2 ok (fun _ => .nil) do405 (lt_a hD rfl) (d405.2 C ok _ _ (lt_1 hD rfl) (lt_3 hU rfl))
end
end Mine
set_option genSizeOf false
set_option genInjectivity false
namespace Mine
noncomputable section
open PySem PySem.W PySem.W.X PyProof.Rows PySem.Calls
set_option maxRecDepth 100000
set_option maxHeartbeats 0
theorem kf_one (p) : ((KF p).lookup 1).isSome = true := by kernel_rfl
structure DefOkW (f : Addr) (np nl : Nat) (wn : Str) : Prop where
  K : ∀ p, (KF p).lookup f = some ⟨.type "function", none, .func (fdOf f), #[]⟩
  cd : ∀ p, codeIn (KF p) (fdOf f).code (fdOf f).qualname = true
  body : (fdOf f).body = .stmts (bodyOf f)
  hnl : Nat.beq (tabN f).length nl = true
  hnp : Nat.ble (np + 1) nl = true
  cell : (fdOf f).scope.names.all (fun x => x.2 != .cell) = true
  loc : ((tabN f).take (np + 1)).all (fun x => (fdOf f).scope.names.lookup x == some .local) = true
  co : (fdOf f).scope.isCoroutine = false
  gen : (fdOf f).scope.isGenerator = false
  kind : (fdOf f).scope.kind = .function
  clo : (fdOf f).closure = []
  blt : (fdOf f).builtins = builtinsNs
  bind : ∀ ws, ws.length = np → bindArgs (fdOf f) ⟨ws, []⟩ = (do let d ← newDict; pure (((tabN f).take (np + 1)).zip (ws ++ [d])))
section
variable {C : Cx} {D U : Nat} {Γ : FE}
noncomputable def emptyD (v : V) : M Unit := fun σ => match v with
  | .ref n => match σ.get n with
    | some (.dic []) => some ((), σ)
    | _ => none
  | _ => none
theorem SX_items0 {x : Str} {target : Expr} {np apos cpos pos : Pos} {body : List Stmt} (i : Nat) (ok : CxOk C) (hi : (tabN Γ.tag)[i]? = some x) (hdb : (x == ("__debug__" : Str)) = false)
    (hbase : autoParam (∀ env, attributeBase (.Name x np) "items" env (eval (.Name x np) env) = eval (.Name x np) env) au1._auto_1) (hline : autoParam ((apos.endLine == cpos.line) = true) au2._auto_1)
    (hs : autoParam (∀ L x', foldedSetIterable (.Call (.Attribute (.Name x np) "items" apos) [] [] cpos) (Γ.env L) x' = pure x') au3._auto_1) :
    SX C D U Γ (.For target (.Call (.Attribute (.Name x np) "items" apos) [] [] cpos) body [] pos) (fun l => bnd (locGet Γ.tag i l) fun v => bnd (emptyD v) fun _ => ret .next) := fun l L μ hok hl A hA σ s r b σ' e Q E q => by
  refine bnd_e e fun v σ₁ e1 e => ?_
  refine bnd_e e fun _ σ₂ e2 e3 => ?_
  (first | (have q := qc e3 q) | (have q := qcB e3 q) | cases e3)
  obtain ⟨vs, g1, g2, g3⟩ := locGet_some e1
  simp only at g2 g3
  subst g3
  refine Rel.at_e r g1 hl (fun o ho hr => ?_)
  obtain ⟨m, hn, _, hm⟩ := ns_of ho hr
  obtain ⟨w, hw, rv⟩ := hm.get hi g2
  unfold emptyD at e2
  induction rv with
  | ref n d hn2 =>
    simp only at e2
    split at e2
    · rename_i g4
      (first | (have q := qc e2 q) | (have q := qcB e2 q) | cases e2)
      refine Rel.at_e r g4 hn2 (fun od hod hzz => ?_); obtain ⟨es, ep, hoe, dr⟩ := hzz
      cases dr
      have hdS : (d == sysModules) = false := by
        rw [beq_eq_false_iff_ne]
        intro z
        obtain ⟨oo, hoo⟩ := Option.isSome_iff_exists.mp (kf_one C.w.params)
        have h1 := ok.K _ _ hoo
        obtain ⟨_, _, _, _, _, h5, _⟩ := r.obj n (.dic []) g4 rfl
        obtain ⟨a', o', q1, q2, q3, q4, q5⟩ := r.obj n (.dic []) g4 rfl
        rw [hn2] at q1
        cases q1
        rw [z] at q4
        have : C.h.get? sysModules = some oo := h1
        rw [this] at q4
        cases q4
      have hda : s.heap.DictAt (strKind P C.w) d [] ep := by
        subst hoe
        exact ⟨_, _, hod, ⟨rfl, rfl, rfl⟩, rfl, by intro e he; simp at he, .nil, .nil⟩
      refine wpAny_For (wpAny_Call_items hdS hda.dictOf (hbase _) hline (fun Q' q' => wpAny_Name (wpAny_loadName_local (Γ.fn L) (Γ.knd L x (List.mem_of_getElem? hi)) (m := m) (v := .ref d) (by rw [Γ.loc L]; exact hn) hw q') hdb) ?_) (hs L)
      refine wpAny_pyIter_items (knd := strKind P C.w) (d := d) (kvs := []) (ep := ep) ⟨_, Heap.get?_push_size _ rfl, rfl, rfl⟩ (hda.push _) ?_
      dsimp only
      generalize hH : s.heap.push { cls := .type "dict_items", data := .fields #[.ref d] } = H
      have k1 : ∀ b o, s.heap.get? b = some o → H.get? b = some o := fun b o e => by rw [← hH]; exact Heap.get?_push_of_some _ e
      have hdH : H.DictAt (strKind P C.w) d [] ep := by rw [← hH]; exact hda.push _
      refine codeAny_for (I := fun n s' => n = 0 ∧ s' = ⟨H.push { cls := .type "dict_itemiterator", data := .fields #[.none, .bool false, .ref d, .int 0 0, .int ([] : List (Str × Value)).length 0, .int ep 0, .none, .none] }, s.gens, s.drawn, s.toks, s.os⟩) (fun n s' hI => ?_) 0 ⟨rfl, rfl⟩
      obtain ⟨rfl, rfl⟩ := hI
      refine wpAny_pyNext_items_end (knd := strKind P C.w) (kvs := []) (i := 0) (ep := ep) hA.hd (Heap.get?_push_size _ rfl) (hdH.push _) rfl fun h' hx => ?_
      refine q μ _ .next (List.prefix_refl _) (r.grow fun b o e => ?_) .next
      exact hx b o (Nat.ne_of_lt (Heap.lt_size (k1 b o e))) (Heap.get?_push_of_some _ (k1 b o e))
    · (first | exact nn e2 | cases e2)
  | _ => (first | exact nn e2 | cases e2)
noncomputable def defW (tag np nl : Nat) (g : Nat → M VF) (vs : List V) : M V := match Nat.beq vs.length np with
  | true => bnd (alloc (.dic [])) fun dd => bnd (alloc (.fr tag ((vs ++ [dd]).map some ++ List.replicate (nl - (np + 1)) none))) fun r => match r with
    | .ref l => bnd (g l) fun fl => ret (retOf fl)
    | _ => no
  | false => no
theorem SFn_defW {f : Addr} {h : GOk f} {g : Nat → M VF} {np nl : Nat} {wn : Str} (ok : CxOk C) (ok2 : DefOkW f np nl wn)
    (hD : D < 900) (hb : SXs C (D + 1) (U + 3) (GG f h) (bodyOf f) g) : SFn C D U f (defW f np nl g) := fun vs ws μ rv A hA σ s r b σ' e Q E q => by
  unfold defW at e
  have hnl := Nat.eq_of_beq_eq_true ok2.hnl
  have hnp := Nat.le_of_ble_eq_true ok2.hnp
  cases hlen : Nat.beq vs.length np with
  | true =>
    rw [hlen] at e
    replace hlen := Nat.eq_of_beq_eq_true hlen
    refine bnd_e e fun r0 σ₁ e1 e2 => ?_
    obtain ⟨hz, e3, e4⟩ := alloc_some e1
    simp only at e3 e4
    subst e3 e4
    refine bnd_e e2 fun r1 σ₂ e5 e6 => ?_
    obtain ⟨hz2, e7, e8⟩ := alloc_some e5
    simp only at e7 e8
    subst e7 e8
    refine bnd_e e6 fun fl σ₃ e9 e10 => ?_
    (first | (have q := qc e10 q) | (have q := qcB e10 q) | cases e10)
    have X := r.K ok
    have r₁ := r.alloc (o := { cls := .type "dict", dict := none, data := .dict #[] }) (vo := .dic []) (t := s.toks) (d := s.drawn) rfl hz ⟨[], 0, rfl, .nil⟩
    have hatd : (μ ++ [s.heap.objs.size])[σ.n]? = some s.heap.objs.size := by rw [← r.len]; simp
    have rva : RVs C (μ ++ [s.heap.objs.size]) (vs ++ [.ref σ.n]) (ws ++ [.ref s.heap.objs.size]) := (rv.ext (List.prefix_append _ _)).append (.cons (.ref _ _ hatd) .nil)
    refine wpAny_call ?_
    refine codeAny_call_function (Nat.lt_of_le_of_lt hA.dp (Nat.lt_trans hD (by decide))) (X _ _ (ok2.K _)) rfl ok2.co ok2.gen ok2.body (codeRec_of X (ok2.cd _)) ?_
    refine rwG (ok2.bind ws (by rw [rv.len, hlen])) ?_
    refine wpAny_bind (wpAny_newObj_type (wpAny_pure ?_))
    refine wpAny_newFunctionEnv (fun x hx => by
        have := List.all_eq_true.mp ok2.cell x hx
        simpa using this) (fun x hx => eq_of_beq (List.all_eq_true.mp ok2.loc _ (List.of_mem_zip hx).1)) (fun h₁ hns hsb => ?_) ok2.kind
    dsimp only at hns hsb ⊢
    generalize hH2 : s.heap.push { cls := .type "dict", dict := none, data := .dict #[] } = H2 at hns hsb r₁ ⊢
    have kp : ∀ b o, H2.get? b = some o → h₁.get? b = some o := fun b o eb => hsb.extBut b o (Nat.ne_of_lt (Heap.lt_size eb)) (Heap.get?_push_of_some _ eb)
    obtain ⟨o, ho, hr⟩ := ns_to (C := C) (μ := μ ++ [s.heap.objs.size] ++ [H2.objs.size]) (tag := f) (vs := (vs ++ [V.ref σ.n]).map some ++ List.replicate (nl - (np + 1)) none) hns (by simp; omega) (by
      have := MR_binds (C := C) h.e (rva.ext (List.prefix_append (μ ++ [s.heap.objs.size]) [H2.objs.size])) (by rw [List.length_append]; simp; omega)
      rw [List.length_append, hlen, hnl] at this
      exact this)
    have r₂ := r₁.add (t := s.toks + (((tabN f).take (np + 1)).zip (ws ++ [.ref s.heap.objs.size])).length) (d := s.drawn) kp (get_size_none _) ho hz2 hr
    have hat : (μ ++ [s.heap.objs.size] ++ [H2.objs.size])[(σ.add (.dic [])).n]? = some H2.objs.size := by rw [← r₁.len]; simp
    refine ⟨(ok.lim.keeps r₂.old), codeAny_func ?_⟩
    have henv : newEnv (fdOf f).scope H2.objs.size (fdOf f).globals (fdOf f).closure ((fdOf f).qualname ++ ".<locals>.") (some f) (fdOf f).code none (fdOf f).builtins = callEnv (fdOf f) H2.objs.size f := rfl
    refine rwG (henv) ?_
    have hb' := hb (σ.add (.dic [])).n H2.objs.size _ trivial hat
    refine hb' _ (hA.deeper _) _ _ r₂ fl _ e9 _ _ fun μ' s' a hp r' hf => ?_
    have hp' := List.IsPrefix.trans (List.IsPrefix.trans (List.prefix_append μ [s.heap.objs.size]) (List.prefix_append _ [H2.objs.size])) hp
    induction hf with
    | ret h => exact q μ' s' _ hp' r' h
    | next => exact q μ' s' _ hp' r' .none
    | brk => exact q μ' s' _ hp' r' .none
    | cont => exact q μ' s' _ hp' r' .none
  | false => rw [hlen] at e; cases e
end
end
end Mine
set_option genSizeOf false
set_option genInjectivity false
namespace Mine
noncomputable section
open PySem PySem.W PyProof.Rows PySem.Calls
set_option maxRecDepth 100000
set_option maxHeartbeats 0
theorem ok353 : GOk 353 := ⟨by kernel_rfl, by kernel_rfl, by kernel_rfl, by kernel_rfl, by decide⟩
theorem do353 : DefOkW 353 3 7 "_params" := ⟨by intro _; kernel_rfl, by intro _; kernel_rfl, by kernel_rfl, by decide, by decide, by kernel_rfl, by kernel_rfl, by kernel_rfl, by kernel_rfl, by kernel_rfl, by kernel_rfl, by kernel_rfl, by
  intro ws h; match ws, h with | [a, b, c], _ => kernel_rfl⟩
noncomputable def d353 : {g : Nat → M VF // ∀ C, CxOk C → ∀ D U, D < 470 → U < 4680 → SXs C D U (GG 353 ok353) (bodyOf 353) g} := ⟨_, fun C ok D U hD hU => by
  refine' SXs_cons ?_ ?_
  refine' SX_assign 4 ?_ (by kernel_rfl)
  refine' SE_list ?_
  exact SEs_nil
  refine' SXs_cons ?_ ?_
  refine' SX_if ?_ ?_ ?_
  refine' ST_cmp SCmp_isNot ?_ ?_; rotate_left 2
  exact SE_loc 2 (by kernel_rfl) (by decide)
  exact SE_none
  refine' SXs_cons ?_ ?_
  refine' SX_assign 2 ?_ (by kernel_rfl)
  refine' SE_methK 356 257 (by assumption) ?_ ?_ (c257 (by assumption) (lt_a hD rfl) (lt_a hU rfl)); rotate_left 2
  exact SE_loc 0 (by kernel_rfl) (by decide)
  exact SE_loc 2 (by kernel_rfl) (by decide)
  refine' SXs_cons ?_ ?_
  refine' SX_expr ?_ (by intro _; kernel_rfl)
  refine' SE_append ?_ ?_
  exact SE_loc 4 (by kernel_rfl) (by decide)
  exact SE_loc 2 (by kernel_rfl) (by decide)
  exact SXs_nil
  exact SXs_nil
  refine' SXs_cons ?_ ?_
  exact SX_items0 3 (by assumption) (by kernel_rfl) (by decide)
  refine' SXs_cons ?_ ?_
  refine' SX_expr ?_ (by intro _; kernel_rfl)
  refine' SE_append ?_ ?_
  refine' SE_attr 356 7 (by assumption) ?_; rotate_left 1
  exact SE_loc 0 (by kernel_rfl) (by decide)
  refine' SE_tup ?_
  refine' SEs_cons ?_ ?_
  refine' SE_methK 356 257 (by assumption) ?_ ?_ (c257 (by assumption) (lt_a hD rfl) (lt_a hU rfl)); rotate_left 2
  exact SE_loc 0 (by kernel_rfl) (by decide)
  exact SE_loc 1 (by kernel_rfl) (by decide)
  refine' SEs_cons ?_ ?_
  with_reducible refine' SE_strM "str.join" F.slot_str_join F.type_str_join (by assumption) ?_ ?_ (SCl_join (by assumption)) (hbase := by intro _; with_unfolding_all rfl) (hfew := by intro _; with_unfolding_all rfl) (hline := by with_unfolding_all rfl) (hpl := by intro _; with_unfolding_all rfl); rotate_left 2
  exact SE_str (by rfl)
  refine' SEs_cons ?_ ?_
  exact SE_loc 4 (by kernel_rfl) (by decide)
  exact SEs_nil
  exact SEs_nil
  exact SXs_nil⟩
theorem c353 {C : Cx} {D U : Nat} (ok : CxOk C) (hD : D < 469) (hU : U < 4677) : SFn C D U 353 (defW 353 3 7 d353.1) := SFn_defW ok do353 (lt_a hD rfl) (d353.2 C ok _ _ (lt_1 hD rfl) (lt_3 hU rfl))
end
end Mine
set_option genSizeOf false
set_option genInjectivity false
namespace Mine
noncomputable section
open PySem PySem.W PyProof.Rows PySem.Calls
set_option maxRecDepth 100000
set_option maxHeartbeats 0
section
variable {C : Cx} {D U : Nat} {Γ : FE}
noncomputable def modI (a b : V) : M V := fun σ => match a, b with
  | .int i, .int j => match decide (0 < j) with
    | true => some (.int (i.fmod j), σ)
    | false => none
  | _, _ => none
theorem SOp_modI : SOp C D U .Mod modI := fun a b wa wb μ ra rb A hA σ s r v σ' e Q E q => by
  unfold modI at e
  induction ra with
  | int i t =>
    induction rb with
    | int j u =>
      simp only at e
      split at e
      · rename_i hb
        have hb := of_decide_eq_true hb
        cases e; exact PyProof.Rows.mod_int (by omega) (q μ _ _ (List.prefix_refl _) (r.toks _ _ _ _ rfl rfl) (.int _ _))
      · (first | exact nn e | cases e)
    | _ => (first | exact nn e | cases e)
  | _ => (first | exact nn e | cases e)
end
theorem ok398 : GOk 398 := ⟨by kernel_rfl, by kernel_rfl, by kernel_rfl, by kernel_rfl, by decide⟩
theorem do398 : DefOk 398 2 5 [] := ⟨by intro _; kernel_rfl, by intro _; kernel_rfl, by kernel_rfl, by decide, by decide, by kernel_rfl, by kernel_rfl, by kernel_rfl, by kernel_rfl, by kernel_rfl, by
  intro p S ws h; exact ln2 ws h fun a b => by kernel_rfl⟩
noncomputable def d398 : {g : Nat → M VF // ∀ C, CxOk C → ∀ D U, D < 330 → U < 3870 → SXs C D U (GG 398 ok398) (bodyOf 398) g} := ⟨_, fun C ok D U hD hU => by
  refine' SXs_cons ?_ ?_
  refine' SX_assign 2 ?_ (by kernel_rfl)
  refine' SE_call (f := .ref 356) (by assumption) (by intro _; kernel_rfl) (keep_ref (by kernel_rfl)) ?_ (SCl_hd (by assumption) (lt_a hD rfl) (lt_a hU rfl)); rotate_left 1
  refine' SEs_cons ?_ ?_
  refine' SE_list ?_
  exact SEs_nil
  exact SEs_nil
  refine' SXs_cons ?_ ?_
  refine' SX_assign 3 ?_ (by kernel_rfl)
  exact SE_int
  refine' SXs_cons ?_ ?_
  refine' SX_for 100 ?_ ?_ ?_
  refine' SE_call (f := .type "range") (by assumption) (by intro _; kernel_rfl) (keep_type _) ?_ SCl_range2; rotate_left 1
  refine' SEs_cons ?_ ?_
  exact SE_int
  exact SEs_nil
  exact SAsg_name 4 (by kernel_rfl)
  refine' SXs_cons ?_ ?_
  refine' SX_assign 3 ?_ (by kernel_rfl)
  refine' SE_call (f := .ref 212) (by assumption) (by intro _; kernel_rfl) (keep_ref (by kernel_rfl)) ?_ (c212 (by assumption) (lt_a hD rfl) (lt_a hU rfl)); rotate_left 1
  refine' SEs_cons ?_ ?_
  with_reducible refine' SE_strM "str.encode" F.slot_str_encode F.type_str_encode (by assumption) ?_ ?_ (SCl_encode (by assumption)) (hbase := by intro _; with_unfolding_all rfl) (hfew := by intro _; with_unfolding_all rfl) (hline := by with_unfolding_all rfl) (hpl := by intro _; with_unfolding_all rfl); rotate_left 2
  refine' SE_sub2 (by assumption) ?_ ?_; rotate_left 2
  exact SE_loc 0 (by kernel_rfl) (by decide)
  exact SE_loc 4 (by kernel_rfl) (by decide)
  refine' SEs_cons ?_ ?_
  exact SE_str (by rfl)
  exact SEs_nil
  refine' SEs_cons ?_ ?_
  exact SE_loc 3 (by kernel_rfl) (by decide)
  exact SEs_nil
  refine' SXs_cons ?_ ?_
  refine' SX_expr ?_ (by intro _; kernel_rfl)
  refine' SE_meth 356 353 (by assumption) ?_ ?_ (c353 (by assumption) (lt_a hD rfl) (lt_a hU rfl)) (hev := fun _ _ _ _ _ h => evA rfl h); rotate_left 2
  exact SE_loc 2 (by kernel_rfl) (by decide)
  refine' SEs_cons ?_ ?_
  refine' SE_call (f := .builtin "chr") (by assumption) (by intro _; kernel_rfl) (keep_bi _) ?_ SCl_chr; rotate_left 1
  refine' SEs_cons ?_ ?_
  refine' SE_bin (SOp_add (by assumption)) ?_ ?_; rotate_left 2
  refine' SE_sub2 (by assumption) ?_ ?_; rotate_left 2
  refine' SE_tup ?_
  refine' SEs_cons ?_ ?_
  exact SE_int
  refine' SEs_cons ?_ ?_
  exact SE_int
  exact SEs_nil
  refine' SE_bin SOp_modI ?_ ?_; rotate_left 2
  exact SE_loc 4 (by kernel_rfl) (by decide)
  exact SE_int
  exact SE_loc 3 (by kernel_rfl) (by decide)
  exact SEs_nil
  refine' SEs_cons ?_ ?_
  refine' SE_sub2 (by assumption) ?_ ?_; rotate_left 2
  exact SE_loc 1 (by kernel_rfl) (by decide)
  exact SE_loc 4 (by kernel_rfl) (by decide)
  exact SEs_nil
  exact SXs_nil
  refine' SXs_cons ?_ ?_
  refine' SX_ret ?_
  refine' SE_tup ?_
  refine' SEs_cons ?_ ?_
  exact SE_loc 2 (by kernel_rfl) (by decide)
  refine' SEs_cons ?_ ?_
  refine' SE_call (f := .ref 212) (by assumption) (by intro _; kernel_rfl) (keep_ref (by kernel_rfl)) ?_ (c212 (by assumption) (lt_a hD rfl) (lt_a hU rfl)); rotate_left 1
  refine' SEs_cons ?_ ?_
  with_reducible refine' SE_strM "str.encode" F.slot_str_encode F.type_str_encode (by assumption) ?_ ?_ (SCl_encode (by assumption)) (hbase := by intro _; with_unfolding_all rfl) (hfew := by intro _; with_unfolding_all rfl) (hline := by with_unfolding_all rfl) (hpl := by intro _; with_unfolding_all rfl); rotate_left 2
  refine' SE_sub2 (by assumption) ?_ ?_; rotate_left 2
  exact SE_loc 0 (by kernel_rfl) (by decide)
  exact SE_int
  refine' SEs_cons ?_ ?_
  exact SE_str (by rfl)
  exact SEs_nil
  refine' SEs_cons ?_ ?_
  exact SE_loc 3 (by kernel_rfl) (by decide)
  exact SEs_nil
  exact SEs_nil
  exact SXs_nil⟩
theorem c398 {C : Cx} {D U : Nat} (ok : CxOk C) (hD : D < 329) (hU : U < 3867) : SFn C D U 398 (defD 398 2 5 [] d398.1) := SFn_def2 ok (fun _ => .nil) do398 (lt_a hD rfl) (d398.2 C ok _ _ (lt_1 hD rfl) (lt_3 hU rfl))
end
end Mine
set_option genSizeOf false
set_option genInjectivity false
namespace Mine
noncomputable section
open PySem PySem.W PyProof.Rows PySem.Calls
set_option maxRecDepth 100000
set_option maxHeartbeats 0
/-! a heap less one address -/
noncomputable def hide (h : Heap) (a : Addr) : Heap := ⟨h.objs.setIfInBounds a ⟨.none, none, .freed, #[]⟩, h.life⟩
theorem get_hide (h : Heap) (a b : Addr) : (hide h a).get? b = if b = a then none else h.get? b := by
  unfold hide Heap.get?
  dsimp only
  by_cases e : b = a
  · subst e
    refine rwG (if_pos rfl) ?_
    by_cases hb : b < h.objs.size
    · rw [Array.getElem?_setIfInBounds_self_of_lt hb]
    · rw [Array.getElem?_eq_none (by rw [Array.size_setIfInBounds]; exact Nat.le_of_not_lt hb)]
  · rw [if_neg e, Array.getElem?_setIfInBounds_ne (fun z => e z.symm)]
noncomputable def hideT (h : Heap) : Heap := hide (hide h 157) 164
theorem get_hideT (h : Heap) (b : Addr) : (hideT h).get? b = if b ∈ tabs then none else h.get? b := by
  unfold hideT
  rw [get_hide, get_hide]
  by_cases h1 : b = 164
  · subst h1; simp [tabs]
  · by_cases h2 : b = 157
    · subst h2; simp [tabs]
    · simp [tabs, h1, h2]
section
variable {C : Cx} {D U : Nat} {Γ : FE} {μ : List Addr} {σ : St} {s s' : Shared}
/-- the same world over what the heap holds now -/
noncomputable def Cx.now (C : Cx) (h : Heap) : Cx := { C with h := hideT h }
theorem now_cls {k j : Nat} {h : Heap} (cl : Cls C k j) : Cls (C.now h) k j := ⟨cl.lt, cl.l, cl.c, cl.t, cl.q, cl.x0, cl.x1, cl.x2, cl.n0, cl.n1⟩
theorem now_str {h : Heap} (x : List At) : (C.now h).str x = C.str x := by
  induction x with
  | nil => rfl
  | cons a x ih =>
    show (C.now h).atS a ++ (C.now h).str x = C.atS a ++ C.str x
    refine rwG (ih) ?_
    cases a <;> rfl
theorem now_ok (ok : CxOk C) (r : Rel C μ σ s) : CxOk (C.now s.heap) := by
  have sub : ∀ b o, C.h.get? b = some o → (hideT s.heap).get? b = some o := fun b o e => by
    rw [get_hideT, if_neg]
    · exact r.old b o e
    · intro ht
      rw [(r.tab b ht).1] at e
      (first | (have q := qc e q) | (have q := qcB e q) | cases e)
  refine ⟨fun k hk => let ⟨j, cl⟩ := ok.cls k hk; ⟨j, now_cls cl⟩, ?_, ok.lim.keeps sub, ok.lab, ok.asc⟩
  · intro a o e
    exact sub a o (ok.K a o e)
theorem now_rel (r : Rel C μ σ s) (μ' : List Addr) : Rel (C.now s.heap) μ' ⟨μ'.length, .nil⟩ s := by
  refine ⟨rfl, fun i vo e => ?_, fun i j vo vo' a e => ?_, fun b o e => ?_, fun t ht => ⟨?_, (r.tab t ht).2⟩, r.bare, r.os⟩
  · have : (Tr.nil : Tr VO).get i = some vo := e
    rw [Tr.get_nil] at this
    cases this
  · have : (Tr.nil : Tr VO).get i = some vo := e
    rw [Tr.get_nil] at this
    cases this
  · have e : (hideT s.heap).get? b = some o := e
    rw [get_hideT] at e
    split at e
    · (first | exact nn e | cases e)
    · exact e
  · show (hideT s.heap).get? t = none
    rw [get_hideT, if_pos ht]
theorem now_back (r : Rel C μ σ s) {μ' : List Addr} {σ' : St} (r' : Rel (C.now s.heap) μ' σ' s') : Rel C μ σ s' := by
  have keep : ∀ b o, b ∉ tabs → s.heap.get? b = some o → s'.heap.get? b = some o := fun b o hb e => by
    refine r'.old b o ?_
    show (hideT s.heap).get? b = some o
    rw [get_hideT, if_neg hb]
    exact e
  refine ⟨r.len, fun i vo e l => ?_, r.inj, fun b o e => keep b o (fun ht => by rw [(r.tab b ht).1] at e; cases e) (r.old b o e), fun t ht => ⟨(r.tab t ht).1, (r'.tab t ht).2⟩, r'.bare, r'.os⟩
  obtain ⟨a, o, e1, e2, e3, e4, e5⟩ := r.obj i vo e l
  exact ⟨a, o, e1, keep a o e5 e2, e3, e4, e5⟩
/-- a value that names no object -/
noncomputable def imm : V → Bool
  | .ref _ => false
  | _ => true
theorem now_rv {h : Heap} {μ' : List Addr} {v : V} {w : Value} (hv : imm v = true) (r : RV (C.now h) μ' v w) : RV C μ v w := by
  induction r with
  | none => exact .none
  | bool b => exact .bool b
  | int i t => exact .int i t
  | str x t =>
    have : (C.now h).str x = C.str x := now_str x
    refine rwG (this) ?_
    exact .str x t
  | byt x t =>
    have : (C.now h).str x = C.str x := now_str x
    have : (C.now h).byt x = C.byt x := by unfold Cx.byt; rw [this]
    refine rwG (this) ?_
    exact .byt x t
  | tn k t => exact .tn k t
  | ln x t =>
    have : (C.now h).str x = C.str x := now_str x
    refine rwG (this) ?_
    exact .ln x t
  | ref n a e => (first | exact nn hv | cases hv)
  | old a => exact .old a
  | txt k t => exact .txt k t
  | nm k t => exact .nm k t
theorem rv_now {h : Heap} {μ' : List Addr} {v : V} {w : Value} (hv : imm v = true) (r : RV C μ v w) : RV (C.now h) μ' v w := by
  have str : ∀ x, (C.now h).str x = C.str x := fun x => now_str x
  induction r with
  | none => exact .none
  | bool b => exact .bool b
  | int i t => exact .int i t
  | str x t => rw [← str x]; exact .str x t
  | byt x t => rw [show C.byt x = (C.now h).byt x by unfold Cx.byt; rw [str x]]; exact .byt x t
  | tn k t => exact .tn k t
  | ln x t => rw [← str x]; exact .ln x t
  | ref n a e => (first | exact nn hv | cases hv)
  | old a => exact .old a
  | txt k t => exact .txt k t
  | nm k t => exact .nm k t
/-- a text told by its class -/
theorem rv_txt {x : List Nat} {k : Nat} {μ' : List Addr} {w : Value} (e : C.tx k = ⟨x.toArray⟩) (r : RV C μ' (.str (x.map .ch)) w) : RV C μ (.txt k) w := by
  refine RV.eStr r fun t => ?_
  ·
    rw [Cx_str_chs, ← e]
    exact .txt k t
theorem rv_lab {x : List Nat} {k : Nat} {μ' : List Addr} {w : Value} (e : C.l k = ⟨x.toArray⟩) (r : RV C μ' (.str (x.map .ch)) w) : RV C μ (.str [.lab k]) w := by
  refine RV.eStr r fun t => ?_
  ·
    have : C.str [.lab k] = C.l k := by
      show C.l k ++ (⟨#[]⟩ : Str) = _
      exact Str.ext' (by simp [Str.cps_append])
    rw [Cx_str_chs, ← e, ← this]
    exact .str _ t
/-- a call whose words name no object, in a world of its own -/
theorem own_call {f : Value} {vs : List V} {ws : List Value} {fn : List V → M V} {b : V} {σ' : St} (ok : CxOk C) (hf : ∀ C', CxOk C' → (∀ k j, Cls C k j → Cls C' k j) → ∀ ws', RVs C' [] vs ws' → Snd C' D U (RV C') (call f ws') (fn vs) [])
    (hv : vs.all imm = true) (hb : imm b = true) (he : fn vs ⟨0, .nil⟩ = some (b, σ')) (rv : RVs C μ vs ws) {A : Around} (hA : AOk D U A) (r : Rel C μ σ s) {Q : Value → Shared → Prop} {E : Value → Shared → Prop}
    (q : ∀ s' w, Rel C μ σ s' → (∀ μ, RV C μ b w) → Q w s') : wpAny (model P C.w) A (call f ws) Q E s := by
  have rvs : ∀ (vs : List V) (ws : List Value), RVs C μ vs ws → vs.all imm = true → RVs (C.now s.heap) [] vs ws := by
    intro vs ws rv
    induction rv with
    | nil => intro _; exact .nil
    | cons h t ih =>
      intro hv
      rw [List.all_cons, Bool.and_eq_true] at hv
      exact .cons (rv_now hv.1 h) (ih hv.2)
  refine hf (C.now s.heap) (now_ok ok r) (fun k j => now_cls) ws (rvs vs ws rv hv) A hA ⟨0, .nil⟩ s (now_rel r []) b σ' he Q E fun μ' s' w _ r' rw' => q s' w (now_back r r') fun μ => now_rv hb rw'
end
end
end Mine
set_option genSizeOf false
set_option genInjectivity false
namespace Mine
noncomputable section
open PySem PySem.W PyProof.Rows PySem.Calls Builtin Builtin.Str
set_option maxRecDepth 100000
set_option maxHeartbeats 0
section
variable {C : Cx} {D U : Nat} {Γ : FE}
theorem wpAny_replaceP {w : World} {A : Around} {E : Value → Shared → Prop} {s : Shared} {x y z : Str} {t u v : Tok} {Q : Value → Shared → Prop} (hu : u ≠ 0) (hv : v ≠ 0) (huv : u ≠ v) (hyz : (y == z) = false) (hx : x.length ≤ 1048576) (hz : z.length ≤ 14)
    (hq : ∀ t' k, s.toks ≤ k → Q (.str (Txt.replace x y z) t') { s with toks := k }) : wpAny (model P w) A (call (.builtin "str.replace") [.str x t, .str y u, .str z v]) Q E s := by
  have h1 : (x.length + 1) * z.length ≤ (x.length + 1) * 14 := Nat.mul_le_mul_left _ hz
  have hb : x.length + (x.length + 1) * z.length ≤ 16777216 := by omega
  have hl : tooLong (x.length + (occurrences x y 0 x.length (x.length + 1)).length * z.length) = false := by
    have h1 := StrLaws.occ_length_le x y 0 x.length (x.length + 1)
    have h2 : (occurrences x y 0 x.length (x.length + 1)).length * z.length ≤ (x.length + 1) * z.length := Nat.mul_le_mul_right _ h1
    unfold tooLong
    rw [sizeLine_eq]
    exact decide_eq_false (by omega)
  refine call_gives F.slot_str_replace (typeIs_str _ _ _) F.entry_str_replace (F.args_str_replace_3 _ _ _)
    (gives_str_replace x y z t u v fun _ => ⟨by simp [hu, hv], by simp [huv], hyz, hl⟩) ?_
  unfold Txt.replace at hq
  cases hc : ((occurrences x y 0 x.length (x.length + 1)).isEmpty || (y.length == 0 && z.length == 0))
  · rw [hc] at hq
    exact ⟨fits_replaced y hb, hq _ _ (Nat.le_succ _)⟩
  · rw [hc] at hq
    exact hq t s.toks (Nat.le_refl _)
end
end
end Mine
set_option genSizeOf false
set_option genInjectivity false
namespace Mine
noncomputable section
open PySem PySem.W PyProof.Rows PySem.Calls
set_option maxRecDepth 100000
set_option maxHeartbeats 0
section
variable {C : Cx} {D U : Nat} {Γ : FE}
theorem replE {A : Around} {E : Value → Shared → Prop} {s : Shared} {o : Expr} {apos pos pa pb : Pos} {ka kb : Nat} {ya yb : Str} {env : Env} {Q : Value → Shared → Prop}
    (hne : (ya == yb) = false) (hyb : yb.length ≤ 14)
    (ho : wpAny (model P C.w) A (eval o env) (fun w s' => ∃ x t, w = .str x t ∧ 0 < s'.toks ∧ (KF C.w.params).In s'.heap ∧ x.length ≤ 1048576 ∧ ∀ t' k, s'.toks ≤ k → Q (.str (Txt.replace x ya yb) t') { s' with toks := k }) E s)
    (hbase : autoParam (attributeBase o "replace" env (eval o env) = eval o env) au2._auto_1) (hline : autoParam ((apos.endLine == pos.line) = true) au2._auto_1) :
    wpAny (model P C.w) A (eval (.Call (.Attribute o "replace" apos) [.Constant (.str ya) ka pa, .Constant (.str yb) kb pb] [] pos) env) Q E s := by
  refine wpAny_Call_method_lateS hbase rfl hline (wpAny_mono ho (fun w s' h => ?_) fun _ _ h => h)
  obtain ⟨x, t, rfl, hp, K, hx, hq⟩ := h
  refine ⟨"str", "str.replace", F.plainAttrs_str, F.slot_str_replace, F.type_str_replace, typeIs_str _ _ _, (fun _ e => nomatch e), ?_⟩
  refine callWith_of (P := fun h => (KF C.w.params).In h) rfl (keep_bi _) (evA rfl ?_)
  refine spliced_cons (wpAny_Constant_str (k := ka) (pos := pa) (spliced_cons (wpAny_Constant_str (k := kb) (pos := pb) (spliced_nil ⟨K, ?_⟩))))
  refine wpAny_replaceP (Nat.ne_of_gt hp) (Nat.succ_ne_zero _) (Nat.ne_of_lt (Nat.lt_succ_self _)) hne hx hyb fun t' k hk => ?_
  exact hq t' k (Nat.le_trans (Nat.le_succ _) (Nat.le_trans (Nat.le_succ _) hk))
theorem locE {x : Str} {pos : Pos} {i l : Nat} {L : Addr} {μ : List Addr} {σ : St} {s : Shared} {v : V × St} (r : Rel C μ σ s) (hl : μ[l]? = some L) (hi : (tabN Γ.tag)[i]? = some x) (hd : (x == ("__debug__" : Str)) = false) (e : locGet Γ.tag i l σ = some v) :
    ∃ w, RV C μ v.1 w ∧ v.2 = σ ∧ ∀ (A : Around) (Q : Value → Shared → Prop) (E : Value → Shared → Prop), Q w s → wpAny (model P C.w) A (eval (.Name x pos) (Γ.env L)) Q E s := by
  obtain ⟨vs, e1, e2, e3⟩ := locGet_some e
  obtain ⟨o, ho, hr⟩ := r.at e1 hl
  obtain ⟨m, hn, _, hm⟩ := ns_of ho hr
  obtain ⟨w, hw, rv⟩ := hm.get hi e2
  exact ⟨w, rv, e3, fun A Q E q => wpAny_Name (wpAny_loadName_local (Γ.fn L) (Γ.knd L x (List.mem_of_getElem? hi)) (m := m) (v := w) (by rw [Γ.loc L]; exact hn) hw q) hd⟩
/-- judgements of a state whose tokens have begun -/
noncomputable def SXP (C : Cx) (D U : Nat) (Γ : FE) (st : Stmt) (f : Nat → M VF) : Prop := ∀ l L μ, Γ.ok μ → μ[l]? = some L → ∀ A, AOk D U A → ∀ σ s, Rel C μ σ s → 0 < s.toks → ∀ b σ', f l σ = some (b, σ') →
  ∀ (Q : Flow → Shared → Prop) (E : Value → Shared → Prop), (∀ μ' s' a, μ <+: μ' → Rel C μ' σ' s' → FR C μ' b a → Q a s') → wpAny (model P C.w) A (exec st (Γ.env L)) Q E s
noncomputable def SXsP (C : Cx) (D U : Nat) (Γ : FE) (st : List Stmt) (f : Nat → M VF) : Prop := ∀ l L μ, Γ.ok μ → μ[l]? = some L → ∀ A, AOk D U A → ∀ σ s, Rel C μ σ s → 0 < s.toks → ∀ b σ', f l σ = some (b, σ') →
  ∀ (Q : Flow → Shared → Prop) (E : Value → Shared → Prop), (∀ μ' s' a, μ <+: μ' → Rel C μ' σ' s' → FR C μ' b a → Q a s') → wpAny (model P C.w) A (execs st (Γ.env L)) Q E s
theorem SXsP_cons {st : Stmt} {rest : List Stmt} {f g : Nat → M VF} (hf : SXP C D U Γ st f) (hg : SXs C D U Γ rest g) :
    SXsP C D U Γ (st :: rest) (fun l => bnd (f l) fun x => match x with | .next => g l | y => ret y) := fun l L μ hok hl A hA σ s r ht b σ' e Q E k => by
  refine bnd_e e fun x σ₁ e1 e2 => ?_
  refine wpAny_execs_cons (hf l L μ hok hl A hA σ s r ht x σ₁ e1 _ E fun μ' s' a hp r' ha => ?_)
  induction ha with
  | next => exact hg l L μ' (Γ.mono hp hok) (mu_ext hp hl) A hA σ₁ s' r' b σ' e2 Q E fun μ'' s'' a' hp' => k μ'' s'' a' (List.IsPrefix.trans hp hp')
  | brk => have k := qc e2 k; exact k μ' s' .brk hp r' .brk
  | cont => have k := qc e2 k; exact k μ' s' .cont hp r' .cont
  | ret h => have k := qc e2 k; exact k μ' s' _ hp r' (.ret h)
theorem SXsP_of {st : List Stmt} {f : Nat → M VF} (h : SXs C D U Γ st f) : SXsP C D U Γ st f := fun l L μ hok hl A hA σ s r _ => h l L μ hok hl A hA σ s r
/-- replaced twice, and stored -/
noncomputable def rp (x y z : List Nat) : List Nat := (Txt.replace ⟨x.toArray⟩ ⟨y.toArray⟩ ⟨z.toArray⟩).cps.toList
theorem rp_eq (x y z : List Nat) : Txt.replace ⟨x.toArray⟩ ⟨y.toArray⟩ ⟨z.toArray⟩ = ⟨(rp x y z).toArray⟩ := Str.ext' (by simp [rp])
noncomputable def repl2 (i : Nat) (t : Nat) (a b c d : List Nat) (l : Nat) : M V := fun σ => match locGet t i l σ with
  | some (v, _) => match v with
    | .str x => match chsOf x with
      | some cs => match Nat.ble cs.length 100 && Nat.ble (rp cs a b).length 1000 with
        | true => some (.str ((rp (rp cs a b) c d).map .ch), σ)
        | false => none
      | none => none
    | _ => none
  | none => none
theorem SXP_repl2 {x : Str} {px p0 p1 p2 p3 p4 p5 pa pb pc pd pos : Pos} {ka kb kc kd : Nat} {a b c d : List Nat} (i : Nat) (ok : CxOk C) (hi : (tabN Γ.tag)[i]? = some x) (hx : (x == ("__debug__" : Str)) = false)
    (h1 : ((⟨a.toArray⟩ : Str) == ⟨b.toArray⟩) = false) (h2 : ((⟨c.toArray⟩ : Str) == ⟨d.toArray⟩) = false) (hb : b.length ≤ 14) (hd : d.length ≤ 14)
    (hl1 : autoParam ((p1.endLine == p2.line) = true) au2._auto_1) (hl2 : autoParam ((p3.endLine == p4.line) = true) au2._auto_1)
    (hs : autoParam (∀ L, swapsWith (.Call (.Attribute (.Call (.Attribute (.Name x p0) "replace" p1) [.Constant (.str ⟨a.toArray⟩) ka pa, .Constant (.str ⟨b.toArray⟩) kb pb] [] p2) "replace" p3) [.Constant (.str ⟨c.toArray⟩) kc pc, .Constant (.str ⟨d.toArray⟩) kd pd] [] p4) (some (.Name x px)) pos.line (Γ.env L) = pure false) au1._auto_1) :
    SXP C D U Γ (.Assign [.Name x px] (.Call (.Attribute (.Call (.Attribute (.Name x p0) "replace" p1) [.Constant (.str ⟨a.toArray⟩) ka pa, .Constant (.str ⟨b.toArray⟩) kb pb] [] p2) "replace" p3) [.Constant (.str ⟨c.toArray⟩) kc pc, .Constant (.str ⟨d.toArray⟩) kd pd] [] p4) pos)
      (fun l => bnd (repl2 i Γ.tag a b c d l) fun v => bnd (locSet Γ.tag i l v) fun _ => ret .next) := fun l L μ hok hl A hA σ s r ht b' σ' e Q E q => by
  refine bnd_e e fun v σ₁ e1 e2 => ?_
  refine bnd_e e2 fun _ σ₂ e3 e4 => ?_
  have q := qc e4 q
  unfold repl2 at e1
  split at e1
  · rename_i v0 σ0 eg
    split at e1
    · rename_i y
      split at e1
      · rename_i cs hcs
        split at e1
        · rename_i hb2
          cases e1
          rw [Bool.and_eq_true] at hb2
          have hb3 := Nat.le_of_ble_eq_true hb2.1
          have hb4 := Nat.le_of_ble_eq_true hb2.2
          refine wpAny_Assign_Name (replE h2 hd (replE h1 hb ?_ (hline := hl1)) (hline := hl2)) (hs L)
          obtain ⟨w, rv, rfl, hw⟩ := locE (pos := p0) r hl hi hx eg
          refine hw _ _ _ ?_
          refine RV.eStr rv fun t => ?_
          rw [chsOf_map hcs, Cx_str_chs]
          refine ⟨_, t, rfl, ht, r.K ok, by show cs.length ≤ _; omega, fun t' k hk => ?_⟩
          rw [rp_eq]
          refine ⟨_, t', rfl, Nat.lt_of_lt_of_le ht hk, r.K ok, by show (rp cs a b).length ≤ _; omega, fun t'' k' _ => ?_⟩
          rw [rp_eq]
          have r2 : Rel C μ σ0 { s with toks := k' } := r.toks s.heap s.gens s.drawn k' rfl rfl
          have rv2 : RV C μ (.str ((rp (rp cs a b) c d).map .ch)) (.str ⟨(rp (rp cs a b) c d).toArray⟩ t'') := by
            have := RV.str (C := C) (μ := μ) ((rp (rp cs a b) c d).map .ch) t''
            rw [Cx_str_chs] at this
            exact this
          exact store_loc hi hl rv2 A hA σ0 _ r2 () _ e3 _ E fun μ'' s'' _ hp' r'' _ => q μ'' s'' .next hp' r'' .next
        · exact nn e1
      · exact nn e1
    · exact nn e1
  · exact nn e1
end
end
end Mine
set_option genSizeOf false
set_option genInjectivity false
namespace Mine
noncomputable section
open PySem PySem.W PyProof.Rows PySem.Calls PySem.Builtin PySem.Builtin.Re PySem.Builtin._codecs
set_option maxRecDepth 100000
set_option maxHeartbeats 0
noncomputable def code217 : List Nat := [14, 14, 4, 1, 1, 9, 0, 4227896069, 939524097, 0, 0, 0, 0, 0, 0, 13, 11, 9, 0, 4227896069, 939524097, 0, 0, 0, 0, 0, 0, 1]
theorem re217 (p : Params) : reIn (KF p) 217 code217 0 := ⟨⟨fget p 217 0, fget p 217 1, fget p 217 3, fget p 217 4, 216, 0, 0, by kernel_rfl, oget p 216, sget p 216, sgetN p 216, by kernel_rfl, by kernel_rfl, by kernel_rfl⟩⟩
noncomputable def seenB (code : List Nat) (x : List Nat) : Bool := match driveM 1000 (Sre.forSearch code.toArray x.toArray 0 0 x.length false) with
  | some m => match m.outcome with
    | some .matched => true
    | _ => false
  | none => false
theorem seenB_some {code x : List Nat} (h : seenB code x = true) : ∃ m, driveM 1000 (Sre.forSearch code.toArray x.toArray 0 0 x.length false) = some m ∧ m.outcome = some .matched := by
  unfold seenB at h
  split at h
  · rename_i m e
    refine ⟨m, e, ?_⟩
    split at h
    · assumption
    · exact absurd h Bool.false_ne_true
  · exact absurd h Bool.false_ne_true
section
variable {w : World} {A : Around} {E : Value → Shared → Prop} {s : Shared}
theorem truthy_match {M : Model} {a : Addr} {Q : Bool → Shared → Prop} (hT : s.TypeIs (.ref a) "re.Match") (q : Q true s) : wpAny M A (truthy (.ref a)) Q E s := by
  unfold truthy callSpecial?
  refine wpAny_bind (wpAny_bind (wpAny_specialOf hT (r := none) (by rw [typeLookup_type, builtinLookup_eq_fast]; kernel_rfl) (wpAny_pure ?_)))
  refine wpAny_bind (wpAny_specialOf hT (r := none) (by rw [typeLookup_type, builtinLookup_eq_fast]; kernel_rfl) ?_)
  exact wpAny_pure q
theorem search_hit {pt : Addr} {code : List Nat} (hre : ReAt s.heap pt code 0) {x : Str} {t : Tok} {m' : Sre.M} (hx : x.cps.size ≤ 1000)
    (hrun : driveM 1000 (Sre.forSearch code.toArray x.cps 0 0 x.cps.size false) = some m') (hf : m'.outcome = some .matched) {Q : Value → Shared → Prop}
    (q : ∀ h' a o, (∀ b o, s.heap.get? b = some o → h'.get? b = some o) → h'.get? a = some o → o.cls = .type "re.Match" → Q (.ref a) { s with heap := h' }) :
    wpAny (model P w) A (call (.builtin "re.Pattern.search") [.ref pt, .str x t]) Q E s := by
  obtain ⟨a0, a1, a3, a4, ct, tk, tk2, hp, o, xs, n, hc, hd, hcode⟩ := hre.ex
  refine wpAny_call_entry slot_search ⟨_, hp, rfl⟩ entry_search ?_ (args_search _ _)
  unfold Builtin.«re.Pattern.search» reTarget
  refine wpAny_bind ?_
  show wpAny _ _ (reNamed "re.Pattern.search" "search" ["string", "pos", "endpos"] 1 [.str x t] [] >>= _) _ _ _
  rw [named_search]
  refine wpAny_bind (wpAny_pure ?_)
  dsimp only
  refine wpAny_bind (wpAny_pure (wpAny_bind (wpAny_pure ?_)))
  refine wpAny_bind ?_
  unfold fieldsOf
  refine wpAny_bind (wpAny_load hp (wpAny_pure ?_))
  refine wpAny_bind ?_
  unfold reTextOf asStr?
  refine wpAny_bind (wpAny_pure (wpAny_pure ?_))
  dsimp only
  refine wite_n (by show ¬ (((0 : Nat) == 0 && (0 : Nat) == 1) = true); decide) ?_; refine wite_n (by show ¬ (((0 : Nat) == 1 && (0 : Nat) == 0) = true); decide) ?_
  unfold reNoCollectionInside
  refine wpAny_bind ?_
  refine wite_n (by decide) ?_
  refine wpAny_pure ?_
  show wpAny _ _ (reRawItems (.ref ct) >>= _) _ _ _
  refine wpAny_bind (wpAny_rawItems hc hd ?_)
  refine rwG (hcode) ?_
  refine wpAny_pure ?_
  unfold reAnswer
  dsimp only
  have e1 : min (0 : Int).toNat x.cps.size = 0 := by simp
  have e2 : min (2 ^ 63 - 1 : Int).toNat x.cps.size = x.cps.size := by
    apply Nat.min_eq_right
    have : (2 ^ 63 - 1 : Int).toNat = 2 ^ 63 - 1 := by decide
    omega
  refine rwG (e1) ?_; refine rwG (e2) ?_
  refine wpAny_bind (wpAny_toEnd hrun (.inl ⟨hf, rfl⟩) ?_)
  dsimp only
  unfold reNewMatch
  refine wpAny_bind ?_
  refine wite_n (by show ¬ ((List.range 0).any _ = true); exact Bool.false_ne_true) ?_
  unfold newTuple newFields
  refine wpAny_bind (wpAny_newObj_type ?_ (by show 2 ≤ sizeLine; rw [sizeLine_eq]; decide))
  refine wpAny_newObj_type ?_ (by show 6 ≤ sizeLine + 2; rw [sizeLine_eq]; decide)
  refine wpAny_pure ⟨_, rfl, ?_⟩
  exact q _ _ _ (fun b o e => Heap.get?_push_of_some _ (Heap.get?_push_of_some _ e)) (Heap.get?_push_size _ rfl) rfl
end
end
end Mine
set_option genSizeOf false
set_option genInjectivity false
namespace Mine
noncomputable section
open PySem PySem.W PyProof.Rows PySem.Calls
set_option maxRecDepth 100000
set_option maxHeartbeats 0
section
variable {C : Cx} {D U : Nat} {Γ : FE}
noncomputable def chsV (v : V) : Option (List Nat) := match v with
  | .str x => chsOf x
  | _ => none
theorem chsV_some {v : V} {cs : List Nat} (h : chsV v = some cs) : v = .str (cs.map .ch) := by
  cases v <;> first | exact nn h | exact congrArg V.str (chsOf_map h)
noncomputable def locChs (t i l : Nat) (σ : St) : Option (List Nat) := match locGet t i l σ with
  | some p => chsV p.1
  | none => none
theorem locChs_some {t i l : Nat} {σ : St} {cs : List Nat} (h : locChs t i l σ = some cs) : locGet t i l σ = some (.str (cs.map .ch), σ) := by
  unfold locChs at h
  split at h
  · rename_i p e
    obtain ⟨vs, _, _, e3⟩ := locGet_some e
    rw [e, ← chsV_some h, ← e3]
  · exact nn h
noncomputable def intO (v : V) : Option Int := match v with
  | .int i => some i
  | _ => none
theorem intO_some {v : V} {i : Int} (h : intO v = some i) : v = .int i := by
  cases v <;> first | exact nn h | (cases h; rfl)
noncomputable def locInt (t i l : Nat) (σ : St) : Option Int := match locGet t i l σ with
  | some p => intO p.1
  | none => none
theorem locInt_some {t i l : Nat} {σ : St} {n : Int} (h : locInt t i l σ = some n) : locGet t i l σ = some (.int n, σ) := by
  unfold locInt at h
  split at h
  · rename_i p e
    obtain ⟨vs, _, _, e3⟩ := locGet_some e
    rw [e, ← intO_some h, ← e3]
  · exact nn h
/-- what the search says of a text -/
noncomputable def lookB (cs : List Nat) : Option Bool := match Nat.ble cs.length 1000 with
  | true => match seenB code217 cs with
    | true => some true
    | false => match missB code217 cs with
      | true => some false
      | false => none
  | false => none
theorem lookB_some {cs : List Nat} {b : Bool} (h : lookB cs = some b) : cs.length ≤ 1000 ∧ ((b = true ∧ seenB code217 cs = true) ∨ (b = false ∧ missB code217 cs = true)) := by
  unfold lookB at h
  split at h
  · rename_i hl
    refine ⟨Nat.le_of_ble_eq_true hl, ?_⟩
    split at h
    · rename_i h1
      exact .inl ⟨(Option.some.inj h).symm, h1⟩
    · split at h
      · rename_i h2
        exact .inr ⟨(Option.some.inj h).symm, h2⟩
      · exact nn h
  · exact nn h
theorem look_call {A : Around} {E : Value → Shared → Prop} {s : Shared} {cs : List Nat} {b : Bool} {t : Tok} (K : (KF C.w.params).In s.heap) (hb : lookB cs = some b) {Q : Value → Shared → Prop}
    (q : ∀ h' v, (∀ b o, s.heap.get? b = some o → h'.get? b = some o) → (∀ (A : Around) (Q : Bool → Shared → Prop), Q b { s with heap := h' } → wpAny (model P C.w) A (truthy v) Q E { s with heap := h' }) → Q v { s with heap := h' }) :
    wpAny (model P C.w) A (call (.builtin "re.Pattern.search") [.ref 217, .str ⟨cs.toArray⟩ t]) Q E s := by
  obtain ⟨hl, ⟨rfl, hs⟩ | ⟨rfl, hm⟩⟩ := lookB_some hb
  · obtain ⟨m, e1, e2⟩ := seenB_some hs
    refine search_hit (reAt_of K (re217 _)) (x := ⟨cs.toArray⟩) hl e1 e2 fun h' a o k ho hc => ?_
    exact q h' (.ref a) k fun A Q q => truthy_match ⟨o, ho, hc⟩ q
  · obtain ⟨m, e1, e2⟩ := missB_some hm
    refine search_none (reAt_of K (re217 _)) (x := ⟨cs.toArray⟩) hl e1 e2 ?_
    exact q s.heap .none (fun _ _ e => e) fun A Q q => wpAny_pure q
noncomputable def qM (t iq iv l : Nat) : M Bool := fun σ => match locInt t iq l σ with
  | some n => match n != 0 with
    | true => some (true, σ)
    | false => match locChs t iv l σ with
      | some cs => match lookB cs with
        | some b => some (b, σ)
        | none => none
      | none => none
  | none => none
theorem SXP_orIf {qn vn : Str} {pq psp pa pv pc pb pos : Pos} {inner orelse : List Stmt} {gi go : Nat → M VF} (iq iv : Nat) (ok : CxOk C) (hiq : (tabN Γ.tag)[iq]? = some qn) (hiv : (tabN Γ.tag)[iv]? = some vn)
    (hdq : (qn == ("__debug__" : Str)) = false) (hdv : (vn == ("__debug__" : Str)) = false) (hn : ∀ L, peek (KF C.w.params) ⟨P, C.w.params⟩ (loadName (Γ.env L) "tspecials") = some (.ref 217))
    (hin : SXsP C D U Γ inner gi) (hor : SXs C D U Γ orelse go) (hline : autoParam ((pa.endLine == pc.line) = true) au2._auto_1) :
    SXP C D U Γ (.If (.BoolOp .Or [.Name qn pq, .Call (.Attribute (.Name "tspecials" psp) "search" pa) [.Name vn pv] [] pc] pb) inner orelse pos)
      (fun l => bnd (qM Γ.tag iq iv l) fun b => match b with | true => gi l | false => go l) := fun l L μ hok hl A hA σ s r ht b σ' e Q E q => by
  refine bnd_e e fun c σ₁ e1 e2 => ?_
  unfold qM at e1
  split at e1
  · rename_i n hn0
    obtain ⟨w, rv, _, hw⟩ := locE (pos := pq) r hl hiq hdq (locInt_some hn0)
    refine wpAny_If (wpAny_isTrue_BoolOp (wpAny_allTrue_Or_cons ?_))
    refine wpAny_isTrue_value (hw _ _ _ ?_) rfl
    refine RV.eInt rv fun t => ?_
    refine PyProof.Rows.truthy_int ?_
    split at e1
    · rename_i h0
      cases e1
      rw [h0]
      exact hin l L μ hok hl A hA _ s r ht b σ' e2 Q E q
    · rename_i h0
      rw [h0]
      split at e1
      · rename_i cs hcs
        split at e1
        · rename_i c' hb
          cases e1
          obtain ⟨w2, rv2, _, hw2⟩ := locE (pos := pv) r hl hiv hdv (locChs_some hcs)
          refine wpAny_allTrue_Or_cons ?_
          refine wpAny_isTrue_value (wpAny_Call_method_lateS rfl rfl hline ?_) rfl
          refine wpAny_Name ((Looks.of_peek (M := model P C.w) (r.K ok) (hn L)).here ?_) (by decide)
          obtain ⟨ob, hob, hcl, hdn⟩ := reTy (re217 C.w.params) (r.K ok)
          refine ⟨"re.Pattern", "re.Pattern.search", pa_re, slot_search, type_search, ⟨ob, hob, hcl⟩, (fun a e => by cases e; exact ⟨ob, hob, hdn⟩), ?_⟩
          refine callWith_of (P := fun h => (KF C.w.params).In h) rfl (keep_bi _) (evA rfl ?_)
          refine spliced_cons (hw2 _ _ _ (spliced_nil ⟨r.K ok, ?_⟩))
          refine RV.eStr rv2 fun t2 => ?_
          rw [Cx_str_chs]
          refine look_call (r.K ok) hb fun h' v k hv => hv _ _ ?_
          have r2 : Rel C μ _ { s with heap := h' } := r.grow k
          cases c with
          | true => exact hin l L μ hok hl A hA _ _ r2 ht b σ' e2 Q E q
          | false => exact wpAny_allTrue_Or_nil (hor l L μ hok hl A hA _ _ r2 b σ' e2 Q E q)
        · exact nn e1
      · exact nn e1
  · exact nn e1
end
end
end Mine
set_option genSizeOf false
set_option genInjectivity false
namespace Mine
noncomputable section
open PySem PySem.W PyProof.Rows PySem.Calls
set_option maxRecDepth 100000
set_option maxHeartbeats 0
section
variable {C : Cx} {D U : Nat} {Γ : FE}
noncomputable def lnO (v : V) : Option (List At) := match v with
  | .ln x => some x
  | _ => none
theorem lnO_some {v : V} {x : List At} (h : lnO v = some x) : v = .ln x := by
  cases v <;> first | exact nn h | (cases h; rfl)
noncomputable def lnP (v : V) : M Bool := fun σ => match lnO v with
  | some x => some (!x.isEmpty, σ)
  | none => none
theorem SX_ifLen {x el : Expr} {pos p1 p2 pk : Pos} {k : Nat} {inner orelse : List Stmt} {f1 : Nat → M Bool} {g : Nat → M V} {gi go : Nat → M VF} (ok : CxOk C) (h1 : STt C D U Γ x f1) (he : SE C D U Γ el g) (hin : SXsP C D U Γ inner gi) (hor : SXs C D U Γ orelse go)
    (hm : autoParam (behindInMarks .Gt (.Constant (.int 0) k pk) = false) au7._auto_1) :
    SX C D U Γ (.If (.BoolOp .And [x, .Compare el [.Gt] [.Constant (.int 0) k pk] p1] p2) inner orelse pos)
      (fun l => bnd (f1 l) fun b => match b with | true => bnd (g l) fun v => bnd (lnP v) fun c => (match c with | true => gi l | false => go l) | false => go l) := fun l L μ hok hl A hA σ s r b σ' e Q E q => by
  refine bnd_e e fun c σ₁ e1 e2 => ?_
  refine wpAny_If (wpAny_isTrue_BoolOp (wpAny_allTrue_And_cons (h1 l L μ hok hl A hA σ s r c σ₁ e1 _ E fun μ' s' c' hp r' hc => ?_)))
  have hc : c = c' := hc
  subst hc
  cases c with
  | false => exact hor l L μ' (Γ.mono hp hok) (mu_ext hp hl) A hA σ₁ s' r' b σ' e2 Q E fun μ'' s'' a' hp' => q μ'' s'' a' (List.IsPrefix.trans hp hp')
  | true =>
    refine bnd_e e2 fun v σ₂ e3 e4 => ?_
    refine bnd_e e4 fun d σ₃ e5 e6 => ?_
    refine wpAny_allTrue_And_cons (wpAny_isTrue_Compare1 (he l L μ' (Γ.mono hp hok) (mu_ext hp hl) A hA σ₁ s' r' v σ₂ e3 _ E fun μ'' s'' w hp' r'' rv => ?_) hm)
    unfold lnP at e5
    split at e5
    · rename_i y hy
      cases e5
      rw [lnO_some hy] at rv
      refine RV.eLn rv fun t => ?_
      refine wpAny_Constant_int (PyProof.Rows.gt_int (wpAny_truthy_bool ?_))
      have hpp := List.IsPrefix.trans hp hp'
      have r3 : Rel C μ'' _ { s'' with toks := s''.toks + 1 } := r''.toks s''.heap s''.gens s''.drawn _ rfl rfl
      have hdec : decide ((0 : Int) < ((C.str y).length : Nat)) = !y.isEmpty := by
        cases y with
        | nil => rfl
        | cons a y =>
          have := Cx_str_ge ok (a :: y)
          rw [List.length_cons] at this
          show decide _ = true
          rw [decide_eq_true_eq]
          omega
      rw [hdec]
      revert e6
      cases y.isEmpty with
      | true => intro e6; exact hor l L μ'' (Γ.mono hpp hok) (mu_ext hpp hl) A hA _ _ r3 b σ' e6 Q E fun μ₃ s₃ a' hp3 => q μ₃ s₃ a' (List.IsPrefix.trans hpp hp3)
      | false => intro e6; exact wpAny_allTrue_And_nil (hin l L μ'' (Γ.mono hpp hok) (mu_ext hpp hl) A hA _ _ r3 (Nat.succ_pos _) b σ' e6 Q E fun μ₃ s₃ a' hp3 => q μ₃ s₃ a' (List.IsPrefix.trans hpp hp3))
    · exact nn e5
end
end
end Mine
set_option genSizeOf false
set_option genInjectivity false
namespace Mine
noncomputable section
open PySem PySem.W PyProof.Rows PySem.Calls
set_option maxRecDepth 100000
set_option maxHeartbeats 0
section
variable {C : Cx} {D U : Nat} {Γ : FE}
/-! a text made of pieces -/
noncomputable def SJ (C : Cx) (D U : Nat) (Γ : FE) (es : List Expr) (f : Nat → St → Option (List Nat)) : Prop := ∀ l L μ, Γ.ok μ → μ[l]? = some L → ∀ A, AOk D U A → ∀ σ s, Rel C μ σ s → ∀ cs, f l σ = some cs → ∀ out : Str, out.length + es.length * 100 ≤ 1000 →
  ∀ (Q : Value → Shared → Prop) (E : Value → Shared → Prop), (∀ s' t, Rel C μ σ s' → Q (.str (out ++ (⟨cs.toArray⟩ : Str)) t) s') → wpAny (model P C.w) A (joinParts out (evalEach es (Γ.env L))) Q E s
theorem out_nil (out : Str) : out ++ (⟨([] : List Nat).toArray⟩ : Str) = out := Str.ext' (by simp [Str.cps_append])
theorem out_app (out : Str) (x y : List Nat) : out ++ (⟨x.toArray⟩ : Str) ++ (⟨y.toArray⟩ : Str) = out ++ (⟨(x ++ y).toArray⟩ : Str) := Str.ext' (by simp [Str.cps_append])
theorem SJ_nil : SJ C D U Γ [] (fun _ _ => some []) := fun l L μ hok hl A hA σ s r cs e out ho Q E q => by
  cases e
  refine joinParts_nil ?_ (by rw [sizeLine_eq]; simp at ho; omega)
  have := q { s with toks := s.toks + 1 } s.toks (r.toks s.heap s.gens s.drawn _ rfl rfl)
  rw [out_nil] at this
  exact this
theorem out_len (out : Str) (x : List Nat) : (out ++ (⟨x.toArray⟩ : Str)).length = out.length + x.length := by
  rw [strLen_append]; rfl
theorem ho_cons {α : Type} {a : α} {es : List α} {n m : Nat} (ho : n + (a :: es).length * 100 ≤ 1000) (h : m ≤ 100) : n + m ≤ sizeLine ∧ n + m + es.length * 100 ≤ 1000 := by
  rw [List.length_cons] at ho
  rw [sizeLine_eq]
  omega
noncomputable def catO (x : List Nat) (r : Option (List Nat)) : Option (List Nat) := match r with
  | some y => some (x ++ y)
  | none => none
theorem catO_some {x : List Nat} {r : Option (List Nat)} {z : List Nat} (h : catO x r = some z) : ∃ y, r = some y ∧ z = x ++ y := by
  cases r with
  | none => exact nn h
  | some y => cases h; exact ⟨y, rfl, rfl⟩
theorem SJ_const {x : Str} {k : Nat} {pos : Pos} {es : List Expr} {f : Nat → St → Option (List Nat)} (y : List Nat) (hx : x = ⟨y.toArray⟩) (hy : y.length ≤ 100) (h : SJ C D U Γ es f) : SJ C D U Γ (.Constant (.str x) k pos :: es) (fun l σ => catO y (f l σ)) := fun l L μ hok hl A hA σ s r cs e out ho Q E q => by
  subst hx
  obtain ⟨z, hz, rfl⟩ := catO_some e
  obtain ⟨h1, h2⟩ := ho_cons ho hy
  refine joinParts_cons (wpAny_Constant_str (k := k) (pos := pos) ⟨by rw [out_len]; exact h1, ?_⟩)
  refine h l L μ hok hl A hA σ _ (r.toks s.heap s.gens s.drawn _ rfl rfl) z hz _ (by rw [out_len]; exact h2) Q E fun s' t r' => ?_
  rw [out_app]
  exact q s' t r'
noncomputable def pcO (t i l : Nat) (σ : St) (r : Option (List Nat)) : Option (List Nat) := match locChs t i l σ with
  | some cs => match Nat.ble cs.length 100 with
    | true => catO cs r
    | false => none
  | none => none
theorem SJ_name {x : Str} {p pos : Pos} {es : List Expr} {f : Nat → St → Option (List Nat)} (i : Nat) (hi : (tabN Γ.tag)[i]? = some x) (hd : (x == ("__debug__" : Str)) = false) (h : SJ C D U Γ es f) :
    SJ C D U Γ (.FormattedValue (.Name x p) 115 none pos :: es) (fun l σ => pcO Γ.tag i l σ (f l σ)) := fun l L μ hok hl A hA σ s r cs e out ho Q E q => by
  replace e : pcO Γ.tag i l σ (f l σ) = some cs := e
  unfold pcO at e
  split at e
  · rename_i ys hys
    split at e
    · rename_i hb
      obtain ⟨z, hz, rfl⟩ := catO_some e
      have hy := Nat.le_of_ble_eq_true hb
      obtain ⟨h1, h2⟩ := ho_cons ho hy
      obtain ⟨w, rv, _, hw⟩ := locE (pos := p) r hl hi hd (locChs_some hys)
      have hsz : (⟨ys.toArray⟩ : Str).length ≤ sizeLine := by rw [sizeLine_eq]; show ys.length ≤ _; omega
      refine joinParts_cons (wpAny_FormattedValue_s (hw _ _ _ ?_))
      refine RV.eStr rv fun t => ?_
      rw [Cx_str_chs]
      refine habitSame_str (fun t' tk => formatField_str (fun t'' tk' => ⟨by rw [out_len]; exact h1, ?_⟩) hsz) hsz
      refine h l L μ hok hl A hA σ _ (r.toks s.heap s.gens s.drawn _ rfl rfl) z hz _ (by rw [out_len]; exact h2) Q E fun s' t r' => ?_
      rw [out_app]
      exact q s' t r'
    · exact nn e
  · exact nn e
noncomputable def strOf (r : Option (List Nat)) (σ : St) : Option (V × St) := match r with
  | some cs => some (.str (cs.map .ch), σ)
  | none => none
theorem SE_joined {e1 e2 : Expr} {es : List Expr} {pos : Pos} {f : Nat → St → Option (List Nat)} (h : SJ C D U Γ (e1 :: e2 :: es) f) (hn : (e1 :: e2 :: es).length * 100 ≤ 1000) : SE C D U Γ (.JoinedStr (e1 :: e2 :: es) pos) (fun l σ => strOf (f l σ) σ) := fun l L μ hok hl A hA σ s r b σ' e Q E q => by
  replace e : strOf (f l σ) σ = some (b, σ') := e
  unfold strOf at e
  split at e
  · rename_i cs hcs
    have q := qc e q
    refine JoinedStr_many ?_
    refine h l L μ hok hl A hA σ s r cs hcs Str.empty (by show 0 + _ ≤ _; rw [Nat.zero_add]; exact hn) Q E fun s' t r' => ?_
    refine q μ s' _ (List.prefix_refl _) r' ?_
    have : (Str.empty : Str) ++ (⟨cs.toArray⟩ : Str) = C.str (cs.map .ch) := by rw [Cx_str_chs]; exact Str.ext' (by simp [Str.cps_append, Str.empty])
    rw [this]
    exact .str _ t
  · exact nn e
end
end
end Mine
set_option genSizeOf false
set_option genInjectivity false
namespace Mine
noncomputable section
open PySem PySem.W PyProof.Rows PySem.Calls
set_option maxRecDepth 100000
set_option maxHeartbeats 0
section
variable {C : Cx} {D U : Nat} {Γ : FE}
theorem SXP_repl2' {x ya yb yc yd : Str} {px p0 p1 p2 p3 p4 pa pb pc pd pos : Pos} {ka kb kc kd : Nat} (i : Nat) (a b c d : List Nat) (ok : CxOk C) (hi : (tabN Γ.tag)[i]? = some x) (hx : (x == ("__debug__" : Str)) = false)
    (ea : ya = ⟨a.toArray⟩) (eb : yb = ⟨b.toArray⟩) (ec : yc = ⟨c.toArray⟩) (ed : yd = ⟨d.toArray⟩)
    (h1 : ((⟨a.toArray⟩ : Str) == ⟨b.toArray⟩) = false) (h2 : ((⟨c.toArray⟩ : Str) == ⟨d.toArray⟩) = false) (hb : b.length ≤ 14) (hd : d.length ≤ 14)
    (hl1 : autoParam ((p1.endLine == p2.line) = true) au2._auto_1) (hl2 : autoParam ((p3.endLine == p4.line) = true) au2._auto_1)
    (hs : autoParam (∀ L, swapsWith (.Call (.Attribute (.Call (.Attribute (.Name x p0) "replace" p1) [.Constant (.str ya) ka pa, .Constant (.str yb) kb pb] [] p2) "replace" p3) [.Constant (.str yc) kc pc, .Constant (.str yd) kd pd] [] p4) (some (.Name x px)) pos.line (Γ.env L) = pure false) au1._auto_1) :
    SXP C D U Γ (.Assign [.Name x px] (.Call (.Attribute (.Call (.Attribute (.Name x p0) "replace" p1) [.Constant (.str ya) ka pa, .Constant (.str yb) kb pb] [] p2) "replace" p3) [.Constant (.str yc) kc pc, .Constant (.str yd) kd pd] [] p4) pos)
      (fun l => bnd (repl2 i Γ.tag a b c d l) fun v => bnd (locSet Γ.tag i l v) fun _ => ret .next) := by
  subst ea eb ec ed
  exact SXP_repl2 (p5 := pos) i ok hi hx h1 h2 hb hd hl1 hl2 hs
end
theorem ok235 : GOk 235 := ⟨by kernel_rfl, by kernel_rfl, by kernel_rfl, by kernel_rfl, by decide⟩
theorem do235 : DefOk 235 3 3 [] := ⟨by intro _; kernel_rfl, by intro _; kernel_rfl, by kernel_rfl, by decide, by decide, by kernel_rfl, by kernel_rfl, by kernel_rfl, by kernel_rfl, by kernel_rfl, by
  intro p S ws h; exact ln3 ws h fun a b c => by kernel_rfl⟩
noncomputable def d235 : {g : Nat → M VF // ∀ C, CxOk C → ∀ D U, D < 700 → U < 4700 → SXs C D U (GG 235 ok235) (bodyOf 235) g} := ⟨_, fun C ok D U hD hU => by
  refine' SXs_cons ?_ ?_
  refine' SX_ifLen (by assumption) ?_ ?_ ?_ ?_; rotate_left 4
  refine' ST_cmp SCmp_isNot ?_ ?_; rotate_left 2
  exact SE_loc 1 (by kernel_rfl) (by decide)
  exact SE_none
  refine' SE_call (f := .builtin "len") (by assumption) (by intro _; kernel_rfl) (keep_bi _) ?_ (SCl_lenA (by assumption) (lt_a hD rfl) (lt_a hU rfl)); rotate_left 1
  refine' SEs_cons ?_ ?_
  exact SE_loc 1 (by kernel_rfl) (by decide)
  exact SEs_nil
  refine' SXsP_cons ?_ ?_
  refine' SXP_orIf 2 1 (by assumption) (by kernel_rfl) (by kernel_rfl) (by decide) (by decide) (by intro _; kernel_rfl) ?_ ?_; rotate_left 2
  refine' SXsP_cons ?_ ?_
  exact SXP_repl2' 1 [92] [92, 92] [34] [92, 34] (by assumption) (by kernel_rfl) (by decide) (by rfl) (by rfl) (by rfl) (by rfl) (by decide) (by decide) (by decide) (by decide)
  refine' SXs_cons ?_ ?_
  refine' SX_ret ?_
  exact SE_joined (SJ_name 0 (by kernel_rfl) (by decide) (SJ_const [61, 34] (by rfl) (by decide) (SJ_name 1 (by kernel_rfl) (by decide) (SJ_const [34] (by rfl) (by decide) SJ_nil)))) (by show 4 * 100 ≤ 1000; decide)
  exact SXs_nil
  refine' SXs_cons ?_ ?_
  refine' SX_ret ?_
  exact SE_joined (SJ_name 0 (by kernel_rfl) (by decide) (SJ_const [61] (by rfl) (by decide) (SJ_name 1 (by kernel_rfl) (by decide) SJ_nil))) (by show 3 * 100 ≤ 1000; decide)
  exact SXs_nil
  exact SXs_nil
  refine' SXs_cons ?_ ?_
  refine' SX_ret ?_
  exact SE_loc 0 (by kernel_rfl) (by decide)
  exact SXs_nil
  exact SXs_nil⟩
noncomputable def strB (v : Option (V × St)) (y : List Nat) : Bool := match v with
  | some (.str x, _) => match chsOf x with
    | some cs => natsB cs y
    | none => false
  | _ => false
theorem strB_some {v : Option (V × St)} {y : List Nat} (h : strB v y = true) : ∃ σ', v = some (.str (y.map .ch), σ') := by
  unfold strB at h
  split at h
  · split at h
    · rename_i hc
      have := natsB_eq h
      subst this
      exact ⟨_, by rw [chsOf_map hc]⟩
    · (first | exact nn h | cases h)
  · (first | exact nn h | cases h)
noncomputable def f235 : List V → M V := defD 235 3 3 [] d235.1
theorem fp_tab : (List.range 6).all (fun k => (List.range 12).all fun j => strB (f235 [.str [.ch (97 + k)], .str ((textOf j).map .ch), .int ((j / 6 : Nat) : Int)] ⟨0, .nil⟩) ((97 + k) :: tailOf j)) = true := by decide +kernel
section
variable {C : Cx} {D U : Nat} {Γ : FE}
noncomputable def fpK (vs : List V) : Option Nat := match args3 vs with
  | some p => match chO (strO p.1) with
    | some c => match txtO p.2.1 with
      | some k => match nmO p.2.2 with
        | some k' => match Nat.blt k 6 && Nat.beq c (97 + k) && Nat.beq k' (k + 6) with
          | true => some k
          | false => none
        | none => none
      | none => none
    | none => none
  | none => none
theorem fpK_some {vs : List V} {k : Nat} (h : fpK vs = some k) : vs = [.str [.ch (97 + k)], .txt k, .nm (k + 6)] ∧ k < 6 := by
  unfold fpK at h
  split at h
  · rename_i p hp
    have hp := args3_some hp
    split at h
    · rename_i c hc
      have hc := strO_some (chO_some hc)
      split at h
      · rename_i k1 h1
        have h1 := txtO_some h1
        split at h
        · rename_i k2 h2
          have h2 := nmO_some h2
          split at h
          · rename_i hb
            cases h
            simp only [Bool.and_eq_true] at hb
            obtain ⟨⟨b1, b2⟩, b3⟩ := hb
            rw [hp, hc, h1, h2, Nat.eq_of_beq_eq_true b2, Nat.eq_of_beq_eq_true b3]
            exact ⟨rfl, Nat.le_of_ble_eq_true b1⟩
          · exact nn h
        · exact nn h
      · exact nn h
    · exact nn h
  · exact nn h
noncomputable def fpM (vs : List V) : M V := fun σ => match fpK vs with
  | some k => some (.str [.lab k], σ)
  | none => none
theorem SCl_fp (ok : CxOk C) (hD : D ≤ 500) (hU : U ≤ 4600) : SCl C D U (.ref 235) fpM := fun vs ws μ rv A hA σ s r b σ' e Q E q => by
  unfold fpM at e
  split at e
  · rename_i k hk
    have q := qc e q
    clear e
    obtain ⟨rfl, hk6⟩ := fpK_some hk
    obtain ⟨j, cl⟩ := ok.cls k hk6
    refine RVs.eCons rv fun _ _ h1 t => ?_
    refine RVs.eCons t fun _ _ h2 t => ?_
    refine RVs.eCons t fun _ _ h3 t => ?_
    refine RVs.eNil t ?_
    refine RV.eTxt h2 fun t2 => ?_
    refine RV.eNm h3 fun t3 => ?_
    rw [cl.x0, cl.n1]
    have h2' : RV C μ (.str ((textOf j).map .ch)) (.str ⟨(textOf j).toArray⟩ t2) := by
      have := RV.str (C := C) (μ := μ) ((textOf j).map .ch) t2
      rw [Cx_str_chs] at this
      exact this
    have ht := List.all_eq_true.mp (List.all_eq_true.mp fp_tab k (by simpa using hk6)) j (by simpa using cl.lt)
    obtain ⟨σ2, he⟩ := strB_some ht
    refine own_call (D := D) (U := U) (b := .str (((97 + k) :: tailOf j).map .ch)) ok (fun C' ok' hc ws' rv' => SFn_def2 ok' (fun _ => .nil) do235 (by omega) (d235.2 C' ok' _ _ (by omega) (by omega)) [.str [.ch (97 + k)], .str ((textOf j).map .ch), .int ((j / 6 : Nat) : Int)] ws' [] rv') rfl rfl he (.cons h1 (.cons h2' (.cons (.int _ t3) .nil))) hA r fun s' w r' hw => ?_
    exact q μ s' w (List.prefix_refl _) r' (rv_lab (μ' := []) cl.l (hw []))
  · exact nn e
end
end
end Mine
set_option genSizeOf false
set_option genInjectivity false
namespace Mine
noncomputable section
open PySem PySem.W PySem.W.X PyProof.Rows PySem.Calls
set_option maxRecDepth 100000
set_option maxHeartbeats 0
section
variable {C : Cx} {D U : Nat} {Γ : FE}
/-! floor division and remainder of a told number -/
noncomputable def fdivM (a b : V) : M V := fun σ => match a, b with
  | .tn k, .int c => match Nat.blt k 6 && decide (c = 2520) with
    | true => some (.nm k, σ)
    | false => none
  | _, _ => none
theorem SOp_fdiv (ok : CxOk C) : SOp C D U .FloorDiv fdivM := fun a b wa wb μ ra rb A hA σ s r v σ' e Q E q => by
  unfold fdivM at e
  induction ra with
  | tn k t =>
    induction rb with
    | int c u =>
      simp only at e
      split at e
      · rename_i hb
        (first | (have q := qc e q) | (have q := qcB e q) | cases e)
        rw [Bool.and_eq_true, decide_eq_true_eq] at hb
        have hk : k < 6 := Nat.le_of_ble_eq_true hb.1
        obtain ⟨j, cl⟩ := ok.cls k hk
        rw [hb.2]
        refine floordiv_int (by decide) (q μ _ _ (List.prefix_refl _) (r.toks _ _ _ _ rfl rfl) ?_)
        rw [← cl.n0]
        exact .nm k _
      · (first | exact nn e | cases e)
    | _ => (first | exact nn e | cases e)
  | _ => (first | exact nn e | cases e)
noncomputable def modT (a b : V) : M V := fun σ => match a, b with
  | .int i, .int j => match decide (0 < j) with
    | true => some (.int (i.fmod j), σ)
    | false => none
  | .nm k, .int c => match Nat.blt k 6 && decide (c = 2) with
    | true => some (.nm (k + 6), σ)
    | false => none
  | _, _ => none
theorem SOp_modT (ok : CxOk C) : SOp C D U .Mod modT := fun a b wa wb μ ra rb A hA σ s r v σ' e Q E q => by
  unfold modT at e
  induction ra with
  | int i t =>
    induction rb with
    | int j u =>
      simp only at e
      split at e
      · rename_i hb
        have hb := of_decide_eq_true hb
        cases e; exact PyProof.Rows.mod_int (by omega) (q μ _ _ (List.prefix_refl _) (r.toks _ _ _ _ rfl rfl) (.int _ _))
      · (first | exact nn e | cases e)
    | _ => (first | exact nn e | cases e)
  | nm k t =>
    induction rb with
    | int c u =>
      simp only at e
      split at e
      · rename_i hb
        (first | (have q := qc e q) | (have q := qcB e q) | cases e)
        rw [Bool.and_eq_true, decide_eq_true_eq] at hb
        have hk : k < 6 := Nat.le_of_ble_eq_true hb.1
        obtain ⟨j, cl⟩ := ok.cls k hk
        rw [hb.2]
        refine PyProof.Rows.mod_int (by decide) (q μ _ _ (List.prefix_refl _) (r.toks _ _ _ _ rfl rfl) ?_)
        rw [cl.n0, cl.q, ← cl.n1]
        exact .nm _ _
      · (first | exact nn e | cases e)
    | _ => (first | exact nn e | cases e)
  | _ => (first | exact nn e | cases e)
/-! the text's number, of a known class -/
noncomputable def m420 (k j : Nat) (v : V) : M V := fun σ => match v with
  | .tn k' => match Nat.beq k' k with
    | true => some (.int ((j % 6 : Nat) : Int), σ)
    | false => none
  | _ => none
theorem SE_m420 {e : Expr} {p1 p2 p3 p4 : Pos} {k1 k2 k j : Nat} {f : Nat → M V} (cl : Cls C k j) (h : SE C D U Γ e f) :
    SE C D U Γ (.BinOp (.BinOp e .FloorDiv (.Constant (.int 420) k1 p1) p2) .Mod (.Constant (.int 6) k2 p3) p4) (fun l => bnd (f l) (m420 k j)) := fun l L μ hok hl A hA σ s r b σ' e0 Q E q => by
  obtain ⟨v, σ₁, e1, e2⟩ := bnd_some e0
  refine wpAny_BinOp (wpAny_BinOp (h l L μ hok hl A hA σ s r v σ₁ e1 _ E fun μ' s' w hp r' rv => ?_))
  unfold m420 at e2
  induction rv with
  | tn k' t =>
    simp only at e2
    split at e2
    · rename_i hb
      cases e2
      have hb := Nat.eq_of_beq_eq_true hb
      subst hb
      refine wpAny_Constant_int (floordiv_int (by decide) (wpAny_Constant_int (PyProof.Rows.mod_int (by decide) (q μ' _ _ hp (r'.toks _ _ _ _ rfl rfl) ?_))))
      rw [cl.t]
      exact .int _ _
    · (first | exact nn e2 | cases e2)
  | _ => (first | exact nn e2 | cases e2)
end
end
end Mine
set_option genSizeOf false
set_option genInjectivity false
namespace Mine
noncomputable section
open PySem PySem.W PyProof.Rows PySem.Calls
set_option maxRecDepth 100000
set_option maxHeartbeats 0
theorem ok379 : GOk 379 := ⟨by kernel_rfl, by kernel_rfl, by kernel_rfl, by kernel_rfl, by decide⟩
theorem do379 : DefOk 379 1 1 [] := ⟨by intro _; kernel_rfl, by intro _; kernel_rfl, by kernel_rfl, by decide, by decide, by kernel_rfl, by kernel_rfl, by kernel_rfl, by kernel_rfl, by kernel_rfl, by
  intro p S ws h; exact ln1 ws h fun a => by kernel_rfl⟩
noncomputable def d379 (k j : Nat) : {g : Nat → M VF // ∀ C, CxOk C → Cls C k j → ∀ D U, D < 500 → U < 4800 → SXs C D U (GG 379 ok379) (bodyOf 379) g} := ⟨_, fun C ok cl D U hD hU => by
  refine' SXs_cons ?_ ?_
  refine' SX_ret ?_
  refine' SE_sub2 (by assumption) ?_ ?_; rotate_left 2
  refine' SE_list ?_
  refine' SEs_cons ?_ ?_
  exact SE_str (by rfl)
  refine' SEs_cons ?_ ?_
  exact SE_str (by rfl)
  refine' SEs_cons ?_ ?_
  exact SE_str (by rfl)
  refine' SEs_cons ?_ ?_
  exact SE_str (by rfl)
  refine' SEs_cons ?_ ?_
  exact SE_str (by rfl)
  refine' SEs_cons ?_ ?_
  exact SE_str (by rfl)
  exact SEs_nil
  refine' SE_m420 (by assumption) ?_; rotate_left 1
  exact SE_loc 0 (by kernel_rfl) (by decide)
  exact SXs_nil⟩
noncomputable def f379 (k j : Nat) : List V → M V := defD 379 1 1 [] (d379 k j).1
theorem txt_tab : (List.range 6).all (fun k => (List.range 12).all fun j => strB (f379 k j [.tn k] ⟨0, .nil⟩) (textOf j)) = true := by decide +kernel
section
variable {C : Cx} {D U : Nat} {Γ : FE}
noncomputable def textM (vs : List V) : M V := fun σ => match vs with
  | [.tn k] => match Nat.blt k 6 with
    | true => some (.txt k, σ)
    | false => none
  | _ => none
theorem SCl_text (ok : CxOk C) (hD : D < 490) (hU : U < 4790) : SCl C D U (.ref 379) textM := fun vs ws μ rv A hA σ s r b σ' e Q E q => by
  unfold textM at e
  split at e
  · rename_i k
    split at e
    · rename_i hk
      (first | (have q := qc e q) | (have q := qcB e q) | cases e)
      have hk : k < 6 := Nat.le_of_ble_eq_true hk
      obtain ⟨j, cl⟩ := ok.cls k hk
      have ht := List.all_eq_true.mp (List.all_eq_true.mp txt_tab k (by simpa using hk)) j (by simpa using cl.lt)
      obtain ⟨σ2, he⟩ := strB_some ht
      refine own_call (D := D) (U := U) (b := .str ((textOf j).map .ch)) ok (fun C' ok' hc ws' rv' => SFn_def2 ok' (fun _ => .nil) do379 (lt_a hD rfl) ((d379 k j).2 C' ok' (hc k j cl) _ _ (lt_1 hD rfl) (lt_3 hU rfl)) [.tn k] ws' [] rv') rfl rfl he rv hA r fun s' w r' hw => ?_
      exact q μ s' w (List.prefix_refl _) r' (rv_txt (μ' := []) cl.x0 (hw []))
    · (first | exact nn e | cases e)
  · (first | exact nn e | cases e)
end
end
end Mine
set_option genSizeOf false
set_option genInjectivity false
namespace Mine
noncomputable section
open PySem PySem.W PyProof.Rows PySem.Calls
set_option maxRecDepth 100000
set_option maxHeartbeats 0
section
variable {C : Cx} {D U : Nat} {Γ : FE}
/-- the same environment over a frame that stood before -/
noncomputable def FOld (Γ : FE) (L0 : Addr) : FE where
  env := Γ.env
  ok μ := Γ.ok μ ∧ μ[0]? = some L0
  mono h e := ⟨Γ.mono h e.1, mu_ext h e.2⟩
  tag := Γ.tag
  fn := Γ.fn
  loc := Γ.loc
  glb := Γ.glb
  blt := Γ.blt
  knd := Γ.knd
  nd := Γ.nd
noncomputable def old0 (v : V) (l : Nat) : M V := match l with
  | 0 => ret v
  | _ => no
structure OldN (C : Cx) (Γ : FE) (x : Str) (v : V) : Prop where
  use : ∀ D U pos, SE C D U Γ (.Name x pos) (old0 v)
structure OldS (C : Cx) (Γ : FE) (x y : Str) (v : V) : Prop where
  use : ∀ D U p1 p2 p3, SE C D U Γ (.Subscript (.Name x p1) (.Name y p2) p3) (old0 v)
theorem oldN_of {L0 : Addr} {m : Str → Option Value} {x : Str} {w : Value} {v : V} (hn : C.h.Ns L0 m) (hx : x ∈ tabN Γ.tag) (hm : m x = some w) (rv : ∀ μ, RV C μ v w) (hd : (x == ("__debug__" : Str)) = false) : OldN C (FOld Γ L0) x v := ⟨fun D U pos l L μ hok hl A hA σ s r b σ' e Q E q => by
  cases l with
  | succ l => (first | exact nn e | cases e)
  | zero =>
    (first | (have q := qc e q) | (have q := qcB e q) | cases e)
    have : L = L0 := by have := hok.2; rw [hl] at this; cases this; rfl
    subst this
    refine wpAny_Name (wpAny_loadName_local (Γ.fn L) (Γ.knd L x hx) (m := m) (v := w) ?_ hm (q μ s w (List.prefix_refl _) r (rv μ))) hd
    show s.heap.Ns (Γ.env L).locals m
    refine rwG (Γ.loc L) ?_
    exact hn.keeps r.old⟩
theorem oldS_of {L0 T : Addr} {m : Str → Option Value} {x y : Str} {v : V} {ws : Array Value} {k : Nat} {t : Tok} {z : Value} (hn : C.h.Ns L0 m) (hx : x ∈ tabN Γ.tag) (hy : y ∈ tabN Γ.tag) (hmx : m x = some (.ref T)) (hmy : m y = some (.int k t)) (hT : C.h.IsList T ws) (hz : ws[k]? = some z) (hk : k < 100)
    (rv : ∀ μ, RV C μ v z) (hdx : (x == ("__debug__" : Str)) = false) (hdy : (y == ("__debug__" : Str)) = false) : OldS C (FOld Γ L0) x y v := ⟨fun D U p1 p2 p3 l L μ hok hl A hA σ s r b σ' e Q E q => by
  cases l with
  | succ l => (first | exact nn e | cases e)
  | zero =>
    (first | (have q := qc e q) | (have q := qcB e q) | cases e)
    have : L = L0 := by have := hok.2; rw [hl] at this; cases this; rfl
    subst this
    have hns : s.heap.Ns (Γ.env L).locals m := by rw [Γ.loc L]; exact hn.keeps r.old
    have hT' : s.heap.IsList T ws := let ⟨o, ho, rest⟩ := hT; ⟨o, r.old _ _ ho, rest⟩
    refine Subscript_ (wpAny_Name (wpAny_loadName_local (Γ.fn L) (Γ.knd L x hx) (m := m) (v := .ref T) hns hmx ?_) hdx)
    refine wpAny_Name (wpAny_loadName_local (Γ.fn L) (Γ.knd L y hy) (m := m) (v := .int k t) hns hmy ?_) hdy
    refine sub_tail (gip_type hT'.typeIs F.slot_list_getitem.lookup) ?_ ⟨_, rfl⟩
    exact wpAny_getItem_list hT' (by omega) (by omega) (x := z) (by simpa using hz) (q μ s z (List.prefix_refl _) r (rv μ))⟩
/-- a told number's parity, of a known class -/
noncomputable def eqQ (k j : Nat) (a b : V) : M Bool := fun σ => match a, b with
  | .nm k', .int c => match Nat.beq k' (k + 6) with
    | true => some (((j / 6 : Nat) : Int) == c, σ)
    | false => none
  | _, _ => none
theorem SCmp_eqQ {k j : Nat} (cl : Cls C k j) : SCmp C D U .Eq (eqQ k j) := fun a b wa wb μ ra rb A hA σ s r v σ' e Q E q => by
  unfold eqQ at e
  induction ra with
  | nm k' t =>
    induction rb with
    | int c u =>
      simp only at e
      split at e
      · rename_i hb
        have hb := Nat.eq_of_beq_eq_true hb
        subst hb
        (first | (have q := qc e q) | (have q := qcB e q) | cases e)
        refine rwG (cl.n1) ?_
        exact eq_int (q μ s _ (List.prefix_refl _) r rfl)
      · (first | exact nn e | cases e)
    | _ => (first | exact nn e | cases e)
  | _ => (first | exact nn e | cases e)
theorem own_frame {μ : List Addr} {σ : St} {s : Shared} (r : Rel C μ σ s) {l : Nat} {L : Addr} {tag : Nat} {vs : List (Option V)} (hl : μ[l]? = some L) (g : σ.get l = some (.fr tag vs)) :
    ∃ m, (C.now s.heap).h.Ns L m ∧ ∀ (i : Nat) (x : Str) (v : V), (tabN tag)[i]? = some x → vs[i]? = some (some v) → ∃ w, m x = some w ∧ RV C μ v w := by
  obtain ⟨a, o, e1, e2, e3, e4, e5⟩ := r.obj l _ g rfl
  rw [hl] at e1
  (first | (have q := qc e1 q) | (have q := qcB e1 q) | cases e1)
  obtain ⟨m, hn, hlen, hm⟩ := ns_of e2 e3
  refine ⟨m, ?_, fun i x v hx hv => hm.get hx hv⟩
  obtain ⟨o', es, ep, ho', rest⟩ := hn
  refine ⟨o', es, ep, ?_, rest⟩
  show (hideT s.heap).get? L = some o'
  rw [get_hideT, if_neg e5]
  exact ho'
/-- an expression in a world of its own -/
theorem own_expr {e : Expr} {G : Nat → M V} {b : V} {σ' : St} {μ : List Addr} {σ : St} {s : Shared} {L : Addr} (ok : CxOk C) (hΓ : ∀ μ, Γ.ok μ) (r : Rel C μ σ s) (hG : SE (C.now s.heap) D U (FOld Γ L) e G) (he : G 0 ⟨1, .nil⟩ = some (b, σ')) (hb : imm b = true)
    {A : Around} (hA : AOk D U A) {Q : Value → Shared → Prop} {E : Value → Shared → Prop} (q : ∀ s' w, Rel C μ σ s' → (∀ μ, RV C μ b w) → Q w s') : wpAny (model P C.w) A (eval e (Γ.env L)) Q E s :=
  hG 0 L [L] ⟨hΓ _, rfl⟩ rfl A hA ⟨1, .nil⟩ s (now_rel r [L]) b σ' he Q E fun μ' s' w _ r' rw' => q s' w (now_back r r') fun μ => now_rv hb rw'
/-! the frame of _law_labels, read -/
noncomputable def frL (l : Nat) (σ : St) : Option (List (Option V)) := match σ.get l with
  | some (.fr t vs) => match Nat.beq t 384 with
    | true => some vs
    | false => none
  | _ => none
theorem frL_some {l : Nat} {σ : St} {vs : List (Option V)} (h : frL l σ = some vs) : σ.get l = some (.fr 384 vs) := by
  unfold frL at h
  split at h
  · split at h
    · rename_i hb
      have hb := Nat.eq_of_beq_eq_true hb
      subst hb
      (first | (have q := qc h q) | (have q := qcB h q) | cases h)
      assumption
    · (first | exact nn h | cases h)
  · (first | exact nn h | cases h)
end
end
end Mine
set_option genSizeOf false
set_option genInjectivity false
namespace Mine
noncomputable section
open PySem PySem.W PyProof.Rows PySem.Calls
set_option maxRecDepth 100000
set_option maxHeartbeats 0
theorem ok384 : GOk 384 := ⟨by kernel_rfl, by kernel_rfl, by kernel_rfl, by kernel_rfl, by decide⟩
noncomputable def bodyL : List Stmt := match bodyOf 384 with
  | [_, .For _ _ b _ _, _] => b
  | _ => []
noncomputable def exMark : Expr := match bodyL with
  | [_, .Assign _ e _, _, _] => e
  | _ => .Constant .none 0 ⟨0, 0, 0, 0⟩
noncomputable def exInner : Expr := match bodyL with
  | [_, _, .Assign _ e _, _] => e
  | _ => .Constant .none 0 ⟨0, 0, 0, 0⟩
noncomputable def exLast : Expr := match bodyL with
  | [_, _, _, .Expr (.Call _ [e] _ _) _] => e
  | _ => .Constant .none 0 ⟨0, 0, 0, 0⟩
noncomputable def dMark (k j : Nat) : {g : Nat → M V // ∀ C, CxOk C → Cls C k j → ∀ D U, D < 480 → U < 4700 → ∀ L0, OldN C (FOld (GG 384 ok384) L0) "text" (.str ((textOf j).map .ch)) → OldS C (FOld (GG 384 ok384) L0) "told" "k" (.tn k) → SE C D U (FOld (GG 384 ok384) L0) exMark g} := ⟨_, fun C ok cl D U hD hU L0 h1 h2 => by
  refine' SE_ifx ?_ ?_ ?_
  refine' ST_and2 ?_ ?_
  refine' ST_cmp (SCmp_eq2 (by assumption) (lt_30 hU rfl)) ?_ ?_; rotate_left 2
  exact OldN.use (by assumption) _ _ _
  exact SE_str (by rfl)
  refine' ST_cmp (SCmp_eqQ (by assumption)) ?_ ?_; rotate_left 2
  refine' SE_bin (SOp_modT (by assumption)) ?_ ?_; rotate_left 2
  refine' SE_bin (SOp_fdiv (by assumption)) ?_ ?_; rotate_left 2
  exact OldS.use (by assumption) _ _ _ _ _
  exact SE_int
  exact SE_int
  exact SE_int
  exact SE_str (by rfl)
  exact SE_str (by rfl)⟩
noncomputable def dInner (j : Nat) : {g : Nat → M V // ∀ C, CxOk C → ∀ D U, D < 460 → U < 4670 → ∀ L0, OldN C (FOld (GG 384 ok384) L0) "text" (.str ((textOf j).map .ch)) → SE C D U (FOld (GG 384 ok384) L0) exInner g} := ⟨_, fun C ok D U hD hU L0 h1 => by
  refine' SE_strM "str.join" F.slot_str_join F.type_str_join (by assumption) ?_ ?_ (SCl_join (by assumption))
  rotate_left 2
  exact SE_str (by rfl)
  refine' SEs_cons ?_ ?_
  refine' SE_comp 1006 1 100 ⟨by kernel_rfl, by kernel_rfl, by decide, by kernel_rfl⟩ (by intro _; kernel_rfl) (by kernel_rfl) (by kernel_rfl) ?_ (fun _ => ?_) (fun _ => ?_) (fun _ => ?_); rotate_left 4
  exact OldN.use (by assumption) _ _ _
  exact SAsg_nameT (by first | exact tag_gc | exact tag_fc | exact tag_fo | exact tag_gg) 0 (by kernel_rfl)
  exact STs_nil
  refine' SE_ifx ?_ ?_ ?_
  refine' ST_cmp (SCmp_in (by assumption) (c290 (by assumption) (lt_a hD rfl) (lt_a hU rfl))) ?_ ?_; rotate_left 2
  exact SE_locT (by first | exact tag_gc | exact tag_fc | exact tag_fo | exact tag_gg) 0 (by kernel_rfl) (by decide)
  exact SE_str (by rfl)
  refine' SE_bin (SOp_add (by assumption)) ?_ ?_; rotate_left 2
  exact SE_str (by rfl)
  exact SE_locT (by first | exact tag_gc | exact tag_fc | exact tag_fo | exact tag_gg) 0 (by kernel_rfl) (by decide)
  exact SE_locT (by first | exact tag_gc | exact tag_fc | exact tag_fo | exact tag_gg) 0 (by kernel_rfl) (by decide)
  exact SEs_nil⟩
noncomputable def dLast (k j : Nat) : {g : Nat → M V // ∀ C, CxOk C → ∀ D U, D < 480 → U < 4700 → ∀ L0, OldN C (FOld (GG 384 ok384) L0) "text" (.str ((textOf j).map .ch)) → OldN C (FOld (GG 384 ok384) L0) "mark" (.str ((markOf j).map .ch)) → OldN C (FOld (GG 384 ok384) L0) "inner" (.str ((innerOf j).map .ch)) → OldN C (FOld (GG 384 ok384) L0) "k" (.int k) → SE C D U (FOld (GG 384 ok384) L0) exLast g} := ⟨_, fun C ok D U hD hU L0 h1 h2 h3 h4 => by
  refine' SE_bin (SOp_add (by assumption)) ?_ ?_
  rotate_left 2
  refine' SE_sub2 (by assumption) ?_ ?_; rotate_left 2
  exact SE_str (by rfl)
  exact OldN.use (by assumption) _ _ _
  refine' SE_ifx ?_ ?_ ?_
  refine' ST_valA (by assumption) (lt_a hD rfl) (lt_a hU rfl) ?_; rotate_left 1
  exact OldN.use (by assumption) _ _ _
  refine' SE_bin (SOp_add (by assumption)) ?_ ?_; rotate_left 2
  refine' SE_bin (SOp_add (by assumption)) ?_ ?_; rotate_left 2
  refine' SE_bin (SOp_add (by assumption)) ?_ ?_; rotate_left 2
  exact SE_str (by rfl)
  exact OldN.use (by assumption) _ _ _
  exact OldN.use (by assumption) _ _ _
  exact OldN.use (by assumption) _ _ _
  exact SE_str (by rfl)⟩
theorem mark_tab : (List.range 6).all (fun k => (List.range 12).all fun j => strB ((dMark k j).1 0 ⟨1, .nil⟩) (markOf j)) = true := by decide +kernel
theorem inner_tab : (List.range 12).all (fun j => strB ((dInner j).1 0 ⟨1, .nil⟩) (innerOf j)) = true := by decide +kernel
theorem last_tab : (List.range 6).all (fun k => (List.range 12).all fun j => strB ((dLast k j).1 0 ⟨1, .nil⟩) ((97 + k) :: tailOf j)) = true := by decide +kernel
end
end Mine
set_option genSizeOf false
set_option genInjectivity false
namespace Mine
noncomputable section
open PySem PySem.W PyProof.Rows PySem.Calls
set_option maxRecDepth 100000
set_option maxHeartbeats 0
section
variable {C : Cx} {D U : Nat}
theorem rv_str {x : List Nat} {y : Str} {t : Tok} (e : y = ⟨x.toArray⟩) (μ : List Addr) : RV C μ (.str (x.map .ch)) (.str y t) := by
  have := RV.str (C := C) (μ := μ) (x.map .ch) t
  rw [Cx_str_chs, ← e] at this
  exact this
noncomputable def natOf (v : V) : Option Nat := match v with
  | .int (.ofNat k) => match Nat.blt k 6 with
    | true => some k
    | false => none
  | _ => none
theorem natOf_some {v : V} {k : Nat} (h : natOf v = some k) : v = .int (k : Int) ∧ k < 6 := by
  unfold natOf at h
  split at h
  · split at h
    · rename_i hb
      cases h
      exact ⟨rfl, Nat.le_of_ble_eq_true hb⟩
    · (first | exact nn h | cases h)
  · (first | exact nn h | cases h)
noncomputable def isTxt (v : V) (k : Nat) : Bool := match v with
  | .txt k' => Nat.beq k' k
  | _ => false
theorem isTxt_some {v : V} {k : Nat} (h : isTxt v k = true) : v = .txt k := by
  unfold isTxt at h
  split at h
  · rw [Nat.eq_of_beq_eq_true h]
  · (first | exact nn h | cases h)
noncomputable def isTn (v : Option V) (k : Nat) : Bool := match v with
  | some (.tn k') => Nat.beq k' k
  | _ => false
theorem isTn_some {v : Option V} {k : Nat} (h : isTn v k = true) : v = some (.tn k) := by
  unfold isTn at h
  split at h
  · rw [Nat.eq_of_beq_eq_true h]
  · (first | exact nn h | cases h)
noncomputable def fr6 (x : Option (List (Option V))) : Option (Option V × Option V × Option V × Option V × Option V × Option V) := match x with
  | some [a, b, c, d, e, f] => some (a, b, c, d, e, f)
  | _ => none
theorem fr6_some {x : Option (List (Option V))} {p : Option V × Option V × Option V × Option V × Option V × Option V} (h : fr6 x = some p) : x = some [p.1, p.2.1, p.2.2.1, p.2.2.2.1, p.2.2.2.2.1, p.2.2.2.2.2] := by
  rcases x with _ | (_ | ⟨a, _ | ⟨b, _ | ⟨c, _ | ⟨d, _ | ⟨e, _ | ⟨f, _ | ⟨g, l⟩⟩⟩⟩⟩⟩⟩) <;> first | exact nn h | (cases h; rfl)
noncomputable def ntO (v : Option V) : Option Nat := match v with
  | some v => natOf v
  | none => none
theorem ntO_some {v : Option V} {k : Nat} (h : ntO v = some k) : v = some (.int (k : Int)) ∧ k < 6 := by
  cases v with
  | none => exact nn h
  | some v => obtain ⟨h1, h2⟩ := natOf_some (v := v) h; exact ⟨congrArg some h1, h2⟩
noncomputable def txO (v : Option V) (k : Nat) : Bool := match v with
  | some v => isTxt v k
  | none => false
theorem txO_some {v : Option V} {k : Nat} (h : txO v k = true) : v = some (.txt k) := by
  cases v with
  | none => exact absurd h Bool.false_ne_true
  | some v => exact congrArg some (isTxt_some (v := v) h)
noncomputable def refO (v : Option V) : Option Nat := match v with
  | some (.ref n) => some n
  | _ => none
theorem refO_some {v : Option V} {n : Nat} (h : refO v = some n) : v = some (.ref n) := by
  unfold refO at h
  split at h
  · cases h; rfl
  · exact nn h
noncomputable def tnAt (σ : St) (v : Option V) (k : Nat) : Bool := match refO v with
  | some n => match σ.get n with
    | some (.list xs) => isTn (xs[k]?) k
    | _ => false
  | none => false
theorem tnAt_some {σ : St} {v : Option V} {k : Nat} (h : tnAt σ v k = true) : ∃ n xs, v = some (.ref n) ∧ σ.get n = some (.list xs) ∧ xs[k]? = some (.tn k) := by
  unfold tnAt at h
  split at h
  · rename_i n hn
    split at h
    · rename_i xs hx
      exact ⟨n, xs, refO_some hn, hx, isTn_some h⟩
    · exact absurd h Bool.false_ne_true
  · exact absurd h Bool.false_ne_true
abbrev F6 := Option V × Option V × Option V × Option V × Option V × Option V
noncomputable def slot6 (f : St → F6 → Nat → Bool) (r : Nat → V) (l : Nat) : M V := fun σ => match fr6 (frL l σ) with
  | some p => match ntO p.2.2.1 with
    | some k => match f σ p k with
      | true => some (r k, σ)
      | false => none
    | none => none
  | none => none
theorem slot6_some {f : St → F6 → Nat → Bool} {r : Nat → V} {l : Nat} {σ σ' : St} {b : V} (h : slot6 f r l σ = some (b, σ')) :
    ∃ (a0 a1 a3 a4 a5 : Option V) (k : Nat), frL l σ = some [a0, a1, some (.int (k : Int)), a3, a4, a5] ∧ k < 6 ∧ f σ (a0, a1, some (.int (k : Int)), a3, a4, a5) k = true ∧ b = r k ∧ σ' = σ := by
  unfold slot6 at h
  split at h
  · rename_i p hp
    split at h
    · rename_i k hk
      split at h
      · rename_i hf
        cases h
        obtain ⟨h1, h2⟩ := ntO_some hk
        obtain ⟨a0, a1, a2, a3, a4, a5⟩ := p
        dsimp only at h1
        subst h1
        exact ⟨a0, a1, a3, a4, a5, k, fr6_some hp, h2, hf, rfl, rfl⟩
      · exact nn h
    · exact nn h
  · exact nn h
noncomputable def markM : Nat → M V := slot6 (fun σ p k => txO p.2.2.2.1 k && tnAt σ p.1 k) fun k => .txt (k + 6)
theorem SE_mark {e : Expr} (he : e = exMark) (ok : CxOk C) (hD : D < 480) (hU : U < 4700) : SE C D U (GG 384 ok384) e markM := fun l L μ hok hl A hA σ s r b σ' e0 Q E q => by
  subst he
  obtain ⟨a0, _, a3, _, _, k, hfr, hk, hb, rfl, rfl⟩ := slot6_some e0
  simp only [Bool.and_eq_true] at hb
  have h3 := txO_some hb.1
  obtain ⟨n, xs, h0, hxs, hz⟩ := tnAt_some hb.2
  subst h3 h0
  obtain ⟨j, cl⟩ := ok.cls k hk
  obtain ⟨m, hns, hv⟩ := own_frame r hl (frL_some hfr)
  obtain ⟨w0, hm0, rv0⟩ := hv 0 "told" (.ref n) rfl rfl
  obtain ⟨w2, hm2, rv2⟩ := hv 2 "k" (.int (k : Int)) rfl rfl
  obtain ⟨w3, hm3, rv3⟩ := hv 3 "text" (.txt k) rfl rfl
  cases rv0 with
  | ref _ T hT =>
  cases rv2 with
  | int _ tk =>
  cases rv3 with
  | txt _ tt =>
  obtain ⟨a, o, q1, q2, q3, q4, q5⟩ := r.obj n _ hxs rfl
  rw [hT] at q1
  cases q1
  obtain ⟨ws, hws, rvs⟩ := list_of q2 q3
  obtain ⟨z, hz1, rz⟩ := rvs.get hz
  have hT' : (C.now s.heap).h.IsList T ws := by
    obtain ⟨o', ho', rest⟩ := hws
    refine ⟨o', ?_, rest⟩
    show (hideT s.heap).get? T = some o'
    rw [get_hideT, if_neg q5]
    exact ho'
  have tab := List.all_eq_true.mp (List.all_eq_true.mp mark_tab k (by simpa using hk)) j (by simpa using cl.lt)
  obtain ⟨σ2, hev⟩ := strB_some tab
  have h1 : OldN (C.now s.heap) (FOld (GG 384 ok384) L) "text" (.str ((textOf j).map .ch)) := oldN_of hns (by decide) hm3 (fun μ => rv_str cl.x0 μ) (by decide)
  have h2 : OldS (C.now s.heap) (FOld (GG 384 ok384) L) "told" "k" (.tn k) := oldS_of hns (by decide) (by decide) hm0 hm2 hT' (by rw [← Array.getElem?_toList]; exact hz1) (by omega) (fun μ => rv_now rfl rz) (by decide) (by decide)
  exact own_expr (Γ := GG 384 ok384) ok (fun _ => trivial) r ((dMark k j).2 _ (now_ok ok r) (now_cls cl) D U hD hU L h1 h2) hev rfl hA fun s' w r' hw => q μ s' w (List.prefix_refl _) r' (rv_txt (μ' := []) cl.x1 (hw []))
noncomputable def innerM : Nat → M V := slot6 (fun _ p k => txO p.2.2.2.1 k) fun k => .txt (k + 12)
theorem SE_inner {e : Expr} (he : e = exInner) (ok : CxOk C) (hD : D < 460) (hU : U < 4670) : SE C D U (GG 384 ok384) e innerM := fun l L μ hok hl A hA σ s r b σ' e0 Q E q => by
  subst he
  obtain ⟨_, _, a3, _, _, k, hfr, hk, hb, rfl, rfl⟩ := slot6_some e0
  have h3 := txO_some hb
  subst h3
  obtain ⟨j, cl⟩ := ok.cls k hk
  obtain ⟨m, hns, hv⟩ := own_frame r hl (frL_some hfr)
  obtain ⟨w3, hm3, rv3⟩ := hv 3 "text" (.txt k) rfl rfl
  cases rv3 with
  | txt _ tt =>
  have tab := List.all_eq_true.mp inner_tab j (by simpa using cl.lt)
  obtain ⟨σ2, hev⟩ := strB_some tab
  have h1 : OldN (C.now s.heap) (FOld (GG 384 ok384) L) "text" (.str ((textOf j).map .ch)) := oldN_of hns (by decide) hm3 (fun μ => rv_str cl.x0 μ) (by decide)
  exact own_expr (Γ := GG 384 ok384) ok (fun _ => trivial) r ((dInner j).2 _ (now_ok ok r) D U hD hU L h1) hev rfl hA fun s' w r' hw => q μ s' w (List.prefix_refl _) r' (rv_txt (μ' := []) cl.x2 (hw []))
noncomputable def lastM : Nat → M V := slot6 (fun _ p k => txO p.2.2.2.1 k && txO p.2.2.2.2.1 (k + 6) && txO p.2.2.2.2.2 (k + 12)) fun k => .str [.lab k]
theorem SE_last {e : Expr} (he : e = exLast) (ok : CxOk C) (hD : D < 480) (hU : U < 4700) : SE C D U (GG 384 ok384) e lastM := fun l L μ hok hl A hA σ s r b σ' e0 Q E q => by
  subst he
  obtain ⟨_, _, a3, a4, a5, k, hfr, hk, hb, rfl, rfl⟩ := slot6_some e0
  simp only [Bool.and_eq_true] at hb
  have h3 := txO_some hb.1.1
  have h4 := txO_some hb.1.2
  have h5 := txO_some hb.2
  subst h3 h4 h5
  obtain ⟨j, cl⟩ := ok.cls k hk
  obtain ⟨m, hns, hv⟩ := own_frame r hl (frL_some hfr)
  obtain ⟨w2, hm2, rv2⟩ := hv 2 "k" (.int (k : Int)) rfl rfl
  obtain ⟨w3, hm3, rv3⟩ := hv 3 "text" (.txt k) rfl rfl
  obtain ⟨w4, hm4, rv4⟩ := hv 4 "mark" (.txt (k + 6)) rfl rfl
  obtain ⟨w5, hm5, rv5⟩ := hv 5 "inner" (.txt (k + 12)) rfl rfl
  cases rv3 with
  | txt _ tt =>
  cases rv4 with
  | txt _ t4 =>
  cases rv5 with
  | txt _ t5 =>
  have tab := List.all_eq_true.mp (List.all_eq_true.mp last_tab k (by simpa using hk)) j (by simpa using cl.lt)
  obtain ⟨σ2, hev⟩ := strB_some tab
  have h1 : OldN (C.now s.heap) (FOld (GG 384 ok384) L) "text" (.str ((textOf j).map .ch)) := oldN_of hns (by decide) hm3 (fun μ => rv_str cl.x0 μ) (by decide)
  have h2 : OldN (C.now s.heap) (FOld (GG 384 ok384) L) "mark" (.str ((markOf j).map .ch)) := oldN_of hns (by decide) hm4 (fun μ => rv_str cl.x1 μ) (by decide)
  have h3 : OldN (C.now s.heap) (FOld (GG 384 ok384) L) "inner" (.str ((innerOf j).map .ch)) := oldN_of hns (by decide) hm5 (fun μ => rv_str cl.x2 μ) (by decide)
  have h4 : OldN (C.now s.heap) (FOld (GG 384 ok384) L) "k" (.int (k : Int)) := oldN_of hns (by decide) hm2 (fun μ => rv_now rfl rv2) (by decide)
  exact own_expr (Γ := GG 384 ok384) ok (fun _ => trivial) r ((dLast k j).2 _ (now_ok ok r) D U hD hU L h1 h2 h3 h4) hev rfl hA fun s' w r' hw => q μ s' w (List.prefix_refl _) r' (rv_lab (μ' := []) cl.l (hw []))
end
theorem do384 : DefOk 384 1 6 [] := ⟨by intro _; kernel_rfl, by intro _; kernel_rfl, by kernel_rfl, by decide, by decide, by kernel_rfl, by kernel_rfl, by kernel_rfl, by kernel_rfl, by kernel_rfl, by
  intro p S ws h; exact ln1 ws h fun a => by kernel_rfl⟩
noncomputable def d384 : {g : Nat → M VF // ∀ C, CxOk C → ∀ D U, D < 450 → U < 4600 → SXs C D U (GG 384 ok384) (bodyOf 384) g} := ⟨_, fun C ok D U hD hU => by
  refine' SXs_cons ?_ ?_
  refine' SX_assign 1 ?_ (by kernel_rfl)
  refine' SE_list ?_
  exact SEs_nil
  refine' SXs_cons ?_ ?_
  refine' SX_for 100 ?_ ?_ ?_
  refine' SE_call (f := .type "range") (by assumption) (by intro _; kernel_rfl) (keep_type _) ?_ SCl_range2; rotate_left 1
  refine' SEs_cons ?_ ?_
  exact SE_int
  exact SEs_nil
  exact SAsg_name 2 (by kernel_rfl)
  refine' SXs_cons ?_ ?_
  refine' SX_assign 3 ?_ (by kernel_rfl)
  refine' SE_call (f := .ref 379) (by assumption) (by intro _; kernel_rfl) (keep_ref (by kernel_rfl)) ?_ (SCl_text (by assumption) (lt_a hD rfl) (lt_a hU rfl)); rotate_left 1
  refine' SEs_cons ?_ ?_
  refine' SE_sub2 (by assumption) ?_ ?_; rotate_left 2
  exact SE_loc 0 (by kernel_rfl) (by decide)
  exact SE_loc 2 (by kernel_rfl) (by decide)
  exact SEs_nil
  refine' SXs_cons ?_ ?_
  refine' SX_assign 4 ?_ (by kernel_rfl)
  exact SE_mark (by kernel_rfl) (by assumption) (lt_a hD rfl) (lt_a hU rfl)
  refine' SXs_cons ?_ ?_
  refine' SX_assign 5 ?_ (by kernel_rfl)
  exact SE_inner (by kernel_rfl) (by assumption) (lt_a hD rfl) (lt_a hU rfl)
  refine' SXs_cons ?_ ?_
  refine' SX_expr ?_ (by intro _; kernel_rfl)
  refine' SE_append ?_ ?_
  exact SE_loc 1 (by kernel_rfl) (by decide)
  exact SE_last (by kernel_rfl) (by assumption) (lt_a hD rfl) (lt_a hU rfl)
  exact SXs_nil
  refine' SXs_cons ?_ ?_
  refine' SX_ret ?_
  exact SE_loc 1 (by kernel_rfl) (by decide)
  exact SXs_nil⟩
theorem c384 {C : Cx} {D U : Nat} (ok : CxOk C) (hD : D < 449) (hU : U < 4597) : SFn C D U 384 (defD 384 1 6 [] d384.1) := SFn_def2 ok (fun _ => .nil) do384 (lt_a hD rfl) (d384.2 C ok _ _ (lt_1 hD rfl) (lt_3 hU rfl))
end
end Mine
set_option genSizeOf false
set_option genInjectivity false
namespace Mine
noncomputable section
open PySem PySem.W PyProof.Rows PySem.Calls
set_option maxRecDepth 100000
set_option maxHeartbeats 0
theorem ok372 : GOk 372 := ⟨by kernel_rfl, by kernel_rfl, by kernel_rfl, by kernel_rfl, by decide⟩
theorem do372 : DefOk 372 1 3 [] := ⟨by intro _; kernel_rfl, by intro _; kernel_rfl, by kernel_rfl, by decide, by decide, by kernel_rfl, by kernel_rfl, by kernel_rfl, by kernel_rfl, by kernel_rfl, by
  intro p S ws h; exact ln1 ws h fun a => by kernel_rfl⟩
noncomputable def d372 (h : Nat → Int) : {g : Nat → M VF // ∀ C, CxOk C → HgtOk C h → ∀ D U, D < 500 → U < 4800 → SXs C D U (GG 372 ok372) (bodyOf 372) g} := ⟨_, fun C ok hh D U hD hU => by
  refine' SXs_cons ?_ ?_
  refine' SX_assign 1 ?_ (by kernel_rfl)
  refine' SE_list ?_
  refine' SEs_cons ?_ ?_
  exact SE_int
  exact SEs_nil
  refine' SXs_cons ?_ ?_
  refine' SX_for 100 ?_ ?_ ?_
  refine' SE_subS (by assumption) ?_ ?_; rotate_left 2
  exact SE_loc 0 (by kernel_rfl) (by decide)
  refine' SE_slice ?_ ?_ ?_
  refine' SP_some ?_
  exact SE_int
  exact SP_none
  exact SP_none
  exact SAsg_name 2 (by kernel_rfl)
  refine' SXs_cons ?_ ?_
  refine' SX_expr ?_ (by intro _; kernel_rfl)
  refine' SE_append ?_ ?_
  exact SE_loc 1 (by kernel_rfl) (by decide)
  refine' SE_bin (SOp_mod (by assumption)) ?_ ?_; rotate_left 2
  exact SE_loc 2 (by kernel_rfl) (by decide)
  refine' SE_bin (SOp_add (by assumption)) ?_ ?_; rotate_left 2
  refine' SE_sub2 (by assumption) ?_ ?_; rotate_left 2
  exact SE_loc 1 (by kernel_rfl) (by decide)
  exact SE_neg
  exact SE_int
  exact SXs_nil
  refine' SXs_cons ?_ ?_
  refine' SX_ret ?_
  exact SE_loc 1 (by kernel_rfl) (by decide)
  exact SXs_nil⟩
theorem c372 {C : Cx} {D U : Nat} {h : Nat → Int} (ok : CxOk C) (hh : HgtOk C h) (hD : D < 499) (hU : U < 4797) : SFn C D U 372 (defD 372 1 3 [] (d372 h).1) := SFn_def2 ok (fun _ => .nil) do372 (lt_a hD rfl) ((d372 h).2 C ok hh _ _ (lt_1 hD rfl) (lt_3 hU rfl))
end
end Mine
set_option genSizeOf false
set_option genInjectivity false
namespace Mine
noncomputable section
open PySem PySem.W PyProof.Rows PySem.Calls
set_option maxRecDepth 100000
set_option maxHeartbeats 0
section
variable {C : Cx} {D U : Nat} {Γ : FE}
noncomputable def compAM (tag nl : Nat) (fi : Nat → M V) (fa : Nat → V → M Unit) (ft : Nat → M Bool) (fe : Nat → M V) (fu : Nat → V → M Unit) (n : Nat) (l : Nat) : M VF :=
  bnd (fi l) fun v => bnd (iterM v) fun it => bnd (alloc (.list [])) fun acc => bnd (alloc (.fr tag (List.replicate nl none))) fun fr => bnd (guardM (isIter it)) fun _ => match fr with
    | .ref lc => bnd (compLoopM (nextM it) (fa lc) (ft lc) (fe lc) acc n) fun _ => bnd (fu l acc) fun _ => bnd (dropM tag lc) fun _ => ret .next
    | _ => no
noncomputable def compAMC (tag nl : Nat) (fi : Nat → M V) (fa : Nat → Nat → V → M Unit) (ft : Nat → Nat → M Bool) (fe : Nat → Nat → M V) (fu : Nat → V → M Unit) (n : Nat) (l : Nat) : M VF :=
  bnd (fi l) fun v => bnd (iterM v) fun it => bnd (alloc (.list [])) fun acc => bnd (alloc (.fr tag (List.replicate nl none))) fun fr => bnd (alloc (.cell none)) fun _ => bnd (guardM (isIter it)) fun _ => match fr with
    | .ref lc => bnd (compLoopM (nextM it) (fa lc lc) (ft lc lc) (fe lc lc) acc n) fun _ => bnd (fu l acc) fun _ => bnd (dropM tag lc) fun _ => ret .next
    | _ => no
theorem SX_comp {y : Str} {py spos : Pos} {fu : Nat → V → M Unit} {elt iter target : Expr} {ifs : List Expr} {scope : Scope} {pos : Pos} {fi : Nat → M V} {fa : Nat → V → M Unit} {ft : Nat → M Bool} {fe : Nat → M V} (tag nl n : Nat) (co : CompOk tag scope)
    (hclos : ∀ L, freeOk (Γ.env L) scope.names = true) (hcell : scope.names.all (fun y => y.2 != .cell) = true) (hnl : Nat.beq (tabN tag).length nl = true)
    (hi : SE C D U Γ iter fi)
    (ha : ∀ L, SAsg C D U (FC tag scope co Γ L) target fa)
    (ht : ∀ L, STs C D U (FC tag scope co Γ L) ifs ft)
    (he : ∀ L, SE C D U (FC tag scope co Γ L) elt fe)
    (hs : autoParam (∀ L x, foldedSetIterable iter (Γ.env L) x = pure x) au3._auto_1) (hown : autoParam (∀ it v, letOwnedTupleGo target it v = pure ()) au3._auto_1)
    (hu : SAsg C D U Γ (.Name y py) fu) (hsw : ∀ L, swapsWith (.ListComp elt [⟨target, iter, ifs, 0⟩] scope pos) (some (.Name y py)) spos.line (Γ.env L) = pure true) :
    SX C D U Γ (.Assign [.Name y py] (.ListComp elt [⟨target, iter, ifs, 0⟩] scope pos) spos) (compAM tag nl fi fa ft fe fu n) := fun l L μ hok hl A hA σ s r b σ' e Q E q => by
  refine bnd_e e fun v σ₁ e1 e => ?_
  refine bnd_e e fun itv σ₂ e2 e => ?_
  refine bnd_e e fun acc σ₃ e3 e => ?_
  obtain ⟨hz1, f1, f2⟩ := alloc_some e3
  simp only at f1 f2
  subst f1 f2
  refine bnd_e e fun fr σ₄ e4 e => ?_
  obtain ⟨hz2, f3, f4⟩ := alloc_some e4
  simp only at f3 f4
  subst f3 f4
  refine bnd_e e fun _ σ₅ e5 e => ?_
  obtain ⟨hii, f5⟩ := guardM_some e5
  simp only at f5
  subst f5
  refine bnd_e e fun _ σ₆ e6 e => ?_
  refine bnd_e e fun _ σ₈ e10 e => ?_
  refine bnd_e e fun _ σ₇ e7 e8 => ?_
  (first | (have q := qc e8 q) | (have q := qcB e8 q) | cases e8)
  refine rwG (exec_Assign_Name_used _ _ _ _ (hsw L)) ?_
  refine wpAny_bind (wpAny_standAt (wpAny_bind ?_))
  show wpAny _ A (do let _ ← comprehension (.ListComp elt [⟨target, iter, ifs, 0⟩] scope pos) scope (Γ.env L) _ (newList []) false (eval iter (Γ.env L)) (some (assign (.Name y py) (Γ.env L)))) _ _ s
  refine wpAny_bind (wpAny_mono (wpAny_comprehension_free (use := some (assign (.Name y py) (Γ.env L))) (Q := fun _ s' => Q .next s') rfl (hs L) (closureFor_eq (hclos L)) co.kind (fun x hx hlx => by
    have := List.all_eq_true.mp co.names x hx
    simpa [hlx] using this) ?_) (fun _ s' hq => wpAny_pure (wpAny_pure hq)) fun _ _ e => e)
  refine hi l L μ hok hl A hA σ s r v σ₁ e1 _ E fun μ₁ s₁ wv hp1 r₁ rv => ?_
  refine iter_snd rv A hA σ₁ s₁ r₁ itv σ₂ e2 _ E fun μ₂ s₂ wi hp2 r₂ ri => ?_
  have h2 := List.IsPrefix.trans hp1 hp2
  refine wpAny_newObj_type (wpAny_newFunctionEnv (fun y hy => by
    have := List.all_eq_true.mp hcell y hy
    simpa using this) (by intro y hy; simp at hy) (fun h₁ hns₁ hsb₁ => ?_) co.kind)
  have r3 := r₂.alloc (o := { cls := .type "list", dict := none, data := .seq ([] : List Value).toArray }) (vo := .list []) (t := s₂.toks) (d := s₂.drawn) rfl hz1 ⟨#[], _, rfl, .nil⟩
  generalize hH2 : s₂.heap.push { cls := .type "list", dict := none, data := .seq ([] : List Value).toArray } = H2 at hns₁ hsb₁ r3 ⊢
  obtain ⟨of, hof, hrf⟩ := ns_to (C := C) (μ := μ₂ ++ [s₂.heap.objs.size] ++ [H2.objs.size]) (tag := tag) (vs := List.replicate nl none) hns₁ (by simp [Nat.eq_of_beq_eq_true hnl]) rq_none
  have kp : ∀ b o, H2.get? b = some o → h₁.get? b = some o := fun b o eb => hsb₁.extBut b o (Nat.ne_of_lt (Heap.lt_size eb)) (Heap.get?_push_of_some _ eb)
  have r4 := r3.add (a := H2.objs.size) (vo := .fr tag (List.replicate nl none)) (t := s₂.toks + ([] : List (Str × Value)).length) (d := s₂.drawn) kp (get_size_none _) hof hz2 hrf
  have px : μ₂ <+: μ₂ ++ [s₂.heap.objs.size] ++ [H2.objs.size] := List.IsPrefix.trans (List.prefix_append _ _) (List.prefix_append _ _)
  have at_acc : (μ₂ ++ [s₂.heap.objs.size] ++ [H2.objs.size])[σ₂.n]? = some s₂.heap.objs.size := mu_ext (List.prefix_append _ _) (by rw [← r₂.len]; simp)
  have at_fr : (μ₂ ++ [s₂.heap.objs.size] ++ [H2.objs.size])[(σ₂.add (.list [])).n]? = some H2.objs.size := by rw [← r3.len]; simp
  have racc : RV C (μ₂ ++ [s₂.heap.objs.size] ++ [H2.objs.size]) (.ref σ₂.n) (.ref s₂.heap.objs.size) := .ref _ _ at_acc
  have h4 := List.IsPrefix.trans h2 px
  have loop : codeAny (model P C.w) A (.compLoop (.ListComp elt [⟨target, iter, ifs, 0⟩] scope pos) 0 wi (.ref s₂.heap.objs.size) (compEnvC scope (clGo (Γ.env L) scope.names []) H2.objs.size (Γ.env L)))
      (compPost (model P C.w) A E (some (assign (.Name y py) (Γ.env L))) (fun _ s' => Q .next s') (.ref s₂.heap.objs.size) H2.objs.size) ⟨h₁, s₂.gens, s₂.drawn, s₂.toks + ([] : List (Str × Value)).length, s₂.os⟩ := by
    refine compLoop_snd (Γ := FC tag scope co Γ L) (ha L) (ht L) (he L) (lc := (σ₂.add (.list [])).n) (Γ.mono h4 hok) at_fr (ri.ext px) racc hA n r4 e6 (fun μ₅ s₅ hp5 r₅ => ?_) (hown wi)
    show wpAny _ A (assign (.Name y py) (Γ.env L) (.ref s₂.heap.objs.size)) _ _ _
    have h5 := List.IsPrefix.trans h4 hp5
    refine hu l L μ₅ _ _ (Γ.mono h5 hok) (mu_ext h5 hl) (racc.ext hp5) A hA σ₆ s₅ r₅ () σ₈ e10 _ E fun μ₆ s₆ _ hp6 r₆ _ => ?_
    obtain ⟨m6, hns6, k6⟩ := drop_snd r₆ (mu_ext (List.IsPrefix.trans hp5 hp6) at_fr) e7
    exact ⟨m6, hns6, fun h' hs' => q _ _ _ (List.IsPrefix.trans h5 hp6) (k6 h' hs') .next⟩
  exact codeAny_compStart_list loop (iter_self r4 (ri.ext px) hii loop)
theorem SX_compC {y : Str} {py spos : Pos} {fu : Nat → V → M Unit} {elt iter target : Expr} {ifs : List Expr} {scope : Scope} {pos : Pos} {fi : Nat → M V} {fa : Nat → Nat → V → M Unit} {ft : Nat → Nat → M Bool} {fe : Nat → Nat → M V} (x : Str) (tag nl n : Nat) (co : CompOk tag scope)
    (hclos : ∀ L, freeOk (Γ.env L) scope.names = true) (hc : ∀ n acc, cellsFrom n scope.names acc = (x, n) :: acc) (hp : ∀ h, pushCells h scope.names = h.push { cls := .type "cell", data := .cell none }) (hnl : Nat.beq (tabN tag).length nl = true)
    (hi : SE C D U Γ iter fi)
    (ha : ∀ L lc Lc, SAsg C D U (FCo tag scope co x Γ L lc Lc) target (fa lc))
    (ht : ∀ L lc Lc, STs C D U (FCo tag scope co x Γ L lc Lc) ifs (ft lc))
    (he : ∀ L lc Lc, SE C D U (FCo tag scope co x Γ L lc Lc) elt (fe lc))
    (hs : autoParam (∀ L x, foldedSetIterable iter (Γ.env L) x = pure x) au3._auto_1) (hown : autoParam (∀ it v, letOwnedTupleGo target it v = pure ()) au3._auto_1)
    (hu : SAsg C D U Γ (.Name y py) fu) (hsw : ∀ L, swapsWith (.ListComp elt [⟨target, iter, ifs, 0⟩] scope pos) (some (.Name y py)) spos.line (Γ.env L) = pure true) :
    SX C D U Γ (.Assign [.Name y py] (.ListComp elt [⟨target, iter, ifs, 0⟩] scope pos) spos) (compAMC tag nl fi fa ft fe fu n) := fun l L μ hok hl A hA σ s r b σ' e Q E q => by
  refine bnd_e e fun v σ₁ e1 e => ?_
  refine bnd_e e fun itv σ₂ e2 e => ?_
  refine bnd_e e fun acc σ₃ e3 e => ?_
  obtain ⟨hz1, f1, f2⟩ := alloc_some e3
  simp only at f1 f2
  subst f1 f2
  refine bnd_e e fun fr σ₄ e4 e => ?_
  obtain ⟨hz2, f3, f4⟩ := alloc_some e4
  simp only at f3 f4
  subst f3 f4
  refine bnd_e e fun cc σ₅ e9 e => ?_
  obtain ⟨hz3, f6, f7⟩ := alloc_some e9
  simp only at f6 f7
  subst f6 f7
  refine bnd_e e fun _ σ₅ e5 e => ?_
  obtain ⟨hii, f5⟩ := guardM_some e5
  simp only at f5
  subst f5
  refine bnd_e e fun _ σ₆ e6 e => ?_
  refine bnd_e e fun _ σ₈ e10 e => ?_
  refine bnd_e e fun _ σ₇ e7 e8 => ?_
  (first | (have q := qc e8 q) | (have q := qcB e8 q) | cases e8)
  refine rwG (exec_Assign_Name_used _ _ _ _ (hsw L)) ?_
  refine wpAny_bind (wpAny_standAt (wpAny_bind ?_))
  show wpAny _ A (do let _ ← comprehension (.ListComp elt [⟨target, iter, ifs, 0⟩] scope pos) scope (Γ.env L) _ (newList []) false (eval iter (Γ.env L)) (some (assign (.Name y py) (Γ.env L)))) _ _ s
  refine wpAny_bind (wpAny_mono (wpAny_comprehension_free (use := some (assign (.Name y py) (Γ.env L))) (Q := fun _ s' => Q .next s') rfl (hs L) (closureFor_eq (hclos L)) co.kind (fun x hx hlx => by
    have := List.all_eq_true.mp co.names x hx
    simpa [hlx] using this) ?_) (fun _ s' hq => wpAny_pure (wpAny_pure hq)) fun _ _ e => e)
  refine hi l L μ hok hl A hA σ s r v σ₁ e1 _ E fun μ₁ s₁ wv hp1 r₁ rv => ?_
  refine iter_snd rv A hA σ₁ s₁ r₁ itv σ₂ e2 _ E fun μ₂ s₂ wi hp2 r₂ ri => ?_
  have h2 := List.IsPrefix.trans hp1 hp2
  refine wpAny_newObj_type (newEnv_own hc hp ?_)
  have r3 := r₂.alloc (o := { cls := .type "list", dict := none, data := .seq ([] : List Value).toArray }) (vo := .list []) (t := s₂.toks) (d := s₂.drawn) rfl hz1 ⟨#[], _, rfl, .nil⟩
  dsimp only
  generalize hH2 : s₂.heap.push { cls := .type "list", dict := none, data := .seq ([] : List Value).toArray } = H2 at r3 ⊢
  obtain ⟨of, hof, hrf⟩ := ns_to (C := C) (μ := μ₂ ++ [s₂.heap.objs.size] ++ [H2.objs.size]) (tag := tag) (vs := List.replicate nl none) (Heap.Ns.new H2 (.type "dict")) (by simp [Nat.eq_of_beq_eq_true hnl]) rq_none
  have r4 := r3.add (a := H2.objs.size) (vo := .fr tag (List.replicate nl none)) (t := s₂.toks) (d := s₂.drawn) (fun b o eb => Heap.get?_push_of_some _ eb) (get_size_none _) hof hz2 hrf
  have hsz : (H2.push { cls := .type "dict", data := .dict #[] }).objs.size = H2.objs.size + 1 := Heap.size_push ..
  have r5 := r4.alloc (o := { cls := .type "cell", data := .cell none }) (vo := .cell none) (t := s₂.toks) (d := s₂.drawn) rfl hz3 ⟨none, rfl, .none⟩
  have px : μ₂ <+: μ₂ ++ [s₂.heap.objs.size] ++ [H2.objs.size] ++ [(H2.push { cls := .type "dict", data := .dict #[] }).objs.size] := List.IsPrefix.trans (List.IsPrefix.trans (List.prefix_append _ _) (List.prefix_append _ _)) (List.prefix_append _ _)
  have at_acc : (μ₂ ++ [s₂.heap.objs.size] ++ [H2.objs.size] ++ [(H2.push { cls := .type "dict", data := .dict #[] }).objs.size])[σ₂.n]? = some s₂.heap.objs.size := mu_ext (List.IsPrefix.trans (List.prefix_append _ _) (List.prefix_append _ _)) (by rw [← r₂.len]; simp)
  have at_fr : (μ₂ ++ [s₂.heap.objs.size] ++ [H2.objs.size] ++ [(H2.push { cls := .type "dict", data := .dict #[] }).objs.size])[(σ₂.add (.list [])).n]? = some H2.objs.size := mu_ext (List.prefix_append _ _) (by rw [← r3.len]; simp)
  have at_ce : (μ₂ ++ [s₂.heap.objs.size] ++ [H2.objs.size] ++ [(H2.push { cls := .type "dict", data := .dict #[] }).objs.size])[(σ₂.add (.list [])).n + 1]? = some (H2.objs.size + 1) := by
    have : (σ₂.add (.list [])).n + 1 = ((σ₂.add (.list [])).add (.fr tag (List.replicate nl none))).n := rfl
    rw [this, ← r4.len, ← hsz]; simp
  have racc : RV C (μ₂ ++ [s₂.heap.objs.size] ++ [H2.objs.size] ++ [(H2.push { cls := .type "dict", data := .dict #[] }).objs.size]) (.ref σ₂.n) (.ref s₂.heap.objs.size) := .ref _ _ at_acc
  have h4 := List.IsPrefix.trans h2 px
  have loop : codeAny (model P C.w) A (.compLoop (.ListComp elt [⟨target, iter, ifs, 0⟩] scope pos) 0 wi (.ref s₂.heap.objs.size) (compEnvC scope ((x, H2.objs.size + 1) :: clGo (Γ.env L) scope.names []) H2.objs.size (Γ.env L)))
      (compPost (model P C.w) A E (some (assign (.Name y py) (Γ.env L))) (fun _ s' => Q .next s') (.ref s₂.heap.objs.size) H2.objs.size) ⟨(H2.push { cls := .type "dict", data := .dict #[] }).push { cls := .type "cell", data := .cell none }, s₂.gens, s₂.drawn, s₂.toks, s₂.os⟩ := by
    refine compLoop_snd (Γ := FCo tag scope co x Γ L (σ₂.add (.list [])).n H2.objs.size) (ha L _ _) (ht L _ _) (he L _ _) (lc := (σ₂.add (.list [])).n) ⟨Γ.mono h4 hok, at_ce⟩ at_fr (ri.ext px) racc hA n r5 e6 (fun μ₅ s₅ hp5 r₅ => ?_) (hown wi)
    show wpAny _ A (assign (.Name y py) (Γ.env L) (.ref s₂.heap.objs.size)) _ _ _
    have h5 := List.IsPrefix.trans h4 hp5
    refine hu l L μ₅ _ _ (Γ.mono h5 hok) (mu_ext h5 hl) (racc.ext hp5) A hA σ₆ s₅ r₅ () σ₈ e10 _ E fun μ₆ s₆ _ hp6 r₆ _ => ?_
    obtain ⟨m6, hns6, k6⟩ := drop_snd r₆ (mu_ext (List.IsPrefix.trans hp5 hp6) at_fr) e7
    exact ⟨m6, hns6, fun h' hs' => q _ _ _ (List.IsPrefix.trans h5 hp6) (k6 h' hs') .next⟩
  exact codeAny_compStart_list loop (iter_self r5 (ri.ext px) hii loop)
end
end
end Mine
set_option genSizeOf false
set_option genInjectivity false
namespace Mine
noncomputable section
open PySem PySem.W PyProof.Rows PySem.Calls
set_option maxRecDepth 100000
set_option maxHeartbeats 0
/-- an environment whose first name is the script -/
noncomputable def FX (Γ : FE) (a : Addr) : FE where
  env := Γ.env
  ok μ := Γ.ok μ ∧ μ[0]? = some a
  mono h e := ⟨Γ.mono h e.1, mu_ext h e.2⟩
  tag := Γ.tag
  fn := Γ.fn
  loc := Γ.loc
  glb := Γ.glb
  blt := Γ.blt
  knd := Γ.knd
  nd := Γ.nd
theorem tag_fx {f : Addr} {h : GOkC f} {n l0 : Nat} {L0 a : Addr} : TagIs (FX (GC f h n l0 L0) a) f := ⟨rfl⟩
theorem CellAt.fx {Γ : FE} {a : Addr} {x : Str} {i : Nat} {c : Addr} (h : CellAt Γ x i c) : CellAt (FX Γ a) x i c := ⟨h.hk, h.hc, fun μ h' => h.hm μ h'.1⟩
noncomputable def tolds : List V := [.tn 0, .tn 1, .tn 2, .tn 3, .tn 4, .tn 5]
noncomputable def toldX (vs : List V) : M V := match vs with
  | [.ref 0] => alloc (.list tolds)
  | _ => no
structure ToldX (C : Cx) (a : Addr) : Prop where
  use : ∀ {D U : Nat} {μ : List Addr} {σ : St} {s : Shared} {A : Around}, D < 320 → U < 3000 → AOk D U A → Rel C μ σ s → σ.n < 60000 → ∀ (Q : Value → Shared → Prop) (E : Value → Shared → Prop),
    (∀ s' b, Rel C (μ ++ [b]) (σ.add (.list tolds)) s' → Q (.ref b) s') → wpAny (model P C.w) A (call (.ref 365) [.ref a]) Q E s
section
variable {C : Cx} {D U : Nat} {Γ : FE}
theorem SE_told {p pos : Pos} {es : List Expr} {fa : Nat → M (List V)} {a : Addr} (ok : CxOk C) (ht : ToldX C a) (hD : D < 320) (hU : U < 3000) (hn : ∀ L, peek (KF C.w.params) ⟨P, C.w.params⟩ (loadName ((FX Γ a).env L) "_law_told") = some (.ref 365)) (hkp : KeepOk C (.ref 365))
    (ha : SEs C D U (FX Γ a) es fa) (hpl : autoParam (∀ env, (backTo pos (starEach es env)).any (·.1) = false) au1._auto_1) :
    SE C D U (FX Γ a) (.Call (.Name "_law_told" p) es [] pos) (fun l => bnd (fa l) toldX) := fun l L μ hok hl A hA σ s r b σ' e Q E q => by
  refine bnd_e e fun vs σ₁ e1 e2 => ?_
  refine wpAny_Call_NameR (wpAny_Name ?_ (by decide))
  refine (Looks.of_peek (M := model P C.w) (r.K ok) (hn L)).here ?_
  refine callWith_of (P := fun h => (KF C.w.params).In h) (by rw [hpl]; rfl) hkp (evA (hpl _) ?_)
  refine ha l L μ pos hok hl A hA σ s r vs σ₁ e1 _ E fun μ' s' ws hp r' rvs => ⟨r'.K ok, ?_⟩
  unfold toldX at e2
  split at e2
  · obtain ⟨hz, e3, e4⟩ := alloc_some e2
    simp only at e3 e4
    subst e3 e4
    refine RVs.eCons rvs fun _ _ h t => ?_
    refine RVs.eNil t ?_
    refine RV.eRef h fun a' ha' => ?_
    have hh := mu_ext hp hok.2
    rw [ha'] at hh
    cases hh
    refine ht.use hD hU hA r' hz Q E fun s'' b r'' => ?_
    exact q _ s'' _ (List.IsPrefix.trans hp (List.prefix_append _ _)) r'' (.ref _ _ (by rw [← r'.len]; simp))
  · (first | exact nn e2 | cases e2)
end
end
end Mine
set_option genSizeOf false
set_option genInjectivity false
namespace Mine
noncomputable section
open PySem PySem.W PyProof.Rows PySem.Calls
set_option maxRecDepth 100000
set_option maxHeartbeats 0
theorem ok431 : GOkC 431 := ⟨by kernel_rfl, by kernel_rfl, by kernel_rfl, by kernel_rfl, by decide⟩
noncomputable def d431 (h : Nat → Int) (l0 : Nat) : {g : Nat → M VF // ∀ C, CxOk C → HgtOk C h → ∀ a, ToldX C a → ∀ D U, D < 320 → U < 2000 → ∀ L0, SXs C D U (FX (GC 431 ok431 5 l0 L0) a) (bodyOf 431) g} := ⟨_, fun C ok hh a ht D U hD hU L0 => by
  have c0 : CellAt (FX (GC 431 ok431 5 l0 L0) a) "told" (l0 + 1 + 0) (L0 + 1 + 0) := (GC_cell 0 (by decide) (by kernel_rfl) (by kernel_rfl)).fx
  have c1 : CellAt (FX (GC 431 ok431 5 l0 L0) a) "heights" (l0 + 1 + 1) (L0 + 1 + 1) := (GC_cell 1 (by decide) (by kernel_rfl) (by kernel_rfl)).fx
  have c2 : CellAt (FX (GC 431 ok431 5 l0 L0) a) "k" (l0 + 1 + 2) (L0 + 1 + 2) := (GC_cell 2 (by decide) (by kernel_rfl) (by kernel_rfl)).fx
  have c3 : CellAt (FX (GC 431 ok431 5 l0 L0) a) "labels" (l0 + 1 + 3) (L0 + 1 + 3) := (GC_cell 3 (by decide) (by kernel_rfl) (by kernel_rfl)).fx
  have c4 : CellAt (FX (GC 431 ok431 5 l0 L0) a) "table" (l0 + 1 + 4) (L0 + 1 + 4) := (GC_cell 4 (by decide) (by kernel_rfl) (by kernel_rfl)).fx
  refine' SXs_cons ?_ ?_
  refine' SX_assignC (by assumption) ?_; rotate_left 1
  refine' SE_told (by assumption) (by assumption) (lt_a hD rfl) (lt_a hU rfl) (by intro _; kernel_rfl) (keep_ref (by kernel_rfl)) ?_; rotate_left 1
  refine' SEs_cons ?_ ?_
  exact SE_locT (by first | exact tag_fx | exact tag_fc | exact tag_fo | exact tag_gg) 0 (by kernel_rfl) (by decide)
  exact SEs_nil
  refine' SXs_cons ?_ ?_
  refine' SX_assignC (by assumption) ?_; rotate_left 1
  refine' SE_call (f := .ref 372) (by assumption) (by intro _; kernel_rfl) (keep_ref (by kernel_rfl)) ?_ (c372 (by assumption) (by assumption) (lt_a hD rfl) (lt_a hU rfl)); rotate_left 1
  refine' SEs_cons ?_ ?_
  exact SE_cell (by assumption)
  exact SEs_nil
  refine' SXs_cons ?_ ?_
  refine' SX_assignC (by assumption) ?_; rotate_left 1
  refine' SE_comp 1002 1 100 ⟨by kernel_rfl, by kernel_rfl, by decide, by kernel_rfl⟩ (by intro _; kernel_rfl) (by kernel_rfl) (by kernel_rfl) ?_ (fun _ => ?_) (fun _ => ?_) (fun _ => ?_); rotate_left 4
  refine' SE_call (f := .type "range") (by assumption) (by intro _; kernel_rfl) (keep_type _) ?_ SCl_range2; rotate_left 1
  refine' SEs_cons ?_ ?_
  exact SE_int
  exact SEs_nil
  exact SAsg_nameT (by first | exact tag_fx | exact tag_fc | exact tag_fo | exact tag_gg) 0 (by kernel_rfl)
  exact STs_nil
  refine' SE_call (f := .ref 235) (by assumption) (by intro _; kernel_rfl) (keep_ref (by kernel_rfl)) ?_ (SCl_fp (by assumption) (le_a hD rfl) (le_a hU rfl)); rotate_left 1
  refine' SEs_cons ?_ ?_
  refine' SE_sub2 (by assumption) ?_ ?_; rotate_left 2
  exact SE_str (by rfl)
  exact SE_locT (by first | exact tag_fx | exact tag_fc | exact tag_fo | exact tag_gg) 0 (by kernel_rfl) (by decide)
  refine' SEs_cons ?_ ?_
  refine' SE_call (f := .ref 379) (by assumption) (by intro _; kernel_rfl) (keep_ref (by kernel_rfl)) ?_ (SCl_text (by assumption) (lt_a hD rfl) (lt_a hU rfl)); rotate_left 1
  refine' SEs_cons ?_ ?_
  refine' SE_sub2 (by assumption) ?_ ?_; rotate_left 2
  exact SE_cell (CellAt.comp (by assumption) (by kernel_rfl))
  exact SE_locT (by first | exact tag_fx | exact tag_fc | exact tag_fo | exact tag_gg) 0 (by kernel_rfl) (by decide)
  exact SEs_nil
  refine' SEs_cons ?_ ?_
  refine' SE_bin (SOp_modT (by assumption)) ?_ ?_; rotate_left 2
  refine' SE_bin (SOp_fdiv (by assumption)) ?_ ?_; rotate_left 2
  refine' SE_sub2 (by assumption) ?_ ?_; rotate_left 2
  exact SE_cell (CellAt.comp (by assumption) (by kernel_rfl))
  exact SE_locT (by first | exact tag_fx | exact tag_fc | exact tag_fo | exact tag_gg) 0 (by kernel_rfl) (by decide)
  exact SE_int
  exact SE_int
  exact SEs_nil
  refine' SXs_cons ?_ ?_
  refine' SX_if ?_ ?_ ?_
  refine' ST_cmp (SCmp_ne2 (by assumption) (lt_30 hU rfl)) ?_ ?_; rotate_left 2
  exact SE_cell (by assumption)
  refine' SE_call (f := .ref 384) (by assumption) (by intro _; kernel_rfl) (keep_ref (by kernel_rfl)) ?_ (c384 (by assumption) (lt_a hD rfl) (lt_a hU rfl)); rotate_left 1
  refine' SEs_cons ?_ ?_
  exact SE_cell (by assumption)
  exact SEs_nil
  refine' SXs_cons ?_ ?_
  refine' SX_ret ?_
  exact SE_bool
  exact SXs_nil
  exact SXs_nil
  refine' SXs_cons ?_ ?_
  refine' SX_asgPair ?_ ?_
  refine' SE_call (f := .ref 398) (by assumption) (by intro _; kernel_rfl) (keep_ref (by kernel_rfl)) ?_ (c398 (by assumption) (lt_a hD rfl) (lt_a hU rfl)); rotate_left 1
  refine' SEs_cons ?_ ?_
  refine' SE_call (f := .ref 391) (by assumption) (by intro _; kernel_rfl) (keep_ref (by kernel_rfl)) ?_ (c391 (by assumption) (lt_a hD rfl) (lt_a hU rfl)); rotate_left 1
  refine' SEs_cons ?_ ?_
  exact SE_cell (by assumption)
  refine' SEs_cons ?_ ?_
  exact SE_cell (by assumption)
  exact SEs_nil
  refine' SEs_cons ?_ ?_
  exact SE_cell (by assumption)
  exact SEs_nil
  refine' SAsg_pair ?_ ?_
  exact SAsg_cell (by assumption)
  exact SAsg_nameT (by first | exact tag_fx | exact tag_fc | exact tag_fo | exact tag_gg) 1 (by kernel_rfl)
  refine' SXs_cons ?_ ?_
  refine' SX_assignT (by first | exact tag_fx | exact tag_fc | exact tag_fo | exact tag_gg) 2 ?_ (by kernel_rfl)
  refine' SE_call (f := .ref 405) (by assumption) (by intro _; kernel_rfl) (keep_ref (by kernel_rfl)) ?_ (c405 (by assumption) (lt_a hD rfl) (lt_a hU rfl)); rotate_left 1
  refine' SEs_cons ?_ ?_
  exact SE_cell (by assumption)
  exact SEs_nil
  refine' SXs_cons ?_ ?_
  refine' SX_compC "n" 1007 0 100 ⟨by kernel_rfl, by kernel_rfl, by decide, by kernel_rfl⟩ (by intro _; kernel_rfl) (by intro _ _; kernel_rfl) (by intro _; kernel_rfl) (by kernel_rfl) ?_ (fun _ _ _ => ?_) (fun _ _ _ => ?_) (fun _ _ _ => ?_) (hu := ?_) (hsw := by intro _; kernel_rfl); rotate_left 5
  refine' SE_call (f := .type "range") (by assumption) (by intro _; kernel_rfl) (keep_type _) ?_ SCl_range2; rotate_left 1
  refine' SEs_cons ?_ ?_
  refine' SE_bin (SOp_add (by assumption)) ?_ ?_; rotate_left 2
  refine' SE_call (f := .builtin "max") (by assumption) (by intro _; kernel_rfl) (keep_bi _) ?_ SCl_max; rotate_left 1
  refine' SEs_cons ?_ ?_
  exact SE_cell (by assumption)
  exact SEs_nil
  exact SE_int
  exact SEs_nil
  exact SAsg_cell (CellAt.own (by kernel_rfl))
  exact STs_nil
  refine' SE_comp 1002 1 100 ⟨by kernel_rfl, by kernel_rfl, by decide, by kernel_rfl⟩ (by intro _; kernel_rfl) (by kernel_rfl) (by kernel_rfl) ?_ (fun _ => ?_) (fun _ => ?_) (fun _ => ?_); rotate_left 4
  refine' SE_call (f := .type "range") (by assumption) (by intro _; kernel_rfl) (keep_type _) ?_ SCl_range2; rotate_left 1
  refine' SEs_cons ?_ ?_
  exact SE_int
  exact SEs_nil
  exact SAsg_nameT (by first | exact tag_fx | exact tag_fc | exact tag_fo | exact tag_gg) 0 (by kernel_rfl)
  refine' STs_one ?_
  refine' ST_cmp (SCmp_eq2 (by assumption) (lt_30 hU rfl)) ?_ ?_; rotate_left 2
  refine' SE_sub2 (by assumption) ?_ ?_; rotate_left 2
  exact SE_cell (CellAt.comp (CellAt.compo (by assumption) (by kernel_rfl) (by decide)) (by kernel_rfl))
  exact SE_locT (by first | exact tag_fx | exact tag_fc | exact tag_fo | exact tag_gg) 0 (by kernel_rfl) (by decide)
  exact SE_cell (CellAt.comp (CellAt.own (by kernel_rfl)) (by kernel_rfl))
  exact SE_locT (by first | exact tag_fx | exact tag_fc | exact tag_fo | exact tag_gg) 0 (by kernel_rfl) (by decide)
  exact SAsg_nameT (by first | exact tag_fx | exact tag_fc | exact tag_fo | exact tag_gg) 3 (by kernel_rfl)
  refine' SXs_cons ?_ ?_
  refine' SX_comp 1003 1 100 ⟨by kernel_rfl, by kernel_rfl, by decide, by kernel_rfl⟩ (by intro _; kernel_rfl) (by kernel_rfl) (by kernel_rfl) ?_ (fun _ => ?_) (fun _ => ?_) (fun _ => ?_) (hu := ?_) (hsw := by intro _; kernel_rfl); rotate_left 5
  exact SE_locT (by first | exact tag_fx | exact tag_fc | exact tag_fo | exact tag_gg) 3 (by kernel_rfl) (by decide)
  exact SAsg_nameT (by first | exact tag_fx | exact tag_fc | exact tag_fo | exact tag_gg) 0 (by kernel_rfl)
  exact STs_nil
  with_reducible refine' SE_strM "str.join" F.slot_str_join F.type_str_join (by assumption) ?_ ?_ (SCl_join (by assumption)) (hbase := by intro _; with_unfolding_all rfl) (hfew := by intro _; with_unfolding_all rfl) (hline := by with_unfolding_all rfl) (hpl := by intro _; with_unfolding_all rfl); rotate_left 2
  exact SE_str (by rfl)
  refine' SEs_cons ?_ ?_
  refine' SE_comp 1002 1 100 ⟨by kernel_rfl, by kernel_rfl, by decide, by kernel_rfl⟩ (by intro _; kernel_rfl) (by kernel_rfl) (by kernel_rfl) ?_ (fun _ => ?_) (fun _ => ?_) (fun _ => ?_); rotate_left 4
  exact SE_locT (by first | exact tag_fx | exact tag_fc | exact tag_fo | exact tag_gg) 0 (by kernel_rfl) (by decide)
  exact SAsg_nameT (by first | exact tag_fx | exact tag_fc | exact tag_fo | exact tag_gg) 0 (by kernel_rfl)
  exact STs_nil
  refine' SE_sub2 (by assumption) ?_ ?_; rotate_left 2
  exact SE_cell (CellAt.comp (CellAt.comp (by assumption) (by kernel_rfl)) (by kernel_rfl))
  exact SE_locT (by first | exact tag_fx | exact tag_fc | exact tag_fo | exact tag_gg) 0 (by kernel_rfl) (by decide)
  exact SEs_nil
  exact SAsg_nameT (by first | exact tag_fx | exact tag_fc | exact tag_fo | exact tag_gg) 5 (by kernel_rfl)
  refine' SXs_cons ?_ ?_
  refine' SX_assignT (by first | exact tag_fx | exact tag_fc | exact tag_fo | exact tag_gg) 6 ?_ (by kernel_rfl)
  refine' SE_list ?_
  exact SEs_nil
  refine' SXs_cons ?_ ?_
  refine' SX_for 100 ?_ ?_ ?_
  exact SE_locT (by first | exact tag_fx | exact tag_fc | exact tag_fo | exact tag_gg) 3 (by kernel_rfl) (by decide)
  exact SAsg_nameT (by first | exact tag_fx | exact tag_fc | exact tag_fo | exact tag_gg) 4 (by kernel_rfl)
  refine' SXs_cons ?_ ?_
  refine' SX_for 100 ?_ ?_ ?_
  exact SE_locT (by first | exact tag_fx | exact tag_fc | exact tag_fo | exact tag_gg) 4 (by kernel_rfl) (by decide)
  exact SAsg_cell (by assumption)
  refine' SXs_cons ?_ ?_
  refine' SX_comp 1004 1 100 ⟨by kernel_rfl, by kernel_rfl, by decide, by kernel_rfl⟩ (by intro _; kernel_rfl) (by kernel_rfl) (by kernel_rfl) ?_ (fun _ => ?_) (fun _ => ?_) (fun _ => ?_) (hu := ?_) (hsw := by intro _; kernel_rfl); rotate_left 5
  refine' SE_call (f := .type "range") (by assumption) (by intro _; kernel_rfl) (keep_type _) ?_ SCl_range2; rotate_left 1
  refine' SEs_cons ?_ ?_
  exact SE_cell (by assumption)
  exact SEs_nil
  exact SAsg_nameT (by first | exact tag_fx | exact tag_fc | exact tag_fo | exact tag_gg) 0 (by kernel_rfl)
  refine' STs_one ?_
  refine' ST_cmp (SCmp_eq2 (by assumption) (lt_30 hU rfl)) ?_ ?_; rotate_left 2
  refine' SE_sub2 (by assumption) ?_ ?_; rotate_left 2
  exact SE_cell (CellAt.comp (by assumption) (by kernel_rfl))
  exact SE_locT (by first | exact tag_fx | exact tag_fc | exact tag_fo | exact tag_gg) 0 (by kernel_rfl) (by decide)
  refine' SE_sub2 (by assumption) ?_ ?_; rotate_left 2
  exact SE_cell (CellAt.comp (by assumption) (by kernel_rfl))
  exact SE_cell (CellAt.comp (by assumption) (by kernel_rfl))
  exact SE_locT (by first | exact tag_fx | exact tag_fc | exact tag_fo | exact tag_gg) 0 (by kernel_rfl) (by decide)
  exact SAsg_nameT (by first | exact tag_fx | exact tag_fc | exact tag_fo | exact tag_gg) 7 (by kernel_rfl)
  refine' SXs_cons ?_ ?_
  refine' SX_comp 1004 1 100 ⟨by kernel_rfl, by kernel_rfl, by decide, by kernel_rfl⟩ (by intro _; kernel_rfl) (by kernel_rfl) (by kernel_rfl) ?_ (fun _ => ?_) (fun _ => ?_) (fun _ => ?_) (hu := ?_) (hsw := by intro _; kernel_rfl); rotate_left 5
  refine' SE_call (f := .type "range") (by assumption) (by intro _; kernel_rfl) (keep_type _) ?_ SCl_range2; rotate_left 1
  refine' SEs_cons ?_ ?_
  refine' SE_bin (SOp_add (by assumption)) ?_ ?_; rotate_left 2
  exact SE_cell (by assumption)
  exact SE_int
  refine' SEs_cons ?_ ?_
  exact SE_int
  exact SEs_nil
  exact SAsg_nameT (by first | exact tag_fx | exact tag_fc | exact tag_fo | exact tag_gg) 0 (by kernel_rfl)
  refine' STs_one ?_
  refine' ST_cmp (SCmp_eq2 (by assumption) (lt_30 hU rfl)) ?_ ?_; rotate_left 2
  refine' SE_sub2 (by assumption) ?_ ?_; rotate_left 2
  exact SE_cell (CellAt.comp (by assumption) (by kernel_rfl))
  exact SE_locT (by first | exact tag_fx | exact tag_fc | exact tag_fo | exact tag_gg) 0 (by kernel_rfl) (by decide)
  refine' SE_bin SOp_sub ?_ ?_; rotate_left 2
  refine' SE_sub2 (by assumption) ?_ ?_; rotate_left 2
  exact SE_cell (CellAt.comp (by assumption) (by kernel_rfl))
  exact SE_cell (CellAt.comp (by assumption) (by kernel_rfl))
  exact SE_int
  exact SE_locT (by first | exact tag_fx | exact tag_fc | exact tag_fo | exact tag_gg) 0 (by kernel_rfl) (by decide)
  exact SAsg_nameT (by first | exact tag_fx | exact tag_fc | exact tag_fo | exact tag_gg) 8 (by kernel_rfl)
  refine' SXs_cons ?_ ?_
  refine' SX_expr ?_ (by intro _; kernel_rfl)
  refine' SE_append ?_ ?_
  exact SE_locT (by first | exact tag_fx | exact tag_fc | exact tag_fo | exact tag_gg) 6 (by kernel_rfl) (by decide)
  refine' SE_bin (SOp_add (by assumption)) ?_ ?_; rotate_left 2
  refine' SE_call (f := .builtin "len") (by assumption) (by intro _; kernel_rfl) (keep_bi _) ?_ (SCl_lenA (by assumption) (lt_a hD rfl) (lt_a hU rfl)); rotate_left 1
  refine' SEs_cons ?_ ?_
  exact SE_locT (by first | exact tag_fx | exact tag_fc | exact tag_fo | exact tag_gg) 7 (by kernel_rfl) (by decide)
  exact SEs_nil
  refine' SE_call (f := .builtin "len") (by assumption) (by intro _; kernel_rfl) (keep_bi _) ?_ (SCl_lenA (by assumption) (lt_a hD rfl) (lt_a hU rfl)); rotate_left 1
  refine' SEs_cons ?_ ?_
  exact SE_locT (by first | exact tag_fx | exact tag_fc | exact tag_fo | exact tag_gg) 8 (by kernel_rfl) (by decide)
  exact SEs_nil
  exact SXs_nil
  exact SXs_nil
  refine' SXs_cons ?_ ?_
  refine' SX_assignT (by first | exact tag_fx | exact tag_fc | exact tag_fo | exact tag_gg) 9 ?_ (by kernel_rfl)
  refine' SE_call (f := .ref 426) (by assumption) (by intro _; kernel_rfl) (keep_ref (by kernel_rfl)) ?_ (c426 (by assumption) (lt_a hD rfl) (lt_a hU rfl)); rotate_left 1
  refine' SEs_cons ?_ ?_
  exact SE_locT (by first | exact tag_fx | exact tag_fc | exact tag_fo | exact tag_gg) 2 (by kernel_rfl) (by decide)
  exact SEs_nil
  refine' SXs_cons ?_ ?_
  refine' SX_assignT (by first | exact tag_fx | exact tag_fc | exact tag_fo | exact tag_gg) 10 ?_ (by kernel_rfl)
  with_reducible refine' SE_strM "str.join" F.slot_str_join F.type_str_join (by assumption) ?_ ?_ (SCl_join (by assumption)) (hbase := by intro _; with_unfolding_all rfl) (hfew := by intro _; with_unfolding_all rfl) (hline := by with_unfolding_all rfl) (hpl := by intro _; with_unfolding_all rfl); rotate_left 2
  exact SE_str (by rfl)
  refine' SEs_cons ?_ ?_
  refine' SE_comp 1002 1 100 ⟨by kernel_rfl, by kernel_rfl, by decide, by kernel_rfl⟩ (by intro _; kernel_rfl) (by kernel_rfl) (by kernel_rfl) ?_ (fun _ => ?_) (fun _ => ?_) (fun _ => ?_); rotate_left 4
  refine' SE_call (f := .type "range") (by assumption) (by intro _; kernel_rfl) (keep_type _) ?_ SCl_range2; rotate_left 1
  refine' SEs_cons ?_ ?_
  exact SE_int
  exact SEs_nil
  exact SAsg_nameT (by first | exact tag_fx | exact tag_fc | exact tag_fo | exact tag_gg) 0 (by kernel_rfl)
  exact STs_nil
  refine' SE_bin (SOp_add (by assumption)) ?_ ?_; rotate_left 2
  refine' SE_bin (SOp_mul (by assumption)) ?_ ?_; rotate_left 2
  exact SE_str (by rfl)
  refine' SE_sub2 (by assumption) ?_ ?_; rotate_left 2
  exact SE_cell (CellAt.comp (by assumption) (by kernel_rfl))
  exact SE_locT (by first | exact tag_fx | exact tag_fc | exact tag_fo | exact tag_gg) 0 (by kernel_rfl) (by decide)
  refine' SE_sub2 (by assumption) ?_ ?_; rotate_left 2
  exact SE_cell (CellAt.comp (by assumption) (by kernel_rfl))
  exact SE_locT (by first | exact tag_fx | exact tag_fc | exact tag_fo | exact tag_gg) 0 (by kernel_rfl) (by decide)
  exact SEs_nil
  refine' SXs_cons ?_ ?_
  refine' SX_if ?_ ?_ ?_
  refine' ST_or2 ?_ ?_
  refine' ST_cmp (SCmp_ne2 (by assumption) (lt_30 hU rfl)) ?_ ?_; rotate_left 2
  exact SE_locT (by first | exact tag_fx | exact tag_fc | exact tag_fo | exact tag_gg) 1 (by kernel_rfl) (by decide)
  exact SE_int
  refine' ST_cmp (SCmp_ne2 (by assumption) (lt_30 hU rfl)) ?_ ?_; rotate_left 2
  refine' SE_comp 1001 1 100 ⟨by kernel_rfl, by kernel_rfl, by decide, by kernel_rfl⟩ (by intro _; kernel_rfl) (by kernel_rfl) (by kernel_rfl) ?_ (fun _ => ?_) (fun _ => ?_) (fun _ => ?_); rotate_left 4
  refine' SE_call (f := .type "range") (by assumption) (by intro _; kernel_rfl) (keep_type _) ?_ SCl_range2; rotate_left 1
  refine' SEs_cons ?_ ?_
  refine' SE_call (f := .builtin "len") (by assumption) (by intro _; kernel_rfl) (keep_bi _) ?_ (SCl_lenA (by assumption) (lt_a hD rfl) (lt_a hU rfl)); rotate_left 1
  refine' SEs_cons ?_ ?_
  exact SE_locT (by first | exact tag_fx | exact tag_fc | exact tag_fo | exact tag_gg) 3 (by kernel_rfl) (by decide)
  exact SEs_nil
  exact SEs_nil
  exact SAsg_nameT (by first | exact tag_fx | exact tag_fc | exact tag_fo | exact tag_gg) 0 (by kernel_rfl)
  exact STs_nil
  with_reducible refine' SE_strM "str.join" F.slot_str_join F.type_str_join (by assumption) ?_ ?_ (SCl_join (by assumption)) (hbase := by intro _; with_unfolding_all rfl) (hfew := by intro _; with_unfolding_all rfl) (hline := by with_unfolding_all rfl) (hpl := by intro _; with_unfolding_all rfl); rotate_left 2
  exact SE_str (by rfl)
  refine' SEs_cons ?_ ?_
  refine' SE_meth 356 295 (by assumption) ?_ ?_ (c295 (by assumption) (lt_a hD rfl) (lt_a hU rfl)) (hev := fun _ _ _ _ _ h => evA rfl h); rotate_left 2
  exact SE_cell (CellAt.comp (by assumption) (by kernel_rfl))
  refine' SEs_cons ?_ ?_
  refine' SE_call (f := .builtin "chr") (by assumption) (by intro _; kernel_rfl) (keep_bi _) ?_ SCl_chr; rotate_left 1
  refine' SEs_cons ?_ ?_
  refine' SE_bin (SOp_add (by assumption)) ?_ ?_; rotate_left 2
  exact SE_int
  exact SE_locT (by first | exact tag_fx | exact tag_fc | exact tag_fo | exact tag_gg) 0 (by kernel_rfl) (by decide)
  exact SEs_nil
  exact SEs_nil
  exact SEs_nil
  exact SE_locT (by first | exact tag_fx | exact tag_fc | exact tag_fo | exact tag_gg) 5 (by kernel_rfl) (by decide)
  refine' SXs_cons ?_ ?_
  refine' SX_ret ?_
  exact SE_bool
  exact SXs_nil
  exact SXs_nil
  refine' SXs_cons ?_ ?_
  refine' SX_if ?_ ?_ ?_
  refine' ST_or2 ?_ ?_
  refine' ST_cmp (SCmp_ne2 (by assumption) (lt_30 hU rfl)) ?_ ?_; rotate_left 2
  refine' SE_call (f := .ref 412) (by assumption) (by intro _; kernel_rfl) (keep_ref (by kernel_rfl)) ?_ (c412 (by assumption) (lt_a hD rfl) (lt_a hU rfl)); rotate_left 1
  refine' SEs_cons ?_ ?_
  exact SE_locT (by first | exact tag_fx | exact tag_fc | exact tag_fo | exact tag_gg) 2 (by kernel_rfl) (by decide)
  exact SEs_nil
  refine' SE_tup ?_
  refine' SEs_cons ?_ ?_
  exact SE_locT (by first | exact tag_fx | exact tag_fc | exact tag_fo | exact tag_gg) 6 (by kernel_rfl) (by decide)
  refine' SEs_cons ?_ ?_
  with_reducible refine' SE_strM "str.join" F.slot_str_join F.type_str_join (by assumption) ?_ ?_ (SCl_join (by assumption)) (hbase := by intro _; with_unfolding_all rfl) (hfew := by intro _; with_unfolding_all rfl) (hline := by with_unfolding_all rfl) (hpl := by intro _; with_unfolding_all rfl); rotate_left 2
  exact SE_str (by rfl)
  refine' SEs_cons ?_ ?_
  exact SE_locT (by first | exact tag_fx | exact tag_fc | exact tag_fo | exact tag_gg) 5 (by kernel_rfl) (by decide)
  exact SEs_nil
  exact SEs_nil
  refine' ST_cmp (SCmp_ne2 (by assumption) (lt_30 hU rfl)) ?_ ?_; rotate_left 2
  refine' SE_call (f := .ref 419) (by assumption) (by intro _; kernel_rfl) (keep_ref (by kernel_rfl)) ?_ (c419 (by assumption) (lt_a hD rfl) (lt_a hU rfl)); rotate_left 1
  refine' SEs_cons ?_ ?_
  exact SE_locT (by first | exact tag_fx | exact tag_fc | exact tag_fo | exact tag_gg) 2 (by kernel_rfl) (by decide)
  exact SEs_nil
  refine' SE_bin (SOp_add (by assumption)) ?_ ?_; rotate_left 2
  exact SE_locT (by first | exact tag_fx | exact tag_fc | exact tag_fo | exact tag_gg) 6 (by kernel_rfl) (by decide)
  refine' SE_list ?_
  refine' SEs_cons ?_ ?_
  exact SE_int
  exact SEs_nil
  refine' SXs_cons ?_ ?_
  refine' SX_ret ?_
  exact SE_bool
  exact SXs_nil
  exact SXs_nil
  refine' SXs_cons ?_ ?_
  refine' SX_ret ?_
  refine' SE_cmp (SCmp_eq2 (by assumption) (lt_30 hU rfl)) ?_ ?_; rotate_left 2
  refine' SE_tup ?_
  refine' SEs_cons ?_ ?_
  refine' SE_call (f := .type "str") (by assumption) (by intro _; kernel_rfl) (keep_type _) ?_ (SCl_strA (by assumption) (lt_a hD rfl) (lt_a hU rfl)); rotate_left 1
  refine' SEs_cons ?_ ?_
  exact SE_locT (by first | exact tag_fx | exact tag_fc | exact tag_fo | exact tag_gg) 9 (by kernel_rfl) (by decide)
  exact SEs_nil
  refine' SEs_cons ?_ ?_
  refine' SE_call (f := .builtin "len") (by assumption) (by intro _; kernel_rfl) (keep_bi _) ?_ (SCl_lenA (by assumption) (lt_a hD rfl) (lt_a hU rfl)); rotate_left 1
  refine' SEs_cons ?_ ?_
  exact SE_locT (by first | exact tag_fx | exact tag_fc | exact tag_fo | exact tag_gg) 9 (by kernel_rfl) (by decide)
  exact SEs_nil
  refine' SEs_cons ?_ ?_
  refine' SE_methA (.ref 192) "function" (by assumption) ?_ ?_ (c192 (by assumption) (lt_a hD rfl) (lt_a hU rfl)) (hkp := keep_ref (by kernel_rfl)); rotate_left 2
  exact SE_locT (by first | exact tag_fx | exact tag_fc | exact tag_fo | exact tag_gg) 9 (by kernel_rfl) (by decide)
  exact SEs_nil
  exact SEs_nil
  refine' SE_tup ?_
  refine' SEs_cons ?_ ?_
  exact SE_locT (by first | exact tag_fx | exact tag_fc | exact tag_fo | exact tag_gg) 10 (by kernel_rfl) (by decide)
  refine' SEs_cons ?_ ?_
  refine' SE_call (f := .builtin "len") (by assumption) (by intro _; kernel_rfl) (keep_bi _) ?_ (SCl_lenA (by assumption) (lt_a hD rfl) (lt_a hU rfl)); rotate_left 1
  refine' SEs_cons ?_ ?_
  exact SE_locT (by first | exact tag_fx | exact tag_fc | exact tag_fo | exact tag_gg) 10 (by kernel_rfl) (by decide)
  exact SEs_nil
  refine' SEs_cons ?_ ?_
  exact SE_int
  exact SEs_nil
  exact SXs_nil⟩
end
end Mine
set_option genSizeOf false
set_option genInjectivity false
namespace Mine
noncomputable section
open PySem PySem.W PyProof.Rows PySem.Calls
set_option maxRecDepth 100000
set_option maxHeartbeats 0
section
variable {C : Cx} {D U : Nat} {Γ : FE} {μ : List Addr} {σ : St} {s : Shared}
/-- all names stand below -/
noncomputable def Bd (μ : List Addr) (σ : St) (c : Addr) : Prop := ∀ i x b, σ.get i = some x → live x = true → μ[i]? = some b → b < c
theorem Rel.bd (r : Rel C μ σ s) : Bd μ σ s.heap.objs.size := fun i x b e l g => by
  obtain ⟨b', o', g1, g2, _⟩ := r.obj i x e l
  rw [g] at g1
  cases g1
  exact Heap.lt_size g2
theorem Bd.add (h : Bd μ σ c) (hl : μ.length = σ.n) (hn : σ.n < 60000) (vo : VO) : Bd (μ ++ [c]) (σ.add vo) (c + 1) := fun i x b e l g => by
  have hi : σ.n + 1 < 2 ^ 20 := by omega
  have e' : (if i = σ.n then some vo else σ.get i) = some x := by rw [← e]; exact (Tr.get_ins _ _ _ _ _ hi).symm
  split at e'
  · rename_i q
    subst q
    rw [← hl] at g
    simp at g
    subst g
    exact Nat.lt_succ_self _
  · by_cases hlt : i < μ.length
    · rw [List.getElem?_append_left hlt] at g
      exact Nat.lt_succ_of_lt (h i x b e' l g)
    · rename_i q
      rw [List.getElem?_append_right (by omega)] at g
      have : i - μ.length = 0 ∨ 1 ≤ i - μ.length := by omega
      rcases this with h0 | h0
      · omega
      · rw [List.getElem?_eq_none (by simpa using h0)] at g
        cases g
theorem Rel.addCell (r : Rel C μ σ s) {c : Addr} (hb : Bd μ σ c) {o : Obj} {w : Option Value} {v : Option V} (ho : s.heap.get? c = some o) (hd : o.data = .cell w) (rv : RO C μ v w) (hC : C.h.get? c = none) (hT : c ∉ tabs) (hn : σ.n < 60000) :
    Rel C (μ ++ [c]) (σ.add (.cell v)) s :=
  r.addF (fun i x b e l g => Nat.ne_of_lt (hb i x b e l g)) hC hT ho hn ⟨w, hd, rv.ext (List.prefix_append _ _)⟩
theorem above_C (r : Rel C μ σ s) {c : Addr} (hc : s.heap.objs.size ≤ c) : C.h.get? c = none := by
  cases z : C.h.get? c with
  | none => rfl
  | some o => exact absurd (Heap.lt_size (r.old _ o z)) (Nat.not_lt.mpr hc)
theorem above_T (r : Rel C μ σ s) {c : Addr} (hc : s.heap.objs.size ≤ c) : c ∉ tabs := fun ht => by
  obtain ⟨vs, e, _⟩ := (r.tab _ ht).2
  exact absurd (Heap.lt_size e) (Nat.not_lt.mpr hc)
end
end
end Mine
set_option genSizeOf false
set_option genInjectivity false
namespace Mine
noncomputable section
open PySem PySem.W PyProof.Rows PySem.Calls
set_option maxRecDepth 100000
set_option maxHeartbeats 0
structure DefOkCN (f : Addr) (x : Str) (cs : Nat → List (Str × Addr)) : Prop where
  K : ∀ p, (KF p).lookup f = some ⟨.type "function", none, .func (fdOf f), #[]⟩
  cd : ∀ p, codeIn (KF p) (fdOf f).code (fdOf f).qualname = true
  body : (fdOf f).body = .stmts (bodyOf f)
  co : (fdOf f).scope.isCoroutine = false
  gen : (fdOf f).scope.isGenerator = false
  kind : (fdOf f).scope.kind = .function
  bind : ∀ a, bindArgs (fdOf f) ⟨[a], []⟩ = pure [(x, a)]
  cells : ∀ n, cellsFrom n (fdOf f).scope.names [] = cs n
  clo : (fdOf f).closure = []
theorem do431 : DefOkCN 431 "script" (fun n => [("table", n + 4), ("labels", n + 3), ("k", n + 2), ("heights", n + 1), ("told", n)]) := ⟨by intro _; kernel_rfl, by intro _; kernel_rfl, by kernel_rfl, by kernel_rfl, by kernel_rfl, by kernel_rfl, by intro _; kernel_rfl, by intro _; kernel_rfl, by kernel_rfl⟩
theorem k431 : (fdOf 431).scope.names.lookup ("script" : Str) = some .local := by kernel_rfl
noncomputable def lawM (h : Nat → Int) : M V := bnd (alloc (.fr 431 (some (.ref 0) :: List.replicate 10 none))) fun r => bnd (alloc (.cell none)) fun _ => bnd (alloc (.cell none)) fun _ => bnd (alloc (.cell none)) fun _ => bnd (alloc (.cell none)) fun _ => bnd (alloc (.cell none)) fun _ => match r with
  | .ref l => bnd ((d431 h l).1 l) fun fl => ret (retOf fl)
  | _ => no
section
variable {C : Cx} {D U : Nat} {Γ : FE} {s : Shared}
theorem law_call {h : Nat → Int} {a : Addr} (ok : CxOk C) (hh : HgtOk C h) (ht : ToldX C a) (r : Rel C [a] ⟨1, .nil⟩ s) {A : Around} (hA : AOk 310 1000 A) {b : V} {σ' : St} (e : lawM h ⟨1, .nil⟩ = some (b, σ')) {Q : Value → Shared → Prop} {E : Value → Shared → Prop}
    (q : ∀ μ' s' w, Rel C μ' σ' s' → RV C μ' b w → Q w s') : wpAny (model P C.w) A (call (.ref 431) [.ref a]) Q E s := by
  unfold lawM at e
  refine bnd_e e fun r0 σ0 e0 e => ?_
  obtain ⟨hz0, f0, g0⟩ := alloc_some e0
  simp only at f0 g0
  subst f0 g0
  refine bnd_e e fun r1 σ1 e1 e => ?_
  obtain ⟨hz1, f1, g1⟩ := alloc_some e1
  simp only at f1 g1
  subst f1 g1
  refine bnd_e e fun r2 σ2 e2 e => ?_
  obtain ⟨hz2, f2, g2⟩ := alloc_some e2
  simp only at f2 g2
  subst f2 g2
  refine bnd_e e fun r3 σ3 e3 e => ?_
  obtain ⟨hz3, f3, g3⟩ := alloc_some e3
  simp only at f3 g3
  subst f3 g3
  refine bnd_e e fun r4 σ4 e4 e => ?_
  obtain ⟨hz4, f4, g4⟩ := alloc_some e4
  simp only at f4 g4
  subst f4 g4
  refine bnd_e e fun r5 σ5 e5 e => ?_
  obtain ⟨hz5, f5, g5⟩ := alloc_some e5
  simp only at f5 g5
  subst f5 g5
  refine bnd_e e fun fl σ6 e6 e7 => ?_
  (first | (have q := qc e7 q) | (have q := qcB e7 q) | cases e7)
  have X := r.K ok
  have kL : (callEnvC (fdOf 431) s.heap.objs.size 431).kindOf ("script" : Str) = some .local := k431
  refine wpAny_call ?_
  refine codeAny_call_cells (binds := [("script", .ref a)]) (Nat.lt_of_le_of_lt hA.dp (by decide)) (X _ _ (do431.K _)) rfl (ok.lim.keeps r.old) (codeRec_of X (do431.cd _)) do431.body (do431.bind _) do431.clo
    (fun y hy => by
      rcases List.mem_cons.mp hy with rfl | hy
      · exact .inl k431
      · cases hy) (fun s₁ I => ?_) do431.co do431.gen do431.kind
  have hL : bindL (callEnvC (fdOf 431) s.heap.objs.size 431).kindOf [("script", .ref a)] (fun _ => none) = fun (y : Str) => if y = ("script" : Str) then some (Value.ref a) else none := by
    simp only [bindL, kL, if_true]
  have hCm : bindC (callEnvC (fdOf 431) s.heap.objs.size 431).kindOf [("script", .ref a)] (fun _ => none) = fun _ => none := by
    simp only [bindC, kL, if_true]
  rw [hL, hCm] at I
  obtain ⟨h', tk, hs₁⟩ := I.toInCall.same
  subst hs₁
  have keep := I.toInCall.keep
  have hns : h'.Ns s.heap.objs.size _ := I.toInCall.ns
  have cell : ∀ (n : Str) (c : Addr), ([("table", s.heap.objs.size + 1 + 4), ("labels", s.heap.objs.size + 1 + 3), ("k", s.heap.objs.size + 1 + 2), ("heights", s.heap.objs.size + 1 + 1), ("told", s.heap.objs.size + 1)] : List (Str × Addr)).lookup n = some c → h'.IsCell c none := fun n c hc => by
    have := I.cell n c (by
      show (cellsFrom (s.heap.objs.size + 1) (fdOf 431).scope.names []).lookup n = some c
      rw [do431.cells]; exact hc)
    exact this
  dsimp only at keep
  have c0 := cell "told" (s.heap.objs.size + 1) (by rfl)
  have c1 := cell "heights" (s.heap.objs.size + 1 + 1) (by rfl)
  have c2 := cell "k" (s.heap.objs.size + 1 + 2) (by rfl)
  have c3 := cell "labels" (s.heap.objs.size + 1 + 3) (by rfl)
  have c4 := cell "table" (s.heap.objs.size + 1 + 4) (by rfl)
  have at0 : ([a] ++ [s.heap.objs.size])[0]? = some a := rfl
  obtain ⟨o, ho, hr⟩ := ns_to (C := C) (μ := [a] ++ [s.heap.objs.size]) (tag := 431) (vs := some (.ref 0) :: List.replicate 10 none) hns (by decide) (by
    intro i y hy
    cases i with
    | zero =>
      cases hy
      show RQ C _ (some (.ref 0)) (if ("script" : Str) = "script" then some (.ref a) else none)
      refine rwG (if_pos rfl) ?_
      exact .some (.ref 0 a at0)
    | succ i =>
      have : ((some (V.ref 0) :: List.replicate 10 none)[i + 1]?).getD none = (none : Option V) := by
        refine rwG (List.getElem?_cons_succ) ?_; refine rwG (List.getElem?_replicate) ?_
        split <;> rfl
      refine rwG (this) ?_
      exact .none)
  have q0 := r.add (t := tk) (d := s.drawn) keep (get_size_none _) ho hz0 hr
  have b0 := (r.bd).add (c := s.heap.objs.size) rfl hz0 (.fr 431 (some (.ref 0) :: List.replicate 10 none))
  have above : ∀ k, C.h.get? (s.heap.objs.size + k) = none := fun k => above_C r (Nat.le_add_right _ _)
  have aboveT : ∀ k, s.heap.objs.size + k ∉ tabs := fun k => above_T r (Nat.le_add_right _ _)
  obtain ⟨o0, h0, d0⟩ := c0
  obtain ⟨o1, h1, d1⟩ := c1
  obtain ⟨o2, h2, d2⟩ := c2
  obtain ⟨o3, h3, d3⟩ := c3
  obtain ⟨o4, h4, d4⟩ := c4
  have q1 := q0.addCell b0 (v := none) h0 d0 .none (above _) (aboveT _) hz1
  have b1 := b0.add (by rw [q0.len]) hz1 (.cell none)
  have q2 := q1.addCell b1 (v := none) h1 d1 .none (above (1 + 1)) (aboveT (1 + 1)) hz2
  have b2 := b1.add (by rw [q1.len]) hz2 (.cell none)
  have q3 := q2.addCell b2 (v := none) h2 d2 .none (above (1 + 2)) (aboveT (1 + 2)) hz3
  have b3 := b2.add (by rw [q2.len]) hz3 (.cell none)
  have q4 := q3.addCell b3 (v := none) h3 d3 .none (above (1 + 3)) (aboveT (1 + 3)) hz4
  have b4 := b3.add (by rw [q3.len]) hz4 (.cell none)
  have q5 := q4.addCell b4 (v := none) h4 d4 .none (above (1 + 4)) (aboveT (1 + 4)) hz5
  have hb := (d431 h 1).2 C ok hh a ht 311 1003 (by decide) (by decide) s.heap.objs.size 1 s.heap.objs.size ([a] ++ [s.heap.objs.size] ++ [s.heap.objs.size + 1] ++ [s.heap.objs.size + 1 + 1] ++ [s.heap.objs.size + 1 + 2] ++ [s.heap.objs.size + 1 + 3] ++ [s.heap.objs.size + 1 + 4]) ⟨fun i hi => by
    have : i = 0 ∨ i = 1 ∨ i = 2 ∨ i = 3 ∨ i = 4 := by omega
    rcases this with rfl | rfl | rfl | rfl | rfl <;> rfl, rfl⟩ rfl
  refine hb _ (hA.deeper _) _ _ q5 fl _ e6 _ _ fun μ' s' w hp r' hf => ?_
  induction hf with
  | ret hv => exact q μ' s' _ r' hv
  | next => exact q μ' s' _ r' .none
  | brk => exact q μ' s' _ r' .none
  | cont => exact q μ' s' _ r' .none
end
end
end Mine
set_option genSizeOf false
set_option genInjectivity false
namespace Mine
noncomputable section
open PySem PySem.W PyProof.Rows PySem.Calls
set_option maxRecDepth 100000
set_option maxHeartbeats 0
/-! the script: its ints, their remainders, their sums -/
noncomputable def idx (n k : Nat) : List Nat := [k, k + 6, k + 12, k + 18].filter (Nat.blt · n)
noncomputable def seedOf : Nat → Int
  | 0 => 841 | 1 => 422 | 2 => 4201 | 3 => 2 | 4 => 2100 | _ => 3780
noncomputable def valOf (C : Cx) (n k i : Nat) : Int := ((idx n k)[i]?.map (fun j => C.nm (200 + j))).getD 0
structure ScrOk (C : Cx) (a : Addr) (n : Nat) : Prop where
  len : n ≤ 63
  ls : ∃ ws : Array Value, C.h.IsList a ws ∧ ws.size = n ∧ ∀ i, i < n → ∃ t, ws[i]? = some (.int (C.nm (100 + i)) t)
  md : ∀ i, i < 24 → C.nm (200 + i) = Int.fmod (C.nm (100 + i)) 1000000
  sm : ∀ k, k < 6 → C.nm (300 + k) = preSum (valOf C n k) (idx n k).length
  td : ∀ k, k < 6 → C.told ((k + 1) % 6) = seedOf k + C.nm (300 + k)
noncomputable def scrVs (n : Nat) : List V := (List.range n).map fun i => .nm (100 + i)
section
variable {C : Cx} {D U : Nat} {Γ : FE}
theorem scr_rvs {n : Nat} {μ : List Addr} {ws : Array Value} (hs : ws.size = n) (hw : ∀ i, i < n → ∃ t, ws[i]? = some (.int (C.nm (100 + i)) t)) : RVs C μ (scrVs n) ws.toList := by
  have key : ∀ (m : Nat) (l : List Value) (o : Nat), l.length = m → (∀ i, i < m → ∃ t, l[i]? = some (.int (C.nm (100 + (o + i))) t)) → RVs C μ ((List.range' o m).map fun i => .nm (100 + i)) l := by
    intro m
    induction m with
    | zero => intro l o hl _; have := List.eq_nil_of_length_eq_zero hl; subst this; exact .nil
    | succ m ih =>
      intro l o hl h
      induction l with
      | nil => (first | exact nn hl | cases hl)
      | cons x l =>
        refine rwG (List.range'_succ) ?_; refine rwG (List.map_cons) ?_
        obtain ⟨t, ht⟩ := h 0 (by omega)
        cases ht
        refine .cons (.nm (100 + (o + 0)) t) (ih l (o + 1) (by simpa using hl) fun i hi => ?_)
        obtain ⟨t, ht⟩ := h (i + 1) (by omega)
        rw [List.getElem?_cons_succ] at ht
        refine rwG (show o + 1 + i = o + (i + 1) by omega) ?_
        exact ⟨t, ht⟩
  unfold scrVs
  refine rwG (List.range_eq_range') ?_
  exact key n ws.toList 0 (by simpa using hs) fun i hi => by
    obtain ⟨t, ht⟩ := hw i hi
    rw [Nat.zero_add]
    exact ⟨t, by rw [Array.getElem?_toList]; exact ht⟩
noncomputable def scrSl (n : Nat) (v i : V) : M V := fun σ => match v with
  | .ref 0 => match slcAt i σ with
    | some (lo, hi, st) => alloc (.list (pickV (scrVs n) lo hi st)) σ
    | none => none
  | _ => none
theorem SE_scrSl {value : Expr} {lo hi st : Option Expr} {p pos : Pos} {f g : Nat → M V} {a : Addr} {n : Nat} (ho : ScrOk C a n) (hz0 : ∀ μ, Γ.ok μ → μ[0]? = some a) (h1 : SE C D U Γ value f) (h2 : SE C D U Γ (.Slice lo hi st p) g) :
    SE C D U Γ (.Subscript value (.Slice lo hi st p) pos) (fun l => bnd (f l) fun v => bnd (g l) fun i => scrSl n v i) := fun l L μ hok hl A hA σ s r b σ' e Q E q => by
  refine bnd_e e fun v σ₁ e1 e => ?_
  refine bnd_e e fun i σ₂ e2 e => ?_
  refine Subscript_ ?_
  refine h1 l L μ hok hl A hA σ s r v σ₁ e1 _ E fun μ' s' w hp r' rv => ?_
  refine h2 l L μ' (Γ.mono hp hok) (mu_ext hp hl) A hA σ₁ s' r' i σ₂ e2 _ E fun μ'' s'' wi hp' r'' ri => ?_
  have p2 := List.IsPrefix.trans hp hp'
  unfold scrSl at e
  split at e
  · split at e
    · rename_i lo' hi' st' hs
      obtain ⟨m, vl, vu, vs, rfl, g1, g2, g3, g4, g5⟩ := slcAt_some hs
      have hsub : ∀ o i, ∃ l, subscripted (.Slice lo hi st p) false o i = operate l (getItem o i) := fun o i => by cases st <;> exact ⟨_, rfl⟩
      refine RV.eRef ri fun sa hm => ?_
      obtain ⟨wl, wu, wst, hsl, r1, r2, r3⟩ := slc_is r'' hm g1
      refine RV.eRef rv fun ad hn => ?_
      have h0 := mu_ext hp (hz0 μ hok)
      rw [hn] at h0
      cases h0
      obtain ⟨hz, e3, e4⟩ := alloc_some e
      simp only at e3 e4
      subst e3 e4
      obtain ⟨ws, hls, hsz, hw⟩ := ho.ls
      have hl' : s''.heap.IsList a ws := let ⟨o, ho', rest⟩ := hls; ⟨o, r''.old _ _ ho', rest⟩
      have rvs : RVs C μ'' (scrVs n) ws.toList := scr_rvs hsz hw
      refine sub_tail (gip_type hl'.typeIs F.slot_list_getitem.lookup) (wpAny_getItem_list_slice hl' hsl (partV_is r1 g2) (partV_is r2 g3) (partV_is r3 g4) (nz_ne g5) ?_ (by have := ho.len; rw [hsz, sizeLine_eq]; omega)) (hsub _ _)
      exact q _ _ _ (List.IsPrefix.trans p2 (List.prefix_append _ _)) (r''.alloc rfl hz ⟨_, 0, rfl, (pick_rel rvs _ _ _).ext (List.prefix_append _ _)⟩) (ref_new r'')
    · (first | exact nn e | cases e)
  · (first | exact nn e | cases e)
noncomputable def modX (a b : V) : M V := fun σ => match a, b with
  | .nm i, .int c => match Nat.ble 100 i && Nat.blt i 124 && decide (c = 1000000) with
    | true => some (.nm (i + 100), σ)
    | false => none
  | _, _ => none
theorem SOp_modX {a : Addr} {n : Nat} (ho : ScrOk C a n) : SOp C D U .Mod modX := fun a b wa wb μ ra rb A hA σ s r v σ' e Q E q => by
  unfold modX at e
  induction ra with
  | nm i t =>
    induction rb with
    | int c u =>
      simp only at e
      split at e
      · rename_i hb
        (first | (have q := qc e q) | (have q := qcB e q) | cases e)
        simp only [Bool.and_eq_true, decide_eq_true_eq] at hb
        obtain ⟨⟨h1, h2⟩, h3⟩ := hb
        have h1 : 100 ≤ i := Nat.le_of_ble_eq_true h1
        have h2 : i < 124 := Nat.le_of_ble_eq_true h2
        have hm := ho.md (i - 100) (by omega)
        rw [show 200 + (i - 100) = i + 100 by omega, show 100 + (i - 100) = i by omega] at hm
        refine rwG (h3) ?_
        refine PyProof.Rows.mod_int (by decide) (q μ _ _ (List.prefix_refl _) (r.toks _ _ _ _ rfl rfl) ?_)
        refine rwH (hm) ?_
        exact .nm _ _
      · (first | exact nn e | cases e)
    | _ => (first | exact nn e | cases e)
  | _ => (first | exact nn e | cases e)
noncomputable def addX (a b : V) : M V := fun σ => match a, b with
  | .int s, .nm i => match Nat.ble 300 i && Nat.blt i 306 && decide (s = seedOf (i - 300)) with
    | true => some (.tn ((i - 300 + 1) % 6), σ)
    | false => none
  | _, _ => none
theorem SOp_addX {a : Addr} {n : Nat} (ho : ScrOk C a n) : SOp C D U .Add addX := fun a b wa wb μ ra rb A hA σ s r v σ' e Q E q => by
  unfold addX at e
  induction ra with
  | int sd t =>
    induction rb with
    | nm i u =>
      simp only at e
      split at e
      · rename_i hb
        (first | (have q := qc e q) | (have q := qcB e q) | cases e)
        simp only [Bool.and_eq_true, decide_eq_true_eq] at hb
        obtain ⟨⟨h1, h2⟩, h3⟩ := hb
        have h1 : 300 ≤ i := Nat.le_of_ble_eq_true h1
        have h2 : i < 306 := Nat.le_of_ble_eq_true h2
        have hm := ho.td (i - 300) (by omega)
        rw [show 300 + (i - 300) = i by omega] at hm
        refine rwG (h3) ?_
        refine PySem.wpAny_add_int (q μ _ _ (List.prefix_refl _) (r.toks _ _ _ _ rfl rfl) ?_)
        refine rwH (hm) ?_
        exact .tn _ _
      · (first | exact nn e | cases e)
    | _ => (first | exact nn e | cases e)
  | _ => (first | exact nn e | cases e)
noncomputable def nmL : List V → Option (List Nat)
  | [] => some []
  | .nm i :: r => match nmL r with
    | some l => some (i :: l)
    | none => none
  | _ :: _ => none
theorem nmL_eq : ∀ {xs : List V} {l : List Nat}, nmL xs = some l → xs = l.map .nm
  | [], _, h => by cases h; rfl
  | .nm i :: r, l, h => by
    unfold nmL at h
    split at h
    · rename_i l' e
      (first | (have q := qc h q) | (have q := qcB h q) | cases h)
      rw [nmL_eq e]; rfl
    · (first | exact nn h | cases h)
  | .none :: _, _, h => by cases h
  | .bool _ :: _, _, h => by cases h
  | .int _ :: _, _, h => by cases h
  | .str _ :: _, _, h => by cases h
  | .byt _ :: _, _, h => by cases h
  | .tn _ :: _, _, h => by cases h
  | .ln _ :: _, _, h => by cases h
  | .ref _ :: _, _, h => by cases h
  | .old _ :: _, _, h => by cases h
  | .txt _ :: _, _, h => by cases h
noncomputable def kOf (l : Nat) (σ : St) : Option Nat := match σ.get l with
  | some (.fr t vs) => match vs with
    | [some (.int (.ofNat k))] => match Nat.beq t 1002 && Nat.blt k 6 with
      | true => some k
      | false => none
    | _ => none
  | _ => none
noncomputable def sumS (n l : Nat) (vs : List V) : M V := fun σ => match vs with
  | [.ref m] => match σ.get m with
    | some (.list xs) => match nmL xs with
      | some is => match kOf l σ with
        | some k => match natsB is ((idx n k).map (200 + ·)) && Nat.blt k 6 with
          | true => some (.nm (300 + k), σ)
          | false => none
        | none => none
      | none => none
    | _ => none
  | _ => none
theorem idx_lt {n k i j : Nat} (hk : k < 6) (h : (idx n k)[i]? = some j) : j < 24 := by
  have hm := List.mem_of_getElem? h
  unfold idx at hm
  have := (List.mem_filter.mp hm).1
  simp at this
  omega
theorem idx_len (n k : Nat) : (idx n k).length ≤ 4 := by
  unfold idx
  exact List.length_filter_le _ _
theorem sum_snd {a : Addr} {n l : Nat} (ho : ScrOk C a n) {vs : List V} {ws : List Value} {μ : List Addr} (rv : RVs C μ vs ws) : Snd C D U (RV C) (call (.builtin "sum") ws) (sumS n l vs) μ := fun A hA σ s r b σ' e Q E q => by
  unfold sumS at e
  split at e
  · rename_i m
    split at e
    · rename_i xs g1
      split at e
      · rename_i is hnm
        split at e
        · rename_i k hk
          split at e
          · rename_i hb
            (first | (have q := qc e q) | (have q := qcB e q) | cases e)
            rw [Bool.and_eq_true] at hb
            have his := natsB_eq hb.1
            have hk6 : k < 6 := Nat.le_of_ble_eq_true hb.2
            have hxs := nmL_eq hnm
            subst his hxs
            refine RVs.eCons rv fun _ _ h t => ?_
            refine RVs.eNil t ?_
            refine RV.eRef h fun T hT => ?_
            refine Rel.at_e r g1 hT (fun o hob hr => ?_)
            obtain ⟨us, hl, rvs⟩ := list_of hob hr
            have hsz : us.size = (idx n k).length := by have := rvs.len; simpa using this
            have hval : ∀ i v, us[i]? = some v → ∃ t, v = Value.int (valOf C n k i) t := fun i v hv => by
              have hi : i < us.size := (Array.getElem?_eq_some_iff.mp hv).1
              have hxi : ((List.map (fun x => 200 + x) (idx n k)).map V.nm)[i]? = some (.nm (200 + (idx n k)[i]'(by omega))) := by
                simp [List.getElem?_map, List.getElem?_eq_getElem (show i < (idx n k).length by omega)]
              obtain ⟨y, hy, ry⟩ := rvs.get hxi
              rw [Array.getElem?_toList, hv] at hy
              cases hy
              refine RV.eNm ry fun t => ?_
              ·
                refine ⟨t, ?_⟩
                unfold valOf
                refine rwG (List.getElem?_eq_getElem (show i < (idx n k).length by omega)) ?_
                rfl
            have hbd : ∀ j, 0 ≤ valOf C n k j ∧ valOf C n k j < 1000000 := fun j => by
              unfold valOf
              cases hj : (idx n k)[j]? with
              | none => simp
              | some i =>
                have hi := idx_lt hk6 hj
                show 0 ≤ C.nm (200 + i) ∧ C.nm (200 + i) < 1000000
                refine rwG (ho.md i hi) ?_
                exact ⟨Int.fmod_nonneg_of_pos _ (by decide), Int.fmod_lt_of_pos _ (by decide)⟩
            have hps : ∀ j : Nat, 0 ≤ preSum (valOf C n k) j ∧ preSum (valOf C n k) j ≤ j * 1000000 := fun j => by
              induction j with
              | zero => exact ⟨Int.le_refl _, Int.le_refl _⟩
              | succ j ih =>
                have h1 : preSum (valOf C n k) (j + 1) = preSum (valOf C n k) j + valOf C n k j := rfl
                have h2 := hbd j
                refine rwG (h1) ?_
                constructor <;> omega
            have hlen := idx_len n k
            refine call_sum_walk (wpAny_pyIter_list hl ?_)
            refine ⟨s.heap.objs.size, [s.heap.objs.size, T], [s.heap.objs.size], us.size, (fun i v => us[i]? = some v), (fun i h => h.IsListIter s.heap.objs.size T i ∧ h.IsList T us), valOf C n k, rfl, Walks.list hA.in1.hd _ T (Nat.ne_of_lt (Heap.lt_size hob)) us, ⟨⟨_, Heap.get?_push_size _ rfl, rfl, rfl⟩, hl.push _⟩, fun b hb => ?_, hval, fun j hj => ?_, fun h' tk t' hk' => ?_⟩
            · have hbs : b = s.heap.objs.size ∨ b = T := by simpa using hb
              rw [Heap.size_push]
              rcases hbs with rfl | rfl
              · exact Nat.lt_succ_self _
              · exact Nat.lt_succ_of_lt (Heap.lt_size hob)
            · have h1 := hbd j
              have h2 := hps (j + 1)
              unfold InLong
              constructor <;> constructor <;> omega
            · have : preSum (valOf C n k) us.size = C.nm (300 + k) := by rw [hsz, ho.sm k hk6]
              refine rwG (this) ?_
              exact q μ _ _ (List.prefix_refl _) (r.grow fun b o e => hk' b o (by simpa using Nat.ne_of_lt (Heap.lt_size e)) (Heap.get?_push_of_some _ e)) (.nm _ _)
          · (first | exact nn e | cases e)
        · (first | exact nn e | cases e)
      · (first | exact nn e | cases e)
    · (first | exact nn e | cases e)
  · (first | exact nn e | cases e)
theorem SE_sumS {p pos : Pos} {es : List Expr} {fa : Nat → M (List V)} {a : Addr} {n : Nat} (ok : CxOk C) (ho : ScrOk C a n) (hn : ∀ L, peek (KF C.w.params) ⟨P, C.w.params⟩ (loadName (Γ.env L) "sum") = some (.builtin "sum"))
    (ha : SEs C D U Γ es fa) (hpl : autoParam (∀ env, (backTo pos (starEach es env)).any (·.1) = false) au1._auto_1) :
    SE C D U Γ (.Call (.Name "sum" p) es [] pos) (fun l => bnd (fa l) (sumS n l)) := fun l L μ hok hl A hA σ s r b σ' e Q E q => by
  refine bnd_e e fun vs σ₁ e1 e2 => ?_
  refine wpAny_Call_NameR (wpAny_Name ?_ (by decide))
  refine (Looks.of_peek (M := model P C.w) (r.K ok) (hn L)).here ?_
  refine callWith_of (P := fun h => (KF C.w.params).In h) (by rw [hpl]; rfl) (keep_bi _) (evA (hpl _) ?_)
  refine ha l L μ pos hok hl A hA σ s r vs σ₁ e1 _ E fun μ' s' ws hp r' rvs => ⟨r'.K ok, ?_⟩
  exact sum_snd ho rvs A hA σ₁ s' r' b σ' e2 Q E fun μ'' s'' a hp' => q μ'' s'' a (List.IsPrefix.trans hp hp')
theorem ok_fx {tag : Nat} {scope : Scope} {co : CompOk tag scope} {a L : Addr} : ∀ μ, (FC tag scope co (FX Γ a) L).ok μ → μ[0]? = some a := fun _ h => h.2
end
end
end Mine
set_option genSizeOf false
set_option genInjectivity false
namespace Mine
noncomputable section
open PySem PySem.W PyProof.Rows PySem.Calls
set_option maxRecDepth 100000
set_option maxHeartbeats 0
theorem ok365 : GOkC 365 := ⟨by kernel_rfl, by kernel_rfl, by kernel_rfl, by kernel_rfl, by decide⟩
noncomputable def d365 (n l0 : Nat) : {g : Nat → M VF // ∀ C, CxOk C → ∀ a, ScrOk C a n → ∀ D U, D < 400 → U < 4000 → ∀ L0, SXs C D U (FX (GC 365 ok365 2 l0 L0) a) (bodyOf 365) g} := ⟨_, fun C ok a ho D U hD hU L0 => by
  have c0 : CellAt (FX (GC 365 ok365 2 l0 L0) a) "script" (l0 + 1 + 0) (L0 + 1 + 0) := (GC_cell 0 (by decide) (by kernel_rfl) (by kernel_rfl)).fx
  have c1 : CellAt (FX (GC 365 ok365 2 l0 L0) a) "seeds" (l0 + 1 + 1) (L0 + 1 + 1) := (GC_cell 1 (by decide) (by kernel_rfl) (by kernel_rfl)).fx
  refine' SXs_cons ?_ ?_
  refine' SX_assignC (by assumption) ?_; rotate_left 1
  refine' SE_list ?_
  refine' SEs_cons ?_ ?_
  exact SE_int
  refine' SEs_cons ?_ ?_
  exact SE_int
  refine' SEs_cons ?_ ?_
  exact SE_int
  refine' SEs_cons ?_ ?_
  exact SE_int
  refine' SEs_cons ?_ ?_
  exact SE_int
  refine' SEs_cons ?_ ?_
  exact SE_int
  exact SEs_nil
  refine' SXs_cons ?_ ?_
  refine' SX_comp 1002 1 100 ⟨by kernel_rfl, by kernel_rfl, by decide, by kernel_rfl⟩ (by intro _; kernel_rfl) (by kernel_rfl) (by kernel_rfl) ?_ (fun _ => ?_) (fun _ => ?_) (fun _ => ?_) (hu := ?_) (hsw := by intro _; kernel_rfl); rotate_left 5
  refine' SE_call (f := .type "range") (by assumption) (by intro _; kernel_rfl) (keep_type _) ?_ SCl_range2; rotate_left 1
  refine' SEs_cons ?_ ?_
  exact SE_int
  exact SEs_nil
  exact SAsg_nameT (by first | exact tag_fx | exact tag_fc | exact tag_fo | exact tag_gg) 0 (by kernel_rfl)
  exact STs_nil
  refine' SE_bin (SOp_addX (by assumption)) ?_ ?_; rotate_left 2
  refine' SE_sub2 (by assumption) ?_ ?_; rotate_left 2
  exact SE_cell (CellAt.comp (by assumption) (by kernel_rfl))
  exact SE_locT (by first | exact tag_fx | exact tag_fc | exact tag_fo | exact tag_gg) 0 (by kernel_rfl) (by decide)
  refine' SE_sumS (by assumption) (by assumption) (by intro _; kernel_rfl) ?_; rotate_left 1
  refine' SEs_cons ?_ ?_
  refine' SE_comp 1008 1 100 ⟨by kernel_rfl, by kernel_rfl, by decide, by kernel_rfl⟩ (by intro _; kernel_rfl) (by kernel_rfl) (by kernel_rfl) ?_ (fun _ => ?_) (fun _ => ?_) (fun _ => ?_); rotate_left 4
  refine' SE_scrSl (by assumption) ok_fx ?_ ?_; rotate_left 2
  exact SE_cell (CellAt.comp (by assumption) (by kernel_rfl))
  refine' SE_slice ?_ ?_ ?_
  refine' SP_some ?_
  exact SE_locT (by first | exact tag_fx | exact tag_fc | exact tag_fo | exact tag_gg) 0 (by kernel_rfl) (by decide)
  refine' SP_some ?_
  exact SE_int
  refine' SP_some ?_
  exact SE_int
  exact SAsg_nameT (by first | exact tag_fx | exact tag_fc | exact tag_fo | exact tag_gg) 0 (by kernel_rfl)
  exact STs_nil
  refine' SE_bin (SOp_modX (by assumption)) ?_ ?_; rotate_left 2
  exact SE_locT (by first | exact tag_fx | exact tag_fc | exact tag_fo | exact tag_gg) 0 (by kernel_rfl) (by decide)
  exact SE_int
  exact SEs_nil
  exact SAsg_nameT (by first | exact tag_fx | exact tag_fc | exact tag_fo | exact tag_gg) 0 (by kernel_rfl)
  refine' SXs_cons ?_ ?_
  refine' SX_ret ?_
  refine' SE_bin (SOp_add (by assumption)) ?_ ?_; rotate_left 2
  refine' SE_subS (by assumption) ?_ ?_; rotate_left 2
  exact SE_locT (by first | exact tag_fx | exact tag_fc | exact tag_fo | exact tag_gg) 0 (by kernel_rfl) (by decide)
  refine' SE_slice ?_ ?_ ?_
  refine' SP_some ?_
  exact SE_int
  exact SP_none
  exact SP_none
  refine' SE_subS (by assumption) ?_ ?_; rotate_left 2
  exact SE_locT (by first | exact tag_fx | exact tag_fc | exact tag_fo | exact tag_gg) 0 (by kernel_rfl) (by decide)
  refine' SE_slice ?_ ?_ ?_
  exact SP_none
  refine' SP_some ?_
  exact SE_int
  exact SP_none
  exact SXs_nil⟩
theorem do365 : DefOkCN 365 "script" (fun n => [("seeds", n + 1), ("script", n)]) := ⟨by intro _; kernel_rfl, by intro _; kernel_rfl, by kernel_rfl, by kernel_rfl, by kernel_rfl, by kernel_rfl, by intro _; kernel_rfl, by intro _; kernel_rfl, by kernel_rfl⟩
theorem k365 : (fdOf 365).scope.names.lookup ("script" : Str) = some .cell := by kernel_rfl
noncomputable def toldF (n : Nat) : M V := bnd (alloc (.fr 365 [none])) fun r => bnd (alloc (.cell (some (.ref 0)))) fun _ => bnd (alloc (.cell none)) fun _ => match r with
  | .ref l => bnd ((d365 n l).1 l) fun fl => ret (retOf fl)
  | _ => no
noncomputable def toldsB : List V → Nat → Bool
  | [], k => Nat.beq k 6
  | .tn i :: r, k => match Nat.beq i k with
    | true => toldsB r (k + 1)
    | false => false
  | _ :: _, _ => false
noncomputable def toldOkB (x : Option (V × St)) : Bool := match x with
  | some (.ref m, σ) => match σ.get m with
    | some (.list xs) => toldsB xs 0
    | _ => false
  | _ => false
end
end Mine
set_option genSizeOf false
set_option genInjectivity false
namespace Mine
noncomputable section
open PySem PySem.W PyProof.Rows PySem.Calls
set_option maxRecDepth 100000
set_option maxHeartbeats 0
section
variable {C : Cx} {D U : Nat} {Γ : FE} {μ : List Addr} {σ : St} {s s' : Shared}
theorem toldsB_eq : ∀ {xs : List V} {k : Nat}, toldsB xs k = true → xs = (List.range' k (6 - k)).map .tn ∧ k ≤ 6
  | [], k, h => by
    have := Nat.eq_of_beq_eq_true h
    subst this
    exact ⟨rfl, Nat.le_refl _⟩
  | .tn i :: r, k, h => by
    unfold toldsB at h
    split at h
    · rename_i hb
      have := Nat.eq_of_beq_eq_true hb
      subst this
      obtain ⟨h1, h2⟩ := toldsB_eq h
      refine ⟨?_, by omega⟩
      rw [h1, show 6 - i = (6 - (i + 1)) + 1 by omega, List.range'_succ, List.map_cons]
    · (first | exact nn h | cases h)
  | .none :: _, _, h => by cases h
  | .bool _ :: _, _, h => by cases h
  | .int _ :: _, _, h => by cases h
  | .str _ :: _, _, h => by cases h
  | .byt _ :: _, _, h => by cases h
  | .ln _ :: _, _, h => by cases h
  | .ref _ :: _, _, h => by cases h
  | .old _ :: _, _, h => by cases h
  | .txt _ :: _, _, h => by cases h
  | .nm _ :: _, _, h => by cases h
/-- what another world has made of values that name no object -/
theorem now_add (r : Rel C μ σ s) {μ' : List Addr} {σ' : St} (r' : Rel (C.now s.heap) μ' σ' s') {m : Nat} {b : Addr} {xs : List V} (hm : μ'[m]? = some b) (hx : σ'.get m = some (.list xs)) (hi : xs.all imm = true) (hz : σ.n < 60000) : Rel C (μ ++ [b]) (σ.add (.list xs)) s' := by
  obtain ⟨b', o, e1, e2, e3, e4, e5⟩ := r'.obj m _ hx rfl
  rw [hm] at e1
  (first | (have q := qc e1 q) | (have q := qcB e1 q) | cases e1)
  have r2 := now_back r r'
  have sub : ∀ c o, c ∉ tabs → s.heap.get? c = some o → (C.now s.heap).h.get? c = some o := fun c o hc e => by
    show (hideT s.heap).get? c = some o
    rw [get_hideT, if_neg hc]
    exact e
  refine r2.addF (fun i x c e l g z => ?_) ?_ e5 e2 hz ?_
  · obtain ⟨c', o', q1, q2, q3, q4, q5⟩ := r.obj i x e l
    rw [g] at q1
    cases q1
    have := sub c o' q5 q2
    rw [z, e4] at this
    cases this
  · cases z : C.h.get? b with
    | none => rfl
    | some o' =>
      have := sub b o' e5 (r.old _ _ z)
      rw [e4] at this
      cases this
  · obtain ⟨ws, n, eo, rvs⟩ := e3
    refine ⟨ws, n, eo, ?_⟩
    have key : ∀ (xs : List V) (ws : List Value), RVs (C.now s.heap) μ' xs ws → xs.all imm = true → RVs C (μ ++ [b]) xs ws := by
      intro xs ws rv
      induction rv with
      | nil => intro _; exact .nil
      | cons h t ih =>
        intro hv
        rw [List.all_cons, Bool.and_eq_true] at hv
        exact .cons (now_rv hv.1 h) (ih hv.2)
    exact key xs _ rvs hi
theorem told_call {a : Addr} {n : Nat} (ok : CxOk C) (ho : ScrOk C a n) (r : Rel C [a] ⟨1, .nil⟩ s) {A : Around} (hD : D < 350) (hU : U < 3900) (hA : AOk D U A) {b : V} {σ' : St} (e : toldF n ⟨1, .nil⟩ = some (b, σ')) {Q : Value → Shared → Prop} {E : Value → Shared → Prop}
    (q : ∀ μ' s' w, Rel C μ' σ' s' → RV C μ' b w → Q w s') : wpAny (model P C.w) A (call (.ref 365) [.ref a]) Q E s := by
  unfold toldF at e
  refine bnd_e e fun r0 σ0 e0 e => ?_
  obtain ⟨hz0, f0, g0⟩ := alloc_some e0
  simp only at f0 g0
  subst f0 g0
  refine bnd_e e fun r1 σ1 e1 e => ?_
  obtain ⟨hz1, f1, g1⟩ := alloc_some e1
  simp only at f1 g1
  subst f1 g1
  refine bnd_e e fun r2 σ2 e2 e => ?_
  obtain ⟨hz2, f2, g2⟩ := alloc_some e2
  simp only at f2 g2
  subst f2 g2
  refine bnd_e e fun fl σ6 e6 e7 => ?_
  (first | (have q := qc e7 q) | (have q := qcB e7 q) | cases e7)
  have X := r.K ok
  have kL : ¬ (callEnvC (fdOf 365) s.heap.objs.size 365).kindOf ("script" : Str) = some .local := by
    have : (callEnvC (fdOf 365) s.heap.objs.size 365).kindOf ("script" : Str) = some .cell := k365
    rw [this]; decide
  refine wpAny_call ?_
  refine codeAny_call_cells (binds := [("script", .ref a)]) (Nat.lt_of_le_of_lt hA.dp (Nat.lt_trans hD (by decide))) (X _ _ (do365.K _)) rfl (ok.lim.keeps r.old) (codeRec_of X (do365.cd _)) do365.body (do365.bind _) do365.clo
    (fun y hy => by
      rcases List.mem_cons.mp hy with rfl | hy
      · exact .inr ⟨k365, by rw [do365.cells]; rfl⟩
      · cases hy) (fun s₁ I => ?_) do365.co do365.gen do365.kind
  have hL : bindL (callEnvC (fdOf 365) s.heap.objs.size 365).kindOf [("script", .ref a)] (fun _ => none) = fun _ => none := by
    simp only [bindL, kL, if_false]
  have hCm : bindC (callEnvC (fdOf 365) s.heap.objs.size 365).kindOf [("script", .ref a)] (fun _ => none) = fun (y : Str) => if y = ("script" : Str) then some (Value.ref a) else none := by
    simp only [bindC, kL, if_false]
  rw [hL, hCm] at I
  obtain ⟨h', tk, hs₁⟩ := I.toInCall.same
  subst hs₁
  have keep := I.toInCall.keep
  have hns : h'.Ns s.heap.objs.size _ := I.toInCall.ns
  have cell : ∀ (x : Str) (c : Addr), ([("seeds", s.heap.objs.size + 1 + 1), ("script", s.heap.objs.size + 1)] : List (Str × Addr)).lookup x = some c → h'.IsCell c (if x = ("script" : Str) then some (Value.ref a) else none) := fun x c hc => by
    have := I.cell x c (by
      show (cellsFrom (s.heap.objs.size + 1) (fdOf 365).scope.names []).lookup x = some c
      rw [do365.cells]; exact hc)
    exact this
  dsimp only at keep
  have c0 := cell "script" (s.heap.objs.size + 1) (by rfl)
  have c1 := cell "seeds" (s.heap.objs.size + 1 + 1) (by rfl)
  rw [if_pos rfl] at c0
  rw [if_neg (by decide)] at c1
  obtain ⟨o, hob, hr⟩ := ns_to (C := C) (μ := [a] ++ [s.heap.objs.size]) (tag := 365) (vs := [none]) hns (by decide) (by
    intro i y hy
    have : ([none] : List (Option V))[i]?.getD none = none := by
      cases i with
      | zero => rfl
      | succ i => rfl
    refine rwG (this) ?_
    exact .none)
  have q0 := r.add (t := tk) (d := s.drawn) keep (get_size_none _) hob hz0 hr
  have b0 := (r.bd).add (c := s.heap.objs.size) rfl hz0 (.fr 365 [none])
  have above : ∀ k, C.h.get? (s.heap.objs.size + k) = none := fun k => above_C r (Nat.le_add_right _ _)
  have aboveT : ∀ k, s.heap.objs.size + k ∉ tabs := fun k => above_T r (Nat.le_add_right _ _)
  obtain ⟨o0, h0, d0⟩ := c0
  obtain ⟨o1, h1, d1⟩ := c1
  have q1 := q0.addCell b0 (v := some (.ref 0)) h0 d0 (.some (.ref 0 a rfl)) (above _) (aboveT _) hz1
  have b1 := b0.add (by rw [q0.len]) hz1 (.cell (some (.ref 0)))
  have q2 := q1.addCell b1 (v := none) h1 d1 .none (above (1 + 1)) (aboveT (1 + 1)) hz2
  have hb := (d365 n 1).2 C ok a ho (D + 1) (U + 3) (lt_1 hD rfl) (lt_3 hU rfl) s.heap.objs.size 1 s.heap.objs.size ([a] ++ [s.heap.objs.size] ++ [s.heap.objs.size + 1] ++ [s.heap.objs.size + 1 + 1]) ⟨fun i hi => by
    have : i = 0 ∨ i = 1 := by omega
    rcases this with rfl | rfl <;> rfl, rfl⟩ rfl
  refine hb _ (hA.deeper _) _ _ q2 fl _ e6 _ _ fun μ' s' w hp r' hf => ?_
  induction hf with
  | ret hv => exact q μ' s' _ r' hv
  | next => exact q μ' s' _ r' .none
  | brk => exact q μ' s' _ r' .none
  | cont => exact q μ' s' _ r' .none
theorem told_tab0 : (List.range 16).all (fun n => toldOkB (toldF n ⟨1, .nil⟩)) = true := by decide +kernel
theorem told_tab1 : (List.range 16).all (fun n => toldOkB (toldF (16 + n) ⟨1, .nil⟩)) = true := by decide +kernel
theorem told_tab2 : (List.range 16).all (fun n => toldOkB (toldF (32 + n) ⟨1, .nil⟩)) = true := by decide +kernel
theorem told_tab3 : (List.range 16).all (fun n => toldOkB (toldF (48 + n) ⟨1, .nil⟩)) = true := by decide +kernel
theorem told_tab {n : Nat} (h : n ≤ 63) : toldOkB (toldF n ⟨1, .nil⟩) = true := by
  by_cases h0 : n < 16
  · exact List.all_eq_true.mp told_tab0 n (by simpa using h0)
  · by_cases h1 : n < 32
    · have := List.all_eq_true.mp told_tab1 (n - 16) (by simp; omega)
      rwa [show 16 + (n - 16) = n by omega] at this
    · by_cases h2 : n < 48
      · have := List.all_eq_true.mp told_tab2 (n - 32) (by simp; omega)
        rwa [show 32 + (n - 32) = n by omega] at this
      · have := List.all_eq_true.mp told_tab3 (n - 48) (by simp; omega)
        rwa [show 48 + (n - 48) = n by omega] at this
theorem told_x {a : Addr} {n : Nat} (ok : CxOk C) (ho : ScrOk C a n) (ha : a ∉ tabs) : ToldX C a := ⟨fun {D U μ σ s A} hD hU hA r hz Q E q => by
  have ho' : ScrOk (C.now s.heap) a n := by
    refine ⟨ho.len, ?_, ho.md, ?_, ho.td⟩
    · obtain ⟨ws, ⟨o, hob, rest⟩, hsz, hw⟩ := ho.ls
      refine ⟨ws, ⟨o, ?_, rest⟩, hsz, hw⟩
      show (hideT s.heap).get? a = some o
      rw [get_hideT, if_neg ha]
      exact r.old _ _ hob
    · exact ho.sm
  have ht := told_tab ho.len
  unfold toldOkB at ht
  split at ht
  · rename_i m σ' he
    split at ht
    · rename_i xs hx
      obtain ⟨h1, _⟩ := toldsB_eq ht
      have hxs : xs = tolds := h1
      subst hxs
      refine told_call (now_ok ok r) ho' (now_rel r [a]) (lt_a hD rfl) (lt_a hU rfl) hA he fun μ' s' w r' hw => ?_
      refine RV.eRef hw fun b hb => ?_
      exact q s' b (now_add r r' hb hx rfl hz)
    · (first | exact nn ht | cases ht)
  · cases ht⟩
end
end
end Mine
set_option genSizeOf false
set_option genInjectivity false
namespace Mine
noncomputable section
open PySem PySem.W PyProof.Rows PySem.Calls
set_option maxRecDepth 100000
set_option maxHeartbeats 0
noncomputable def okT (x : Option (V × St)) : Bool := match x with
  | some (.bool true, _) => true
  | _ => false
theorem okT_some {x : Option (V × St)} (h : okT x = true) : ∃ σ, x = some (.bool true, σ) := by
  unfold okT at h
  split at h
  · exact ⟨_, rfl⟩
  · (first | exact nn h | cases h)
noncomputable def hK (hs : List Int) (k : Nat) : Int := hs.getD k 0
noncomputable def LB (a b c d e : Int) : Bool := okT (lawM (hK [0, a, b, c, d, e]) ⟨1, .nil⟩)
theorem law_000000 : LB 0 0 0 0 0 = true := by decide +kernel
theorem law_000001 : LB 0 0 0 0 1 = true := by decide +kernel
theorem law_000010 : LB 0 0 0 1 0 = true := by decide +kernel
theorem law_000011 : LB 0 0 0 1 1 = true := by decide +kernel
theorem law_000012 : LB 0 0 0 1 2 = true := by decide +kernel
theorem law_000100 : LB 0 0 1 0 0 = true := by decide +kernel
theorem law_000101 : LB 0 0 1 0 1 = true := by decide +kernel
theorem law_000110 : LB 0 0 1 1 0 = true := by decide +kernel
theorem law_000111 : LB 0 0 1 1 1 = true := by decide +kernel
theorem law_000112 : LB 0 0 1 1 2 = true := by decide +kernel
theorem law_000120 : LB 0 0 1 2 0 = true := by decide +kernel
theorem law_000121 : LB 0 0 1 2 1 = true := by decide +kernel
theorem law_000122 : LB 0 0 1 2 2 = true := by decide +kernel
theorem law_000123 : LB 0 0 1 2 3 = true := by decide +kernel
theorem law_001000 : LB 0 1 0 0 0 = true := by decide +kernel
theorem law_001001 : LB 0 1 0 0 1 = true := by decide +kernel
theorem law_001010 : LB 0 1 0 1 0 = true := by decide +kernel
theorem law_001011 : LB 0 1 0 1 1 = true := by decide +kernel
theorem law_001012 : LB 0 1 0 1 2 = true := by decide +kernel
theorem law_001100 : LB 0 1 1 0 0 = true := by decide +kernel
theorem law_001101 : LB 0 1 1 0 1 = true := by decide +kernel
theorem law_001110 : LB 0 1 1 1 0 = true := by decide +kernel
theorem law_001111 : LB 0 1 1 1 1 = true := by decide +kernel
theorem law_001112 : LB 0 1 1 1 2 = true := by decide +kernel
theorem law_001120 : LB 0 1 1 2 0 = true := by decide +kernel
theorem law_001121 : LB 0 1 1 2 1 = true := by decide +kernel
theorem law_001122 : LB 0 1 1 2 2 = true := by decide +kernel
theorem law_001123 : LB 0 1 1 2 3 = true := by decide +kernel
theorem law_001200 : LB 0 1 2 0 0 = true := by decide +kernel
theorem law_001201 : LB 0 1 2 0 1 = true := by decide +kernel
theorem law_001210 : LB 0 1 2 1 0 = true := by decide +kernel
theorem law_001211 : LB 0 1 2 1 1 = true := by decide +kernel
theorem law_001212 : LB 0 1 2 1 2 = true := by decide +kernel
theorem law_001220 : LB 0 1 2 2 0 = true := by decide +kernel
theorem law_001221 : LB 0 1 2 2 1 = true := by decide +kernel
theorem law_001222 : LB 0 1 2 2 2 = true := by decide +kernel
theorem law_001223 : LB 0 1 2 2 3 = true := by decide +kernel
theorem law_001230 : LB 0 1 2 3 0 = true := by decide +kernel
theorem law_001231 : LB 0 1 2 3 1 = true := by decide +kernel
theorem law_001232 : LB 0 1 2 3 2 = true := by decide +kernel
theorem law_001233 : LB 0 1 2 3 3 = true := by decide +kernel
theorem law_001234 : LB 0 1 2 3 4 = true := by decide +kernel
theorem law_010000 : LB 1 0 0 0 0 = true := by decide +kernel
theorem law_010001 : LB 1 0 0 0 1 = true := by decide +kernel
theorem law_010010 : LB 1 0 0 1 0 = true := by decide +kernel
theorem law_010011 : LB 1 0 0 1 1 = true := by decide +kernel
theorem law_010012 : LB 1 0 0 1 2 = true := by decide +kernel
theorem law_010100 : LB 1 0 1 0 0 = true := by decide +kernel
theorem law_010101 : LB 1 0 1 0 1 = true := by decide +kernel
theorem law_010110 : LB 1 0 1 1 0 = true := by decide +kernel
theorem law_010111 : LB 1 0 1 1 1 = true := by decide +kernel
theorem law_010112 : LB 1 0 1 1 2 = true := by decide +kernel
theorem law_010120 : LB 1 0 1 2 0 = true := by decide +kernel
theorem law_010121 : LB 1 0 1 2 1 = true := by decide +kernel
theorem law_010122 : LB 1 0 1 2 2 = true := by decide +kernel
theorem law_010123 : LB 1 0 1 2 3 = true := by decide +kernel
theorem law_011000 : LB 1 1 0 0 0 = true := by decide +kernel
theorem law_011001 : LB 1 1 0 0 1 = true := by decide +kernel
theorem law_011010 : LB 1 1 0 1 0 = true := by decide +kernel
theorem law_011011 : LB 1 1 0 1 1 = true := by decide +kernel
theorem law_011012 : LB 1 1 0 1 2 = true := by decide +kernel
theorem law_011100 : LB 1 1 1 0 0 = true := by decide +kernel
theorem law_011101 : LB 1 1 1 0 1 = true := by decide +kernel
theorem law_011110 : LB 1 1 1 1 0 = true := by decide +kernel
theorem law_011111 : LB 1 1 1 1 1 = true := by decide +kernel
theorem law_011112 : LB 1 1 1 1 2 = true := by decide +kernel
theorem law_011120 : LB 1 1 1 2 0 = true := by decide +kernel
theorem law_011121 : LB 1 1 1 2 1 = true := by decide +kernel
theorem law_011122 : LB 1 1 1 2 2 = true := by decide +kernel
theorem law_011123 : LB 1 1 1 2 3 = true := by decide +kernel
theorem law_011200 : LB 1 1 2 0 0 = true := by decide +kernel
theorem law_011201 : LB 1 1 2 0 1 = true := by decide +kernel
theorem law_011210 : LB 1 1 2 1 0 = true := by decide +kernel
theorem law_011211 : LB 1 1 2 1 1 = true := by decide +kernel
theorem law_011212 : LB 1 1 2 1 2 = true := by decide +kernel
theorem law_011220 : LB 1 1 2 2 0 = true := by decide +kernel
theorem law_011221 : LB 1 1 2 2 1 = true := by decide +kernel
theorem law_011222 : LB 1 1 2 2 2 = true := by decide +kernel
theorem law_011223 : LB 1 1 2 2 3 = true := by decide +kernel
theorem law_011230 : LB 1 1 2 3 0 = true := by decide +kernel
theorem law_011231 : LB 1 1 2 3 1 = true := by decide +kernel
theorem law_011232 : LB 1 1 2 3 2 = true := by decide +kernel
theorem law_011233 : LB 1 1 2 3 3 = true := by decide +kernel
theorem law_011234 : LB 1 1 2 3 4 = true := by decide +kernel
theorem law_012000 : LB 1 2 0 0 0 = true := by decide +kernel
theorem law_012001 : LB 1 2 0 0 1 = true := by decide +kernel
theorem law_012010 : LB 1 2 0 1 0 = true := by decide +kernel
theorem law_012011 : LB 1 2 0 1 1 = true := by decide +kernel
theorem law_012012 : LB 1 2 0 1 2 = true := by decide +kernel
theorem law_012100 : LB 1 2 1 0 0 = true := by decide +kernel
theorem law_012101 : LB 1 2 1 0 1 = true := by decide +kernel
theorem law_012110 : LB 1 2 1 1 0 = true := by decide +kernel
theorem law_012111 : LB 1 2 1 1 1 = true := by decide +kernel
theorem law_012112 : LB 1 2 1 1 2 = true := by decide +kernel
theorem law_012120 : LB 1 2 1 2 0 = true := by decide +kernel
theorem law_012121 : LB 1 2 1 2 1 = true := by decide +kernel
theorem law_012122 : LB 1 2 1 2 2 = true := by decide +kernel
theorem law_012123 : LB 1 2 1 2 3 = true := by decide +kernel
theorem law_012200 : LB 1 2 2 0 0 = true := by decide +kernel
theorem law_012201 : LB 1 2 2 0 1 = true := by decide +kernel
theorem law_012210 : LB 1 2 2 1 0 = true := by decide +kernel
theorem law_012211 : LB 1 2 2 1 1 = true := by decide +kernel
theorem law_012212 : LB 1 2 2 1 2 = true := by decide +kernel
theorem law_012220 : LB 1 2 2 2 0 = true := by decide +kernel
theorem law_012221 : LB 1 2 2 2 1 = true := by decide +kernel
theorem law_012222 : LB 1 2 2 2 2 = true := by decide +kernel
theorem law_012223 : LB 1 2 2 2 3 = true := by decide +kernel
theorem law_012230 : LB 1 2 2 3 0 = true := by decide +kernel
theorem law_012231 : LB 1 2 2 3 1 = true := by decide +kernel
theorem law_012232 : LB 1 2 2 3 2 = true := by decide +kernel
theorem law_012233 : LB 1 2 2 3 3 = true := by decide +kernel
theorem law_012234 : LB 1 2 2 3 4 = true := by decide +kernel
theorem law_012300 : LB 1 2 3 0 0 = true := by decide +kernel
theorem law_012301 : LB 1 2 3 0 1 = true := by decide +kernel
theorem law_012310 : LB 1 2 3 1 0 = true := by decide +kernel
theorem law_012311 : LB 1 2 3 1 1 = true := by decide +kernel
theorem law_012312 : LB 1 2 3 1 2 = true := by decide +kernel
theorem law_012320 : LB 1 2 3 2 0 = true := by decide +kernel
theorem law_012321 : LB 1 2 3 2 1 = true := by decide +kernel
theorem law_012322 : LB 1 2 3 2 2 = true := by decide +kernel
theorem law_012323 : LB 1 2 3 2 3 = true := by decide +kernel
theorem law_012330 : LB 1 2 3 3 0 = true := by decide +kernel
theorem law_012331 : LB 1 2 3 3 1 = true := by decide +kernel
theorem law_012332 : LB 1 2 3 3 2 = true := by decide +kernel
theorem law_012333 : LB 1 2 3 3 3 = true := by decide +kernel
theorem law_012334 : LB 1 2 3 3 4 = true := by decide +kernel
theorem law_012340 : LB 1 2 3 4 0 = true := by decide +kernel
theorem law_012341 : LB 1 2 3 4 1 = true := by decide +kernel
theorem law_012342 : LB 1 2 3 4 2 = true := by decide +kernel
theorem law_012343 : LB 1 2 3 4 3 = true := by decide +kernel
theorem law_012344 : LB 1 2 3 4 4 = true := by decide +kernel
theorem law_012345 : LB 1 2 3 4 5 = true := by decide +kernel
noncomputable def LK (a b c d e : Int) : Prop := LB a b c d e = true
noncomputable def U5 (a b c d : Int) : Prop := ∀ e, 0 ≤ e → e ≤ d + 1 → LK a b c d e
noncomputable def U4 (a b c : Int) : Prop := ∀ d, 0 ≤ d → d ≤ c + 1 → U5 a b c d
noncomputable def U3 (a b : Int) : Prop := ∀ c, 0 ≤ c → c ≤ b + 1 → U4 a b c
noncomputable def U2 (a : Int) : Prop := ∀ b, 0 ≤ b → b ≤ a + 1 → U3 a b
section
variable {p : Int → Prop}
theorem q2 (k0 : p 0) (k1 : p 1) : ∀ h : Int, 0 ≤ h → h ≤ 0 + 1 → p h := fun h a b => by
  have c : h = 0 ∨ h = 1 := by omega
  rcases c with rfl | rfl <;> assumption
theorem q3 (k0 : p 0) (k1 : p 1) (k2 : p 2) : ∀ h : Int, 0 ≤ h → h ≤ 1 + 1 → p h := fun h a b => by
  have c : h = 0 ∨ h = 1 ∨ h = 2 := by omega
  rcases c with rfl | rfl | rfl <;> assumption
theorem q4 (k0 : p 0) (k1 : p 1) (k2 : p 2) (k3 : p 3) : ∀ h : Int, 0 ≤ h → h ≤ 2 + 1 → p h := fun h a b => by
  have c : h = 0 ∨ h = 1 ∨ h = 2 ∨ h = 3 := by omega
  rcases c with rfl | rfl | rfl | rfl <;> assumption
theorem q5 (k0 : p 0) (k1 : p 1) (k2 : p 2) (k3 : p 3) (k4 : p 4) : ∀ h : Int, 0 ≤ h → h ≤ 3 + 1 → p h := fun h a b => by
  have c : h = 0 ∨ h = 1 ∨ h = 2 ∨ h = 3 ∨ h = 4 := by omega
  rcases c with rfl | rfl | rfl | rfl | rfl <;> assumption
theorem q6 (k0 : p 0) (k1 : p 1) (k2 : p 2) (k3 : p 3) (k4 : p 4) (k5 : p 5) : ∀ h : Int, 0 ≤ h → h ≤ 4 + 1 → p h := fun h a b => by
  have c : h = 0 ∨ h = 1 ∨ h = 2 ∨ h = 3 ∨ h = 4 ∨ h = 5 := by omega
  rcases c with rfl | rfl | rfl | rfl | rfl | rfl <;> assumption
end
theorem law_all : ∀ h : Int, 0 ≤ h → h ≤ 0 + 1 → U2 h :=
  q2 (p := U2)
    (q2 (p := (U3 0)) (q2 (p := (U4 0 0)) (q2 (p := (U5 0 0 0)) (q2 (p := (LK 0 0 0 0)) law_000000 law_000001) (q3 (p := (LK 0 0 0 1)) law_000010 law_000011 law_000012)) (q3 (p := (U5 0 0 1)) (q2 (p := (LK 0 0 1 0)) law_000100 law_000101) (q3 (p := (LK 0 0 1 1)) law_000110 law_000111 law_000112) (q4 (p := (LK 0 0 1 2)) law_000120 law_000121 law_000122 law_000123))) (q3 (p := (U4 0 1)) (q2 (p := (U5 0 1 0)) (q2 (p := (LK 0 1 0 0)) law_001000 law_001001) (q3 (p := (LK 0 1 0 1)) law_001010 law_001011 law_001012)) (q3 (p := (U5 0 1 1)) (q2 (p := (LK 0 1 1 0)) law_001100 law_001101) (q3 (p := (LK 0 1 1 1)) law_001110 law_001111 law_001112) (q4 (p := (LK 0 1 1 2)) law_001120 law_001121 law_001122 law_001123)) (q4 (p := (U5 0 1 2)) (q2 (p := (LK 0 1 2 0)) law_001200 law_001201) (q3 (p := (LK 0 1 2 1)) law_001210 law_001211 law_001212) (q4 (p := (LK 0 1 2 2)) law_001220 law_001221 law_001222 law_001223) (q5 (p := (LK 0 1 2 3)) law_001230 law_001231 law_001232 law_001233 law_001234))))
    (q3 (p := (U3 1)) (q2 (p := (U4 1 0)) (q2 (p := (U5 1 0 0)) (q2 (p := (LK 1 0 0 0)) law_010000 law_010001) (q3 (p := (LK 1 0 0 1)) law_010010 law_010011 law_010012)) (q3 (p := (U5 1 0 1)) (q2 (p := (LK 1 0 1 0)) law_010100 law_010101) (q3 (p := (LK 1 0 1 1)) law_010110 law_010111 law_010112) (q4 (p := (LK 1 0 1 2)) law_010120 law_010121 law_010122 law_010123))) (q3 (p := (U4 1 1)) (q2 (p := (U5 1 1 0)) (q2 (p := (LK 1 1 0 0)) law_011000 law_011001) (q3 (p := (LK 1 1 0 1)) law_011010 law_011011 law_011012)) (q3 (p := (U5 1 1 1)) (q2 (p := (LK 1 1 1 0)) law_011100 law_011101) (q3 (p := (LK 1 1 1 1)) law_011110 law_011111 law_011112) (q4 (p := (LK 1 1 1 2)) law_011120 law_011121 law_011122 law_011123)) (q4 (p := (U5 1 1 2)) (q2 (p := (LK 1 1 2 0)) law_011200 law_011201) (q3 (p := (LK 1 1 2 1)) law_011210 law_011211 law_011212) (q4 (p := (LK 1 1 2 2)) law_011220 law_011221 law_011222 law_011223) (q5 (p := (LK 1 1 2 3)) law_011230 law_011231 law_011232 law_011233 law_011234))) (q4 (p := (U4 1 2)) (q2 (p := (U5 1 2 0)) (q2 (p := (LK 1 2 0 0)) law_012000 law_012001) (q3 (p := (LK 1 2 0 1)) law_012010 law_012011 law_012012)) (q3 (p := (U5 1 2 1)) (q2 (p := (LK 1 2 1 0)) law_012100 law_012101) (q3 (p := (LK 1 2 1 1)) law_012110 law_012111 law_012112) (q4 (p := (LK 1 2 1 2)) law_012120 law_012121 law_012122 law_012123)) (q4 (p := (U5 1 2 2)) (q2 (p := (LK 1 2 2 0)) law_012200 law_012201) (q3 (p := (LK 1 2 2 1)) law_012210 law_012211 law_012212) (q4 (p := (LK 1 2 2 2)) law_012220 law_012221 law_012222 law_012223) (q5 (p := (LK 1 2 2 3)) law_012230 law_012231 law_012232 law_012233 law_012234)) (q5 (p := (U5 1 2 3)) (q2 (p := (LK 1 2 3 0)) law_012300 law_012301) (q3 (p := (LK 1 2 3 1)) law_012310 law_012311 law_012312) (q4 (p := (LK 1 2 3 2)) law_012320 law_012321 law_012322 law_012323) (q5 (p := (LK 1 2 3 3)) law_012330 law_012331 law_012332 law_012333 law_012334) (q6 (p := (LK 1 2 3 4)) law_012340 law_012341 law_012342 law_012343 law_012344 law_012345))))
theorem law_ok (h1 h2 h3 h4 h5 : Int) (a1 : 0 ≤ h1) (b1 : h1 ≤ 1) (a2 : 0 ≤ h2) (b2 : h2 ≤ h1 + 1) (a3 : 0 ≤ h3) (b3 : h3 ≤ h2 + 1) (a4 : 0 ≤ h4) (b4 : h4 ≤ h3 + 1) (a5 : 0 ≤ h5) (b5 : h5 ≤ h4 + 1) : okT (lawM (hK [0, h1, h2, h3, h4, h5]) ⟨1, .nil⟩) = true :=
  law_all h1 a1 b1 h2 a2 b2 h3 a3 b3 h4 a4 b4 h5 a5 b5
end
end Mine
set_option genSizeOf false
set_option genInjectivity false
namespace Mine
noncomputable section
open PySem PySem.W PyProof.Rows PySem.Calls
set_option maxRecDepth 100000
set_option maxHeartbeats 0
/-! the world of a script -/
noncomputable def sX (xs : List Int) (i : Nat) : Int := xs.getD i 0
noncomputable def sR (xs : List Int) (i : Nat) : Int := Int.fmod (sX xs i) 1000000
noncomputable def sS (xs : List Int) (k : Nat) : Int := preSum (fun i => ((idx xs.length k)[i]?.map (sR xs)).getD 0) (idx xs.length k).length
noncomputable def sT (xs : List Int) (k : Nat) : Int := match Nat.blt k 6 with
  | true => seedOf ((k + 5) % 6) + sS xs ((k + 5) % 6)
  | false => 0
noncomputable def sJ (xs : List Int) (k : Nat) : Nat := (Int.fmod (Int.fdiv (sT xs k) 420) 6).toNat + 6 * (Int.fmod (Int.fdiv (sT xs k) 2520) 2).toNat
noncomputable def sH1 (xs : List Int) : Int := Int.fmod (sT xs 1) (0 + 2)
noncomputable def sH2 (xs : List Int) : Int := Int.fmod (sT xs 2) (sH1 xs + 2)
noncomputable def sH3 (xs : List Int) : Int := Int.fmod (sT xs 3) (sH2 xs + 2)
noncomputable def sH4 (xs : List Int) : Int := Int.fmod (sT xs 4) (sH3 xs + 2)
noncomputable def sH5 (xs : List Int) : Int := Int.fmod (sT xs 5) (sH4 xs + 2)
noncomputable def sL (xs : List Int) (k : Nat) : Str := if k < 6 then ⟨((97 + k) :: tailOf (sJ xs k)).toArray⟩ else if k < 12 then ⟨((97 + (k - 6)) :: cutOf (sJ xs (k - 6))).toArray⟩ else ⟨#[97]⟩
noncomputable def sTx (xs : List Int) (k : Nat) : Str := if k < 6 then ⟨(textOf (sJ xs k)).toArray⟩ else if k < 12 then ⟨(markOf (sJ xs (k - 6))).toArray⟩ else ⟨(innerOf (sJ xs (k - 12))).toArray⟩
noncomputable def sN (xs : List Int) (i : Nat) : Int := if i < 6 then Int.fdiv (sT xs i) 2520 else if i < 12 then ((sJ xs (i - 6) / 6 : Nat) : Int) else if i < 200 then sX xs (i - 100) else if i < 300 then sR xs (i - 200) else sS xs (i - 300)
noncomputable def Cx.of (w : World) (h : Heap) (os : OsState) (xs : List Int) : Cx := { w := w, h := hideT h, l := sL xs, told := sT xs, tx := sTx xs, nm := sN xs, os := os }
theorem sJ_lt (xs : List Int) (k : Nat) : sJ xs k < 12 ∧ ((sJ xs k % 6 : Nat) : Int) = Int.fmod (Int.fdiv (sT xs k) 420) 6 ∧ ((sJ xs k / 6 : Nat) : Int) = Int.fmod (Int.fdiv (sT xs k) 2520) 2 := by
  have a1 := Int.fmod_nonneg_of_pos (Int.fdiv (sT xs k) 420) (show (0 : Int) < 6 by decide)
  have a2 := Int.fmod_lt_of_pos (Int.fdiv (sT xs k) 420) (show (0 : Int) < 6 by decide)
  have b1 := Int.fmod_nonneg_of_pos (Int.fdiv (sT xs k) 2520) (show (0 : Int) < 2 by decide)
  have b2 := Int.fmod_lt_of_pos (Int.fdiv (sT xs k) 2520) (show (0 : Int) < 2 by decide)
  unfold sJ
  generalize Int.fmod (Int.fdiv (sT xs k) 420) 6 = u at *
  generalize Int.fmod (Int.fdiv (sT xs k) 2520) 2 = v at *
  omega
theorem of_cls (w : World) (h : Heap) (os : OsState) (xs : List Int) (k : Nat) (hk : k < 6) : Cls (Cx.of w h os xs) k (sJ xs k) := by
  obtain ⟨h1, h2, h3⟩ := sJ_lt xs k
  refine ⟨h1, ?_, ?_, h2.symm, h3.symm, ?_, ?_, ?_, ?_, ?_⟩
  · show sL xs k = _
    unfold sL; rw [if_pos hk]
  · show sL xs (k + 6) = _
    unfold sL; rw [if_neg (by omega), if_pos (by omega), Nat.add_sub_cancel]
  · show sTx xs k = _
    unfold sTx; rw [if_pos hk]
  · show sTx xs (k + 6) = _
    unfold sTx; rw [if_neg (by omega), if_pos (by omega), Nat.add_sub_cancel]
  · show sTx xs (k + 12) = _
    unfold sTx; rw [if_neg (by omega), if_neg (by omega), Nat.add_sub_cancel]
  · show sN xs k = _
    unfold sN; rw [if_pos hk]; rfl
  · show sN xs (k + 6) = _
    unfold sN; rw [if_neg (by omega), if_pos (by omega), Nat.add_sub_cancel]
theorem cut_len (j : Nat) : (cutOf j).length ≤ 2 := by
  unfold cutOf
  split <;> simp
theorem lookup_filter {c : Addr → Bool} {a : Addr} {o : Obj} : ∀ {K : Frag}, (K.filter fun q => c q.1).lookup a = some o → c a = true ∧ K.lookup a = some o
  | [], h => by cases h
  | (b, ob) :: r, h => by
    rw [List.filter_cons] at h
    refine rwG (List.lookup_cons) ?_
    split at h
    · rename_i hc
      rw [List.lookup_cons] at h
      cases q : a == b with
      | true =>
        rw [q] at h
        have := beq_iff_eq.mp q
        subst this
        exact ⟨hc, h⟩
      | false =>
        rw [q] at h
        exact lookup_filter h
    · rename_i hc
      obtain ⟨h1, h2⟩ := lookup_filter (K := r) h
      cases q : a == b with
      | true =>
        have := beq_iff_eq.mp q
        subst this
        exact absurd h1 hc
      | false => exact ⟨h1, h2⟩
theorem kf_of {p : Params} {h : Heap} (K : (Hd.kheap p).In h) : (KF p).In (hideT h) := fun a o e => by
  obtain ⟨h1, h2⟩ := lookup_filter (c := fun a => !(Nat.beq a 157 || Nat.beq a 164)) (show ((Hd.kheap p).filter fun q => !(Nat.beq q.1 157 || Nat.beq q.1 164)).lookup a = some o from e)
  rw [get_hideT, if_neg]
  · exact K a o h2
  · intro ht
    have : a = 157 ∨ a = 164 := by simpa [tabs] using ht
    rcases this with rfl | rfl <;> simp at h1
theorem tab157 (p) : (Hd.kheap p).lookup 157 = some ⟨.none, none, .fields (tb0 157), #[]⟩ := by kernel_rfl
theorem tab164 (p) : (Hd.kheap p).lookup 164 = some ⟨.none, none, .fields (tb0 164), #[]⟩ := by kernel_rfl
noncomputable def triB : List Value → Bool
  | [] => true
  | .int _ _ :: .int _ _ :: _ :: r => triB r
  | _ => false
theorem triB_ok : ∀ {l : List Value}, triB l = true → TriplesOk l
  | [], _ => trivial
  | .int _ _ :: .int _ _ :: _ :: r, h => triB_ok (l := r) h
theorem tri157 : triB (tb0 157 ++ #[]).toList = true := by kernel_rfl
theorem tri164 : triB (tb0 164 ++ #[]).toList = true := by kernel_rfl
theorem tab_at {p : Params} {h : Heap} (K : (Hd.kheap p).In h) : ∀ t ∈ tabs, TabAt h t := fun t ht => by
  have : t = 157 ∨ t = 164 := by simpa [tabs] using ht
  rcases this with rfl | rfl
  · exact ⟨#[], by rw [Array.append_empty]; exact K _ _ (tab157 p), triB_ok tri157⟩
  · exact ⟨#[], by rw [Array.append_empty]; exact K _ _ (tab164 p), triB_ok tri164⟩
theorem ints_get : ∀ {vs : List Value} {xs : List Int}, IntsAre vs xs → vs.length = xs.length ∧ ∀ i, i < xs.length → ∃ t, vs[i]? = some (.int (xs.getD i 0) t)
  | _, _, .nil => ⟨rfl, fun i h => by simp at h⟩
  | _, _, .cons n t r => by
    obtain ⟨h1, h2⟩ := ints_get r
    refine ⟨by simp [h1], fun i hi => ?_⟩
    cases i with
    | zero => exact ⟨t, rfl⟩
    | succ i =>
      obtain ⟨t', ht⟩ := h2 i (by simpa using hi)
      exact ⟨t', by simpa using ht⟩
theorem law_main {w : World} {s₁ : Shared} {a : Addr} {vs : List Value} {xs : List Int} {Q : Value → Shared → Prop} {E : Value → Shared → Prop} (KX : (Hd.kheap w.params).In s₁.heap) (hlim : s₁.heap.NoLimit) (hg : s₁.gens = #[])
    (hL : s₁.heap.IsList a vs.toArray) (hi : IntsAre vs xs) (hlen : xs.length ≤ 63) (q : ∀ s', OldK s₁.heap s'.heap → s'.os = s₁.os → AllBare s'.gens → Q (.bool true) s') : wpAny (model P w) callerA (call (.ref 431) [.ref a]) Q E s₁ := by
  have ha : a ∉ tabs := fun ht => by
    obtain ⟨o, ho, hc, _⟩ := hL
    obtain ⟨ps, e, _⟩ := tab_at KX a ht
    rw [ho] at e
    (first | (have q := qc e q) | (have q := qcB e q) | cases e)
    cases hc
  have hok : CxOk (Cx.of w s₁.heap s₁.os xs) := by
    refine ⟨fun k hk => ⟨_, of_cls w s₁.heap s₁.os xs k hk⟩, kf_of KX, ?_, fun k => ?_, fun k hk => ?_⟩
    · obtain ⟨mc, ⟨o, es, ep, ho, rest⟩, e⟩ := hlim
      refine ⟨mc, ⟨o, es, ep, ?_, rest⟩, e⟩
      show (hideT s₁.heap).get? cStatics = some o
      rw [get_hideT, if_neg (by decide)]
      exact ho
    · show 0 < (sL xs k).length ∧ (sL xs k).length ≤ 20
      unfold sL
      split
      · have := tail_len (sJ xs k)
        show 0 < ((97 + k) :: tailOf (sJ xs k)).length ∧ ((97 + k) :: tailOf (sJ xs k)).length ≤ 20
        simp; omega
      · split
        · have := cut_len (sJ xs (k - 6))
          show 0 < ((97 + (k - 6)) :: cutOf (sJ xs (k - 6))).length ∧ ((97 + (k - 6)) :: cutOf (sJ xs (k - 6))).length ≤ 20
          simp; omega
        · exact ⟨by decide, by decide⟩
    · refine ⟨tailOf (sJ xs k), ?_, tail_lt⟩
      show (sL xs k).cps.toList = _
      unfold sL
      rw [if_pos hk]
  obtain ⟨hvl, hvs⟩ := ints_get hi
  have hscr : ScrOk (Cx.of w s₁.heap s₁.os xs) a xs.length := by
    refine ⟨hlen, ⟨vs.toArray, ?_, by simpa using hvl, fun i hi => ?_⟩, fun i hi => ?_, fun k hk => ?_, fun k hk => ?_⟩
    · obtain ⟨o, ho, rest⟩ := hL
      refine ⟨o, ?_, rest⟩
      show (hideT s₁.heap).get? a = some o
      rw [get_hideT, if_neg ha]
      exact ho
    · obtain ⟨t, ht⟩ := hvs i hi
      refine ⟨t, ?_⟩
      have : (Cx.of w s₁.heap s₁.os xs).nm (100 + i) = xs.getD i 0 := by
        show sN xs (100 + i) = _
        unfold sN
        rw [if_neg (by omega), if_neg (by omega), if_pos (by omega), Nat.add_sub_cancel_left]
        rfl
      rw [this]
      simpa using ht
    · have e1 : (Cx.of w s₁.heap s₁.os xs).nm (200 + i) = sR xs i := by
        show sN xs (200 + i) = _
        unfold sN
        rw [if_neg (by omega), if_neg (by omega), if_neg (by omega), if_pos (by omega), Nat.add_sub_cancel_left]
      have e2 : (Cx.of w s₁.heap s₁.os xs).nm (100 + i) = sX xs i := by
        show sN xs (100 + i) = _
        unfold sN
        rw [if_neg (by omega), if_neg (by omega), if_pos (by omega), Nat.add_sub_cancel_left]
      rw [e1, e2]
      rfl
    · have e1 : (Cx.of w s₁.heap s₁.os xs).nm (300 + k) = sS xs k := by
        show sN xs (300 + k) = _
        unfold sN
        rw [if_neg (by omega), if_neg (by omega), if_neg (by omega), if_neg (by omega), Nat.add_sub_cancel_left]
      rw [e1]
      unfold sS
      congr 1
      funext i
      unfold valOf
      cases hj : (idx xs.length k)[i]? with
      | none => rfl
      | some j =>
        have hj24 := idx_lt hk hj
        show sR xs j = sN xs (200 + j)
        unfold sN
        rw [if_neg (by omega), if_neg (by omega), if_neg (by omega), if_pos (by omega), Nat.add_sub_cancel_left]
    · have e1 : (Cx.of w s₁.heap s₁.os xs).nm (300 + k) = sS xs k := by
        show sN xs (300 + k) = _
        unfold sN
        rw [if_neg (by omega), if_neg (by omega), if_neg (by omega), if_neg (by omega), Nat.add_sub_cancel_left]
      rw [e1]
      show sT xs ((k + 1) % 6) = _
      have hb : Nat.blt ((k + 1) % 6) 6 = true := Nat.ble_eq_true_of_le (by omega)
      unfold sT
      rw [hb]
      have : ((k + 1) % 6 + 5) % 6 = k := by omega
      show seedOf (((k + 1) % 6 + 5) % 6) + sS xs (((k + 1) % 6 + 5) % 6) = _
      rw [this]
  have fb : ∀ (x : Int) (h : Int), 0 ≤ h → 0 ≤ Int.fmod x (h + 2) ∧ Int.fmod x (h + 2) ≤ h + 1 := fun x h hh => by
    have h1 := Int.fmod_nonneg_of_pos x (show 0 < h + 2 by omega)
    have h2 := Int.fmod_lt_of_pos x (show 0 < h + 2 by omega)
    omega
  have g1 := fb (sT xs 1) 0 (by decide)
  have g2 := fb (sT xs 2) (sH1 xs) g1.1
  have g3 := fb (sT xs 3) (sH2 xs) g2.1
  have g4 := fb (sT xs 4) (sH3 xs) g3.1
  have g5 := fb (sT xs 5) (sH4 xs) g4.1
  have hh : HgtOk (Cx.of w s₁.heap s₁.os xs) (hK [0, sH1 xs, sH2 xs, sH3 xs, sH4 xs, sH5 xs]) := fun k hk => by
    match k, hk with
    | 1, _ => rfl
    | 2, _ => rfl
    | 3, _ => rfl
    | 4, _ => rfl
    | 5, _ => rfl
    | k + 6, _ =>
      have h0 : (Cx.of w s₁.heap s₁.os xs).told (k + 6) = 0 := by
        show sT xs (k + 6) = 0
        unfold sT
        have : Nat.blt (k + 6) 6 = false := by
          cases hb : Nat.blt (k + 6) 6 with
          | false => rfl
          | true => have := Nat.le_of_ble_eq_true hb; omega
        rw [this]
      rw [h0, Int.zero_fmod]
      rfl
  have hT := told_x hok hscr ha
  have r0 : Rel (Cx.of w s₁.heap s₁.os xs) [a] ⟨1, .nil⟩ s₁ := by
    refine ⟨rfl, fun i vo e => ?_, fun i j vo vo' b e => ?_, fun b o e => ?_, fun t ht => ⟨?_, tab_at KX t ht⟩, .of_eq hg, rfl⟩
    · have : (Tr.nil : Tr VO).get i = some vo := e
      rw [Tr.get_nil] at this
      cases this
    · have : (Tr.nil : Tr VO).get i = some vo := e
      rw [Tr.get_nil] at this
      cases this
    · have e : (hideT s₁.heap).get? b = some o := e
      rw [get_hideT] at e
      split at e
      · (first | exact nn e | cases e)
      · exact e
    · show (hideT s₁.heap).get? t = none
      rw [get_hideT, if_pos ht]
  obtain ⟨σ', he⟩ := okT_some (law_ok (sH1 xs) (sH2 xs) (sH3 xs) (sH4 xs) (sH5 xs) g1.1 (by have := g1.2; unfold sH1; omega) g2.1 g2.2 g3.1 g3.2 g4.1 g4.2 g5.1 g5.2)
  have hA : AOk 310 1000 callerA := ⟨rfl, by decide, by decide, rfl, ⟨_, rfl⟩⟩
  refine law_call (C := Cx.of w s₁.heap s₁.os xs) hok hh hT r0 hA he fun μ' s' v r' rv => ?_
  cases rv
  have keep : ∀ b o, b ∉ tabs → s₁.heap.get? b = some o → s'.heap.get? b = some o := fun b o hb e => r'.old b o (by
    show (hideT s₁.heap).get? b = some o
    rw [get_hideT, if_neg hb]
    exact e)
  have isT : ∀ t ∈ tabs, isCodeTable s₁.heap t := fun t ht => by
    have : t = 157 ∨ t = 164 := by simpa [tabs] using ht
    have KF1 : (KF w.params).In s₁.heap := fun a o e => by
      have := kf_of KX a o e
      rw [get_hideT] at this
      split at this
      · (first | exact nn this | cases this)
      · exact this
    rcases this with rfl | rfl
    · obtain ⟨ps, _, h2⟩ := code_tab code162 KF1 (tab_at KX 157 ht)
      exact h2.isCodeTable
    · obtain ⟨ps, _, h2⟩ := code_tab code169 KF1 (tab_at KX 164 ht)
      exact h2.isCodeTable
  have tabo : ∀ t ∈ tabs, s₁.heap.get? t = some ⟨.none, none, .fields (tb0 t), #[]⟩ := fun t ht => by
    have : t = 157 ∨ t = 164 := by simpa [tabs] using ht
    rcases this with rfl | rfl
    · exact KX _ _ (tab157 _)
    · exact KX _ _ (tab164 _)
  refine q s' ⟨fun b o e => ?_, fun b o e => ?_⟩ r'.os r'.bare
  · by_cases hb : b ∈ tabs
    · obtain ⟨more, e2, _⟩ := (r'.tab b hb).2
      rw [tabo b hb] at e
      (first | (have q := qc e q) | (have q := qcB e q) | cases e)
      exact .inr (.inl ⟨isT b hb, rfl, tb0 b, more, rfl, e2⟩)
    · exact .inl (keep b o hb e)
  · by_cases hb : b ∈ tabs
    · obtain ⟨more, e2, _⟩ := (r'.tab b hb).2
      exact ⟨_, e2⟩
    · exact ⟨o, keep b o hb e⟩
end
end Mine
set_option genSizeOf false
set_option genInjectivity false
namespace Mine
open PySem PySem.W PySem.W.X PyProof.Rows PySem.Calls
set_option maxRecDepth 100000 in
set_option maxHeartbeats 0 in
theorem mn : PySem.Challenge.rw_xn0029_01.Holds := by
  apply Hd.hx
  k_fill
  intro w s₀ s₁ mg mb G Y fa o pm cd doc dV kV ho hd hcd hD hmg hg args vals as hpre hlay hrd hwl hlo
  have KX := kIn_of Y
  refine Ground.open G ?_
  intro T B D TE TW
  wrow_args hpre hlay hrd hwl hlo
  x_fa T KX hmg
  all_lens
  exact law_main KX (topRead_of T).nolimit hg (by assumption) (by assumption) (by omega) (fun s' h1 h2 h3 => ⟨.inl ⟨_, _, [], rfl, fun _ => rfl, ReadsW.bool true, by first | rfl | wrow_post, fun _ => ⟨List.nodup_nil, fun _ hm => (nomatch hm)⟩⟩, h1, h2, h3⟩)
end Mine
theorem PySem.Challenge.cw_xn0029_01_holds : PySem.Challenge.rw_xn0029_01.Holds := by
  exact Mine.mn
