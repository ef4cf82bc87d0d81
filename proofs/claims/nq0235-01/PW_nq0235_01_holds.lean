import PyProof.Rows.All
import Wide.All
import OpenK.AllK
import Wide.FinOn
import PySem.Challenge.RW_nq0235_01
open PySem PySem.W PyProof.Rows PySem.Calls
set_option Elab.async false
set_option maxRecDepth 100000
set_option maxHeartbeats 4000000
set_option linter.unusedVariables false
set_option linter.unusedSimpArgs false
set_option compiler.extract_closed false
section
set_option maxHeartbeats 0
namespace Mine
noncomputable abbrev rwA : OpenLaw := PySem.Challenge.rw_nq0235_01
noncomputable def qV : Program := view rwA.prog [0, 1, 2, 3, 5, 6, 7, 8, 9, 10, 11, 12, 13, 14, 16, 17, 19, 20, 21, 22, 23, 24, 25, 26, 28, 29, 30, 32, 33, 34, 35, 36, 37, 38, 39, 40, 41, 42]
noncomputable def looseV : List Str := [Str.ofString "_twin_re_1", Str.ofString "UnsupportedOperation", Str.ofString "IOBase", Str.ofString "BufferedIOBase", Str.ofString "TextIOBase", Str.ofString "BytesIO", Str.ofString "StringIO", Str.ofString "shlex", Str.ofString "_find_unsafe"]
/- a statement of the row's text; one of a class's -/
noncomputable def sA (i : Nat) : Stmt := rwA.prog.main.body.getD i (.Pass default)
noncomputable def sB (i j : Nat) : Stmt := match sA i with
  | .ClassDef _ _ _ body .. => body.getD j (.Pass default)
  | _ => .Pass default
/- a def's object -/
noncomputable def fnO (s : Stmt) (q : Str) (df kd doc pm cd : Value) (bi : Addr) : Obj := match s with
  | .FunctionDef n ps body _ _ _ sc .. => { cls := .type "function", data := .func { name := n, qualname := q, params := ps, body := .stmts body, scope := sc, globals := 3, closure := [], defaults := df, kwdefaults := kd, doc := doc, pyModule := pm, code := cd, builtins := bi } }
  | _ => default
/- what of the heap behind the top is spoken of -/
noncomputable def KK (P : Params) : Frag :=
  (nat_lit 2, { cls := .none, data := .dict #[{ hash := PyData.keyHash P "\x69mport.loaded._sre", key := .str "\x69mport.loaded._sre" 183, val := .bool true }, { hash := PyData.keyHash P "class._frozen_importlib.BuiltinImporter", key := .str "class._frozen_importlib.BuiltinImporter" 185, val := .ref 14 }, { hash := PyData.keyHash P "watched.\x69mport", key := .str "watched.\x69mport" 206, val := .ref 18 }, { hash := PyData.keyHash P "class._frozen_importlib.ModuleSpec", key := .str "class._frozen_importlib.ModuleSpec" 216, val := .ref 22 }, { hash := PyData.keyHash P "sys.modules.booked-epoch", key := .str "sys.modules.booked-epoch" 245, val := .int 4 0 }, { hash := PyData.keyHash P "\x69mport.later-laid._sre", key := .str "\x69mport.later-laid._sre" 270, val := .bool true }, { hash := PyData.keyHash P "watched.library", key := .str "watched.library" 272, val := .ref 27 }, { hash := PyData.keyHash P "watched.library-objects", key := .str "watched.library-objects" 0, val := .str "\x0c\x1e" 0 }, { hash := PyData.keyHash P "watched.library-deep._sre", key := .str "watched.library-deep._sre" 273, val := .str "\x04\x00\x00\x0b\x04\x00\x00\x0b\x04\x00\x00\x03\x04\x00\x00\x0b\x08\x04dict\x02" 0 }, { hash := PyData.keyHash P "\x69mport.loaded._collections", key := .str "\x69mport.loaded._collections" 280, val := .bool true }, { hash := PyData.keyHash P "sys.modules.landed._collections", key := .str "sys.modules.landed._collections" 294, val := .bool true }, { hash := PyData.keyHash P "\x69mport.later-laid._collections", key := .str "\x69mport.later-laid._collections" 309, val := .bool true }, { hash := PyData.keyHash P "watched.library-deep._collections", key := .str "watched.library-deep._collections" 311, val := .str "\x04\x00\x00\x1d\x04\x00\x00\x1d\x04\x00\x00\x03\x04\x00\x00\x1d\x08\x04dict\x02" 0 }, { hash := PyData.keyHash P "type.__subclasses__.OSError.0", key := .str "type.__subclasses__.OSError.0" 554, val := .int 170 0 }, { hash := PyData.keyHash P "type.__subclasses__.OSError.n", key := .str "type.__subclasses__.OSError.n" 555, val := .int 1 0 }] 15 }) ::
  (nat_lit 3, { cls := .type "dict", data := .dict #[{ hash := PyData.keyHash P "__name__", key := .str "__name__" 165, val := .str "law_nq0235_01" 1325 }, { hash := PyData.keyHash P "__doc__", key := .str "__doc__" 166, val := .none }, { hash := PyData.keyHash P "__package__", key := .str "__package__" 167, val := .none }, { hash := PyData.keyHash P "__loader__", key := .str "__loader__" 168, val := .builtin "__main__.__loader__#opaque" }, { hash := PyData.keyHash P "__spec__", key := .str "__spec__" 169, val := .none }, { hash := PyData.keyHash P "__annotations__", key := .str "__annotations__" 170, val := .ref 6 }, { hash := PyData.keyHash P "__builtins__", key := .str "__builtins__" 171, val := .ref 4 }, { hash := PyData.keyHash P "__file__", key := .str "__file__" 173, val := .str "/claim/cut.py" 172 }, { hash := PyData.keyHash P "__cached__", key := .str "__cached__" 174, val := .none }, { hash := PyData.keyHash P "_sre", key := .str "_sre" 275, val := .ref 12 }, { hash := PyData.keyHash P "deque", key := .str "deque" 317, val := .type "collections.deque" }, { hash := PyData.keyHash P "_wall", key := .str "_wall" 330, val := .ref 44 }, { hash := PyData.keyHash P "sep", key := .str "sep" 332, val := .str "/" 331 }, { hash := PyData.keyHash P "_kind", key := .str "_kind" 343, val := .ref 51 }, { hash := PyData.keyHash P "_fspath", key := .str "_fspath" 352, val := .ref 58 }, { hash := PyData.keyHash P "_check_arg_types", key := .str "_check_arg_types" 362, val := .ref 65 }, { hash := PyData.keyHash P "isabs", key := .str "isabs" 369, val := .ref 72 }, { hash := PyData.keyHash P "join", key := .str "join" 380, val := .ref 79 }, { hash := PyData.keyHash P "_c_path", key := .str "_c_path" 393, val := .ref 86 }, { hash := PyData.keyHash P "_splitroot", key := .str "_splitroot" 402, val := .ref 93 }, { hash := PyData.keyHash P "dirname", key := .str "dirname" 412, val := .ref 100 }, { hash := PyData.keyHash P "_normpath", key := .str "_normpath" 427, val := .ref 107 }, { hash := PyData.keyHash P "normpath", key := .str "normpath" 435, val := .ref 114 }, { hash := PyData.keyHash P "_Ignore", key := .str "_Ignore" 477, val := .ref 137 }, { hash := PyData.keyHash P "_twin_re_1", key := .str "_twin_re_1" 517, val := .ref 146 }, { hash := PyData.keyHash P "_whence", key := .str "_whence" 527, val := .ref 153 }, { hash := PyData.keyHash P "_index", key := .str "_index" 535, val := .ref 160 }, { hash := PyData.keyHash P "UnsupportedOperation", key := .str "UnsupportedOperation" 557, val := .ref 170 }, { hash := PyData.keyHash P "IOBase", key := .str "IOBase" 589, val := .ref 190 }, { hash := PyData.keyHash P "BufferedIOBase", key := .str "BufferedIOBase" 607, val := .ref 205 }, { hash := PyData.keyHash P "TextIOBase", key := .str "TextIOBase" 625, val := .ref 217 }, { hash := PyData.keyHash P "BytesIO", key := .str "BytesIO" 887, val := .ref 447 }, { hash := PyData.keyHash P "StringIO", key := .str "StringIO" 1174, val := .ref 694 }, { hash := PyData.keyHash P "shlex", key := .str "shlex" 1315, val := .ref 787 }, { hash := PyData.keyHash P "_find_unsafe", key := .str "_find_unsafe" 1317, val := .ref 792 }, { hash := PyData.keyHash P "quote", key := .str "quote" 1324, val := .ref 799 }, { hash := PyData.keyHash P "_law_folder", key := .str "_law_folder" 1334, val := .ref 806 }, { hash := PyData.keyHash P "_law_base", key := .str "_law_base" 1341, val := .ref 813 }, { hash := PyData.keyHash P "_law_settings", key := .str "_law_settings" 1347, val := .ref 818 }, { hash := PyData.keyHash P "_law_drawn", key := .str "_law_drawn" 1353, val := .ref 823 }, { hash := PyData.keyHash P "_law_text", key := .str "_law_text" 1364, val := .ref 830 }, { hash := PyData.keyHash P "_law_file", key := .str "_law_file" 1371, val := .ref 837 }, { hash := PyData.keyHash P "_law_read", key := .str "_law_read" 1386, val := .ref 844 }, { hash := PyData.keyHash P "_law_left_out", key := .str "_law_left_out" 1392, val := .ref 849 }, { hash := PyData.keyHash P "_law_strands", key := .str "_law_strands" 1401, val := .ref 856 }, { hash := PyData.keyHash P "_law_due", key := .str "_law_due" 1407, val := .ref 861 }, { hash := PyData.keyHash P "law", key := .str "law" 1413, val := .ref 866 }] 47 }) ::
  (nat_lit 50, { cls := .type "code", data := .fields #[.str "_kind" 335, .str "_kind" 336, .str "/claim/cut.py" 337, .int 8 0, .int 2 0, .int 0 0, .int 0 0, .int 3 0, .ref 45, .bool true, .int 318 0, .ref 46, .none, .ref 47, .ref 48, .ref 49, .int 341 0, .int 8 0, .str "/claim/cut.py" 342] }) ::
  (nat_lit 51, fnO (sA 5) "_kind" .none .none (.none) (.str "os.path" 333) (.ref 50) 0) ::
  (nat_lit 57, { cls := .type "code", data := .fields #[.str "_fspath" 344, .str "_fspath" 345, .str "/claim/cut.py" 346, .int 29 0, .int 2 0, .int 0 0, .int 0 0, .int 3 0, .ref 52, .bool true, .int 318 0, .ref 53, .none, .ref 54, .ref 55, .ref 56, .int 350 0, .int 29 0, .str "/claim/cut.py" 351] }) ::
  (nat_lit 58, fnO (sA 6) "_fspath" .none .none (.none) (.str "os.path" 333) (.ref 57) 0) ::
  (nat_lit 85, { cls := .type "code", data := .fields #[.str "_c_path" 381, .str "_c_path" 382, .str "/claim/cut.py" 383, .int 62 0, .int 5 0, .int 0 0, .int 0 0, .int 3 0, .ref 80, .bool true, .int 318 0, .ref 81, .none, .ref 82, .ref 83, .ref 84, .int 391 0, .int 62 0, .str "/claim/cut.py" 392] }) ::
  (nat_lit 86, fnO (sA 10) "_c_path" .none .none (.none) (.str "os.path" 333) (.ref 85) 0) ::
  (nat_lit 92, { cls := .type "code", data := .fields #[.str "_splitroot" 394, .str "_splitroot" 395, .str "/claim/cut.py" 396, .int 73 0, .int 1 0, .int 0 0, .int 0 0, .int 3 0, .ref 87, .bool true, .int 318 0, .ref 88, .none, .ref 89, .ref 90, .ref 91, .int 400 0, .int 73 0, .str "/claim/cut.py" 401] }) ::
  (nat_lit 93, fnO (sA 11) "_splitroot" .none .none (.none) (.str "os.path" 333) (.ref 92) 0) ::
  (nat_lit 106, { cls := .type "code", data := .fields #[.str "_normpath" 413, .str "_normpath" 414, .str "/claim/cut.py" 415, .int 90 0, .int 1 0, .int 0 0, .int 0 0, .int 3 0, .ref 101, .bool true, .int 318 0, .ref 102, .none, .ref 103, .ref 104, .ref 105, .int 425 0, .int 90 0, .str "/claim/cut.py" 426] }) ::
  (nat_lit 107, fnO (sA 13) "_normpath" .none .none (.none) (.str "os.path" 333) (.ref 106) 0) ::
  (nat_lit 113, { cls := .type "code", data := .fields #[.str "normpath" 428, .str "normpath" 429, .str "/claim/cut.py" 430, .int 109 0, .int 0 0, .int 0 0, .int 0 0, .int 15 0, .ref 108, .bool true, .int 318 0, .ref 109, .none, .ref 110, .ref 111, .ref 112, .int 433 0, .int 109 0, .str "/claim/cut.py" 434] }) ::
  (nat_lit 114, fnO (sA 14) "normpath" .none .none (.none) (.str "os.path" 333) (.ref 113) 0) ::
  (nat_lit 122, { cls := .type "tuple", data := .seq #[.none, .none] }) ::
  (nat_lit 126, { cls := .type "code", data := .fields #[.str "__init__" 450, .str "_Ignore.__init__" 451, .str "/claim/cut.py" 452, .int 114 0, .int 3 0, .int 0 0, .int 0 0, .int 3 0, .ref 123, .bool true, .int 318 0, .ref 124, .none, .none, .none, .ref 125, .int 453 0, .int 114 0, .str "/claim/cut.py" 454] }) ::
  (nat_lit 127, fnO (sB 16 0) "_Ignore.__init__" (.ref 122) .none (.none) (.str "cpy313.trace" 436) (.ref 126) 0) ::
  (nat_lit 133, { cls := .type "code", data := .fields #[.str "names" 456, .str "_Ignore.names" 457, .str "/claim/cut.py" 458, .int 119 0, .int 3 0, .int 0 0, .int 0 0, .int 3 0, .ref 128, .bool true, .int 318 0, .ref 129, .none, .ref 130, .ref 131, .ref 132, .int 464 0, .int 119 0, .str "/claim/cut.py" 465] }) ::
  (nat_lit 134, fnO (sB 16 1) "_Ignore.names" .none .none (.none) (.str "cpy313.trace" 436) (.ref 133) 0) ::
  (nat_lit 136, { cls := .type "dict", data := .dict #[{ hash := PyData.keyHash P "__module__", key := .str "__module__" 445, val := .str "cpy313.trace" 436 }, { hash := PyData.keyHash P "__firstlineno__", key := .str "__firstlineno__" 449, val := .int 112 448 }, { hash := PyData.keyHash P "__init__", key := .str "__init__" 455, val := .ref 127 }, { hash := PyData.keyHash P "names", key := .str "names" 466, val := .ref 134 }, { hash := PyData.keyHash P "__static_attributes__", key := .str "__static_attributes__" 470, val := .ref 135 }, { hash := PyData.keyHash P "__dict__", key := .str "__dict__" 472, val := .ref 138 }, { hash := PyData.keyHash P "__weakref__", key := .str "__weakref__" 474, val := .ref 139 }, { hash := PyData.keyHash P "__doc__", key := .str "__doc__" 475, val := .none }] 4 }) ::
  (nat_lit 137, { cls := .type "type", data := .cls { name := "_Ignore", bases := [.type "object"], mro := [.ref 137, .type "object"], ns := 136, qualname := "_Ignore" }, slots := #[none, none, some (.str "_Ignore" 438), some (.str "_Ignore" 446), some (.builtin "object.__new__"), some (.bool true)] }) ::
  (nat_lit 138, { cls := .type "getset_descriptor", data := .fields #[.str "__dict__" 471, .ref 137, .builtin "function.__dict__", .builtin "function.__dict__#set"] }) ::
  (nat_lit 139, { cls := .type "getset_descriptor", data := .fields #[.str "__weakref__" 473, .ref 137, .builtin "ExceptionGroup.__weakref__", .none] }) ::
  (nat_lit 145, { cls := .type "tuple", data := .seq #[.int 14 0, .int 17 0, .int 4 0, .int 1 0, .int 1 0, .int 21 0, .int 9 0, .int 0 0, .int 604043296 0, .int 1 0, .int 0 0, .int 0 0, .int 0 0, .int 0 0, .int 0 0, .int 8 0, .int 4 0, .int 0 0, .int 13 0, .int 14 0, .int 21 0, .int 9 0, .int 0 0, .int 604043296 0, .int 1 0, .int 0 0, .int 0 0, .int 0 0, .int 0 0, .int 0 0, .int 8 0, .int 4 0, .int 0 0, .int 1 0] }) ::
  (nat_lit 146, { cls := .type "re.Pattern", data := .fields #[.str "[^\\w@%+=:,./-]" 479, .int 256 516, .int 0 0, .none, .none, .ref 145, .int 0 0] }) ::
  (nat_lit 159, { cls := .type "code", data := .fields #[.str "_index" 528, .str "_index" 529, .str "/claim/cut.py" 530, .int 145 0, .int 2 0, .int 0 0, .int 0 0, .int 3 0, .ref 154, .bool true, .int 318 0, .ref 155, .none, .ref 156, .ref 157, .ref 158, .int 533 0, .int 145 0, .str "/claim/cut.py" 534] }) ::
  (nat_lit 160, fnO (sA 20) "_index" .none .none (.none) (.str "io" 518) (.ref 159) 0) ::
  (nat_lit 169, { cls := .type "dict", data := .dict #[{ hash := PyData.keyHash P "__module__", key := .str "__module__" 543, val := .str "io" 548 }, { hash := PyData.keyHash P "__firstlineno__", key := .str "__firstlineno__" 547, val := .int 152 546 }, { hash := PyData.keyHash P "__static_attributes__", key := .str "__static_attributes__" 550, val := .ref 168 }, { hash := PyData.keyHash P "__weakref__", key := .str "__weakref__" 552, val := .ref 171 }, { hash := PyData.keyHash P "__doc__", key := .str "__doc__" 553, val := .none }] 3 }) ::
  (nat_lit 170, { cls := .type "type", data := .cls { name := "UnsupportedOperation", bases := [.type "OSError", .type "ValueError"], mro := [.ref 170, .type "OSError", .type "ValueError", .type "Exception", .type "BaseException", .type "object"], ns := 169, qualname := "UnsupportedOperation" }, slots := #[some (.ref 161), none, some (.str "UnsupportedOperation" 536), some (.str "UnsupportedOperation" 544), some (.builtin "OSError.__new__"), some (.bool true)] }) ::
  (nat_lit 171, { cls := .type "getset_descriptor", data := .fields #[.str "__weakref__" 551, .ref 170, .builtin "ExceptionGroup.__weakref__", .none] }) ::
  (nat_lit 186, { cls := .type "code", data := .fields #[.str "__new__" 572, .str "IOBase.__new__" 573, .str "/claim/cut.py" 574, .int 157 0, .int 1 0, .int 1 0, .int 0 0, .int 15 0, .ref 181, .bool true, .int 318 0, .ref 182, .none, .ref 183, .ref 184, .ref 185, .int 578 0, .int 157 0, .str "/claim/cut.py" 579] }) ::
  (nat_lit 187, fnO (sB 22 1) "IOBase.__new__" .none .none (.none) (.str "io" 518) (.ref 186) 0) ::
  (nat_lit 189, { cls := .type "dict", data := .dict #[{ hash := PyData.keyHash P "__module__", key := .str "__module__" 565, val := .str "io" 570 }, { hash := PyData.keyHash P "__firstlineno__", key := .str "__firstlineno__" 569, val := .int 154 568 }, { hash := PyData.keyHash P "__new__", key := .str "__new__" 580, val := .ref 191 }, { hash := PyData.keyHash P "__static_attributes__", key := .str "__static_attributes__" 581, val := .ref 188 }, { hash := PyData.keyHash P "__dict__", key := .str "__dict__" 584, val := .ref 192 }, { hash := PyData.keyHash P "__weakref__", key := .str "__weakref__" 586, val := .ref 193 }, { hash := PyData.keyHash P "__doc__", key := .str "__doc__" 587, val := .none }] 4 }) ::
  (nat_lit 190, { cls := .type "type", data := .cls { name := "IOBase", bases := [.type "object"], mro := [.ref 190, .type "object"], ns := 189, qualname := "IOBase", subclasses := [.ref 205, .ref 217] }, slots := #[none, none, some (.str "IOBase" 558), some (.str "IOBase" 566), some .none, some (.bool true)] }) ::
  (nat_lit 191, { cls := .type "staticmethod", data := .fields #[.ref 187] }) ::
  (nat_lit 192, { cls := .type "getset_descriptor", data := .fields #[.str "__dict__" 583, .ref 190, .builtin "function.__dict__", .builtin "function.__dict__#set"] }) ::
  (nat_lit 193, { cls := .type "getset_descriptor", data := .fields #[.str "__weakref__" 585, .ref 190, .builtin "ExceptionGroup.__weakref__", .none] }) ::
  (nat_lit 204, { cls := .type "dict", data := .dict #[{ hash := PyData.keyHash P "__module__", key := .str "__module__" 597, val := .str "io" 602 }, { hash := PyData.keyHash P "__firstlineno__", key := .str "__firstlineno__" 601, val := .int 161 600 }, { hash := PyData.keyHash P "__static_attributes__", key := .str "__static_attributes__" 604, val := .ref 203 }, { hash := PyData.keyHash P "__doc__", key := .str "__doc__" 605, val := .none }] 2 }) ::
  (nat_lit 205, { cls := .type "type", data := .cls { name := "BufferedIOBase", bases := [.ref 190], mro := [.ref 205, .ref 190, .type "object"], ns := 204, qualname := "BufferedIOBase", subclasses := [.ref 447] }, slots := #[some (.ref 196), none, some (.str "BufferedIOBase" 590), some (.str "BufferedIOBase" 598), some .none, some (.bool true)] }) ::
  (nat_lit 216, { cls := .type "dict", data := .dict #[{ hash := PyData.keyHash P "__module__", key := .str "__module__" 615, val := .str "io" 620 }, { hash := PyData.keyHash P "__firstlineno__", key := .str "__firstlineno__" 619, val := .int 163 618 }, { hash := PyData.keyHash P "__static_attributes__", key := .str "__static_attributes__" 622, val := .ref 215 }, { hash := PyData.keyHash P "__doc__", key := .str "__doc__" 623, val := .none }] 2 }) ::
  (nat_lit 217, { cls := .type "type", data := .cls { name := "TextIOBase", bases := [.ref 190], mro := [.ref 217, .ref 190, .type "object"], ns := 216, qualname := "TextIOBase", subclasses := [.ref 694] }, slots := #[some (.ref 208), none, some (.str "TextIOBase" 608), some (.str "TextIOBase" 616), some .none, some (.bool true)] }) ::
  (nat_lit 256, { cls := .type "property", data := .fields #[.ref 255, .none, .none, .none, .str "closed" 673, .bool false] }) ::
  (nat_lit 446, { cls := .type "dict", data := .dict #[{ hash := PyData.keyHash P "__module__", key := .str "__module__" 633, val := .str "_io" 638 }, { hash := PyData.keyHash P "__firstlineno__", key := .str "__firstlineno__" 637, val := .int 165 636 }, { hash := PyData.keyHash P "__init__", key := .str "__init__" 647, val := .ref 234 }, { hash := PyData.keyHash P "_BytesIO__check", key := .str "_BytesIO__check" 654, val := .ref 241 }, { hash := PyData.keyHash P "_BytesIO__line", key := .str "_BytesIO__line" 665, val := .ref 248 }, { hash := PyData.keyHash P "closed", key := .str "closed" 673, val := .ref 256 }, { hash := PyData.keyHash P "close", key := .str "close" 680, val := .ref 263 }, { hash := PyData.keyHash P "__enter__", key := .str "__enter__" 687, val := .ref 270 }, { hash := PyData.keyHash P "__exit__", key := .str "__exit__" 695, val := .ref 277 }, { hash := PyData.keyHash P "readable", key := .str "readable" 702, val := .ref 284 }, { hash := PyData.keyHash P "writable", key := .str "writable" 709, val := .ref 291 }, { hash := PyData.keyHash P "seekable", key := .str "seekable" 716, val := .ref 298 }, { hash := PyData.keyHash P "isatty", key := .str "isatty" 723, val := .ref 305 }, { hash := PyData.keyHash P "flush", key := .str "flush" 730, val := .ref 312 }, { hash := PyData.keyHash P "fileno", key := .str "fileno" 737, val := .ref 319 }, { hash := PyData.keyHash P "detach", key := .str "detach" 744, val := .ref 326 }, { hash := PyData.keyHash P "getvalue", key := .str "getvalue" 751, val := .ref 333 }, { hash := PyData.keyHash P "getbuffer", key := .str "getbuffer" 758, val := .ref 340 }, { hash := PyData.keyHash P "tell", key := .str "tell" 765, val := .ref 347 }, { hash := PyData.keyHash P "seek", key := .str "seek" 775, val := .ref 355 }, { hash := PyData.keyHash P "truncate", key := .str "truncate" 783, val := .ref 363 }, { hash := PyData.keyHash P "read", key := .str "read" 795, val := .ref 371 }, { hash := PyData.keyHash P "read1", key := .str "read1" 805, val := .ref 379 }, { hash := PyData.keyHash P "readinto", key := .str "readinto" 815, val := .ref 386 }, { hash := PyData.keyHash P "readinto1", key := .str "readinto1" 823, val := .ref 393 }, { hash := PyData.keyHash P "readline", key := .str "readline" 833, val := .ref 401 }, { hash := PyData.keyHash P "readlines", key := .str "readlines" 841, val := .ref 409 }, { hash := PyData.keyHash P "__iter__", key := .str "__iter__" 848, val := .ref 416 }, { hash := PyData.keyHash P "__next__", key := .str "__next__" 856, val := .ref 423 }, { hash := PyData.keyHash P "write", key := .str "write" 866, val := .ref 430 }, { hash := PyData.keyHash P "writelines", key := .str "writelines" 874, val := .ref 437 }, { hash := PyData.keyHash P "__repr__", key := .str "__repr__" 881, val := .ref 444 }, { hash := PyData.keyHash P "__static_attributes__", key := .str "__static_attributes__" 884, val := .ref 445 }, { hash := PyData.keyHash P "__doc__", key := .str "__doc__" 885, val := .none }] 2 }) ::
  (nat_lit 447, { cls := .type "type", data := .cls { name := "BytesIO", bases := [.ref 205], mro := [.ref 447, .ref 205, .ref 190, .type "object"], ns := 446, qualname := "BytesIO" }, slots := #[some (.ref 220), none, some (.str "BytesIO" 626), some (.str "BytesIO" 634), some .none, some (.bool true)] }) ::
  (nat_lit 457, { cls := .type "tuple", data := .seq #[.str "" 902, .str "\n" 903] }) ::
  (nat_lit 463, { cls := .type "code", data := .fields #[.str "__init__" 904, .str "StringIO.__init__" 905, .str "/claim/cut.py" 906, .int 338 0, .int 3 0, .int 0 0, .int 0 0, .int 3 0, .ref 458, .bool true, .int 318 0, .ref 459, .none, .ref 460, .ref 461, .ref 462, .int 910 0, .int 338 0, .str "/claim/cut.py" 911] }) ::
  (nat_lit 464, fnO (sB 26 1) "StringIO.__init__" (.ref 457) .none (.none) (.str "io" 518) (.ref 463) 0) ::
  (nat_lit 470, { cls := .type "code", data := .fields #[.str "__translated" 913, .str "StringIO.__translated" 914, .str "/claim/cut.py" 915, .int 351 0, .int 2 0, .int 0 0, .int 0 0, .int 3 0, .ref 465, .bool true, .int 318 0, .ref 466, .none, .ref 467, .ref 468, .ref 469, .int 919 0, .int 351 0, .str "/claim/cut.py" 920] }) ::
  (nat_lit 471, fnO (sB 26 2) "StringIO.__translated" .none .none (.none) (.str "io" 518) (.ref 470) 0) ::
  (nat_lit 477, { cls := .type "code", data := .fields #[.str "__check" 922, .str "StringIO.__check" 923, .str "/claim/cut.py" 924, .int 359 0, .int 1 0, .int 0 0, .int 0 0, .int 3 0, .ref 472, .bool true, .int 318 0, .ref 473, .none, .ref 474, .ref 475, .ref 476, .int 926 0, .int 359 0, .str "/claim/cut.py" 927] }) ::
  (nat_lit 478, fnO (sB 26 3) "StringIO.__check" .none .none (.none) (.str "io" 518) (.ref 477) 0) ::
  (nat_lit 500, { cls := .type "property", data := .fields #[.ref 499, .none, .none, .none, .str "closed" 958, .bool false] }) ::
  (nat_lit 508, { cls := .type "property", data := .fields #[.ref 507, .none, .none, .none, .str "line_buffering" 966, .bool false] }) ::
  (nat_lit 516, { cls := .type "property", data := .fields #[.ref 515, .none, .none, .none, .str "newlines" 974, .bool false] }) ::
  (nat_lit 524, { cls := .type "property", data := .fields #[.ref 523, .none, .none, .none, .str "encoding" 982, .bool false] }) ::
  (nat_lit 532, { cls := .type "property", data := .fields #[.ref 531, .none, .none, .none, .str "errors" 990, .bool false] }) ::
  (nat_lit 633, { cls := .type "tuple", data := .seq #[.int (-1) 1095] }) ::
  (nat_lit 639, { cls := .type "code", data := .fields #[.str "read" 1096, .str "StringIO.read" 1097, .str "/claim/cut.py" 1098, .int 481 0, .int 2 0, .int 2 0, .int 0 0, .int 3 0, .ref 634, .bool true, .int 318 0, .ref 635, .none, .ref 636, .ref 637, .ref 638, .int 1103 0, .int 481 0, .str "/claim/cut.py" 1104] }) ::
  (nat_lit 640, fnO (sB 26 25) "StringIO.read" (.ref 633) .none (.none) (.str "io" 518) (.ref 639) 0) ::
  (nat_lit 693, { cls := .type "dict", data := .dict #[{ hash := PyData.keyHash P "__module__", key := .str "__module__" 895, val := .str "_io" 900 }, { hash := PyData.keyHash P "__firstlineno__", key := .str "__firstlineno__" 899, val := .int 335 898 }, { hash := PyData.keyHash P "__init__", key := .str "__init__" 912, val := .ref 464 }, { hash := PyData.keyHash P "_StringIO__translated", key := .str "_StringIO__translated" 921, val := .ref 471 }, { hash := PyData.keyHash P "_StringIO__check", key := .str "_StringIO__check" 928, val := .ref 478 }, { hash := PyData.keyHash P "_StringIO__check_dot", key := .str "_StringIO__check_dot" 935, val := .ref 485 }, { hash := PyData.keyHash P "_StringIO__line", key := .str "_StringIO__line" 950, val := .ref 492 }, { hash := PyData.keyHash P "closed", key := .str "closed" 958, val := .ref 500 }, { hash := PyData.keyHash P "line_buffering", key := .str "line_buffering" 966, val := .ref 508 }, { hash := PyData.keyHash P "newlines", key := .str "newlines" 974, val := .ref 516 }, { hash := PyData.keyHash P "encoding", key := .str "encoding" 982, val := .ref 524 }, { hash := PyData.keyHash P "errors", key := .str "errors" 990, val := .ref 532 }, { hash := PyData.keyHash P "close", key := .str "close" 997, val := .ref 539 }, { hash := PyData.keyHash P "__enter__", key := .str "__enter__" 1004, val := .ref 546 }, { hash := PyData.keyHash P "__exit__", key := .str "__exit__" 1012, val := .ref 553 }, { hash := PyData.keyHash P "readable", key := .str "readable" 1019, val := .ref 560 }, { hash := PyData.keyHash P "writable", key := .str "writable" 1026, val := .ref 567 }, { hash := PyData.keyHash P "seekable", key := .str "seekable" 1033, val := .ref 574 }, { hash := PyData.keyHash P "isatty", key := .str "isatty" 1040, val := .ref 581 }, { hash := PyData.keyHash P "flush", key := .str "flush" 1047, val := .ref 588 }, { hash := PyData.keyHash P "fileno", key := .str "fileno" 1054, val := .ref 595 }, { hash := PyData.keyHash P "detach", key := .str "detach" 1061, val := .ref 602 }, { hash := PyData.keyHash P "getvalue", key := .str "getvalue" 1068, val := .ref 609 }, { hash := PyData.keyHash P "tell", key := .str "tell" 1075, val := .ref 616 }, { hash := PyData.keyHash P "seek", key := .str "seek" 1085, val := .ref 624 }, { hash := PyData.keyHash P "truncate", key := .str "truncate" 1093, val := .ref 632 }, { hash := PyData.keyHash P "read", key := .str "read" 1105, val := .ref 640 }, { hash := PyData.keyHash P "readline", key := .str "readline" 1115, val := .ref 648 }, { hash := PyData.keyHash P "readlines", key := .str "readlines" 1125, val := .ref 656 }, { hash := PyData.keyHash P "__iter__", key := .str "__iter__" 1132, val := .ref 663 }, { hash := PyData.keyHash P "__next__", key := .str "__next__" 1140, val := .ref 670 }, { hash := PyData.keyHash P "write", key := .str "write" 1152, val := .ref 677 }, { hash := PyData.keyHash P "writelines", key := .str "writelines" 1160, val := .ref 684 }, { hash := PyData.keyHash P "__repr__", key := .str "__repr__" 1167, val := .ref 691 }, { hash := PyData.keyHash P "__static_attributes__", key := .str "__static_attributes__" 1171, val := .ref 692 }, { hash := PyData.keyHash P "__doc__", key := .str "__doc__" 1172, val := .none }] 2 }) ::
  (nat_lit 694, { cls := .type "type", data := .cls { name := "StringIO", bases := [.ref 217], mro := [.ref 694, .ref 217, .ref 190, .type "object"], ns := 693, qualname := "StringIO" }, slots := #[some (.ref 450), none, some (.str "StringIO" 888), some (.str "StringIO" 896), some .none, some (.bool true)] }) ::
  (nat_lit 704, { cls := .type "tuple", data := .seq #[.none, .none, .bool false, .bool false] }) ::
  (nat_lit 710, { cls := .type "code", data := .fields #[.str "__init__" 1189, .str "shlex.__init__" 1190, .str "/claim/cut.py" 1191, .int 543 0, .int 5 0, .int 0 0, .int 0 0, .int 3 0, .ref 705, .bool true, .int 318 0, .ref 706, .none, .ref 707, .ref 708, .ref 709, .int 1198 0, .int 543 0, .str "/claim/cut.py" 1199] }) ::
  (nat_lit 711, fnO (sB 28 0) "shlex.__init__" (.ref 704) .none (.none) (.str "cpy313.shlex" 1175) (.ref 710) 0) ::
  (nat_lit 717, { cls := .type "code", data := .fields #[.str "punctuation_chars" 1201, .str "shlex.punctuation_chars" 1202, .str "/claim/cut.py" 1203, .int 584 0, .int 1 0, .int 0 0, .int 0 0, .int 3 0, .ref 712, .bool true, .int 318 0, .ref 713, .none, .ref 714, .ref 715, .ref 716, .int 1205 0, .int 584 0, .str "/claim/cut.py" 1206] }) ::
  (nat_lit 718, fnO (sB 28 1) "shlex.punctuation_chars" .none .none (.none) (.str "cpy313.shlex" 1175) (.ref 717) 0) ::
  (nat_lit 719, { cls := .type "property", data := .fields #[.ref 718, .none, .none, .none, .str "punctuation_chars" 1208, .bool false] }) ::
  (nat_lit 747, { cls := .type "code", data := .fields #[.str "get_token" 1233, .str "shlex.get_token" 1234, .str "/claim/cut.py" 1235, .int 611 0, .int 1 0, .int 0 0, .int 0 0, .int 3 0, .ref 742, .bool true, .int 318 0, .ref 743, .none, .ref 744, .ref 745, .ref 746, .int 1242 0, .int 611 0, .str "/claim/cut.py" 1243] }) ::
  (nat_lit 748, fnO (sB 28 5) "shlex.get_token" .none .none (.none) (.str "cpy313.shlex" 1175) (.ref 747) 0) ::
  (nat_lit 754, { cls := .type "code", data := .fields #[.str "read_token" 1245, .str "shlex.read_token" 1246, .str "/claim/cut.py" 1247, .int 638 0, .int 1 0, .int 0 0, .int 0 0, .int 3 0, .ref 749, .bool true, .int 318 0, .ref 750, .none, .ref 751, .ref 752, .ref 753, .int 1253 0, .int 638 0, .str "/claim/cut.py" 1254] }) ::
  (nat_lit 755, fnO (sB 28 6) "shlex.read_token" .none .none (.none) (.str "cpy313.shlex" 1175) (.ref 754) 0) ::
  (nat_lit 763, { cls := .type "tuple", data := .seq #[.none, .none] }) ::
  (nat_lit 769, { cls := .type "code", data := .fields #[.str "error_leader" 1264, .str "shlex.error_leader" 1265, .str "/claim/cut.py" 1266, .int 782 0, .int 3 0, .int 0 0, .int 0 0, .int 3 0, .ref 764, .bool true, .int 318 0, .ref 765, .none, .ref 766, .ref 767, .ref 768, .int 1270 0, .int 782 0, .str "/claim/cut.py" 1271] }) ::
  (nat_lit 770, fnO (sB 28 8) "shlex.error_leader" (.ref 763) .none (.none) (.str "cpy313.shlex" 1175) (.ref 769) 0) ::
  (nat_lit 786, { cls := .type "dict", data := .dict #[{ hash := PyData.keyHash P "__module__", key := .str "__module__" 1184, val := .str "cpy313.shlex" 1175 }, { hash := PyData.keyHash P "__firstlineno__", key := .str "__firstlineno__" 1188, val := .int 541 1187 }, { hash := PyData.keyHash P "__init__", key := .str "__init__" 1200, val := .ref 711 }, { hash := PyData.keyHash P "punctuation_chars", key := .str "punctuation_chars" 1208, val := .ref 719 }, { hash := PyData.keyHash P "push_token", key := .str "push_token" 1216, val := .ref 726 }, { hash := PyData.keyHash P "push_source", key := .str "push_source" 1225, val := .ref 734 }, { hash := PyData.keyHash P "pop_source", key := .str "pop_source" 1232, val := .ref 741 }, { hash := PyData.keyHash P "get_token", key := .str "get_token" 1244, val := .ref 748 }, { hash := PyData.keyHash P "read_token", key := .str "read_token" 1255, val := .ref 755 }, { hash := PyData.keyHash P "sourcehook", key := .str "sourcehook" 1263, val := .ref 762 }, { hash := PyData.keyHash P "error_leader", key := .str "error_leader" 1272, val := .ref 770 }, { hash := PyData.keyHash P "__iter__", key := .str "__iter__" 1279, val := .ref 777 }, { hash := PyData.keyHash P "__next__", key := .str "__next__" 1287, val := .ref 784 }, { hash := PyData.keyHash P "__static_attributes__", key := .str "__static_attributes__" 1308, val := .ref 785 }, { hash := PyData.keyHash P "__dict__", key := .str "__dict__" 1310, val := .ref 788 }, { hash := PyData.keyHash P "__weakref__", key := .str "__weakref__" 1312, val := .ref 789 }, { hash := PyData.keyHash P "__doc__", key := .str "__doc__" 1313, val := .none }] 4 }) ::
  (nat_lit 787, { cls := .type "type", data := .cls { name := "shlex", bases := [.type "object"], mro := [.ref 787, .type "object"], ns := 786, qualname := "shlex" }, slots := #[none, none, some (.str "shlex" 1177), some (.str "shlex" 1185), some (.builtin "object.__new__"), some (.bool true)] }) ::
  (nat_lit 788, { cls := .type "getset_descriptor", data := .fields #[.str "__dict__" 1309, .ref 787, .builtin "function.__dict__", .builtin "function.__dict__#set"] }) ::
  (nat_lit 789, { cls := .type "getset_descriptor", data := .fields #[.str "__weakref__" 1311, .ref 787, .builtin "ExceptionGroup.__weakref__", .none] }) ::
  (nat_lit 792, { cls := .type "builtin_function_or_method", data := .fields #[.builtin "re.Pattern.search", .ref 146] }) ::
  (nat_lit 798, { cls := .type "code", data := .fields #[.str "quote" 1318, .str "quote" 1319, .str "/claim/cut.py" 1320, .int 798 0, .int 1 0, .int 0 0, .int 0 0, .int 3 0, .ref 793, .bool true, .int 318 0, .ref 794, .none, .ref 795, .ref 796, .ref 797, .int 1322 0, .int 798 0, .str "/claim/cut.py" 1323] }) ::
  (nat_lit 799, fnO (sA 30) "quote" .none .none (.none) (.str "cpy313.shlex" 1175) (.ref 798) 0) ::
  (nat_lit 805, { cls := .type "code", data := .fields #[.str "_law_folder" 1327, .str "_law_folder" 1328, .str "/claim/cut.py" 1329, .int 805 0, .int 1 0, .int 0 0, .int 0 0, .int 3 0, .ref 800, .bool true, .int 318 0, .ref 801, .none, .ref 802, .ref 803, .ref 804, .int 1332 0, .int 805 0, .str "/claim/cut.py" 1333] }) ::
  (nat_lit 806, fnO (sA 32) "_law_folder" .none .none (.none) (.str "law_nq0235_01" 1325) (.ref 805) 0) ::
  (nat_lit 812, { cls := .type "code", data := .fields #[.str "_law_base" 1335, .str "_law_base" 1336, .str "/claim/cut.py" 1337, .int 808 0, .int 1 0, .int 0 0, .int 0 0, .int 3 0, .ref 807, .bool true, .int 318 0, .ref 808, .none, .ref 809, .ref 810, .ref 811, .int 1339 0, .int 808 0, .str "/claim/cut.py" 1340] }) ::
  (nat_lit 813, fnO (sA 33) "_law_base" .none .none (.none) (.str "law_nq0235_01" 1325) (.ref 812) 0) ::
  (nat_lit 817, { cls := .type "code", data := .fields #[.str "_law_settings" 1342, .str "_law_settings" 1343, .str "/claim/cut.py" 1344, .int 810 0, .int 1 0, .int 0 0, .int 0 0, .int 3 0, .ref 814, .bool true, .int 318 0, .ref 815, .none, .none, .none, .ref 816, .int 1345 0, .int 810 0, .str "/claim/cut.py" 1346] }) ::
  (nat_lit 818, fnO (sA 34) "_law_settings" .none .none (.none) (.str "law_nq0235_01" 1325) (.ref 817) 0) ::
  (nat_lit 822, { cls := .type "code", data := .fields #[.str "_law_drawn" 1348, .str "_law_drawn" 1349, .str "/claim/cut.py" 1350, .int 823 0, .int 1 0, .int 0 0, .int 0 0, .int 3 0, .ref 819, .bool true, .int 318 0, .ref 820, .none, .none, .none, .ref 821, .int 1351 0, .int 823 0, .str "/claim/cut.py" 1352] }) ::
  (nat_lit 823, fnO (sA 35) "_law_drawn" .none .none (.none) (.str "law_nq0235_01" 1325) (.ref 822) 0) ::
  (nat_lit 829, { cls := .type "code", data := .fields #[.str "_law_text" 1354, .str "_law_text" 1355, .str "/claim/cut.py" 1356, .int 841 0, .int 1 0, .int 0 0, .int 0 0, .int 3 0, .ref 824, .bool true, .int 318 0, .ref 825, .none, .ref 826, .ref 827, .ref 828, .int 1362 0, .int 841 0, .str "/claim/cut.py" 1363] }) ::
  (nat_lit 830, fnO (sA 36) "_law_text" .none .none (.none) (.str "law_nq0235_01" 1325) (.ref 829) 0) ::
  (nat_lit 836, { cls := .type "code", data := .fields #[.str "_law_file" 1365, .str "_law_file" 1366, .str "/claim/cut.py" 1367, .int 846 0, .int 1 0, .int 0 0, .int 0 0, .int 3 0, .ref 831, .bool true, .int 318 0, .ref 832, .none, .ref 833, .ref 834, .ref 835, .int 1369 0, .int 846 0, .str "/claim/cut.py" 1370] }) ::
  (nat_lit 837, fnO (sA 37) "_law_file" .none .none (.none) (.str "law_nq0235_01" 1325) (.ref 836) 0) ::
  (nat_lit 843, { cls := .type "code", data := .fields #[.str "_law_read" 1372, .str "_law_read" 1373, .str "/claim/cut.py" 1374, .int 848 0, .int 4 0, .int 0 0, .int 0 0, .int 3 0, .ref 838, .bool true, .int 318 0, .ref 839, .none, .ref 840, .ref 841, .ref 842, .int 1384 0, .int 848 0, .str "/claim/cut.py" 1385] }) ::
  (nat_lit 844, fnO (sA 38) "_law_read" .none .none (.none) (.str "law_nq0235_01" 1325) (.ref 843) 0) ::
  (nat_lit 848, { cls := .type "code", data := .fields #[.str "_law_left_out" 1387, .str "_law_left_out" 1388, .str "/claim/cut.py" 1389, .int 864 0, .int 3 0, .int 0 0, .int 0 0, .int 3 0, .ref 845, .bool true, .int 318 0, .ref 846, .none, .none, .none, .ref 847, .int 1390 0, .int 864 0, .str "/claim/cut.py" 1391] }) ::
  (nat_lit 849, fnO (sA 39) "_law_left_out" .none .none (.none) (.str "law_nq0235_01" 1325) (.ref 848) 0) ::
  (nat_lit 855, { cls := .type "code", data := .fields #[.str "_law_strands" 1393, .str "_law_strands" 1394, .str "/claim/cut.py" 1395, .int 870 0, .int 1 0, .int 0 0, .int 0 0, .int 3 0, .ref 850, .bool true, .int 318 0, .ref 851, .none, .ref 852, .ref 853, .ref 854, .int 1399 0, .int 870 0, .str "/claim/cut.py" 1400] }) ::
  (nat_lit 856, fnO (sA 40) "_law_strands" .none .none (.none) (.str "law_nq0235_01" 1325) (.ref 855) 0) ::
  (nat_lit 860, { cls := .type "code", data := .fields #[.str "_law_due" 1402, .str "_law_due" 1403, .str "/claim/cut.py" 1404, .int 875 0, .int 5 0, .int 0 0, .int 0 0, .int 3 0, .ref 857, .bool true, .int 318 0, .ref 858, .none, .none, .none, .ref 859, .int 1405 0, .int 875 0, .str "/claim/cut.py" 1406] }) ::
  (nat_lit 861, fnO (sA 41) "_law_due" .none .none (.none) (.str "law_nq0235_01" 1325) (.ref 860) 0) ::
  (nat_lit 865, { cls := .type "code", data := .fields #[.str "law" 1408, .str "law" 1409, .str "/claim/cut.py" 1410, .int 902 0, .int 1 0, .int 0 0, .int 0 0, .int 3 0, .ref 862, .bool true, .int 318 0, .ref 863, .none, .none, .none, .ref 864, .int 1411 0, .int 902 0, .str "/claim/cut.py" 1412] }) ::
  (nat_lit 866, fnO (sA 42) "law" .none .none (.none) (.str "law_nq0235_01" 1325) (.ref 865) 0) :: []
noncomputable def kAs : List Addr := nat_lit 2 :: nat_lit 3 :: nat_lit 50 :: nat_lit 51 :: nat_lit 57 :: nat_lit 58 :: nat_lit 85 :: nat_lit 86 :: nat_lit 92 :: nat_lit 93 :: nat_lit 106 :: nat_lit 107 :: nat_lit 113 :: nat_lit 114 :: nat_lit 122 :: nat_lit 126 :: nat_lit 127 :: nat_lit 133 :: nat_lit 134 :: nat_lit 136 :: nat_lit 137 :: nat_lit 138 :: nat_lit 139 :: nat_lit 145 :: nat_lit 146 :: nat_lit 159 :: nat_lit 160 :: nat_lit 169 :: nat_lit 170 :: nat_lit 171 :: nat_lit 186 :: nat_lit 187 :: nat_lit 189 :: nat_lit 190 :: nat_lit 191 :: nat_lit 192 :: nat_lit 193 :: nat_lit 204 :: nat_lit 205 :: nat_lit 216 :: nat_lit 217 :: nat_lit 256 :: nat_lit 446 :: nat_lit 447 :: nat_lit 457 :: nat_lit 463 :: nat_lit 464 :: nat_lit 470 :: nat_lit 471 :: nat_lit 477 :: nat_lit 478 :: nat_lit 500 :: nat_lit 508 :: nat_lit 516 :: nat_lit 524 :: nat_lit 532 :: nat_lit 633 :: nat_lit 639 :: nat_lit 640 :: nat_lit 693 :: nat_lit 694 :: nat_lit 704 :: nat_lit 710 :: nat_lit 711 :: nat_lit 717 :: nat_lit 718 :: nat_lit 719 :: nat_lit 747 :: nat_lit 748 :: nat_lit 754 :: nat_lit 755 :: nat_lit 763 :: nat_lit 769 :: nat_lit 770 :: nat_lit 786 :: nat_lit 787 :: nat_lit 788 :: nat_lit 789 :: nat_lit 792 :: nat_lit 798 :: nat_lit 799 :: nat_lit 805 :: nat_lit 806 :: nat_lit 812 :: nat_lit 813 :: nat_lit 817 :: nat_lit 818 :: nat_lit 822 :: nat_lit 823 :: nat_lit 829 :: nat_lit 830 :: nat_lit 836 :: nat_lit 837 :: nat_lit 843 :: nat_lit 844 :: nat_lit 848 :: nat_lit 849 :: nat_lit 855 :: nat_lit 856 :: nat_lit 860 :: nat_lit 861 :: nat_lit 865 :: nat_lit 866 :: []
noncomputable abbrev hk : Hook := kHook KK kAs (fun _ => by kernel_rfl)
/- one step, in words that the kernel reckons fast -/
noncomputable abbrev stQ : Program → World → SharedT → Thread → Option (SharedT × Thread) := PySem.W.Fast.tw10156331382660048174 (PySem.W.Fast.tw11892475500146522536 PySem.W.Fast.tw14364793385576792824)
theorem stQ_eq : stQ = PySem.W.stepT (denote treeTable) := by
  unfold stQ
  rw [← PySem.W.Fast.te10156331382660048174, ← PySem.W.Fast.te11892475500146522536, ← PySem.W.Fast.te14364793385576792824]
/- the modules are brought in; the top runs -/
noncomputable def impQ (p : Program) (w : World) (n : Nat) : SharedT → Thread → Option SharedT :=
  @Nat.rec (fun _ => SharedT → Thread → Option SharedT) (fun _ _ => none) (fun _ ih s t => match PySem.W.Fast.tw3805553451399329143 t with
    | some [] => some s
    | some (_ :: _) => none
    | none => match stQ p w s t with
      | some (s', t') => ih s' t'
      | none => none) n
noncomputable def topQ (p : Program) (w : World) (n₀ : Nat) (ann : Option Value) (n : Nat) : SharedT → Thread → Option SharedT :=
  @Nat.rec (fun _ => SharedT → Thread → Option SharedT) (fun _ _ => none) (fun _ ih s t => match through t with
    | true => some s
    | false => match PySem.W.Fast.tw6613529449190102663 n₀ ann t with
      | false => none
      | true => match stQ p w s t with
        | some (s', t') => ih s' t'
        | none => none) n
theorem impQ_of {p : Program} {w : World} : ∀ {n : Nat} {s s' : SharedT} {t : Thread}, impQ p w n s t = some s' → importEnds treeTable p w n s.abs t = some s'.abs
  | 0, _, _, _, h => by cases h
  | n + 1, s, s', t, h => by
    unfold importEnds
    have h : (match PySem.W.Fast.tw3805553451399329143 t with
      | some [] => some s
      | some (_ :: _) => none
      | none => match stQ p w s t with
        | some (s', t') => impQ p w n s' t'
        | none => none) = some s' := h
    rw [← PySem.W.Fast.te3805553451399329143, stQ_eq] at h
    cases he : t.atExitBegin with
    | some l =>
      rw [he] at h
      cases l with
      | nil => cases h; rfl
      | cons => cases h
    | none =>
      rw [he] at h
      dsimp only at h ⊢
      cases hs : PySem.W.stepT (denote treeTable) p w s t with
      | none => rw [hs] at h; cases h
      | some r => obtain ⟨s₂, t₂⟩ := r; rw [hs] at h; rw [stepT_spec hs]; exact impQ_of h
theorem topQ_of {p : Program} {w : World} {n₀ : Nat} {ann : Option Value} : ∀ {n : Nat} {s s' : SharedT} {t : Thread}, topQ p w n₀ ann n s t = some s' → topRun treeTable p w n₀ ann n s.abs t = some s'.abs
  | 0, _, _, _, h => by cases h
  | n + 1, s, s', t, h => by
    unfold topRun
    have h : (match through t with
      | true => some s
      | false => match PySem.W.Fast.tw6613529449190102663 n₀ ann t with
        | false => none
        | true => match stQ p w s t with
          | some (s', t') => topQ p w n₀ ann n s' t'
          | none => none) = some s' := h
    rw [← PySem.W.Fast.te6613529449190102663, stQ_eq] at h
    cases he : through t with
    | true => rw [he] at h; cases h; rfl
    | false =>
      rw [he] at h
      dsimp only at h ⊢
      cases hk : stepOk n₀ ann t with
      | false => rw [hk] at h; cases h
      | true =>
        rw [hk] at h
        dsimp only at h ⊢
        cases hs : PySem.W.stepT (denote treeTable) p w s t with
        | none => rw [hs] at h; cases h
        | some r => obtain ⟨s₂, t₂⟩ := r; rw [hs] at h; rw [stepT_spec hs]; exact topQ_of h
/- a heap laid as a tree -/
noncomputable def insQ (l : List Obj) : BT → Nat → Option (BT × Nat) :=
  @List.rec Obj (fun _ => BT → Nat → Option (BT × Nat)) (fun t n => some (t, n)) (fun o _ ih t n => match ((t.ins n o).get n).isSome with
    | true => ih (t.ins n o) (n + 1)
    | false => none) l
theorem insQ_of : ∀ {l : List Obj} {t t' : BT} {n n' : Nat} {life : Life}, insQ l t n = some (t', n') → absHeap t' n' life = ⟨(absHeap t n life).objs ++ l.toArray, life⟩
  | [], t, t', n, n', life, h => by cases h; simp [absHeap]
  | o :: l, t, t', n, n', life, h => by
    have h : (match ((t.ins n o).get n).isSome with
      | true => insQ l (t.ins n o) (n + 1)
      | false => none) = some (t', n') := h
    cases he : ((t.ins n o).get n).isSome with
    | false => rw [he] at h; cases h
    | true =>
      rw [he] at h
      rw [insQ_of (life := life) h, absHeap_ins he]
      show Heap.mk _ _ = Heap.mk _ _
      congr 1
      show ((absHeap t n life).objs.push o) ++ l.toArray = _
      simp
noncomputable def asT (s : Shared) : Option SharedT := (insQ s.heap.objs.toList .nil 0).map fun r => ⟨r.1, r.2, s.heap.life, s.gens, s.drawn, s.toks, s.os⟩
theorem asT_of {s : Shared} {s' : SharedT} (h : asT s = some s') : s'.abs = s := by
  unfold asT at h
  obtain ⟨⟨t, n⟩, h1, rfl⟩ := Option.map_eq_some_iff.mp h
  have := insQ_of (life := s.heap.life) h1
  unfold SharedT.abs
  dsimp only
  rw [this]
  obtain ⟨⟨o, l⟩, b, c, d, e⟩ := s
  simp [absHeap, BT.list]
noncomputable def runQ (p : Program) (w : World) (N : Nat) : Option SharedT :=
  ((asT (PySem.W.Fast.tw1435165496053646825 (opening p)).1).bind fun s => impQ (opening p) w N s (PySem.W.Fast.tw1435165496053646825 (opening p)).2).bind fun s => (PySem.W.Fast.tw14289696077712309145 p s.abs).bind fun s₀ => match s₀.heap.isNs mainGlobals && s₀.gens.size == 0 with
    | true => (asT s₀).bind fun t₀ => (topQ p w t₀.n (s₀.heap.nsMap mainGlobals "__annotations__") N t₀ (topStub p)).bind fun t₁ => match staticsOk (PySem.W.Fast.tw5923862056798008813 p.main.body) s₀.heap t₁.abs.heap && namesBound p t₁.abs.heap && gensDone t₁.abs && laidKept s₀.heap t₁.abs.heap with
      | true => some t₁
      | false => none
    | false => none
theorem runQ_of {p : Program} {w : World} {N : Nat} {t₁ : SharedT} (h : runQ p w N = some t₁) : openEnds treeTable p w N = some t₁.abs := by
  unfold runQ at h
  rw [← PySem.W.Fast.te1435165496053646825, ← PySem.W.Fast.te14289696077712309145, ← PySem.W.Fast.te5923862056798008813] at h
  obtain ⟨s, h1, h⟩ := Option.bind_eq_some_iff.mp h
  obtain ⟨s', h0, h1⟩ := Option.bind_eq_some_iff.mp h1
  obtain ⟨s₀, h2, h⟩ := Option.bind_eq_some_iff.mp h
  have e1 := impQ_of h1
  rw [asT_of h0] at e1
  cases hg : (s₀.heap.isNs mainGlobals && s₀.gens.size == 0) with
  | false => rw [hg] at h; cases h
  | true =>
    rw [hg] at h
    dsimp only at h
    obtain ⟨t₀, h3, h⟩ := Option.bind_eq_some_iff.mp h
    obtain ⟨t₂, h4, h⟩ := Option.bind_eq_some_iff.mp h
    have e2 := topQ_of h4
    have e3 := asT_of h3
    have e4 : t₀.n = s₀.heap.objs.size := by rw [← e3]; exact (absHeap_size _ _ _).symm
    rw [e3, e4] at e2
    cases hs : (staticsOk (importedModules p.main.body) s₀.heap t₂.abs.heap && namesBound p t₂.abs.heap && gensDone t₂.abs && laidKept s₀.heap t₂.abs.heap) with
    | false => rw [hs] at h; cases h
    | true =>
      rw [hs] at h
      cases h
      have z1 : fencedOpening treeTable p w N = some s₀ := by
        unfold fencedOpening
        rw [e1]; exact h2
      have z2 : topFrom treeTable p w N s₀ = some t₁.abs := by
        unfold topFrom
        rw [hg]
        dsimp only
        rw [e2]
        dsimp only [Option.bind]
        rw [hs]
      unfold openEnds
      rw [z1]
      exact z2
theorem s1 : sreFenced rwA.row.prog.main = true := by
  rw [PySem.W.Fast.te11788848310118352699]; kernel_rfl
theorem s2 : ((moduleNames rwA.row.prog.main.body).isEmpty || lookedIntoSs (moduleNames rwA.row.prog.main.body) rwA.row.prog.main.body) = true := by kernel_rfl
theorem s3 : namesResolve rwA.row.prog = true := by
  rw [PySem.W.Fast.te8377067652309620493]; kernel_rfl
theorem s4 : (rwA.row.prog.boundNames.all (fun n => !worldNames.contains n)) = true := by kernel_rfl
theorem sImp : (importedModules rwA.row.prog.main.body).all cThrough.contains = true := by kernel_rfl
theorem sBare : (["vars", "dir", "locals"] : List Str).filter (readsOut rwA.row.prog rwA.row.prog.main.body) = [] := by
  rw [PySem.W.Fast.te13343964577679436407]; kernel_rfl
theorem s5 : noRoadLSs { strict := !(importedModules rwA.row.prog.main.body).all cThrough.contains, foot := none, bare := (["vars", "dir", "locals"] : List Str).filter (readsOut rwA.row.prog rwA.row.prog.main.body) } rwA.row.prog.main.body = true := by
  rw [sImp, sBare, PySem.W.Fast.te8326940854005059898]; kernel_rfl
theorem s6 : (namesMeet rwA.row.prog rwA.row.prog.main.body fun _ n => attrL n) = true := by
  rw [PySem.W.Fast.te17119622794617984870]; kernel_rfl
theorem s7 : looksOpen rwA.row.prog = true := by
  unfold looksOpen
  rw [s1, s2, s3, s4, s5, s6]; rfl
theorem s8 : rwA.row.partSaid = true := by
  unfold OpenRow.partSaid
  rw [s7]; kernel_rfl
theorem s9 : rwA.row.wellSaid = true := by
  unfold OpenRow.wellSaid
  rw [s8]; kernel_rfl
theorem saidQ : rwA.wellSaid = true := by
  unfold OpenLaw.wellSaid
  rw [s9]
  rw [PySem.W.Fast.te8326940854005059898, PySem.W.Fast.te17119622794617984870, PySem.W.Fast.te9558739934217749035, PySem.W.Fast.te10501279942588096481]
  kernel_rfl
noncomputable abbrev XtQ (s : Shared) : Bool := xlAt qV [] s && recOk (RowW.records rwA.row.toRowW) s
theorem leftBoth : ∀ w, (runQ rwA.prog w 11240).map (fun t => (hk.obs t.abs, openSeen qV looseV (importedModules rwA.prog.main.body) XtQ true t.abs)) = some (hk.val w, openGood qV looseV) := by
  intro w
  rw [PySem.W.Fast.te4187177175401517315, PySem.W.Fast.te5923862056798008813]
  kernel_rfl
theorem leftQ : LeftO rwA.prog qV looseV (fun s => xlAt qV [] s && recOk (RowW.records rwA.row.toRowW) s) hk.obs hk.val 11240 := by
  intro w
  obtain ⟨t, h1, h2⟩ := Option.map_eq_some_iff.mp (leftBoth w)
  rw [runQ_of h1]
  obtain ⟨h3, h4⟩ := Prod.mk.inj h2
  show some (openSeen qV looseV (importedModules rwA.prog.main.body) XtQ true t.abs, hk.obs t.abs) = _
  rw [h3, h4]
theorem tabsQ : rwA.row.prog.tablesWhole = true := by
  unfold Program.tablesWhole PySem.TablesWhole.wProgram
  rw [PySem.W.Fast.te6116379765354995101]; kernel_rfl
end Mine
end
namespace Mine

noncomputable abbrev pg : Program := PySem.Challenge.rw_nq0235_01.prog
noncomputable abbrev MM (w : World) : Model := model pg w

/- the locals, by place -/
noncomputable def vm : List Str → List (Option Value) → Str → Option Value
  | n :: ns, v :: vs, x => if x = n then v else vm ns vs x
  | _, _, _ => none
theorem vm_c {n ns v vs x} : vm (n :: ns) (v :: vs) x = if x = n then v else vm ns vs x := rfl
theorem vm_0 {vs x} : vm [] vs x = none := rfl
theorem vm_00 {n ns x} : vm (n :: ns) [] x = none := rfl

inductive Lk : List Str → List (Option Value) → Str → Value → Prop
  | head {x ns v vs} : Lk (x :: ns) (some v :: vs) x v
  | tail {n ns u vs x v} : Lk ns vs x v → Lk (n :: ns) (u :: vs) x v
inductive Up : List Str → List (Option Value) → Str → Value → List (Option Value) → Prop
  | head {x ns u vs v} : Up (x :: ns) (u :: vs) x v (some v :: vs)
  | tail {n ns u vs x v vs'} : Up ns vs x v vs' → Up (n :: ns) (u :: vs) x v (u :: vs')

theorem Lk.mem {ns vs x v} (h : Lk ns vs x v) : x ∈ ns := by
  induction h with
  | head => exact .head _
  | tail _ ih => exact .tail _ ih
theorem Up.mem {ns vs x v vs'} (h : Up ns vs x v vs') : x ∈ ns := by
  induction h with
  | head => exact .head _
  | tail _ ih => exact .tail _ ih
theorem Lk.vm {ns vs x v} (h : Lk ns vs x v) (nd : ns.Nodup) : Mine.vm ns vs x = some v := by
  induction h with
  | head => simp [vm_c, vm_0, vm_00]
  | @tail n ns u vs x v h ih =>
    have hn := List.nodup_cons.mp nd
    have : x ≠ n := fun e => hn.1 (e ▸ h.mem)
    simp [vm_c, vm_0, vm_00, this, ih hn.2]
theorem Up.vm {ns vs x v vs'} (h : Up ns vs x v vs') (nd : ns.Nodup) : (fun y => if y = x then some v else Mine.vm ns vs y) = Mine.vm ns vs' := by
  induction h with
  | head => funext y; simp only [vm_c, vm_0, vm_00]; split <;> rfl
  | @tail n ns u vs x v vs' h ih =>
    have hn := List.nodup_cons.mp nd
    have hx : x ≠ n := fun e => hn.1 (e ▸ h.mem)
    funext y
    have := congrFun (ih hn.2) y
    simp only [vm_c, vm_0, vm_00]
    by_cases hy : y = n
    · subst hy; simp [Ne.symm hx]
    · simp only [hy, if_false]; exact this

/- the program's own objects, and the builtins -/
structure Prg (w : World) (g : Heap) : Prop where
  K : (KK w.params).In g
  b : ∃ mb, g.Ns builtinsNs mb ∧ ∀ x : Str, x ≠ "__name__" → mb x = bootBuiltins x
  lim : g.NoLimit
  dig : ∃ mc, g.Ns cStatics mc ∧ mc "sys.int_max_str_digits" = none
theorem Prg.keeps {w g g'} (P : Prg w g) (k : ∀ b o, g.get? b = some o → g'.get? b = some o) : Prg w g' :=
  ⟨P.K.keeps k, let ⟨mb, h1, h2⟩ := P.b; ⟨mb, h1.keeps k, h2⟩, P.lim.keeps k, let ⟨mc, h1, h2⟩ := P.dig; ⟨mc, h1.keeps k, h2⟩⟩

/- an instance's dict: the names in their order, the keys' tokens, the values (none: not set yet) -/
noncomputable def esOf (P : Params) : List Str → (Nat → Tok) → List (Option Value) → List DictEntry
  | n :: ns, tk, some v :: vs => ⟨PyData.keyHash P n, .str n (tk 0), v⟩ :: esOf P ns (fun i => tk (i + 1)) vs
  | _ :: ns, tk, none :: vs => esOf P ns (fun i => tk (i + 1)) vs
  | _, _, _ => []
theorem esOf_s {P n ns tk v vs} : esOf P (n :: ns) tk (some v :: vs) = ⟨PyData.keyHash P n, .str n (tk 0), v⟩ :: esOf P ns (fun i => tk (i + 1)) vs := rfl
theorem esOf_n {P n ns tk vs} : esOf P (n :: ns) tk (none :: vs) = esOf P ns (fun i => tk (i + 1)) vs := rfl
theorem esOf_0 {P tk vs} : esOf P [] tk vs = [] := rfl
theorem esOf_00 {P n ns tk} : esOf P (n :: ns) tk [] = [] := rfl
noncomputable abbrev insO (C dx : Addr) : Obj := { cls := .ref C, dict := some dx, data := .plain }
noncomputable abbrev dcO (P : Params) (nm : List Str) (tk : Nat → Tok) (vs : List (Option Value)) (n : Nat) : Obj := { cls := .type "dict", data := .dict (esOf P nm tk vs).toArray n }
noncomputable abbrev lstO (l : List Value) (n : Nat) : Obj := { cls := .type "list", data := .seq l.toArray n }
noncomputable abbrev tupO (l : List Value) : Obj := { cls := .type "tuple", data := .seq l.toArray }
/- an entry of a dict of ints by texts -/
noncomputable def TabE (P : Params) (e : DictEntry) (kv : Str × Int) : Prop := e.hash = PyData.keyHash P kv.1 ∧ (∃ t, e.key = .str kv.1 t) ∧ ∃ t, e.val = .int kv.2 t
inductive TabEs (P : Params) : List DictEntry → List (Str × Int) → Prop
  | nil : TabEs P [] []
  | cons {e kv es kvs} : TabE P e kv → TabEs P es kvs → TabEs P (e :: es) (kv :: kvs)
/- what is known of one object -/
inductive Cell where
  | raw (a : Addr) (o : Obj)
  | ins (x C dx : Addr)
  | dic (d : Addr) (an : List Str) (av : List (Option Value))
  | lst (a : Addr) (l : List Value)
  | tup (a : Addr) (l : List Value)
  | itr (i a : Addr) (k : Nat)
  | tab (d : Addr) (kvs : List (Str × Int))
  | prd (a : Addr) (p : Obj → Prop)
noncomputable def Cell.addr : Cell → Addr
  | .raw a _ | .ins a _ _ | .dic a _ _ | .lst a _ | .tup a _ | .itr a _ _ | .tab a _ | .prd a _ => a
noncomputable def Cell.okO (P : Params) (o : Obj) : Cell → Prop
  | .raw _ o' => o = o'
  | .ins _ C dx => o = insO C dx
  | .dic _ an av => ∃ tk n, o = dcO P an tk av n
  | .lst _ l => ∃ n, o = lstO l n
  | .tup _ l => o = tupO l
  | .itr _ a k => o.cls = .type "list_iterator" ∧ o.data = .fields #[.ref a, .int k 0]
  | .tab d kvs => (d == sysModules) = false ∧ (kvs.map (·.1)).Nodup ∧ ∃ es n, o = { cls := .type "dict", data := .dict es.toArray n } ∧ TabEs P es kvs
  | .prd _ p => p o
noncomputable def Cell.ok (P : Params) (h : Heap) (c : Cell) : Prop := ∃ o, h.get? c.addr = some o ∧ c.okO P o
theorem Cell.ok.keeps {P h h'} {c : Cell} (x : c.ok P h) (k : ∀ o, h.get? c.addr = some o → h'.get? c.addr = some o) : c.ok P h' := let ⟨o, a, b⟩ := x; ⟨o, k o a, b⟩
theorem Cell.ok.lt {P h} {c : Cell} (x : c.ok P h) : c.addr < h.objs.size := let ⟨_, a, _⟩ := x; Heap.lt_size a
theorem Cell.ok.push {P h} {c : Cell} (x : c.ok P h) (o : Obj) : c.ok P (h.push o) := x.keeps fun _ e => Heap.get?_push_of_some _ e

noncomputable abbrev Led := List Cell

/- what is known of a frame's block -/
structure En (env : Env) (L : Addr) (nm gl : List Str) : Prop where
  kind : env.scope.kind = .function
  locals : env.locals = L
  loc : ∀ x ∈ nm, env.kindOf x = some .local
  glob : ∀ x ∈ gl, env.kindOf x = some .globalImplicit
  dbg : ∀ x ∈ nm ++ gl, (x == ("__debug__" : Str)) = false
  nn : ∀ x ∈ gl, x ≠ ("__name__" : Str)
  globals : env.globals = mainGlobals
  builtins : env.builtins = builtinsNs
  nd : nm.Nodup

structure St (w : World) (o₀ : OsState) (g : Heap) (L : Addr) (nm : List Str) (vs : List (Option Value)) (led : Led) (s : Shared) : Prop where
  P : Prg w g
  ns : s.heap.Ns L (vm nm vs)
  keep : ∀ b o, g.get? b = some o → s.heap.get? b = some o
  Lg : g.get? L = none
  ld : ∀ c ∈ led, c.ok w.params s.heap ∧ c.addr ≠ L ∧ g.get? c.addr = none
  nd : (led.map (·.addr)).Nodup
  gens : s.gens = #[]
  os : s.os = o₀

section
variable {w : World} {o₀ : OsState} {g : Heap} {L : Addr} {nm gl : List Str} {vs vs' : List (Option Value)} {led led' : Led} {s : Shared} {A : Around} {env : Env} {c c' : Cell}

theorem St.heap {s' : Shared} (S : St w o₀ g L nm vs led s) (h : s'.heap = s.heap) (hg : s'.gens = s.gens) (ho : s'.os = s.os) : St w o₀ g L nm vs led s' :=
  ⟨S.P, h ▸ S.ns, h ▸ S.keep, S.Lg, h ▸ S.ld, S.nd, hg ▸ S.gens, ho ▸ S.os⟩
theorem St.tok (S : St w o₀ g L nm vs led s) (t : Nat) : St w o₀ g L nm vs led { s with toks := t } := S.heap rfl rfl rfl
theorem St.push (S : St w o₀ g L nm vs led s) (o : Obj) : St w o₀ g L nm vs led { s with heap := s.heap.push o } :=
  ⟨S.P, S.ns.push o, fun b o' e => Heap.get?_push_of_some _ (S.keep b o' e), S.Lg, fun p hp => ⟨(S.ld p hp).1.push o, (S.ld p hp).2⟩, S.nd, S.gens, S.os⟩
theorem St.lt (S : St w o₀ g L nm vs led s) {a : Addr} {o : Obj} (h : g.get? a = some o) : a < s.heap.objs.size := Heap.lt_size (S.keep _ _ h)
theorem St.fresh (S : St w o₀ g L nm vs led s) : g.get? s.heap.objs.size = none := by
  cases q : g.get? s.heap.objs.size with
  | none => rfl
  | some o => exact absurd (S.lt q) (Nat.lt_irrefl _)
theorem St.none_at (S : St w o₀ g L nm vs led s) {a : Addr} (h : s.heap.objs.size ≤ a) : a ∉ led.map (·.addr) := fun q => by
  obtain ⟨p, hp, e⟩ := List.mem_map.mp q
  have q := (S.ld p hp).1.lt
  exact absurd (Nat.lt_of_lt_of_le (e ▸ q : a < s.heap.objs.size) h) (Nat.lt_irrefl _)
/- a new object of the ledger's -/
theorem St.alloc (S : St w o₀ g L nm vs led s) (c : Cell) (o : Obj) (hf : o.isFreed = false) (ha : c.addr = s.heap.objs.size) (hc : c.okO w.params o) : St w o₀ g L nm vs (c :: led) { s with heap := s.heap.push o } := by
  have S' := S.push o
  refine ⟨S.P, S'.ns, S'.keep, S.Lg, fun p hp => ?_, ?_, S.gens, S.os⟩
  · rcases List.mem_cons.mp hp with rfl | hp
    · exact ⟨⟨o, by rw [ha]; exact Heap.get?_push_size _ hf, hc⟩, by rw [ha]; exact Nat.ne_of_gt S.ns.lt, by rw [ha]; exact S.fresh⟩
    · exact S'.ld p hp
  · exact List.nodup_cons.mpr ⟨S.none_at (Nat.le_of_eq ha.symm), S.nd⟩

/- an object of the ledger's, changed -/
inductive UpL (c c' : Cell) : Led → Led → Prop
  | head {r} : UpL c c' (c :: r) (c' :: r)
  | tail {p r r'} : UpL c c' r r' → UpL c c' (p :: r) (p :: r')
theorem UpL.mem {l l'} (h : UpL c c' l l') : c ∈ l := by
  induction h with
  | head => exact .head _
  | tail _ ih => exact .tail _ ih
theorem UpL.map {l l'} (h : UpL c c' l l') (e : c'.addr = c.addr) : l'.map (·.addr) = l.map (·.addr) := by
  induction h with
  | head => simp [e]
  | tail _ ih => simp [ih]
theorem UpL.of {l l'} (h : UpL c c' l l') (nd : (l.map (·.addr)).Nodup) : ∀ p ∈ l', (p = c') ∨ (p ∈ l ∧ p.addr ≠ c.addr) := by
  induction h with
  | head =>
    intro p hp
    rcases List.mem_cons.mp hp with rfl | hp
    · exact .inl rfl
    · refine .inr ⟨.tail _ hp, fun e => ?_⟩
      exact (List.nodup_cons.mp nd).1 (List.mem_map.mpr ⟨p, hp, e⟩)
  | @tail q r r' h ih =>
    intro p hp
    rcases List.mem_cons.mp hp with rfl | hp
    · refine .inr ⟨.head _, fun e => ?_⟩
      exact (List.nodup_cons.mp nd).1 (List.mem_map.mpr ⟨_, h.mem, e.symm⟩)
    · rcases ih (List.nodup_cons.mp nd).2 p hp with e | ⟨h1, h2⟩
      · exact .inl e
      · exact .inr ⟨.tail _ h1, h2⟩
/- one object of the ledger's has changed, all else stands -/
theorem St.at {s' : Shared} (S : St w o₀ g L nm vs led s) (U : UpL c c' led led') (e : c'.addr = c.addr) (hk : Heap.ExtBut c.addr s.heap s'.heap) (ho' : c'.ok w.params s'.heap) (hg : s'.gens = s.gens) (hos : s'.os = s.os) : St w o₀ g L nm vs led' s' := by
  have D := S.ld _ U.mem
  obtain ⟨oL, es, ep, hL, r⟩ := S.ns
  refine ⟨S.P, ⟨oL, es, ep, hk _ _ (Ne.symm D.2.1) hL, r⟩, fun b x q => hk _ _ (fun z => ?_) (S.keep b x q), S.Lg, fun p hp => ?_, by rw [U.map e]; exact S.nd, hg ▸ S.gens, hos ▸ S.os⟩
  · have := D.2.2; rw [← z, q] at this; cases this
  · rcases U.of S.nd p hp with rfl | ⟨h1, h2⟩
    · exact ⟨ho', by rw [e]; exact D.2.1, by rw [e]; exact D.2.2⟩
    · have P := S.ld p h1
      exact ⟨P.1.keeps fun o q => hk _ _ h2 q, P.2⟩
theorem St.upd {f : Obj → Obj} (S : St w o₀ g L nm vs led s) (U : UpL c c' led led') (e : c'.addr = c.addr) (hf : ∀ o, c.okO w.params o → c'.okO w.params (f o) ∧ (f o).isFreed = false) :
    St w o₀ g L nm vs led' { s with heap := s.heap.update c.addr f } := by
  obtain ⟨o, h1, h2⟩ := (S.ld _ U.mem).1
  have q := hf o h2
  refine S.at (s' := { s with heap := s.heap.update c.addr f }) U e (Heap.SameBut.update ..).extBut ⟨f o, ?_, q.1⟩ rfl rfl
  rw [e]; exact Heap.get?_update_self _ h1 q.2
/- a heap that differs at the frame alone -/
theorem St.same {s' : Shared} (S : St w o₀ g L nm vs led s) (hn : s'.heap.Ns L (vm nm vs')) (hs : Heap.SameBut L s.heap s'.heap) (hg : s'.gens = s.gens) (ho : s'.os = s.os) : St w o₀ g L nm vs' led s' :=
  ⟨S.P, hn, fun b o e => (hs.2 b (fun q => by rw [q, S.Lg] at e; cases e)).trans (S.keep b o e), S.Lg, fun p hp => ⟨(S.ld p hp).1.keeps fun o q => (hs.2 _ (S.ld p hp).2.1).trans q, (S.ld p hp).2⟩, S.nd, hg ▸ S.gens, ho ▸ S.os⟩
/- all that is no part of the ledger stays as it is from now on -/
theorem St.freeze (S : St w o₀ g L nm vs led s) : ∃ g₂, (∀ b o, g.get? b = some o → g₂.get? b = some o) ∧ St w o₀ g₂ L nm vs led s ∧ ∀ b o, s.heap.get? b = some o → b ≠ L → b ∉ led.map (·.addr) → g₂.get? b = some o := by
  have key : ∀ b o, s.heap.get? b = some o → b ≠ L → b ∉ led.map (·.addr) → (hideAll s.heap (L :: led.map (·.addr))).get? b = some o := fun b o e h1 h2 =>
    hideAll_get _ e fun q => by
      rcases List.mem_cons.mp q with q | q
      · exact h1 q
      · exact h2 q
  have st : ∀ b o, g.get? b = some o → (hideAll s.heap (L :: led.map (·.addr))).get? b = some o := fun b o e => key b o (S.keep b o e) (fun q => by rw [q, S.Lg] at e; cases e) fun q => by
    obtain ⟨p, hp, rfl⟩ := List.mem_map.mp q
    rw [(S.ld p hp).2.2] at e; cases e
  exact ⟨_, st, ⟨S.P.keeps st, S.ns, fun b o e => of_hideAll _ e, hideAll_none _ (.head _), fun p hp => ⟨(S.ld p hp).1, (S.ld p hp).2.1, hideAll_none _ (.tail _ (List.mem_map_of_mem hp))⟩, S.nd, S.gens, S.os⟩, key⟩
theorem St.more {s' : Shared} (S : St w o₀ g L nm vs led s) (hk : ∀ b o, s.heap.get? b = some o → s'.heap.get? b = some o) (hg : s'.gens = s.gens) (ho : s'.os = s.os) : St w o₀ g L nm vs led s' :=
  ⟨S.P, S.ns.keeps hk, fun b o e => hk _ _ (S.keep b o e), S.Lg, fun p hp => ⟨(S.ld p hp).1.keeps fun o q => hk _ _ q, (S.ld p hp).2⟩, S.nd, hg ▸ S.gens, ho ▸ S.os⟩
theorem St.ext {h' : Heap} (S : St w o₀ g L nm vs led s) (hk : Heap.ExtBut s.heap.objs.size s.heap h') : St w o₀ g L nm vs led { s with heap := h' } :=
  S.more (fun b o e => hk b o (Nat.ne_of_lt (Heap.lt_size e)) e) rfl rfl
/- the ledger's head is forgotten -/
theorem St.drop {s' : Shared} (S : St w o₀ g L nm vs (c :: led) s) (hk : Heap.ExtBut c.addr s.heap s'.heap) (hg : s'.gens = s.gens) (hos : s'.os = s.os) : St w o₀ g L nm vs led s' := by
  have D := S.ld _ (.head _)
  obtain ⟨oL, es, ep, hL, r⟩ := S.ns
  have nd := List.nodup_cons.mp S.nd
  refine ⟨S.P, ⟨oL, es, ep, hk _ _ (Ne.symm D.2.1) hL, r⟩, fun b x q => hk _ _ (fun z => ?_) (S.keep b x q), S.Lg, fun p hp => ?_, nd.2, hg ▸ S.gens, hos ▸ S.os⟩
  · have := D.2.2; rw [← z, q] at this; cases this
  · have P := S.ld p (.tail _ hp)
    exact ⟨P.1.keeps fun o q => hk _ _ (fun e => nd.1 (List.mem_map.mpr ⟨p, hp, e⟩)) q, P.2⟩
/- what an object is known to be: of the ledger's, or of the frozen part -/
inductive Has (P : Params) (g : Heap) (led : Led) (c : Cell) : Prop
  | led : c ∈ led → Has P g led c
  | frz : c.ok P g → Has P g led c
theorem Has.at (h : Has w.params g led c) (S : St w o₀ g L nm vs led s) : c.ok w.params s.heap := by
  cases h with
  | led h => exact (S.ld _ h).1
  | frz h => exact h.keeps fun o q => S.keep _ _ q
theorem Has.list {a : Addr} {l : List Value} (h : Has w.params g led (.lst a l)) (S : St w o₀ g L nm vs led s) : s.heap.IsList a l.toArray := let ⟨_, h1, n, h2⟩ := h.at S; ⟨_, h1, h2 ▸ rfl, n, h2 ▸ rfl⟩
theorem Has.tup {a : Addr} {l : List Value} (h : Has w.params g led (.tup a l)) (S : St w o₀ g L nm vs led s) : IsTup s.heap a l.toArray := let ⟨_, h1, h2⟩ := h.at S; ⟨_, h1, h2 ▸ rfl, 0, h2 ▸ rfl⟩
end
end Mine
namespace Mine

/- what is known at a call: no frame -/
structure S0 (w : World) (o₀ : OsState) (g : Heap) (led : Led) (s : Shared) : Prop where
  P : Prg w g
  keep : ∀ b o, g.get? b = some o → s.heap.get? b = some o
  ld : ∀ c ∈ led, c.ok w.params s.heap ∧ g.get? c.addr = none
  nd : (led.map (·.addr)).Nodup
  gens : s.gens = #[]
  os : s.os = o₀

/- room: nothing is handled, n more calls may nest -/
structure Ok (A : Around) (n : Nat) : Prop where
  hd : A.handled = none
  dp : A.depth + 2 * n < recursionLimit
  un : A.units + 20 * n < cLine
theorem Ok.le {A : Around} {n m : Nat} (h : Ok A n) (hm : m ≤ n) : Ok A m := ⟨h.hd, by have := h.dp; lia, by have := h.un; lia⟩
theorem Ok.deeper {A : Around} {n : Nat} {env : Env} (h : Ok A (n + 1)) : Ok (A.deeper env) n := ⟨h.hd, by have := h.dp; show A.depth + 1 + _ < _; lia, by have := h.un; show A.units + 3 + _ < _; lia⟩
theorem Ok.in1 {A : Around} {n : Nat} (h : Ok A (n + 1)) : Ok A.in1 n := ⟨h.hd, by have := h.dp; show A.depth + _ < _; lia, by have := h.un; show A.units + 1 + _ < _; lia⟩
theorem Ok.room {A : Around} {n : Nat} (h : Ok A n) : A.depth < recursionLimit := by have := h.dp; lia
theorem Ok.units {A : Around} {n : Nat} (h : Ok A n) : A.units < cLine := by have := h.un; lia


noncomputable abbrev QV := Value → Shared → Prop
noncomputable abbrev QF := Flow → Shared → Prop
noncomputable abbrev QB := Bool → Shared → Prop
noncomputable abbrev QL := List Value → Shared → Prop
noncomputable abbrev QU := Unit → Shared → Prop
noncomputable abbrev FF : Value → Shared → Prop := fun _ _ => False

/- an expression is reckoned; statements run; a test; arguments; a name stored -/
@[irreducible] noncomputable def WE (w : World) (A : Around) (env : Env) (e : Expr) (Q : QV) (s : Shared) : Prop := wpAny (MM w) A (eval e env) Q FF s
@[irreducible] noncomputable def WX (w : World) (A : Around) (env : Env) (l : List Stmt) (Q : QF) (s : Shared) : Prop := wpAny (MM w) A (execs l env) Q FF s
@[irreducible] noncomputable def WT (w : World) (A : Around) (env : Env) (e : Expr) (Q : QB) (s : Shared) : Prop := wpAny (MM w) A (isTrue e env (eval e env)) Q FF s
@[irreducible] noncomputable def WAnd (w : World) (A : Around) (env : Env) (l : List Expr) (Q : QB) (s : Shared) : Prop := wpAny (MM w) A (allTrue .And l env) Q FF s
@[irreducible] noncomputable def WOr (w : World) (A : Around) (env : Env) (l : List Expr) (Q : QB) (s : Shared) : Prop := wpAny (MM w) A (allTrue .Or l env) Q FF s
@[irreducible] noncomputable def WA (w : World) (A : Around) (env : Env) (pos : Pos) (l : List Expr) (Q : QL) (s : Shared) : Prop := wpAny (MM w) A (spliced (backTo pos (starEach l env))) Q FF s
@[irreducible] noncomputable def WP (w : World) (A : Around) (env : Env) (l : Option Expr) (Q : QV) (s : Shared) : Prop := wpAny (MM w) A (evalPart l env) Q FF s
@[irreducible] noncomputable def WStore (w : World) (A : Around) (env : Env) (x : Str) (v : Value) (Q : QU) (s : Shared) : Prop := wpAny (MM w) A (storeName env x v) Q FF s
@[irreducible] noncomputable def WCmp (w : World) (A : Around) (op : CmpOp) (a b : Value) (Q : QV) (s : Shared) : Prop := wpAny (MM w) A (compareOp op a b) Q FF s
@[irreducible] noncomputable def WBin (w : World) (A : Around) (op : Operator) (a b : Value) (Q : QV) (s : Shared) : Prop := wpAny (MM w) A (binaryOp op a b) Q FF s
@[irreducible] noncomputable def WInp (w : World) (A : Around) (op : Operator) (a b : Value) (Q : QV) (s : Shared) : Prop := wpAny (MM w) A (inplaceOp op a b) Q FF s
@[irreducible] noncomputable def WTru (w : World) (A : Around) (a : Value) (Q : QB) (s : Shared) : Prop := wpAny (MM w) A (truthy a) Q FF s
@[irreducible] noncomputable def WC (w : World) (A : Around) (f : Value) (args : List Value) (kw : List (Str × Value)) (Q : QV) (s : Shared) : Prop := wpAny (MM w) A (call f args kw) Q FF s
/- the call's code -/
@[irreducible] noncomputable def WD (w : World) (A : Around) (f : Value) (args : List Value) (kw : List (Str × Value)) (Q : QV) (s : Shared) : Prop := codeAny (MM w) A (.call f ⟨args, kw⟩) (fun r s' => match r with | .ok (.ret v) => Q v s' | .ok _ => False | .error e => FF e s') s
@[irreducible] noncomputable def WGet (w : World) (A : Around) (o : Value) (x : Str) (Q : QV) (s : Shared) : Prop := wpAny (MM w) A (getAttr o x true) Q FF s
@[irreducible] noncomputable def WSet (w : World) (A : Around) (o : Value) (x : Str) (v : Value) (Q : QU) (s : Shared) : Prop := wpAny (MM w) A (setAttr o x v) Q FF s
@[irreducible] noncomputable def WSub (w : World) (A : Around) (value slice : Expr) (o i : Value) (Q : QV) (s : Shared) : Prop := wpAny (MM w) A (subscriptTail value slice o i) Q FF s
@[irreducible] noncomputable def WSetI (w : World) (A : Around) (o i v : Value) (Q : QU) (s : Shared) : Prop := wpAny (MM w) A (setItem o i v) Q FF s

section
variable {w : World} {o₀ : OsState} {g : Heap} {L : Addr} {nm gl : List Str} {vs vs' : List (Option Value)} {led : Led} {s : Shared} {A : Around} {env : Env}

theorem we {e : Expr} {Q : QV} : WE w A env e Q s = wpAny (MM w) A (eval e env) Q FF s := by unfold WE; rfl
theorem wx {l : List Stmt} {Q : QF} : WX w A env l Q s = wpAny (MM w) A (execs l env) Q FF s := by unfold WX; rfl
theorem wt {e : Expr} {Q : QB} : WT w A env e Q s = wpAny (MM w) A (isTrue e env (eval e env)) Q FF s := by unfold WT; rfl
theorem wand {l : List Expr} {Q : QB} : WAnd w A env l Q s = wpAny (MM w) A (allTrue .And l env) Q FF s := by unfold WAnd; rfl
theorem wor {l : List Expr} {Q : QB} : WOr w A env l Q s = wpAny (MM w) A (allTrue .Or l env) Q FF s := by unfold WOr; rfl
theorem wa {pos : Pos} {l : List Expr} {Q : QL} : WA w A env pos l Q s = wpAny (MM w) A (spliced (backTo pos (starEach l env))) Q FF s := by unfold WA; rfl
theorem wpt {l : Option Expr} {Q : QV} : WP w A env l Q s = wpAny (MM w) A (evalPart l env) Q FF s := by unfold WP; rfl
theorem wst {x : Str} {v : Value} {Q : QU} : WStore w A env x v Q s = wpAny (MM w) A (storeName env x v) Q FF s := by unfold WStore; rfl
theorem wcmp {op : CmpOp} {a b : Value} {Q : QV} : WCmp w A op a b Q s = wpAny (MM w) A (compareOp op a b) Q FF s := by unfold WCmp; rfl
theorem wbin {op : Operator} {a b : Value} {Q : QV} : WBin w A op a b Q s = wpAny (MM w) A (binaryOp op a b) Q FF s := by unfold WBin; rfl
theorem winp {op : Operator} {a b : Value} {Q : QV} : WInp w A op a b Q s = wpAny (MM w) A (inplaceOp op a b) Q FF s := by unfold WInp; rfl
theorem wtru {a : Value} {Q : QB} : WTru w A a Q s = wpAny (MM w) A (truthy a) Q FF s := by unfold WTru; rfl
theorem wc {f : Value} {args : List Value} {kw : List (Str × Value)} {Q : QV} : WC w A f args kw Q s = wpAny (MM w) A (call f args kw) Q FF s := by unfold WC; rfl
theorem wd {f : Value} {args : List Value} {kw : List (Str × Value)} {Q : QV} : WD w A f args kw Q s = codeAny (MM w) A (.call f ⟨args, kw⟩) (fun r s' => match r with | .ok (.ret v) => Q v s' | .ok _ => False | .error e => FF e s') s := by unfold WD; rfl
theorem wc_of {f : Value} {args : List Value} {kw : List (Str × Value)} {Q : QV} (h : WD w A f args kw Q s) : WC w A f args kw Q s := by rw [wc]; rw [wd] at h; exact wpAny_call h
theorem wget {o : Value} {x : Str} {Q : QV} : WGet w A o x Q s = wpAny (MM w) A (getAttr o x true) Q FF s := by unfold WGet; rfl
theorem wset {o : Value} {x : Str} {v : Value} {Q : QU} : WSet w A o x v Q s = wpAny (MM w) A (setAttr o x v) Q FF s := by unfold WSet; rfl
theorem wsub {value slice : Expr} {o i : Value} {Q : QV} : WSub w A value slice o i Q s = wpAny (MM w) A (subscriptTail value slice o i) Q FF s := by unfold WSub; rfl
theorem wseti {o i v : Value} {Q : QU} : WSetI w A o i v Q s = wpAny (MM w) A (setItem o i v) Q FF s := by unfold WSetI; rfl

theorem r_int {i k pos} {Q : QV} (S : St w o₀ g L nm vs led s) (k' : ∀ s t, St w o₀ g L nm vs led s → Q (.int i t) s) : WE w A env (.Constant (.int i) k pos) Q s := by
  rw [we]; exact wpAny_Constant_int (k' _ _ (S.tok _))
theorem r_str {x k pos} {Q : QV} (S : St w o₀ g L nm vs led s) (k' : ∀ s t, St w o₀ g L nm vs led s → Q (.str x t) s) : WE w A env (.Constant (.str x) k pos) Q s := by
  rw [we]; exact wpAny_mkText (k' _ _ (S.tok _))
theorem r_none {k pos} {Q : QV} (h : Q .none s) : WE w A env (.Constant .none k pos) Q s := by rw [we]; exact wpAny_pure h
theorem r_bool {b k pos} {Q : QV} (h : Q (.bool b) s) : WE w A env (.Constant (.bool b) k pos) Q s := by rw [we]; exact wpAny_pure h
theorem r_local {x pos v} {Q : QV} (S : St w o₀ g L nm vs led s) (e : En env L nm gl) (h : Lk nm vs x v) (k : Q v s) : WE w A env (.Name x pos) Q s := by
  rw [we]; exact wpAny_Name (wpAny_loadName_local e.kind (e.loc x h.mem) (by rw [e.locals]; exact S.ns) (h.vm e.nd) k) (e.dbg _ (List.mem_append_left _ h.mem))
theorem ns_K {w : World} {h : Heap} (K : (KK w.params).In h) {x : Str} {r : Option Value} (e : nsIn (KK w.params) mainGlobals x = some r) : Looks (MM w) h (nsGet mainGlobals x) r := looks_nsIn K e
theorem r_global {x pos v} {Q : QV} (S : St w o₀ g L nm vs led s) (e : En env L nm gl) (hx : x ∈ gl) (h : nsIn (KK w.params) mainGlobals x = some (some v)) (k : Q v s) : WE w A env (.Name x pos) Q s := by
  rw [we]
  refine Calls.Name_function_global e.kind (e.glob x hx) ?_ (e.dbg _ (List.mem_append_right _ hx))
  unfold loadGlobal
  refine wpAny_bind ?_
  rw [e.globals]
  exact (ns_K (S.P.K.keeps S.keep) h).here (wpAny_pure k)
theorem r_builtin {x pos v} {Q : QV} (S : St w o₀ g L nm vs led s) (e : En env L nm gl) (hx : x ∈ gl) (h : nsIn (KK w.params) mainGlobals x = some none) (hv : bootBuiltins x = some v) (k : Q v s) : WE w A env (.Name x pos) Q s := by
  rw [we]
  refine Calls.Name_function_global e.kind (e.glob x hx) ?_ (e.dbg _ (List.mem_append_right _ hx))
  obtain ⟨mb, h1, h2⟩ := S.P.b
  unfold loadGlobal
  refine wpAny_bind ?_
  rw [e.globals]
  refine (ns_K (S.P.K.keeps S.keep) h).here (wpAny_bind ?_)
  rw [e.builtins]
  refine wpAny_nsGet (h1.keeps S.keep) ?_
  rw [h2 x (e.nn x hx), hv]
  exact wpAny_pure k
theorem r_store {x v} {Q : QU} (S : St w o₀ g L nm vs led s) (e : En env L nm gl) (h : Up nm vs x v vs') (k : ∀ s, St w o₀ g L nm vs' led s → Q () s) : WStore w A env x v Q s := by
  rw [wst]
  refine wpAny_storeName_local (e.loc x h.mem) (by rw [e.locals]; exact S.ns) (fun h' hn hs => k _ ?_) (by rw [e.kind]; rfl)
  rw [e.locals] at hn hs
  exact S.same (s' := { s with heap := h', toks := s.toks + 1 }) (by rw [← h.vm e.nd]; exact hn) hs rfl rfl

noncomputable def bindsOf : List Str → List (Option Value) → List (Str × Value)
  | n :: ns, some v :: vs => (n, v) :: bindsOf ns vs
  | _ :: ns, none :: vs => bindsOf ns vs
  | _, _ => []
theorem bindsOf_s {n ns v vs} : bindsOf (n :: ns) (some v :: vs) = (n, v) :: bindsOf ns vs := rfl
theorem bindsOf_n {n ns vs} : bindsOf (n :: ns) (none :: vs) = bindsOf ns vs := rfl
theorem bindsOf_0 {vs} : bindsOf [] vs = [] := rfl
theorem bindsOf_00 {n ns} : bindsOf (n :: ns) [] = [] := rfl
theorem bindsOf_mem {x : Str} {v : Value} : ∀ {nm : List Str} {vs : List (Option Value)}, (x, v) ∈ bindsOf nm vs → x ∈ nm
  | n :: ns, some u :: vs, h => by
    rcases List.mem_cons.mp h with e | h
    · cases e; exact .head _
    · exact .tail _ (bindsOf_mem h)
  | n :: ns, none :: vs, h => .tail _ (bindsOf_mem (nm := ns) (vs := vs) h)
theorem bindsOf_vm : ∀ {nm : List Str} {vs : List (Option Value)}, nm.Nodup → (fun x => (bindsOf nm vs).reverse.lookup x) = vm nm vs := by
  intro nm
  induction nm with
  | nil => intro vs _; funext x; simp [bindsOf_s, bindsOf_n, bindsOf_0, bindsOf_00, vm_c, vm_0, vm_00]
  | cons n ns ih =>
    intro vs nd
    have hn := List.nodup_cons.mp nd
    cases vs with
    | nil => funext x; simp [bindsOf_s, bindsOf_n, bindsOf_0, bindsOf_00, vm_c, vm_0, vm_00]
    | cons u vs =>
      have ih' := fun x => congrFun (ih (vs := vs) hn.2) x
      have miss : (bindsOf ns vs).reverse.lookup n = none := by
        rw [List.lookup_eq_none_iff]
        intro p hp
        have := bindsOf_mem (x := p.1) (v := p.2) (List.mem_reverse.mp hp)
        have : n ≠ p.1 := fun e => hn.1 (e ▸ this)
        simpa using this
      funext x
      cases u with
      | none =>
        show (bindsOf ns vs).reverse.lookup x = if x = n then none else vm ns vs x
        by_cases hx : x = n
        · subst hx; simp [miss]
        · simp [hx, ih' x]
      | some v =>
        show ((n, v) :: bindsOf ns vs).reverse.lookup x = if x = n then some v else vm ns vs x
        rw [List.reverse_cons, List.lookup_append]
        by_cases hx : x = n
        · subst hx; simp [miss]
        · have hb : (x == n) = false := beq_eq_false_iff_ne.mpr hx
          simp [hx, ← ih' x, List.lookup_cons, hb]

noncomputable def allLoc (sc : Scope) (nm : List Str) : Bool := nm.all fun x => decide (sc.names.lookup x = some .local)
noncomputable def allGlob (sc : Scope) (nm : List Str) : Bool := nm.all fun x => decide (sc.names.lookup x = some .globalImplicit)
noncomputable def plainFn (fd : FuncData) (nm gl : List Str) : Bool :=
  allLoc fd.scope nm && allGlob fd.scope gl && decide nm.Nodup && decide (fd.scope.kind = .function) && !fd.scope.isCoroutine && !fd.scope.isGenerator && fd.scope.names.all (fun x => decide (x.2 ≠ .cell)) && decide (fd.globals = mainGlobals) && decide (fd.builtins = builtinsNs) && ((nm ++ gl).all fun x => !(x == ("__debug__" : Str))) && gl.all fun x => !(x == ("__name__" : Str))


theorem enter {f : Addr} {fd : FuncData} {oc : Value} {od : Option Addr} {sl : Array (Option Value)} {body : List Stmt} {args : List Value} {kw : List (Str × Value)} {n : Nat} {Q : QV} (C : S0 w o₀ g led s) (hA : Ok A (n + 1))
    (nm gl : List Str) (vs : List (Option Value)) (ho : (KK w.params).lookup f = some ⟨oc, od, .func fd, sl⟩) (hcd : codeIn (KK w.params) fd.code fd.qualname = true) (hbody : fd.body = .stmts body)
    (hbind : BindsTo s fd ⟨args, kw⟩ (bindsOf nm vs)) (hp : plainFn fd nm gl = true)
    (k : ∀ env L s', En env L nm gl → L = s.heap.objs.size → Ok (A.deeper env) n → St w o₀ g L nm vs led s' →
      WX w (A.deeper env) env body (fun fl s'' => Q (match fl with | .ret v => v | _ => .none) s'') s') :
    WD w A (.ref f) args kw Q s := by
  rw [wd]
  simp only [plainFn, Bool.and_eq_true, decide_eq_true_eq, Bool.not_eq_true'] at hp
  obtain ⟨⟨⟨⟨⟨⟨⟨⟨⟨⟨h1, h2⟩, h3⟩, h4⟩, h5⟩, h6⟩, h7⟩, h8⟩, h9⟩, h10⟩, h11⟩ := hp
  have hK := C.P.K.keeps C.keep
  refine (codeAny_call_def (fd := fd) (body := body) (binds := bindsOf nm vs) hA.room (hK _ _ ho) rfl (C.P.lim.keeps C.keep) (codeRec_of hK hcd) hbody hbind
    (fun x hx => by simpa using List.all_eq_true.mp h7 x hx) (fun x hx => of_decide_eq_true (List.all_eq_true.mp h1 _ (bindsOf_mem hx))) (fun h₁ hns hk₁ => ?_) h5 h6 h4)
  have fr : g.get? s.heap.objs.size = none := by
    cases q : g.get? s.heap.objs.size with
    | none => rfl
    | some o => exact absurd (Heap.lt_size (C.keep _ _ q)) (Nat.lt_irrefl _)
  have z := k (callEnv fd s.heap.objs.size f) s.heap.objs.size { s with heap := h₁, toks := s.toks + (bindsOf nm vs).length } ⟨h4, rfl, fun x hx => of_decide_eq_true (List.all_eq_true.mp h1 x hx), fun x hx => of_decide_eq_true (List.all_eq_true.mp h2 x hx), fun x hx => by simpa using List.all_eq_true.mp h10 x hx, fun x hx => by simpa using List.all_eq_true.mp h11 x hx, h8, h9, h3⟩ rfl hA.deeper
    ⟨C.P, by rw [← bindsOf_vm h3]; exact hns, fun b o e => hk₁ _ _ (C.keep b o e), fr, fun p hp => ⟨(C.ld p hp).1.keeps fun o q => hk₁ _ _ q, Nat.ne_of_lt (C.ld p hp).1.lt, (C.ld p hp).2⟩, C.nd, C.gens, C.os⟩
  rw [wx] at z
  exact wpAny_mono z (fun fl s'' q => q) fun _ _ q => q.elim
theorem St.out (S : St w o₀ g L nm vs led s) : S0 w o₀ g led s := ⟨S.P, S.keep, fun p hp => ⟨(S.ld p hp).1, (S.ld p hp).2.2⟩, S.nd, S.gens, S.os⟩
end
end Mine
namespace Mine
section
variable {w : World} {o₀ : OsState} {g : Heap} {L : Addr} {nm gl : List Str} {vs vs' : List (Option Value)} {led : Led} {s : Shared} {A : Around} {env : Env}
noncomputable def noComp : Expr → Bool
  | .ListComp .. | .SetComp .. | .DictComp .. => false
  | _ => true
noncomputable def noStar : Expr → Bool
  | .Starred .. => false
  | _ => true
noncomputable def noSet : Expr → Bool
  | .Set .. => false
  | _ => true
theorem noComp_swaps {e : Expr} {t : Option Expr} {n : Nat} (h : noComp e = true) : swapsWith e t n env = pure false := by
  cases e <;> first | rfl | cases h
theorem noSet_marks {op : CmpOp} {e : Expr} (h : noSet e = true) : behindInMarks op e = false := by
  cases e <;> first | rfl | cases h
theorem noStar_each {e : Expr} {rest : List Expr} (h : noStar e = true) : starEach (e :: rest) env = (false, eval e env) :: starEach rest env := by
  cases e <;> first | rfl | cases h
theorem letGo_str {e : Expr} {x : Str} {t : Tok} {r : Value} : letTemporaryGo e (.str x t) r = pure () := by
  cases e <;> rfl
@[irreducible] noncomputable def Thn (w : World) (A : Around) (env : Env) (rest : List Stmt) (Q : QF) : QF := fun f s => match f with
  | .next => WX w A env rest Q s
  | f => Q f s
theorem thn {rest : List Stmt} {Q : QF} {f : Flow} : Thn w A env rest Q f s = (match f with | .next => wpAny (MM w) A (execs rest env) Q FF s | f => Q f s) := by
  unfold Thn; cases f <;> simp only [wx]
/- a way by a truth value -/
@[irreducible] noncomputable def Br (b : Bool) (P R : Prop) : Prop := if b then P else R
theorem br {b : Bool} {P R : Prop} : Br b P R = if b then P else R := by unfold Br; rfl
theorem x_assign {x p e pos rest} {Q : QF} (hs : noComp e = true) (h : WE w A env e (fun v s₁ => WStore w A env x v (fun _ s₂ => WX w A env rest Q s₂) s₁) s) : WX w A env (.Assign [.Name x p] e pos :: rest) Q s := by
  rw [wx]; simp only [we, wst, wx] at h; exact wpAny_execs_cons (wpAny_Assign_Name h (noComp_swaps hs))
theorem x_if {test body orelse pos rest} {Q : QF}
    (h : WT w A env test (fun b s₂ => Br b (WX w A env body (Thn w A env rest Q) s₂) (WX w A env orelse (Thn w A env rest Q) s₂)) s) : WX w A env (.If test body orelse pos :: rest) Q s := by
  rw [wx]; simp only [wt, wx, br] at h
  refine wpAny_execs_cons (wpAny_If (wpAny_mono h (fun b s₂ h₂ => ?_) fun _ _ x => x))
  cases b <;> exact wpAny_mono h₂ (fun f s' q => by rw [thn] at q; exact q) fun _ _ x => x
theorem x_return {e pos rest} {Q : QF} (h : WE w A env e (fun v => Q (.ret v)) s) : WX w A env (.Return (some e) pos :: rest) Q s := by
  rw [wx]; rw [we] at h; exact wpAny_execs_cons (wpAny_Return_some h)
theorem x_nil {Q : QF} (h : Q .next s) : WX w A env [] Q s := by rw [wx]; exact wpAny_execs_nil h
theorem t_next {rest} {Q : QF} (h : WX w A env rest Q s) : Thn w A env rest Q .next s := by unfold Thn; exact h
theorem t_ret {rest v} {Q : QF} (h : Q (.ret v) s) : Thn w A env rest Q (.ret v) s := by unfold Thn; exact h
theorem t_brk {rest} {Q : QF} (h : Q .brk s) : Thn w A env rest Q .brk s := by unfold Thn; exact h
theorem t_cont {rest} {Q : QF} (h : Q .cont s) : Thn w A env rest Q .cont s := by unfold Thn; exact h
theorem ite_by {b : Bool} {P R : Prop} (h1 : b = true → P) (h2 : b = false → R) : Br b P R := by rw [br]; cases b <;> simp_all
theorem ite_t {P R : Prop} (h : P) : Br true P R := by rw [br]; exact h
theorem ite_f {P R : Prop} (h : R) : Br false P R := by rw [br]; exact h
theorem ite_no {p : Prop} [Decidable p] {P R : Prop} (hp : ¬ p) (h : R) : Br (decide p) P R := by rw [br, decide_eq_false hp]; exact h
theorem ite_yes {p : Prop} [Decidable p] {P R : Prop} (hp : p) (h : P) : Br (decide p) P R := by rw [br, decide_eq_true hp]; exact h
theorem ite_d {p : Prop} [Decidable p] {P R : Prop} (h : p → P) (h' : ¬ p → R) : Br (decide p) P R := by rw [br]; by_cases hp : p <;> simp only [hp, decide_true, decide_false, if_true, Bool.false_eq_true, if_false]; exact h hp; exact h' hp
theorem ite_eqt {b : Bool} {P R : Prop} (hp : b = true) (h : P) : Br b P R := by rw [br, hp]; exact h
theorem ite_eqf {b : Bool} {P R : Prop} (hp : b = false) (h : R) : Br b P R := by rw [br, hp]; exact h
theorem c_isTrue {l op r pos} {Q : QB} (hm : noSet r = true) (h : WE w A env l (fun a s₁ => WE w A env r (fun b s₂ => WCmp w A op a b (fun c s₃ => WTru w A c Q s₃) s₂) s₁) s) : WT w A env (.Compare l [op] [r] pos) Q s := by
  rw [wt]; simp only [we, wcmp, wtru] at h; exact wpAny_isTrue_Compare1 h (noSet_marks hm)
theorem c_or {vals pos} {Q : QB} (h : WOr w A env vals Q s) : WT w A env (.BoolOp .Or vals pos) Q s := by rw [wt]; rw [wor] at h; exact wpAny_isTrue_BoolOp h
theorem o_cons {x rest} {Q : QB} (h : WT w A env x (fun b s₁ => Br b (Q true s₁) (WOr w A env rest Q s₁)) s) : WOr w A env (x :: rest) Q s := by
  rw [wor]; simp only [wt, wor, br] at h; exact wpAny_allTrue_Or_cons h
theorem o_nil {Q : QB} (h : Q false s) : WOr w A env [] Q s := by rw [wor]; exact wpAny_pure h
theorem b_truthy {b : Bool} {Q : QB} (h : Q b s) : WTru w A (.bool b) Q s := by rw [wtru]; exact wpAny_truthy_bool h
theorem q_ne_str {x y : Str} {t u : Tok} {Q : QV} (h : Q (.bool (x != y)) s) : WCmp w A .NotEq (.str x t) (.str y u) Q s := by rw [wcmp]; exact ne_str h
theorem q_eq_str {x y : Str} {t u : Tok} {Q : QV} (h : Q (.bool (x == y)) s) : WCmp w A .Eq (.str x t) (.str y u) Q s := by rw [wcmp]; exact eq_str h
/- a cut of a text or a list -/
@[irreducible] noncomputable def WSl (w : World) (A : Around) (value : Expr) (lower upper : Option Expr) (p : Pos) (o lo hi : Value) (Q : QV) (s : Shared) : Prop :=
  wpAny (MM w) A (subscriptTail value (.Slice lower upper none p) o (.ref s.heap.objs.size)) Q FF { s with heap := s.heap.push { cls := .type "slice", data := .fields #[lo, hi, .none] } }
theorem r_slice {value : Expr} {lower upper : Option Expr} {p pos : Pos} {Q : QV}
    (h : WE w A env value (fun o s₁ => WP w A env lower (fun vl s₂ => WP w A env upper (fun vu s₃ => WSl w A value lower upper p o vl vu Q s₃) s₂) s₁) s) : WE w A env (.Subscript value (.Slice lower upper none p) pos) Q s := by
  rw [we]; simp only [we, wpt] at h
  refine Subscript_ (wpAny_mono h (fun o s₁ h₁ => wpAny_Slice (wpAny_mono h₁ (fun vl s₂ h₂ => wpAny_mono h₂ (fun vu s₃ h₃ => ?_) fun _ _ e => e) fun _ _ e => e)) fun _ _ e => e)
  unfold WSl at h₃
  rw [evalPart_none]
  exact wpAny_pure h₃
theorem p_some {e : Expr} {Q : QV} (h : WE w A env e Q s) : WP w A env (some e) Q s := by rw [wpt]; rw [we] at h; exact h
theorem p_none {Q : QV} (h : Q .none s) : WP w A env none Q s := by rw [wpt]; exact wpAny_pure h
theorem sl_any {value : Expr} {lower upper : Option Expr} {p : Pos} {x : Str} {t : Tok} {l u : Option (Int × Tok)} {Q : QV} (S : St w o₀ g L nm vs led s) (hx : x.length ≤ sizeLine)
    (k : ∀ s t, St w o₀ g L nm vs led s → Q (.str (Txt.slice x (l.map (·.1)) (u.map (·.1))) t) s) : WSl w A value lower upper p (.str x t) (partValue l) (partValue u) Q s := by
  unfold WSl
  exact tail_of_ItemOn (ops := [.ref _, .str x t]) ⟨"str", _, F.slot_str_getitem.lookup, typeIs_str _ _ _, wpAny_getItem_str_slice (l := l) (u := u) (st := none) ⟨_, Heap.get?_push_size _ rfl, rfl, rfl⟩ rfl
    (post_val_or_str ⟨Nat.le_trans (Txt.slice_le x _ _) hx, fun _ k' => k _ _ ((S.push _).tok k')⟩)⟩ rfl fun r => letGo_str
theorem sl_sn {value : Expr} {lower upper : Option Expr} {p : Pos} {x : Str} {t ti : Tok} {i : Int} {Q : QV} (S : St w o₀ g L nm vs led s) (hx : x.length ≤ sizeLine) (k : ∀ s t, St w o₀ g L nm vs led s → Q (.str (Txt.slice x (some i) none) t) s) :
    WSl w A value lower upper p (.str x t) (.int i ti) .none Q s := sl_any (l := some (i, ti)) (u := none) S hx k
theorem sl_ns {value : Expr} {lower upper : Option Expr} {p : Pos} {x : Str} {t ti : Tok} {i : Int} {Q : QV} (S : St w o₀ g L nm vs led s) (hx : x.length ≤ sizeLine) (k : ∀ s t, St w o₀ g L nm vs led s → Q (.str (Txt.slice x none (some i)) t) s) :
    WSl w A value lower upper p (.str x t) .none (.int i ti) Q s := sl_any (l := none) (u := some (i, ti)) S hx k
theorem sl_ss {value : Expr} {lower upper : Option Expr} {p : Pos} {x : Str} {t ti tj : Tok} {i j : Int} {Q : QV} (S : St w o₀ g L nm vs led s) (hx : x.length ≤ sizeLine) (k : ∀ s t, St w o₀ g L nm vs led s → Q (.str (Txt.slice x (some i) (some j)) t) s) :
    WSl w A value lower upper p (.str x t) (.int i ti) (.int j tj) Q s := sl_any (l := some (i, ti)) (u := some (j, tj)) S hx k
theorem a_nil {pos : Pos} {Q : QL} (h : Q [] s) : WA w A env pos [] Q s := by rw [wa]; exact Calls.spliced_nil h
theorem a_cons {pos : Pos} {e : Expr} {rest : List Expr} {Q : QL} (he : noStar e = true) (h : WE w A env e (fun v s₁ => WA w A env pos rest (fun vs s₂ => Q (v :: vs) s₂) s₁) s) : WA w A env pos (e :: rest) Q s := by
  rw [wa, noStar_each he]; simp only [we, wa] at h; exact Calls.spliced_cons h
@[irreducible] noncomputable def WTup (w : World) (A : Around) (l : List Value) (Q : QV) (s : Shared) : Prop := wpAny (MM w) A (newTuple l) Q FF s
theorem r_tuple {elts k pos} {Q : QV} (h : WA w A env pos elts (fun vs s₁ => WTup w A vs Q s₁) s) : WE w A env (.Tuple elts k pos) Q s := by
  rw [we]; rw [wa] at h; unfold WTup at h; exact Tuple_ h
theorem n_tuple {l : List Value} {Q : QV} (S : St w o₀ g L nm vs led s) (hl : Nat.ble l.length 100000 = true)
    (k : ∀ s a, L < a → St w o₀ g L nm vs (.tup a l :: led) s → Q (.ref a) s) : WTup w A l Q s := by
  unfold WTup
  exact wpAny_newObj_type (k _ _ S.ns.lt (S.alloc (.tup _ l) (tupO l) rfl rfl rfl)) (by show l.toArray.size ≤ sizeLine; rw [List.size_toArray, sizeLine_eq]; have := Nat.le_of_ble_eq_true hl; lia)
end

/- frozen heaps grow -/
noncomputable abbrev Sub (g g' : Heap) : Prop := ∀ b o, g.get? b = some o → g'.get? b = some o
end Mine
namespace Mine
noncomputable abbrev QM := Value → List Value → Shared → Prop
/- a method is looked up; a call with its arguments to be reckoned; the call where all is reckoned (the program's objects are known) -/
@[irreducible] noncomputable def WM (w : World) (A : Around) (o : Value) (name : Str) (Q : QM) (s : Shared) : Prop := ∀ pl, wpAny (MM w) A (getMethod o name pl) (fun fx s' => Q fx.1 fx.2 s') FF s
@[irreducible] noncomputable def WCW (w : World) (A : Around) (env : Env) (pos : Pos) (f : Value) (first : List Value) (args : List Expr) (Q : QV) (s : Shared) : Prop := wpAny (MM w) A (callWith pos f first (backTo pos (starEach args env)) []) Q FF s
@[irreducible] noncomputable def WCK (w : World) (A : Around) (f : Value) (args : List Value) (Q : QV) (s : Shared) : Prop := (KK w.params).In s.heap ∧ WC w A f args [] Q s
@[irreducible] noncomputable def WLst (w : World) (A : Around) (l : List Value) (Q : QV) (s : Shared) : Prop := wpAny (MM w) A (newList l) Q FF s
@[irreducible] noncomputable def WIt (w : World) (A : Around) (o : Value) (Q : QV) (s : Shared) : Prop := wpAny (MM w) A (pyIter o) Q FF s
@[irreducible] noncomputable def WAs (w : World) (A : Around) (env : Env) (t : Expr) (v : Value) (Q : QU) (s : Shared) : Prop := wpAny (MM w) A (assign t env v) Q FF s
section
variable {w : World} {o₀ : OsState} {g : Heap} {L : Addr} {nm gl : List Str} {vs vs' : List (Option Value)} {led : Led} {s : Shared} {A : Around} {env : Env}
theorem wm {o : Value} {name : Str} {Q : QM} : WM w A o name Q s = ∀ pl, wpAny (MM w) A (getMethod o name pl) (fun fx s' => Q fx.1 fx.2 s') FF s := by unfold WM; rfl
theorem wcw {pos : Pos} {f : Value} {first : List Value} {args : List Expr} {Q : QV} : WCW w A env pos f first args Q s = wpAny (MM w) A (callWith pos f first (backTo pos (starEach args env)) []) Q FF s := by unfold WCW; rfl
theorem wck {f : Value} {args : List Value} {Q : QV} : WCK w A f args Q s = ((KK w.params).In s.heap ∧ WC w A f args [] Q s) := by unfold WCK; rfl
theorem wlst {l : List Value} {Q : QV} : WLst w A l Q s = wpAny (MM w) A (newList l) Q FF s := by unfold WLst; rfl
theorem wit {o : Value} {Q : QV} : WIt w A o Q s = wpAny (MM w) A (pyIter o) Q FF s := by unfold WIt; rfl
theorem was {t : Expr} {v : Value} {Q : QU} : WAs w A env t v Q s = wpAny (MM w) A (assign t env v) Q FF s := by unfold WAs; rfl

theorem c_and {vals pos} {Q : QB} (h : WAnd w A env vals Q s) : WT w A env (.BoolOp .And vals pos) Q s := by rw [wt]; rw [wand] at h; exact wpAny_isTrue_BoolOp h
theorem n_cons {x rest} {Q : QB} (h : WT w A env x (fun b s₁ => Br b (WAnd w A env rest Q s₁) (Q false s₁)) s) : WAnd w A env (x :: rest) Q s := by
  rw [wand]; simp only [wt, wand, br] at h; exact wpAny_allTrue_And_cons h
theorem n_nil {Q : QB} (h : Q true s) : WAnd w A env [] Q s := by rw [wand]; exact wpAny_pure h
theorem c_not {x pos} {Q : QB} (h : WT w A env x (fun b s₁ => Q (!b) s₁) s) : WT w A env (.UnaryOp .Not x pos) Q s := by rw [wt]; rw [wt] at h; exact wpAny_isTrue_Not h
/- which expressions are tested by their value -/
noncomputable def plainT : Expr → Bool
  | .UnaryOp .Not .. | .BoolOp .. | .IfExp .. | .Compare .. => false
  | _ => true
theorem c_val {e : Expr} {Q : QB} (he : plainT e = true) (h : WE w A env e (fun v s₁ => WTru w A v Q s₁) s) : WT w A env e Q s := by
  rw [wt]; simp only [we, wtru] at h
  refine wpAny_isTrue_value h ?_
  cases e <;> first | rfl | cases he | skip
  rename_i op _ _; cases op <;> first | rfl | cases he
theorem r_ifexp {test body orelse pos} {Q : QV} (h : WT w A env test (fun b s₁ => Br b (WE w A env body Q s₁) (WE w A env orelse Q s₁)) s) : WE w A env (.IfExp test body orelse pos) Q s := by
  rw [we]; simp only [wt, we, br] at h; exact wpAny_IfExp h
theorem r_or2 {x y pos} {Q : QV} (h : WE w A env x (fun v s₁ => WTru w A v (fun t s₂ => Br t (Q v s₂) (WE w A env y Q s₂)) s₁) s) : WE w A env (.BoolOp .Or [x, y] pos) Q s := by
  rw [we]; simp only [we, wtru, br] at h; exact wpAny_Or2 h
theorem r_and2 {x y pos} {Q : QV} (h : WE w A env x (fun v s₁ => WTru w A v (fun t s₂ => Br t (WE w A env y Q s₂) (Q v s₂)) s₁) s) : WE w A env (.BoolOp .And [x, y] pos) Q s := by
  rw [we]; simp only [we, wtru, br] at h; exact wpAny_And2 h
theorem r_cmp {l op r pos} {Q : QV} (hm : noSet r = true) (h : WE w A env l (fun a s₁ => WE w A env r (fun b s₂ => WCmp w A op a b Q s₂) s₁) s) : WE w A env (.Compare l [op] [r] pos) Q s := by
  rw [we]; simp only [we, wcmp] at h; exact wpAny_Compare1 h (noSet_marks hm)
theorem r_bin {l op r pos} {Q : QV} (h : WE w A env l (fun a s₁ => WE w A env r (fun b s₂ => WBin w A op a b Q s₂) s₁) s) : WE w A env (.BinOp l op r pos) Q s := by
  rw [we]; simp only [we, wbin] at h; exact wpAny_BinOp h
theorem r_list {elts pos} {Q : QV} (h : WA w A env pos elts (fun vs s₁ => WLst w A vs Q s₁) s) : WE w A env (.List elts pos) Q s := by
  rw [we]; simp only [wa, wlst] at h; exact List_ h
theorem n_list {l : List Value} {Q : QV} (S : St w o₀ g L nm vs led s) (hl : Nat.ble l.length 100000 = true)
    (k : ∀ s a, L < a → St w o₀ g L nm vs (.lst a l :: led) s → Q (.ref a) s) : WLst w A l Q s := by
  rw [wlst]
  exact wpAny_newObj_type (k _ _ S.ns.lt (S.alloc (.lst _ l) (lstO l 0) rfl rfl ⟨0, rfl⟩)) (by show l.toArray.size ≤ sizeLine; rw [List.size_toArray, sizeLine_eq]; have := Nat.le_of_ble_eq_true hl; lia)
noncomputable def noCall : Expr → Bool
  | .Call .. => false
  | _ => true
theorem base_of {o : Expr} {attr : Str} {whole : Sem Value} (h : noCall o = true) : attributeBase o attr env whole = whole := by
  cases o <;> first | rfl | cases h
theorem r_attr {x p attr pos} {Q : QV} (h : WE w A env (.Name x p) (fun o s₁ => WGet w A o attr Q s₁) s) : WE w A env (.Attribute (.Name x p) attr pos) Q s := by
  rw [we]; simp only [we, wget] at h; exact Attribute_Name_ h
/- an index, no cut -/
noncomputable def noSl : Expr → Bool
  | .Slice .. => false
  | _ => true
theorem r_sub {value slice pos} {Q : QV} (_hs : noSl slice = true) (h : WE w A env value (fun o s₁ => WE w A env slice (fun i s₂ => WSub w A value slice o i Q s₂) s₁) s) : WE w A env (.Subscript value slice pos) Q s := by
  rw [we]; simp only [we, wsub] at h; exact Subscript_ h
theorem noSl_sub {slice : Expr} {o i : Value} (hs : noSl slice = true) : subscripted slice false o i = operate [o, i] (getItem o i) := by
  cases slice <;> first | rfl | cases hs
theorem r_call {x p args pos} {Q : QV} (h : WE w A env (.Name x p) (fun f s₁ => WCW w A env pos f [] args Q s₁) s) : WE w A env (.Call (.Name x p) args [] pos) Q s := by
  rw [we]; simp only [we, wcw] at h; exact wpAny_Call_ofName h
noncomputable def callForm (o : Expr) (args : List Expr) (apos pos : Pos) : Bool := noCall o && args.all noStar && Nat.blt args.length 30 && (apos.endLine == pos.line)
theorem noStar_all : ∀ {args : List Expr} {pos : Pos}, args.all noStar = true → (backTo pos (starEach args env)).all (fun x => !x.1) = true
  | [], _, _ => rfl
  | e :: r, pos, h => by
    simp only [List.all_cons, Bool.and_eq_true] at h
    rw [noStar_each h.1]
    show (!false && (backTo pos (starEach r env)).all _) = true
    rw [noStar_all h.2]; rfl
theorem noStar_any {args : List Expr} {pos : Pos} (h : args.all noStar = true) : (backTo pos (starEach args env)).any (·.1) = false := by
  have := noStar_all (env := env) (pos := pos) h
  rw [Bool.eq_false_iff]
  intro q
  obtain ⟨x, hx, hq⟩ := List.any_eq_true.mp q
  have := List.all_eq_true.mp this x hx
  rw [hq] at this; cases this
theorem r_meth {o name apos args pos} {Q : QV} (hc : callForm o args apos pos = true)
    (h : WE w A env o (fun ov s₁ => WM w A ov name (fun f first s₂ => WCW w A env pos f first args Q s₂) s₁) s) : WE w A env (.Call (.Attribute o name apos) args [] pos) Q s := by
  simp only [callForm, Bool.and_eq_true] at hc
  obtain ⟨⟨⟨h1, h2⟩, h3⟩, h4⟩ := hc
  rw [we]; simp only [we, wm, wcw] at h
  have e : eval (.Call (.Attribute o name apos) args [] pos) env = (do
      let ov ← attributeBase o name env (eval o env)
      standAt apos.atName
      methodCall o name apos pos env ov (args.length + 0) (backTo pos (starEach args env)) (backToKw pos (keywordEach [] env))) := rfl
  rw [e, base_of h1]
  refine wpAny_bind (wpAny_mono h (fun ov s₁ h₁ => wpAny_bind (wpAny_standAt ?_)) fun _ _ x => x)
  have few : methodCallForm (args.length + 0) (backTo pos (starEach args env)) (backToKw pos (keywordEach [] env)) = true := by
    unfold methodCallForm
    rw [noStar_all h2]
    have : args.length < 30 := Nat.le_of_ble_eq_true h3
    show (true && true && decide (args.length + 0 + 0 < 30)) = true
    simp [this]
  unfold methodCall
  rw [few]
  refine wpAny_bind (wpAny_holding ?_)
  show wpAny _ _ (getMethod ov name _) _ _ _
  refine wpAny_mono (h₁ _) (fun fx s₂ h₂ => ?_) fun _ _ x => x
  refine wpAny_bind ?_
  have : methodCallPos true o env apos pos = pure pos := by
    unfold methodCallPos
    rw [h4]; rfl
  rw [this]
  exact wpAny_pure h₂
theorem cw_K {pos : Pos} {f : Addr} {first : List Value} {args : List Expr} {Q : QV} (hk : keepIn (KK w.params) (.ref f) = true) (ha : args.all noStar = true)
    (h : WA w A env pos args (fun vs s₁ => WCK w A (.ref f) (first ++ vs) Q s₁) s) : WCW w A env pos (.ref f) first args Q s := by
  rw [wcw]; simp only [wa, wck, wc] at h
  refine callWith_of (by rw [noStar_any ha]; rfl) (keeps_K hk) ?_
  cases args with
  | nil =>
    unfold evalArgs
    show wpAny (MM w) A (spliced [] >>= _) _ _ s
    refine wpAny_bind (wpAny_mono (show wpAny (MM w) A (spliced []) _ FF s from h) (fun vs s₁ h₁ => ?_) fun _ _ x => x)
    refine wpAny_bind (wpAny_pure (wpAny_holding ?_))
    exact wpAny_bind (wpAny_pure (wpAny_bind (wpAny_pure (wpAny_pure h₁))))
  | cons a r =>
    simp only [List.all_cons, Bool.and_eq_true] at ha
    rw [noStar_each ha.1] at h ⊢
    exact evalArgs_plain h
end
end Mine
namespace Mine
section
variable {w : World} {o₀ : OsState} {g : Heap} {L : Addr} {nm gl : List Str} {vs vs' : List (Option Value)} {led led' : Led} {s : Shared} {A : Around} {env : Env}
theorem evalArgs_any {f : Value} {args : List Expr} {pos : Pos} {Q : Args → Shared → Prop} (ha : args.all noStar = true) (h : wpAny (MM w) A (spliced (backTo pos (starEach args env))) (fun vs s' => Q ⟨vs, []⟩ s') FF s) :
    wpAny (MM w) A (evalArgs f true (backTo pos (starEach args env)) []) Q FF s := by
  cases args with
  | nil =>
    unfold evalArgs
    show wpAny (MM w) A (spliced [] >>= _) _ _ s
    refine wpAny_bind (wpAny_mono (show wpAny (MM w) A (spliced []) _ FF s from h) (fun vs s₁ h₁ => ?_) fun _ _ x => x)
    refine wpAny_bind (wpAny_pure (wpAny_holding ?_))
    exact wpAny_bind (wpAny_pure (wpAny_bind (wpAny_pure (wpAny_pure h₁))))
  | cons a r =>
    simp only [List.all_cons, Bool.and_eq_true] at ha
    rw [noStar_each ha.1] at h ⊢
    exact evalArgs_plain h
/- a callee that is no object of the heap's -/
noncomputable def noRef : Value → Bool
  | .ref _ => false
  | _ => true
theorem cw_val {pos : Pos} {f : Value} {first : List Value} {args : List Expr} {Q : QV} (hf : noRef f = true) (ha : args.all noStar = true)
    (h : WA w A env pos args (fun vs s₁ => WC w A f (first ++ vs) [] Q s₁) s) : WCW w A env pos f first args Q s := by
  rw [wcw]; simp only [wa, wc] at h
  refine callWith_of (P := fun _ => True) (by rw [noStar_any ha]; rfl) (fun h _ => ⟨.machine, .inr (.inl rfl), ?_⟩) (evalArgs_any ha (wpAny_mono h (fun _ _ q => ⟨trivial, q⟩) fun _ _ x => x))
  cases f <;> first | exact Looks.of_pure rfl | cases hf
theorem ck {f : Value} {args : List Value} {Q : QV} (S : St w o₀ g L nm vs led s) (h : WC w A f args [] Q s) : WCK w A f args Q s := by rw [wck]; exact ⟨S.P.K.keeps S.keep, h⟩

theorem x_expr {e pos rest} {Q : QF} (en : En env L nm gl) (hs : noComp e = true) (h : WE w A env e (fun _ s₁ => WX w A env rest Q s₁) s) : WX w A env (.Expr e pos :: rest) Q s := by
  rw [wx]; simp only [we, wx] at h
  refine wpAny_execs_cons (wpAny_Expr_any h ?_ (noComp_swaps hs))
  unfold interactive; rw [en.kind]; rfl
theorem x_aug {x p op e pos rest old} {Q : QF} (S : St w o₀ g L nm vs led s) (en : En env L nm gl) (hl : Lk nm vs x old)
    (h : WE w A env e (fun v s₂ => WInp w A op old v (fun r s₃ => WStore w A env x r (fun _ s₄ => WX w A env rest Q s₄) s₃) s₂) s) : WX w A env (.AugAssign (.Name x p) op e pos :: rest) Q s := by
  rw [wx]; simp only [we, winp, wst, wx] at h
  exact wpAny_execs_cons (wpAny_AugAssign_Name (wpAny_loadName_local en.kind (en.loc x hl.mem) (by rw [en.locals]; exact S.ns) (hl.vm en.nd) h))
theorem x_augattr {o attr p op e pos rest} {Q : QF} (h : WE w A env o (fun ov s₁ => WGet w A ov attr (fun old s₂ => WE w A env e (fun v s₃ => WInp w A op old v (fun new s₄ => WSet w A ov attr new (fun _ s₅ => WX w A env rest Q s₅) s₄) s₃) s₂) s₁) s) :
    WX w A env (.AugAssign (.Attribute o attr p) op e pos :: rest) Q s := by
  rw [wx]; simp only [we, wget, winp, wset, wx] at h
  exact wpAny_execs_cons (wpAny_AugAssign_AttributeAny h)
theorem x_setattr {o attr p e pos rest} {Q : QF} (hs : noComp e = true) (h : WE w A env e (fun v s₁ => WE w A env o (fun ov s₂ => WSet w A ov attr v (fun _ s₃ => WX w A env rest Q s₃) s₂) s₁) s) :
    WX w A env (.Assign [.Attribute o attr p] e pos :: rest) Q s := by
  rw [wx]; simp only [we, wset, wx] at h
  exact wpAny_execs_cons (plainObj_wpAny_Assign_Attribute h (noComp_swaps hs))
theorem x_setitem {o i p e pos rest} {Q : QF} (hs : noComp e = true) (h : WE w A env e (fun v s₁ => WE w A env o (fun ov s₂ => WE w A env i (fun iv s₃ => WSetI w A ov iv v (fun _ s₄ => WX w A env rest Q s₄) s₃) s₂) s₁) s) :
    WX w A env (.Assign [.Subscript o i p] e pos :: rest) Q s := by
  rw [wx]; simp only [we, wseti, wx] at h
  exact wpAny_execs_cons (wpAny_Assign_Subscript h (noComp_swaps hs))
noncomputable def noTup : Expr → Bool
  | .Tuple .. => false
  | e => noComp e
theorem x_tuple {elts k p e pos rest} {Q : QF} (hs : noTup e = true) (h : WE w A env e (fun v s₁ => WAs w A env (.Tuple elts k p) v (fun _ s₂ => WX w A env rest Q s₂) s₁) s) :
    WX w A env (.Assign [.Tuple elts k p] e pos :: rest) Q s := by
  rw [wx]; simp only [we, was, wx] at h
  refine wpAny_execs_cons (Assign_Tuple h ?_ ?_)
  · cases e <;> first | rfl | cases hs
  · cases e <;> first | rfl | cases hs
theorem x_break {pos rest} {Q : QF} (h : Q .brk s) : WX w A env (.Break pos :: rest) Q s := by rw [wx]; exact wpAny_execs_cons (wpAny_Break h)
theorem x_cont {pos rest} {Q : QF} (h : Q .cont s) : WX w A env (.Continue pos :: rest) Q s := by rw [wx]; exact wpAny_execs_cons (wpAny_Continue h)
/- names stored one after another -/
@[irreducible] noncomputable def WAO (w : World) (A : Around) (env : Env) (es : List Expr) (vs : List Value) (Q : QU) (s : Shared) : Prop := wpAny (MM w) A (assignInOrder ((assignEach es env).map (·.2)) vs) Q FF s
theorem wao {es : List Expr} {vs : List Value} {Q : QU} : WAO w A env es vs Q s = wpAny (MM w) A (assignInOrder ((assignEach es env).map (·.2)) vs) Q FF s := by unfold WAO; rfl
theorem ao_nil {Q : QU} (h : Q () s) : WAO w A env [] [] Q s := by rw [wao]; exact assignInOrder_nil h
theorem ao_cons {x p es v vs} {Q : QU} (h : WStore w A env x v (fun _ s₁ => WAO w A env es vs Q s₁) s) : WAO w A env (.Name x p :: es) (v :: vs) Q s := by
  rw [wao]; simp only [wst, wao] at h
  refine assignInOrder_cons ?_
  show wpAny (MM w) A (do standAt p; bindName env x v) _ FF s
  exact wpAny_bind (wpAny_standAt (wpAny_bindName h))
theorem star_none (env : Env) : ∀ {es : List Expr}, es.all noStar = true → (assignEach es env).findIdx? (·.1) = none ∧ (assignEach es env).length = es.length
  | [], _ => ⟨rfl, rfl⟩
  | e :: r, h => by
    simp only [List.all_cons, Bool.and_eq_true] at h
    obtain ⟨h1, h2⟩ := star_none env h.2
    have : assignEach (e :: r) env = (false, assign e env) :: assignEach r env := by cases e <;> first | rfl | exact absurd h.1 (by intro q; cases q)
    rw [this]
    exact ⟨by rw [List.findIdx?_cons, h1]; rfl, by simp [h2]⟩
noncomputable def unpOk (es : List Expr) (n : Nat) : Bool := es.all noStar && Nat.beq es.length n
theorem u_tup {es k p a l n} {Q : QU} (S : St w o₀ g L nm vs led s) (hA : Ok A n) (ht : Has w.params g led (.tup a l)) (hu : unpOk es l.length = true) (h : ∀ s, St w o₀ g L nm vs led s → WAO w A env es l Q s) : WAs w A env (.Tuple es k p) (.ref a) Q s := by
  rw [was]
  simp only [unpOk, Bool.and_eq_true] at hu
  obtain ⟨h1, h2⟩ := star_none env hu.1
  refine assign_Tuple_tuple hA.hd (ht.tup S) (by rw [h2, List.size_toArray]; exact Nat.eq_of_beq_eq_true hu.2) h1 fun h' he => ?_
  have := h _ (S.ext he)
  rw [wao] at this
  simpa using this
theorem u_list {es k p a l n} {Q : QU} (S : St w o₀ g L nm vs led s) (hA : Ok A n) (ht : Has w.params g led (.lst a l)) (hu : unpOk es l.length = true) (h : ∀ s, St w o₀ g L nm vs led s → WAO w A env es l Q s) : WAs w A env (.Tuple es k p) (.ref a) Q s := by
  rw [was]
  simp only [unpOk, Bool.and_eq_true] at hu
  obtain ⟨h1, h2⟩ := star_none env hu.1
  have hl := ht.list S
  show wpAny (MM w) A (do standAt p; unpack (.ref a) (assignEach es env)) _ FF s
  refine wpAny_bind (wpAny_standAt ?_)
  unfold unpack
  rw [h1, h2, Nat.eq_of_beq_eq_true hu.2]
  have e : l.length = l.toArray.size := by simp
  rw [e]
  refine wpAny_bind (wpAny_holding (kun_itemsOf hA.hd hl fun h' he => ?_))
  have := h _ (S.ext he)
  rw [wao] at this
  simpa using this
theorem as_name {x p v} {Q : QU} (h : WStore w A env x v Q s) : WAs w A env (.Name x p) v Q s := by
  rw [was]; rw [wst] at h
  exact wpAny_bind (wpAny_standAt (wpAny_bindName h))
end
end Mine
namespace Mine
@[irreducible] noncomputable def WF (w : World) (A : Around) (env : Env) (target : Expr) (it : Value) (body : List Stmt) (K : QF) (s : Shared) : Prop :=
  codeAny (MM w) A (.forLoop target it body [] env) (fun r s' => match r with | .ok f => K f s' | .error _ => False) s
@[irreducible] noncomputable def WW (w : World) (A : Around) (env : Env) (test : Expr) (body : List Stmt) (K : QF) (s : Shared) : Prop :=
  codeAny (MM w) A (.whileLoop test body [] env) (fun r s' => match r with | .ok f => K f s' | .error _ => False) s
/- a turn's end -/
@[irreducible] noncomputable def FEnd (P : Shared → Prop) (K : QF) : QF := fun f s => match f with
  | .next => P s
  | .cont => P s
  | .brk => K .next s
  | .ret v => K (.ret v) s
section
variable {w : World} {o₀ : OsState} {g : Heap} {L : Addr} {nm gl : List Str} {vs vs' : List (Option Value)} {led led' : Led} {s : Shared} {A : Around} {env : Env}
theorem fend {P : Shared → Prop} {K : QF} {f : Flow} : FEnd P K f s = (match f with | .next => P s | .cont => P s | .brk => K .next s | .ret v => K (.ret v) s) := by unfold FEnd; cases f <;> rfl
theorem fe_next {P : Shared → Prop} {K : QF} (h : P s) : FEnd P K .next s := by rw [fend]; exact h
theorem fe_cont {P : Shared → Prop} {K : QF} (h : P s) : FEnd P K .cont s := by rw [fend]; exact h
theorem fe_brk {P : Shared → Prop} {K : QF} (h : K .next s) : FEnd P K .brk s := by rw [fend]; exact h
theorem fe_ret {P : Shared → Prop} {K : QF} {v : Value} (h : K (.ret v) s) : FEnd P K (.ret v) s := by rw [fend]; exact h
theorem noted_of {α : Type} {t : Sem α} {Q : α → Shared → Prop} {R : Value → Shared → Prop} (h : wpAny (MM w) A t Q FF s) : wpAny (MM w) A t Q (notedBy (MM w) A env R) s :=
  wpAny_mono h (fun _ _ x => x) fun _ _ x => x.elim
theorem x_for {target iter body pos rest} {Q : QF} (hi : noSet iter = true) (h : WE w A env iter (fun x s₁ => WIt w A x (fun it s₂ => WF w A env target it body (Thn w A env rest Q) s₂) s₁) s) :
    WX w A env (.For target iter body [] pos :: rest) Q s := by
  rw [wx]; simp (config := { iota := false }) only [we, wit] at h
  refine wpAny_execs_cons (wpAny_For (wpAny_mono h (fun x s₁ h₁ => wpAny_mono h₁ (fun it s₂ h₂ => ?_) fun _ _ e => e) fun _ _ e => e) ?_)
  · unfold WF at h₂
    refine codeAny_mono h₂ fun r s' q => ?_
    cases r with
    | ok f => dsimp only at q; rw [thn] at q; exact q
    | error e => exact q.elim
  · intro x; cases iter <;> first | rfl | cases hi
theorem it_list {a l} {Q : QV} (S : St w o₀ g L nm vs led s) (hl : Has w.params g led (.lst a l)) (k : ∀ s I, L < I → St w o₀ g L nm vs (.itr I a 0 :: led) s → Q (.ref I) s) : WIt w A (.ref a) Q s := by
  rw [wit]
  exact wpAny_pyIter_list (hl.list S) (k _ _ S.ns.lt (S.alloc (.itr _ a 0) _ rfl rfl ⟨rfl, rfl⟩))
theorem letGo_it {target : Expr} {I a : Addr} {i : Nat} {v : Value} {Q : QU} (hit : s.heap.IsListIter I a i) (hQ : Q () s) : wpAny (MM w) A (letOwnedTupleGo target (.ref I) v) Q FF s := by
  obtain ⟨o, ho, hc, hd⟩ := hit
  cases target <;> first
    | exact wpAny_pure hQ
    | (cases v <;> first | exact wpAny_pure hQ | (show wpAny _ _ (PySem.load I >>= _) _ _ _; refine wpAny_bind (wpAny_load ho ?_); rw [hc, hd]; exact wpAny_pure hQ))
/- there are so many, told at once -/
inductive Ex3 {A0 A1 A2 : Type} (P : A0 → A1 → A2 → Prop) : Prop
  | mk (a0 : A0) (a1 : A1) (a2 : A2) (h : P a0 a1 a2) : Ex3 P
inductive Ex4 {A0 A1 A2 A3 : Type} (P : A0 → A1 → A2 → A3 → Prop) : Prop
  | mk (a0 : A0) (a1 : A1) (a2 : A2) (a3 : A3) (h : P a0 a1 a2 a3) : Ex4 P
inductive Ex10 {A0 A1 A2 A3 A4 A5 A6 A7 A8 A9 : Type} (P : A0 → A1 → A2 → A3 → A4 → A5 → A6 → A7 → A8 → A9 → Prop) : Prop
  | mk (a0 : A0) (a1 : A1) (a2 : A2) (a3 : A3) (a4 : A4) (a5 : A5) (a6 : A6) (a7 : A7) (a8 : A8) (a9 : A9) (h : P a0 a1 a2 a3 a4 a5 a6 a7 a8 a9) : Ex10 P
inductive Ex12 {A0 A1 A2 A3 A4 A5 A6 A7 A8 A9 A10 A11 : Type} (P : A0 → A1 → A2 → A3 → A4 → A5 → A6 → A7 → A8 → A9 → A10 → A11 → Prop) : Prop
  | mk (a0 : A0) (a1 : A1) (a2 : A2) (a3 : A3) (a4 : A4) (a5 : A5) (a6 : A6) (a7 : A7) (a8 : A8) (a9 : A9) (a10 : A10) (a11 : A11) (h : P a0 a1 a2 a3 a4 a5 a6 a7 a8 a9 a10 a11) : Ex12 P
inductive Ex14 {A0 A1 A2 A3 A4 A5 A6 A7 A8 A9 A10 A11 A12 A13 : Type} (P : A0 → A1 → A2 → A3 → A4 → A5 → A6 → A7 → A8 → A9 → A10 → A11 → A12 → A13 → Prop) : Prop
  | mk (a0 : A0) (a1 : A1) (a2 : A2) (a3 : A3) (a4 : A4) (a5 : A5) (a6 : A6) (a7 : A7) (a8 : A8) (a9 : A9) (a10 : A10) (a11 : A11) (a12 : A12) (a13 : A13) (h : P a0 a1 a2 a3 a4 a5 a6 a7 a8 a9 a10 a11 a12 a13) : Ex14 P
theorem f_list {target : Expr} {a I : Addr} {body : List Stmt} {K : QF} {items : List Value} {n : Nat} (J : Nat → Heap → List (Option Value) → Led → Prop) (hA : Ok A n)
    (S : St w o₀ g L nm vs (.itr I a 0 :: led) s) (h0 : J 0 g vs led)
    (hl : ∀ i g vs led, J i g vs led → Has w.params g led (.lst a items))
    (turn : ∀ i v g vs led s, items[i]? = some v → J i g vs led → St w o₀ g L nm vs (.itr I a (i + 1) :: led) s →
      WAs w A env target v (fun _ s₂ => WX w A env body (FEnd (fun s₃ => Ex3 fun g' vs' led' => St w o₀ g' L nm vs' (.itr I a (i + 1) :: led') s₃ ∧ J (i + 1) g' vs' led') K) s₂) s)
    (fin : ∀ g vs led s, J items.length g vs led → St w o₀ g L nm vs led s → K .next s) : WF w A env target (.ref I) body K s := by
  unfold WF
  let Inv : Nat → Shared → Prop := fun k s => ∃ i g vs led, k = items.length + 1 - i ∧ i ≤ items.length ∧ J i g vs led ∧ St w o₀ g L nm vs (.itr I a i :: led) s
  refine codeAny_loop' rfl Inv (fun k s hI => ?_) (items.length + 1) ⟨0, g, vs, led, by lia, by lia, h0, S⟩
  obtain ⟨i, g, vs, led, rfl, hi, hJ, S⟩ := hI
  show wpAny (MM w) A ((forTurn target (.ref I) body [] env).onRaise (fun x => do noteFrame x env; theTreesLotGoes x)) _ _ s
  refine wpAny_noted ?_
  simp (config := { iota := false }) only [forTurn]
  obtain ⟨oi, hoi, hoc⟩ := (S.ld _ (.head _)).1
  have hit : s.heap.IsListIter I a i := ⟨oi, hoi, hoc⟩
  have hm := hl i g vs led hJ
  have hm' : Has w.params g (.itr I a i :: led) (.lst a items) := by
    cases hm with
    | led h => exact .led (.tail _ h)
    | frz h => exact .frz h
  have hls := hm'.list S
  refine wpAny_bind (wpAny_standAt (wpAny_bind (wpAny_onRaise ?_)))
  cases hv : items[i]? with
  | none =>
    have hz : i = items.length := Nat.le_antisymm hi (by simpa using hv)
    subst hz
    refine wpAny_pyNext_list_end (A := A) hA.hd hit hls (by simp) fun h' he => ?_
    refine wpAny_pure (.inr ⟨rfl, codeAny_block (noted_of (wpAny_execs_nil ?_))⟩)
    exact fin g vs led _ hJ (S.drop (s' := { s with heap := h' }) he rfl rfl)
  | some v =>
    have hlt : i < items.length := (List.getElem?_eq_some_iff.mp hv).1
    refine wpAny_pyNext_list_item hit hls (by simpa using hv) fun h' hit' hs' => ?_
    have S' : St w o₀ g L nm vs (.itr I a (i + 1) :: led) { s with heap := h' } := S.at (s' := { s with heap := h' }) (c' := .itr I a (i + 1)) .head rfl hs'.extBut hit' rfl rfl
    refine wpAny_bind (noted_of (letGo_it hit' ?_))
    have t := turn i v g vs led _ hv hJ S'
    rw [was] at t
    refine wpAny_bind (wpAny_mono t (fun _ s₂ h₂ => wpAny_bind (wpAny_mono (show wpAny (MM w) A (execs body env) _ FF s₂ from by rw [wx] at h₂; exact h₂) (fun f s₃ h₃ => ?_) fun _ _ q => q.elim)) fun _ _ q => q.elim)
    rw [fend] at h₃
    have nx : (Ex3 fun g' vs' led' => St w o₀ g' L nm vs' (.itr I a (i + 1) :: led') s₃ ∧ J (i + 1) g' vs' led') → ∃ k', k' < items.length + 1 - i ∧ Inv k' s₃ := fun ⟨g', vs', led', S₃, J₃⟩ =>
      ⟨items.length + 1 - (i + 1), by lia, i + 1, g', vs', led', rfl, hlt, J₃, S₃⟩
    cases f with
    | next => exact wpAny_pure (.inl ⟨rfl, nx h₃⟩)
    | cont => exact wpAny_pure (.inl ⟨rfl, nx h₃⟩)
    | brk => exact wpAny_pure h₃
    | ret v => exact wpAny_pure h₃
theorem x_while {test body pos rest} {Q : QF} (h : WW w A env test body (Thn w A env rest Q) s) : WX w A env (.While test body [] pos :: rest) Q s := by
  rw [wx]; unfold WW at h
  refine wpAny_execs_cons (wpAny_While (codeAny_mono h fun r s' q => ?_))
  cases r with
  | ok f => dsimp only at q; rw [thn] at q; exact q
  | error e => exact q.elim
end
end Mine
namespace Mine
theorem esOf_key {P : Params} : ∀ {ns : List Str} {tk : Nat → Tok} {vs : List (Option Value)} {e : DictEntry}, e ∈ esOf P ns tk vs → ∃ x t, x ∈ ns ∧ e.key = .str x t := by
  intro ns
  induction ns with
  | nil => intro tk vs e h; cases h
  | cons n ns ih =>
    intro tk vs e h
    cases vs with
    | nil => cases h
    | cons u vs =>
      cases u with
      | none => obtain ⟨x, t, hx, he⟩ := ih (vs := vs) h; exact ⟨x, t, .tail _ hx, he⟩
      | some v =>
        rcases List.mem_cons.mp h with h | h
        · rw [h]; exact ⟨n, _, .head _, rfl⟩
        · obtain ⟨x, t, hx, he⟩ := ih h; exact ⟨x, t, .tail _ hx, he⟩
theorem esOf_refKey {P : Params} {ns : List Str} {tk : Nat → Tok} {vs : List (Option Value)} : (esOf P ns tk vs).any (·.refKey) = false := by
  rw [Bool.eq_false_iff]; intro q
  obtain ⟨e, he, hq⟩ := List.any_eq_true.mp q
  obtain ⟨x, t, _, h⟩ := esOf_key he
  simp [DictEntry.refKey, h] at hq
theorem isStr_ne {x y : Str} {t : Tok} (h : x ≠ y) : (Value.str x t).isStr y = false := by
  show (x == y) = false; simp [h]
theorem isStr_eq {x : Str} {t : Tok} : (Value.str x t).isStr x = true := by
  show (x == x) = true; simp
theorem esOf_find {P : Params} {ns : List Str} {vs : List (Option Value)} {x : Str} {v : Value} (h : Lk ns vs x v) : ∀ {tk : Nat → Tok}, ns.Nodup → ∃ e, (esOf P ns tk vs).find? (·.key.isStr x) = some e ∧ e.val = v := by
  induction h with
  | head => intro tk _; exact ⟨_, by simp only [esOf_s, esOf_n, esOf_0, esOf_00, List.find?_cons, isStr_eq]; rfl, rfl⟩
  | @tail n ns u vs x v h ih =>
    intro tk nd
    have hn := List.nodup_cons.mp nd
    have hx : n ≠ x := fun e => hn.1 (e ▸ h.mem)
    cases u with
    | none => exact ih hn.2
    | some u =>
      obtain ⟨e, h1, h2⟩ := ih (tk := fun i => tk (i + 1)) hn.2
      exact ⟨e, by simp only [esOf_s, esOf_n, esOf_0, esOf_00, List.find?_cons, isStr_ne hx]; exact h1, h2⟩
theorem getL_of {P : Params} {ns : List Str} {vs : List (Option Value)} {x : Str} {v : Value} {tk : Nat → Tok} (h : Lk ns vs x v) (nd : ns.Nodup) : getL x (esOf P ns tk vs) = some (some v) := by
  obtain ⟨e, h1, h2⟩ := esOf_find (P := P) (tk := tk) h nd
  unfold getL; rw [h1]; dsimp only; rw [h2]
theorem getL_none {P : Params} {ns : List Str} {vs : List (Option Value)} {x : Str} {tk : Nat → Tok} (h : x ∉ ns) : getL x (esOf P ns tk vs) = some none := by
  have : (esOf P ns tk vs).find? (·.key.isStr x) = none := by
    rw [List.find?_eq_none]
    intro e he q
    obtain ⟨y, t, hy, hk⟩ := esOf_key he
    rw [hk] at q
    have : y = x := by simpa [Value.isStr] using q
    exact h (this ▸ hy)
  unfold getL; rw [this, esOf_refKey]; rfl
/- an attribute stored: one that is set, or the next -/
inductive UpA : List Str → List (Option Value) → Str → Value → List (Option Value) → Prop
  | head {x ns u vs v} : UpA (x :: ns) (some u :: vs) x v (some v :: vs)
  | new {x ns vs v} : (vs.all (·.isNone) = true) → UpA (x :: ns) (none :: vs) x v (some v :: vs)
  | tail {n ns u vs x v vs'} : UpA ns vs x v vs' → UpA (n :: ns) (u :: vs) x v (u :: vs')
theorem UpA.mem {ns vs x v vs'} (h : UpA ns vs x v vs') : x ∈ ns := by
  induction h with
  | head => exact .head _
  | new => exact .head _
  | tail _ ih => exact .tail _ ih
theorem esOf_none {P : Params} : ∀ {ns : List Str} {tk : Nat → Tok} {vs : List (Option Value)}, vs.all (·.isNone) = true → esOf P ns tk vs = []
  | [], _, _, _ => by simp [esOf_s, esOf_n, esOf_0, esOf_00]
  | _ :: _, _, [], _ => by simp [esOf_s, esOf_n, esOf_0, esOf_00]
  | _ :: ns, tk, none :: vs, h => esOf_none (ns := ns) (vs := vs) (by simpa using h)
  | _ :: _, _, some _ :: _, h => by simp at h
theorem UpA.put {P : Params} {ns vs x v vs'} (h : UpA ns vs x v vs') : ∀ {tk : Nat → Tok} {t : Tok}, ns.Nodup → ∃ tk', putL x (PyData.keyHash P x) (.str x t) v (esOf P ns tk vs) = esOf P ns tk' vs' := by
  induction h with
  | head => intro tk t _; exact ⟨tk, by simp [esOf_s, esOf_n, esOf_0, esOf_00, putL, isStr_eq]⟩
  | @new x ns vs v h =>
    intro tk t _
    refine ⟨fun i => match i with | 0 => t | i + 1 => tk (i + 1), ?_⟩
    have e1 : esOf P (x :: ns) tk (none :: vs) = [] := esOf_none (ns := x :: ns) (vs := none :: vs) (by simpa using h)
    have e2 : esOf P ns (fun i => tk (i + 1)) vs = [] := esOf_none h
    rw [e1]
    show [_] = _ :: esOf P ns (fun i => tk (i + 1)) vs
    rw [e2]
  | @tail n ns u vs x v vs' h ih =>
    intro tk t nd
    have hn := List.nodup_cons.mp nd
    have hx : n ≠ x := fun e => hn.1 (e ▸ h.mem)
    obtain ⟨tk', e⟩ := ih (tk := fun i => tk (i + 1)) (t := t) hn.2
    refine ⟨fun i => match i with | 0 => tk 0 | i + 1 => tk' i, ?_⟩
    cases u with
    | none => exact e
    | some u =>
      show putL x _ _ v (_ :: _) = _ :: esOf P ns tk' vs'
      rw [putL, if_neg (by rw [isStr_ne hx]; decide), e]
theorem esOf_len {P : Params} : ∀ {ns : List Str} {tk : Nat → Tok} {vs : List (Option Value)}, (esOf P ns tk vs).length ≤ ns.length
  | [], _, _ => by simp [esOf_s, esOf_n, esOf_0, esOf_00]
  | _ :: _, _, [] => by simp [esOf_s, esOf_n, esOf_0, esOf_00]
  | _ :: ns, tk, some _ :: vs => by have := esOf_len (P := P) (ns := ns) (tk := fun i => tk (i + 1)) (vs := vs); simp [esOf_s, esOf_n, esOf_0, esOf_00]; exact this
  | _ :: ns, tk, none :: vs => by have := esOf_len (P := P) (ns := ns) (tk := fun i => tk (i + 1)) (vs := vs); simp only [esOf_s, esOf_n, esOf_0, esOf_00, List.length_cons]; lia

/- what the written part says of an attribute of a class's instances -/
noncomputable def attrOk (K : Frag) (C : Addr) (x : Str) : Bool := plainGet K C x && hasDictIn K C && findIn K (.ref C) x == some none && findIn K (.ref C) "__setattr__" == some (some (.builtin "object.__setattr__")) && plainOver K C && takerIn K C x == some none
noncomputable def methOk (K : Frag) (C : Addr) (x : Str) (f : Addr) : Bool := plainGet K C x && findIn K (.ref C) x == some (some (.ref f)) && isFn K (.ref f) && keepIn K (.ref f)
section
variable {w : World} {o₀ : OsState} {g : Heap} {L : Addr} {nm gl : List Str} {vs vs' : List (Option Value)} {led led' : Led} {s : Shared} {A : Around} {env : Env}
theorem inst_at {x C d : Addr} {an : List Str} {av : List (Option Value)} (S : St w o₀ g L nm vs led s) (hx : Has w.params g led (.ins x C d)) (hd : Has w.params g led (.dic d an av)) :
    ∃ tk n, s.heap.get? d = some (dcO w.params an tk av n) ∧ InstAt s.heap x (insO C d) C (some (dcO w.params an tk av n)) := by
  obtain ⟨o, h1, rfl⟩ := hx.at S
  obtain ⟨o', h2, tk, n, rfl⟩ := hd.at S
  exact ⟨tk, n, h2, h1, rfl, rfl, h2⟩
theorem r_get {x C d : Addr} {an : List Str} {av : List (Option Value)} {name : Str} {v : Value} {Q : QV} (S : St w o₀ g L nm vs led s) (hx : Has w.params g led (.ins x C d)) (hd : Has w.params g led (.dic d an av))
    (hl : Lk an av name v) (ho : attrOk (KK w.params) C name = true) (hn : an.Nodup) (hv : handedIn v = true) (k : ∀ s, St w o₀ g L nm vs led s → Q v s) : WGet w A (.ref x) name Q s := by
  rw [wget]
  simp only [attrOk, Bool.and_eq_true, beq_iff_eq] at ho
  obtain ⟨⟨⟨⟨⟨h1, h2⟩, h3⟩, h4⟩, h5⟩, h6⟩ := ho
  obtain ⟨tk, n, _, I⟩ := inst_at S hx hd
  exact get_value (S.P.K.keeps S.keep) I (plainGet_of h1).1 (findObj_own h2 h3 rfl (by rw [lookIn_dict]; exact getL_of hl hn)) hv (k _ (S.tok _))
theorem r_setA {x C d : Addr} {an : List Str} {av av' : List (Option Value)} {name : Str} {v : Value} {Q : QU} (S : St w o₀ g L nm vs led s) (hx : Has w.params g led (.ins x C d)) (hm : .dic d an av ∈ led) (hu : UpA an av name v av')
    (U : UpL (.dic d an av) (.dic d an av') led led') (ho : attrOk (KK w.params) C name = true) (hn : an.Nodup) (hz : Nat.ble an.length 1000 = true)
    (k : ∀ s, St w o₀ g L nm vs led' s → Q () s) : WSet w A (.ref x) name v Q s := by
  rw [wset]
  simp only [attrOk, Bool.and_eq_true, beq_iff_eq] at ho
  obtain ⟨⟨⟨⟨⟨h1, h2⟩, h3⟩, h4⟩, h5⟩, h6⟩ := ho
  obtain ⟨tk, n, D, I⟩ := inst_at S hx (.led U.mem)
  have K := S.P.K.keeps S.keep
  refine set_plain K I h4 (osa_open (s := { s with toks := s.toks + 1 }) K I h5 h6 fun b => ?_)
  obtain ⟨cd, hc, hd'⟩ := any_some h2
  refine wpAny_bind (wpAny_pure (wpAny_bind (wpAny_bind (wpAny_loadPart I.at_ (wpAny_bind (Looks.here (s := { s with toks := s.toks + 1 }) (looks_clsIn K hc) ?_))))))
  rw [hd']
  refine wpAny_pure (a := some d) (wpAny_bind (wpAny_pure (wpAny_bind ?_)))
  unfold nsSet
  refine wpAny_bind (wpAny_bind (wpAny_askSetting (wpAny_pure (wpAny_bind (wpAny_mkText (wpAny_bind (wpAny_loadPart D ?_)))))))
  dsimp only
  have c0 : ((esOf w.params an tk av).toArray.any (·.refKey)) = false := by rw [List.any_toArray]; exact esOf_refKey
  rw [aRefKeyMayBeTheName_at, c0, Bool.and_false]
  obtain ⟨tk', e⟩ := hu.put (P := w.params) (tk := tk) (t := s.toks + 1) hn
  have pe := putName_dict name (PyData.keyHash w.params name) (.str name (s.toks + 1)) v (esOf w.params an tk av) n
  rw [e] at pe
  have S' : St w o₀ g L nm vs led' { s with heap := s.heap.update d (Obj.putName name (PyData.keyHash w.params name) (.str name (s.toks + 1)) v), toks := s.toks + 1 + 1 } := by
    refine (S.tok (s.toks + 1 + 1)).at (s' := { s with heap := s.heap.update d (Obj.putName name (PyData.keyHash w.params name) (.str name (s.toks + 1)) v), toks := s.toks + 1 + 1 }) U rfl (Heap.SameBut.update ..).extBut ⟨_, Heap.get?_update_self _ D (by rw [pe]; rfl), ?_⟩ rfl rfl
    exact ⟨tk', _, pe⟩
  refine wpAny_updatePart D ?_
  have D' : (s.heap.update d (Obj.putName name (PyData.keyHash w.params name) (.str name (s.toks + 1)) v)).get? d = some (dcO w.params an tk' av' (putN name (esOf w.params an tk av) n)) := by
    rw [← show _ = dcO w.params an tk' av' (putN name (esOf w.params an tk av) n) from pe]
    exact Heap.get?_update_self _ D (by rw [pe]; rfl)
  refine wpAny_bind (wpAny_lookBehind D' (pastItsLine_dict (by
    rw [List.size_toArray, sizeLine_eq]
    have h1 := esOf_len (P := w.params) (ns := an) (tk := tk') (vs := av')
    have h2 := Nat.le_of_ble_eq_true hz
    lia)) ?_)
  exact wpAny_pure (k _ S')
/- a method of the instance's class -/
theorem r_mth {x C d f : Addr} {an : List Str} {av : List (Option Value)} {name : Str} {Q : QM} (S : St w o₀ g L nm vs led s) (hx : Has w.params g led (.ins x C d)) (hd : Has w.params g led (.dic d an av))
    (ho : methOk (KK w.params) C name f = true) (hn : an.contains name = false) (k : Q (.ref f) [.ref x] s) : WM w A (.ref x) name Q s := by
  rw [wm]
  intro pl
  simp only [methOk, Bool.and_eq_true, beq_iff_eq] at ho
  obtain ⟨⟨⟨h1, h2⟩, h3⟩, h4⟩ := ho
  obtain ⟨tk, n, _, I⟩ := inst_at S hx hd
  refine method_fn (S.P.K.keeps S.keep) I (plainGet_of h1).1 (plainGet_of h1).2 h2 (beq_iff_eq.mp h3) ?_ k
  show (lookIn name (dcO w.params an tk av n)).map _ = _
  rw [lookIn_dict, getL_none (by intro q; rw [List.contains_iff_mem.mpr q] at hn; cases hn)]; rfl
end
end Mine
namespace Mine
section
variable {w : World} {o₀ : OsState} {g : Heap} {L : Addr} {nm gl : List Str} {vs vs' : List (Option Value)} {led led' : Led} {s : Shared} {A : Around} {env : Env}
variable {a b : Int} {x y : Str} {t u : Tok}
-- numbers
theorem q_eq_int {Q : QV} (h : Q (.bool (a == b)) s) : WCmp w A .Eq (.int a t) (.int b u) Q s := by rw [wcmp]; exact PyProof.Rows.eq_int h
theorem q_lt_int {Q : QV} (h : Q (.bool (decide (a < b))) s) : WCmp w A .Lt (.int a t) (.int b u) Q s := by rw [wcmp]; exact PyProof.Rows.lt_int h
theorem q_gt_int {Q : QV} (h : Q (.bool (decide (b < a))) s) : WCmp w A .Gt (.int a t) (.int b u) Q s := by rw [wcmp]; exact PyProof.Rows.gt_int h
theorem q_ge_int {Q : QV} (h : Q (.bool (decide (b ≤ a))) s) : WCmp w A .GtE (.int a t) (.int b u) Q s := by rw [wcmp]; exact PyProof.Rows.ge_int h
theorem b_add_int {Q : QV} (S : St w o₀ g L nm vs led s) (h : ∀ s t, St w o₀ g L nm vs led s → Q (.int (a + b) t) s) : WBin w A .Add (.int a t) (.int b u) Q s := by rw [wbin]; exact PyProof.Rows.add_int (h _ _ (S.tok _))
theorem i_add_int {Q : QV} (S : St w o₀ g L nm vs led s) (h : ∀ s t, St w o₀ g L nm vs led s → Q (.int (a + b) t) s) : WInp w A .Add (.int a t) (.int b u) Q s := by rw [winp]; exact PySem.P.iadd_int (h _ _ (S.tok _))
theorem r_neg {e pos} {Q : QV} (h : WE w A env e (fun v s₁ => ∃ n t, v = .int n t ∧ ∀ t', Q (.int (-n) t') { s₁ with toks := s₁.toks + 1 }) s) : WE w A env (.UnaryOp .USub e pos) Q s := by
  rw [we]; rw [we] at h
  refine wpAny_UnaryOp (wpAny_mono h (fun v s₁ h₁ => ?_) fun _ _ x => x)
  obtain ⟨n, t, rfl, h₁⟩ := h₁
  exact PySem.P.neg_int (h₁ _)
theorem r_negc {i k p pos} {Q : QV} (S : St w o₀ g L nm vs led s) (h : ∀ s t, St w o₀ g L nm vs led s → Q (.int (-i) t) s) : WE w A env (.UnaryOp .USub (.Constant (.int i) k p) pos) Q s :=
  r_neg (r_int S fun s t S => ⟨i, t, rfl, fun t' => h _ _ (S.tok _)⟩)
-- what is None, or of one type
theorem q_is_none {v : Value} {Q : QV} (h : Q (.bool (v == .none)) s) : WCmp w A .Is v .none Q s := by rw [wcmp]; exact PySem.is_none h
theorem q_isn_none {v : Value} {Q : QV} (h : Q (.bool (!(v == .none))) s) : WCmp w A .IsNot v .none Q s := by rw [wcmp]; exact PySem.isNot_none h
theorem q_is_type {T U : String} {Q : QV} (h : Q (.bool (T == U)) s) : WCmp w A .Is (.type T) (.type U) Q s := by
  rw [wcmp]
  refine wpAny_is_plain rfl ?_
  have : ((Value.type T) == (Value.type U)) = (T == U) := by
    by_cases e : T = U
    · subst e; simp
    · have : Value.type T ≠ Value.type U := fun q => e (Value.type.inj q)
      rw [beq_eq_false_iff_ne.mpr this, beq_eq_false_iff_ne.mpr e]
  rw [this]; exact h
theorem q_isn_type {T U : String} {Q : QV} (h : Q (.bool (!(T == U))) s) : WCmp w A .IsNot (.type T) (.type U) Q s := by
  rw [wcmp]
  refine wpAny_isNot_plain rfl ?_
  have : ((Value.type T) == (Value.type U)) = (T == U) := by
    by_cases e : T = U
    · subst e; simp
    · have : Value.type T ≠ Value.type U := fun q => e (Value.type.inj q)
      rw [beq_eq_false_iff_ne.mpr this, beq_eq_false_iff_ne.mpr e]
  rw [this]; exact h
-- texts
theorem q_eq_str_none {Q : QV} (h : Q (.bool false) s) : WCmp w A .Eq (.str x t) .none Q s := by rw [wcmp]; exact PySem.EqNone.eq_str_none h
theorem q_ne_str_none {Q : QV} (h : Q (.bool true) s) : WCmp w A .NotEq (.str x t) .none Q s := by rw [wcmp]; exact PySem.EqNone.ne_str_none h
theorem q_eq_none_none {Q : QV} (h : Q (.bool true) s) : WCmp w A .Eq .none .none Q s := by rw [wcmp]; exact PySem.EqNone.eq_none_none h
theorem q_ne_none_none {Q : QV} (h : Q (.bool false) s) : WCmp w A .NotEq .none .none Q s := by rw [wcmp]; exact PySem.EqNone.ne_none_none h
theorem q_in_str {Q : QV} (h : Q (.bool (Txt.contains x y)) s) : WCmp w A .In (.str y u) (.str x t) Q s := by rw [wcmp]; exact PySem.SB.contains h
theorem t_str {Q : QB} (S : St w o₀ g L nm vs led s) (hx : x.length ≤ sizeLine) (h : ∀ s, St w o₀ g L nm vs led s → Q ((x.length : Int) != 0) s) : WTru w A (.str x t) Q s := by
  rw [wtru]; exact PyProof.Rows.SBL.truthy (by rw [sizeLine_eq] at hx; lia) (h _ (S.tok _))
end
end Mine
namespace Mine
section
variable {w : World} {o₀ : OsState} {g : Heap} {L : Addr} {nm gl : List Str} {vs vs' : List (Option Value)} {led led' : Led} {s : Shared} {A : Around} {env : Env}
variable {a b : Int} {x y z : Str} {t u v : Tok}
-- texts' methods
theorem m_startswith {Q : QM} (h : Q (.builtin "str.startswith") [.str x t] s) : WM w A (.str x t) "startswith" Q s := by rw [wm]; intro pl; with_reducible exact GM.startswith h
theorem m_join {Q : QM} (h : Q (.builtin "str.join") [.str x t] s) : WM w A (.str x t) "join" Q s := by rw [wm]; intro pl; with_reducible exact GM.join h
theorem m_split {Q : QM} (h : Q (.builtin "str.split") [.str x t] s) : WM w A (.str x t) "split" Q s := by rw [wm]; intro pl; with_reducible exact GM.split h
theorem m_replace {Q : QM} (h : Q (.builtin "str.replace") [.str x t] s) : WM w A (.str x t) "replace" Q s := by rw [wm]; intro pl; with_reducible exact GM.replace h
theorem m_count {Q : QM} (h : Q (.builtin "str.count") [.str x t] s) : WM w A (.str x t) "count" Q s := by rw [wm]; intro pl; with_reducible exact GM.count h
theorem k_startswith {Q : QV} (h : Q (.bool (Txt.startswith x y)) s) : WC w A (.builtin "str.startswith") [.str x t, .str y u] [] Q s := by rw [wc]; exact SC.startswith h
theorem k_count {Q : QV} (S : St w o₀ g L nm vs led s) (h : ∀ s t, St w o₀ g L nm vs led s → Q (.int (Txt.count x y) t) s) : WC w A (.builtin "str.count") [.str x t, .str y u] [] Q s := by rw [wc]; exact SC.count (h _ _ (S.tok _))
/- texts as values -/
inductive Strs : List Value → List Str → Prop
  | nil : Strs [] []
  | cons {x t vs xs} : Strs vs xs → Strs (.str x t :: vs) (x :: xs)
theorem Strs.vals : ∀ {vs xs}, Strs vs xs → ∃ l : List (Str × Tok), vs = strValues l ∧ l.map (·.1) = xs
  | _, _, .nil => ⟨[], rfl, rfl⟩
  | _, _, .cons (x := x) (t := t) h => let ⟨l, e1, e2⟩ := h.vals; ⟨(x, t) :: l, by rw [e1]; rfl, by rw [← e2]; rfl⟩
theorem Strs.of : ∀ {l : List (Str × Tok)}, Strs (strValues l) (l.map (·.1))
  | [] => .nil
  | _ :: _ => .cons Strs.of
theorem k_join {D : Addr} {l : List Value} {xs : List Str} {Q : QV} (S : St w o₀ g L nm vs led s) (hl : Has w.params g led (.lst D l)) (hx : Strs l xs) (hok : JoinOk x xs = true)
    (h : ∀ s t, St w o₀ g L nm vs led s → Q (.str (Txt.join x xs) t) s) : WC w A (.builtin "str.join") [.str x t, .ref D] [] Q s := by
  rw [wc]
  obtain ⟨q, e1, e2⟩ := hx.vals
  have hD := hl.list S
  rw [e1] at hD
  exact SC.join hD e2 hok fun t' k => h _ _ (S.tok k)
theorem k_split {Q : QV} (S : St w o₀ g L nm vs led s) (hy : (y.length == 0) = false) (hx : x.length ≤ sizeLine) (hx2 : (Builtin.Str.partsBetween x (Builtin.Str.occurrences x y 0 x.length (x.length + 1)) y.length).length ≤ sizeLine)
    (h : ∀ s D l, L < D → Strs l (Txt.split x y) → St w o₀ g L nm vs (.lst D l :: led) s → Q (.ref D) s) : WC w A (.builtin "str.split") [.str x t, .str y u] [] Q s := by
  rw [wc]
  have fin : ∀ (q : List (Str × Tok)) (tk : Nat), q.map (·.1) = Txt.split x y → Q (.ref s.heap.objs.size) { s with toks := tk, heap := s.heap.push (lstO (strValues q) 0) } := fun q tk e =>
    h _ _ _ S.ns.lt (e ▸ Strs.of) ((S.tok tk).alloc (.lst _ (strValues q)) (lstO (strValues q) 0) rfl rfl ⟨0, rfl⟩)
  cases h1 : (decide (x.length < y.length) || decide (Builtin.Str.strKind x < Builtin.Str.strKind y))
  · cases hf : (Builtin.Str.occurrences x y 0 x.length (x.length + 1)).isEmpty
    · refine call_meets F.slot_str_split (typeIs_str _ _ _) F.entry_str_split (F.args_str_split_2 _ _) (meets_str_split_sep x y t u h1 hy hf hx hx2) ?_
      show wants Q FF _ { s with toks := _, heap := s.heap.push { cls := .type "list", data := .seq (strsFrom s.toks (Builtin.Str.partsBetween x (Builtin.Str.occurrences x y 0 x.length (x.length + 1)) y.length)).toArray } }
      rw [strsFrom_eq]
      exact fin (numbered s.toks _) _ ((numbered_texts _ _).trans ((if_neg (ne_true_of_eq_false h1)).trans (if_neg (ne_true_of_eq_false hf))).symm)
    · exact call_meets F.slot_str_split (typeIs_str _ _ _) F.entry_str_split (F.args_str_split_2 _ _) (meets_str_split_not_found x y t u h1 hy hf)
        (fin [(x, t)] s.toks ((if_neg (ne_true_of_eq_false h1)).trans (if_pos hf)).symm)
  · exact call_meets F.slot_str_split (typeIs_str _ _ _) F.entry_str_split (F.args_str_split_2 _ _) (meets_str_split_cannot_occur x y t u h1)
      (fin [(x, t)] s.toks (if_pos h1).symm)
theorem b_add_str {Q : QV} (S : St w o₀ g L nm vs led s) (hz : x.length + y.length ≤ sizeLine) (h : ∀ s t, St w o₀ g L nm vs led s → Q (.str (x ++ y) t) s) : WBin w A .Add (.str x t) (.str y u) Q s := by
  rw [wbin]; exact SB.add (fun t' k => h _ _ (S.tok k)) hz
theorem i_add_str {Q : QV} (S : St w o₀ g L nm vs led s) (hz : x.length + y.length ≤ sizeLine) (h : ∀ s t, St w o₀ g L nm vs led s → Q (.str (x ++ y) t) s) : WInp w A .Add (.str x t) (.str y u) Q s := by
  rw [winp]; exact SB.iadd (fun t' k => h _ _ (S.tok k)) hz
theorem k_len_str {Q : QV} (S : St w o₀ g L nm vs led s) (hx : x.length ≤ sizeLine) (h : ∀ s t, St w o₀ g L nm vs led s → Q (.int x.length t) s) : WC w A (.builtin "len") [.str x t] [] Q s := by
  rw [wc]; exact PyProof.Rows.SBL.len (by rw [sizeLine_eq] at hx; lia) (h _ _ (S.tok _))
-- lists
theorem k_len_list {D : Addr} {l : List Value} {Q : QV} (S : St w o₀ g L nm vs led s) (hl : Has w.params g led (.lst D l)) (hz : l.length ≤ sizeLine) (h : ∀ s t, St w o₀ g L nm vs led s → Q (.int l.length t) s) : WC w A (.builtin "len") [.ref D] [] Q s := by
  rw [wc]
  refine Calls.call_len_list (hl.list S) (by rw [List.size_toArray, sizeLine_eq] at *; lia) ?_
  rw [List.size_toArray]; exact h _ _ ((S.tok (s.toks + 1)).tok _)
theorem m_list {D : Addr} {l : List Value} {name : Str} {id : String} {Q : QM} (S : St w o₀ g L nm vs led s) (hl : Has w.params g led (.lst D l)) (sl : Slot "list" name id) (ty : typeOf (.builtin id) = pure (.type "method_descriptor"))
    (h : Q (.builtin id) [.ref D] s) : WM w A (.ref D) name Q s := by
  rw [wm]; intro pl
  obtain ⟨o, h1, n, rfl⟩ := hl.at S
  exact getMethod_builtin ⟨_, h1, rfl⟩ PySem.F.plainAttrs_list sl ty (fun a e => by cases e; exact ⟨_, h1, rfl⟩) h
end
end Mine
namespace Mine
section
variable {w : World} {o₀ : OsState} {g : Heap} {L : Addr} {nm gl : List Str} {vs vs' : List (Option Value)} {led led' : Led} {s : Shared} {A : Around} {env : Env}
variable {a b : Int} {x y z : Str} {t u v : Tok}
theorem k_append {D : Addr} {l : List Value} {y : Value} {Q : QV} (S : St w o₀ g L nm vs led s) (U : UpL (.lst D l) (.lst D (l ++ [y])) led led') (hz : l.length ≤ sizeLine)
    (h : ∀ s, St w o₀ g L nm vs led' s → Q .none s) : WC w A (.builtin "list.append") [.ref D, y] [] Q s := by
  rw [wc]
  obtain ⟨o, h1, n, rfl⟩ := (S.ld _ U.mem).1
  refine append_at (its := l.toArray) (n := n) h1 (fun h' hs ho' => h _ ?_) (by rw [List.size_toArray]; exact hz)
  refine S.at (s' := { s with heap := h' }) U rfl hs.extBut ⟨_, ho', n + 1, ?_⟩ rfl rfl
  simp
theorem s_item {value slice : Expr} {D : Addr} {l : List Value} {k : Int} {y : Value} {Q : QV} (S : St w o₀ g L nm vs led s) (hl : Has w.params g led (.lst D l)) (hs : noSl slice = true) (h0 : 0 ≤ k) (hk : k < 2 ^ 63) (hy : l[k.toNat]? = some y)
    (h : Q y s) : WSub w A value slice (.ref D) (.int k u) Q s := by
  rw [wsub]
  have hL := hl.list S
  exact tail_any hL.typeIs slot_list_getitem.lookup (wpAny_getItem_list hL h0 hk (by simpa using hy) h) (noSl_sub hs)
theorem s_last {value slice : Expr} {D : Addr} {l : List Value} {y : Value} {Q : QV} (S : St w o₀ g L nm vs led s) (hl : Has w.params g led (.lst D l)) (hs : noSl slice = true) (hy : l.getLast? = some y)
    (h : Q y s) : WSub w A value slice (.ref D) (.int (-1) u) Q s := by
  rw [wsub]
  have hL := hl.list S
  have hn : l ≠ [] := by intro e; rw [e] at hy; cases hy
  have hp : 0 < l.length := List.length_pos_iff.mpr hn
  refine tail_any hL.typeIs slot_list_getitem.lookup (wpAny_getItem_list_neg hL (by lia) (by rw [List.size_toArray]; lia) (by lia) ?_ h) (noSl_sub hs)
  rw [List.getElem?_toArray, List.size_toArray]
  have : ((-1 : Int) + (l.length : Int)).toNat = l.length - 1 := by lia
  rw [this, ← List.getLast?_eq_getElem?]; exact hy
theorem s_tup {value slice : Expr} {D : Addr} {l : List Value} {k : Int} {y : Value} {Q : QV} (S : St w o₀ g L nm vs led s) (hl : Has w.params g led (.tup D l)) (hs : noSl slice = true) (h0 : 0 ≤ k) (hk : k < 2 ^ 63) (hy : l[k.toNat]? = some y)
    (h : Q y s) : WSub w A value slice (.ref D) (.int k u) Q s := by
  rw [wsub]
  have hlt : k.toNat < l.length := (List.getElem?_eq_some_iff.mp hy).1
  refine item_tupleT (j := k.toNat) (hl.tup S) (by lia) hk ?_ (by simpa using hy) h (noSl_sub hs)
  unfold seqIndex?
  have e1 : (if k < 0 then k + (l.length : Int) else k) = k := if_neg (by lia)
  simp only [e1]
  rw [if_pos (by simp only [Bool.and_eq_true, decide_eq_true_eq]; lia)]
theorem s_str {value slice : Expr} {k : Int} {Q : QV} (S : St w o₀ g L nm vs led s) (hs : noSl slice = true) (h1 : 0 ≤ k) (h2 : k < x.length) (hx : x.length ≤ sizeLine)
    (h : ∀ s t, St w o₀ g L nm vs led s → Q (.str (Txt.item x k) t) s) : WSub w A value slice (.str x t) (.int k u) Q s := by
  rw [wsub]
  exact tail_of_ItemOn (PyProof.Rows.SBL.item (by lia) h2 (by rw [sizeLine_eq] at hx; lia) fun _ => h _ _ (S.tok _)) (noSl_sub hs) fun r => letGo_str
theorem k_pop {D : Addr} {l : List Value} {y : Value} {Q : QV} (S : St w o₀ g L nm vs led s) (U : UpL (.lst D (l ++ [y])) (.lst D l) led led') (hz : l.length < sizeLine)
    (h : ∀ s, St w o₀ g L nm vs led' s → Q y s) : WC w A (.builtin "list.pop") [.ref D] [] Q s := by
  rw [wc]
  obtain ⟨o, h1, n, rfl⟩ := (S.ld _ U.mem).1
  have hk : (l ++ [y]).toArray.size - 1 = l.length := by rw [List.size_toArray, List.length_append]; rfl
  have hy : (l ++ [y]).toArray[(l ++ [y]).toArray.size - 1]? = some y := by rw [hk]; simp
  refine call_meets PySem.F.slot_list_pop ⟨_, h1, rfl⟩ PySem.F.entry_list_pop (PySem.F.args_list_pop_1 _) (PySem.MeetsSeq.list_pop_last D _ n y hy (by rw [List.size_toArray, List.length_append]; exact hz)) ⟨h1, h _ (S.upd U rfl ?_)⟩
  rintro o ⟨m, rfl⟩
  refine ⟨⟨m + 1, ?_⟩, rfl⟩
  show Obj.mapSeq _ (lstO (l ++ [y]) m) = _
  unfold Obj.mapSeq lstO
  dsimp only
  rw [hk, kl_erase, List.append_nil]
  simp
theorem k_extend {D B : Addr} {l l2 : List Value} {Q : QV} (S : St w o₀ g L nm vs led s) (hB : Has w.params g led (.lst B l2)) (U : UpL (.lst D l) (.lst D (l ++ l2)) led led') (hz : l.length + l2.length ≤ 1000000)
    (h : ∀ s, St w o₀ g L nm vs led' s → Q .none s) : WC w A (.builtin "list.extend") [.ref D, .ref B] [] Q s := by
  rw [wc]
  obtain ⟨o, h1, n, rfl⟩ := (S.ld _ U.mem).1
  obtain ⟨o2, h2, n2, rfl⟩ := hB.at S
  have tl : Builtin.List.listTooLong (l.toArray.size + l2.toArray.size) = false := by
    unfold Builtin.List.listTooLong
    simp only [List.size_toArray, decide_eq_false_iff_not, sizeLine_eq]
    lia
  refine call_meets PySem.F.slot_list_extend ⟨_, h1, rfl⟩ PySem.F.entry_list_extend (PySem.F.args_list_extend_2 _ _) (PySem.AutoSeq1.list_extend_list_list_0 D _ n B _ n2 (by rw [tl, Bool.and_false]; decide) (by rw [List.size_toArray, sizeLine_eq]; lia) (by rw [List.size_toArray, List.size_toArray, sizeLine_eq]; lia)) ⟨h1, h2, h _ (S.upd U rfl ?_)⟩
  rintro o ⟨m, rfl⟩
  refine ⟨⟨if l2.length = 0 then m else m + 1, ?_⟩, rfl⟩
  show Obj.mapSeq _ (lstO l m) = _
  unfold Obj.mapSeq lstO
  simp
end
end Mine
namespace Mine
/- one cell is taken out; cells are taken out in their order; two ledgers put together -/
inductive Pick (c : Cell) : Led → Led → Prop
  | head {l} : Pick c (c :: l) l
  | tail {d l l'} : Pick c l l' → Pick c (d :: l) (d :: l')
inductive Picks : Led → Led → Led → Prop
  | nil {l} : Picks [] l l
  | cons {c cs l l₁ r} : Pick c l l₁ → Picks cs l₁ r → Picks (c :: cs) l r
inductive App : Led → Led → Led → Prop
  | nil {l} : App [] l l
  | cons {c a b l} : App a b l → App (c :: a) b (c :: l)
theorem Pick.perm {c l l'} (h : Pick c l l') : l.Perm (c :: l') := by
  induction h with
  | head => exact .refl _
  | tail _ ih => exact (ih.cons _).trans (.swap ..)
theorem Picks.perm {cs l r} (h : Picks cs l r) : l.Perm (cs ++ r) := by
  induction h with
  | nil => exact .refl _
  | cons p _ ih => exact p.perm.trans (ih.cons _)
theorem App.eq {a b l} (h : App a b l) : l = a ++ b := by
  induction h with
  | nil => rfl
  | cons _ ih => rw [ih]; rfl
section
variable {w : World} {o₀ : OsState} {g : Heap} {L : Addr} {nm gl : List Str} {vs vs' : List (Option Value)} {led led' sub rest : Led} {s : Shared} {A : Around} {env : Env}
/- what is kept hidden behind a call holds; the way back -/
noncomputable def RkP (w : World) (rest : Led) (gc : Heap) : Prop := ∀ c ∈ rest, c.ok w.params gc
noncomputable def BkP (w : World) (o₀ : OsState) (g : Heap) (L : Addr) (nm : List Str) (vs : List (Option Value)) (rest : Led) (gc : Heap) : Prop := ∀ sub' s' led', S0 w o₀ gc sub' s' → App sub' rest led' → St w o₀ g L nm vs led' s'
theorem use {G : Prop} (S : St w o₀ g L nm vs led s) (hp : Picks sub led rest)
    (h : ∀ gc, S0 w o₀ gc sub s → Sub g gc → RkP w rest gc → BkP w o₀ g L nm vs rest gc → G) : G := by
  have pm := hp.perm
  have nd : ((sub ++ rest).map (·.addr)).Nodup := (pm.map _).nodup_iff.mp S.nd
  rw [List.map_append] at nd
  have nds := List.nodup_append.mp nd
  have mem : ∀ c ∈ sub ++ rest, c ∈ led := fun c hc => pm.mem_iff.mpr hc
  let gc := hideAll s.heap (sub.map (·.addr))
  have key : ∀ b o, s.heap.get? b = some o → b ∉ sub.map (·.addr) → gc.get? b = some o := fun b o e h => hideAll_get _ e h
  have hg : Sub g gc := fun b o e => key b o (S.keep b o e) fun q => by
    obtain ⟨c, hc, rfl⟩ := List.mem_map.mp q
    rw [(S.ld c (mem c (List.mem_append_left _ hc))).2.2] at e; cases e
  have hrest : ∀ c ∈ rest, c.ok w.params gc := fun c hc => (S.ld c (mem c (List.mem_append_right _ hc))).1.keeps fun o q => key _ _ q fun z =>
    nds.2.2 _ z _ (List.mem_map_of_mem hc) rfl
  refine (h gc ⟨S.P.keeps hg, fun b o e => of_hideAll _ e, fun c hc => ⟨(S.ld c (mem c (List.mem_append_left _ hc))).1, hideAll_none _ (List.mem_map_of_mem hc)⟩, nds.1, S.gens, S.os⟩ hg hrest ?_)
  intro sub' s' led' C ha
  rw [ha.eq]
  obtain ⟨oL, es, ep, hL, r⟩ := S.ns
  have hLs : L ∉ sub.map (·.addr) := fun q => by
    obtain ⟨c, hc, e⟩ := List.mem_map.mp q
    exact (S.ld c (mem c (List.mem_append_left _ hc))).2.1 e
  have hLg := key L oL hL hLs
  refine ⟨S.P, ⟨oL, es, ep, C.keep _ _ hLg, r⟩, fun b o e => C.keep _ _ (hg b o e), S.Lg, fun c hc => ?_, ?_, C.gens, C.os⟩
  · rcases List.mem_append.mp hc with hc | hc
    · refine ⟨(C.ld c hc).1, fun e => ?_, ?_⟩
      · have := (C.ld c hc).2; rw [e, hLg] at this; cases this
      · cases q : g.get? c.addr with
        | none => rfl
        | some o => have := (C.ld c hc).2; rw [hg _ _ q] at this; cases this
    · exact ⟨(hrest c hc).keeps fun o q => C.keep _ _ q, (S.ld c (mem c (List.mem_append_right _ hc))).2⟩
  · rw [List.map_append]
    refine List.nodup_append.mpr ⟨C.nd, nds.2.1, fun a ha b hb e => ?_⟩
    obtain ⟨c, hc, rfl⟩ := List.mem_map.mp ha
    obtain ⟨d, hd, rfl⟩ := List.mem_map.mp hb
    have h1 := (C.ld c hc).2
    obtain ⟨o, h2, _⟩ := hrest d hd
    rw [e, h2] at h1; cases h1
end
end Mine
namespace Mine
noncomputable abbrev lexNm : List Str := [Str.ofString "instream", Str.ofString "infile", Str.ofString "posix", Str.ofString "eof", Str.ofString "commenters", Str.ofString "wordchars", Str.ofString "whitespace", Str.ofString "whitespace_split", Str.ofString "quotes", Str.ofString "escape", Str.ofString "escapedquotes", Str.ofString "state", Str.ofString "pushback", Str.ofString "lineno", Str.ofString "debug", Str.ofString "token", Str.ofString "filestack", Str.ofString "source", Str.ofString "_punctuation_chars"]
noncomputable abbrev ioNm : List Str := [Str.ofString "_StringIO__newline", Str.ofString "_StringIO__buf", Str.ofString "_StringIO__pos"]
noncomputable abbrev igNm : List Str := [Str.ofString "_mods", Str.ofString "_dirs", Str.ofString "_ignore"]
theorem nd_lex : lexNm.Nodup := by decide +kernel
theorem nd_io : ioNm.Nodup := by decide +kernel
theorem nd_ig : igNm.Nodup := by decide +kernel
theorem ao_lex {w : World} : ∀ n ∈ lexNm, attrOk (KK w.params) 787 n = true := List.all_eq_true.mp (by kernel_rfl)
theorem ao_io {w : World} : ∀ n ∈ ioNm, attrOk (KK w.params) 694 n = true := List.all_eq_true.mp (by kernel_rfl)
theorem ao_ig {w : World} : ∀ n ∈ igNm, attrOk (KK w.params) 137 n = true := List.all_eq_true.mp (by kernel_rfl)
theorem mo_read {w : World} : methOk (KK w.params) 694 (Str.ofString "read") 640 = true := by kernel_rfl
theorem mo_check {w : World} : methOk (KK w.params) 694 (Str.ofString "_StringIO__check") 478 = true := by kernel_rfl
theorem mo_trans {w : World} : methOk (KK w.params) 694 (Str.ofString "_StringIO__translated") 471 = true := by kernel_rfl
theorem mo_getTok {w : World} : methOk (KK w.params) 787 (Str.ofString "get_token") 748 = true := by kernel_rfl
theorem mo_readTok {w : World} : methOk (KK w.params) 787 (Str.ofString "read_token") 755 = true := by kernel_rfl
theorem mo_leader {w : World} : methOk (KK w.params) 787 (Str.ofString "error_leader") 770 = true := by kernel_rfl
theorem mo_names {w : World} : methOk (KK w.params) 137 (Str.ofString "names") 134 = true := by kernel_rfl
noncomputable def fnAddrs : List Addr := [51, 58, 86, 93, 107, 114, 137, 127, 134, 160, 187, 694, 464, 471, 478, 640, 787, 711, 718, 748, 755, 770, 799, 806, 813, 818, 823, 830, 837, 844, 849, 856, 861]
theorem kp_all {w : World} {f : Addr} (h : fnAddrs.contains f = true) : keepIn (KK w.params) (.ref f) = true :=
  List.all_eq_true.mp (show fnAddrs.all (fun f => keepIn (KK w.params) (.ref f)) = true by kernel_rfl) f (List.contains_iff_mem.mp h)
theorem bt_len : bootBuiltins (Str.ofString "len") = some (.builtin "len") := by kernel_rfl
theorem bt_str : bootBuiltins (Str.ofString "str") = some (.type "str") := by kernel_rfl
theorem bt_int : bootBuiltins (Str.ofString "int") = some (.type "int") := by kernel_rfl
theorem bt_type : bootBuiltins (Str.ofString "type") = some (.type "type") := by kernel_rfl
theorem bt_isinstance : bootBuiltins (Str.ofString "isinstance") = some (.builtin "isinstance") := by kernel_rfl
theorem bt_list : bootBuiltins (Str.ofString "list") = some (.type "list") := by kernel_rfl
theorem bt_range : bootBuiltins (Str.ofString "range") = some (.type "range") := by kernel_rfl
theorem bt_abs : bootBuiltins (Str.ofString "abs") = some (.builtin "abs") := by kernel_rfl
theorem bt_chr : bootBuiltins (Str.ofString "chr") = some (.builtin "chr") := by kernel_rfl
theorem bt_sum : bootBuiltins (Str.ofString "sum") = some (.builtin "sum") := by kernel_rfl
theorem bt_all : bootBuiltins (Str.ofString "all") = some (.builtin "all") := by kernel_rfl
theorem bt_set : bootBuiltins (Str.ofString "set") = some (.type "set") := by kernel_rfl
theorem bt_object : bootBuiltins (Str.ofString "object") = some (.type "object") := by kernel_rfl
section
variable {w : World} {o₀ : OsState} {g : Heap} {L : Addr} {nm gl : List Str} {vs vs' : List (Option Value)} {led led' : Led} {s : Shared} {A : Around} {env : Env}
variable {a b : Int} {x y z : Str} {t u v : Tok}
theorem k_type_int {Q : QV} (h : Q (.type "int") s) : WC w A (.type "type") [.int a t] [] Q s := by rw [wc]; exact call_type_of (typeIs_int s a t) (by decide) h
theorem k_type_str {Q : QV} (h : Q (.type "str") s) : WC w A (.type "type") [.str x t] [] Q s := by rw [wc]; exact call_type_of (typeIs_str s x t) (by decide) h
theorem k_int_int {Q : QV} (h : Q (.int a t) s) : WC w A (.type "int") [.int a t] [] Q s := by rw [wc]; exact call_int_int h
theorem k_isi_str {Q : QV} (h : Q (.bool true) s) : WC w A (.builtin "isinstance") [.str x t, .type "str"] [] Q s := by rw [wc]; exact IsiPair.str_str h
end
end Mine
namespace Mine
section
variable {w : World} {o₀ : OsState} {g : Heap} {L : Addr} {nm gl : List Str} {vs vs' : List (Option Value)} {led led' : Led} {s : Shared} {A : Around} {env : Env}
noncomputable def propOk (K : Frag) (C : Addr) (name : Str) (p f : Addr) : Bool := plainGet K C name && hasDictIn K C && findIn K (.ref C) name == some (some (.ref p)) && specialIn K (.ref p) "__get__" == some (some (.builtin "property.__get__")) && takesIn K (.ref p) == some true &&
  (match recIn K p "property" with | some (.ref f' :: _) => Nat.beq f' f | _ => false)
theorem r_prop {x C d p f : Addr} {an : List Str} {av : List (Option Value)} {name : Str} {Q : QV} (S : St w o₀ g L nm vs led s) (hx : Has w.params g led (.ins x C d)) (hd : Has w.params g led (.dic d an av))
    (ho : propOk (KK w.params) C name p f = true) (h : ∀ s, St w o₀ g L nm vs led s → WD w A.in1 (.ref f) [.ref x] [] (fun v s' => handedIn v = true ∧ Q v s') s) : WGet w A (.ref x) name Q s := by
  rw [wget]
  simp only [propOk, Bool.and_eq_true, beq_iff_eq] at ho
  obtain ⟨⟨⟨⟨⟨h1, h2⟩, h3⟩, h4⟩, h5⟩, h6⟩ := ho
  obtain ⟨tk, n, _, I⟩ := inst_at S hx hd
  have K := S.P.K.keeps S.keep
  obtain ⟨rest, hr⟩ : ∃ rest, recIn (KK w.params) p "property" = some (.ref f :: rest) := by
    split at h6
    · rename_i f' rest e
      rw [Nat.eq_of_beq_eq_true h6] at e
      exact ⟨rest, e⟩
    · cases h6
  refine get_bind K I (plainGet_of h1).1 (findObj_data (by obtain ⟨cd, hc, _⟩ := any_some h2; rw [hc]; rfl) h3 h4 h5) (plainGet_of h1).2 (wpAny_call (prop_get (s := { s with toks := s.toks + 1 }) K hr ?_))
  have z := h _ (S.tok (s.toks + 1))
  rw [wd] at z
  refine codeAny_mono z fun r s' q => ?_
  cases r with
  | error e => exact q.elim
  | ok fl => cases fl <;> first | exact q.elim | skip
             exact handed_on q.1 q.2
theorem po_punct {w : World} : propOk (KK w.params) 787 (Str.ofString "punctuation_chars") 719 718 = true := by kernel_rfl
end
end Mine
namespace Mine
/- one sign as a text -/
noncomputable abbrev ch (c : Nat) : Str := ⟨#[c]⟩
theorem in_ch {x : Str} {c : Nat} : Txt.contains x (ch c) = decide (c ∈ x.cps.toList) := StrLaws.found_one x c
theorem eq_ch {c d : Nat} : (ch c == ch d) = decide (c = d) := by
  by_cases h : c = d
  · subst h; simp
  · have : ch c ≠ ch d := fun e => h (by have := congrArg (fun z : Str => z.cps.toList) e; simpa using this)
    rw [beq_eq_false_iff_ne.mpr this, decide_eq_false h]
theorem len_ch {c : Nat} : (ch c).length = 1 := rfl
section
variable {w : World} {o₀ : OsState} {g : Heap} {L : Addr} {nm gl : List Str} {vs vs' : List (Option Value)} {led led' : Led} {s : Shared} {A : Around} {env : Env}
/- one turn of a while, then the while again -/
theorem w_step {test : Expr} {body : List Stmt} {K : QF} (h : WT w A env test (fun b s₂ => Br b (WX w A env body (FEnd (fun s₃ => WW w A env test body K s₃) K) s₂) (K .next s₂)) s) : WW w A env test body K s := by
  unfold WW
  refine codeAny_of_tree ?_
  show wpAny (MM w) A ((whileTurn test body [] env).onRaise (fun x => do noteFrame x env; theTreesLotGoes x)) _ _ s
  refine wpAny_noted ?_
  rw [wt] at h
  simp (config := { iota := false }) only [whileTurn]
  refine wpAny_bind (noted_of (wpAny_mono h (fun b s₂ h₂ => ?_) fun _ _ q => q))
  rw [br] at h₂
  cases b with
  | true =>
    simp (config := { iota := false }) only [if_true] at h₂ ⊢
    rw [wx] at h₂
    refine wpAny_bind (noted_of (wpAny_mono h₂ (fun f s₃ h₃ => ?_) fun _ _ q => q))
    rw [fend] at h₃
    unfold WW at h₃
    cases f with
    | next => exact wpAny_pure ⟨rfl, h₃⟩
    | cont => exact wpAny_pure ⟨rfl, h₃⟩
    | brk => exact wpAny_pure h₃
    | ret v => exact wpAny_pure h₃
  | false =>
    simp (config := { iota := false }) only [Bool.false_eq_true, if_false] at h₂ ⊢
    exact wpAny_bind (noted_of (wpAny_execs_nil (wpAny_pure h₂)))
end
/- the lexer's run over signs: its state, quoted, the token so far, what is left; the token, what is left behind it, the line ends met -/
inductive LS where
  | sp | a | q (c : Nat)
noncomputable def isWs (c : Nat) : Bool := c == 32 || c == 9 || c == 13 || c == 10
noncomputable def isQ (c : Nat) : Bool := c == 39 || c == 34
noncomputable def nlc (c : Nat) : Int := if c = 10 then 1 else 0
inductive Run (px : Bool) (wc : List Nat) : LS → Bool → List Nat → List Nat → Option (List Nat) → List Nat → Int → Prop
  | eof : Run px wc .sp false [] [] none [] 0
  | spWs {c cs r rest n} : isWs c = true → Run px wc .sp false [] cs r rest n → Run px wc .sp false [] (c :: cs) r rest (nlc c + n)
  | spWord {c cs r rest n} : isWs c = false → c ≠ 35 → c ≠ 92 → c ∈ wc → Run px wc .a false [c] cs r rest n → Run px wc .sp false [] (c :: cs) r rest n
  | spSign {c cs} : isWs c = false → c ≠ 35 → c ≠ 92 → c ∉ wc → isQ c = false → Run px wc .sp false [] (c :: cs) (some [c]) cs 0
  | spQ {c cs r rest n} : isQ c = true → c ∉ wc → Run px wc (.q c) false (if px then [] else [c]) cs r rest n → Run px wc .sp false [] (c :: cs) r rest n
  | aWs {qd tok c cs} : isWs c = true → (tok ≠ [] ∨ (px = true ∧ qd = true)) → Run px wc .a qd tok (c :: cs) (some tok) cs (nlc c)
  | aQ {qd tok c cs r rest n} : px = true → isQ c = true → Run px wc (.q c) qd tok cs r rest n → Run px wc .a qd tok (c :: cs) r rest n
  | aWord {qd tok c cs r rest n} : isWs c = false → isQ c = false → c ≠ 35 → c ≠ 92 → c ∈ wc → Run px wc .a qd (tok ++ [c]) cs r rest n → Run px wc .a qd tok (c :: cs) r rest n
  | qEnd {qd tok c cs r rest n} : px = true → isQ c = true → Run px wc .a true tok cs r rest n → Run px wc (.q c) qd tok (c :: cs) r rest n
  | qEndN {qd tok c cs} : px = false → isQ c = true → Run px wc (.q c) qd tok (c :: cs) (some (tok ++ [c])) cs 0
  | qIn {d qd tok c cs r rest n} : isQ d = true → c ≠ d → (d = 34 → c ≠ 92) → Run px wc (.q d) true (tok ++ [c]) cs r rest n → Run px wc (.q d) qd tok (c :: cs) r rest (nlc c + n)
end Mine
namespace Mine
section
variable {w : World} {o₀ : OsState} {g : Heap} {L : Addr} {nm gl : List Str} {vs vs' : List (Option Value)} {led led' : Led} {s : Shared} {A : Around} {env : Env}
variable {a b : Int} {x y z : Str} {t u v : Tok}
/- whether a value is this text -/
noncomputable def isTx (x : Str) : Value → Bool
  | .str z _ => z == x
  | _ => false
theorem Strs.eqAt {l : List Value} {xs : List Str} (h : Strs l xs) {A : Around} : ∀ y ∈ l, SeqAt.EqAt A s y (.str x t) (isTx x y) := by
  induction h with
  | nil => intro y hy; cases hy
  | cons _ ih =>
    intro y hy
    rcases List.mem_cons.mp hy with rfl | hy
    · exact SeqAt.EqAt.str_str _ _ _ _
    · exact ih y hy
theorem Strs.any {l : List Value} {xs : List Str} (h : Strs l xs) : l.any (isTx x) = xs.contains x := by
  induction h with
  | nil => rfl
  | cons _ ih => rw [List.any_cons, ih, List.contains_cons]; show (_ == x || _) = _; rw [show ∀ a b : Str, (a == b) = (b == a) from fun a b => Bool.eq_iff_iff.mpr ⟨fun h => by rw [eq_of_beq h]; exact beq_self_eq_true b, fun h => by rw [eq_of_beq h]; exact beq_self_eq_true a⟩]
theorem q_in_tup {D : Addr} {l : List Value} {xs : List Str} {Q : QV} (S : St w o₀ g L nm vs led s) (hl : Has w.params g led (.tup D l)) (hs : Strs l xs) (h : Q (.bool (xs.contains x)) s) : WCmp w A .In (.str x t) (.ref D) Q s := by
  rw [wcmp]
  refine SeqAt.in_tupleAt (isTx x) (hl.tup S) (fun y hy => hs.eqAt y (by simpa using hy)) ?_
  rw [List.any_toArray, hs.any]; exact h
theorem q_in_list {D : Addr} {l : List Value} {xs : List Str} {Q : QV} (S : St w o₀ g L nm vs led s) (hl : Has w.params g led (.lst D l)) (hs : Strs l xs) (h : Q (.bool (xs.contains x)) s) : WCmp w A .In (.str x t) (.ref D) Q s := by
  rw [wcmp]
  refine SeqAt.in_listAt (isTx x) (hl.list S) (fun y hy => hs.eqAt y (by simpa using hy)) ?_
  rw [List.any_toArray, hs.any]; exact h
theorem St.forget {c : Cell} (S : St w o₀ g L nm vs (c :: led) s) : St w o₀ g L nm vs led s :=
  ⟨S.P, S.ns, S.keep, S.Lg, fun p hp => S.ld p (.tail _ hp), (List.nodup_cons.mp S.nd).2, S.gens, S.os⟩
theorem q_in_tupd {D : Addr} {l : List Value} {xs : List Str} {Q : QV} (S : St w o₀ g L nm vs (.tup D l :: led) s) (hs : Strs l xs) (h : St w o₀ g L nm vs led s → Q (.bool (xs.contains x)) s) : WCmp w A .In (.str x t) (.ref D) Q s :=
  q_in_tup S (.led (.head _)) hs (h S.forget)
theorem ite_not {b : Bool} {P R : Prop} (h : Br b R P) : Br (!b) P R := by rw [br] at h ⊢; cases b <;> simpa using h
-- a goal's head is met, nothing else
end
/- signs as a text -/
noncomputable abbrev tx (l : List Nat) : Str := ⟨l.toArray⟩
theorem tx_add {a b : List Nat} : tx a ++ tx b = tx (a ++ b) := by
  show Str.mk (a.toArray ++ b.toArray) = Str.mk (a ++ b).toArray
  rw [List.append_toArray]
theorem tx_len {a : List Nat} : (tx a).length = a.length := by show (a.toArray).size = _; simp
theorem tx_eq {x : Str} : x = tx x.cps.toList := by cases x; rfl
theorem slice_one {x : Str} {p c : Nat} {cs : List Nat} (h : x.cps.toList.drop p = c :: cs) : p < x.length ∧ Txt.slice x (some (p : Int)) (some ((p : Int) + 1)) = ch c ∧ x.cps.toList.drop (p + 1) = cs := by
  have hp : p < x.cps.toList.length := by
    rcases Nat.lt_or_ge p x.cps.toList.length with q | q
    · exact q
    · rw [List.drop_eq_nil_of_le q] at h; cases h
  have hl : x.cps.toList.length = x.length := by simp [Str.length]
  refine ⟨by lia, ?_, ?_⟩
  · have := slice_closesL (x := x) (i := p) (j := (p : Int) + 1) (by lia) (by lia) (by lia)
    rw [eq_of_beq this]
    have e1 : ((p : Int)).toNat = p := by lia
    have e2 : ((p : Int) + 1 - p).toNat = 1 := by lia
    rw [e1, e2, h]; rfl
  · have : (x.cps.toList.drop p).drop 1 = cs := by rw [h]; rfl
    rw [List.drop_drop] at this; exact this
theorem slice_end {x : Str} {p : Nat} (h : x.cps.toList.drop p = []) : ¬ p < x.length := by
  have hl : x.cps.toList.length = x.length := by simp [Str.length]
  have := List.drop_eq_nil_iff.mp h
  lia
theorem in_lit {x : Str} {c : Nat} {l : List Nat} (hx : x.cps.toList = l) (b : Bool) (h : l.contains c = b) : Txt.contains x (ch c) = b := by
  rw [in_ch, hx, ← h]; simp
theorem eq_lit {x : Str} {c d : Nat} (hx : x = ch d) (b : Bool) (h : (c == d) = b) : (ch c == x) = b := by
  rw [hx, eq_ch, ← h]; by_cases e : c = d <;> simp [e]
end Mine
namespace Mine
theorem dq_mro : mroOf (.type "collections.deque") = pure [.type "collections.deque", .type "object"] := by rw [mroOf_type]; kernel_rfl
theorem dq_lnew : typeLookup (.type "collections.deque") "__new__" = pure (some (.builtin "collections.deque.__new__")) := by rw [typeLookup_type, builtinLookup_eq_fast]; kernel_rfl
theorem dq_nobool : typeLookup (.type "collections.deque") "__bool__" = pure none := by rw [typeLookup_type, builtinLookup_eq_fast]; kernel_rfl
theorem dq_sub : isSubtype (.type "collections.deque") (.type "collections.deque") = pure true := by rw [isSubtype_type]; kernel_rfl
theorem dq_slot_init : Slot "collections.deque" "__init__" "collections.deque.__init__" :=
  .of (owner := "collections.deque") (n := "__init__") (by rw [typeLookup_type, builtinLookup_eq_fast]; kernel_rfl) (by decide +kernel) (by decide +kernel) (by decide +kernel)
    (by first | exact .inl (by decide +kernel) | exact .inr (by decide +kernel)) (by rw [isSubtype_type]; kernel_rfl)
theorem dq_slot_len : Slot "collections.deque" "__len__" "collections.deque.__len__" :=
  .of (owner := "collections.deque") (n := "__len__") (by rw [typeLookup_type, builtinLookup_eq_fast]; kernel_rfl) (by decide +kernel) (by decide +kernel) (by decide +kernel)
    (by first | exact .inl (by decide +kernel) | exact .inr (by decide +kernel)) (by rw [isSubtype_type]; kernel_rfl)
theorem dq_entry_new : entryFor table "collections.deque.__new__" = some Builtin.«collections.deque.__new__» := entryFor_of_tree (by kernel_rfl)
theorem dq_entry_init : entryFor table "collections.deque.__init__" = some Builtin.«collections.deque.__init__» := entryFor_of_tree (by kernel_rfl)
theorem dq_entry_len : entryFor table "collections.deque.__len__" = some Builtin.«collections.deque.__len__» := entryFor_of_tree (by kernel_rfl)
theorem dq_called : TypeCalled "collections.deque" "collections.deque.__new__" "collections.deque.__init__" :=
  ⟨by decide +kernel, by decide +kernel, ⟨_, _, dq_mro⟩, madeBy_type dq_mro dq_lnew (by decide +kernel), by decide +kernel, dq_sub, dq_slot_init⟩
theorem dq_tc : checkTypeCall "collections.deque" ⟨[], []⟩ = pure () := by kernel_rfl
theorem dq_cn : checkBuiltinCall "collections.deque.__new__" ⟨[.type "collections.deque"], []⟩ = pure () := by kernel_rfl
theorem dq_args_init (a : Value) : argsOk "collections.deque.__init__" ⟨[a], []⟩ := by unfold argsOk; kernel_rfl
theorem dq_args_len (a : Value) : argsOk "collections.deque.__len__" ⟨[a], []⟩ := by unfold argsOk; kernel_rfl
/- an empty deque -/
noncomputable def dqO : Obj := { cls := .type "collections.deque", data := .fields #[.none, rawInt 0] }
theorem dq_new : Meets (Builtin.«collections.deque.__new__» ⟨[.type "collections.deque"], []⟩) (fun _ R s => R (.ok (.ret (.ref s.heap.objs.size))) { s with heap := s.heap.push dqO }) := by
  refine Meets.of_wp fun prog w A R s hs => ?_
  unfold Builtin.«collections.deque.__new__» Builtin.Deque.newArgs Builtin.Deque.new
  have hs' := hs
  obtain ⟨hp, g, d, tk, os⟩ := s
  dsimp only
  wp_walk
  refine wpAny_of_eq dq_sub ?_
  refine wpAny_pure ?_
  have h1 : ¬ (#[] : Array Value).size > sizeLine := by rw [sizeLine_eq]; decide
  have h2 : typeHasDict (.type "collections.deque") = false := by decide +kernel
  dsimp only
  rw [if_neg h1, h2]
  simp (config := { iota := false }) only [Bool.false_eq_true, if_false, newObj]
  refine wpAny_bind (wpAny_bind (wpAny_pure (wpAny_bind (wpAny_alloc (wpAny_pure ?_)))))
  exact wpAny_pure ⟨_, rfl, hs⟩
theorem dq_init {a : Addr} : Meets (Builtin.«collections.deque.__init__» ⟨[.ref a], []⟩) (fun _ R s => s.heap.get? a = some dqO ∧ R (.ok (.ret .none)) { s with heap := s.heap.update a (Obj.mapFields (·.setIfInBounds 0 .none)) }) := by
  refine Meets.of_wp fun prog w A R s hs => ?_
  obtain ⟨h1, hs⟩ := hs
  unfold Builtin.«collections.deque.__init__»
  dsimp only
  simp (config := { iota := false }) only [setField, updateField, Builtin.Deque.clear, Builtin.Deque.items, fieldsOf]
  wp_walk
  exact ⟨_, rfl, hs⟩
theorem dq_upd : Obj.mapFields (·.setIfInBounds 0 .none) dqO = dqO := by unfold dqO Obj.mapFields; rfl
section
variable {prog : Program} {w : World} {A : Around} {E : Value → Shared → Prop} {s : Shared}
theorem call_deque {Q : Value → Shared → Prop} (h : ∀ h', h'.get? s.heap.objs.size = some dqO → Heap.ExtBut s.heap.objs.size s.heap h' → Q (.ref s.heap.objs.size) { s with heap := h' }) :
    wpAny (model prog w) A (call (.type "collections.deque") []) Q E s := by
  refine callType_meets (Q₁ := fun v s₁ => v = .ref s.heap.objs.size ∧ s₁ = { s with heap := s.heap.push dqO }) dq_called dq_tc dq_cn dq_entry_new dq_entry_init dq_new ⟨rfl, rfl⟩ ?_
  rintro obj s₁ ⟨rfl, rfl⟩
  have h1 : (s.heap.push dqO).get? s.heap.objs.size = some dqO := Heap.get?_push_size _ rfl
  refine ⟨⟨_, h1, rfl⟩, dq_args_init _, _, dq_init, h1, rfl, h _ ?_ fun b o hb e => ?_⟩
  · rw [Heap.get?_update_self _ h1 rfl, dq_upd]
  · exact (Heap.SameBut.update ..).extBut _ _ hb (Heap.get?_push_of_some _ e)
theorem truthy_deque {a : Addr} {Q : Bool → Shared → Prop} (h1 : s.heap.get? a = some dqO) (h : Q false { s with toks := s.toks + 1 + 1 }) : wpAny (model prog w) A (truthy (.ref a)) Q E s := by
  have hT : s.TypeIs (.ref a) "collections.deque" := ⟨_, h1, rfl⟩
  have key : wpAny (model prog w) A (runValue (.builtin "len" ⟨[.ref a], []⟩)) (fun r s' => r = .int 0 (s.toks + 1) ∧ Q false s') E s := by
    refine wpAny_runValue (codeAny_builtin entry_len ?_)
    rw [Around.under_plainId plain_len _]
    unfold Builtin.«len»
    refine wpAny_bind (m := oneArg "len" _) (wpAny_pure ?_)
    refine wpAny_bind (m := callSpecial? (.ref a) (Str.ofString "__len__")) (wpAny_callSpecial?_slot (name := Str.ofString "__len__") hT dq_slot_len
      (wpAny_call_entry dq_slot_len hT dq_entry_len ?_ (dq_args_len _)))
    unfold Builtin.«collections.deque.__len__» slotArgs Builtin.Deque.size fieldsOf
    wp_walk
    refine ⟨_, rfl, ?_⟩
    refine wpAny_bind (wpAny_holding (wpAny_pure ?_))
    refine wpAny_bind (wpAny_letGo ?_)
    exact wpAny_bind (wpAny_mkInt (wpAny_pure ⟨rfl, h⟩))
  unfold truthy
  first
    | refine wpAny_bind (wpAny_callSpecial?_none (name := Str.ofString "__bool__") hT dq_nobool ?_)
    | refine wpAny_bind (wpAny_pure (wpAny_bind (wpAny_callSpecial?_none (name := Str.ofString "__bool__") hT dq_nobool ?_)))
  first
    | refine wpAny_bind (wpAny_specialOf (name := Str.ofString "__len__") hT dq_slot_len.lookup ?_)
    | refine wpAny_bind (wpAny_pure (wpAny_bind (wpAny_specialOf (name := Str.ofString "__len__") hT dq_slot_len.lookup ?_)))
  first
    | exact wpAny_bind (wpAny_mono key (fun r s' h' => by obtain ⟨rfl, hq⟩ := h'; exact wpAny_pure hq) fun _ _ e => e)
    | exact wpAny_bind (wpAny_pure (wpAny_bind (wpAny_mono key (fun r s' h' => by obtain ⟨rfl, hq⟩ := h'; exact wpAny_pure hq) fun _ _ e => e)))
end
end Mine
namespace Mine
section
variable {w : World} {o₀ : OsState} {g : Heap} {L : Addr} {nm gl : List Str} {vs vs' : List (Option Value)} {led led' : Led} {s s₂ : Shared} {A : Around} {env : Env}
/- a def is entered whose arguments' binding itself lays objects (s₂ is the state behind it) -/
theorem enterG {f : Addr} {fd : FuncData} {oc : Value} {od : Option Addr} {sl : Array (Option Value)} {body : List Stmt} {args : List Value} {kw : List (Str × Value)} {n : Nat} {Q : QV} {g₁ : Heap} {led₁ : Led} (C₁ : S0 w o₀ g₁ led₁ s) (C : S0 w o₀ g led s₂) (hA : Ok A (n + 1))
    (nm gl : List Str) (vs : List (Option Value)) (ho : (KK w.params).lookup f = some ⟨oc, od, .func fd, sl⟩) (hcd : codeIn (KK w.params) fd.code fd.qualname = true) (hbody : fd.body = .stmts body)
    (hbind : ∀ (M : Model) (A : Around) (E : Value → Shared → Prop) (Q : List (Str × Value) → Shared → Prop), Q (bindsOf nm vs) s₂ → wpAny M A (bindArgs fd ⟨args, kw⟩) Q E s) (hp : plainFn fd nm gl = true)
    (k : ∀ env L s', En env L nm gl → L = s₂.heap.objs.size → Ok (A.deeper env) n → St w o₀ g L nm vs led s' →
      WX w (A.deeper env) env body (fun fl s'' => Q (match fl with | .ret v => v | _ => .none) s'') s') :
    WD w A (.ref f) args kw Q s := by
  rw [wd]
  simp only [plainFn, Bool.and_eq_true, decide_eq_true_eq, Bool.not_eq_true'] at hp
  obtain ⟨⟨⟨⟨⟨⟨⟨⟨⟨⟨h1, h2⟩, h3⟩, h4⟩, h5⟩, h6⟩, h7⟩, h8⟩, h9⟩, h10⟩, h11⟩ := hp
  have hK := C₁.P.K.keeps C₁.keep
  refine codeAny_call_function hA.room (hK _ _ ho) rfl h5 h6 hbody (codeRec_of hK hcd) (hbind _ _ _ _ ?_)
  refine wpAny_newFunctionEnv (fun x hx => by simpa using List.all_eq_true.mp h7 x hx) (fun x hx => of_decide_eq_true (List.all_eq_true.mp h1 _ (bindsOf_mem hx))) (fun h₁ hns hsb => ?_) h4
  have hk₁ : ∀ b o, s₂.heap.get? b = some o → h₁.get? b = some o := fun b o e => hsb.extBut b o (Nat.ne_of_lt (Heap.lt_size e)) (Heap.get?_push_of_some _ e)
  refine ⟨(C.P.lim.keeps C.keep).fresh _ hsb, codeAny_func ?_⟩
  have fr : g.get? s₂.heap.objs.size = none := by
    cases q : g.get? s₂.heap.objs.size with
    | none => rfl
    | some o => exact absurd (Heap.lt_size (C.keep _ _ q)) (Nat.lt_irrefl _)
  have z := k (callEnv fd s₂.heap.objs.size f) s₂.heap.objs.size { s₂ with heap := h₁, toks := s₂.toks + (bindsOf nm vs).length } ⟨h4, rfl, fun x hx => of_decide_eq_true (List.all_eq_true.mp h1 x hx), fun x hx => of_decide_eq_true (List.all_eq_true.mp h2 x hx), fun x hx => by simpa using List.all_eq_true.mp h10 x hx, fun x hx => by simpa using List.all_eq_true.mp h11 x hx, h8, h9, h3⟩ rfl hA.deeper
    ⟨C.P, by rw [← bindsOf_vm h3]; exact hns, fun b o e => hk₁ _ _ (C.keep b o e), fr, fun p hp => ⟨(C.ld p hp).1.keeps fun o q => hk₁ _ _ q, Nat.ne_of_lt (C.ld p hp).1.lt, (C.ld p hp).2⟩, C.nd, C.gens, C.os⟩
  rw [wx] at z
  exact wpAny_mono z (fun fl s'' q => q) fun _ _ q => q.elim
theorem S0.tok (C : S0 w o₀ g led s) (t : Nat) : S0 w o₀ g led { s with toks := t } := ⟨C.P, C.keep, C.ld, C.nd, C.gens, C.os⟩
theorem S0.fresh (C : S0 w o₀ g led s) : g.get? s.heap.objs.size = none := by
  cases q : g.get? s.heap.objs.size with
  | none => rfl
  | some o => exact absurd (Heap.lt_size (C.keep _ _ q)) (Nat.lt_irrefl _)
/- a new object -/
theorem S0.alloc (C : S0 w o₀ g led s) (c : Cell) (o : Obj) (hf : o.isFreed = false) (ha : c.addr = s.heap.objs.size) (hc : c.okO w.params o) : S0 w o₀ g (c :: led) { s with heap := s.heap.push o } := by
  refine ⟨C.P, fun b o' e => Heap.get?_push_of_some _ (C.keep b o' e), fun p hp => ?_, ?_, C.gens, C.os⟩
  · rcases List.mem_cons.mp hp with rfl | hp
    · exact ⟨⟨o, by rw [ha]; exact Heap.get?_push_size _ hf, hc⟩, by rw [ha]; exact C.fresh⟩
    · exact ⟨(C.ld p hp).1.push o, (C.ld p hp).2⟩
  · refine List.nodup_cons.mpr ⟨fun q => ?_, C.nd⟩
    obtain ⟨p, hp, e⟩ := List.mem_map.mp q
    have q := (C.ld p hp).1.lt
    have e : p.addr = s.heap.objs.size := e.trans ha
    rw [e] at q
    exact absurd q (Nat.lt_irrefl _)
theorem Ok.under {n : Nat} {C : Addr} {rest : List Value} {kw : List (Str × Value)} (h : Ok A (n + 1)) : Ok (A.under (.builtin "type.__call__" ⟨.ref C :: rest, kw⟩)) n :=
  ⟨h.hd, by have := h.dp; show A.depth + 1 + _ < _; lia, by have := h.un; show A.units + 1 + _ < _; lia⟩
/- a class is called: an instance is laid, __init__ runs on it -/
theorem w_make {C fI : Addr} {args : List Value} {n : Nat} {Q : QV} (an : List Str) (av : List (Option Value)) (C₀ : S0 w o₀ g led s) (hA : Ok A (n + 1)) (hav : av.all (·.isNone) = true) (hm : makesIn (KK w.params) C = true)
    (hi : findIn (KK w.params) (.ref C) "__init__" = some (some (.ref fI))) (hf : typeIn (KK w.params) (.ref fI) = some (.type "function"))
    (h : ∀ A x d s', Ok A n → S0 w o₀ g (.ins x C d :: .dic d an av :: led) s' → WD w A (.ref fI) (.ref x :: args) [] (fun v s'' => v = .none ∧ Q (.ref x) s'') s') : WD w A (.ref C) args [] Q s := by
  rw [wd]
  have X := C₀.P.K.keeps C₀.keep
  obtain ⟨hh, gg, d, t, os⟩ := s
  refine make_core (makes_of X hm) (looks_findIn X hi) (fun self => bind_fn X self hf) (.inl rfl) ?_
  have C1 := C₀.alloc (.dic hh.objs.size an av) emptyDict rfl rfl ⟨fun _ => 0, 0, (congrArg (fun l : List DictEntry => ({ cls := .type "dict", data := .dict l.toArray 0 } : Obj)) (esOf_none (P := w.params) (ns := an) (tk := fun _ => 0) hav)).symm⟩
  have C2 := C1.alloc (.ins (hh.objs.size + 1) C hh.objs.size) (instObj C hh.objs.size) rfl (by show _ = (hh.push emptyDict).objs.size; rw [Heap.size_push]; rfl) rfl
  have z := h _ (hh.objs.size + 1) hh.objs.size _ (hA.under (C := C) (rest := args) (kw := [])) C2
  rw [wd] at z
  refine codeAny_mono z fun r s' q => ?_
  cases r with
  | error e => exact q.elim
  | ok fl => cases fl <;> first | exact q.elim | skip
             exact q
end
end Mine
namespace Mine
/- a run that only looks things up and lays new objects -/
noncomputable def lay {α : Type} (K : Frag) (S : Setting) : Sem α → Nat → Option (List Obj × α)
  | .pure a, _ => some ([], a)
  | .rule _ k, b => lay K S (k ()) b
  | .point _ k, b => lay K S (k ()) b
  | .ask k, b => lay K S (k S) b
  | .load a _ k, b => (K.lookup a).bind fun o => lay K S (k o) b
  | .alloc o k, b => (lay K S (k b) (b + 1)).map fun r => (o :: r.1, r.2)
  | _, _ => none
theorem wp_lay {α : Type} {K : Frag} {M : Model} {A : Around} {E : Value → Shared → Prop} {Q : α → Shared → Prop} {a : α} :
    ∀ (t : Sem α) (s : Shared) (l : List Obj), K.In s.heap → lay K ⟨M.prog, M.w.params⟩ t s.heap.objs.size = some (l, a) → Q a { s with heap := l.foldl Heap.push s.heap } → wpAny M A t Q E s := by
  intro t
  induction t with
  | pure b => intro s l X e q; cases e; exact wpAny_pure q
  | rule _ k ih => intro s l X e q Γ p hΓ; exact ih () s l X e q Γ p hΓ
  | point _ k ih => intro s l X e q Γ p hΓ; exact ih () s l X e q Γ p hΓ
  | ask k ih => intro s l X e q Γ p hΓ; exact ih _ s l X e q Γ p hΓ
  | load a' _ k ih =>
    intro s l X e q Γ p hΓ
    obtain ⟨ob, ho, e⟩ := Option.bind_eq_some_iff.mp (show (K.lookup a').bind (fun o => lay K _ (k o) _) = some (l, a) from e)
    exact ⟨ob, X _ _ ho, ih ob s l X e q Γ p hΓ⟩
  | alloc ob k ih =>
    intro s l X e q
    obtain ⟨r, hr, e⟩ := Option.map_eq_some_iff.mp (show ((lay K _ (k s.heap.objs.size) (s.heap.objs.size + 1)).map fun r => (ob :: r.1, r.2)) = some (l, a) from e)
    obtain ⟨e1, e2⟩ := Prod.mk.inj e
    subst e1
    subst e2
    show wpAny M A (alloc ob >>= k) Q E s
    refine wpAny_bind (wpAny_alloc (ih _ { s with heap := s.heap.push ob } r.1 (X.keeps fun b o z => Heap.get?_push_of_some _ z) ?_ q))
    show lay K _ _ (s.heap.push ob).objs.size = _
    rw [Heap.size_push, hr]
  | _ => intro s l X e; cases e
end Mine
namespace Mine
theorem io_l1 {w : World} {b : Nat} : lay (KK w.params) ⟨pg, w.params⟩ (checkBuiltinCall "object.__new__" ⟨[.ref 694], []⟩) b = some ([], ()) := by kernel_rfl
theorem io_l2 {w : World} {b : Nat} : lay (KK w.params) ⟨pg, w.params⟩ (Builtin.«object.__new__» ⟨[.ref 694], []⟩) b = some ([emptyDict, instObj 694 b], .done (.ret (.ref (b + 1)))) := by kernel_rfl
theorem io_l4 {w : World} : findCls (KK w.params) (.ref 694) (.type "type") "__new__" = some (.get (.builtin "staticmethod.__get__") (.ref 191) .none (.ref 694)) := by kernel_rfl
theorem io_l5 {w : World} : readsIn (KK w.params) 694 (.type "type") = true := by kernel_rfl
theorem io_l6 {w : World} : recIn (KK w.params) 191 "staticmethod" = some [.ref 187] := by kernel_rfl
section
variable {w : World} {o₀ : OsState} {g : Heap} {L : Addr} {nm gl : List Str} {vs vs' : List (Option Value)} {led led' : Led} {s s₂ : Shared} {A : Around} {env : Env}
theorem io_new {R : Result → Shared → Prop} (X : (KK w.params).In s.heap)
    (hq : R (.ok (.ret (.ref (s.heap.objs.size + 1)))) { s with heap := (s.heap.push emptyDict).push (instObj 694 s.heap.objs.size) }) :
    codeAny (MM w) A (.call (.builtin "object.__new__") ⟨[.ref 694], []⟩) R s := by
  have F := PySem.F.objNew
  refine codeAny_call_builtin_code (Code.quiet_builtin _ F.quiet) ?_
  refine wp_lay _ _ _ X io_l1 ?_
  refine codeAny_builtin F.entry ?_
  exact wp_lay _ _ _ X io_l2 hq
theorem wm_objNew {Q : QM} (S : St w o₀ g L nm vs led s) (h : ∀ s, St w o₀ g L nm vs led s → Q (.builtin "object.__new__") [] s) : WM w A (.type "object") "__new__" Q s := by
  rw [wm]; intro pl
  have X := S.P.K.keeps S.keep
  have hs : Manifest.isStub "object" = false := by decide +kernel
  have hstub : opaqueClassAbove (.type "object") = pure none := by unfold opaqueClassAbove; dsimp only; rw [hs]; rfl
  have ht : typeOf (.type "object") = pure (.type "type") := by kernel_rfl
  have L0 : Looks (MM w) s.heap (typeOf (.type "object")) (.type "type") := Looks.of_pure ht
  have hg : findIn (KK w.params) (.type "type") "__getattribute__" = some (some (.builtin "type.__getattribute__")) := type_tga
  have e : findCls (KK w.params) (.type "object") (.type "type") "__new__" = some (.val (.builtin "object.__new__")) := by kernel_rfl
  have hh : handedIn (.builtin "object.__new__") = true := by decide +kernel
  unfold getMethod specialOf
  refine wpAny_bind (wpAny_bind ?_)
  with_reducible refine L0.here ?_
  refine (looks_findIn X hg).here ?_
  dsimp only
  rw [if_pos canon_tga]
  refine wpAny_bind (wpAny_mono (Q := fun v => (fun fx s' => Q fx.1 fx.2 s') (v, [])) (E := FF) ?_ (fun _ _ z => wpAny_pure z) fun _ _ z => z)
  have LO : Looks (MM w) s.heap (opaqueClassAbove (.type "object")) none := Looks.of_pure hstub
  exact cls_open X LO L0 hg (looks_hook X (r := none) (by rfl)) (by show subIn (KK w.params) _ _ = _; rfl) e
    (wpAny_pure (by show wpAny _ _ (handedOut _) _ _ _; rw [handedOut_of hh]; exact wpAny_pure (h _ (S.tok _))))
noncomputable def clsOk (K : Frag) (C : Addr) : Bool := match K.lookup C with
  | some ⟨_, _, .cls cd, _⟩ => !cd.mro.isEmpty
  | _ => false
/- a StringIO is made: its own __new__ (a def of the program's) lays the instance -/
theorem io_make {args : List Value} {n : Nat} {Q : QV} (C₀ : S0 w o₀ g led s) (hA : Ok A (n + 1))
    (hnew : ∀ A s Q, Ok A n → S0 w o₀ g led s → (∀ x d s', S0 w o₀ g (.ins x 694 d :: .dic d ioNm [none, none, none] :: led) s' → Q (.ref x) s') → WD w A (.ref 187) (.ref 694 :: args) [] Q s)
    (h : ∀ A x d s', Ok A n → S0 w o₀ g (.ins x 694 d :: .dic d ioNm [none, none, none] :: led) s' → WD w A (.ref 464) (.ref x :: args) [] (fun v s'' => v = .none ∧ Q (.ref x) s'') s') : WD w A (.ref 694) args [] Q s := by
  rw [wd]
  have X := C₀.P.K.keeps C₀.keep
  have hcall : Looks (MM w) s.heap (specialOf (.ref 694) "__call__") (some (.builtin "type.__call__")) := looks_specialIn X (by kernel_rfl)
  have typ : Looks (MM w) s.heap (isInstance (.ref 694) (.type "type")) true := looks_instIn X (by kernel_rfl)
  have hok : clsOk (KK w.params) 694 = true := by kernel_rfl
  unfold clsOk at hok
  split at hok
  · rename_i oc od cd sl ho
    have e4 : cd.mro.isEmpty = false := by simpa using hok
    have hC := X _ _ ho
    obtain ⟨hh, gg, d, t, os⟩ := s
    refine codeAny_of_tree ?_
    show wpAny _ _ (callAny (.ref 694) _) _ _ _
    refine nd_load hC ?_
    show wpAny _ _ (callAny.viaDunder (.ref 694) _) _ _ _
    unfold callAny.viaDunder
    refine wpAny_bind (hcall.at ?_)
    dsimp only
    rw [tc_bind]
    refine wpAny_bind (wpAny_pure (wpAny_bind (wpAny_pure ?_)))
    refine wpAny_pure (a := Fin.again (.call (.builtin "type.__call__") ⟨.ref 694 :: args, []⟩)) (And.intro rfl ?_)
    refine codeAny_call_builtin_at (Code.quiet_builtin _ (by decide +kernel)) entry_typeCall ?_
    with_reducible refine check_slot tc_kind tc_split typ (tc_args _ _ _) ?_
    unfold Builtin.«type.__call__»
    have hm : Looks (MM w) hh (mroOf (.ref 694)) cd.mro := ((Looks.ld (part := none) hC).andThen .now).andThen .now
    have hmade : Looks (MM w) hh (Bind.madeBy (.ref 694)) none := Looks.of_peek X (by kernel_rfl)
    repeat (first | simp only [e4, Bool.false_eq_true, if_false] | with_reducible refine wpAny_call ?_ | refine cls_bind (s := ⟨hh, gg, d, t, os⟩) X io_l5 io_l4 (wpAny_call (sm_get (s := ⟨hh, gg, d, t + 1, os⟩) X io_l6 (handed_on rfl ?_))) | lk)
    have z := hnew _ ⟨hh, gg, d, t + 1, os⟩ (fun v s' => ∃ x dx, v = .ref x ∧ S0 w o₀ g (.ins x 694 dx :: .dic dx ioNm [none, none, none] :: led) s') (hA.under (C := 694) (rest := args) (kw := [])) (C₀.tok (t + 1)) (fun x dx _ C => ⟨x, dx, rfl, C⟩)
    rw [wd] at z
    refine codeAny_mono z fun r s' q => ?_
    cases r with
    | error e => exact q.elim
    | ok fl =>
      cases fl <;> first | exact q.elim | skip
      obtain ⟨x, dx, rfl, C⟩ := q
      have X' := C.P.K.keeps C.keep
      obtain ⟨o, hx, rfl⟩ := (C.ld _ (.head _)).1
      have hx : s'.heap.get? x = some (insO 694 dx) := hx
      have z := h _ x dx s' (hA.under (C := 694) (rest := args) (kw := [])) C
      rw [wd] at z
      clear C₀ C hcall typ hok hC hm hmade X ho
      obtain ⟨hh', gg', d', t', os'⟩ := s'
      have t1 : Looks (MM w) hh' (typeOf (.ref x)) (.ref 694) := (Looks.ld hx).andThen .now
      have s1 : Looks (MM w) hh' (isSubtype (.ref 694) (.ref 694)) true := Looks.of_peek X' (by kernel_rfl)
      have i1 : Looks (MM w) hh' (typeLookup (.ref 694) "__init__") (some (.ref 464)) := looks_findIn X' (by kernel_rfl)
      have b1 : Looks (MM w) hh' (bindSpecial (.ref 464) (.ref x)) (.ref 464, [.ref x]) := bind_fn X' _ (by kernel_rfl)
      dsimp only
      unfold isInstance callSpecial? specialOf
      repeat (first | with_reducible refine wpAny_call ?_ | lk)
      refine codeAny_mono z fun r s' q => ?_
      cases r with
      | error e => exact q.elim
      | ok fl =>
        cases fl <;> first | exact q.elim | skip
        obtain ⟨rfl, q⟩ := q
        exact wpAny_pure (wpAny_pure q)
  · cases hok
theorem k_objNew {Q : QV} (S : St w o₀ g L nm vs led s) (h : ∀ s x d, St w o₀ g L nm vs (.ins x 694 d :: .dic d ioNm [none, none, none] :: led) s → Q (.ref x) s) : WC w A (.builtin "object.__new__") [.ref 694] [] Q s := by
  rw [wc]
  refine wpAny_call (io_new (S.P.K.keeps S.keep) (h _ _ s.heap.objs.size ?_))
  have C1 := S.alloc (.dic s.heap.objs.size ioNm [none, none, none]) emptyDict rfl rfl ⟨fun _ => 0, 0, rfl⟩
  exact C1.alloc (.ins (s.heap.objs.size + 1) 694 s.heap.objs.size) (instObj 694 s.heap.objs.size) rfl (by show _ = (s.heap.push emptyDict).objs.size; rw [Heap.size_push]; rfl) rfl
theorem q_isn_self {a : Addr} {Q : QV} (h : Q (.bool false) s) : WCmp w A .IsNot (.ref a) (.ref a) Q s := by rw [wcmp]; exact wpAny_isNot_ref_self h
noncomputable def clsVal (K : Frag) (C : Addr) : Bool := (K.lookup C).any fun o => o.cls == .type "type"
theorem q_isn_cls {a b : Addr} {Q : QV} (S : St w o₀ g L nm vs led s) (hab : Nat.beq a b = false) (ha : clsVal (KK w.params) a = true) (hb : clsVal (KK w.params) b = true) (h : Q (.bool true) s) : WCmp w A .IsNot (.ref a) (.ref b) Q s := by
  rw [wcmp]
  obtain ⟨oa, h1, e1⟩ := any_some ha
  obtain ⟨ob, h2, e2⟩ := any_some hb
  have X := S.P.K.keeps S.keep
  refine wpAny_isNot_ref_other (fun e => ?_) (X _ _ h1) (X _ _ h2) (fun e => ?_) h
  · subst e; rw [Nat.beq_refl] at hab; cases hab
  · rw [e] at e1; cases e1
theorem k_deque {Q : QV} (S : St w o₀ g L nm vs led s) (h : ∀ s a, St w o₀ g L nm vs (.raw a dqO :: led) s → Q (.ref a) s) : WC w A (.type "collections.deque") [] [] Q s := by
  rw [wc]
  refine call_deque fun h' h1 h2 => h _ s.heap.objs.size ?_
  have S' := S.more (s' := { s with heap := h' }) (fun b o e => h2 b o (Nat.ne_of_lt (Heap.lt_size e)) e) rfl rfl
  refine ⟨S'.P, S'.ns, S'.keep, S'.Lg, fun p hp => ?_, List.nodup_cons.mpr ⟨S.none_at (Nat.le_refl _), S.nd⟩, S'.gens, S'.os⟩
  rcases List.mem_cons.mp hp with rfl | hp
  · exact ⟨⟨dqO, h1, rfl⟩, Nat.ne_of_gt S.ns.lt, S.fresh⟩
  · exact S'.ld p hp
theorem t_deque {a : Addr} {Q : QB} (S : St w o₀ g L nm vs led s) (hd : Has w.params g led (.raw a dqO)) (h : ∀ s, St w o₀ g L nm vs led s → Q false s) : WTru w A (.ref a) Q s := by
  rw [wtru]
  obtain ⟨o, h1, rfl⟩ := hd.at S
  exact truthy_deque h1 (h _ (S.tok _))
end
end Mine
namespace Mine
section
variable {w : World} {o₀ : OsState} {g : Heap} {L : Addr} {nm gl : List Str} {vs vs' : List (Option Value)} {led led' : Led} {s s₂ : Shared} {A : Around} {env : Env}
/- some objects are forgotten -/
theorem S0.thin (C : S0 w o₀ g led s) (h : led'.Sublist led) : S0 w o₀ g led' s := ⟨C.P, C.keep, fun p hp => C.ld p (h.subset hp), C.nd.sublist (h.map _), C.gens, C.os⟩
theorem St.thin (S : St w o₀ g L nm vs led s) (h : led'.Sublist led) : St w o₀ g L nm vs led' s := ⟨S.P, S.ns, S.keep, S.Lg, fun p hp => S.ld p (h.subset hp), S.nd.sublist (h.map _), S.gens, S.os⟩
theorem S0.perm (C : S0 w o₀ g led s) (h : led.Perm led') : S0 w o₀ g led' s := ⟨C.P, C.keep, fun p hp => C.ld p (h.mem_iff.mpr hp), (h.map _).nodup_iff.mp C.nd, C.gens, C.os⟩
theorem St.perm (S : St w o₀ g L nm vs led s) (h : led.Perm led') : St w o₀ g L nm vs led' s := ⟨S.P, S.ns, S.keep, S.Lg, fun p hp => S.ld p (h.mem_iff.mpr hp), (h.map _).nodup_iff.mp S.nd, S.gens, S.os⟩
/- chosen objects, in a chosen order -/
theorem St.only {sub rest : Led} (S : St w o₀ g L nm vs led s) (h : Picks sub led rest) : St w o₀ g L nm vs sub s := (S.perm h.perm).thin (List.sublist_append_left _ _)
end
end Mine
section
open PySem.Builtin
namespace Mine
noncomputable abbrev leadF : Str := ⟨#[34, 37, 115, 34, 44, 32, 108, 105, 110, 101, 32, 37, 100, 58, 32]⟩
theorem leadF_eq : Str.ofString "\"%s\", line %d: " = leadF := by decide +kernel
theorem lead_str {b : Addr} {t u v : Tok} {x : Str} {n : Int} (hx : x.length ≤ 1000000) (hn : 0 ≤ n) (hm : n < 10 ^ 10) :
    Meets («str.__mod__» ⟨[.str leadF t, .ref b], []⟩) (fun _ R s => IsTup s.heap b #[.str x u, .int n v] ∧ ∀ t' k, R (.ok (.ret (.str (Str.ofString "\"" ++ x ++ Str.ofString "\", line " ++ Str.ofString (toString n) ++ Str.ofString ": ") t'))) { s with toks := k }) := by
  kpt_run
theorem strOf_none {prog : Program} {w : World} {A : Around} {E : Value → Shared → Prop} {s : Shared} {Q : Value → Shared → Prop} (h : Q (.str (Str.ofString "None") s.toks) { s with toks := s.toks + 1 }) : wpAny (model prog w) A (PySem.Builtin.Str.strOf .none) Q E s :=
  wpAny_strOf_gives rfl (typeIs_none s) F.slot_NoneType_str F.slot_NoneType_repr F.entry_NoneType_repr (F.args_NoneType_repr_1 _) gives_none_repr h
local macro_rules | `(tactic| kpt_conv) => `(tactic| first
  | (refine wpAny_bind ?_; kpc_if; refine strOf_none ?_; refine wpAny_bind (wpAny_of_eq (a := some _) rfl ?_))
  | (refine wpAny_bind (strOf_none ?_); refine wpAny_bind (wpAny_of_eq (a := some _) rfl ?_)))
theorem lead_none {b : Addr} {t v : Tok} {n : Int} (hn : 0 ≤ n) (hm : n < 10 ^ 10) :
    Meets («str.__mod__» ⟨[.str leadF t, .ref b], []⟩) (fun _ R s => IsTup s.heap b #[.none, .int n v] ∧ ∀ t' k, R (.ok (.ret (.str (Str.ofString "\"" ++ Str.ofString "None" ++ Str.ofString "\", line " ++ Str.ofString (toString n) ++ Str.ofString ": ") t'))) { s with toks := k }) := by
  kpt_run
end Mine
end
namespace Mine
/- a file's name as a value, and as it is shown -/
inductive Fil : Value → Str → Prop
  | none : Fil .none (Str.ofString "None")
  | some {x t} : x.length ≤ 1000000 → Fil (.str x t) x
noncomputable def leadT (f : Str) (n : Int) : Str := Str.ofString "\"" ++ f ++ Str.ofString "\", line " ++ Str.ofString (toString n) ++ Str.ofString ": "
section
variable {w : World} {o₀ : OsState} {g : Heap} {L : Addr} {nm gl : List Str} {vs vs' : List (Option Value)} {led led' : Led} {s s₂ : Shared} {A : Around} {env : Env}
theorem b_lead {D : Addr} {inf : Value} {f : Str} {n : Int} {t v : Tok} {Q : QV} (S : St w o₀ g L nm vs (.tup D [inf, .int n v] :: led) s) (hf : Fil inf f) (hn : 0 ≤ n) (hm : n < 10 ^ 10)
    (h : ∀ s t, St w o₀ g L nm vs led s → Q (.str (leadT f n) t) s) : WBin w A .Mod (.str (Str.ofString "\"%s\", line %d: ") t) (.ref D) Q s := by
  rw [wbin, leadF_eq]
  have ht : IsTup s.heap D #[inf, .int n v] := by
    obtain ⟨o, h1, rfl⟩ := (S.ld _ (.head _)).1
    exact ⟨_, h1, rfl, 0, rfl⟩
  have hT : s.TypeIs (.ref D) "tuple" := by
    obtain ⟨o, ho, hc, _⟩ := ht
    exact ⟨o, ho, hc⟩
  cases hf with
  | none =>
    exact KPt.bin_left (T := "str") (U := "tuple") (op := .Mod) (by decide) (typeIs_str s leadF t) hT F.fills_str_mod KPt.fills_tuple F.slot_str_mod
      (call_meets F.slot_str_mod (typeIs_str s leadF t) F.entry_str_mod (F.args_str_mod_2 _ _) (lead_none hn hm) ⟨ht, fun t' k => ⟨(fun e => nomatch e), h _ _ (S.forget.tok k)⟩⟩)
  | some hx =>
    exact KPt.bin_left (T := "str") (U := "tuple") (op := .Mod) (by decide) (typeIs_str s leadF t) hT F.fills_str_mod KPt.fills_tuple F.slot_str_mod
      (call_meets F.slot_str_mod (typeIs_str s leadF t) F.entry_str_mod (F.args_str_mod_2 _ _) (lead_str hx hn hm) ⟨ht, fun t' k => ⟨(fun e => nomatch e), h _ _ (S.forget.tok k)⟩⟩)
end
end Mine
namespace Mine
section
variable {w : World} {o₀ : OsState} {g : Heap} {L : Addr} {nm gl : List Str} {vs vs' : List (Option Value)} {led led' : Led} {s s₂ : Shared} {A : Around} {env : Env}
variable {a b : Int} {x y z : Str} {t u v : Tok}
theorem t_list {D : Addr} {l : List Value} {Q : QB} (S : St w o₀ g L nm vs led s) (hl : Has w.params g led (.lst D l)) (hz : l.length ≤ 1000000) (h : ∀ s, St w o₀ g L nm vs led s → Q (!l.isEmpty) s) : WTru w A (.ref D) Q s := by
  rw [wtru]
  refine wpAny_truthy_list (hl.list S) (by rw [List.size_toArray]; lia) ?_
  have e : l.toArray.isEmpty = l.isEmpty := by cases l <;> rfl
  rw [e]; exact h _ (S.tok _)
theorem k_len_tup {D : Addr} {l : List Value} {Q : QV} (S : St w o₀ g L nm vs led s) (hl : Has w.params g led (.tup D l)) (hz : Nat.ble l.length 100000 = true) (h : ∀ s t, St w o₀ g L nm vs led s → Q (.int l.length t) s) : WC w A (.builtin "len") [.ref D] [] Q s := by
  rw [wc]
  refine PyProof.Rows.len_tuple (hl.tup S) (by rw [List.size_toArray]; have := Nat.le_of_ble_eq_true hz; lia) ?_
  rw [List.size_toArray]; exact h _ _ ((S.tok (s.toks + 1)).tok _)
/- the entries as the library's pairs -/
noncomputable def tabVals : List DictEntry → List (Str × Int) → List (Str × Value)
  | e :: es, kv :: kvs => (kv.1, e.val) :: tabVals es kvs
  | _, _ => []
theorem tabVals_c {e es kv kvs} : tabVals (e :: es) (kv :: kvs) = (kv.1, e.val) :: tabVals es kvs := rfl
theorem tabVals_0 {kvs} : tabVals [] kvs = [] := rfl
theorem tabVals_00 {e es} : tabVals (e :: es) [] = [] := rfl
theorem TabEs.pairs {es : List DictEntry} {kvs : List (Str × Int)} (h : TabEs w.params es kvs) : Pairs (strKind pg w) es (tabVals es kvs) ∧ (tabVals es kvs).map (·.1) = kvs.map (·.1) ∧ ∀ e ∈ es, ∃ k, (strKind pg w).is k e.key = true ∧ e.hash = (strKind pg w).hash k := by
  induction h with
  | nil => exact ⟨.nil, rfl, fun _ h => nomatch h⟩
  | @cons e kv es kvs h _ ih =>
    obtain ⟨h1, ⟨tk, h2⟩, h3⟩ := h
    refine ⟨.cons (by rw [h2]; exact strKind_is pg w kv.1 tk) rfl ih.1, by show _ :: _ = _ :: _; rw [ih.2.1], fun e' he => ?_⟩
    rcases List.mem_cons.mp he with rfl | he
    · exact ⟨kv.1, by rw [h2]; exact strKind_is pg w kv.1 tk, h1.trans rfl⟩
    · exact ih.2.2 e' he
theorem tab_dict {D : Addr} {kvs : List (Str × Int)} (S : St w o₀ g L nm vs led s) (hd : Has w.params g led (.tab D kvs)) : ∃ es n, s.heap.get? D = some { cls := .type "dict", data := .dict es.toArray n } ∧ TabEs w.params es kvs ∧ (D == sysModules) = false ∧ s.heap.DictOf (strKind pg w) D (tabVals es kvs) := by
  obtain ⟨o, h1, h2, h3, es, n, rfl, h4⟩ := hd.at S
  obtain ⟨p1, p2, p3⟩ := h4.pairs
  exact ⟨es, n, h1, h4, h2, _, es.toArray, n, h1, ⟨rfl, rfl, rfl⟩, rfl, fun e he => p3 e (List.mem_toArray.mp he), p1, by rw [p2]; exact h3⟩
theorem t_tab0 {D : Addr} {Q : QB} (S : St w o₀ g L nm vs led s) (hd : Has w.params g led (.tab D [])) (h : ∀ s, St w o₀ g L nm vs led s → Q false s) : WTru w A (.ref D) Q s := by
  rw [wtru]
  obtain ⟨es, n, h1, h2, h3, h4⟩ := tab_dict S hd
  cases h2
  exact wpAny_truthy_dict h3 h4 (by decide) (h _ (S.tok _))
theorem valueAt_tab {k : Str} {es : List DictEntry} {kvs : List (Str × Int)} (h : TabEs w.params es kvs) : match kvs.lookup k with
    | none => valueAt (tabVals es kvs) k = none
    | some n => ∃ t, valueAt (tabVals es kvs) k = some (.int n t) := by
  induction h with
  | nil => rfl
  | @cons e kv es kvs h _ ih =>
    obtain ⟨h1, h2, tv, h3⟩ := h
    obtain ⟨kk, n⟩ := kv
    unfold valueAt
    show match List.lookup k ((kk, n) :: kvs) with
      | none => _
      | some m => _
    by_cases e1 : k = kk
    · subst e1
      simp only [List.lookup, beq_self_eq_true]
      exact ⟨tv, by simp [tabVals_c, tabVals_0, tabVals_00, h3]⟩
    · have e2 : (k == kk) = false := beq_eq_false_iff_ne.mpr e1
      simp only [List.lookup, e2]
      unfold valueAt at ih
      have e3 : ¬ kk = k := fun q => e1 q.symm
      simpa [tabVals_c, tabVals_0, tabVals_00, List.find?_cons, e3] using ih
theorem q_in_tab {D : Addr} {kvs : List (Str × Int)} {Q : QV} (S : St w o₀ g L nm vs led s) (hd : Has w.params g led (.tab D kvs)) (h : ∀ s, St w o₀ g L nm vs led s → Q (.bool (kvs.lookup x).isSome) s) : WCmp w A .In (.str x t) (.ref D) Q s := by
  rw [wcmp]
  obtain ⟨es, n, h1, h2, h3, h4⟩ := tab_dict S hd
  refine wpAny_in_of (k := x) (strKind_is pg w x t) h3 h4.mapOf ?_
  have := valueAt_tab (k := x) h2
  have e : (valueAt (tabVals es kvs) x).isSome = (kvs.lookup x).isSome := by
    cases q : kvs.lookup x with
    | none => rw [q] at this; rw [this]; rfl
    | some m => rw [q] at this; obtain ⟨tv, this⟩ := this; rw [this]; rfl
  rw [e]; exact h _ (S.tok _)
theorem q_nin_tab {D : Addr} {kvs : List (Str × Int)} {Q : QV} (S : St w o₀ g L nm vs led s) (hd : Has w.params g led (.tab D kvs)) (h : ∀ s, St w o₀ g L nm vs led s → Q (.bool (!(kvs.lookup x).isSome)) s) : WCmp w A .NotIn (.str x t) (.ref D) Q s := by
  rw [wcmp]
  obtain ⟨es, n, h1, h2, h3, h4⟩ := tab_dict S hd
  refine wpAny_notIn_of (k := x) (strKind_is pg w x t) h3 h4.mapOf ?_
  have := valueAt_tab (k := x) h2
  have e : (valueAt (tabVals es kvs) x).isSome = (kvs.lookup x).isSome := by
    cases q : kvs.lookup x with
    | none => rw [q] at this; rw [this]; rfl
    | some m => rw [q] at this; obtain ⟨tv, this⟩ := this; rw [this]; rfl
  rw [e]; exact h _ (S.tok _)
end
end Mine
namespace Mine
/- a value that is this whole number -/
inductive IsNum : List (Str × Value) → List (Str × Int) → Prop
  | nil : IsNum [] []
  | cons {x n t a b} : IsNum a b → IsNum ((x, .int n t) :: a) ((x, n) :: b)
theorem IsNum.snoc {a b x n t} (h : IsNum a b) : IsNum (a ++ [(x, .int n t)]) (b ++ [(x, n)]) := by
  induction h with
  | nil => exact .cons .nil
  | cons _ ih => exact .cons ih
theorem IsNum.keys {a b} (h : IsNum a b) : a.map (·.1) = b.map (·.1) := by
  induction h with
  | nil => rfl
  | cons _ ih => show _ :: _ = _ :: _; rw [ih]
section
variable {w : World} {o₀ : OsState} {g : Heap} {L : Addr} {nm gl : List Str} {vs vs' : List (Option Value)} {led led' : Led} {s s₂ : Shared} {A : Around} {env : Env}
variable {a b : Int} {x y z : Str} {t u v : Tok}
theorem TabEs.num {es : List DictEntry} {kvs : List (Str × Int)} (h : TabEs w.params es kvs) : IsNum (tabVals es kvs) kvs := by
  induction h with
  | nil => exact .nil
  | @cons e kv es kvs h _ ih =>
    obtain ⟨h1, h2, tv, h3⟩ := h
    obtain ⟨k, n⟩ := kv
    show IsNum ((k, e.val) :: _) _
    rw [h3]; exact .cons ih
theorem tabEs_of {es : List DictEntry} {kvs : List (Str × Value)} {kns : List (Str × Int)} (h : Pairs (strKind pg w) es kvs) (hk : ∀ e ∈ es, ∃ k, (strKind pg w).is k e.key = true ∧ e.hash = (strKind pg w).hash k) (hn : IsNum kvs kns) : TabEs w.params es kns := by
  induction h generalizing kns with
  | nil => cases hn; exact .nil
  | @cons e kv es kvs h1 h2 _ ih =>
    cases hn with
    | @cons x n t a b hn =>
      obtain ⟨tk, h3⟩ := Value.isStrOf_shape (x := x) h1
      obtain ⟨k, q1, q2⟩ := hk e (.head _)
      have : k = x := Value.isStrOf_inj _ _ _ q1 h1
      subst this
      exact .cons ⟨q2.trans rfl, ⟨tk, h3⟩, ⟨t, h2⟩⟩ (ih (fun e he => hk e (.tail _ he)) hn)
theorem tab_of {D : Addr} {h : Heap} {kvs : List (Str × Value)} {kns : List (Str × Int)} (hd : h.DictOf (strKind pg w) D kvs) (hn : IsNum kvs kns) (hs : (D == sysModules) = false) : (Cell.tab D kns).ok w.params h := by
  obtain ⟨o, es, ep, h1, ⟨e1, e2, e3⟩, h3, h4, h5, h6⟩ := hd
  refine ⟨o, h1, hs, by rw [← hn.keys]; exact h6, es.toList, ep, ?_, tabEs_of h5 (fun e he => h4 e (Array.mem_toList_iff.mp he)) hn⟩
  obtain ⟨c, d, dt, sl⟩ := o
  simp only at e1 e2 e3 h3
  subst e1 e2 e3 h3
  simp
theorem i_tab {D : Addr} {kvs : List (Str × Int)} {n : Int} {Q : QU} (S : St w o₀ g L nm vs led s) (U : UpL (.tab D kvs) (.tab D (kvs ++ [(x, n)])) led led') (hk : kvs.lookup x = none) (hz : kvs.length ≤ 1000000)
    (h : ∀ s, St w o₀ g L nm vs led' s → Q () s) : WSetI w A (.ref D) (.str x t) (.int n u) Q s := by
  rw [wseti]
  obtain ⟨es, m, h1, h2, h3, h4⟩ := tab_dict S (.led U.mem)
  have hv := valueAt_tab (k := x) h2
  rw [hk] at hv
  refine wpAny_setItem_pairs (k := x) (strKind_is pg w x t) h4 (fun h' hd hs => h _ ?_) (by
    have := h2.num.keys
    have := congrArg List.length this
    simp only [List.length_map] at this
    rw [this, sizeLine_eq]; lia)
  rw [stored_absent hv] at hd
  exact S.at (s' := { s with heap := h', toks := s.toks + 1 }) U rfl hs.extBut (tab_of hd h2.num.snoc h3) rfl rfl
theorem s_tab {value slice : Expr} {D : Addr} {kvs : List (Str × Int)} {n : Int} {Q : QV} (S : St w o₀ g L nm vs led s) (hd : Has w.params g led (.tab D kvs)) (hs : noSl slice = true) (hk : kvs.lookup x = some n)
    (h : ∀ s t, St w o₀ g L nm vs led s → Q (.int n t) s) : WSub w A value slice (.ref D) (.str x t) Q s := by
  rw [wsub]
  obtain ⟨es, m, h1, h2, h3, h4⟩ := tab_dict S hd
  have hv := valueAt_tab (k := x) h2
  rw [hk] at hv
  obtain ⟨tv, hv⟩ := hv
  exact tail_any (T := "dict") ⟨_, h1, rfl⟩ slot_dict_getitem.lookup (wpAny_getItem_of (k := x) (strKind_is pg w x t) h4.mapOf hv (h _ _ (S.tok _))) (noSl_sub hs)
end
end Mine
namespace Mine
section
variable {w : World} {o₀ : OsState} {g : Heap} {L : Addr} {nm gl : List Str} {vs vs' : List (Option Value)} {led led' : Led} {s s₂ : Shared} {A : Around} {env : Env}
variable {a b : Int} {x y z : Str} {t u v : Tok}
theorem k_split2 {Q : QV} (S : St w o₀ g L nm vs led s) (hy : (y.length == 0) = false) (hx : x.length ≤ 100000)
    (h : ∀ s D l, L < D → Strs l (Txt.split x y) → St w o₀ g L nm vs (.lst D l :: led) s → Q (.ref D) s) : WC w A (.builtin "str.split") [.str x t, .str y u] [] Q s :=
  k_split S hy (by rw [sizeLine_eq]; lia) (by
    rw [length_partsBetween, sizeLine_eq]
    have := StrLaws.occ_length_le x y 0 x.length (x.length + 1)
    lia) h
/- the frame's values and the ledger get names -/
theorem with_vs {G : Prop} (S : St w o₀ g L nm vs led s) (k : ∀ vs0 led0, vs0 = vs → led0 = led → St w o₀ g L nm vs0 led0 s → G) : G := k vs led rfl rfl S
end
theorem Strs.snoc {l xs c t} (h : Strs l xs) : Strs (l ++ [.str c t]) (xs ++ [c]) := by
  induction h with
  | nil => exact .cons .nil
  | cons _ ih => exact .cons ih
theorem Strs.length {l xs} (h : Strs l xs) : l.length = xs.length := by
  induction h with
  | nil => rfl
  | cons _ ih => simp [ih]
theorem Strs.last {l xs} (h : Strs l xs) : (l = [] ∧ xs = []) ∨ ∃ l' xs' c t, l = l' ++ [.str c t] ∧ xs = xs' ++ [c] ∧ Strs l' xs' := by
  induction h with
  | nil => exact .inl ⟨rfl, rfl⟩
  | @cons x t l xs h ih =>
    rcases ih with ⟨rfl, rfl⟩ | ⟨l', xs', c, tc, rfl, rfl, h'⟩
    · exact .inr ⟨[], [], x, t, rfl, rfl, .nil⟩
    · exact .inr ⟨_, _, c, tc, rfl, rfl, .cons h'⟩
theorem Strs.at {l : List Value} {xs : List Str} (h : Strs l xs) : ∀ {i : Nat} {v : Value}, l[i]? = some v → ∃ (c : Str) (t : Tok), v = Value.str c t ∧ xs[i]? = some c := by
  induction h with
  | nil => intro i v e; cases e
  | @cons x t l xs h ih =>
    intro i v e
    cases i with
    | zero => cases e; exact ⟨x, t, rfl, rfl⟩
    | succ i => exact ih e
theorem take_succ' {α : Type} {l : List α} {i : Nat} {c : α} (h : l[i]? = some c) : l.take (i + 1) = l.take i ++ [c] := by
  rw [List.take_add_one, h]; rfl
/- where a path's root ends -/
noncomputable def rootT (p : Str) : Str × Str :=
  if Txt.slice p none (some 1) != Str.ofString "/" then (Str.ofString "", p)
  else if (Txt.slice p (some 1) (some 2) != Str.ofString "/") || (Txt.slice p (some 2) (some 3) == Str.ofString "/") then (Str.ofString "/", Txt.slice p (some 1) none)
  else (Txt.slice p none (some 2), Txt.slice p (some 2) none)
/- one part more of a path -/
noncomputable def stepT (root : Str) (acc : List Str) (c : Str) : List Str :=
  if (((c.length : Int) != 0) == false) || (c == Str.ofString ".") then acc
  else if (c != Str.ofString "..") || ((!((root.length : Int) != 0)) && acc.isEmpty) || ((!acc.isEmpty) && (acc.getLast? == some (Str.ofString ".."))) then acc ++ [c]
  else acc.dropLast
noncomputable def normT (p : Str) : Str :=
  let t := (rootT p).1 ++ Txt.join (Str.ofString "/") ((Txt.split (rootT p).2 (Str.ofString "/")).foldl (stepT (rootT p).1) [])
  if (t.length : Int) != 0 then t else Str.ofString "."
end Mine
namespace Mine
/- a set of texts: its elements, its table's flags -/
noncomputable def SetS (prog : Program) (w : World) (led : Bool) (xs : List Str) (o : Obj) : Prop :=
  ∃ es ep t, o = { cls := .type "set", dict := none, data := .set es ep t } ∧ ElemsOf (strKind prog w) es.toList ∧ (∀ k, k ∈ xs ↔ ∃ e ∈ es.toList, (strKind prog w).is k e.2 = true)
    ∧ es.size = xs.length ∧ es.size ≤ 100 ∧ t.fits es.size = true ∧ t.led = led ∧ (xs = [] ∨ t.plain = false)
theorem SetS.setOf {prog : Program} {w : World} {led : Bool} {xs : List Str} {o : Obj} {h : Heap} {a : Addr} (S : SetS prog w led xs o) (ho : h.get? a = some o) : h.SetOf (strKind prog w) a (fun k => xs.contains k) xs.length := by
  obtain ⟨es, ep, t, rfl, h1, h2, h3, h4, h5, h6, h7⟩ := S
  exact ⟨_, es, ep, t, ho, ⟨rfl, rfl, rfl⟩, rfl, h1, fun k => by rw [List.contains_iff_mem, h2 k], by unfold scanBound; lia, h5, h3⟩
theorem orStandIn_flags (t : SetTable) (n : Nat) : (t.orStandIn n).led = t.led ∧ (t.plain = false → (t.orStandIn n).plain = false) := by
  unfold SetTable.orStandIn
  split
  · exact ⟨rfl, id⟩
  · exact ⟨rfl, fun _ => rfl⟩
theorem layNew_flags (t : SetTable) (es : Array (Int × Value)) (h : Int) (x : Value) : (layNew t es h x).2.1.led = t.led ∧ (t.plain = false → (layNew t es h x).2.1.plain = false) := by
  unfold layNew
  split
  · rename_i slot wd _
    exact ⟨(orStandIn_flags (t.put slot).1 _).1, fun q => (orStandIn_flags (t.put slot).1 _).2 q⟩
  · exact ⟨rfl, fun _ => rfl⟩
theorem relayAll_flags (t : SetTable) (es : Array (Int × Value)) (n : Nat) : (relayAll t es n).2.1.led = t.led ∧ (t.plain = false → (relayAll t es n).2.1.plain = false) := by
  unfold relayAll
  split
  · rename_i t' order e
    have hf : t'.led = t.led ∧ t'.plain = t.plain := by
      unfold SetTable.relaid SetTable.laid at e
      simp only [Option.bind_eq_bind, Option.bind_eq_some_iff] at e
      obtain ⟨ow, _, e⟩ := e
      cases e
      exact ⟨rfl, rfl⟩
    dsimp only
    split
    · exact ⟨hf.1, fun q => hf.2.trans q⟩
    · exact ⟨rfl, fun _ => rfl⟩
  · exact ⟨rfl, fun _ => rfl⟩
section
variable {prog : Program} {w : World} {A : Around} {E : Value → Shared → Prop} {s : Shared}
theorem setAdd_S {a : Addr} {led : Bool} {xs : List Str} {o : Obj} {x : Str} {tx : Tok} {Q : Bool → Shared → Prop} (ho : s.heap.get? a = some o) (hS : SetS prog w led xs o) (hroom : xs.length + 1 ≤ 100)
    (h : ∀ h' o' b, h'.get? a = some o' → SetS prog w led (if xs.contains x then xs else xs ++ [x]) o' → Heap.SameBut a s.heap h' → Q b { s with heap := h' }) :
    wpAny (model prog w) A (setAddHashed a (.str x tx) ((strKind prog w).hash x)) Q E s := by
  have hkey := strKind_is prog w x tx
  obtain ⟨es, ep, t, rfl, hel, hmem, hsz, hb, hf, hled, hpl⟩ := hS
  have hb1 : es.size < scanBound := by unfold scanBound; lia
  have hsc : (Value.str x tx).scannable = true := rfl
  unfold setAddHashed setAddHashedIn
  refine wpAny_holding (wpAny_bind (wpAny_setState_of ho rfl hf ?_))
  dsimp only
  rw [byScan_of hsc hb1 hel]
  simp only [↓reduceIte]
  unfold setAddByScan
  refine wpAny_bind ?_
  refine wpAny_bind (wpAny_rule ?_)
  refine wpAny_bind (wpAny_setScan_of hkey ho rfl hf hel ?_)
  cases hr : List.findIdx? (fun e => (strKind prog w).is x e.2) es.toList with
  | some j =>
    dsimp only
    obtain ⟨hj, hpj, _⟩ := List.findIdx?_eq_some_iff_getElem.mp hr
    have hx : x ∈ xs := (hmem x).mpr ⟨es.toList[j], List.getElem_mem hj, hpj⟩
    refine wpAny_pure (wpAny_pure ?_)
    have e : s = { s with heap := s.heap } := by cases s; rfl
    rw [e]
    refine h s.heap _ _ ho ?_ (Heap.SameBut.refl a s.heap)
    rw [if_pos (by simpa using hx)]
    exact ⟨es, ep, t, rfl, hel, hmem, hsz, hb, hf, hled, hpl⟩
  | none =>
    dsimp only
    have hx : x ∉ xs := fun q => by
      obtain ⟨e, he, hp⟩ := (hmem x).mp q
      have := List.findIdx?_eq_none_iff.mp hr e he
      rw [hp] at this; exact Bool.noConfusion this
    have hgw : ∀ (b : Bool) {s₁ : Shared} {Q' : Unit → Shared → Prop}, Q' () s₁ → wpAny (model prog w) A (match b with | true => rule "set.scan.the-table-gave-way" | false => pure ()) Q' E s₁ :=
      fun b s₁ Q' hq => by cases b <;> first | exact wpAny_pure hq | exact wpAny_rule hq
    have hperm := layNew_perm t es ((strKind prog w).hash x) (.str x tx)
    have hfits := layNew_fits t es ((strKind prog w).hash x) (.str x tx)
    have hflg := layNew_flags t es ((strKind prog w).hash x) (.str x tx)
    generalize hL : layNew t es ((strKind prog w).hash x) (.str x tx) = L at hperm hfits hflg ⊢
    obtain ⟨es1, t1, wasDummy, gave⟩ := L
    dsimp only at hperm hfits hflg ⊢
    rw [Array.toList_push] at hperm
    have hel1 : ElemsOf (strKind prog w) es1.toList := (hel.push hkey hsc).perm hperm
    have hmem1 : ∀ k, k ∈ xs ++ [x] ↔ ∃ e ∈ es1.toList, (strKind prog w).is k e.2 = true := fun k => by
      have := mem_push_iff (S := fun k => decide (k ∈ xs)) hkey (fun k' => by rw [decide_eq_true_eq]; exact hmem k') hperm k
      rw [← this]; simp
    have hsz1 : es1.size = (xs ++ [x]).length := by rw [← Array.length_toList, hperm.length_eq, List.length_append, Array.length_toList, hsz, List.length_append]; rfl
    have hsz2 : es1.size ≤ 100 := by rw [hsz1, List.length_append, List.length_singleton]; exact hroom
    refine wpAny_bind (hgw _ ?_)
    have hend : ∀ h' o' b, h'.get? a = some o' → SetS prog w led (xs ++ [x]) o' → Heap.SameBut a s.heap h' → Q b { s with heap := h' } := fun h' o' b q1 q2 q3 => h h' o' b q1 (by rw [if_neg (by simpa using hx)]; exact q2) q3
    -- the tail: stored, and perhaps laid anew
    have tail : ∀ t2 : SetTable, t2.fits es1.size = true → t2.led = led → t2.plain = false → ∀ {g : Bool → Sem Unit}, (∀ (b : Bool) (s₁ : Shared) (Q' : Unit → Shared → Prop), Q' () s₁ → wpAny (model prog w) A (g b) Q' E s₁) →
        wpAny (model prog w) A (do
          storeSet a es1 t2
          if (!wasDummy && t2.tooFull) = true then do
              g (relayAll t2 es1 (SetTable.grown es1.size)).2.2
              storeSet a (relayAll t2 es1 (SetTable.grown es1.size)).1 (relayAll t2 es1 (SetTable.grown es1.size)).2.1
              pure (some true)
            else pure (some true)) (fun r s' => ∃ h' o', s' = { s with heap := h' } ∧ r = some true ∧ h'.get? a = some o' ∧ SetS prog w led (xs ++ [x]) o' ∧ Heap.SameBut a s.heap h') E s := by
      intro t2 f2 l2 p2 g hg
      refine wpAny_bind (wpAny_storeSet_of ho rfl ?_ (by rw [sizeLine_eq]; lia))
      have hsb1 := Heap.SameBut.update s.heap a (Obj.putSet es1 t2)
      have ho1 : (s.heap.update a (Obj.putSet es1 t2)).get? a = some { cls := .type "set", dict := none, data := .set es1 (ep + 1) t2 } := Heap.get?_update_self (Obj.putSet es1 t2) ho rfl
      split
      · have hp := relayAll_perm t2 es1 (SetTable.grown es1.size)
        have hfr := relayAll_fits t2 es1 (SetTable.grown es1.size)
        have hfl := relayAll_flags t2 es1 (SetTable.grown es1.size)
        generalize hRl : relayAll t2 es1 (SetTable.grown es1.size) = Rl at hp hfr hfl ⊢
        obtain ⟨es2, t3, gave2⟩ := Rl
        dsimp only at hp hfr hfl ⊢
        have hsz3 : es2.size = es1.size := by rw [← Array.length_toList, hp.length_eq, Array.length_toList]
        refine wpAny_bind (hg _ _ _ ?_)
        refine wpAny_bind (wpAny_storeSet_of ho1 rfl ?_ (by rw [sizeLine_eq]; lia))
        have ho2 := Heap.get?_update_self (Obj.putSet es2 t3) ho1 rfl
        exact wpAny_pure ⟨_, _, rfl, rfl, ho2, ⟨es2, _, t3, rfl, hel1.perm hp, fun k' => (hmem1 k').trans ⟨fun ⟨e, he, q⟩ => ⟨e, hp.mem_iff.mpr he, q⟩, fun ⟨e, he, q⟩ => ⟨e, hp.mem_iff.mp he, q⟩⟩, by rw [hsz3]; exact hsz1, by rw [hsz3]; exact hsz2, hfr, hfl.1.trans l2, .inr (hfl.2 p2)⟩, hsb1.trans (Heap.SameBut.update _ a _)⟩
      · exact wpAny_pure ⟨_, _, rfl, rfl, ho1, ⟨es1, _, t2, rfl, hel1, hmem1, hsz1, hsz2, f2, l2, .inr p2⟩, hsb1⟩
    split
    · refine wpAny_bind ?_
      rw [hashByValue_scannable 8 hsc]
      refine wpAny_pure ?_
      dsimp only [plainKind]
      simp only [Bool.false_eq_true, if_false]
      refine wpAny_mono (tail _ (SetTable.fits_plain_off hfits) (hflg.1.trans hled) rfl ?_) (fun r s' q => ?_) fun _ _ q => q
      · intro b s₁ Q' hq; cases b <;> first | exact wpAny_pure hq | exact wpAny_rule hq
      · obtain ⟨h', o', rfl, rfl, q1, q2, q3⟩ := q
        exact wpAny_pure (hend _ _ _ q1 q2 q3)
    · rename_i hnp
      refine wpAny_bind (wpAny_pure ?_)
      simp only [↓reduceIte]
      refine wpAny_mono (tail _ hfits (hflg.1.trans hled) (by simpa using hnp) ?_) (fun r s' q => ?_) fun _ _ q => q
      · intro b s₁ Q' hq; cases b <;> first | exact wpAny_pure hq | exact wpAny_rule hq
      · obtain ⟨h', o', rfl, rfl, q1, q2, q3⟩ := q
        exact wpAny_pure (hend _ _ _ q1 q2 q3)
end
end Mine
namespace Mine
noncomputable def byTx (w : World) : Bool := w.params.followText "set-order"
/- the texts met, each once -/
noncomputable def metS (xs : List Str) : List Str := xs.foldl (fun acc x => if acc.contains x then acc else acc ++ [x]) []
theorem metS_snoc (xs : List Str) (x : Str) : metS (xs ++ [x]) = if (metS xs).contains x then metS xs else metS xs ++ [x] := by unfold metS; rw [List.foldl_append]; rfl
theorem metS_len (xs : List Str) : (metS xs).length ≤ xs.length := by
  have : ∀ (xs acc : List Str), (xs.foldl (fun acc x => if acc.contains x then acc else acc ++ [x]) acc).length ≤ acc.length + xs.length := by
    intro xs
    induction xs with
    | nil => intro acc; exact Nat.le_refl _
    | cons x xs ih =>
      intro acc
      refine Nat.le_trans (ih _) ?_
      dsimp only
      split <;> simp <;> lia
  have := this xs []
  rw [List.length_nil, Nat.zero_add] at this
  exact this
theorem mem_metS (xs : List Str) (k : Str) : k ∈ metS xs ↔ k ∈ xs := by
  have : ∀ (xs acc : List Str), k ∈ xs.foldl (fun acc x => if acc.contains x then acc else acc ++ [x]) acc ↔ k ∈ acc ∨ k ∈ xs := by
    intro xs
    induction xs with
    | nil => intro acc; simp
    | cons x xs ih =>
      intro acc
      refine (ih _).trans ?_
      dsimp only
      split
      · rename_i hc
        have hc : x ∈ acc := by simpa using hc
        constructor
        · rintro (h | h)
          · exact .inl h
          · exact .inr (.tail _ h)
        · rintro (h | h)
          · exact .inl h
          · rcases List.mem_cons.mp h with rfl | h
            · exact .inl hc
            · exact .inr h
      · simp only [List.mem_append, List.mem_cons, List.not_mem_nil, or_false, or_assoc]
  have := this xs []
  simp only [List.not_mem_nil, false_or] at this
  exact this
section
variable {prog : Program} {w : World} {A : Around} {E : Value → Shared → Prop} {s : Shared}
theorem set_new_S (a : Value) {Q₁ : Value → Shared → Prop}
    (h : Q₁ (.ref s.heap.objs.size) { s with heap := s.heap.push { cls := .type "set", dict := none, data := .set #[] 0 (.fresh 0 0 (!byTx w)) } }) :
    codeAny (model prog w) A (.call (.builtin "set.__new__") ⟨[.type "set", a], []⟩) (wants Q₁ E) s := by
  refine codeAny_of_tree ?_
  show wpAny _ A.in1 (do checkBuiltinCall "set.__new__" ⟨[.type "set", a], []⟩; again (.builtin "set.__new__" ⟨[.type "set", a], []⟩)) _ _ s
  refine wpAny_bind (wpAny_of_eq (F.newCall_set_1 a) (wpAny_pure ⟨plainId_quiet F.plain_set_new _, codeAny_builtin F.entry_set_new ?_⟩))
  rw [Around.under_plainId F.plain_set_new _]
  unfold Builtin.«set.__new__» Builtin.Frozenset.newClass
  have hsub := sub_set_self
  obtain ⟨hp, g, d, tk, os⟩ := s
  dsimp only
  wp_walk
  refine wpAny_askSetting (wpAny_pure ?_)
  dsimp only
  simp only [newObj]
  refine wpAny_bind (wpAny_alloc (wpAny_pure ?_))
  exact wpAny_pure h
end
section
variable {prog : Program} {w : World} {A : Around} {R : Result → Shared → Prop} {I : Addr} {fp wr : List Addr} {G : Array GenState → Array GenState → Prop} {n : Nat} {P : Nat → Value → Prop} {St : Nat → Shared → Prop}
theorem set_loop_S (W : WalksS prog w A.in1 I fp wr G n P St) (S : Addr) (hSf : S ∉ fp) (xs : List Str) (hn : xs.length = n) (led : Bool)
    (hval : ∀ (i : Nat) (v : Value), P i v → ∃ (x : Str) (t : Tok), xs[i]? = some x ∧ v = Value.str x t) (hb : n + 1 ≤ 100) :
    ∀ (k i : Nat) (s : Shared), n - i = k → i ≤ n → St i s →
      (∃ o, s.heap.get? S = some o ∧ SetS prog w led (metS (xs.take i)) o) →
      (∀ s', Moved (S :: wr) G s s' → (∃ o, s'.heap.get? S = some o ∧ SetS prog w led (metS xs) o) → R (.ok (.ret .none)) s') →
      codeAny (model prog w) A (.builtin "set.update.loop" ⟨[.ref S, .ref I], []⟩) R s := by
  have hSw : S ∉ wr := fun h => hSf (W.sub _ h)
  have hsub : ∀ b ∈ wr, b ∈ S :: wr := fun b hb => List.mem_cons_of_mem _ hb
  intro k
  induction k with
  | zero =>
    intro i s hk hi hst hS hR
    have hin : i = n := by lia
    subst hin
    refine codeAny_builtin PyProof.Rows.F.entry_set_update_loop ?_
    rw [Around.under_plainId PyProof.Rows.F.plain_set_update_loop _]
    show wpAny _ A.in1 (pyNext (.ref I) >>= _) _ _ s
    refine wpAny_bind (W.done s _ _ hst fun s' hm => ?_)
    show wpAny _ A.in1 (ret Value.none) _ _ s'
    exact wpAny_pure (hR s' (hm.mono hsub) (by
      obtain ⟨o, ho, hs⟩ := hS
      rw [List.take_of_length_le (by lia)] at hs
      exact ⟨o, hm.heap S _ hSw ho, hs⟩))
  | succ k ih =>
    intro i s hk hi hst hS hR
    have hlt : i < n := by lia
    refine codeAny_builtin PyProof.Rows.F.entry_set_update_loop ?_
    rw [Around.under_plainId PyProof.Rows.F.plain_set_update_loop _]
    show wpAny _ A.in1 (pyNext (.ref I) >>= _) _ _ s
    refine wpAny_bind (W.item i s _ _ hlt hst fun v s' hP hst' hm => ?_)
    obtain ⟨x, t, hx, rfl⟩ := hval i v hP
    obtain ⟨o, ho, hs⟩ := hS
    have ho' := hm.heap S _ hSw ho
    show wpAny _ A.in1 (holding [Value.str x t] (setAdd S (.str x t)) >>= _) _ _ s'
    refine wpAny_bind (wpAny_holding ?_)
    unfold setAdd
    refine wpAny_holding ?_
    refine wpAny_bind ((strKind prog w).pyHash (k := x) (strKind_is _ _ _ _) ?_)
    have hroom : (metS (xs.take i)).length + 1 ≤ 100 := by have := metS_len (xs.take i); have := List.length_take_le i xs; lia
    refine setAdd_S (s := { s' with toks := s'.toks + 1 }) ho' hs hroom fun h' o' b q1 q2 hsb => ?_
    have q2 : SetS prog w led (metS (xs.take (i + 1))) o' := by
      rw [List.take_add_one, hx]
      show SetS prog w led (metS (xs.take i ++ [x])) o'
      rw [metS_snoc]; exact q2
    refine wpAny_pure ⟨plainId_quiet PyProof.Rows.F.plain_set_update_loop _, ih (i + 1) _ (by lia) hlt (W.frame _ s' _ _ hst' (Nat.le_succ _) fun b hb o e => ?_) ⟨o', q1, q2⟩ fun s'' hm'' hS'' => ?_⟩
    · rw [hsb.2 b (fun h : b = S => hSf (by rw [← h]; exact hb))]; exact e
    · refine hR s'' (Moved.trans W.gtrans ((hm.mono hsub).then_heap (Nat.le_succ _) fun b o hb e => ?_) hm'') hS''
      rw [hsb.2 b (fun h : b = S => hb (by rw [h]; exact List.mem_cons_self))]; exact e
end
section
variable {prog : Program} {w : World} {A : Around} {E : Value → Shared → Prop} {s : Shared}
theorem callType_chk {T newId initId : String} {Bi : Builtin} {args : List Value} {Q Q₁ : Value → Shared → Prop} (ft : TypeCalled T newId initId)
    (hct : checkTypeCall T ⟨args, []⟩ = pure ()) (entryI : entryFor table initId = some Bi)
    (hnew : codeAny (model prog w) A.in1 (.call (.builtin newId) ⟨.type T :: args, []⟩) (wants Q₁ E) s)
    (hnext : ∀ obj s₁, Q₁ obj s₁ → s₁.TypeIs obj T ∧ (∀ (A : Around) (E : Value → Shared → Prop) (Q : Unit → Shared → Prop), Q () s₁ → wpAny (model prog w) A (checkBuiltinCall initId ⟨obj :: args, []⟩) Q E s₁) ∧
      wpAny (model prog w) A.in1.in1 (Bi ⟨obj :: args, []⟩)
        (fun fin s' => match fin with | .done f => wants (fun r s₂ => r = .none ∧ Q obj s₂) E (.ok f) s' | .again c' => c'.quiet = true ∧ codeAny (model prog w) A.in1 c' (wants (fun r s₂ => r = .none ∧ Q obj s₂) E) s')
        (fun e s' => wants (fun r s₂ => r = .none ∧ Q obj s₂) E (.error e) s') s₁) :
    wpAny (model prog w) A (call (.type T) args) Q E s := by
  obtain ⟨c, tl, hmro⟩ := ft.mro
  have hmade := ft.made
  have hsub := ft.sub
  refine wpAny_call (codeAny_of_tree ?_)
  show wpAny _ _ (callAny (.type T) _) _ _ _
  refine wpAny_pure ⟨Code.quiet_builtin _ (by decide +kernel), codeAny_builtin F.entry_type_call ?_⟩
  rw [Around.under_plain (weight_type_call_type T args []) rfl]
  have h1 := ft.notType
  have h2 := ft.canCreate
  repeat (any_goals (first | assumption | wp_step))
  refine codeAny_mono hnew fun r s₁ hr => ?_
  cases r with
  | error e => exact hr
  | ok fl =>
    cases fl with
    | ret obj =>
      obtain ⟨hT, hok, hsi⟩ := hnext _ _ hr
      have hli := ft.init.lookup
      have hbi := ft.init.bind obj
      clear hnew hnext h1 h2 hct hmade hmro hr
      repeat (any_goals (first | assumption | wp_step))
      refine codeAny_mono (codeAny_call_builtin ft.init.plain entryI (hok _ _ _ hsi)) fun r₂ s₂ hr₂ => ?_
      cases r₂ with
      | error e => exact hr₂
      | ok fl₂ =>
        cases fl₂ with
        | ret r =>
          obtain ⟨rfl, hq⟩ := hr₂
          repeat (any_goals (first | assumption | wp_step))
        | _ => exact hr₂.elim
    | _ => exact hr.elim
theorem set_init_S {l S : Addr} {items : Array Value} {xs : List Str} {led : Bool} {Q : Value → Shared → Prop} (hh : A.handled = none) (hl : s.heap.IsList l items) (hS : s.heap.get? S = some { cls := .type "set", dict := none, data := .set #[] 0 (.fresh 0 0 led) }) (hlS : l ≠ S)
    (hi : ∀ (i : Nat) (v : Value), items[i]? = some v → ∃ (x : Str) (t : Tok), xs[i]? = some x ∧ v = Value.str x t) (hn : xs.length = items.size) (hb : items.size + 1 ≤ 100)
    (h : ∀ (h' : Heap) (tk : Nat) o, h'.get? S = some o → SetS prog w led (metS xs) o → (∀ b o, b ≠ S → s.heap.get? b = some o → h'.get? b = some o) → Q .none { s with heap := h', toks := tk }) :
    wpAny (model prog w) A.in1 (Builtin.«set.__init__» ⟨[.ref S, .ref l], []⟩) (fun fin s' => match fin with | .done f => wants Q E (.ok f) s' | .again c' => c'.quiet = true ∧ codeAny (model prog w) A c' (wants Q E) s') (fun e s' => wants Q E (.error e) s') s := by
  obtain ⟨ol, hol, hcl, nl, hdl⟩ := id hl
  obtain ⟨ocls, odict, odata, oslots⟩ := ol
  simp only at hcl hdl
  subst hcl; subst hdl
  have hsls := F.sub_list_set
  have hslf := F.sub_list_frozenset
  have hne : (Value.type "list" == Value.type "dict") = false := by decide
  have fin : wpAny (model prog w) A.in1 (pyIter (.ref l)) (fun it s' => wpAny (model prog w) A.in1 (runValue (.builtin "set.update.loop" ⟨[.ref S, it], []⟩)) (fun _ s'' => Q .none s'') E s') E s := by
    refine wpAny_pyIter_list hl ?_
    refine wpAny_runValue ?_
    have hh3 : A.in1.in1.handled = none := by simp [hh]
    have hneI : l ≠ s.heap.objs.size := Nat.ne_of_lt (Heap.lt_size hol)
    have hSf : S ∉ [s.heap.objs.size, l] := by
      simp only [List.mem_cons, List.not_mem_nil, or_false, not_or]
      exact ⟨Nat.ne_of_lt (Heap.lt_size hS), Ne.symm hlS⟩
    refine set_loop_S ((Walks.list hh3 _ l hneI items).toS) S hSf xs hn led hi hb (items.size - 0) 0 _ (by lia) (Nat.zero_le _)
      ⟨⟨_, Heap.get?_push_size _ rfl, rfl, rfl⟩, (hl.push _)⟩ ⟨_, Heap.get?_push_of_some _ hS, #[], 0, _, rfl, fun e he => by simp at he, fun k => by simp [metS], rfl, by decide, rfl, rfl, .inl rfl⟩ ?_
    intro s' hm hS'
    obtain ⟨h', g', d', tk', os'⟩ := s'
    have eg : g' = s.gens := hm.gens
    have ed : d' = s.drawn := hm.drawn
    have eo : os' = s.os := hm.os
    subst eg; subst ed; subst eo
    obtain ⟨o, q1, q2⟩ := hS'
    refine h h' tk' o q1 q2 fun b o hb e => ?_
    have hb2 : b ≠ s.heap.objs.size := Nat.ne_of_lt (Heap.lt_size e)
    exact hm.heap b o (by simp only [List.mem_cons, List.not_mem_nil, or_false, not_or]; exact ⟨hb, hb2⟩) (Heap.get?_push_of_some _ e)
  clear hi hn hb h hh hlS
  unfold Builtin.«set.__init__» noKeywords Builtin.Frozenset.updateFrom
  generalize hPI : pyIter = PI at fin
  wp_walk
  refine wpAny_mono fin (fun it s' z => ?_) fun _ _ q => q
  refine wpAny_bind (wpAny_mono z (fun _ s'' q => wpAny_pure ?_) fun _ _ q => q)
  exact wpAny_pure q
theorem call_set_S {l : Addr} {items : Array Value} {xs : List Str} {Q : Value → Shared → Prop}
    (hh : A.handled = none) (hl : s.heap.IsList l items) (hi : ∀ (i : Nat) (v : Value), items[i]? = some v → ∃ (x : Str) (t : Tok), xs[i]? = some x ∧ v = Value.str x t) (hn : xs.length = items.size) (hb : items.size + 1 ≤ 100)
    (h : ∀ (h' : Heap) (tk : Nat) o, h'.get? s.heap.objs.size = some o → SetS prog w (!byTx w) (metS xs) o →
      (∀ b o, b < s.heap.objs.size → s.heap.get? b = some o → h'.get? b = some o) → Q (.ref s.heap.objs.size) { s with heap := h', toks := tk }) :
    wpAny (model prog w) A (call (.type "set") [.ref l]) Q E s := by
  refine callType_chk (Q₁ := fun obj s₁ => obj = .ref s.heap.objs.size ∧ s₁ = { s with heap := s.heap.push { cls := .type "set", dict := none, data := .set #[] 0 (.fresh 0 0 (!byTx w)) } }) F.called_set (F.typeCall_set_1 _) F.entry_set_init (set_new_S _ ⟨rfl, rfl⟩) ?_
  rintro obj s₁ ⟨rfl, rfl⟩
  have hS : (s.heap.push { cls := .type "set", dict := none, data := .set #[] 0 (.fresh 0 0 (!byTx w)) }).get? s.heap.objs.size = some { cls := .type "set", dict := none, data := .set #[] 0 (.fresh 0 0 (!byTx w)) } := Heap.get?_push_size _ rfl
  have hT : Shared.TypeIs { s with heap := s.heap.push { cls := .type "set", dict := none, data := .set #[] 0 (.fresh 0 0 (!byTx w)) } } (.ref s.heap.objs.size) "set" := ⟨_, hS, rfl⟩
  have hlt : l < s.heap.objs.size := by obtain ⟨o, ho, _⟩ := hl; exact Heap.lt_size ho
  refine ⟨hT, fun A E Q q => check_set_init_1 hT q, ?_⟩
  refine set_init_S (A := A.in1) (s := { s with heap := s.heap.push { cls := .type "set", dict := none, data := .set #[] 0 (.fresh 0 0 (!byTx w)) } }) (by simp [hh]) (hl.push _) hS (Nat.ne_of_lt hlt) hi hn hb fun h' tk o q1 q2 q3 => ⟨rfl, h h' tk o q1 q2 fun b o hb e => q3 b o (Nat.ne_of_lt hb) (Heap.get?_push_of_some _ e)⟩
end
end Mine
namespace Mine
theorem si_slot_iter : Slot "set" "__iter__" "set.__iter__" :=
  .of (owner := "set") (n := "__iter__") (by rw [typeLookup_type, builtinLookup_eq_fast]; kernel_rfl) (by decide +kernel) (by decide +kernel) (by decide +kernel)
    (by first | exact .inl (by decide +kernel) | exact .inr (by decide +kernel)) (by rw [isSubtype_type]; kernel_rfl)
theorem si_slot_next : Slot "set_iterator" "__next__" "set_iterator.__next__" :=
  .of (owner := "set_iterator") (n := "__next__") (by rw [typeLookup_type, builtinLookup_eq_fast]; kernel_rfl) (by decide +kernel) (by decide +kernel) (by decide +kernel)
    (by first | exact .inl (by decide +kernel) | exact .inr (by decide +kernel)) (by rw [isSubtype_type]; kernel_rfl)
theorem si_entry_iter : entryFor table "set.__iter__" = some Builtin.«frozenset.__iter__» :=
  entryFor_alias (id' := "frozenset.__iter__") (by kernel_rfl) rfl (by decide +kernel) (by kernel_rfl)
theorem si_entry_next : entryFor table "set_iterator.__next__" = some Builtin.«set_iterator.__next__» := entryFor_of_tree (by kernel_rfl)
theorem si_args_iter (a : Value) : argsOk "set.__iter__" ⟨[a], []⟩ := by unfold argsOk; kernel_rfl
theorem si_args_next (a : Value) : argsOk "set_iterator.__next__" ⟨[a], []⟩ := by unfold argsOk; kernel_rfl
theorem perm_erase {α : Type} : ∀ (l : List α) (i : Nat) (h : i < l.length), (l[i] :: l.eraseIdx i).Perm l
  | x :: xs, 0, _ => .refl _
  | x :: xs, i + 1, h => (List.Perm.swap ..).trans ((perm_erase xs i (Nat.lt_of_succ_lt_succ h)).cons x)
section
variable {M : Model} {A : Around} {E : Value → Shared → Prop} {s : Shared}
theorem wpAny_choose {src : Source} {n : Nat} {Q : Nat → Shared → Prop} (hn : n ≠ 0) (h : ∀ i d, i < n → Q i { s with drawn := d }) : wpAny M A (choose src n) Q E s := by
  intro Γ p hΓ
  show Sem.wp M Γ (.choose src n .pure) _ _ p s
  rw [Sem.wp_choose]
  exact ⟨hn, h _ _ (Nat.mod_lt _ (Nat.pos_of_ne_zero hn))⟩
theorem wpAny_drawOrder {α : Type} : ∀ (n : Nat) (xs : List α) (s : Shared) {Q : List α → Shared → Prop}, xs.length = n → (∀ l d, l.Perm xs → Q l { s with drawn := d }) → wpAny M A (drawOrder n xs) Q E s
  | 0, xs, s, Q, hn, h => by
    unfold drawOrder
    cases xs with
    | nil => exact wpAny_pure (h [] s.drawn (.refl _))
    | cons x xs => cases hn
  | n + 1, [], s, Q, hn, h => by cases hn
  | n + 1, x :: xs, s, Q, hn, h => by
    unfold drawOrder
    refine wpAny_bind (wpAny_choose (by simp) fun i d hi => ?_)
    have e : (x :: xs)[i]? = some (x :: xs)[i] := List.getElem?_eq_getElem hi
    rw [e]
    dsimp only
    have hl : ((x :: xs).eraseIdx i).length = n := by rw [List.length_eraseIdx_of_lt hi, hn]; rfl
    refine wpAny_bind (wpAny_drawOrder n _ { s with drawn := d } hl fun l d' hp => wpAny_pure (h _ d' ?_))
    exact (hp.cons _).trans (perm_erase _ _ hi)
end
/- a set's iterator: by drawn places, or by a slot -/
noncomputable def itO (first : Value) (i : Int) (a : Addr) (n : Nat) (ep : Nat) : Obj := { cls := .type "set_iterator", data := .fields #[first, .int i 0, .ref a, .int n 0, .int ep 0] }
section
variable {prog : Program} {w : World} {A : Around} {E : Value → Shared → Prop} {s : Shared}
theorem pyIter_set {a : Addr} {o : Obj} {es : Array (Int × Value)} {ep : Nat} {t : SetTable} {Q : Value → Shared → Prop} (ho : s.heap.get? a = some o) (hc : o.cls = .type "set") (hd : o.data = .set es ep t) (hf : t.fits es.size = true)
    (h1 : ((!byTx w) && (!t.plain && decide (es.size > 1))) = true → ∀ (l : List Nat) d, l.Perm (List.range es.size) → Q (.ref (s.heap.objs.size + 1)) { s with drawn := d, heap := (s.heap.push { cls := .type "tuple", data := .seq (l.map fun (i : Nat) => rawInt i).toArray }).push (itO (.ref s.heap.objs.size) 0 a es.size ep) })
    (h2 : ((!byTx w) && (!t.plain && decide (es.size > 1))) = false → Q (.ref s.heap.objs.size) { s with heap := s.heap.push (itO (.int 0 0) 0 a es.size ep) }) (hz : es.size ≤ 100) :
    wpAny (model prog w) A (pyIter (.ref a)) Q E s := by
  have hT : s.TypeIs (.ref a) "set" := ⟨o, ho, hc⟩
  refine wpAny_pyIter_slot hT si_slot_iter (wpAny_call_entry si_slot_iter hT si_entry_iter ?_ (si_args_iter _))
  unfold Builtin.«frozenset.__iter__» Builtin.Frozenset.slot0 slotArgs
  simp (config := { iota := false }) only [List.isEmpty_nil, Bool.not_true, Bool.false_eq_true, ↓reduceIte, bind_assoc, List.length_nil, bne_self_eq_false]
  unfold Builtin.Frozenset.addrOf Builtin.Frozenset.sizeOf
  refine wpAny_bind (wpAny_pure ?_)
  try dsimp only
  refine wpAny_bind (wpAny_pure ?_)
  refine wpAny_bind (wpAny_bind (wpAny_setEntries_of ho hd hf (wpAny_pure ?_)))
  unfold setDrawn setsByText
  refine wpAny_bind (wpAny_bind (wpAny_setState_of ho hd hf (wpAny_bind (wpAny_bind (wpAny_askSetting (wpAny_pure (wpAny_pure ?_)))))))
  dsimp only
  show wpAny _ _ (if ((!byTx w) && (!t.plain && decide (es.size > 1))) = true then _ else _) _ _ _
  have hsz : ∀ l : List Nat, l.Perm (List.range es.size) → (l.map fun (i : Nat) => rawInt i).toArray.size ≤ sizeLine := fun l hp => by
    rw [List.size_toArray, List.length_map, hp.length_eq, List.length_range, sizeLine_eq]; lia
  cases hb : ((!byTx w) && (!t.plain && decide (es.size > 1))) with
  | true =>
    rw [if_pos rfl]
    refine wpAny_bind (wpAny_drawOrder _ _ _ (List.length_range) fun l d hp => ?_)
    refine wpAny_bind (wpAny_newObj_type ?_ (hsz l hp))
    refine wpAny_bind (wpAny_setEpoch_of (Heap.get?_push_of_some _ ho) hd hf ?_)
    refine wpAny_bind (wpAny_newObj_type (wpAny_pure ⟨_, rfl, "set_iterator", _, ⟨_, Heap.get?_push_size _ rfl, rfl⟩, si_slot_next.lookup, ?_⟩) (by size_fits))
    have := h1 hb l d hp
    rw [← Heap.size_push s.heap { cls := .type "tuple", data := .seq (l.map fun (i : Nat) => rawInt i).toArray }] at this
    exact this
  | false =>
    rw [if_neg Bool.false_ne_true]
    refine wpAny_bind (wpAny_pure ?_)
    refine wpAny_bind (wpAny_setEpoch_of ho hd hf ?_)
    exact wpAny_bind (wpAny_newObj_type (wpAny_pure ⟨_, rfl, "set_iterator", _, ⟨_, Heap.get?_push_size _ rfl, rfl⟩, si_slot_next.lookup, h2 hb⟩) (by size_fits))
/- up to the look at the iterator's first field -/
noncomputable def nextTail (first : Value) (I a : Addr) (i epoch : Int) : Sem Fin :=
  match first with
  | .int slot _ => do
    match ← setNext a slot.toNat i.toNat epoch.toNat with
    | some (x, next) =>
      setField (.ref I) 0 (rawInt next)
      setField (.ref I) 1 (rawInt (i + 1))
      ret x
    | none => setField (.ref I) 2 .none; raiseNew (← newExc (.type "StopIteration") [])
  | x => do
    match ← seqItems? x with
    | some places =>
      match places[i.toNat]? with
      | some (.int place _) =>
        let x ← setNextDrawn a place.toNat epoch.toNat
        setField (.ref I) 1 (rawInt (i + 1))
        ret x
      | some _ => unsupported "internal:set_iterator"
      | none => setField (.ref I) 0 (rawInt 0); setField (.ref I) 2 .none; raiseNew (← newExc (.type "StopIteration") [])
    | _ => unsupported "internal:set_iterator"
theorem pyNext_core {I a : Addr} {o : Obj} {first : Value} {es : Array (Int × Value)} {ep : Nat} {i : Int} {t : SetTable} {Q : Option Value → Shared → Prop} (hI : s.heap.get? I = some (itO first i a es.size ep)) 
    (ho : s.heap.get? a = some o) (hd : o.data = .set es ep t) (hf : t.fits es.size = true)
    (h : wpAny (model prog w) A.in1 (nextTail first I a i ep) (fun fin s' => ∃ v, fin = .done (.ret v) ∧ Q (some v) s')
      (fun e s' => ∃ o, s'.heap.get? (match e with | .ref b => b | _ => 0) = some o ∧ (∃ b, e = .ref b) ∧ o.cls = .type "StopIteration" ∧ Q none s') s) : wpAny (model prog w) A (pyNext (.ref I)) Q E s := by
  have hty : s.TypeIs (.ref I) "set_iterator" := ⟨_, hI, rfl⟩
  unfold pyNext
  refine wpAny_bind (wpAny_attempt (wpAny_callSpecial?_slot (name := Str.ofString "__next__") hty si_slot_next (wpAny_call_entry si_slot_next hty si_entry_next ?_ (si_args_next _))))
  unfold Builtin.«set_iterator.__next__» slotArgs fieldsOf
  simp (config := { iota := false }) only [List.isEmpty_nil, Bool.not_true, Bool.false_eq_true, ↓reduceIte, bind_assoc, List.length_nil, bne_self_eq_false]
  refine wpAny_bind (wpAny_pure ?_)
  dsimp only
  refine wpAny_bind (wpAny_bind (wpAny_load hI (wpAny_pure ?_)))
  dsimp only
  refine wpAny_bind (wpAny_setEntries_of ho hd hf ?_)
  rw [if_neg (by simp)]
  have e : ∀ {X : Sem Fin}, X = nextTail first I a i ep → wpAny (model prog w) A.in1 X (fun fin s' => ∃ v, fin = .done (.ret v) ∧ Q (some v) s')
      (fun e s' => ∃ o, s'.heap.get? (match e with | .ref b => b | _ => 0) = some o ∧ (∃ b, e = .ref b) ∧ o.cls = .type "StopIteration" ∧ Q none s') s := fun hX => by rw [hX]; exact h
  refine wpAny_mono (e (by unfold nextTail; simp (config := { iota := false }) only [Int.toNat_natCast]; cases first <;> rfl)) (fun fin s' q => ?_) fun e s' q => ?_
  · obtain ⟨v, rfl, q⟩ := q
    exact ⟨v, rfl, wpAny_pure q⟩
  · obtain ⟨o, q1, ⟨b, rfl⟩, q2, q3⟩ := q
    refine wpAny_bind (wpAny_isInstance (T := "StopIteration") (b := true) ⟨_, q1, q2⟩ isSubtype_stop ?_)
    exact wpAny_pure q3
end
end Mine
namespace Mine
section
variable {prog : Program} {w : World} {A : Around} {E : Value → Shared → Prop} {s : Shared}
/- what a stop leaves behind -/
noncomputable def StopE (Qn : Shared → Prop) : Value → Shared → Prop := fun e s' => ∃ o, s'.heap.get? (match e with | .ref b => b | _ => 0) = some o ∧ (∃ b, e = .ref b) ∧ o.cls = .type "StopIteration" ∧ Qn s'
theorem stop_raise {α : Type} {QF : α → Shared → Prop} {Qn : Shared → Prop} (hh : A.handled = none) (h : ∀ h', (∀ b o, s.heap.get? b = some o → h'.get? b = some o) → Qn { s with heap := h' }) :
    wpAny (model prog w) A (newExc (.type "StopIteration") [] >>= fun e => (raiseNew e : Sem α)) QF (StopE Qn) s := by
  refine wpAny_bind ?_
  simp (config := { iota := false }) only [newExc, newTuple]
  refine wpAny_bind (wpAny_newObj_type ?_ (by size_fits))
  refine wpAny_bind (m := firstArgMember _ _) (wpAny_of_eq (a := Value.none) (by first | rfl | (simp (config := { iota := false }) only [firstArgMember]; rfl)) ?_)
  refine wpAny_newObj_type ?_ (by size_fits)
  simp (config := { iota := false }) only [raiseNew]
  refine wpAny_bind (wpAny_handled ?_)
  rw [hh]
  refine wpAny_bind (wpAny_pure (wpAny_throw ?_))
  exact ⟨_, Heap.get?_push_size _ rfl, ⟨_, rfl⟩, rfl, h _ fun b o e => Heap.get?_push_of_some _ (Heap.get?_push_of_some _ e)⟩
/- drawn places: the next, the end -/
theorem next_drawn {I a T : Addr} {o : Obj} {es : Array (Int × Value)} {ep i j : Nat} {t : SetTable} {l : List Nat} {hx : Int} {x : Value} {Q : Option Value → Shared → Prop} (hI : s.heap.get? I = some (itO (.ref T) i a es.size ep)) (hT : s.heap.get? T = some { cls := .type "tuple", data := .seq (l.map fun (i : Nat) => rawInt i).toArray })
    (ho : s.heap.get? a = some o) (hd : o.data = .set es ep t) (hf : t.fits es.size = true) (hj : l[i]? = some j) (he : es[j]? = some (hx, x))
    (h : ∀ h', h'.get? I = some (itO (.ref T) ((i + 1 : Nat) : Int) a es.size ep) → Heap.SameBut I s.heap h' → Q (some x) { s with heap := h' }) : wpAny (model prog w) A (pyNext (.ref I)) Q E s := by
  refine pyNext_core hI ho hd hf ?_
  unfold nextTail
  dsimp only
  refine wpAny_bind (wpAny_seqItems hT rfl ?_)
  have e1 : ((l.map fun (i : Nat) => rawInt i).toArray)[(i : Int).toNat]? = some (.int j 0) := by
    rw [Int.toNat_natCast, List.getElem?_toArray, List.getElem?_map, hj]; rfl
  dsimp only
  rw [e1]
  dsimp only
  unfold setNextDrawn
  refine wpAny_bind (wpAny_bind (wpAny_setState_of ho hd hf ?_))
  dsimp only
  rw [if_neg (by simp), Int.toNat_natCast, he]
  refine wpAny_pure (wpAny_bind (wpAny_setField hI rfl (by show 1 < 5; decide) (wpAny_pure ⟨x, rfl, h _ ?_ (Heap.SameBut.update ..)⟩)))
  exact Heap.get?_update_self _ hI rfl
theorem stop_drawn {I a T : Addr} {o : Obj} {es : Array (Int × Value)} {ep i : Nat} {t : SetTable} {l : List Nat} {Q : Option Value → Shared → Prop} (hh : A.handled = none) (hI : s.heap.get? I = some (itO (.ref T) i a es.size ep)) (hT : s.heap.get? T = some { cls := .type "tuple", data := .seq (l.map fun (i : Nat) => rawInt i).toArray })
    (ho : s.heap.get? a = some o) (hd : o.data = .set es ep t) (hf : t.fits es.size = true) (hj : l[i]? = none)
    (h : ∀ h', Heap.ExtBut I s.heap h' → Q none { s with heap := h' }) : wpAny (model prog w) A (pyNext (.ref I)) Q E s := by
  refine pyNext_core hI ho hd hf ?_
  unfold nextTail
  dsimp only
  refine wpAny_bind (wpAny_seqItems hT rfl ?_)
  have e1 : ((l.map fun (i : Nat) => rawInt i).toArray)[(i : Int).toNat]? = none := by
    rw [Int.toNat_natCast, List.getElem?_toArray, List.getElem?_map, hj]; rfl
  dsimp only
  rw [e1]
  dsimp only
  refine wpAny_bind (wpAny_setField hI rfl (by show 0 < 5; decide) ?_)
  refine wpAny_bind (wpAny_setField (Heap.get?_update_self _ hI rfl) rfl (by show 2 < 5; decide) ?_)
  exact stop_raise hh fun h' hk => h h' fun b o hb e => hk b o ((Heap.SameBut.update ..).extBut b o hb ((Heap.SameBut.update ..).extBut b o hb e))
end
end Mine
namespace Mine
theorem pick_perm {α : Type} {next : Nat → Nat} : ∀ (n k : Nat) (left : List α) (out : Array α), left.length = n → (pickOrder.go next n k left out).toList.Perm (out.toList ++ left)
  | 0, k, left, out, hn => by
    cases left with
    | nil => unfold pickOrder.go; simp
    | cons x xs => cases hn
  | n + 1, k, left, out, hn => by
    unfold pickOrder.go
    have hi : next k % left.length < left.length := Nat.mod_lt _ (by lia)
    rw [List.getElem?_eq_getElem hi]
    dsimp only
    refine (pick_perm n (k + 1) _ _ (by rw [List.length_eraseIdx_of_lt hi, hn]; rfl)).trans ?_
    rw [Array.toList_push, List.append_assoc]
    exact (perm_erase _ _ hi).append_left _
theorem pickOrder_perm {α : Type} {next : Nat → Nat} {xs : Array α} : (pickOrder next xs).toList.Perm xs.toList := by
  unfold pickOrder
  have := pick_perm (next := next) xs.size 0 xs.toList #[] (by simp)
  simpa using this
section
variable {prog : Program} {w : World} {A : Around} {E : Value → Shared → Prop} {s : Shared}
theorem next_text {I a : Addr} {o : Obj} {es : Array (Int × Value)} {ep i : Nat} {t : SetTable} {hx : Int} {x : Value} {Q : Option Value → Shared → Prop} (hbt : byTx w = true) (hI : s.heap.get? I = some (itO (.int 0 0) i a es.size ep))
    (ho : s.heap.get? a = some o) (hd : o.data = .set es ep t) (hf : t.fits es.size = true) (he : (pickOrder (w.params.setOrder a ep) es)[i]? = some (hx, x))
    (h : ∀ h', h'.get? I = some (itO (.int 0 0) ((i + 1 : Nat) : Int) a es.size ep) → Heap.SameBut I s.heap h' → Q (some x) { s with heap := h' }) : wpAny (model prog w) A (pyNext (.ref I)) Q E s := by
  refine pyNext_core hI ho hd hf ?_
  unfold nextTail setNext setWalk setsByText
  dsimp only
  have hb : (model prog w).w.params.followText "set-order" = true := hbt
  refine wpAny_bind (wpAny_bind (wpAny_setState_of ho hd hf (wpAny_bind (wpAny_bind (wpAny_askSetting (wpAny_pure ?_))))))
  dsimp only
  rw [if_pos hb, if_neg (by simp)]
  refine wpAny_bind (wpAny_bind (wpAny_setState_of ho hd hf (wpAny_bind (wpAny_bind (wpAny_askSetting (wpAny_pure ?_))))))
  dsimp only
  rw [if_pos hb]
  refine wpAny_bind (wpAny_askSetting (wpAny_pure (wpAny_pure ?_)))
  dsimp only
  have e2 : (pickOrder ((model prog w).w.params.setOrder a ep) es)[(i : Int).toNat]? = some (hx, x) := by rw [Int.toNat_natCast]; exact he
  rw [e2]
  dsimp only [Option.map]
  refine wpAny_bind (wpAny_setField hI rfl (by show 0 < 5; decide) ?_)
  have h1 := Heap.get?_update_self (Obj.mapFields (·.setIfInBounds 0 (rawInt ((0 : Int).toNat : Nat)))) hI rfl
  refine wpAny_bind (wpAny_setField h1 rfl (by show 1 < 5; decide) (wpAny_pure ⟨x, rfl, h _ ?_ ((Heap.SameBut.update ..).trans (Heap.SameBut.update ..))⟩))
  exact Heap.get?_update_self _ h1 rfl
theorem stop_text {I a : Addr} {o : Obj} {es : Array (Int × Value)} {ep i : Nat} {t : SetTable} {Q : Option Value → Shared → Prop} (hh : A.handled = none) (hbt : byTx w = true) (hI : s.heap.get? I = some (itO (.int 0 0) i a es.size ep))
    (ho : s.heap.get? a = some o) (hd : o.data = .set es ep t) (hf : t.fits es.size = true) (he : (pickOrder (w.params.setOrder a ep) es)[i]? = none)
    (h : ∀ h', Heap.ExtBut I s.heap h' → Q none { s with heap := h' }) : wpAny (model prog w) A (pyNext (.ref I)) Q E s := by
  refine pyNext_core hI ho hd hf ?_
  unfold nextTail setNext setWalk setsByText
  dsimp only
  have hb : (model prog w).w.params.followText "set-order" = true := hbt
  refine wpAny_bind (wpAny_bind (wpAny_setState_of ho hd hf (wpAny_bind (wpAny_bind (wpAny_askSetting (wpAny_pure ?_))))))
  dsimp only
  rw [if_pos hb, if_neg (by simp)]
  refine wpAny_bind (wpAny_bind (wpAny_setState_of ho hd hf (wpAny_bind (wpAny_bind (wpAny_askSetting (wpAny_pure ?_))))))
  dsimp only
  rw [if_pos hb]
  refine wpAny_bind (wpAny_askSetting (wpAny_pure (wpAny_pure ?_)))
  dsimp only
  have e2 : (pickOrder ((model prog w).w.params.setOrder a ep) es)[(i : Int).toNat]? = none := by rw [Int.toNat_natCast]; exact he
  rw [e2]
  dsimp only [Option.map]
  refine wpAny_bind (wpAny_setField hI rfl (by show 2 < 5; decide) ?_)
  exact stop_raise hh fun h' hk => h h' fun b o hb e => hk b o ((Heap.SameBut.update ..).extBut b o hb e)
theorem below_zero {p : Nat} : SetTable.below #[p] 0 = 0 := by
  unfold SetTable.below SetTable.below.go
  simp [SetTable.below.go]
theorem below_past {p : Nat} : SetTable.below #[p] (p + 1) = 1 := by
  unfold SetTable.below SetTable.below.go
  simp [SetTable.below.go]
theorem one_tail {I a : Addr} {o : Obj} {slot : Nat} {hx : Int} {x : Value} {ep : Nat} {t : SetTable} {Q : Option (Value × Nat) → Shared → Prop} (hbt : byTx w = false)
    (ho : s.heap.get? a = some o) (hd : o.data = .set #[(hx, x)] ep t) (hf : t.fits 1 = true) (hl : t.led = true) (given : Nat)
    (h : Q (match #[(hx, x)][SetTable.below t.place slot]?, t.place[SetTable.below t.place slot]? with | some (_, x), some j => some (x, j + 1) | _, _ => none) s) : wpAny (model prog w) A (setNext a slot given ep) Q E s := by
  unfold setNext setsByText
  have hb : (model prog w).w.params.followText "set-order" = false := hbt
  refine wpAny_bind (wpAny_setState_of ho hd hf (wpAny_bind (wpAny_bind (wpAny_askSetting (wpAny_pure ?_)))))
  dsimp only
  rw [if_neg (by rw [hb]; exact Bool.false_ne_true)]
  show wpAny _ _ (if (!t.plain && decide (1 > 1)) = true then _ else _) _ _ _
  rw [if_neg (by simp)]
  refine wpAny_bind ?_
  show wpAny _ _ (if (!t.led && _) = true then _ else _) _ _ _
  rw [hl, if_neg (by simp)]
  exact wpAny_pure (wpAny_pure h)
theorem next_one {I a : Addr} {o : Obj} {hx : Int} {x : Value} {ep p : Nat} {t : SetTable} {Q : Option Value → Shared → Prop} (hbt : byTx w = false) (hI : s.heap.get? I = some (itO (.int 0 0) 0 a 1 ep))
    (ho : s.heap.get? a = some o) (hd : o.data = .set #[(hx, x)] ep t) (hf : t.fits 1 = true) (hl : t.led = true) (hp : t.place = #[p])
    (h : ∀ h', h'.get? I = some (itO (.int ((p + 1 : Nat) : Int) 0) 1 a 1 ep) → Heap.SameBut I s.heap h' → Q (some x) { s with heap := h' }) : wpAny (model prog w) A (pyNext (.ref I)) Q E s := by
  refine pyNext_core (es := #[(hx, x)]) hI ho hd hf ?_
  unfold nextTail
  dsimp only
  refine wpAny_bind (one_tail (I := I) hbt ho hd hf hl _ ?_)
  have e0 : (0 : Int).toNat = 0 := rfl
  rw [e0, hp, below_zero]
  show wpAny _ _ (setField (.ref I) 0 (rawInt ((p + 1 : Nat) : Int)) >>= _) _ _ _
  refine wpAny_bind (wpAny_setField hI rfl (by show 0 < 5; decide) ?_)
  have h1 := Heap.get?_update_self (Obj.mapFields (·.setIfInBounds 0 (rawInt ((p + 1 : Nat) : Int)))) hI rfl
  refine wpAny_bind (wpAny_setField h1 rfl (by show 1 < 5; decide) (wpAny_pure ⟨x, rfl, h _ ?_ ((Heap.SameBut.update ..).trans (Heap.SameBut.update ..))⟩))
  exact Heap.get?_update_self _ h1 rfl
theorem stop_one {I a : Addr} {o : Obj} {hx : Int} {x : Value} {ep p : Nat} {t : SetTable} {Q : Option Value → Shared → Prop} (hh : A.handled = none) (hbt : byTx w = false) (hI : s.heap.get? I = some (itO (.int ((p + 1 : Nat) : Int) 0) 1 a 1 ep))
    (ho : s.heap.get? a = some o) (hd : o.data = .set #[(hx, x)] ep t) (hf : t.fits 1 = true) (hl : t.led = true) (hp : t.place = #[p])
    (h : ∀ h', Heap.ExtBut I s.heap h' → Q none { s with heap := h' }) : wpAny (model prog w) A (pyNext (.ref I)) Q E s := by
  refine pyNext_core (es := #[(hx, x)]) hI ho hd hf ?_
  unfold nextTail
  dsimp only
  refine wpAny_bind (one_tail (I := I) hbt ho hd hf hl _ ?_)
  rw [Int.toNat_natCast, hp, below_past]
  show wpAny _ _ (setField (.ref I) 2 .none >>= _) _ _ _
  refine wpAny_bind (wpAny_setField hI rfl (by show 2 < 5; decide) ?_)
  exact stop_raise hh fun h' hk => h h' fun b o hb e => hk b o ((Heap.SameBut.update ..).extBut b o hb e)
end
end Mine
namespace Mine
section
variable {w : World} {o₀ : OsState} {g g₂ : Heap} {L : Addr} {nm gl : List Str} {vs vs' : List (Option Value)} {led led' : Led} {s s₂ : Shared} {A : Around} {env : Env}
variable {a b : Int} {x y z : Str} {t u v : Tok}
theorem St.base (S : St w o₀ g₂ L nm vs led s) (P : Prg w g) (h : Sub g g₂) : St w o₀ g L nm vs led s := by
  have no : ∀ b, g₂.get? b = none → g.get? b = none := fun b e => by
    cases q : g.get? b with
    | none => rfl
    | some o => rw [h _ _ q] at e; cases e
  exact ⟨P, S.ns, fun b o e => S.keep b o (h b o e), no _ S.Lg, fun c hc => ⟨(S.ld c hc).1, (S.ld c hc).2.1, no _ (S.ld c hc).2.2⟩, S.nd, S.gens, S.os⟩
theorem Has.sub {c : Cell} (H : Has w.params g led c) (h : Sub g g₂) : Has w.params g₂ led c := by
  cases H with
  | led m => exact .led m
  | frz k => exact .frz (k.keeps fun o e => h _ _ e)
/- the ledger's head becomes a part of the frozen base -/
theorem St.freeze1 {c : Cell} (S : St w o₀ g L nm vs (c :: led) s) : ∃ g₂, Sub g g₂ ∧ c.ok w.params g₂ ∧ St w o₀ g₂ L nm vs led s := by
  obtain ⟨g₂, h1, h2, h3⟩ := S.forget.freeze
  have D := S.ld c (.head _)
  obtain ⟨o, e, ok⟩ := D.1
  exact ⟨g₂, h1, ⟨o, h3 _ _ e D.2.1 (List.nodup_cons.mp S.nd).1, ok⟩, h2⟩
theorem k_set {D : Addr} {l : List Value} {xs : List Str} {n : Nat} {Q : QV} (S : St w o₀ g L nm vs led s) (hA : Ok A n) (hl : Has w.params g led (.lst D l)) (hx : Strs l xs) (hn : Nat.ble xs.length 90 = true)
    (h : ∀ s a o, SetS pg w (!byTx w) (metS xs) o → St w o₀ g L nm vs (.raw a o :: led) s → Q (.ref a) s) : WC w A (.type "set") [.ref D] [] Q s := by
  rw [wc]
  have hn := Nat.le_of_ble_eq_true hn
  refine call_set_S (xs := xs) hA.hd (hl.list S) (fun i v e => ?_) (by rw [List.size_toArray, hx.length]) (by rw [List.size_toArray, hx.length]; lia) fun h' tk o q1 q2 q3 => h _ s.heap.objs.size o q2 ?_
  · rw [List.getElem?_toArray] at e
    obtain ⟨c, tc, rfl, hc⟩ := hx.at e
    exact ⟨c, tc, hc, rfl⟩
  · have S' := S.more (s' := { s with heap := h', toks := tk }) (fun b o e => q3 b o (Heap.lt_size e) e) rfl rfl
    refine ⟨S'.P, S'.ns, S'.keep, S'.Lg, fun p hp => ?_, List.nodup_cons.mpr ⟨S.none_at (Nat.le_refl _), S.nd⟩, S'.gens, S'.os⟩
    rcases List.mem_cons.mp hp with rfl | hp
    · exact ⟨⟨o, q1, rfl⟩, Nat.ne_of_gt S.ns.lt, S.fresh⟩
    · exact S'.ld p hp
theorem q_in_set {D : Addr} {o : Obj} {xs : List Str} {led' : Bool} {Q : QV} (S : St w o₀ g L nm vs led s) (hd : Has w.params g led (.raw D o)) (hs : SetS pg w led' xs o) (h : ∀ s, St w o₀ g L nm vs led s → Q (.bool (xs.contains x)) s) : WCmp w A .In (.str x t) (.ref D) Q s := by
  rw [wcmp]
  obtain ⟨o', h1, rfl⟩ := hd.at S
  exact wpAny_inSet_of (k := x) (strKind_is pg w x t) rfl (hs.setOf h1) (h _ (S.tok _))
end
end Mine
namespace Mine
section
variable {w : World} {o₀ : OsState} {g g₂ : Heap} {L : Addr} {nm gl : List Str} {vs vs' : List (Option Value)} {led led' : Led} {s s₂ : Shared} {A : Around} {env : Env}
variable {a b : Int} {x y z : Str} {t u v : Tok}
/- a for over an iterator whose run is known -/
theorem f_gen {target : Expr} {body : List Stmt} {K : QF} {I : Addr} {n : Nat} (ord : List Value) (It : Nat → Obj) (S : St w o₀ g L nm vs (.raw I (It 0) :: led) s) (ht : ∀ v, letOwnedTupleGo target (.ref I) v = pure ())
    (item : ∀ k v s vs, ord[k]? = some v → St w o₀ g L nm vs (.raw I (It k) :: led) s → ∀ Q : Option Value → Shared → Prop, (∀ s', St w o₀ g L nm vs (.raw I (It (k + 1)) :: led) s' → Q (some v) s') → wpAny (MM w) A (pyNext (.ref I)) Q FF s)
    (stop : ∀ s vs, St w o₀ g L nm vs (.raw I (It ord.length) :: led) s → ∀ Q : Option Value → Shared → Prop, (∀ s', St w o₀ g L nm vs led s' → Q none s') → wpAny (MM w) A (pyNext (.ref I)) Q FF s)
    (J : Nat → List (Option Value) → Prop) (h0 : J 0 vs)
    (turn : ∀ k v vs s, ord[k]? = some v → J k vs → St w o₀ g L nm vs (.raw I (It (k + 1)) :: led) s →
      WAs w A env target v (fun _ s₂ => WX w A env body (FEnd (fun s₃ => ∃ vs', St w o₀ g L nm vs' (.raw I (It (k + 1)) :: led) s₃ ∧ J (k + 1) vs') K) s₂) s)
    (fin : ∀ vs s, J ord.length vs → St w o₀ g L nm vs led s → K .next s) : WF w A env target (.ref I) body K s := by
  unfold WF
  refine codeAny_forLoop (I := fun m s => ∃ k vs, m = ord.length + 1 - k ∧ k ≤ ord.length ∧ J k vs ∧ St w o₀ g L nm vs (.raw I (It k) :: led) s) (fun m s hI => ?_) (ord.length + 1) ⟨0, vs, by lia, by lia, h0, S⟩ ht
  obtain ⟨k, vs, rfl, hk, hJ, S⟩ := hI
  cases hv : ord[k]? with
  | none =>
    have e : k = ord.length := Nat.le_antisymm hk (by simpa using hv)
    subst e
    refine noted_of (stop s vs S _ fun s' S' => ?_)
    exact noted_of (wpAny_execs_nil (fin vs s' hJ S'))
  | some v =>
    have hlt : k < ord.length := (List.getElem?_eq_some_iff.mp hv).1
    refine noted_of (item k v s vs hv S _ fun s' S' => ?_)
    have t := turn k v vs s' hv hJ S'
    rw [was] at t
    refine noted_of (wpAny_mono t (fun _ s₂ h₂ => ?_) fun _ _ q => q)
    rw [wx] at h₂
    refine noted_of (wpAny_mono h₂ (fun f s₃ h₃ => ?_) fun _ _ q => q)
    rw [fend] at h₃
    have nx : (∃ vs', St w o₀ g L nm vs' (.raw I (It (k + 1)) :: led) s₃ ∧ J (k + 1) vs') → ∃ m, m < ord.length + 1 - k ∧ ∃ k' vs, m = ord.length + 1 - k' ∧ k' ≤ ord.length ∧ J k' vs ∧ St w o₀ g L nm vs (.raw I (It k') :: led) s₃ := fun ⟨vs', S₃, J₃⟩ =>
      ⟨ord.length + 1 - (k + 1), by lia, k + 1, vs', rfl, hlt, J₃, S₃⟩
    cases f with
    | next => exact nx h₃
    | cont => exact nx h₃
    | brk => exact h₃
    | ret v => exact h₃
/- one object of the ledger's head has changed -/
theorem St.head {I : Addr} {o o' : Obj} {h' : Heap} (S : St w o₀ g L nm vs (.raw I o :: led) s) (h1 : h'.get? I = some o') (h2 : Heap.SameBut I s.heap h') : St w o₀ g L nm vs (.raw I o' :: led) { s with heap := h' } :=
  S.at (s' := { s with heap := h' }) (c := .raw I o) (c' := .raw I o') .head rfl h2.extBut ⟨o', h1, rfl⟩ rfl rfl
end
end Mine
namespace Mine
theorem arr_one {α : Type} {es : Array α} (h : es.size = 1) : ∃ e, es = #[e] := by
  obtain ⟨l⟩ := es
  match l, h with
  | [e], _ => exact ⟨e, rfl⟩
section
variable {w : World} {o₀ : OsState} {g g₂ : Heap} {L : Addr} {nm gl : List Str} {vs vs' : List (Option Value)} {led led' : Led} {s s₂ : Shared} {A : Around} {env : Env}
/- a for over a set of texts: each of them comes, in some order -/
theorem for_set {target : Expr} {body : List Stmt} {K : QF} {a : Addr} {o : Obj} {xs : List Str} {n : Nat} (hA : Ok A n) (S : St w o₀ g L nm vs led s) (ht : ∀ it v, letOwnedTupleGo target it v = pure ())
    (ha : Has w.params g led (.raw a o)) (hS : SetS pg w (!byTx w) xs o) (hne : xs ≠ []) (J : List Str → List (Option Value) → Prop) (h0 : J [] vs)
    (turn : ∀ g₂, Sub g g₂ → ∀ x t seen vs I oI s, x ∈ xs → J seen vs → St w o₀ g₂ L nm vs (.raw I oI :: led) s →
      WAs w A env target (.str x t) (fun _ s₂ => WX w A env body (FEnd (fun s₃ => ∃ vs', St w o₀ g₂ L nm vs' (.raw I oI :: led) s₃ ∧ J (x :: seen) vs') K) s₂) s)
    (fin : ∀ seen vs s, (∀ x ∈ xs, x ∈ seen) → J seen vs → St w o₀ g L nm vs led s → K .next s) : WIt w A (.ref a) (fun it s₂ => WF w A env target it body K s₂) s := by
  rw [wit]
  obtain ⟨es, ep, tb, rfl, hel, hmem, hsz, hz, hf, hled, hpl⟩ := hS
  obtain ⟨o', hao, rfl⟩ := ha.at S
  -- the values in an order
  have key : ∀ (g₂ : Heap) (ord : List Value) (I : Addr) (It : Nat → Obj) (s : Shared), Sub g g₂ → (∃ l : List (Int × Value), l.Perm es.toList ∧ ord = l.map (·.2)) → St w o₀ g₂ L nm vs (.raw I (It 0) :: led) s →
      (∀ k v s vs, ord[k]? = some v → St w o₀ g₂ L nm vs (.raw I (It k) :: led) s → ∀ Q : Option Value → Shared → Prop, (∀ s', St w o₀ g₂ L nm vs (.raw I (It (k + 1)) :: led) s' → Q (some v) s') → wpAny (MM w) A (pyNext (.ref I)) Q FF s) →
      (∀ s vs, St w o₀ g₂ L nm vs (.raw I (It ord.length) :: led) s → ∀ Q : Option Value → Shared → Prop, (∀ s', St w o₀ g₂ L nm vs led s' → Q none s') → wpAny (MM w) A (pyNext (.ref I)) Q FF s) → WF w A env target (.ref I) body K s := by
    intro g₂ ord I It s hg hord S₂ item stop
    obtain ⟨l, hp, rfl⟩ := hord
    have hval : ∀ e ∈ l, ∃ x t, e.2 = Value.str x t ∧ x ∈ xs := fun e he => by
      have he' := hp.mem_iff.mp he
      obtain ⟨⟨k, hk, _⟩, _⟩ := hel e he'
      obtain ⟨tk, hk'⟩ := Value.isStrOf_shape (x := k) hk
      exact ⟨k, tk, hk', (hmem k).mpr ⟨e, he', hk⟩⟩
    refine f_gen (n := n) (l.map (·.2)) It S₂ (ht _) item stop (fun k vs => ∃ seen, J seen vs ∧ ∀ e ∈ l.take k, ∃ x t, e.2 = Value.str x t ∧ x ∈ seen) ⟨[], h0, fun e he => by simp at he⟩ (fun k v vs s hv hJ S₃ => ?_) (fun vs s hJ S₃ => ?_)
    · obtain ⟨seen, hJ, hseen⟩ := hJ
      rw [List.getElem?_map, Option.map_eq_some_iff] at hv
      obtain ⟨e, he, rfl⟩ := hv
      obtain ⟨x, tx, hx, hxs⟩ := hval e (List.mem_of_getElem? he)
      have z := turn g₂ hg x tx seen vs I _ s hxs hJ S₃
      rw [hx]
      rw [was] at z ⊢
      refine wpAny_mono z (fun _ s₂ h₂ => ?_) fun _ _ q => q
      rw [wx] at h₂ ⊢
      refine wpAny_mono h₂ (fun f s₃ h₃ => ?_) fun _ _ q => q
      rw [fend] at h₃ ⊢
      have nx : (∃ vs', St w o₀ g₂ L nm vs' (.raw I (It (k + 1)) :: led) s₃ ∧ J (x :: seen) vs') → ∃ vs', St w o₀ g₂ L nm vs' (.raw I (It (k + 1)) :: led) s₃ ∧ ∃ seen, J seen vs' ∧ ∀ e ∈ l.take (k + 1), ∃ x t, e.2 = Value.str x t ∧ x ∈ seen := by
        rintro ⟨vs', q1, q2⟩
        exact ⟨vs', q1, x :: seen, q2, fun e' he' => by
          rw [take_succ' he] at he'
          rcases List.mem_append.mp he' with h | h
          · obtain ⟨y, ty, q3, q4⟩ := hseen e' h; exact ⟨y, ty, q3, .tail _ q4⟩
          · rw [List.mem_singleton] at h; subst h; exact ⟨x, tx, hx, .head _⟩⟩
      cases f with
      | next => exact nx h₃
      | cont => exact nx h₃
      | brk => exact h₃
      | ret v => exact h₃
    · obtain ⟨seen, hJ, hseen⟩ := hJ
      rw [List.length_map, List.take_length] at hseen
      refine fin seen vs s (fun x hx => ?_) hJ (S₃.base S.P hg)
      obtain ⟨e, he, hk⟩ := (hmem x).mp hx
      obtain ⟨y, ty, q1, q2⟩ := hseen e (hp.mem_iff.mpr he)
      obtain ⟨tk, hk'⟩ := Value.isStrOf_shape (x := x) hk
      rw [hk'] at q1
      cases q1; exact q2
  refine pyIter_set hao rfl rfl hf (fun hb l d hp => ?_) (fun hb => ?_) hz
  · -- drawn places
    have S1 := (S.heap (s' := { s with drawn := d }) rfl rfl rfl).alloc (.raw s.heap.objs.size { cls := .type "tuple", data := .seq (l.map fun (i : Nat) => rawInt i).toArray }) _ rfl rfl rfl
    have S2 := S1.alloc (.raw (s.heap.objs.size + 1) (itO (.ref s.heap.objs.size) 0 a es.size ep)) _ rfl (by show _ = (s.heap.push _).objs.size; rw [Heap.size_push]; rfl) rfl
    obtain ⟨g₂, hg, hT, S3⟩ := (S2.perm (List.Perm.swap ..)).freeze1
    have hT' : ∀ s vs led, St w o₀ g₂ L nm vs led s → s.heap.get? _ = some _ := fun s vs led S => by obtain ⟨oT, q, rfl⟩ := hT; exact S.keep _ _ q
    have ha' : ∀ s vs I oI, St w o₀ g₂ L nm vs (.raw I oI :: led) s → s.heap.get? a = some _ := fun s vs I oI S => by
      obtain ⟨oo, q, rfl⟩ := ((ha.sub hg) : Has w.params g₂ led _).at S.forget
      exact q
    have hrg : (List.range es.size).map (fun j => es.getD j (0, .none)) = es.toList := by
      apply List.ext_getElem
      · simp
      · intro i h1 h2
        simp only [List.getElem_map, List.getElem_range]
        have h3 : i < es.size := by simpa using h2
        simp [Array.getD, h3]
    refine key g₂ ((l.map fun j => es.getD j (0, .none)).map (·.2)) (s.heap.objs.size + 1) (fun k => itO (.ref s.heap.objs.size) (k : Nat) a es.size ep) _ (fun b o e => hg b o e) ⟨_, by rw [← hrg]; exact hp.map _, rfl⟩ S3 (fun k v s' vs hv S4 Q q => ?_) (fun s' vs S4 Q q => ?_)
    · rw [List.map_map, List.getElem?_map, Option.map_eq_some_iff] at hv
      obtain ⟨j, hj, rfl⟩ := hv
      have hjr : j < es.size := List.mem_range.mp (hp.mem_iff.mp (List.mem_of_getElem? hj))
      obtain ⟨oI, q1, rfl⟩ := (S4.ld _ (.head _)).1
      refine next_drawn (T := s.heap.objs.size) (l := l) (j := j) (hx := es[j].1) q1 (hT' _ _ _ S4) (ha' _ _ _ _ S4) rfl hf hj (by rw [Array.getElem?_eq_getElem hjr]) fun h' r1 r2 => ?_
      have : (Function.comp (fun (x : Int × Value) => x.2) (fun j => es.getD j (0, .none))) j = es[j].2 := by simp [Array.getD, hjr]
      rw [this] at q
      exact q _ (S4.head r1 r2)
    · rw [List.length_map, List.length_map] at S4
      obtain ⟨oI, q1, rfl⟩ := (S4.ld _ (.head _)).1
      exact stop_drawn (T := s.heap.objs.size) (l := l) hA.hd q1 (hT' _ _ _ S4) (ha' _ _ _ _ S4) rfl hf (by simp) fun h' r => q _ (S4.drop (s' := { s' with heap := h' }) r rfl rfl)
  · have S2 := S.alloc (.raw s.heap.objs.size (itO (.int 0 0) 0 a es.size ep)) _ rfl rfl rfl
    have ha' : ∀ s vs I oI, St w o₀ g L nm vs (.raw I oI :: led) s → s.heap.get? a = some _ := fun s vs I oI S => by
      obtain ⟨oo, q, rfl⟩ := ha.at S.forget
      exact q
    cases hbt : byTx w with
    | true =>
      refine key g ((pickOrder (w.params.setOrder a ep) es).toList.map (·.2)) s.heap.objs.size (fun k => itO (.int 0 0) (k : Nat) a es.size ep) _ (fun b o e => e) ⟨_, pickOrder_perm, rfl⟩ S2 (fun k v s' vs hv S4 Q q => ?_) (fun s' vs S4 Q q => ?_)
      · rw [List.getElem?_map, Option.map_eq_some_iff] at hv
        obtain ⟨e, he, rfl⟩ := hv
        obtain ⟨oI, q1, rfl⟩ := (S4.ld _ (.head _)).1
        exact next_text (hx := e.1) hbt q1 (ha' _ _ _ _ S4) rfl hf (by rw [← Array.getElem?_toList]; exact he) fun h' r1 r2 => q _ (S4.head r1 r2)
      · rw [List.length_map] at S4
        obtain ⟨oI, q1, rfl⟩ := (S4.ld _ (.head _)).1
        exact stop_text hA.hd hbt q1 (ha' _ _ _ _ S4) rfl hf (by rw [← Array.getElem?_toList]; simp) fun h' r => q _ (S4.drop (s' := { s' with heap := h' }) r rfl rfl)
    | false =>
      have hp : tb.plain = false := hpl.resolve_left hne
      have h1 : es.size = 1 := by
        rw [hbt, hp] at hb
        have : ¬ es.size > 1 := by simpa using hb
        have : 0 < xs.length := List.length_pos_iff.mpr hne
        lia
      obtain ⟨⟨hx, x⟩, rfl⟩ : ∃ e, es = #[e] := arr_one h1
      obtain ⟨p, hpl'⟩ : ∃ p, tb.place = #[p] := by
        have h2 : tb.place.size = 1 := by
          simp only [SetTable.fits, Bool.and_eq_true, beq_iff_eq] at hf
          exact hf.1
        exact arr_one h2
      have hl : tb.led = true := by rw [hled, hbt]; rfl
      refine key g [x] s.heap.objs.size (fun k => match k with | 0 => itO (.int 0 0) 0 a 1 ep | _ => itO (.int ((p + 1 : Nat) : Int) 0) 1 a 1 ep) _ (fun b o e => e) ⟨[(hx, x)], .refl _, rfl⟩ S2 (fun k v s' vs hv S4 Q q => ?_) (fun s' vs S4 Q q => ?_)
      · cases k with
        | zero =>
          cases hv
          obtain ⟨oI, q1, rfl⟩ := (S4.ld _ (.head _)).1
          exact next_one hbt q1 (ha' _ _ _ _ S4) rfl hf hl hpl' fun h' r1 r2 => q _ (S4.head r1 r2)
        | succ k => simp at hv
      · obtain ⟨oI, q1, rfl⟩ := (S4.ld _ (.head _)).1
        exact stop_one hA.hd hbt q1 (ha' _ _ _ _ S4) rfl hf hl hpl' fun h' r => q _ (S4.drop (s' := { s' with heap := h' }) r rfl rfl)
end
end Mine
namespace Mine
/- a comprehension whose iterator stands -/
@[irreducible] noncomputable def WCo (w : World) (A : Around) (env : Env) (elt : Expr) (x : Str) (px : Pos) (iter : Expr) (ifs : List Expr) (scope : Scope) (pos : Pos) (cl : List (Str × Addr)) (it : Value) (Q : QV) (s : Shared) : Prop :=
  wpAny (MM w) A (newList []) (fun acc s₃ => wpAny (MM w) A (newFunctionEnv scope env.globals cl [] env.qual none .none (some env)) (fun cenv s₄ =>
    codeAny (MM w) A (.compStart (.ListComp elt [⟨.Name x px, iter, ifs, 0⟩] scope pos) 0 it acc { cenv with scope := relabel scope env }) (compPost (MM w) A FF none Q acc cenv.locals) s₄) FF s₃) FF s
noncomputable def compSc (scope : Scope) (x : Str) : Bool := scope.names.all (fun y => decide (y.2 ≠ .cell)) && decide (scope.kind = .function) && decide (scope.names.lookup x = some .local) && scope.names.all (fun y => decide (y.2 = .local → scope.names.lookup y.1 = some .local))
section
variable {w : World} {o₀ : OsState} {g g₂ : Heap} {L : Addr} {nm gl : List Str} {vs vs' : List (Option Value)} {led led' : Led} {s s₂ : Shared} {A : Around} {env : Env}
theorem r_comp {elt iter : Expr} {x : Str} {px : Pos} {ifs : List Expr} {scope : Scope} {pos : Pos} {Q : QV} {cl : List (Str × Addr)} (hi : noSet iter = true) (hclos : closureFor scope env = pure cl) (hsc : compSc scope x = true)
    (h : WE w A env iter (fun xv s₁ => WIt w A xv (fun it s₂ => WCo w A env elt x px iter ifs scope pos cl it Q s₂) s₁) s) : WE w A env (.ListComp elt [⟨.Name x px, iter, ifs, 0⟩] scope pos) Q s := by
  simp only [compSc, Bool.and_eq_true, decide_eq_true_eq, List.all_eq_true] at hsc
  obtain ⟨⟨⟨h1, h2⟩, h3⟩, h4⟩ := hsc
  rw [we] at h ⊢
  simp only [wit] at h
  rw [eval_ListComp]
  refine wpAny_comprehension_free (use := none) rfl (fun x => by cases iter <;> first | rfl | cases hi) hclos h2 h4 (wpAny_mono h (fun xv s₁ h₁ => wpAny_mono h₁ (fun it s₂ h₂ => ?_) fun _ _ e => e) fun _ _ e => e)
  unfold WCo at h₂
  exact h₂
theorem lookup_relabel_ne {env : Env} {kd : NameKind} (hk : kd ≠ .free) : ∀ {names : List (Str × NameKind)} {x : Str}, names.lookup x = some kd →
    (names.map fun (n, k) => if (k == NameKind.free && env.scope.kind == .function && env.kindOf n == some .cell) then (n, NameKind.cell) else (n, k)).lookup x = some kd
  | [], _, h => by simp at h
  | (n, k) :: r, x, h => by
    have ih := @lookup_relabel_ne env kd hk r x
    show List.lookup x ((if (k == NameKind.free && env.scope.kind == .function && env.kindOf n == some .cell) = true then (n, NameKind.cell) else (n, k)) :: _) = _
    cases hx : x == n with
    | true =>
      simp only [List.lookup_cons, hx] at h
      have h : k = kd := by simpa using h
      subst h
      have : (k == NameKind.free) = false := beq_eq_false_iff_ne.mpr hk
      rw [this]
      simp [List.lookup_cons, hx]
    | false =>
      simp only [List.lookup_cons, hx] at h
      by_cases hc : (k == NameKind.free && env.scope.kind == .function && env.kindOf n == some .cell) = true
      · rw [if_pos hc]; simp only [List.lookup_cons, hx]; exact ih h
      · rw [if_neg hc]; simp only [List.lookup_cons, hx]; exact ih h
/- a comprehension's tests: none, or one -/
@[irreducible] noncomputable def WTs (w : World) (A : Around) (env : Env) (ifs : List Expr) (Q : QB) (s : Shared) : Prop :=
  wpAny (MM w) A (forIn ifs true fun c r => if r = true then do let ok ← isTrue c env (eval c env); pure (ForInStep.yield ok) else pure (ForInStep.yield r)) Q FF s
theorem ts_nil {Q : QB} (h : Q true s) : WTs w A env [] Q s := by unfold WTs; exact wpAny_tests_nil h
theorem ts_one {c : Expr} {Q : QB} (h : WT w A env c Q s) : WTs w A env [c] Q s := by unfold WTs; rw [wt] at h; exact wpAny_tests_one h
/- an iterator whose run is known -/
structure Iter (w : World) (o₀ : OsState) (g : Heap) (A : Around) (I : Addr) (ord : List Value) (Ic : Nat → Cell) : Prop where
  item : ∀ k v s L nm vs led, ord[k]? = some v → St w o₀ g L nm vs (Ic k :: led) s → ∀ Q : Option Value → Shared → Prop, (∀ s', St w o₀ g L nm vs (Ic (k + 1) :: led) s' → Q (some v) s') → wpAny (MM w) A (pyNext (.ref I)) Q FF s
  stop : ∀ s L nm vs led, St w o₀ g L nm vs (Ic ord.length :: led) s → ∀ Q : Option Value → Shared → Prop, (∀ s', St w o₀ g L nm vs led s' → Q none s') → wpAny (MM w) A (pyNext (.ref I)) Q FF s
  self : ∀ s L nm vs led, St w o₀ g L nm vs (Ic 0 :: led) s → ∀ Q : QV, Q (.ref I) s → wpAny (MM w) A (pyIter (.ref I)) Q FF s
end
end Mine
namespace Mine
noncomputable def compGl (scope : Scope) (x : Str) (gl : List Str) : Bool := allGlob scope gl && ((x :: gl).all fun y => !(y == ("__debug__" : Str))) && gl.all fun y => !(y == ("__name__" : Str))
section
variable {w : World} {o₀ : OsState} {g g₂ : Heap} {L : Addr} {nm gl : List Str} {vs vs' : List (Option Value)} {led led' : Led} {s s₂ : Shared} {A : Around} {env : Env}
/- the frame's dict alone has changed: what a contract knows stands -/
theorem St.outBut {h' : Heap} (S : St w o₀ g L nm vs led s) (hs : Heap.SameBut L s.heap h') : S0 w o₀ g led { s with heap := h' } :=
  ⟨S.P, fun b o e => hs.extBut b o (fun q => by rw [q, S.Lg] at e; cases e) (S.keep b o e), fun c hc => ⟨(S.ld c hc).1.keeps fun o q => hs.extBut _ o (S.ld c hc).2.1 q, (S.ld c hc).2.2⟩, S.nd, S.gens, S.os⟩
end
end Mine
namespace Mine
section
variable {w : World} {o₀ : OsState} {g g₂ : Heap} {L : Addr} {nm gl : List Str} {vs vs' : List (Option Value)} {led led' : Led} {s s₂ : Shared} {A : Around} {env : Env}
theorem iter_list {a I : Addr} {l : List Value} {n : Nat} (hA : Ok A n) (hl : (Cell.lst a l).ok w.params g) : Iter w o₀ g A I l (fun k => .itr I a k) := by
  have hls : ∀ {s L nm vs led}, St w o₀ g L nm vs led s → s.heap.IsList a l.toArray := fun S => (Has.frz hl : Has w.params g _ _).list S
  refine ⟨fun k v s L nm vs led hv S Q h => ?_, fun s L nm vs led S Q h => ?_, fun s L nm vs led S Q h => ?_⟩
  · obtain ⟨oi, hoi, hoc⟩ := (S.ld _ (.head _)).1
    exact wpAny_pyNext_list_item (it := I) (l := a) (i := k) ⟨oi, hoi, hoc⟩ (hls S) (by simpa using hv) fun h' hit' hs' => h _ (S.at (s' := { s with heap := h' }) (c := .itr I a k) (c' := .itr I a (k + 1)) .head rfl hs'.extBut hit' rfl rfl)
  · obtain ⟨oi, hoi, hoc⟩ := (S.ld _ (.head _)).1
    exact wpAny_pyNext_list_end (A := A) (it := I) (l := a) (i := l.length) hA.hd ⟨oi, hoi, hoc⟩ (hls S) (by simp) fun h' he => h _ (S.drop (s' := { s with heap := h' }) he rfl rfl)
  · obtain ⟨oi, hoi, hoc⟩ := (S.ld _ (.head _)).1
    exact wpAny_pyIter_listiter (it := I) (l := a) (i := 0) ⟨oi, hoi, hoc⟩ h
end
end Mine
namespace Mine
section
variable {w : World} {o₀ : OsState} {g g₂ : Heap} {L : Addr} {nm gl : List Str} {vs vs' : List (Option Value)} {led led' : Led} {s s₂ : Shared} {A : Around} {env : Env}
/- the display {text: number} -/
theorem r_dict1 {x : Str} {n : Int} {k1 k2 pos : Pos} {t1 t2 : Nat} {Q : QV} (S : St w o₀ g L nm vs led s) (h : ∀ s d, St w o₀ g L nm vs (.tab d [(x, n)] :: led) s → Q (.ref d) s) :
    WE w A env (.Dict [some (.Constant (.str x) t1 k1)] [.Constant (.int n) t2 k2] pos) Q s := by
  rw [we]
  have hm := modules_low (S.P.lim.keeps S.keep)
  have hne : (s.heap.objs.size == sysModules) = false := beq_eq_false_iff_ne.mpr (Nat.ne_of_gt hm)
  refine wpAny_Dict_pairs (knd := strKind pg w) (pairs := [(eval (.Constant (.str x) t1 k1) env, do let x ← eval (.Constant (.int n) t2 k2) env; standAt pos; pure x)]) rfl (by simp) (by simp) ?_
  unfold evalPairs
  refine wpAny_bind (wpAny_mkText (wpAny_bind (wpAny_holding (wpAny_bind (wpAny_Constant_int (wpAny_bind (wpAny_standAt (wpAny_pure ?_))))))))
  refine wpAny_bind (wpAny_holding (wpAny_pure (wpAny_pure ?_)))
  have hd0 : (s.heap.push { cls := .type "dict", data := .dict #[] }).DictOf (strKind pg w) s.heap.objs.size [] := ⟨_, #[], 0, Heap.get?_push_size _ rfl, ⟨rfl, rfl, rfl⟩, rfl, fun e he => by simp at he, .nil, by simp⟩
  refine ⟨[(x, .int n _)], ⟨strKind_is pg w x _, rfl, trivial⟩, hd0, fun h' hd hs => h _ s.heap.objs.size ?_⟩
  have S' := (S.push { cls := .type "dict", data := .dict #[] })
  have hk : ∀ b o, s.heap.get? b = some o → h'.get? b = some o := fun b o e => hs.extBut b o (Nat.ne_of_lt (Heap.lt_size e)) (Heap.get?_push_of_some _ e)
  have S2 := S.more (s' := { s with heap := h', toks := s.toks + 1 + 1 + 1 }) hk rfl rfl
  refine ⟨S2.P, S2.ns, S2.keep, S2.Lg, fun p hp => ?_, List.nodup_cons.mpr ⟨S.none_at (Nat.le_refl _), S.nd⟩, S2.gens, S2.os⟩
  rcases List.mem_cons.mp hp with rfl | hp
  · exact ⟨tab_of hd (.cons .nil) hne, Nat.ne_of_gt S.ns.lt, S.fresh⟩
  · exact S2.ld p hp
end
/- what is to hold behind a def's end is hidden behind a name -/
theorem hideF {w : World} {A : Around} {env : Env} {body : List Stmt} {Q : QV} {s : Shared} (h : ∀ KF : QF, (∀ v s, Q v s → KF (.ret v) s) → (∀ s, Q .none s → KF .next s) → WX w A env body KF s) :
    WX w A env body (fun fl s'' => Q (match fl with | .ret v => v | _ => .none) s'') s := h _ (fun _ _ x => x) (fun _ x => x)
theorem hideQ {w : World} {A : Around} {env : Env} {body : List Stmt} {K : QF} {s : Shared} (h : ∀ KF : QF, (∀ f s, K f s → KF f s) → WX w A env body KF s) : WX w A env body K s := h _ fun _ _ x => x
/- what is to hold behind a loop's turn is hidden behind a name -/
theorem hideE {w : World} {A : Around} {env : Env} {target : Expr} {v : Value} {body : List Stmt} {P : Shared → Prop} {K : QF} {s : Shared}
    (h : ∀ KK : QF, (∀ s, P s → KK .next s) → (∀ s, P s → KK .cont s) → (∀ s, K .next s → KK .brk s) → (∀ v s, K (.ret v) s → KK (.ret v) s) → WAs w A env target v (fun _ s₂ => WX w A env body KK s₂) s) :
    WAs w A env target v (fun _ s₂ => WX w A env body (FEnd P K) s₂) s := h _ (fun _ => fe_next) (fun _ => fe_cont) (fun _ => fe_brk) (fun _ _ => fe_ret)
/- places, told at once -/
theorem lk0 {x : Str} {ns v vs} : Lk (x :: ns) (some v :: vs) x v := .head
theorem lk1 {n0 x : Str} {u0 ns v vs} : Lk (n0 :: x :: ns) (u0 :: some v :: vs) x v := .tail lk0
theorem lk2 {n0 n1 x : Str} {u0 u1 ns v vs} : Lk (n0 :: n1 :: x :: ns) (u0 :: u1 :: some v :: vs) x v := .tail lk1
theorem lk3 {n0 n1 n2 x : Str} {u0 u1 u2 ns v vs} : Lk (n0 :: n1 :: n2 :: x :: ns) (u0 :: u1 :: u2 :: some v :: vs) x v := .tail lk2
theorem lk4 {n0 n1 n2 n3 x : Str} {u0 u1 u2 u3 ns v vs} : Lk (n0 :: n1 :: n2 :: n3 :: x :: ns) (u0 :: u1 :: u2 :: u3 :: some v :: vs) x v := .tail lk3
theorem lk5 {n0 n1 n2 n3 n4 x : Str} {u0 u1 u2 u3 u4 ns v vs} : Lk (n0 :: n1 :: n2 :: n3 :: n4 :: x :: ns) (u0 :: u1 :: u2 :: u3 :: u4 :: some v :: vs) x v := .tail lk4
theorem lk6 {n0 n1 n2 n3 n4 n5 x : Str} {u0 u1 u2 u3 u4 u5 ns v vs} : Lk (n0 :: n1 :: n2 :: n3 :: n4 :: n5 :: x :: ns) (u0 :: u1 :: u2 :: u3 :: u4 :: u5 :: some v :: vs) x v := .tail lk5
theorem lk7 {n0 n1 n2 n3 n4 n5 n6 x : Str} {u0 u1 u2 u3 u4 u5 u6 ns v vs} : Lk (n0 :: n1 :: n2 :: n3 :: n4 :: n5 :: n6 :: x :: ns) (u0 :: u1 :: u2 :: u3 :: u4 :: u5 :: u6 :: some v :: vs) x v := .tail lk6
theorem lk8 {n0 n1 n2 n3 n4 n5 n6 n7 x : Str} {u0 u1 u2 u3 u4 u5 u6 u7 ns v vs} : Lk (n0 :: n1 :: n2 :: n3 :: n4 :: n5 :: n6 :: n7 :: x :: ns) (u0 :: u1 :: u2 :: u3 :: u4 :: u5 :: u6 :: u7 :: some v :: vs) x v := .tail lk7
theorem lk9 {n0 n1 n2 n3 n4 n5 n6 n7 n8 x : Str} {u0 u1 u2 u3 u4 u5 u6 u7 u8 ns v vs} : Lk (n0 :: n1 :: n2 :: n3 :: n4 :: n5 :: n6 :: n7 :: n8 :: x :: ns) (u0 :: u1 :: u2 :: u3 :: u4 :: u5 :: u6 :: u7 :: u8 :: some v :: vs) x v := .tail lk8
theorem lk10 {n0 n1 n2 n3 n4 n5 n6 n7 n8 n9 x : Str} {u0 u1 u2 u3 u4 u5 u6 u7 u8 u9 ns v vs} : Lk (n0 :: n1 :: n2 :: n3 :: n4 :: n5 :: n6 :: n7 :: n8 :: n9 :: x :: ns) (u0 :: u1 :: u2 :: u3 :: u4 :: u5 :: u6 :: u7 :: u8 :: u9 :: some v :: vs) x v := .tail lk9
theorem lk11 {n0 n1 n2 n3 n4 n5 n6 n7 n8 n9 n10 x : Str} {u0 u1 u2 u3 u4 u5 u6 u7 u8 u9 u10 ns v vs} : Lk (n0 :: n1 :: n2 :: n3 :: n4 :: n5 :: n6 :: n7 :: n8 :: n9 :: n10 :: x :: ns) (u0 :: u1 :: u2 :: u3 :: u4 :: u5 :: u6 :: u7 :: u8 :: u9 :: u10 :: some v :: vs) x v := .tail lk10
theorem lk12 {n0 n1 n2 n3 n4 n5 n6 n7 n8 n9 n10 n11 x : Str} {u0 u1 u2 u3 u4 u5 u6 u7 u8 u9 u10 u11 ns v vs} : Lk (n0 :: n1 :: n2 :: n3 :: n4 :: n5 :: n6 :: n7 :: n8 :: n9 :: n10 :: n11 :: x :: ns) (u0 :: u1 :: u2 :: u3 :: u4 :: u5 :: u6 :: u7 :: u8 :: u9 :: u10 :: u11 :: some v :: vs) x v := .tail lk11
theorem lk13 {n0 n1 n2 n3 n4 n5 n6 n7 n8 n9 n10 n11 n12 x : Str} {u0 u1 u2 u3 u4 u5 u6 u7 u8 u9 u10 u11 u12 ns v vs} : Lk (n0 :: n1 :: n2 :: n3 :: n4 :: n5 :: n6 :: n7 :: n8 :: n9 :: n10 :: n11 :: n12 :: x :: ns) (u0 :: u1 :: u2 :: u3 :: u4 :: u5 :: u6 :: u7 :: u8 :: u9 :: u10 :: u11 :: u12 :: some v :: vs) x v := .tail lk12
theorem lk14 {n0 n1 n2 n3 n4 n5 n6 n7 n8 n9 n10 n11 n12 n13 x : Str} {u0 u1 u2 u3 u4 u5 u6 u7 u8 u9 u10 u11 u12 u13 ns v vs} : Lk (n0 :: n1 :: n2 :: n3 :: n4 :: n5 :: n6 :: n7 :: n8 :: n9 :: n10 :: n11 :: n12 :: n13 :: x :: ns) (u0 :: u1 :: u2 :: u3 :: u4 :: u5 :: u6 :: u7 :: u8 :: u9 :: u10 :: u11 :: u12 :: u13 :: some v :: vs) x v := .tail lk13
theorem lk15 {n0 n1 n2 n3 n4 n5 n6 n7 n8 n9 n10 n11 n12 n13 n14 x : Str} {u0 u1 u2 u3 u4 u5 u6 u7 u8 u9 u10 u11 u12 u13 u14 ns v vs} : Lk (n0 :: n1 :: n2 :: n3 :: n4 :: n5 :: n6 :: n7 :: n8 :: n9 :: n10 :: n11 :: n12 :: n13 :: n14 :: x :: ns) (u0 :: u1 :: u2 :: u3 :: u4 :: u5 :: u6 :: u7 :: u8 :: u9 :: u10 :: u11 :: u12 :: u13 :: u14 :: some v :: vs) x v := .tail lk14
theorem lk16 {n0 n1 n2 n3 n4 n5 n6 n7 n8 n9 n10 n11 n12 n13 n14 n15 x : Str} {u0 u1 u2 u3 u4 u5 u6 u7 u8 u9 u10 u11 u12 u13 u14 u15 ns v vs} : Lk (n0 :: n1 :: n2 :: n3 :: n4 :: n5 :: n6 :: n7 :: n8 :: n9 :: n10 :: n11 :: n12 :: n13 :: n14 :: n15 :: x :: ns) (u0 :: u1 :: u2 :: u3 :: u4 :: u5 :: u6 :: u7 :: u8 :: u9 :: u10 :: u11 :: u12 :: u13 :: u14 :: u15 :: some v :: vs) x v := .tail lk15
theorem lk17 {n0 n1 n2 n3 n4 n5 n6 n7 n8 n9 n10 n11 n12 n13 n14 n15 n16 x : Str} {u0 u1 u2 u3 u4 u5 u6 u7 u8 u9 u10 u11 u12 u13 u14 u15 u16 ns v vs} : Lk (n0 :: n1 :: n2 :: n3 :: n4 :: n5 :: n6 :: n7 :: n8 :: n9 :: n10 :: n11 :: n12 :: n13 :: n14 :: n15 :: n16 :: x :: ns) (u0 :: u1 :: u2 :: u3 :: u4 :: u5 :: u6 :: u7 :: u8 :: u9 :: u10 :: u11 :: u12 :: u13 :: u14 :: u15 :: u16 :: some v :: vs) x v := .tail lk16
theorem lk18 {n0 n1 n2 n3 n4 n5 n6 n7 n8 n9 n10 n11 n12 n13 n14 n15 n16 n17 x : Str} {u0 u1 u2 u3 u4 u5 u6 u7 u8 u9 u10 u11 u12 u13 u14 u15 u16 u17 ns v vs} : Lk (n0 :: n1 :: n2 :: n3 :: n4 :: n5 :: n6 :: n7 :: n8 :: n9 :: n10 :: n11 :: n12 :: n13 :: n14 :: n15 :: n16 :: n17 :: x :: ns) (u0 :: u1 :: u2 :: u3 :: u4 :: u5 :: u6 :: u7 :: u8 :: u9 :: u10 :: u11 :: u12 :: u13 :: u14 :: u15 :: u16 :: u17 :: some v :: vs) x v := .tail lk17
theorem up0 {x : Str} {ns u v vs} : Up (x :: ns) (u :: vs) x v (some v :: vs) := .head
theorem up1 {n0 x : Str} {u0 ns u v vs} : Up (n0 :: x :: ns) (u0 :: u :: vs) x v (u0 :: some v :: vs) := .tail up0
theorem up2 {n0 n1 x : Str} {u0 u1 ns u v vs} : Up (n0 :: n1 :: x :: ns) (u0 :: u1 :: u :: vs) x v (u0 :: u1 :: some v :: vs) := .tail up1
theorem up3 {n0 n1 n2 x : Str} {u0 u1 u2 ns u v vs} : Up (n0 :: n1 :: n2 :: x :: ns) (u0 :: u1 :: u2 :: u :: vs) x v (u0 :: u1 :: u2 :: some v :: vs) := .tail up2
theorem up4 {n0 n1 n2 n3 x : Str} {u0 u1 u2 u3 ns u v vs} : Up (n0 :: n1 :: n2 :: n3 :: x :: ns) (u0 :: u1 :: u2 :: u3 :: u :: vs) x v (u0 :: u1 :: u2 :: u3 :: some v :: vs) := .tail up3
theorem up5 {n0 n1 n2 n3 n4 x : Str} {u0 u1 u2 u3 u4 ns u v vs} : Up (n0 :: n1 :: n2 :: n3 :: n4 :: x :: ns) (u0 :: u1 :: u2 :: u3 :: u4 :: u :: vs) x v (u0 :: u1 :: u2 :: u3 :: u4 :: some v :: vs) := .tail up4
theorem up6 {n0 n1 n2 n3 n4 n5 x : Str} {u0 u1 u2 u3 u4 u5 ns u v vs} : Up (n0 :: n1 :: n2 :: n3 :: n4 :: n5 :: x :: ns) (u0 :: u1 :: u2 :: u3 :: u4 :: u5 :: u :: vs) x v (u0 :: u1 :: u2 :: u3 :: u4 :: u5 :: some v :: vs) := .tail up5
theorem up7 {n0 n1 n2 n3 n4 n5 n6 x : Str} {u0 u1 u2 u3 u4 u5 u6 ns u v vs} : Up (n0 :: n1 :: n2 :: n3 :: n4 :: n5 :: n6 :: x :: ns) (u0 :: u1 :: u2 :: u3 :: u4 :: u5 :: u6 :: u :: vs) x v (u0 :: u1 :: u2 :: u3 :: u4 :: u5 :: u6 :: some v :: vs) := .tail up6
theorem up8 {n0 n1 n2 n3 n4 n5 n6 n7 x : Str} {u0 u1 u2 u3 u4 u5 u6 u7 ns u v vs} : Up (n0 :: n1 :: n2 :: n3 :: n4 :: n5 :: n6 :: n7 :: x :: ns) (u0 :: u1 :: u2 :: u3 :: u4 :: u5 :: u6 :: u7 :: u :: vs) x v (u0 :: u1 :: u2 :: u3 :: u4 :: u5 :: u6 :: u7 :: some v :: vs) := .tail up7
theorem up9 {n0 n1 n2 n3 n4 n5 n6 n7 n8 x : Str} {u0 u1 u2 u3 u4 u5 u6 u7 u8 ns u v vs} : Up (n0 :: n1 :: n2 :: n3 :: n4 :: n5 :: n6 :: n7 :: n8 :: x :: ns) (u0 :: u1 :: u2 :: u3 :: u4 :: u5 :: u6 :: u7 :: u8 :: u :: vs) x v (u0 :: u1 :: u2 :: u3 :: u4 :: u5 :: u6 :: u7 :: u8 :: some v :: vs) := .tail up8
theorem up10 {n0 n1 n2 n3 n4 n5 n6 n7 n8 n9 x : Str} {u0 u1 u2 u3 u4 u5 u6 u7 u8 u9 ns u v vs} : Up (n0 :: n1 :: n2 :: n3 :: n4 :: n5 :: n6 :: n7 :: n8 :: n9 :: x :: ns) (u0 :: u1 :: u2 :: u3 :: u4 :: u5 :: u6 :: u7 :: u8 :: u9 :: u :: vs) x v (u0 :: u1 :: u2 :: u3 :: u4 :: u5 :: u6 :: u7 :: u8 :: u9 :: some v :: vs) := .tail up9
theorem up11 {n0 n1 n2 n3 n4 n5 n6 n7 n8 n9 n10 x : Str} {u0 u1 u2 u3 u4 u5 u6 u7 u8 u9 u10 ns u v vs} : Up (n0 :: n1 :: n2 :: n3 :: n4 :: n5 :: n6 :: n7 :: n8 :: n9 :: n10 :: x :: ns) (u0 :: u1 :: u2 :: u3 :: u4 :: u5 :: u6 :: u7 :: u8 :: u9 :: u10 :: u :: vs) x v (u0 :: u1 :: u2 :: u3 :: u4 :: u5 :: u6 :: u7 :: u8 :: u9 :: u10 :: some v :: vs) := .tail up10
theorem up12 {n0 n1 n2 n3 n4 n5 n6 n7 n8 n9 n10 n11 x : Str} {u0 u1 u2 u3 u4 u5 u6 u7 u8 u9 u10 u11 ns u v vs} : Up (n0 :: n1 :: n2 :: n3 :: n4 :: n5 :: n6 :: n7 :: n8 :: n9 :: n10 :: n11 :: x :: ns) (u0 :: u1 :: u2 :: u3 :: u4 :: u5 :: u6 :: u7 :: u8 :: u9 :: u10 :: u11 :: u :: vs) x v (u0 :: u1 :: u2 :: u3 :: u4 :: u5 :: u6 :: u7 :: u8 :: u9 :: u10 :: u11 :: some v :: vs) := .tail up11
theorem up13 {n0 n1 n2 n3 n4 n5 n6 n7 n8 n9 n10 n11 n12 x : Str} {u0 u1 u2 u3 u4 u5 u6 u7 u8 u9 u10 u11 u12 ns u v vs} : Up (n0 :: n1 :: n2 :: n3 :: n4 :: n5 :: n6 :: n7 :: n8 :: n9 :: n10 :: n11 :: n12 :: x :: ns) (u0 :: u1 :: u2 :: u3 :: u4 :: u5 :: u6 :: u7 :: u8 :: u9 :: u10 :: u11 :: u12 :: u :: vs) x v (u0 :: u1 :: u2 :: u3 :: u4 :: u5 :: u6 :: u7 :: u8 :: u9 :: u10 :: u11 :: u12 :: some v :: vs) := .tail up12
theorem up14 {n0 n1 n2 n3 n4 n5 n6 n7 n8 n9 n10 n11 n12 n13 x : Str} {u0 u1 u2 u3 u4 u5 u6 u7 u8 u9 u10 u11 u12 u13 ns u v vs} : Up (n0 :: n1 :: n2 :: n3 :: n4 :: n5 :: n6 :: n7 :: n8 :: n9 :: n10 :: n11 :: n12 :: n13 :: x :: ns) (u0 :: u1 :: u2 :: u3 :: u4 :: u5 :: u6 :: u7 :: u8 :: u9 :: u10 :: u11 :: u12 :: u13 :: u :: vs) x v (u0 :: u1 :: u2 :: u3 :: u4 :: u5 :: u6 :: u7 :: u8 :: u9 :: u10 :: u11 :: u12 :: u13 :: some v :: vs) := .tail up13
theorem ua0 {x : Str} {ns u v vs} : UpA (x :: ns) (some u :: vs) x v (some v :: vs) := .head
theorem ua1 {n0 x : Str} {u0 ns u v vs} : UpA (n0 :: x :: ns) (u0 :: some u :: vs) x v (u0 :: some v :: vs) := .tail ua0
theorem ua2 {n0 n1 x : Str} {u0 u1 ns u v vs} : UpA (n0 :: n1 :: x :: ns) (u0 :: u1 :: some u :: vs) x v (u0 :: u1 :: some v :: vs) := .tail ua1
theorem ua3 {n0 n1 n2 x : Str} {u0 u1 u2 ns u v vs} : UpA (n0 :: n1 :: n2 :: x :: ns) (u0 :: u1 :: u2 :: some u :: vs) x v (u0 :: u1 :: u2 :: some v :: vs) := .tail ua2
theorem ua4 {n0 n1 n2 n3 x : Str} {u0 u1 u2 u3 ns u v vs} : UpA (n0 :: n1 :: n2 :: n3 :: x :: ns) (u0 :: u1 :: u2 :: u3 :: some u :: vs) x v (u0 :: u1 :: u2 :: u3 :: some v :: vs) := .tail ua3
theorem ua5 {n0 n1 n2 n3 n4 x : Str} {u0 u1 u2 u3 u4 ns u v vs} : UpA (n0 :: n1 :: n2 :: n3 :: n4 :: x :: ns) (u0 :: u1 :: u2 :: u3 :: u4 :: some u :: vs) x v (u0 :: u1 :: u2 :: u3 :: u4 :: some v :: vs) := .tail ua4
theorem ua6 {n0 n1 n2 n3 n4 n5 x : Str} {u0 u1 u2 u3 u4 u5 ns u v vs} : UpA (n0 :: n1 :: n2 :: n3 :: n4 :: n5 :: x :: ns) (u0 :: u1 :: u2 :: u3 :: u4 :: u5 :: some u :: vs) x v (u0 :: u1 :: u2 :: u3 :: u4 :: u5 :: some v :: vs) := .tail ua5
theorem ua7 {n0 n1 n2 n3 n4 n5 n6 x : Str} {u0 u1 u2 u3 u4 u5 u6 ns u v vs} : UpA (n0 :: n1 :: n2 :: n3 :: n4 :: n5 :: n6 :: x :: ns) (u0 :: u1 :: u2 :: u3 :: u4 :: u5 :: u6 :: some u :: vs) x v (u0 :: u1 :: u2 :: u3 :: u4 :: u5 :: u6 :: some v :: vs) := .tail ua6
theorem ua8 {n0 n1 n2 n3 n4 n5 n6 n7 x : Str} {u0 u1 u2 u3 u4 u5 u6 u7 ns u v vs} : UpA (n0 :: n1 :: n2 :: n3 :: n4 :: n5 :: n6 :: n7 :: x :: ns) (u0 :: u1 :: u2 :: u3 :: u4 :: u5 :: u6 :: u7 :: some u :: vs) x v (u0 :: u1 :: u2 :: u3 :: u4 :: u5 :: u6 :: u7 :: some v :: vs) := .tail ua7
theorem ua9 {n0 n1 n2 n3 n4 n5 n6 n7 n8 x : Str} {u0 u1 u2 u3 u4 u5 u6 u7 u8 ns u v vs} : UpA (n0 :: n1 :: n2 :: n3 :: n4 :: n5 :: n6 :: n7 :: n8 :: x :: ns) (u0 :: u1 :: u2 :: u3 :: u4 :: u5 :: u6 :: u7 :: u8 :: some u :: vs) x v (u0 :: u1 :: u2 :: u3 :: u4 :: u5 :: u6 :: u7 :: u8 :: some v :: vs) := .tail ua8
theorem ua10 {n0 n1 n2 n3 n4 n5 n6 n7 n8 n9 x : Str} {u0 u1 u2 u3 u4 u5 u6 u7 u8 u9 ns u v vs} : UpA (n0 :: n1 :: n2 :: n3 :: n4 :: n5 :: n6 :: n7 :: n8 :: n9 :: x :: ns) (u0 :: u1 :: u2 :: u3 :: u4 :: u5 :: u6 :: u7 :: u8 :: u9 :: some u :: vs) x v (u0 :: u1 :: u2 :: u3 :: u4 :: u5 :: u6 :: u7 :: u8 :: u9 :: some v :: vs) := .tail ua9
theorem ua11 {n0 n1 n2 n3 n4 n5 n6 n7 n8 n9 n10 x : Str} {u0 u1 u2 u3 u4 u5 u6 u7 u8 u9 u10 ns u v vs} : UpA (n0 :: n1 :: n2 :: n3 :: n4 :: n5 :: n6 :: n7 :: n8 :: n9 :: n10 :: x :: ns) (u0 :: u1 :: u2 :: u3 :: u4 :: u5 :: u6 :: u7 :: u8 :: u9 :: u10 :: some u :: vs) x v (u0 :: u1 :: u2 :: u3 :: u4 :: u5 :: u6 :: u7 :: u8 :: u9 :: u10 :: some v :: vs) := .tail ua10
theorem ua12 {n0 n1 n2 n3 n4 n5 n6 n7 n8 n9 n10 n11 x : Str} {u0 u1 u2 u3 u4 u5 u6 u7 u8 u9 u10 u11 ns u v vs} : UpA (n0 :: n1 :: n2 :: n3 :: n4 :: n5 :: n6 :: n7 :: n8 :: n9 :: n10 :: n11 :: x :: ns) (u0 :: u1 :: u2 :: u3 :: u4 :: u5 :: u6 :: u7 :: u8 :: u9 :: u10 :: u11 :: some u :: vs) x v (u0 :: u1 :: u2 :: u3 :: u4 :: u5 :: u6 :: u7 :: u8 :: u9 :: u10 :: u11 :: some v :: vs) := .tail ua11
theorem ua13 {n0 n1 n2 n3 n4 n5 n6 n7 n8 n9 n10 n11 n12 x : Str} {u0 u1 u2 u3 u4 u5 u6 u7 u8 u9 u10 u11 u12 ns u v vs} : UpA (n0 :: n1 :: n2 :: n3 :: n4 :: n5 :: n6 :: n7 :: n8 :: n9 :: n10 :: n11 :: n12 :: x :: ns) (u0 :: u1 :: u2 :: u3 :: u4 :: u5 :: u6 :: u7 :: u8 :: u9 :: u10 :: u11 :: u12 :: some u :: vs) x v (u0 :: u1 :: u2 :: u3 :: u4 :: u5 :: u6 :: u7 :: u8 :: u9 :: u10 :: u11 :: u12 :: some v :: vs) := .tail ua12
theorem ua14 {n0 n1 n2 n3 n4 n5 n6 n7 n8 n9 n10 n11 n12 n13 x : Str} {u0 u1 u2 u3 u4 u5 u6 u7 u8 u9 u10 u11 u12 u13 ns u v vs} : UpA (n0 :: n1 :: n2 :: n3 :: n4 :: n5 :: n6 :: n7 :: n8 :: n9 :: n10 :: n11 :: n12 :: n13 :: x :: ns) (u0 :: u1 :: u2 :: u3 :: u4 :: u5 :: u6 :: u7 :: u8 :: u9 :: u10 :: u11 :: u12 :: u13 :: some u :: vs) x v (u0 :: u1 :: u2 :: u3 :: u4 :: u5 :: u6 :: u7 :: u8 :: u9 :: u10 :: u11 :: u12 :: u13 :: some v :: vs) := .tail ua13
theorem ua15 {n0 n1 n2 n3 n4 n5 n6 n7 n8 n9 n10 n11 n12 n13 n14 x : Str} {u0 u1 u2 u3 u4 u5 u6 u7 u8 u9 u10 u11 u12 u13 u14 ns u v vs} : UpA (n0 :: n1 :: n2 :: n3 :: n4 :: n5 :: n6 :: n7 :: n8 :: n9 :: n10 :: n11 :: n12 :: n13 :: n14 :: x :: ns) (u0 :: u1 :: u2 :: u3 :: u4 :: u5 :: u6 :: u7 :: u8 :: u9 :: u10 :: u11 :: u12 :: u13 :: u14 :: some u :: vs) x v (u0 :: u1 :: u2 :: u3 :: u4 :: u5 :: u6 :: u7 :: u8 :: u9 :: u10 :: u11 :: u12 :: u13 :: u14 :: some v :: vs) := .tail ua14
theorem mm0 {α : Type} {a : α} {l : List α} : a ∈ (a :: l) := .head _
theorem mm1 {α : Type} {b0 a : α} {l : List α} : a ∈ (b0 :: a :: l) := .tail _ mm0
theorem mm2 {α : Type} {b0 b1 a : α} {l : List α} : a ∈ (b0 :: b1 :: a :: l) := .tail _ mm1
theorem mm3 {α : Type} {b0 b1 b2 a : α} {l : List α} : a ∈ (b0 :: b1 :: b2 :: a :: l) := .tail _ mm2
theorem mm4 {α : Type} {b0 b1 b2 b3 a : α} {l : List α} : a ∈ (b0 :: b1 :: b2 :: b3 :: a :: l) := .tail _ mm3
theorem mm5 {α : Type} {b0 b1 b2 b3 b4 a : α} {l : List α} : a ∈ (b0 :: b1 :: b2 :: b3 :: b4 :: a :: l) := .tail _ mm4
theorem mm6 {α : Type} {b0 b1 b2 b3 b4 b5 a : α} {l : List α} : a ∈ (b0 :: b1 :: b2 :: b3 :: b4 :: b5 :: a :: l) := .tail _ mm5
theorem mm7 {α : Type} {b0 b1 b2 b3 b4 b5 b6 a : α} {l : List α} : a ∈ (b0 :: b1 :: b2 :: b3 :: b4 :: b5 :: b6 :: a :: l) := .tail _ mm6
theorem mm8 {α : Type} {b0 b1 b2 b3 b4 b5 b6 b7 a : α} {l : List α} : a ∈ (b0 :: b1 :: b2 :: b3 :: b4 :: b5 :: b6 :: b7 :: a :: l) := .tail _ mm7
theorem mm9 {α : Type} {b0 b1 b2 b3 b4 b5 b6 b7 b8 a : α} {l : List α} : a ∈ (b0 :: b1 :: b2 :: b3 :: b4 :: b5 :: b6 :: b7 :: b8 :: a :: l) := .tail _ mm8
theorem mm10 {α : Type} {b0 b1 b2 b3 b4 b5 b6 b7 b8 b9 a : α} {l : List α} : a ∈ (b0 :: b1 :: b2 :: b3 :: b4 :: b5 :: b6 :: b7 :: b8 :: b9 :: a :: l) := .tail _ mm9
theorem mm11 {α : Type} {b0 b1 b2 b3 b4 b5 b6 b7 b8 b9 b10 a : α} {l : List α} : a ∈ (b0 :: b1 :: b2 :: b3 :: b4 :: b5 :: b6 :: b7 :: b8 :: b9 :: b10 :: a :: l) := .tail _ mm10
theorem mm12 {α : Type} {b0 b1 b2 b3 b4 b5 b6 b7 b8 b9 b10 b11 a : α} {l : List α} : a ∈ (b0 :: b1 :: b2 :: b3 :: b4 :: b5 :: b6 :: b7 :: b8 :: b9 :: b10 :: b11 :: a :: l) := .tail _ mm11
theorem mm13 {α : Type} {b0 b1 b2 b3 b4 b5 b6 b7 b8 b9 b10 b11 b12 a : α} {l : List α} : a ∈ (b0 :: b1 :: b2 :: b3 :: b4 :: b5 :: b6 :: b7 :: b8 :: b9 :: b10 :: b11 :: b12 :: a :: l) := .tail _ mm12
theorem mm14 {α : Type} {b0 b1 b2 b3 b4 b5 b6 b7 b8 b9 b10 b11 b12 b13 a : α} {l : List α} : a ∈ (b0 :: b1 :: b2 :: b3 :: b4 :: b5 :: b6 :: b7 :: b8 :: b9 :: b10 :: b11 :: b12 :: b13 :: a :: l) := .tail _ mm13
theorem mm15 {α : Type} {b0 b1 b2 b3 b4 b5 b6 b7 b8 b9 b10 b11 b12 b13 b14 a : α} {l : List α} : a ∈ (b0 :: b1 :: b2 :: b3 :: b4 :: b5 :: b6 :: b7 :: b8 :: b9 :: b10 :: b11 :: b12 :: b13 :: b14 :: a :: l) := .tail _ mm14
theorem mm16 {α : Type} {b0 b1 b2 b3 b4 b5 b6 b7 b8 b9 b10 b11 b12 b13 b14 b15 a : α} {l : List α} : a ∈ (b0 :: b1 :: b2 :: b3 :: b4 :: b5 :: b6 :: b7 :: b8 :: b9 :: b10 :: b11 :: b12 :: b13 :: b14 :: b15 :: a :: l) := .tail _ mm15
theorem mm17 {α : Type} {b0 b1 b2 b3 b4 b5 b6 b7 b8 b9 b10 b11 b12 b13 b14 b15 b16 a : α} {l : List α} : a ∈ (b0 :: b1 :: b2 :: b3 :: b4 :: b5 :: b6 :: b7 :: b8 :: b9 :: b10 :: b11 :: b12 :: b13 :: b14 :: b15 :: b16 :: a :: l) := .tail _ mm16
theorem mm18 {α : Type} {b0 b1 b2 b3 b4 b5 b6 b7 b8 b9 b10 b11 b12 b13 b14 b15 b16 b17 a : α} {l : List α} : a ∈ (b0 :: b1 :: b2 :: b3 :: b4 :: b5 :: b6 :: b7 :: b8 :: b9 :: b10 :: b11 :: b12 :: b13 :: b14 :: b15 :: b16 :: b17 :: a :: l) := .tail _ mm17
theorem ul0 {c c' : Cell} {r : Led} : UpL c c' (c :: r) (c' :: r) := .head
theorem ul1 {c c' p0 : Cell} {r : Led} : UpL c c' (p0 :: c :: r) (p0 :: c' :: r) := .tail ul0
theorem ul2 {c c' p0 p1 : Cell} {r : Led} : UpL c c' (p0 :: p1 :: c :: r) (p0 :: p1 :: c' :: r) := .tail ul1
theorem ul3 {c c' p0 p1 p2 : Cell} {r : Led} : UpL c c' (p0 :: p1 :: p2 :: c :: r) (p0 :: p1 :: p2 :: c' :: r) := .tail ul2
theorem ul4 {c c' p0 p1 p2 p3 : Cell} {r : Led} : UpL c c' (p0 :: p1 :: p2 :: p3 :: c :: r) (p0 :: p1 :: p2 :: p3 :: c' :: r) := .tail ul3
theorem ul5 {c c' p0 p1 p2 p3 p4 : Cell} {r : Led} : UpL c c' (p0 :: p1 :: p2 :: p3 :: p4 :: c :: r) (p0 :: p1 :: p2 :: p3 :: p4 :: c' :: r) := .tail ul4
theorem ul6 {c c' p0 p1 p2 p3 p4 p5 : Cell} {r : Led} : UpL c c' (p0 :: p1 :: p2 :: p3 :: p4 :: p5 :: c :: r) (p0 :: p1 :: p2 :: p3 :: p4 :: p5 :: c' :: r) := .tail ul5
theorem ul7 {c c' p0 p1 p2 p3 p4 p5 p6 : Cell} {r : Led} : UpL c c' (p0 :: p1 :: p2 :: p3 :: p4 :: p5 :: p6 :: c :: r) (p0 :: p1 :: p2 :: p3 :: p4 :: p5 :: p6 :: c' :: r) := .tail ul6
theorem ul8 {c c' p0 p1 p2 p3 p4 p5 p6 p7 : Cell} {r : Led} : UpL c c' (p0 :: p1 :: p2 :: p3 :: p4 :: p5 :: p6 :: p7 :: c :: r) (p0 :: p1 :: p2 :: p3 :: p4 :: p5 :: p6 :: p7 :: c' :: r) := .tail ul7
theorem ul9 {c c' p0 p1 p2 p3 p4 p5 p6 p7 p8 : Cell} {r : Led} : UpL c c' (p0 :: p1 :: p2 :: p3 :: p4 :: p5 :: p6 :: p7 :: p8 :: c :: r) (p0 :: p1 :: p2 :: p3 :: p4 :: p5 :: p6 :: p7 :: p8 :: c' :: r) := .tail ul8
theorem ul10 {c c' p0 p1 p2 p3 p4 p5 p6 p7 p8 p9 : Cell} {r : Led} : UpL c c' (p0 :: p1 :: p2 :: p3 :: p4 :: p5 :: p6 :: p7 :: p8 :: p9 :: c :: r) (p0 :: p1 :: p2 :: p3 :: p4 :: p5 :: p6 :: p7 :: p8 :: p9 :: c' :: r) := .tail ul9
theorem ul11 {c c' p0 p1 p2 p3 p4 p5 p6 p7 p8 p9 p10 : Cell} {r : Led} : UpL c c' (p0 :: p1 :: p2 :: p3 :: p4 :: p5 :: p6 :: p7 :: p8 :: p9 :: p10 :: c :: r) (p0 :: p1 :: p2 :: p3 :: p4 :: p5 :: p6 :: p7 :: p8 :: p9 :: p10 :: c' :: r) := .tail ul10
theorem pk0 {c : Cell} {r : Led} : Pick c (c :: r) (r) := .head
theorem pk1 {c p0 : Cell} {r : Led} : Pick c (p0 :: c :: r) (p0 :: r) := .tail pk0
theorem pk2 {c p0 p1 : Cell} {r : Led} : Pick c (p0 :: p1 :: c :: r) (p0 :: p1 :: r) := .tail pk1
theorem pk3 {c p0 p1 p2 : Cell} {r : Led} : Pick c (p0 :: p1 :: p2 :: c :: r) (p0 :: p1 :: p2 :: r) := .tail pk2
theorem pk4 {c p0 p1 p2 p3 : Cell} {r : Led} : Pick c (p0 :: p1 :: p2 :: p3 :: c :: r) (p0 :: p1 :: p2 :: p3 :: r) := .tail pk3
theorem pk5 {c p0 p1 p2 p3 p4 : Cell} {r : Led} : Pick c (p0 :: p1 :: p2 :: p3 :: p4 :: c :: r) (p0 :: p1 :: p2 :: p3 :: p4 :: r) := .tail pk4
theorem pk6 {c p0 p1 p2 p3 p4 p5 : Cell} {r : Led} : Pick c (p0 :: p1 :: p2 :: p3 :: p4 :: p5 :: c :: r) (p0 :: p1 :: p2 :: p3 :: p4 :: p5 :: r) := .tail pk5
theorem pk7 {c p0 p1 p2 p3 p4 p5 p6 : Cell} {r : Led} : Pick c (p0 :: p1 :: p2 :: p3 :: p4 :: p5 :: p6 :: c :: r) (p0 :: p1 :: p2 :: p3 :: p4 :: p5 :: p6 :: r) := .tail pk6
end Mine
namespace Mine
/- a cell of a frame's -/
noncomputable def celC (c : Addr) (v : Option Value) : Cell := .prd c fun o => o.data = .cell v
noncomputable def celLed : List (Str × Addr) → List (Option Value) → Led
  | p :: cl, v :: cv => celC p.2 v :: celLed cl cv
  | _, _ => []
theorem celLed_c {p cl v cv} : celLed (p :: cl) (v :: cv) = celC p.2 v :: celLed cl cv := rfl
theorem celLed_0 {cv} : celLed [] cv = [] := rfl
theorem celLed_00 {p cl} : celLed (p :: cl) [] = [] := rfl
/- the names that live in cells -/
structure EnC (env : Env) (cl : List (Str × Addr)) : Prop where
  kind : ∀ p ∈ cl, env.kindOf p.1 = some .cell
  at_ : ∀ p ∈ cl, env.cells.lookup p.1 = some p.2
  dbg : ∀ p ∈ cl, (p.1 == ("__debug__" : Str)) = false
noncomputable def cellFn (fd : FuncData) (nm gl cn : List Str) : Bool :=
  allLoc fd.scope nm && allGlob fd.scope gl && decide nm.Nodup && decide (fd.scope.kind = .function) && !fd.scope.isCoroutine && !fd.scope.isGenerator && decide (fd.globals = mainGlobals) && decide (fd.builtins = builtinsNs) && ((nm ++ gl ++ cn).all fun x => !(x == ("__debug__" : Str))) && (gl.all fun x => !(x == ("__name__" : Str))) && decide cn.Nodup && cn.all fun x => decide (fd.scope.names.lookup x = some .cell)
section
variable {w : World} {o₀ : OsState} {g g₂ : Heap} {L : Addr} {nm gl : List Str} {vs vs' : List (Option Value)} {led led' : Led} {s s₂ : Shared} {A : Around} {env : Env} {cl : List (Str × Addr)}
theorem r_cell {x : Str} {c : Addr} {pos v} {Q : QV} (S : St w o₀ g L nm vs led s) (e : En env L nm gl) (ec : EnC env cl) (hx : (x, c) ∈ cl) (hc : Has w.params g led (celC c (some v))) (k : Q v s) : WE w A env (.Name x pos) Q s := by
  rw [we]
  obtain ⟨o, h1, h2⟩ := hc.at S
  exact wpAny_Name (wpAny_loadName_cell e.kind (ec.kind _ hx) (ec.at_ _ hx) ⟨o, h1, h2⟩ k) (ec.dbg _ hx)
theorem r_storeC {x : Str} {c : Addr} {v : Value} {v₀ : Option Value} {Q : QU} (S : St w o₀ g L nm vs led s) (e : En env L nm gl) (ec : EnC env cl) (hx : (x, c) ∈ cl) (U : UpL (celC c v₀) (celC c (some v)) led led') (k : ∀ s, St w o₀ g L nm vs led' s → Q () s) : WStore w A env x v Q s := by
  rw [wst]
  obtain ⟨o, h1, h2⟩ := (S.ld _ U.mem).1
  refine wpAny_storeName_cell e.kind (ec.kind _ hx) (ec.at_ _ hx) ⟨o, h1, h2⟩ fun h' hv hs => k _ ?_
  obtain ⟨o', h1', h2'⟩ := hv
  exact S.at (s' := { s with heap := h' }) U rfl hs.extBut ⟨o', h1', h2'⟩ rfl rfl
theorem bindL_eq {kd : Str → Option NameKind} : ∀ (binds : List (Str × Value)) (m : Str → Option Value), bindL kd binds m = fun y => match (binds.filter fun p => decide (kd p.1 = some .local)).reverse.lookup y with | some v => some v | none => m y
  | [], m => by funext y; rfl
  | (n, v) :: r, m => by
    unfold bindL
    rw [bindL_eq r]
    funext y
    by_cases h : kd n = some .local
    · rw [if_pos h]
      simp only [h, decide_true, List.filter_cons_of_pos, List.reverse_cons, List.lookup_append]
      cases q : (r.filter fun p => decide (kd p.1 = some .local)).reverse.lookup y with
      | some z => simp
      | none =>
        by_cases hy : y = n
        · subst hy; simp
        · have : (y == n) = false := beq_eq_false_iff_ne.mpr hy
          simp [hy, List.lookup_cons, this]
    · rw [if_neg h]
      simp [h]
theorem bindC_eq {kd : Str → Option NameKind} : ∀ (binds : List (Str × Value)) (m : Str → Option Value), bindC kd binds m = fun y => match (binds.filter fun p => !decide (kd p.1 = some .local)).reverse.lookup y with | some v => some v | none => m y
  | [], m => by funext y; rfl
  | (n, v) :: r, m => by
    unfold bindC
    rw [bindC_eq r]
    funext y
    by_cases h : kd n = some .local
    · rw [if_pos h]
      simp [h]
    · rw [if_neg h]
      simp only [h, decide_false, Bool.not_false, List.filter_cons_of_pos, List.reverse_cons, List.lookup_append]
      cases q : (r.filter fun p => !decide (kd p.1 = some .local)).reverse.lookup y with
      | some z => simp
      | none =>
        by_cases hy : y = n
        · subst hy; simp
        · have : (y == n) = false := beq_eq_false_iff_ne.mpr hy
          simp [hy, List.lookup_cons, this]
theorem celLed_mem : ∀ {cl : List (Str × Addr)} {f : Str → Option Value} {c : Cell}, c ∈ celLed cl (cl.map fun p => f p.1) → ∃ p ∈ cl, c = celC p.2 (f p.1)
  | [], _, _, h => by simp [celLed_c, celLed_0, celLed_00] at h
  | p :: r, f, c, h => by
    simp only [List.map_cons, celLed_c, celLed_0, celLed_00] at h
    rcases List.mem_cons.mp h with rfl | h
    · exact ⟨p, .head _, rfl⟩
    · obtain ⟨q, h1, h2⟩ := celLed_mem h; exact ⟨q, .tail _ h1, h2⟩
theorem celLed_addr : ∀ {cl : List (Str × Addr)} {f : Str → Option Value}, (celLed cl (cl.map fun p => f p.1)).map (·.addr) = cl.map (·.2)
  | [], _ => by simp [celLed_c, celLed_0, celLed_00]
  | p :: r, f => by simp only [List.map_cons, celLed_c, celLed_0, celLed_00]; rw [celLed_addr]; rfl
/- a def is entered some of whose names live in cells -/
theorem enterC {f : Addr} {fd : FuncData} {oc : Value} {od : Option Addr} {sl : Array (Option Value)} {body : List Stmt} {args : List Value} {kw : List (Str × Value)} {n : Nat} {Q : QV} (C : S0 w o₀ g led s) (hA : Ok A (n + 1))
    (nm gl : List Str) (vs : List (Option Value)) (binds : List (Str × Value)) (cl : Addr → List (Str × Addr)) (cn : List Str) (cv : List (Option Value)) (ho : (KK w.params).lookup f = some ⟨oc, od, .func fd, sl⟩) (hcd : codeIn (KK w.params) fd.code fd.qualname = true) (hbody : fd.body = .stmts body)
    (hbind : BindsTo s fd ⟨args, kw⟩ binds) (hclo : fd.closure = []) (hp : cellFn fd nm gl cn = true) (hcl : ∀ L, cellsFrom (L + 1) fd.scope.names [] = cl L) (hcn : ∀ L, (cl L).map (·.1) = cn)
    (hk : ∀ L, (binds.all fun p => decide (fd.scope.names.lookup p.1 = some .local) || (decide (fd.scope.names.lookup p.1 = some .cell) && ((cl L).lookup p.1).isSome)) = true)
    (hl : binds.filter (fun p => decide (fd.scope.names.lookup p.1 = some .local)) = bindsOf nm vs) (hcv : ∀ L, (cl L).map (fun p => (binds.filter fun p => !decide (fd.scope.names.lookup p.1 = some .local)).reverse.lookup p.1) = cv)
    (k : ∀ env L s', En env L nm gl → EnC env (cl L) → L = s.heap.objs.size → Ok (A.deeper env) n → St w o₀ g L nm vs (celLed (cl L) cv ++ led) s' →
      WX w (A.deeper env) env body (fun fl s'' => Q (match fl with | .ret v => v | _ => .none) s'') s') :
    WD w A (.ref f) args kw Q s := by
  rw [wd]
  simp only [cellFn, Bool.and_eq_true, decide_eq_true_eq, Bool.not_eq_true'] at hp
  obtain ⟨⟨⟨⟨⟨⟨⟨⟨⟨⟨⟨h1, h2⟩, h3⟩, h4⟩, h5⟩, h6⟩, h8⟩, h9⟩, h10⟩, h11⟩, h12⟩, h13⟩ := hp
  have hK := C.P.K.keeps C.keep
  have hlp : ∀ x ∈ cn, fd.scope.names.lookup x = some .cell := fun x hx => of_decide_eq_true (List.all_eq_true.mp h13 x hx)
  refine codeAny_call_function hA.room (hK _ _ ho) rfl h5 h6 hbody (codeRec_of hK hcd) (hbind _ _ _ _ ?_)
  rw [hclo]
  refine wpAny_newFunctionEnv_cells h4 (fun x hx => ?_) fun env he s' X => ?_
  · have := List.all_eq_true.mp (hk s.heap.objs.size) x hx
    rw [hcl]
    simpa [Bool.or_eq_true] using this
  subst he
  refine ⟨(C.P.lim.keeps C.keep).keeps X.toInCall.keep, codeAny_func ?_⟩
  have hcells : (callEnvC fd s.heap.objs.size f).cells = cl s.heap.objs.size := hcl _
  have hnd : ((cl s.heap.objs.size).map (·.1)).Nodup := by rw [hcn]; exact h12
  have hlk : ∀ p ∈ cl s.heap.objs.size, (callEnvC fd s.heap.objs.size f).cells.lookup p.1 = some p.2 := fun p hp => by
    rw [hcells]; exact lookup_of_mem_nodup hnd hp
  have hcm : ∀ p ∈ cl s.heap.objs.size, p.1 ∈ cn := fun p hp => by rw [← hcn s.heap.objs.size]; exact List.mem_map_of_mem hp
  have hNs : s'.heap.Ns s.heap.objs.size (vm nm vs) := by
    have := X.toInCall.ns
    rw [bindL_eq] at this
    have hf : (fun y => match (binds.filter fun p => decide ((callEnvC fd s.heap.objs.size f).kindOf p.1 = some .local)).reverse.lookup y with | some v => some v | none => none) = vm nm vs := by
      rw [← bindsOf_vm h3, ← hl]
      funext y
      show (match (binds.filter fun p => decide (fd.scope.names.lookup p.1 = some .local)).reverse.lookup y with | some v => some v | none => none) = (binds.filter fun p => decide (fd.scope.names.lookup p.1 = some .local)).reverse.lookup y
      cases (binds.filter fun p => decide (fd.scope.names.lookup p.1 = some .local)).reverse.lookup y <;> rfl
    exact hf ▸ this
  have hcell : ∀ p ∈ cl s.heap.objs.size, s'.heap.IsCell p.2 ((binds.filter fun p => !decide (fd.scope.names.lookup p.1 = some .local)).reverse.lookup p.1) := fun p hp => by
    have := X.cell p.1 p.2 (hlk p hp)
    rw [bindC_eq] at this
    have hf : ((binds.filter fun p => !decide (fd.scope.names.lookup p.1 = some .local)).reverse.lookup p.1) = (match (binds.filter fun p => !decide (fd.scope.names.lookup p.1 = some .local)).reverse.lookup p.1 with | some v => some v | none => none) := by
      cases (binds.filter fun p => !decide (fd.scope.names.lookup p.1 = some .local)).reverse.lookup p.1 <;> rfl
    rw [hf]
    exact this
  have hab : ∀ p ∈ cl s.heap.objs.size, s.heap.objs.size < p.2 := fun p hp => X.above p.1 p.2 (hcells ▸ hp)
  have fr : ∀ a, s.heap.objs.size ≤ a → g.get? a = none := fun a ha => by
    cases q : g.get? a with
    | none => rfl
    | some o => exact absurd (Nat.lt_of_lt_of_le (Heap.lt_size (C.keep _ _ q)) ha) (Nat.lt_irrefl _)
  have hap : (cl s.heap.objs.size).Pairwise fun x y => x.2 ≠ y.2 := hcells ▸ X.apart
  obtain ⟨h₁, tk, hs'⟩ := X.toInCall.same
  have S : St w o₀ g s.heap.objs.size nm vs (celLed (cl s.heap.objs.size) cv ++ led) s' := by
    rw [← hcv s.heap.objs.size]
    refine ⟨C.P, hNs, fun b o e => X.toInCall.keep _ _ (C.keep b o e), fr _ (Nat.le_refl _), fun c hc => ?_, ?_, by rw [hs']; exact C.gens, by rw [hs']; exact C.os⟩
    · rcases List.mem_append.mp hc with hc | hc
      · obtain ⟨p, hp, rfl⟩ := celLed_mem (f := fun x => (binds.filter fun p => !decide (fd.scope.names.lookup p.1 = some .local)).reverse.lookup x) hc
        exact ⟨hcell p hp, Nat.ne_of_gt (hab p hp), fr _ (Nat.le_of_lt (hab p hp))⟩
      · exact ⟨(C.ld c hc).1.keeps fun o q => X.toInCall.keep _ _ q, Nat.ne_of_lt (C.ld c hc).1.lt, (C.ld c hc).2⟩
    · rw [List.map_append, celLed_addr (f := fun x => (binds.filter fun p => !decide (fd.scope.names.lookup p.1 = some .local)).reverse.lookup x)]
      refine List.nodup_append.mpr ⟨?_, C.nd, fun a ha b hb e => ?_⟩
      · rw [List.Nodup, List.pairwise_map]; exact hap
      · obtain ⟨p, hp, rfl⟩ := List.mem_map.mp ha
        obtain ⟨c, hc, rfl⟩ := List.mem_map.mp hb
        have q1 := hab p hp
        have q2 := (C.ld c hc).1.lt
        rw [← e] at q2
        exact absurd (Nat.lt_trans q1 q2) (Nat.lt_irrefl _)
  have z := k (callEnvC fd s.heap.objs.size f) s.heap.objs.size s' ⟨h4, rfl, fun x hx => of_decide_eq_true (List.all_eq_true.mp h1 x hx), fun x hx => of_decide_eq_true (List.all_eq_true.mp h2 x hx), fun x hx => by simpa using List.all_eq_true.mp h10 x (List.mem_append_left _ hx), fun x hx => by simpa using List.all_eq_true.mp h11 x hx, h8, h9, h3⟩
    ⟨fun p hp => hlp _ (hcm p hp), hlk, fun p hp => by simpa using List.all_eq_true.mp h10 p.1 (List.mem_append_right _ (hcm p hp))⟩ rfl hA.deeper S
  rw [wx] at z
  exact wpAny_mono z (fun fl s'' q => q) fun _ _ q => q.elim
end
end Mine
namespace Mine
/- an iterator whose run is known, up to what is said of its items -/
structure IterP (w : World) (o₀ : OsState) (g : Heap) (A : Around) (I : Addr) (n : Nat) (P : Nat → Value → Prop) (Ic : Nat → Cell) : Prop where
  item : ∀ k s L nm vs led, k < n → St w o₀ g L nm vs (Ic k :: led) s → ∀ Q : Option Value → Shared → Prop, (∀ v s', P k v → St w o₀ g L nm vs (Ic (k + 1) :: led) s' → Q (some v) s') → wpAny (MM w) A (pyNext (.ref I)) Q FF s
  stop : ∀ s L nm vs led, St w o₀ g L nm vs (Ic n :: led) s → ∀ Q : Option Value → Shared → Prop, (∀ s', St w o₀ g L nm vs led s' → Q none s') → wpAny (MM w) A (pyNext (.ref I)) Q FF s
  self : ∀ s L nm vs led, St w o₀ g L nm vs (Ic 0 :: led) s → ∀ Q : QV, Q (.ref I) s → wpAny (MM w) A (pyIter (.ref I)) Q FF s
/- a comprehension whose iterator stands and whose list is stored in a name at once -/
@[irreducible] noncomputable def WCU (w : World) (A : Around) (env : Env) (elt : Expr) (x : Str) (px : Pos) (iter : Expr) (ifs : List Expr) (scope : Scope) (pos : Pos) (cl : List (Str × Addr)) (it : Value) (y : Str) (py : Pos) (K : Shared → Prop) (s : Shared) : Prop :=
  wpAny (MM w) A (newList []) (fun acc s₃ => wpAny (MM w) A (newFunctionEnv scope env.globals cl [] env.qual none .none (some env)) (fun cenv s₄ =>
    codeAny (MM w) A (.compStart (.ListComp elt [⟨.Name x px, iter, ifs, 0⟩] scope pos) 0 it acc { cenv with scope := relabel scope env }) (compPost (MM w) A FF (some (assign (.Name y py) env)) (fun _ s' => K s') acc cenv.locals) s₄) FF s₃) FF s
section
variable {w : World} {o₀ : OsState} {g g₂ : Heap} {L : Addr} {nm gl : List Str} {vs vs' : List (Option Value)} {led led' sub rest : Led} {s s₂ : Shared} {A : Around} {env : Env} {cl : List (Str × Addr)}
theorem x_assign_comp {y : Str} {py : Pos} {elt iter : Expr} {x : Str} {px : Pos} {ifs : List Expr} {scope : Scope} {pos spos : Pos} {rest : List Stmt} {Q : QF} (hsw : swapsWith (.ListComp elt [⟨.Name x px, iter, ifs, 0⟩] scope pos) (some (.Name y py)) spos.line env = pure true)
    (hi : noSet iter = true) (hclos : closureFor scope env = pure cl) (hsc : compSc scope x = true)
    (h : WE w A env iter (fun xv s₁ => WIt w A xv (fun it s₂ => WCU w A env elt x px iter ifs scope pos cl it y py (fun s' => WX w A env rest Q s') s₂) s₁) s) :
    WX w A env (.Assign [.Name y py] (.ListComp elt [⟨.Name x px, iter, ifs, 0⟩] scope pos) spos :: rest) Q s := by
  simp only [compSc, Bool.and_eq_true, decide_eq_true_eq, List.all_eq_true] at hsc
  obtain ⟨⟨⟨h1, h2⟩, h3⟩, h4⟩ := hsc
  rw [wx]
  rw [we] at h
  simp only [wit] at h
  refine wpAny_execs_cons ?_
  rw [exec_Assign_Name_used _ _ _ _ hsw]
  refine wpAny_bind (wpAny_standAt (wpAny_bind ?_))
  show wpAny _ A (do let _ ← comprehension (.ListComp elt [⟨.Name x px, iter, ifs, 0⟩] scope pos) scope env _ (newList []) false (eval iter env) (some (assign (.Name y py) env))) _ _ s
  refine wpAny_bind (wpAny_mono (wpAny_comprehension_free (use := some (assign (.Name y py) env)) (Q := fun _ s' => WX w A env rest Q s') rfl (fun x => by cases iter <;> first | rfl | cases hi) hclos h2 h4
    (wpAny_mono h (fun xv s₁ h₁ => wpAny_mono h₁ (fun it s₂ h₂ => ?_) fun _ _ e => e) fun _ _ e => e)) (fun _ s' hq => wpAny_pure (wpAny_pure (by rw [wx] at hq; exact hq))) fun _ _ e => e)
  unfold WCU at h₂
  exact h₂
theorem co_core {elt iter : Expr} {x : Str} {px : Pos} {ifs : List Expr} {scope : Scope} {pos : Pos} {cl : List (Str × Addr)} {I : Addr} {n : Nat} {P : Nat → Value → Prop} {Ic : Nat → Cell} {gl' : List Str} {RR : Value → Addr → Result → Shared → Prop} (gl : List Str)
    (hsc : compSc scope x = true) (hgl : compGl scope x gl = true) (e : En env L nm gl') (C : S0 w o₀ g (Ic 0 :: led) s) (it : IterP w o₀ g A I n P Ic) (J : Nat → List Value → Led → Prop) (h0 : J 0 [] led)
    (hlen : ∀ k ys led, J k ys led → ys.length ≤ 1000000)
    (turn : ∀ cenv Cc D, En cenv Cc [x] gl → cenv = compEnvC scope cl Cc env → ∀ k v ys led s, k < n → P k v → J k ys led → St w o₀ g Cc [x] [some v] (Ic (k + 1) :: .lst D ys :: led) s →
      WTs w A cenv ifs (fun ok s₃ => Br ok (WE w A cenv elt (fun y s₄ => ∃ led', St w o₀ g Cc [x] [some v] (Ic (k + 1) :: .lst D ys :: led') s₄ ∧ J (k + 1) (ys ++ [y]) led') s₃)
        (∃ led', St w o₀ g Cc [x] [some v] (Ic (k + 1) :: .lst D ys :: led') s₃ ∧ J (k + 1) ys led')) s)
    (fin : ∀ D ys led s Cc u, J n ys led → St w o₀ g Cc [x] [u] (.lst D ys :: led) s → RR (.ref D) Cc (.ok .next) s) :
    wpAny (MM w) A (newList []) (fun acc s₃ => wpAny (MM w) A (newFunctionEnv scope env.globals cl [] env.qual none .none (some env)) (fun cenv s₄ =>
      codeAny (MM w) A (.compStart (.ListComp elt [⟨.Name x px, iter, ifs, 0⟩] scope pos) 0 (.ref I) acc { cenv with scope := relabel scope env }) (RR acc cenv.locals) s₄) FF s₃) FF s := by
  simp only [compSc, Bool.and_eq_true, decide_eq_true_eq, List.all_eq_true] at hsc
  obtain ⟨⟨⟨h1, h2⟩, h3⟩, h4⟩ := hsc
  simp only [compGl, Bool.and_eq_true, Bool.not_eq_true'] at hgl
  obtain ⟨⟨g1, g2⟩, g3⟩ := hgl
  have C1 := (C.alloc (.lst s.heap.objs.size []) (lstO [] 0) rfl rfl ⟨0, rfl⟩).perm (List.Perm.swap ..)
  refine wpAny_newObj_type (wpAny_newFunctionEnv h1 (by intro y hy; simp at hy) (fun h₁ hns hsb => ?_) h2) (by size_fits)
  dsimp only at hns hsb ⊢
  generalize hH2 : s.heap.push { cls := .type "list", dict := none, data := .seq ([] : List Value).toArray } = H2 at hns hsb ⊢
  have C1 : S0 w o₀ g (Ic 0 :: .lst s.heap.objs.size [] :: led) { s with heap := H2 } := by rw [← hH2]; exact C1
  have hk₁ : ∀ b o, H2.get? b = some o → h₁.get? b = some o := fun b o e => hsb.extBut b o (Nat.ne_of_lt (Heap.lt_size e)) (Heap.get?_push_of_some _ e)
  have S : St w o₀ g H2.objs.size [x] [none] (Ic 0 :: .lst s.heap.objs.size [] :: led) { s with heap := h₁, toks := s.toks + ([] : List (Str × Value)).length } :=
    ⟨C1.P, by
      have : vm [x] [none] = fun y => ([] : List (Str × Value)).reverse.lookup y := by funext y; simp only [vm_c, vm_0, vm_00]; split <;> rfl
      rw [this]; exact hns, fun b o e => hk₁ _ _ (C1.keep b o e), C1.fresh, fun p hp => ⟨(C1.ld p hp).1.keeps fun o q => hk₁ _ _ q, Nat.ne_of_lt (C1.ld p hp).1.lt, (C1.ld p hp).2⟩, C1.nd, C1.gens, C1.os⟩
  have hE : En (compEnvC scope cl H2.objs.size env) H2.objs.size [x] gl := by
    refine ⟨h2, rfl, fun y hy => ?_, fun y hy => ?_, fun y hy => ?_, fun y hy => ?_, e.globals, e.builtins, by simp⟩
    · rw [List.mem_singleton] at hy; subst hy; exact lookup_relabel_local h3
    · exact lookup_relabel_ne (kd := .globalImplicit) (by decide) (of_decide_eq_true (List.all_eq_true.mp g1 y hy))
    · simpa using List.all_eq_true.mp g2 y hy
    · simpa using List.all_eq_true.mp g3 y hy
  have loop : ∀ s' : Shared, St w o₀ g H2.objs.size [x] [none] (Ic 0 :: .lst s.heap.objs.size [] :: led) s' → codeAny (MM w) A (.compLoop (.ListComp elt [⟨.Name x px, iter, ifs, 0⟩] scope pos) 0 (.ref I) (.ref s.heap.objs.size) (compEnvC scope cl H2.objs.size env)) (RR (.ref s.heap.objs.size) H2.objs.size) s' := by
    intro s' S
    refine codeAny_compLoop_tests (I := fun m s' => ∃ k ys led u, m = n + 1 - k ∧ k ≤ n ∧ J k ys led ∧ St w o₀ g H2.objs.size [x] [u] (Ic k :: .lst s.heap.objs.size ys :: led) s') (fun m s' hI => ?_) (n + 1) ⟨0, [], led, none, by lia, by lia, h0, S⟩
    obtain ⟨k, ys, led, u, rfl, hk, hJ, S⟩ := hI
    rcases Nat.lt_or_ge k n with hlt | hge
    · refine noted_of (it.item k _ _ _ _ _ hlt S _ fun v s' hv S' => ?_)
      have nx : ∀ ys' s₃, (∃ led', St w o₀ g H2.objs.size [x] [some v] (Ic (k + 1) :: .lst s.heap.objs.size ys' :: led') s₃ ∧ J (k + 1) ys' led') → ∃ m, m < n + 1 - k ∧ ∃ k ys led u, m = n + 1 - k ∧ k ≤ n ∧ J k ys led ∧ St w o₀ g H2.objs.size [x] [u] (Ic k :: .lst s.heap.objs.size ys :: led) s₃ := fun ys' s₃ ⟨led', q1, q2⟩ =>
        ⟨n + 1 - (k + 1), by lia, k + 1, ys', led', _, rfl, hlt, q2, q1⟩
      have as : WAs w A (compEnvC scope cl H2.objs.size env) (.Name x px) v (fun _ s₂ => WTs w A (compEnvC scope cl H2.objs.size env) ifs (fun ok s₃ => Br ok (WE w A (compEnvC scope cl H2.objs.size env) elt (fun y s₄ => ∃ led', St w o₀ g H2.objs.size [x] [some v] (Ic (k + 1) :: .lst s.heap.objs.size ys :: led') s₄ ∧ J (k + 1) (ys ++ [y]) led') s₃)
        (∃ led', St w o₀ g H2.objs.size [x] [some v] (Ic (k + 1) :: .lst s.heap.objs.size ys :: led') s₃ ∧ J (k + 1) ys led')) s₂) s' :=
        as_name (r_store S' hE .head fun s₂ S₂ => turn _ _ _ hE rfl k v ys led s₂ hlt hv hJ S₂)
      rw [was] at as
      refine noted_of (wpAny_mono as (fun _ s₂ h₂ => ?_) fun _ _ q => q)
      unfold WTs at h₂
      refine noted_of (wpAny_mono h₂ (fun ok s₃ h₃ => ?_) fun _ _ q => q)
      rw [br] at h₃
      cases ok with
      | false =>
        simp only [Bool.false_eq_true, if_false] at h₃ ⊢
        exact nx _ _ h₃
      | true =>
        simp only [if_true] at h₃ ⊢
        rw [we] at h₃
        refine noted_of (wpAny_mono h₃ (fun y s₄ h₄ => ?_) fun _ _ q => q)
        obtain ⟨led', S₄, J₄⟩ := h₄
        have ap : WC w A (.builtin "list.append") [.ref s.heap.objs.size, y] [] (fun _ s₅ => ∃ led', St w o₀ g H2.objs.size [x] [some v] (Ic (k + 1) :: .lst s.heap.objs.size (ys ++ [y]) :: led') s₅ ∧ J (k + 1) (ys ++ [y]) led') s₄ :=
          k_append S₄ (.tail .head) (by rw [sizeLine_eq]; have := hlen _ _ _ hJ; lia) fun s₅ S₅ => ⟨led', S₅, J₄⟩
        rw [wc] at ap
        exact noted_of (wpAny_mono ap (fun _ s₅ h₅ => nx _ _ h₅) fun _ _ q => q)
    · have e : k = n := Nat.le_antisymm hk hge
      subst e
      exact noted_of (it.stop _ _ _ _ _ S _ fun s' S' => fin _ _ _ _ _ _ hJ S')
  exact codeAny_compStart_list (loop _ S) (noted_of (it.self _ _ _ _ _ S _ (loop _ S)))
theorem hideT {cenv : Env} {elt : Expr} {ifs : List Expr} {P : Value → Shared → Prop} {P0 : Shared → Prop}
    (h : ∀ (KK : QV) (K0 : Shared → Prop), (∀ y s, P y s → KK y s) → (∀ s, P0 s → K0 s) → WTs w A cenv ifs (fun ok s₃ => Br ok (WE w A cenv elt KK s₃) (K0 s₃)) s) :
    WTs w A cenv ifs (fun ok s₃ => Br ok (WE w A cenv elt (fun y s₄ => P y s₄) s₃) (P0 s₃)) s := h _ _ (fun _ _ x => x) fun _ x => x
theorem co_p {elt iter : Expr} {x : Str} {px : Pos} {ifs : List Expr} {scope : Scope} {pos : Pos} {Q : QV} {cl : List (Str × Addr)} {I : Addr} {n : Nat} {P : Nat → Value → Prop} {Ic : Nat → Cell} {gl' : List Str} (gl : List Str)
    (hsc : compSc scope x = true) (hgl : compGl scope x gl = true) (e : En env L nm gl') (C : S0 w o₀ g (Ic 0 :: led) s) (it : IterP w o₀ g A I n P Ic) (J : Nat → List Value → Led → Prop) (h0 : J 0 [] led)
    (hlen : ∀ k ys led, J k ys led → ys.length ≤ 1000000)
    (turn : ∀ cenv Cc D, En cenv Cc [x] gl → cenv = compEnvC scope cl Cc env → ∀ k v ys led s, k < n → P k v → J k ys led → St w o₀ g Cc [x] [some v] (Ic (k + 1) :: .lst D ys :: led) s →
      WTs w A cenv ifs (fun ok s₃ => Br ok (WE w A cenv elt (fun y s₄ => ∃ led', St w o₀ g Cc [x] [some v] (Ic (k + 1) :: .lst D ys :: led') s₄ ∧ J (k + 1) (ys ++ [y]) led') s₃)
        (∃ led', St w o₀ g Cc [x] [some v] (Ic (k + 1) :: .lst D ys :: led') s₃ ∧ J (k + 1) ys led')) s)
    (fin : ∀ D ys led s, J n ys led → S0 w o₀ g (.lst D ys :: led) s → Q (.ref D) s) : WCo w A env elt x px iter ifs scope pos cl (.ref I) Q s := by
  unfold WCo
  exact co_core gl hsc hgl e C it J h0 hlen turn fun D ys led s Cc u hJ S => ⟨_, S.ns, fun h' hs => fin _ _ _ _ hJ (S.outBut hs)⟩
theorem co_u {elt iter : Expr} {x : Str} {px : Pos} {ifs : List Expr} {scope : Scope} {pos : Pos} {y : Str} {py : Pos} {K : Shared → Prop} {cl : List (Str × Addr)} {I : Addr} {n : Nat} {P : Nat → Value → Prop} {Ic : Nat → Cell} {gl' : List Str} (gl : List Str)
    (hsc : compSc scope x = true) (hgl : compGl scope x gl = true) (e : En env L nm gl') (C : S0 w o₀ g (Ic 0 :: led) s) (it : IterP w o₀ g A I n P Ic) (J : Nat → List Value → Led → Prop) (h0 : J 0 [] led)
    (hlen : ∀ k ys led, J k ys led → ys.length ≤ 1000000)
    (turn : ∀ cenv Cc D, En cenv Cc [x] gl → cenv = compEnvC scope cl Cc env → ∀ k v ys led s, k < n → P k v → J k ys led → St w o₀ g Cc [x] [some v] (Ic (k + 1) :: .lst D ys :: led) s →
      WTs w A cenv ifs (fun ok s₃ => Br ok (WE w A cenv elt (fun y s₄ => ∃ led', St w o₀ g Cc [x] [some v] (Ic (k + 1) :: .lst D ys :: led') s₄ ∧ J (k + 1) (ys ++ [y]) led') s₃)
        (∃ led', St w o₀ g Cc [x] [some v] (Ic (k + 1) :: .lst D ys :: led') s₃ ∧ J (k + 1) ys led')) s)
    (fin : ∀ D ys led s Cc u, J n ys led → St w o₀ g Cc [x] [u] (.lst D ys :: led) s → wpAny (MM w) A (assign (.Name y py) env (.ref D)) (fun _ s'' => ∃ m, s''.heap.Ns Cc m ∧ ∀ h', Heap.SameBut Cc s''.heap h' → K { s'' with heap := h' }) FF s) : WCU w A env elt x px iter ifs scope pos cl (.ref I) y py K s := by
  unfold WCU
  exact co_core gl hsc hgl e C it J h0 hlen turn fun D ys led s Cc u hJ S => fin _ _ _ _ _ _ hJ S
theorem St.apart {Cc : Addr} {h' : Heap} (S : St w o₀ g L nm vs led s) (h1 : Cc ≠ L) (h2 : g.get? Cc = none) (h3 : ∀ c ∈ led, c.addr ≠ Cc) (hs : Heap.SameBut Cc s.heap h') : St w o₀ g L nm vs led { s with heap := h' } := by
  refine ⟨S.P, S.ns.sameBut hs (Ne.symm h1), fun b o e => hs.extBut b o (fun q => by rw [q, h2] at e; cases e) (S.keep b o e), S.Lg, fun c hc => ⟨(S.ld c hc).1.keeps fun o q => hs.extBut _ o (h3 c hc) q, (S.ld c hc).2⟩, S.nd, S.gens, S.os⟩
/- the way back of a comprehension that is stored at once -/
noncomputable def BaP (w : World) (o₀ : OsState) (g : Heap) (L : Addr) (nm gl : List Str) (vs : List (Option Value)) (rest : Led) (gc : Heap) (A : Around) (env : Env) : Prop := ∀ sub' s' led' Cc x u y py v vs' (K : Shared → Prop), En env L nm gl → St w o₀ gc Cc [x] [u] sub' s' → App sub' rest led' → Up nm vs y v vs' → (∀ s'', St w o₀ g L nm vs' led' s'' → K s'') →
        wpAny (MM w) A (assign (.Name y py) env v) (fun _ s'' => ∃ m, s''.heap.Ns Cc m ∧ ∀ h', Heap.SameBut Cc s''.heap h' → K { s'' with heap := h' }) FF s'
theorem use2 {G : Prop} (S : St w o₀ g L nm vs led s) (hp : Picks sub led rest)
    (h : ∀ gc, S0 w o₀ gc sub s → Sub g gc → RkP w rest gc → BkP w o₀ g L nm vs rest gc → BaP w o₀ g L nm gl vs rest gc A env → G) : G := by
  obtain ⟨oL, es, ep, hL, r⟩ := S.ns
  refine use S hp fun gc C hg hr bk => h gc C hg hr bk fun sub' s' led' Cc x u y py v vs' K e Sc ha hu k => ?_
  have S' := bk sub' s' led' Sc.out ha
  have no : g.get? Cc = none := by
    cases q : g.get? Cc with
    | none => rfl
    | some o => have := Sc.Lg; rw [hg _ _ q] at this; cases this
  have nr : ∀ c ∈ led', c.addr ≠ Cc := fun c hc => by
    rw [ha.eq] at hc
    rcases List.mem_append.mp hc with hc | hc
    · exact (Sc.ld c hc).2.1
    · intro q
      obtain ⟨o, h1, _⟩ := hr c hc
      rw [q, Sc.Lg] at h1; cases h1
  have nL : Cc ≠ L := by
    have C2 : S0 w o₀ gc (.prd Cc (fun _ => True) :: sub') s' := by
      refine ⟨Sc.P, Sc.keep, fun c hc => ?_, ?_, Sc.gens, Sc.os⟩
      · rcases List.mem_cons.mp hc with rfl | hc
        · obtain ⟨oC, es', ep', hC, _⟩ := Sc.ns
          exact ⟨⟨oC, hC, trivial⟩, Sc.Lg⟩
        · exact ⟨(Sc.ld c hc).1, (Sc.ld c hc).2.2⟩
      · refine List.nodup_cons.mpr ⟨fun q => ?_, Sc.nd⟩
        obtain ⟨c, hc, q⟩ := List.mem_map.mp q
        exact (Sc.ld c hc).2.1 q
    exact ((bk _ _ _ C2 (.cons ha)).ld _ (.head _)).2.1
  have hn := Sc.ns
  refine wpAny_assign_Name (wpAny_storeName_local (e.loc y hu.mem) (by rw [e.locals]; exact S'.ns) (fun h' hn' hs' => ?_) (by rw [e.kind]; rfl))
  rw [e.locals] at hn' hs'
  have S2 : St w o₀ g L nm vs' led' { s' with heap := h', toks := s'.toks + 1 } := S'.same (s' := { s' with heap := h', toks := s'.toks + 1 }) (by rw [← hu.vm e.nd]; exact hn') hs' rfl rfl
  exact ⟨_, hn.sameBut hs' nL, fun h'' hs'' => k _ (S2.apart nL no nr hs'')⟩
end
end Mine
namespace Mine
section
variable {w : World} {o₀ : OsState} {g g₂ : Heap} {L : Addr} {nm gl : List Str} {vs vs' : List (Option Value)} {led led' : Led} {s s₂ : Shared} {A : Around} {env : Env}
variable {a b : Int} {x y z : Str} {t u v : Tok}
-- numbers
theorem b_mod_int {Q : QV} (S : St w o₀ g L nm vs led s) (hb : (b == 0) = false) (h : ∀ s t, St w o₀ g L nm vs led s → Q (.int (a.fmod b) t) s) : WBin w A .Mod (.int a t) (.int b u) Q s := by
  rw [wbin]; exact PyProof.Rows.mod_int (by simpa using hb) (h _ _ (S.tok _))
theorem b_fdiv_int {Q : QV} (S : St w o₀ g L nm vs led s) (hb : (b == 0) = false) (hz : Nat.blt b.natAbs (2 ^ 64) = true) (h : ∀ s t, St w o₀ g L nm vs led s → Q (.int (a.fdiv b) t) s) : WBin w A .FloorDiv (.int a t) (.int b u) Q s := by
  rw [wbin]
  refine PyProof.Rows.floordiv_int (by simpa using hb) (h _ _ (S.tok _)) (Or.inl ?_)
  unfold Builtin.divisionGoesByPylong
  have h1 : b.natAbs < 2 ^ 64 := Nat.le_of_ble_eq_true hz
  have h0 : b.natAbs ≠ 0 := by have : b ≠ 0 := by simpa using hb
                               lia
  have h2 : b.natAbs.log2 < 64 := (Nat.log2_lt h0).mpr h1
  simp only [Bool.and_eq_false_iff, decide_eq_false_iff_not]
  left
  split <;> lia
theorem b_pow_int {Q : QV} (S : St w o₀ g L nm vs led s) (hn : 0 ≤ b) (hn2 : b ≤ 1000000) (ha : Nat.blt a.natAbs (2 ^ 64) = true) (h : ∀ s t, St w o₀ g L nm vs led s → Q (.int (a ^ b.toNat) t) s) : WBin w A .Pow (.int a t) (.int b u) Q s := by
  rw [wbin]; exact PyProof.Rows.pow_int_small hn hn2 (Nat.le_of_ble_eq_true ha) (h _ _ (S.tok _))
theorem b_mul_int {Q : QV} (S : St w o₀ g L nm vs led s) (hm : IntMulOk a b) (h : ∀ s t, St w o₀ g L nm vs led s → Q (.int (a * b) t) s) : WBin w A .Mult (.int a t) (.int b u) Q s := by
  rw [wbin]; exact PyProof.Rows.mul_int (h _ _ (S.tok _)) hm
theorem k_abs {Q : QV} (S : St w o₀ g L nm vs led s) (h : ∀ s t, St w o₀ g L nm vs led s → Q (.int (if a < 0 then -a else a) t) s) : WC w A (.builtin "abs") [.int a t] [] Q s := by
  rw [wc]; exact call_abs_int fun u tk => h _ _ (S.tok _)
theorem k_chr {Q : QV} (S : St w o₀ g L nm vs led s) (h0 : 0 ≤ a) (h1 : a ≤ 1114111) (h : ∀ s t, St w o₀ g L nm vs led s → Q (.str (ch a.toNat) t) s) : WC w A (.builtin "chr") [.int a t] [] Q s := by
  rw [wc]; exact chr_of_range h0 h1 (h _ _ (S.tok _))
theorem k_str_int {Q : QV} (S : St w o₀ g L nm vs led s) (h0 : 0 ≤ a) (h1 : a < 10 ^ 10) (h : ∀ s t, St w o₀ g L nm vs led s → Q (.str (Str.ofString (toString a)) t) s) : WC w A (.type "str") [.int a t] [] Q s := by
  rw [wc]
  refine P.str_of_int ?_ (h _ _ (S.tok _))
  rcases Nat.eq_zero_or_pos a.natAbs with e | e
  · rw [e]; decide
  · refine (Nat.log2_lt (by lia)).mpr (Nat.lt_of_lt_of_le (m := 10 ^ 10) (by lia) ?_)
    exact Nat.le_trans (show 10 ^ 10 ≤ 2 ^ 40 by decide) (Nat.pow_le_pow_right (n := 2) (i := 40) (j := 1920) (by decide) (by decide))
theorem k_str_str {Q : QV} (h : Q (.str x t) s) : WC w A (.type "str") [.str x t] [] Q s := by rw [wc]; exact P.str_of_str h
theorem k_str_none {Q : QV} (S : St w o₀ g L nm vs led s) (h : ∀ s t, St w o₀ g L nm vs led s → Q (.str (Str.ofString "None") t) s) : WC w A (.type "str") [.none] [] Q s := by rw [wc]; exact P.str_of_none (h _ _ (S.tok _))
theorem k_int_text {Q : QV} (S : St w o₀ g L nm vs led s) (hn : PySem.intText? x = some a) (hl : x.length ≤ 640) (h : ∀ s t, St w o₀ g L nm vs led s → Q (.int a t) s) : WC w A (.type "int") [.str x t] [] Q s := by
  rw [wc]; exact KIN.call_text hn hl (h _ _ (S.tok _))
theorem intText_num {n : Nat} (h : n < 10 ^ 10) : PySem.intText? (Str.ofString (toString (n : Int))) = some (n : Int) := KIN.num_reads (by lia) (by lia)
-- lists
theorem sl_list {value : Expr} {lower upper : Option Expr} {p : Pos} {D : Addr} {l : List Value} {vl vu : Value} {lo hi : Option Int} {Q : QV} (S : St w o₀ g L nm vs led s) (hl : Has w.params g led (.lst D l)) (pl : IsPart vl lo) (pu : IsPart vu hi)
    (ht : ∀ r, letTemporaryGo value (.ref D) r = pure ()) (hz : l.length ≤ 1000000) (k : ∀ s a, L < a → St w o₀ g L nm vs (.lst a (slicePick l.toArray lo hi none).toList :: led) s → Q (.ref a) s) : WSl w A value lower upper p (.ref D) vl vu Q s := by
  unfold WSl
  have hL := hl.list S
  refine subscriptTail_ops (ops := [.ref s.heap.objs.size, .ref D]) (Heap.IsList.typeIs (s := { s with heap := s.heap.push { cls := .type "slice", data := .fields #[vl, vu, .none] } }) (hL.push _)) list_getitem_lookup
    (wpAny_getItem_list_slice (hL.push _) (Heap.IsSliceOf.new ..) pl pu .none (by intro q; cases q) ?_ (by rw [List.size_toArray, sizeLine_eq]; lia)) rfl ht
  have S1 := S.push { cls := .type "slice", data := .fields #[vl, vu, .none] }
  have S2 := S1.alloc (.lst (s.heap.push { cls := .type "slice", data := .fields #[vl, vu, .none] }).objs.size (slicePick l.toArray lo hi none).toList) (lstO (slicePick l.toArray lo hi none).toList 0) rfl rfl ⟨0, rfl⟩
  exact k _ _ S1.ns.lt S2
theorem b_add_list {D B : Addr} {l l2 : List Value} {Q : QV} (S : St w o₀ g L nm vs led s) (hl : Has w.params g led (.lst D l)) (hb : Has w.params g led (.lst B l2)) (hz : l.length + l2.length ≤ 1000000)
    (k : ∀ s a, L < a → St w o₀ g L nm vs (.lst a (l ++ l2) :: led) s → Q (.ref a) s) : WBin w A .Add (.ref D) (.ref B) Q s := by
  rw [wbin]
  obtain ⟨o, h1, n, rfl⟩ := hl.at S
  obtain ⟨o2, h2, n2, rfl⟩ := hb.at S
  refine P.add_list (l := D) (b := B) (items := l.toArray) (items2 := l2.toArray) (n := n) (n2 := n2) h1 h2 ?_ (by rw [List.size_toArray, List.size_toArray, sizeLine_eq]; lia)
  have S2 := S.alloc (.lst s.heap.objs.size (l ++ l2)) (lstO (l ++ l2) 0) rfl rfl ⟨0, rfl⟩
  have e : l.toArray ++ l2.toArray = (l ++ l2).toArray := List.append_toArray _ _
  rw [e]
  exact k _ _ S.ns.lt S2
/- texts read as data -/
theorem Strs.reads {h : Heap} {l : List Value} {xs : List Str} (hs : Strs l xs) : ReadsAll h l (xs.map PyData.str) [] := by
  induction hs with
  | nil => exact .nil
  | cons _ ih => exact .cons (.str _ _) ih
theorem strs_lay : ∀ xs : List Str, xs.all PyData.strOk = true → PyData.canLayAll0 (xs.map PyData.str) = true
  | [], _ => rfl
  | a :: r, h => by
    simp only [List.all_cons, Bool.and_eq_true] at h
    simp [PyData.canLayAll0, PyData.canLay0, strs_lay r h.2, h.1]
theorem strs_depth : ∀ xs : List Str, PyData.depthAll (xs.map PyData.str) = 0
  | [] => rfl
  | _ :: r => by simp [PyData.depthAll, PyData.depth, strs_depth r]
theorem strs_shaped (xs : List Str) (h : xs.all PyData.strOk = true) : SeqAt.shaped (.list (xs.map PyData.str)) = true := by
  simp [SeqAt.shaped, PyData.canLay0, PyData.depth, strs_lay xs h, strs_depth]
theorem strs_eqv : ∀ xs ys : List Str, PyData.eqvAll (xs.map PyData.str) (ys.map PyData.str) = decide (xs = ys)
  | [], [] => by simp [PyData.eqvAll]
  | [], _ :: _ => by simp [PyData.eqvAll]
  | _ :: _, [] => by simp [PyData.eqvAll]
  | a :: r, b :: t => by
    simp only [List.map_cons, PyData.eqvAll, PyData.eqv, strs_eqv r t]
    by_cases h : a = b <;> by_cases h' : r = t <;> simp [h, h']
theorem Ok.units64 {n : Nat} (h : Ok A n) (hn : 4 ≤ n) : A.units + 64 < cLine := by have := h.un; lia
theorem lst_reads {D : Addr} {l : List Value} {ds : List PyData} {as : List Addr} (S : St w o₀ g L nm vs led s) (hl : Has w.params g led (.lst D l)) (hr : ReadsAll s.heap l ds as) : Reads s.heap (.ref D) (.list ds) (D :: as) := by
  obtain ⟨o, h1, n, rfl⟩ := hl.at S
  exact reads_list_at h1 rfl rfl hr
theorem q_eq_strs {D B : Addr} {l l2 : List Value} {xs ys : List Str} {n : Nat} {Q : QV} (S : St w o₀ g L nm vs led s) (hA : Ok A n) (hn : 4 ≤ n) (hl : Has w.params g led (.lst D l)) (hb : Has w.params g led (.lst B l2)) (hx : Strs l xs) (hy : Strs l2 ys) (hxo : xs.all PyData.strOk = true) (hyo : ys.all PyData.strOk = true)
    (h : Q (.bool (decide (xs = ys))) s) : WCmp w A .Eq (.ref D) (.ref B) Q s := by
  rw [wcmp]
  refine eq_dataH (lst_reads S hl hx.reads) (lst_reads S hb hy.reads) (strs_shaped _ hxo) (strs_shaped _ hyo) (hA.units64 hn) ?_
  simp only [PyData.eqv, strs_eqv]; exact h
theorem q_ne_strs {D B : Addr} {l l2 : List Value} {xs ys : List Str} {n : Nat} {Q : QV} (S : St w o₀ g L nm vs led s) (hA : Ok A n) (hn : 4 ≤ n) (hl : Has w.params g led (.lst D l)) (hb : Has w.params g led (.lst B l2)) (hx : Strs l xs) (hy : Strs l2 ys) (hxo : xs.all PyData.strOk = true) (hyo : ys.all PyData.strOk = true)
    (h : Q (.bool (!decide (xs = ys))) s) : WCmp w A .NotEq (.ref D) (.ref B) Q s := by
  rw [wcmp]
  refine ne_dataH (lst_reads S hl hx.reads) (lst_reads S hb hy.reads) (strs_shaped _ hxo) (strs_shaped _ hyo) (hA.units64 hn) ?_
  simp only [PyData.eqv, strs_eqv]; exact h
end
end Mine
namespace Mine
/- what stands in the frozen base; what stands in a grown base and did not stand in the old one -/
noncomputable def Frz (g : Heap) (a : Addr) (o : Obj) : Prop := g.get? a = some o
noncomputable def New (g g' : Heap) (a : Addr) (o : Obj) : Prop := g'.get? a = some o ∧ g.get? a = none
/- one by one -/
inductive All2 {α β : Type} (R : α → β → Prop) : List α → List β → Prop
  | nil : All2 R [] []
  | cons {a b l m} : R a b → All2 R l m → All2 R (a :: l) (b :: m)
theorem All2.mono {α β : Type} {R R' : α → β → Prop} {l m} (h : All2 R l m) (k : ∀ a b, R a b → R' a b) : All2 R' l m := by
  induction h with
  | nil => exact .nil
  | cons h _ ih => exact .cons (k _ _ h) ih
theorem All2.length {α β : Type} {R : α → β → Prop} {l m} (h : All2 R l m) : l.length = m.length := by
  induction h with
  | nil => rfl
  | cons _ _ ih => simp [ih]
theorem All2.snoc {α β : Type} {R : α → β → Prop} {l m a b} (h : All2 R l m) (r : R a b) : All2 R (l ++ [a]) (m ++ [b]) := by
  induction h with
  | nil => exact .cons r .nil
  | cons h _ ih => exact .cons h ih
theorem All2.append {α β : Type} {R : α → β → Prop} {l m l' m'} (h : All2 R l m) (r : All2 R l' m') : All2 R (l ++ l') (m ++ m') := by
  induction h with
  | nil => exact r
  | cons h _ ih => exact .cons h ih
theorem All2.at {α β : Type} {R : α → β → Prop} {l m} (h : All2 R l m) : ∀ {i : Nat} {a : α}, l[i]? = some a → ∃ b, m[i]? = some b ∧ R a b := by
  induction h with
  | nil => intro i a e; cases e
  | cons h _ ih =>
    intro i a e
    cases i with
    | zero => cases e; exact ⟨_, rfl, h⟩
    | succ i => exact ih e
theorem All2.at' {α β : Type} {R : α → β → Prop} {l m} (h : All2 R l m) : ∀ {i : Nat} {b : β}, m[i]? = some b → ∃ a, l[i]? = some a ∧ R a b := by
  induction h with
  | nil => intro i a e; cases e
  | cons h _ ih =>
    intro i a e
    cases i with
    | zero => cases e; exact ⟨_, rfl, h⟩
    | succ i => exact ih e
/- a list object -/
noncomputable def LstF (F : Addr → Obj → Prop) (v : Value) (l : List Value) : Prop := ∃ a n, v = .ref a ∧ F a (lstO l n)
theorem LstF.mono {F F' : Addr → Obj → Prop} {v l} (h : LstF F v l) (k : ∀ a o, F a o → F' a o) : LstF F' v l := let ⟨a, n, e, f⟩ := h; ⟨a, n, e, k _ _ f⟩
theorem LstF.cell {w : World} {g : Heap} {a : Addr} {l : List Value} (h : LstF (Frz g) (.ref a) l) : (Cell.lst a l).ok w.params g := by
  obtain ⟨b, n, e, f⟩ := h
  cases e
  exact ⟨_, f, n, rfl⟩
theorem lstF_of {w : World} {g : Heap} {a : Addr} {l : List Value} (h : (Cell.lst a l).ok w.params g) : LstF (Frz g) (.ref a) l := by
  obtain ⟨o, f, n, rfl⟩ := h
  exact ⟨a, n, rfl, f⟩
theorem frz_sub {g g' : Heap} (h : Sub g g') : ∀ a o, Frz g a o → Frz g' a o := fun a o e => h a o e
theorem new_frz {g g' : Heap} : ∀ a o, New g g' a o → Frz g' a o := fun a o e => e.1
theorem new_sub {g g' g'' : Heap} (h : Sub g' g'') : ∀ a o, New g g' a o → New g g'' a o := fun a o e => ⟨h _ _ e.1, e.2⟩
theorem new_old {g₀ g g' : Heap} (h : Sub g₀ g) : ∀ a o, New g g' a o → New g₀ g' a o := fun a o e => ⟨e.1, by
  cases q : g₀.get? a with
  | none => rfl
  | some o' => have := e.2; rw [h _ _ q] at this; cases this⟩
theorem Sub.trans {g g' g'' : Heap} (h : Sub g g') (k : Sub g' g'') : Sub g g'' := fun b o e => k _ _ (h _ _ e)
theorem Sub.refl (g : Heap) : Sub g g := fun b o e => e
section
variable {w : World} {o₀ : OsState} {g g₂ : Heap} {L : Addr} {nm gl : List Str} {vs vs' : List (Option Value)} {led led' sub rest : Led} {s s₂ : Shared} {A : Around} {env : Env}
/- the way back of a call that lays what stays -/
noncomputable def BgP (w : World) (o₀ : OsState) (g : Heap) (L : Addr) (nm : List Str) (vs : List (Option Value)) (rest : Led) (gc : Heap) : Prop := ∀ gc' sub' s' led', Sub gc gc' → S0 w o₀ gc' sub' s' → App sub' rest led' → ∃ g', Sub g g' ∧ (∀ a o, New gc gc' a o → New g g' a o) ∧ St w o₀ g' L nm vs led' s'
theorem use3 {G : Prop} (S : St w o₀ g L nm vs led s) (hp : Picks sub led rest)
    (h : ∀ gc, S0 w o₀ gc sub s → Sub g gc → RkP w rest gc → BgP w o₀ g L nm vs rest gc → G) : G := by
  have pm := hp.perm
  have nd : ((sub ++ rest).map (·.addr)).Nodup := (pm.map _).nodup_iff.mp S.nd
  rw [List.map_append] at nd
  have nds := List.nodup_append.mp nd
  have mem : ∀ c ∈ sub ++ rest, c ∈ led := fun c hc => pm.mem_iff.mpr hc
  let gc := hideAll s.heap (sub.map (·.addr))
  have key : ∀ b o, s.heap.get? b = some o → b ∉ sub.map (·.addr) → gc.get? b = some o := fun b o e h => hideAll_get _ e h
  have hg : Sub g gc := fun b o e => key b o (S.keep b o e) fun q => by
    obtain ⟨c, hc, rfl⟩ := List.mem_map.mp q
    rw [(S.ld c (mem c (List.mem_append_left _ hc))).2.2] at e; cases e
  have hrest : ∀ c ∈ rest, c.ok w.params gc := fun c hc => (S.ld c (mem c (List.mem_append_right _ hc))).1.keeps fun o q => key _ _ q fun z =>
    nds.2.2 _ z _ (List.mem_map_of_mem hc) rfl
  refine (h gc ⟨S.P.keeps hg, fun b o e => of_hideAll _ e, fun c hc => ⟨(S.ld c (mem c (List.mem_append_left _ hc))).1, hideAll_none _ (List.mem_map_of_mem hc)⟩, nds.1, S.gens, S.os⟩ hg hrest ?_)
  intro gc' sub' s' led' hs C ha
  rw [ha.eq]
  obtain ⟨oL, es, ep, hL, r⟩ := S.ns
  have hLs : L ∉ sub.map (·.addr) := fun q => by
    obtain ⟨c, hc, e⟩ := List.mem_map.mp q
    exact (S.ld c (mem c (List.mem_append_left _ hc))).2.1 e
  have hLg := key L oL hL hLs
  have keep2 : ∀ b o, gc'.get? b = some o → b ∉ L :: rest.map (·.addr) → (hideAll gc' (L :: rest.map (·.addr))).get? b = some o := fun b o e h => hideAll_get _ e h
  have old : ∀ b o, g.get? b = some o → b ∉ L :: rest.map (·.addr) := fun b o e q => by
    rcases List.mem_cons.mp q with rfl | q
    · rw [S.Lg] at e; cases e
    · obtain ⟨c, hc, rfl⟩ := List.mem_map.mp q
      rw [(S.ld c (mem c (List.mem_append_right _ hc))).2.2] at e; cases e
  have hg2 : Sub g (hideAll gc' (L :: rest.map (·.addr))) := fun b o e => keep2 b o (hs _ _ (hg _ _ e)) (old b o e)
  refine ⟨hideAll gc' (L :: rest.map (·.addr)), hg2, fun a o hn => ⟨keep2 a o hn.1 fun q => ?_, ?_⟩, ?_⟩
  · rcases List.mem_cons.mp q with rfl | q
    · have := hn.2; rw [hLg] at this; cases this
    · obtain ⟨c, hc, rfl⟩ := List.mem_map.mp q
      obtain ⟨o', h1, _⟩ := hrest c hc
      have := hn.2; rw [h1] at this; cases this
  · cases q : g.get? a with
    | none => rfl
    | some o' => have := hn.2; rw [hg _ _ q] at this; cases this
  refine ⟨S.P.keeps hg2, ⟨oL, es, ep, C.keep _ _ (hs _ _ hLg), r⟩, fun b o e => C.keep _ _ (of_hideAll _ e), hideAll_none _ (.head _), fun c hc => ?_, ?_, C.gens, C.os⟩
  · rcases List.mem_append.mp hc with hc | hc
    · refine ⟨(C.ld c hc).1, fun e => ?_, ?_⟩
      · have := (C.ld c hc).2; rw [e, hs _ _ hLg] at this; cases this
      · cases q : (hideAll gc' (L :: rest.map (·.addr))).get? c.addr with
        | none => rfl
        | some o => have := (C.ld c hc).2; rw [of_hideAll _ q] at this; cases this
    · exact ⟨(hrest c hc).keeps fun o q => C.keep _ _ (hs _ _ q), (S.ld c (mem c (List.mem_append_right _ hc))).2.1, hideAll_none _ (.tail _ (List.mem_map_of_mem hc))⟩
  · rw [List.map_append]
    refine List.nodup_append.mpr ⟨C.nd, nds.2.1, fun a ha b hb e => ?_⟩
    obtain ⟨c, hc, rfl⟩ := List.mem_map.mp ha
    obtain ⟨d, hd, rfl⟩ := List.mem_map.mp hb
    have h1 := (C.ld c hc).2
    obtain ⟨o, h2, _⟩ := hrest d hd
    rw [e, hs _ _ h2] at h1; cases h1
/- the ledger's head becomes a new part of the frozen base -/
theorem St.frz1 {a : Addr} {l : List Value} (S : St w o₀ g L nm vs (.lst a l :: led) s) : ∃ g', Sub g g' ∧ LstF (New g g') (.ref a) l ∧ St w o₀ g' L nm vs led s := by
  have D := (S.ld _ (.head _)).2.2
  obtain ⟨g₂, h1, ⟨o, h2, n, rfl⟩, h3⟩ := S.freeze1
  exact ⟨g₂, h1, ⟨a, n, rfl, h2, D⟩, h3⟩
/- one ledger's part becomes frozen: all its objects -/
theorem St.frzAll {dead : Led} (S : St w o₀ g L nm vs (led ++ dead) s) : ∃ g', Sub g g' ∧ (∀ c ∈ dead, ∃ o, New g g' c.addr o ∧ c.okO w.params o) ∧ St w o₀ g' L nm vs led s := by
  obtain ⟨g₂, h1, h2, h3⟩ := (S.thin (List.sublist_append_left led dead)).freeze
  have nd := S.nd
  rw [List.map_append] at nd
  have nds := List.nodup_append.mp nd
  refine ⟨g₂, h1, fun c hc => ?_, h2⟩
  have D := S.ld c (List.mem_append_right _ hc)
  obtain ⟨o, e, ok⟩ := D.1
  exact ⟨o, ⟨h3 _ _ e D.2.1 fun q => nds.2.2 _ q _ (List.mem_map_of_mem hc) rfl, D.2.2⟩, ok⟩
/- iterators -/
theorem iterP_list {a I : Addr} {l : List Value} {n : Nat} (hA : Ok A n) (hl : (Cell.lst a l).ok w.params g) : IterP w o₀ g A I l.length (fun k v => l[k]? = some v) (fun k => .itr I a k) := by
  have q := iter_list (o₀ := o₀) (I := I) hA hl
  exact ⟨fun k s L nm vs led hk S Q h => q.item k l[k] s L nm vs led (by simp [hk]) S Q fun s' S' => h _ s' (by simp [hk]) S', q.stop, q.self⟩
noncomputable abbrev rngO (x left : Int) : Obj := { cls := .type "range_iterator", data := .fields #[rawInt x, rawInt left, rawInt 1] }
theorem k_range {n : Int} {t : Tok} {Q : QV} (S : St w o₀ g L nm vs led s) (h : ∀ s r t0 t1, L < r → St w o₀ g L nm vs (.raw r { cls := .type "range", data := .fields #[.int 0 t0, .int n t, .int 1 t1] } :: led) s → Q (.ref r) s) : WC w A (.type "range") [.int n t] [] Q s := by
  rw [wc]
  exact call_range_1 (h _ _ _ _ S.ns.lt ((S.tok (s.toks + 1 + 1)).alloc (.raw _ _) _ rfl rfl rfl))
theorem it_range {r : Addr} {n : Nat} {t0 t t1 : Tok} {Q : QV} (hn : n ≤ 1000000) (S : St w o₀ g L nm vs (.raw r { cls := .type "range", data := .fields #[.int 0 t0, .int (n : Nat) t, .int 1 t1] } :: led) s) (h : ∀ s I, L < I → St w o₀ g L nm vs (.raw I (rngO (0 : Nat) ((n - 0 : Nat) : Int)) :: led) s → Q (.ref I) s) : WIt w A (.ref r) Q s := by
  rw [wit]
  obtain ⟨o, h1, rfl⟩ := (S.ld _ (.head _)).1
  refine wpAny_pyIter_range h1 (small_one (by lia) (by lia) (by lia) (by lia)) ?_
  have S' := (S.forget).alloc (.raw s.heap.objs.size (rngO 0 n)) (rngO 0 n) rfl rfl rfl
  have e : Builtin.Range.rangeSize 0 n 1 = (n : Int) := by rw [rangeSize_one]; split <;> lia
  rw [e]
  exact h _ _ S.ns.lt S'
theorem iterP_range {I : Addr} {n m : Nat} (hA : Ok A m) : IterP w o₀ g A I n (fun k v => ∃ t, v = .int k t) (fun k => .raw I (rngO (k : Nat) ((n - k : Nat) : Int))) := by
  refine ⟨fun k s L nm vs led hk S Q h => ?_, fun s L nm vs led S Q h => ?_, fun s L nm vs led S Q h => ?_⟩
  · obtain ⟨o, h1, rfl⟩ := (S.ld _ (.head _)).1
    refine wpAny_pyNext_range_item (it := I) (x := k) (left := ((n - k : Nat) : Int)) (step := 1) h1 (by lia) fun h' hit hs => h _ _ ⟨_, rfl⟩ ?_
    have e1 : ((k : Int) + 1) = ((k + 1 : Nat) : Int) := by lia
    have e2 : ((n - k : Nat) : Int) - 1 = ((n - (k + 1) : Nat) : Int) := by lia
    rw [e1, e2] at hit
    exact (S.tok (s.toks + 1)).head hit hs
  · obtain ⟨o, h1, rfl⟩ := (S.ld _ (.head _)).1
    exact wpAny_pyNext_range_end (it := I) (x := n) (left := ((n - n : Nat) : Int)) (step := 1) hA.hd h1 (by lia) fun h' he => h _ (S.drop (s' := { s with heap := h' }) he rfl rfl)
  · obtain ⟨o, h1, rfl⟩ := (S.ld _ (.head _)).1
    exact wpAny_pyIter_rangeiter (it := I) h1 h
end
end Mine
namespace Mine
/- the cells that a comprehension's block takes over -/
noncomputable def closOf (cl : List (Str × Addr)) : List (Str × NameKind) → List (Str × Addr) → Option (List (Str × Addr))
  | [], acc => some acc
  | (n, k) :: r, acc => if k == .free then (match cl.lookup n with | some c => closOf cl r ((n, c) :: acc) | none => none) else closOf cl r acc
section
variable {w : World} {o₀ : OsState} {g g₂ : Heap} {L : Addr} {nm gl : List Str} {vs vs' : List (Option Value)} {led led' sub rest : Led} {s s₂ : Shared} {A : Around} {env : Env} {cl cs : List (Str × Addr)}
theorem lift_ff {α : Type} {t : Sem α} {Q : α → Shared → Prop} {E : Value → Shared → Prop} (h : wpAny (MM w) A t Q FF s) : wpAny (MM w) A t Q E s := wpAny_mono h (fun _ _ x => x) fun _ _ x => x.elim
theorem closureFor_cl {scope : Scope} (ec : EnC env cl) (h : closOf cl scope.names [] = some cs) : closureFor scope env = pure cs := by
  simp only [closureFor]
  have key : ∀ (names : List (Str × NameKind)) (acc : List (Str × Addr)), closOf cl names acc = some cs → (forIn names acc fun x r => match x with
      | (name, kind) => if (kind == NameKind.free) = true then do let a ← cellOf env name; pure (ForInStep.yield ((name, a) :: r)) else pure (ForInStep.yield r) : Sem (List (Str × Addr))) = pure cs := by
    intro names
    induction names with
    | nil => intro acc h; cases h; rfl
    | cons p r ih =>
      intro acc h
      obtain ⟨n, k⟩ := p
      unfold closOf at h
      rw [List.forIn_cons]
      by_cases hk : (k == NameKind.free) = true
      · rw [if_pos hk] at h
        simp only [hk, if_true]
        cases q : cl.lookup n with
        | none => rw [q] at h; cases h
        | some c =>
          rw [q] at h
          have e : cellOf env n = pure c := by
            unfold cellOf
            rw [ec.at_ (n, c) (mem_of_lookup q)]
          rw [e]
          exact ih _ h
      · rw [if_neg hk] at h
        simp only [hk]
        exact ih _ h
  have := key scope.names [] h
  rw [show (forIn scope.names [] fun x r => match x with
      | (name, kind) => if (kind == NameKind.free) = true then do let a ← cellOf env name; pure (ForInStep.yield ((name, a) :: r)) else pure (ForInStep.yield r) : Sem (List (Str × Addr))) = pure cs from this]
  rfl
theorem lookup_relabel_free {env : Env} (hk : env.scope.kind = .function) : ∀ {names : List (Str × NameKind)} {x : Str}, names.lookup x = some .free → env.kindOf x = some .cell →
    (names.map fun (n, k) => if (k == NameKind.free && env.scope.kind == .function && env.kindOf n == some .cell) then (n, NameKind.cell) else (n, k)).lookup x = some .cell
  | [], _, h, _ => by simp at h
  | (n, k) :: r, x, h, hc => by
    have ih := @lookup_relabel_free env hk r x
    show List.lookup x ((if (k == NameKind.free && env.scope.kind == .function && env.kindOf n == some .cell) = true then (n, NameKind.cell) else (n, k)) :: _) = _
    cases hx : x == n with
    | true =>
      simp only [List.lookup_cons, hx] at h
      have h : k = .free := by simpa using h
      subst h
      have e : x = n := eq_of_beq hx
      subst e
      rw [if_pos (by rw [hk, hc]; rfl)]
      simp [List.lookup_cons]
    | false =>
      simp only [List.lookup_cons, hx] at h
      by_cases hc' : (k == NameKind.free && env.scope.kind == .function && env.kindOf n == some .cell) = true
      · rw [if_pos hc']; simp only [List.lookup_cons, hx]; exact ih h hc
      · rw [if_neg hc']; simp only [List.lookup_cons, hx]; exact ih h hc
noncomputable def compCl (scope : Scope) (cn : List Str) : Bool := (cn.all fun x => decide (scope.names.lookup x = some .free)) && decide cn.Nodup
/- inside a comprehension -/
theorem EnC.comp {scope : Scope} {Cc : Addr} {cn : List Str} (e : En env L nm gl) (ec : EnC env cl) (hsub : ∀ p ∈ cs, p ∈ cl) (hcn : cs.map (·.1) = cn) (hc : compCl scope cn = true) : EnC (compEnvC scope cs Cc env) cs := by
  simp only [compCl, Bool.and_eq_true, decide_eq_true_eq] at hc
  obtain ⟨h1, h2⟩ := hc
  refine ⟨fun p hp => ?_, fun p hp => ?_, fun p hp => ec.dbg p (hsub p hp)⟩
  · have : p.1 ∈ cn := by rw [← hcn]; exact List.mem_map_of_mem hp
    exact lookup_relabel_free e.kind (of_decide_eq_true (List.all_eq_true.mp h1 _ this)) (ec.kind p (hsub p hp))
  · exact lookup_of_mem_nodup (by show (cs.map (·.1)).Nodup; rw [hcn]; exact h2) hp
/- a comprehension stored in a cell's name -/
theorem x_assign_cell {x : Str} {c : Addr} {p : Pos} {e : Expr} {pos : Pos} {rest : List Stmt} {Q : QF} (ec : EnC env cl) (hx : (x, c) ∈ cl) (h : WE w A env e (fun v s₁ => WStore w A env x v (fun _ s₂ => WX w A env rest Q s₂) s₁) s) : WX w A env (.Assign [.Name x p] e pos :: rest) Q s := by
  rw [wx]; simp only [we, wst, wx] at h
  refine wpAny_execs_cons (wpAny_Assign_Name h ?_)
  have hk := ec.kind _ hx
  have hk' : env.kindOf x = some .cell := hk
  cases e <;> first | rfl | skip
  all_goals
    (show (pure (_ && (env.kindOf x == some NameKind.local) && _ && _) : Sem Bool) = _
     rw [hk', show (some NameKind.cell == some NameKind.local) = false from rfl, Bool.and_false, Bool.false_and, Bool.false_and])
theorem x_tuple_comp {elts k p elt gens scope pc pos rest} {Q : QF} (h : WE w A env (.ListComp elt gens scope pc) (fun v s₁ => WAs w A env (.Tuple elts k p) v (fun _ s₂ => WX w A env rest Q s₂) s₁) s) :
    WX w A env (.Assign [.Tuple elts k p] (.ListComp elt gens scope pc) pos :: rest) Q s := by
  rw [wx]; simp only [we, was, wx] at h
  exact wpAny_execs_cons (Assign_Tuple h rfl rfl)
/- a for's next turn, and its end -/
theorem f_turn {target : Expr} {body : List Stmt} {K : QF} {I : Addr} {n m : Nat} {P : Nat → Value → Prop} {Ic : Nat → Cell} (it : IterP w o₀ g A I n P Ic) (ht : ∀ v, letOwnedTupleGo target (.ref I) v = pure ()) (k : Nat) (hk : k < n) (S : St w o₀ g L nm vs (Ic k :: led) s)
    (h : ∀ v s, P k v → St w o₀ g L nm vs (Ic (k + 1) :: led) s → WAs w A env target v (fun _ s₂ => WX w A env body (FEnd (fun s₃ => WF w A env target (.ref I) body K s₃) K) s₂) s) : WF w A env target (.ref I) body K s := by
  unfold WF
  refine codeAny_of_tree ?_
  show wpAny (MM w) A ((forTurn target (.ref I) body [] env).onRaise (fun x => do noteFrame x env; theTreesLotGoes x)) _ _ s
  refine wpAny_noted ?_
  simp only [forTurn]
  refine wpAny_bind (wpAny_standAt (wpAny_bind (wpAny_onRaise (lift_ff (it.item k _ _ _ _ _ hk S _ fun v s' hv S' => ?_)))))
  refine wpAny_bind (noted_of ?_)
  rw [ht v]
  refine wpAny_pure ?_
  have t := h v s' hv S'
  rw [was] at t
  refine wpAny_bind (wpAny_mono t (fun _ s₂ h₂ => wpAny_bind (wpAny_mono (show wpAny (MM w) A (execs body env) _ FF s₂ from by rw [wx] at h₂; exact h₂) (fun f s₃ h₃ => ?_) fun _ _ q => q.elim)) fun _ _ q => q.elim)
  rw [fend] at h₃
  unfold WF at h₃
  cases f with
  | next => exact wpAny_pure ⟨rfl, h₃⟩
  | cont => exact wpAny_pure ⟨rfl, h₃⟩
  | brk => exact wpAny_pure h₃
  | ret v => exact wpAny_pure h₃
theorem f_stop {target : Expr} {body : List Stmt} {K : QF} {I : Addr} {n m : Nat} {P : Nat → Value → Prop} {Ic : Nat → Cell} (it : IterP w o₀ g A I n P Ic) (S : St w o₀ g L nm vs (Ic n :: led) s)
    (h : ∀ s, St w o₀ g L nm vs led s → K .next s) : WF w A env target (.ref I) body K s := by
  unfold WF
  refine codeAny_of_tree ?_
  show wpAny (MM w) A ((forTurn target (.ref I) body [] env).onRaise (fun x => do noteFrame x env; theTreesLotGoes x)) _ _ s
  refine wpAny_noted ?_
  simp only [forTurn]
  refine wpAny_bind (wpAny_standAt (wpAny_bind (wpAny_onRaise (lift_ff (it.stop _ _ _ _ _ S _ fun s' S' => ?_)))))
  exact wpAny_pure ⟨rfl, codeAny_block (noted_of (wpAny_execs_nil (h _ S')))⟩
end
end Mine
namespace Mine
/- a sign that quote leaves bare -/
noncomputable def safeC (c : Nat) : Bool := (48 ≤ c && c ≤ 57) || (65 ≤ c && c ≤ 90) || (97 ≤ c && c ≤ 122) || [95, 64, 37, 43, 61, 58, 44, 46, 47, 45].contains c
noncomputable def safeT (x : Str) : Bool := x.cps.toList.all safeC
/- the words that tempt -/
noncomputable def wordsT : List Str := [Str.ofString "", Str.ofString "a", Str.ofString "it's", Str.ofString "a b", Str.ofString ":", Str.ofString "a\nb", Str.ofString "\\", Str.ofString "\"", Str.ofString "us"]
noncomputable def WordOk (x : Str) : Prop := x ∈ wordsT ∨ ∃ c, c < 55296 ∧ x = ch c
theorem fd_1 {w : World} {b : Nat} {x : Str} {t : Tok} : lay (KK w.params) ⟨pg, w.params⟩ (callAny (.ref 792) ⟨[.str x t], []⟩) b = some ([], .again (.builtin "re.Pattern.search" ⟨[.ref 146, .str x t], []⟩)) := by kernel_rfl
/- the search's machine, run to its end -/
noncomputable def drv : Nat → Sre.M → Option Sre.M
  | 0, _ => none
  | n + 1, m => if (m.runFor Builtin.Re.reTurnSteps).outcome.isSome then some (m.runFor Builtin.Re.reTurnSteps) else drv n (m.runFor Builtin.Re.reTurnSteps)
noncomputable def fdCode : Array Nat := #[14, 17, 4, 1, 1, 21, 9, 0, 604043296, 1, 0, 0, 0, 0, 0, 8, 4, 0, 13, 14, 21, 9, 0, 604043296, 1, 0, 0, 0, 0, 0, 8, 4, 0, 1]
noncomputable def drvOk (safe : Bool) : Option Sre.M → Bool
  | some m => (match m.outcome with | some .failed => safe | some .matched => !safe | _ => false)
  | none => false
noncomputable abbrev fdM (x : Str) : Sre.M := Sre.forSearch fdCode x.cps 0 0 x.cps.size false
theorem fd_words : (wordsT.all fun x => (x.length == 0) || drvOk (safeT x) (drv 5 (fdM x))) = true := by decide +kernel
theorem fd_low : ((List.range 256).all fun c => drvOk (safeC c) (drv 5 (fdM (ch c)))) = true := by decide +kernel
theorem fd_high {k : Nat} : drvOk false (drv 5 (fdM (ch (k + 256)))) = true := by kernel_rfl
theorem safe_high {k : Nat} : safeC (k + 256) = false := by
  have : ∀ n : Nat, n < 256 → (k + 256 == n) = false := fun n hn => by simp; lia
  simp (config := { iota := false }) only [safeC, List.contains_eq_any_beq, List.any_cons, List.any_nil, this 95 (by lia), this 64 (by lia), this 37 (by lia), this 43 (by lia), this 61 (by lia), this 58 (by lia), this 44 (by lia), this 46 (by lia), this 47 (by lia), this 45 (by lia), Bool.or_false]
  simp
theorem fd_all {x : Str} (h : WordOk x) (hx : (x.length == 0) = false) : drvOk (safeT x) (drv 5 (fdM x)) = true := by
  rcases h with h | ⟨c, _, rfl⟩
  · have := List.all_eq_true.mp fd_words x h
    rw [hx, Bool.false_or] at this
    exact this
  · have e : safeT (ch c) = safeC c := by simp [safeT]
    rw [e]
    rcases Nat.lt_or_ge c 256 with hc | hc
    · exact List.all_eq_true.mp fd_low c (List.mem_range.mpr hc)
    · obtain ⟨k, rfl⟩ := Nat.exists_eq_add_of_le' hc
      rw [safe_high]; exact fd_high
noncomputable def tgt (x : Str) (t : Tok) : Builtin.Re.ReTarget := { pattern := .ref 146, string := .str x t, code := fdCode, text := x.cps, kind := 0, groups := 0, pos := 0, lim := min (2 ^ 63 - 1) x.cps.size }
theorem fd_2 {w : World} {b : Nat} {x : Str} {t : Tok} : lay (KK w.params) ⟨pg, w.params⟩ (Builtin.Re.reTarget "re.Pattern.search" "search" ⟨[.ref 146, .str x t], []⟩) b = some ([], tgt x t) := by kernel_rfl
theorem wp_drive {M : Model} {A : Around} {E : Value → Shared → Prop} {s : Shared} : ∀ (n k : Nat) (m m' : Sre.M) (Q : Sre.M → Shared → Prop), drv n m = some m' → Q m' s → wpAny M A (Builtin.Re.reDrive (k + n) m) Q E s
  | 0, k, m, m', Q, h, _ => by cases h
  | n + 1, k, m, m', Q, h, q => by
    unfold drv at h
    show wpAny M A (if (m.runFor Builtin.Re.reTurnSteps).outcome.isSome then pure (m.runFor Builtin.Re.reTurnSteps) else do rule "sre.turn"; Builtin.Re.reDrive (k + n) (m.runFor Builtin.Re.reTurnSteps)) Q E s
    by_cases hc : (m.runFor Builtin.Re.reTurnSteps).outcome.isSome = true
    · rw [if_pos hc] at h ⊢
      cases h
      exact wpAny_pure q
    · rw [if_neg hc] at h ⊢
      exact wpAny_bind (wpAny_rule (wp_drive n k _ m' Q h q))
theorem wp_notes {M : Model} {A : Around} {E : Value → Shared → Prop} {s : Shared} {m : Sre.M} : ∀ (l : List Nat) (Q : PUnit → Shared → Prop), Q ⟨⟩ s → wpAny M A (forIn l PUnit.unit fun i _ => if m.seen.has i = true then do rule (Sre.names.getD i ""); pure (ForInStep.yield PUnit.unit) else pure (ForInStep.yield PUnit.unit)) Q E s
  | [], Q, q => by rw [List.forIn_nil]; exact wpAny_pure q
  | i :: l, Q, q => by
    rw [List.forIn_cons]
    by_cases hc : m.seen.has i = true
    · simp (config := { iota := false }) only [hc, if_true]
      exact wpAny_bind (wpAny_bind (wpAny_rule (wpAny_pure (wp_notes l Q q))))
    · simp (config := { iota := false }) only [hc]
      exact wpAny_bind (wpAny_pure (wp_notes l Q q))
theorem fd_room (x : Str) (h : x.cps.size ≤ 1000) : min (2 ^ 63 - 1) x.cps.size = x.cps.size := Nat.min_eq_right (Nat.le_trans h (by decide))
theorem fd_mk {M : Model} {A : Around} {E : Value → Shared → Prop} {s : Shared} {m : Sre.M} {x : Str} {t : Tok} {n : Nat} {Q : Value → Shared → Prop} (q : ∀ l : List Obj, Q (.ref (s.heap.objs.size + 1)) { s with heap := l.foldl Heap.push s.heap }) : wpAny M A (Builtin.Re.reNewMatch (.ref 146) (.str x t) 0 0 n m) Q E s := by
  unfold Builtin.Re.reNewMatch
  dsimp (config := { iota := false }) only [List.range, List.range.loop, List.flatMap_nil, List.any_nil]
  refine wp_lay (K := []) _ _ [_, _] (fun a o e => nomatch e) rfl (q _)
section
variable {w : World} {o₀ : OsState} {g g₂ : Heap} {L : Addr} {nm gl : List Str} {vs vs' : List (Option Value)} {led led' : Led} {s s₂ : Shared} {A : Around} {env : Env}
theorem cw_find {pos : Pos} {first : List Value} {args : List Expr} {Q : QV} (ha : args.all noStar = true)
    (h : WA w A env pos args (fun vs s₁ => WCK w A (.ref 792) (first ++ vs) Q s₁) s) : WCW w A env pos (.ref 792) first args Q s := by
  rw [wcw]; simp (config := { iota := false }) only [wa, wck, wc] at h
  refine callWith_of (P := fun h => (KK w.params).In h) (by rw [noStar_any ha]; rfl) (fun h X => ⟨.machine, .inr (.inl rfl), Looks.of_peek X (by kernel_rfl)⟩) (evalArgs_any ha (wpAny_mono h (fun _ _ q => q) fun _ _ x => x))
theorem pushes : ∀ (l : List Obj) {s : Shared}, St w o₀ g L nm vs led s → St w o₀ g L nm vs led { s with heap := l.foldl Heap.push s.heap }
  | [], _, S => S
  | o :: l, s, S => pushes l (s := { s with heap := s.heap.push o }) (S.push o)
theorem k_find {x : Str} {t : Tok} {Q : QV} (S : St w o₀ g L nm vs led s) (hx : WordOk x) (hz : (x.length == 0) = false) (hn : x.cps.size ≤ 1000) (h : ∀ s v, (v == Value.none) = safeT x → St w o₀ g L nm vs led s → Q v s) : WC w A (.ref 792) [.str x t] [] Q s := by
  rw [wc]
  have X := S.P.K.keeps S.keep
  refine wpAny_call (codeAny_of_tree ?_)
  show wpAny _ _ (callAny (.ref 792) _) _ _ _
  refine wp_lay _ _ _ X fd_1 ?_
  refine ⟨Code.quiet_builtin _ (by decide +kernel), codeAny_builtin (b := Builtin.«re.Pattern.search») (entryFor_of_tree (by kernel_rfl)) ?_⟩
  unfold Builtin.«re.Pattern.search»
  refine wpAny_bind (wp_lay _ _ _ X fd_2 ?_)
  have f := fd_all hx hz
  show wpAny _ _ (Builtin.Re.reAnswer (tgt x t) (Sre.forSearch fdCode x.cps 0 0 (min (2 ^ 63 - 1) x.cps.size) false)) _ _ s
  rw [fd_room x hn]
  unfold Builtin.Re.reAnswer Builtin.Re.reRunToEnd
  cases hd : drv 5 (fdM x) with
  | none => rw [hd] at f; cases f
  | some m =>
    rw [hd] at f
    refine wpAny_bind (wpAny_bind ?_)
    rw [show (2 : Nat) ^ 64 = (2 ^ 64 - 5) + 5 by decide]
    refine wp_drive 5 _ _ m _ hd ?_
    refine wpAny_bind (wp_notes _ _ ?_)
    unfold drvOk at f
    dsimp only at f
    cases ho : m.outcome with
    | none => rw [ho] at f; cases f
    | some r =>
      rw [ho] at f
      cases r with
      | stuck y => cases f
      | failed =>
        refine wpAny_pure (wpAny_pure ?_)
        exact h _ _ (by dsimp only at f; rw [f]; rfl) S
      | matched =>
        refine wpAny_pure ?_
        refine wpAny_bind (fd_mk fun l => wpAny_pure ?_)
        refine h _ _ ?_ (pushes l S)
        have : safeT x = false := by simpa using f
        rw [this]; rfl
end
/- what quote gives -/
noncomputable def quoteT (x : Str) : Str := if x.length == 0 then Str.ofString "''" else if safeT x then x else Str.ofString "'" ++ Txt.replace x (Str.ofString "'") (Str.ofString "'\"'\"'") ++ Str.ofString "'"
end Mine
namespace Mine
open PySem.Builtin.Str in
theorem replace_len (x y z : Str) : (Txt.replace x y z).length ≤ x.length + (x.length + 1) * z.length := by
  unfold Txt.replace
  split
  · lia
  · have h1 := StrLaws.occ_length_le x y 0 x.length (x.length + 1)
    have hy : (glued y (partsBetween x (occurrences x y 0 x.length (x.length + 1)) y.length)).length = x.length := by rw [StrLaws.glued_between_self]
    rw [size_glued, length_partsBetween, Nat.add_sub_cancel] at hy
    rw [size_glued, length_partsBetween, Nat.add_sub_cancel]
    have h2 : (occurrences x y 0 x.length (x.length + 1)).length * z.length ≤ (x.length + 1) * z.length := Nat.mul_le_mul_right _ h1
    lia
section
variable {w : World} {o₀ : OsState} {g g₂ : Heap} {L : Addr} {nm gl : List Str} {vs vs' : List (Option Value)} {led led' : Led} {s s₂ : Shared} {A : Around} {env : Env}
theorem r_strT {x k pos} {Q : QV} (S : St w o₀ g L nm vs led s) (k' : ∀ s', s'.toks = s.toks + 1 → St w o₀ g L nm vs led s' → Q (.str x s.toks) s') : WE w A env (.Constant (.str x) k pos) Q s := by
  rw [we]; exact wpAny_mkText (k' _ rfl (S.tok _))
theorem k_replace {x y z : Str} {t u v : Tok} {Q : QV} (S : St w o₀ g L nm vs led s) (hu : u ≠ 0) (hv : v ≠ 0) (huv : u ≠ v) (hyz : (y == z) = false) (hx : x.length ≤ 1000) (hz : Nat.ble z.length 1000 = true)
    (h : ∀ s t, St w o₀ g L nm vs led s → Q (.str (Txt.replace x y z) t) s) : WC w A (.builtin "str.replace") [.str x t, .str y u, .str z v] [] Q s := by
  rw [wc]
  refine SC.replace hu hv huv hyz ?_ fun t' k => h _ _ (S.tok k)
  have := Nat.le_of_ble_eq_true hz
  have : (x.length + 1) * z.length ≤ 1001 * 1000 := Nat.mul_le_mul (by lia) this
  lia
end
end Mine
namespace Mine
noncomputable def foldersT : List (List Str) := [[Str.ofString "a", Str.ofString "b"], [Str.ofString "a.b"], [Str.ofString "a"], [Str.ofString "", Str.ofString "a"], [Str.ofString "it's"], [Str.ofString "a", Str.ofString "bc"], [Str.ofString "."], [Str.ofString "b"], [Str.ofString "a", Str.ofString "b", Str.ofString "c"], []]
noncomputable def basesT : List Str := [Str.ofString "x", Str.ofString "y", Str.ofString "b.x", Str.ofString "a.b.x", Str.ofString "yy", Str.ofString "b"]
noncomputable def folderT (i : Nat) : List Str := foldersT.getD i []
noncomputable def baseT (i : Nat) : Str := basesT.getD (i % 6) (Str.ofString "")
/- a figure of a number -/
noncomputable def figI (n : Int) (k : Nat) : Int := (n.fdiv (10 ^ k)).fmod 10
noncomputable def fig (n : Int) (k : Nat) : Nat := (figI n k).toNat
theorem figI_eq (n : Int) (k : Nat) : figI n k = (fig n k : Int) ∧ fig n k < 10 := by
  have h1 : 0 ≤ figI n k := Int.fmod_nonneg_of_pos _ (by decide)
  have h2 : figI n k < 10 := Int.fmod_lt_of_pos _ (by decide)
  unfold fig
  lia
end Mine
namespace Mine
section
variable {w : World} {o₀ : OsState} {g g₂ : Heap} {L : Addr} {nm gl : List Str} {vs vs' : List (Option Value)} {led led' sub rest : Led} {s s₂ : Shared} {A : Around} {env : Env} {cl cs : List (Str × Addr)}
inductive AllIn (cl : List (Str × Addr)) : List (Str × Addr) → Prop
  | nil : AllIn cl []
  | cons {p r} : p ∈ cl → AllIn cl r → AllIn cl (p :: r)
theorem AllIn.all {cl r} (h : AllIn cl r) : ∀ p ∈ r, p ∈ cl := by
  induction h with
  | nil => intro p hp; cases hp
  | cons h _ ih =>
    intro p hp
    rcases List.mem_cons.mp hp with rfl | hp
    · exact h
    · exact ih p hp
theorem EnC.of {scope : Scope} {Cc : Addr} {cenv : Env} {cn : List Str} (e : En env L nm gl) (ec : EnC env cl) (hce : cenv = compEnvC scope cs Cc env) (hsub : AllIn cl cs) (hcn : cs.map (·.1) = cn) (hc : compCl scope cn = true) : EnC cenv cs := by
  subst hce
  exact EnC.comp e ec hsub.all hcn hc
theorem swaps_yes {y : Str} {py : Pos} {elt : Expr} {gens : List Comprehension} {scope : Scope} {pos : Pos} {ln : Nat} (e : En env L nm gl) (hy : y ∈ nm) (hl : (py.line == pos.line) = true) (hn : (scope.names.any fun p => p.1 == y && (p.2 == .local || p.2 == .cell)) = false) :
    swapsWith (.ListComp elt gens scope pos) (some (.Name y py)) ln env = pure true := by
  show (pure ((env.blockKind == .function) && (env.kindOf y == some .local) && (py.line == pos.line) && !(scope.names.any fun p => p.1 == y && (p.2 == .local || p.2 == .cell))) : Sem Bool) = _
  rw [hl, hn, e.loc y hy]
  simp (config := { iota := false }) only [Env.blockKind, e.kind, ScopeKind.isAnnotationScope, Bool.false_eq_true, if_false]
  rfl
end
theorem figs_succ {n : Int} {k : Nat} : (List.range (k + 1)).map (figI n) = (List.range k).map (figI n) ++ [figI n k] := by
  rw [List.range_succ, List.map_append]; rfl
theorem Strs.append {l xs l' xs'} (h : Strs l xs) (k : Strs l' xs') : Strs (l ++ l') (xs ++ xs') := by
  induction h with
  | nil => exact k
  | cons _ ih => exact .cons ih
theorem Strs.cast {l : List Value} {xs ys : List Str} (h : Strs l xs) (e : xs = ys) : Strs l ys := e ▸ h
theorem ints_snoc {l ns n t} (h : IntsAre l ns) : IntsAre (l ++ [.int n t]) (ns ++ [n]) := by
  induction h with
  | nil => exact .cons _ _ .nil
  | cons _ _ _ ih => exact .cons _ _ ih
theorem ints_at {l ns} (h : IntsAre l ns) : ∀ {i : Nat} {n : Int}, ns[i]? = some n → ∃ t, l[i]? = some (.int n t) := by
  induction h with
  | nil => intro i n e; cases e
  | cons _ t _ ih =>
    intro i n e
    cases i with
    | zero => cases e; exact ⟨t, rfl⟩
    | succ i => exact ih e
theorem ints_len {l ns} (h : IntsAre l ns) : l.length = ns.length := by
  induction h with
  | nil => rfl
  | cons _ _ _ ih => simp [ih]
/- a module to be left out; a way to a directory -/
noncomputable def behindT (j : Nat) : List Str := if j < 5 then [baseT j] else []
noncomputable def modT (i j : Nat) : Str := Txt.join (Str.ofString ".") (folderT i ++ behindT j)
noncomputable def turnsT : List Str := [Str.ofString "", Str.ofString "/.", Str.ofString "//", Str.ofString "/q/.."]
noncomputable def turnT (j : Nat) : Str := turnsT.getD (j % 4) (Str.ofString "")
/- the parts of a way, from the first that is still to come on -/
noncomputable def wayParts (row : List Str) (f : Nat → Nat) : List Str := (List.range row.length).map fun i => row.getD i (Str.ofString "") ++ turnT (f i)
noncomputable def wayT (row : List Str) (f : Nat → Nat) : Str := Txt.join (Str.ofString "/") (wayParts row f)
theorem folder_len (i : Nat) : (folderT i).length ≤ 3 := by
  have h : ∀ i, i < 10 → (folderT i).length ≤ 3 := by decide +kernel
  rcases Nat.lt_or_ge i 10 with q | q
  · exact h i q
  · have : folderT i = [] := by
      unfold folderT
      rw [List.getD_eq_getElem?_getD, List.getElem?_eq_none (by show foldersT.length ≤ i; exact q)]; rfl
    rw [this]; decide
theorem mod_join : ((List.range 10).all fun i => (List.range 10).all fun j => JoinOk (Str.ofString ".") (folderT i ++ behindT j)) = true := by decide +kernel
theorem modJoin {i j : Nat} (hi : i < 10) (hj : j < 10) : JoinOk (Str.ofString ".") (folderT i ++ behindT j) = true :=
  List.all_eq_true.mp (List.all_eq_true.mp mod_join i (List.mem_range.mpr hi)) j (List.mem_range.mpr hj)
end Mine
namespace Mine
theorem Strs.get {l : List Value} {xs : List Str} (h : Strs l xs) : ∀ {i : Nat} {c : Str}, xs[i]? = some c → ∃ t, l[i]? = some (.str c t) := by
  induction h with
  | nil => intro i c e; cases e
  | cons _ ih =>
    intro i c e
    cases i with
    | zero => cases e; exact ⟨_, rfl⟩
    | succ i => exact ih e
section
variable {w : World} {o₀ : OsState} {g g₂ : Heap} {L : Addr} {nm gl : List Str} {vs vs' : List (Option Value)} {led led' sub rest : Led} {s s₂ : Shared} {A : Around} {env : Env} {cl cs : List (Str × Addr)}
/- a list of texts is laid; what it holds is known up to its tokens -/
theorem n_strs {l : List Value} {xs : List Str} {Q : QV} (S : St w o₀ g L nm vs led s) (hs : Strs l xs) (hl : Nat.ble l.length 100000 = true)
    (k : ∀ s a l, L < a → Strs l xs → St w o₀ g L nm vs (.lst a l :: led) s → Q (.ref a) s) : WLst w A l Q s := n_list S hl fun s a ha S => k s a l ha hs S
/- a for over an iterator whose run is known -/
theorem f_it {target : Expr} {body : List Stmt} {K : QF} {I : Addr} {n : Nat} {P : Nat → Value → Prop} {Ic : Nat → Cell} (it : IterP w o₀ g A I n P Ic) (ht : ∀ v, letOwnedTupleGo target (.ref I) v = pure ()) (J : Nat → List (Option Value) → Led → Prop)
    (S : St w o₀ g L nm vs (Ic 0 :: led) s) (h0 : J 0 vs led)
    (turn : ∀ k v vs led s, k < n → P k v → J k vs led → St w o₀ g L nm vs (Ic (k + 1) :: led) s →
      WAs w A env target v (fun _ s₂ => WX w A env body (FEnd (fun s₃ => ∃ vs' led', St w o₀ g L nm vs' (Ic (k + 1) :: led') s₃ ∧ J (k + 1) vs' led') K) s₂) s)
    (fin : ∀ vs led s, J n vs led → St w o₀ g L nm vs led s → K .next s) : WF w A env target (.ref I) body K s := by
  have key : ∀ m k vs led s, k + m = n → J k vs led → St w o₀ g L nm vs (Ic k :: led) s → WF w A env target (.ref I) body K s := by
    intro m
    induction m with
    | zero =>
      intro k vs led s hk hJ S
      have : k = n := by lia
      subst this
      exact f_stop (m := 0) it S fun s S => fin _ _ _ hJ S
    | succ m ih =>
      intro k vs led s hk hJ S
      refine f_turn (m := 0) it ht k (by lia) S fun v s hv S => ?_
      have t := turn k v vs led s (by lia) hv hJ S
      rw [was] at t ⊢
      refine wpAny_mono t (fun _ s₂ h₂ => ?_) fun _ _ q => q
      rw [wx] at h₂ ⊢
      refine wpAny_mono h₂ (fun f s₃ h₃ => ?_) fun _ _ q => q
      rw [fend] at h₃ ⊢
      cases f with
      | next => obtain ⟨vs', led', S', J'⟩ := h₃; exact ih (k + 1) vs' led' s₃ (by lia) J' S'
      | cont => obtain ⟨vs', led', S', J'⟩ := h₃; exact ih (k + 1) vs' led' s₃ (by lia) J' S'
      | brk => exact h₃
      | ret v => exact h₃
  exact key n 0 vs led s (by lia) h0 S
end
/- what holds of all ways holds of each -/
theorem way_all {P : List Str → Bool} (h : ((List.range 9).all fun i => (List.range 4).all fun a => (List.range 4).all fun b => (List.range 4).all fun c => P (wayParts (folderT i) fun k => [a, b, c].getD k 0)) = true) {i : Nat} (hi : i < 9) (f : Nat → Nat) : P (wayParts (folderT i) f) = true := by
  have h1 := List.all_eq_true.mp h i (List.mem_range.mpr hi)
  have h2 := List.all_eq_true.mp h1 (f 0 % 4) (List.mem_range.mpr (Nat.mod_lt _ (by decide)))
  have h3 := List.all_eq_true.mp h2 (f 1 % 4) (List.mem_range.mpr (Nat.mod_lt _ (by decide)))
  have h4 := List.all_eq_true.mp h3 (f 2 % 4) (List.mem_range.mpr (Nat.mod_lt _ (by decide)))
  have e : wayParts (folderT i) f = wayParts (folderT i) fun k => [f 0 % 4, f 1 % 4, f 2 % 4].getD k 0 := by
    unfold wayParts
    refine List.map_congr_left fun k hk => ?_
    have hk := List.mem_range.mp hk
    have hl := folder_len i
    have hc : k = 0 ∨ k = 1 ∨ k = 2 := by lia
    have ht : ∀ m, turnT (m % 4) = turnT m := fun m => by unfold turnT; rw [Nat.mod_mod]
    rcases hc with rfl | rfl | rfl <;> simp [ht]
  rw [e]; exact h4
theorem way_join0 : ((List.range 9).all fun i => (List.range 4).all fun a => (List.range 4).all fun b => (List.range 4).all fun c => JoinOk (Str.ofString "/") (wayParts (folderT i) fun k => [a, b, c].getD k 0)) = true := by decide +kernel
theorem wayJoin {i : Nat} (hi : i < 9) (f : Nat → Nat) : JoinOk (Str.ofString "/") (wayParts (folderT i) f) = true := way_all way_join0 hi f
theorem folder_short {i k : Nat} : ((folderT i).getD k (Str.ofString "")).length ≤ 10 := by
  have h : ∀ i, i < 10 → ∀ k, k < 3 → ((folderT i).getD k (Str.ofString "")).length ≤ 10 := by decide +kernel
  have hl := folder_len i
  rcases Nat.lt_or_ge i 10 with q | q
  · rcases Nat.lt_or_ge k 3 with q2 | q2
    · exact h i q k q2
    · rw [List.getD_eq_getElem?_getD, List.getElem?_eq_none (by lia)]; decide
  · have : folderT i = [] := by
      unfold folderT
      rw [List.getD_eq_getElem?_getD, List.getElem?_eq_none (by show foldersT.length ≤ i; exact q)]; rfl
    rw [this]; simp; decide
theorem turn_short {m : Nat} : (turnT m).length ≤ 10 := by
  have h : ∀ m, m < 4 → (turnT m).length ≤ 10 := by decide +kernel
  have := h (m % 4) (Nat.mod_lt _ (by decide))
  unfold turnT at this ⊢
  rwa [Nat.mod_mod] at this
theorem part_short {i k m : Nat} : ((folderT i).getD k (Str.ofString "")).length + (turnT m).length ≤ sizeLine := by
  have := folder_short (i := i) (k := k)
  have := turn_short (m := m)
  rw [sizeLine_eq]; lia
theorem getD_get {xs : List Str} {i : Nat} (h : i < xs.length) : xs[i]? = some (xs.getD i (Str.ofString "")) := by
  rw [List.getD_eq_getElem?_getD, List.getElem?_eq_getElem h]; rfl
theorem way_succ {row : List Str} {f : Nat → Nat} {k : Nat} : (List.range (k + 1)).map (fun i => row.getD i (Str.ofString "") ++ turnT (f i)) = (List.range k).map (fun i => row.getD i (Str.ofString "") ++ turnT (f i)) ++ [row.getD k (Str.ofString "") ++ turnT (f k)] := by
  rw [List.range_succ, List.map_append]; rfl
theorem fmod4 {k : Nat} : ((k : Nat) : Int).fmod 4 = ((k % 4 : Nat) : Int) := by
  rw [Int.fmod_eq_emod_of_nonneg _ (by decide)]; lia
theorem fig_get {n : Int} {l : List Value} (h : IntsAre l ((List.range 12).map (fun k => ((fig n k : Nat) : Int)))) {i : Nat} (hi : i < 12) : ∃ t, l[i]? = some (.int ((fig n i : Nat) : Int) t) :=
  ints_at h (by rw [List.getElem?_map, List.getElem?_range hi]; rfl)
theorem turn_get (m : Nat) : turnsT[m % 4]? = some (turnT m) := by
  unfold turnT
  rw [List.getD_eq_getElem?_getD]
  have : m % 4 < turnsT.length := Nat.mod_lt _ (by decide)
  rw [List.getElem?_eq_getElem this]; rfl
end Mine
namespace Mine
/- a text's head: its path, whether it has a file, whether it is read the posix way -/
structure Head where
  parts : List Str
  file : Bool
  px : Bool
/- a row's item -/
structure Item where
  k : Str
  v : Str
  last : Int
noncomputable def headsT : List (List Str) := [Str.ofString "top"] :: (List.range 10).flatMap fun i => (List.range 6).map fun j => folderT i ++ [baseT j]
noncomputable def HeadOk (h : Head) : Prop := h.parts ∈ headsT
noncomputable def ItemOk (N : Nat) (it : Item) : Prop := (it.last = 0 ∨ it.last = 1) ∧ ((it.k = Str.ofString "use" ∧ ∃ n : Nat, n < N ∧ it.v = Str.ofString (toString (n : Int))) ∨ (it.k = Str.ofString "word" ∧ WordOk it.v))
noncomputable def HeadF (F : Addr → Obj → Prop) (v : Value) (h : Head) : Prop := ∃ p lp, LstF F v [p, .bool h.file, .bool h.px] ∧ LstF F p lp ∧ Strs lp h.parts
noncomputable def ItemF (F : Addr → Obj → Prop) (v : Value) (it : Item) : Prop := ∃ t1 t2 t3, LstF F v [.str it.k t1, .str it.v t2, .int it.last t3]
noncomputable def RowF (F : Addr → Obj → Prop) (v : Value) (row : List Item) : Prop := ∃ l, LstF F v l ∧ All2 (ItemF F) l row
theorem HeadF.mono {F F' : Addr → Obj → Prop} {v h} (x : HeadF F v h) (k : ∀ a o, F a o → F' a o) : HeadF F' v h := let ⟨p, lp, h1, h2, h3⟩ := x; ⟨p, lp, h1.mono k, h2.mono k, h3⟩
theorem ItemF.mono {F F' : Addr → Obj → Prop} {v h} (x : ItemF F v h) (k : ∀ a o, F a o → F' a o) : ItemF F' v h := let ⟨t1, t2, t3, h1⟩ := x; ⟨t1, t2, t3, h1.mono k⟩
theorem RowF.mono {F F' : Addr → Obj → Prop} {v h} (x : RowF F v h) (k : ∀ a o, F a o → F' a o) : RowF F' v h := let ⟨l, h1, h2⟩ := x; ⟨l, h1.mono k, h2.mono fun _ _ z => z.mono k⟩
/- heads and rows, frozen -/
noncomputable def HeadsF (F : Addr → Obj → Prop) (v : Value) (hs : List Head) : Prop := ∃ l, LstF F v l ∧ All2 (HeadF F) l hs
noncomputable def RowsF (F : Addr → Obj → Prop) (v : Value) (rs : List (List Item)) : Prop := ∃ l, LstF F v l ∧ All2 (RowF F) l rs
theorem HeadsF.mono {F F' : Addr → Obj → Prop} {v h} (x : HeadsF F v h) (k : ∀ a o, F a o → F' a o) : HeadsF F' v h := let ⟨l, h1, h2⟩ := x; ⟨l, h1.mono k, h2.mono fun _ _ z => z.mono k⟩
theorem RowsF.mono {F F' : Addr → Obj → Prop} {v h} (x : RowsF F v h) (k : ∀ a o, F a o → F' a o) : RowsF F' v h := let ⟨l, h1, h2⟩ := x; ⟨l, h1.mono k, h2.mono fun _ _ z => z.mono k⟩
noncomputable def pathT (h : Head) : Str := Txt.join (Str.ofString "/") h.parts
noncomputable def nameT (h : Head) : Str := Txt.join (Str.ofString ".") h.parts
noncomputable def fileO (h : Head) : Option Str := if h.file then some (pathT h) else none
noncomputable def itemT (it : Item) : Str := (if it.k == Str.ofString "use" then Str.ofString "use " ++ it.v else quoteT it.v) ++ (if it.last = 0 then Str.ofString " " else Str.ofString "\n")
noncomputable def textT (row : List Item) : Str := row.foldl (fun t it => t ++ itemT it) (Str.ofString "")
theorem heads_join : (headsT.all fun p => JoinOk (Str.ofString "/") p && JoinOk (Str.ofString ".") p) = true := by decide +kernel
theorem HeadOk.join {h : Head} (x : HeadOk h) : JoinOk (Str.ofString "/") h.parts = true ∧ JoinOk (Str.ofString ".") h.parts = true := by
  have := List.all_eq_true.mp heads_join _ x
  simpa using this
theorem word_len {x : Str} (h : WordOk x) : x.length ≤ 4 := by
  rcases h with h | ⟨c, _, rfl⟩
  · have : (wordsT.all fun x => decide (x.length ≤ 4)) = true := by decide +kernel
    exact of_decide_eq_true (List.all_eq_true.mp this x h)
  · rw [len_ch]; lia
theorem quote_len {x : Str} (h : WordOk x) : (quoteT x).length ≤ 40 := by
  have hx := word_len h
  unfold quoteT
  split
  · decide
  · split
    · lia
    · rw [Str.length_append, Str.length_append]
      have h1 := replace_len x (Str.ofString "'") (Str.ofString "'\"'\"'")
      have h2 : (x.length + 1) * (Str.ofString "'\"'\"'").length ≤ 5 * 5 := Nat.mul_le_mul (by lia) (by decide)
      have h3 : (Str.ofString "'").length = 1 := rfl
      lia
theorem num_len {n : Nat} (h : n < 1000) : (Str.ofString (toString (n : Int))).length ≤ 10 := by
  have := KT.len_num (n := (n : Int)) (by lia) (by lia)
  lia
theorem item_len {N : Nat} {it : Item} (h : ItemOk N it) (hN : N ≤ 1000) : (itemT it).length ≤ 60 := by
  obtain ⟨hl, h⟩ := h
  unfold itemT
  have e1 : (Str.ofString " ").length = 1 := rfl
  have e2 : (Str.ofString "\n").length = 1 := rfl
  have e3 : (Str.ofString "use ").length = 4 := rfl
  have e4 : (if it.last = 0 then Str.ofString " " else Str.ofString "\n").length = 1 := by split <;> assumption
  rw [Str.length_append, e4]
  rcases h with ⟨hk, n, hn, hv⟩ | ⟨hk, hv⟩
  · rw [if_pos (by rw [hk]; exact beq_self_eq_true _), Str.length_append, hv]
    have := num_len (n := n) (by lia)
    lia
  · rw [if_neg (by rw [hk]; decide +kernel)]
    have := quote_len hv
    lia
theorem textT_snoc {row : List Item} {it : Item} : textT (row ++ [it]) = textT row ++ itemT it := by unfold textT; rw [List.foldl_append]; rfl
theorem text_len {N : Nat} (hN : N ≤ 1000) {row : List Item} (h : ∀ it ∈ row, ItemOk N it) : (textT row).length ≤ 60 * row.length := by
  have key : ∀ (row : List Item) (acc : Str), (∀ it ∈ row, ItemOk N it) → (row.foldl (fun t it => t ++ itemT it) acc).length ≤ acc.length + 60 * row.length := by
    intro row
    induction row with
    | nil => intro acc _; exact Nat.le_refl _
    | cons it row ih =>
      intro acc h
      have h1 := ih (acc ++ itemT it) fun it hi => h it (.tail _ hi)
      have h2 := item_len (h it (.head _)) hN
      rw [Str.length_append] at h1
      simp only [List.foldl_cons, List.length_cons]
      lia
  have := key row (Str.ofString "") h
  have e : (Str.ofString "").length = 0 := rfl
  unfold textT
  lia
end Mine
namespace Mine
theorem q39 : Str.ofString "'" = ch 39 := by decide +kernel
theorem occ_ch {c : Nat} (h : c ≠ 39) : Builtin.Str.occurrences (ch c) (ch 39) 0 1 2 = [] := by
  have e : Builtin.Str.subAt (ch c) (ch 39) 0 = false := by
    simp [Builtin.Str.subAt, Str.length, h]
  unfold Builtin.Str.occurrences
  simp [Id.run, forIn, ForIn.forIn, Str.length]
  simp [List.range', e]
  rfl
theorem split_ch {c : Nat} (h : c ≠ 39) : Txt.split (ch c) (Str.ofString "'") = [ch c] := by
  rw [q39]
  unfold Txt.split
  have : Builtin.Str.occurrences (ch c) (ch 39) 0 (ch c).length ((ch c).length + 1) = [] := occ_ch h
  rw [this]
  split <;> rfl
theorem replace_ch {c : Nat} {z : Str} (h : c ≠ 39) : Txt.replace (ch c) (Str.ofString "'") z = ch c := by
  rw [q39]
  unfold Txt.replace
  have : Builtin.Str.occurrences (ch c) (ch 39) 0 (ch c).length ((ch c).length + 1) = [] := occ_ch h
  rw [this]; rfl
noncomputable def strandsT (x : Str) : List Str := ((Txt.split x (Str.ofString "'")).flatMap fun p => [Str.ofString "\"'\"", Str.ofString "'" ++ p ++ Str.ofString "'"]).drop 1
theorem split_words : (wordsT.all fun x => decide ((Txt.split x (Str.ofString "'")).length ≤ 10) && (Txt.split x (Str.ofString "'")).all fun p => decide (p.length ≤ 10)) = true := by decide +kernel
theorem word_split {x : Str} (h : WordOk x) : (Txt.split x (Str.ofString "'")).length ≤ 10 ∧ ∀ p ∈ Txt.split x (Str.ofString "'"), p.length ≤ 10 := by
  rcases h with h | ⟨c, _, rfl⟩
  · have := List.all_eq_true.mp split_words x h
    simpa using this
  · by_cases hc : c = 39
    · subst hc; decide +kernel
    · rw [split_ch hc]; simp [Str.length]
theorem split_ne (x y : Str) : Txt.split x y ≠ [] := by
  unfold Txt.split
  split
  · simp
  · split
    · simp
    · intro q
      have := congrArg List.length q
      rw [length_partsBetween] at this
      simp at this
/- whether a text is to be left out, by its head -/
noncomputable def underT (h : Head) (r : Str) : Bool := decide ((Txt.split (nameT h) (Str.ofString ".")).take (Txt.split r (Str.ofString ".")).length = Txt.split r (Str.ofString "."))
noncomputable def insideT (h : Head) (r : List Str) : Bool := decide (h.parts.take r.length = r) && !decide (h.parts = r)
noncomputable def leftT (h : Head) (mods : List Str) (fs : List (List Str)) : Bool := mods.any (underT h) || fs.any (insideT h) || !h.file
section
variable {w : World} {o₀ : OsState} {g g₂ : Heap} {L : Addr} {nm gl : List Str} {vs vs' : List (Option Value)} {led led' sub rest : Led} {s s₂ : Shared} {A : Around} {env : Env} {cl cs : List (Str × Addr)}
noncomputable def noSuper : Expr → Bool
  | .Call (.Name _ _) [] [] _ => false
  | _ => true
theorem base_of2 {o : Expr} {attr : Str} {whole : Sem Value} (h : noSuper o = true) : attributeBase o attr env whole = whole := by
  cases o with
  | Call f as ks p => cases f <;> first | rfl | (cases as <;> first | rfl | (cases ks <;> first | rfl | cases h))
  | _ => rfl
noncomputable def callForm2 (o : Expr) (args : List Expr) (apos pos : Pos) : Bool := noSuper o && args.all noStar && Nat.blt args.length 30 && (apos.endLine == pos.line)
theorem r_meth2 {o name apos args pos} {Q : QV} (hc : callForm2 o args apos pos = true)
    (h : WE w A env o (fun ov s₁ => WM w A ov name (fun f first s₂ => WCW w A env pos f first args Q s₂) s₁) s) : WE w A env (.Call (.Attribute o name apos) args [] pos) Q s := by
  simp only [callForm2, Bool.and_eq_true] at hc
  obtain ⟨⟨⟨h1, h2⟩, h3⟩, h4⟩ := hc
  rw [we]; simp only [we, wm, wcw] at h
  have e : eval (.Call (.Attribute o name apos) args [] pos) env = (do
      let ov ← attributeBase o name env (eval o env)
      standAt apos.atName
      methodCall o name apos pos env ov (args.length + 0) (backTo pos (starEach args env)) (backToKw pos (keywordEach [] env))) := rfl
  rw [e, base_of2 h1]
  refine wpAny_bind (wpAny_mono h (fun ov s₁ h₁ => wpAny_bind (wpAny_standAt ?_)) fun _ _ x => x)
  have few : methodCallForm (args.length + 0) (backTo pos (starEach args env)) (backToKw pos (keywordEach [] env)) = true := by
    unfold methodCallForm
    rw [noStar_all h2]
    have : args.length < 30 := Nat.le_of_ble_eq_true h3
    show (true && true && decide (args.length + 0 + 0 < 30)) = true
    simp [this]
  unfold methodCall
  rw [few]
  refine wpAny_bind (wpAny_holding ?_)
  show wpAny _ _ (getMethod ov name _) _ _ _
  refine wpAny_mono (h₁ _) (fun fx s₂ h₂ => ?_) fun _ _ x => x
  refine wpAny_bind ?_
  have : methodCallPos true o env apos pos = pure pos := by
    unfold methodCallPos
    rw [h4]; rfl
  rw [this]
  exact wpAny_pure h₂
theorem q_ne_nil {D B : Addr} {l : List Value} {n : Nat} {Q : QV} (S : St w o₀ g L nm vs led s) (hA : Ok A n) (hl : Has w.params g led (.lst D l)) (hb : Has w.params g led (.lst B [])) (h : Q (.bool (!l.isEmpty)) s) : WCmp w A .NotEq (.ref D) (.ref B) Q s := by
  rw [wcmp]
  cases l with
  | nil =>
    refine SeqAt.RcNeAt.lists (e := fun _ => true) (hl.list S) (hb.list S) rfl hA.units (fun j h1 => by simp at h1) _ _ _ _ ?_
    exact h
  | cons a r => exact SeqAt.RcNeAt.lists_lengths (hl.list S) (hb.list S) (by simp) hA.units _ _ _ _ h
end
end Mine
namespace Mine
structure Drawn where
  heads : List Head
  rows : List (List Item)
  around : List Nat
noncomputable def chN (n : Int) : Nat := (((if n < 0 then -n else n).fdiv (10 ^ 4)).fmod 55296).toNat
noncomputable def wordAt (n : Int) (i : Nat) : Str := (wordsT ++ [ch (chN n)]).getD i (Str.ofString "")
noncomputable def addTo (rows : List (List Item)) (i : Nat) (it : Item) : List (List Item) := rows.set i (rows.getD i [] ++ [it])
noncomputable def drawStep (d : Drawn) (n : Int) : Drawn :=
  if fig n 0 < 4 then
    { heads := d.heads ++ [⟨folderT (fig n 1) ++ [baseT (fig n 2)], decide (fig n 3 < 8), fig n 0 % 2 == 0⟩],
      rows := addTo d.rows (d.around.getLastD 0) ⟨Str.ofString "use", Str.ofString (toString (d.rows.length : Int)), ((fig n 3 % 2 : Nat) : Int)⟩ ++ [[]],
      around := d.around ++ [d.rows.length] }
  else if 5 < fig n 0 then { d with rows := addTo d.rows (d.around.getLastD 0) ⟨Str.ofString "word", wordAt n (fig n 1), ((fig n 3 % 2 : Nat) : Int)⟩ }
  else if 1 < d.around.length then { d with around := d.around.dropLast }
  else d
noncomputable def draw0 (n : Int) : Drawn := ⟨[⟨[Str.ofString "top"], true, n.fmod 2 == 0⟩], [[]], [0]⟩
noncomputable def drawnT (ns : List Int) : Drawn := (ns.drop 1).foldl drawStep (draw0 (ns.headD 0))
/- what holds along the way -/
structure DOk (k : Nat) (d : Drawn) : Prop where
  rl : d.rows.length ≤ k + 1
  hl : d.heads.length = d.rows.length
  al : d.around.length ≤ k + 1
  an : d.around ≠ []
  ar : ∀ j ∈ d.around, j < d.rows.length
  iw : ∀ r ∈ d.rows, r.length ≤ k
theorem mem_addTo {rows : List (List Item)} {i : Nat} {it : Item} {r : List Item} (h : r ∈ addTo rows i it) : r ∈ rows ∨ r = rows.getD i [] ++ [it] := by
  unfold addTo at h
  exact List.mem_or_eq_of_mem_set h
theorem getD_rows {rows : List (List Item)} {i : Nat} : rows.getD i [] ∈ rows ∨ rows.getD i [] = [] := by
  rw [List.getD_eq_getElem?_getD]
  cases q : rows[i]? with
  | none => exact .inr rfl
  | some r => exact .inl (List.mem_of_getElem? q)
theorem addTo_len {rows : List (List Item)} {i : Nat} {it : Item} : (addTo rows i it).length = rows.length := by unfold addTo; simp
theorem DOk.last {k : Nat} {d : Drawn} (h : DOk k d) : d.around.getLastD 0 < d.rows.length ∧ d.around.getLast? = some (d.around.getLastD 0) := by
  have e : d.around.getLast? = some (d.around.getLastD 0) := by
    cases q : d.around with
    | nil => exact absurd q h.an
    | cons a r => rw [List.getLastD_eq_getLast?, List.getLast?_eq_some_getLast (by simp)]; rfl
  exact ⟨h.ar _ (List.mem_of_getLast? e), e⟩
theorem DOk.step {k : Nat} {d : Drawn} (h : DOk k d) (n : Int) : DOk (k + 1) (drawStep d n) := by
  unfold drawStep
  have had : ∀ (i : Nat) (it : Item), ∀ r ∈ addTo d.rows i it, r.length ≤ k + 1 := by
    intro i it r hr
    rcases mem_addTo hr with hr | rfl
    · have := h.iw r hr; lia
    · rcases getD_rows (rows := d.rows) (i := i) with q | q
      · have := h.iw _ q; simp only [List.length_append, List.length_cons, List.length_nil]; lia
      · rw [q]; simp
  have := h.rl
  have := h.al
  split
  · refine ⟨?_, ?_, ?_, by simp, fun j hj => ?_, fun r hr => ?_⟩
    · simp [addTo_len]; lia
    · simp [addTo_len, h.hl]
    · simp; lia
    · simp only [List.length_append, addTo_len, List.length_cons, List.length_nil]
      rcases List.mem_append.mp hj with hj | hj
      · have := h.ar j hj; lia
      · rw [List.mem_singleton] at hj; lia
    · rcases List.mem_append.mp hr with hr | hr
      · exact had _ _ r hr
      · rw [List.mem_singleton] at hr; subst hr; simp
  · split
    · exact ⟨by simp [addTo_len]; lia, by simp [addTo_len, h.hl], by simp; lia, h.an, fun j hj => by simp only [addTo_len]; exact h.ar j hj, had _ _⟩
    · split
      · rename_i hq
        refine ⟨by simp; lia, h.hl, by simp; lia, ?_, fun j hj => h.ar j (List.dropLast_subset _ hj), fun r hr => by have := h.iw r hr; lia⟩
        intro q
        have := congrArg List.length q
        simp at this
        lia
      · exact ⟨by lia, h.hl, by lia, h.an, h.ar, fun r hr => by have := h.iw r hr; lia⟩
theorem DOk.zero (n : Int) : DOk 0 (draw0 n) := ⟨by simp [draw0], by simp [draw0], by simp [draw0], by simp [draw0], by simp [draw0], by simp [draw0]⟩
/- the rows' cells -/
noncomputable abbrev rowC (p : Addr × List Value) : Cell := .lst p.1 p.2
theorem upl_map {rl : List (Addr × List Value)} : ∀ {j : Nat} {a : Addr} {l l' : List Value}, rl[j]? = some (a, l) → UpL (.lst a l) (.lst a l') (rl.map rowC) ((rl.set j (a, l')).map rowC) := by
  induction rl with
  | nil => intro j a l l' e; cases e
  | cons p r ih =>
    intro j a l l' e
    cases j with
    | zero => cases e; exact .head
    | succ j => exact .tail (ih e)
theorem set_refs {rl : List (Addr × List Value)} : ∀ {j : Nat} {a : Addr} {l l' : List Value}, rl[j]? = some (a, l) → (rl.set j (a, l')).map (fun p => Value.ref p.1) = rl.map (fun p => Value.ref p.1) := by
  induction rl with
  | nil => intro j a l l' e; cases e
  | cons p r ih =>
    intro j a l l' e
    cases j with
    | zero => cases e; rfl
    | succ j => simp only [List.set_cons_succ, List.map_cons, ih e]
theorem led_eq {p1 p2 p3 : Cell} {Dr Dh Da Rn aj : Addr} {lh la lj l' : List Value} {rl : List (Addr × List Value)} {j : Nat} (hj : rl[j]? = some (aj, lj)) :
    p1 :: p2 :: p3 :: Cell.lst Dr (rl.map (fun p => Value.ref p.1) ++ [.ref Rn]) :: .lst Dh lh :: .lst Da la :: ((rl.set j (aj, l')).map rowC ++ [.lst Rn []]) =
    p1 :: p2 :: p3 :: .lst Dr ((rl.set j (aj, l') ++ [((Rn, []) : Addr × List Value)]).map fun p => Value.ref p.1) :: .lst Dh lh :: .lst Da la :: (rl.set j (aj, l') ++ [((Rn, []) : Addr × List Value)]).map rowC := by
  rw [List.map_append, List.map_append, set_refs hj]; rfl
theorem led_eq2 {p1 p2 p3 : Cell} {Dr Dh Da aj : Addr} {lh la lj l' : List Value} {rl : List (Addr × List Value)} {j : Nat} (hj : rl[j]? = some (aj, lj)) :
    p1 :: p2 :: p3 :: Cell.lst Dr (rl.map (fun p => Value.ref p.1)) :: .lst Dh lh :: .lst Da la :: (rl.set j (aj, l')).map rowC =
    p1 :: p2 :: p3 :: .lst Dr ((rl.set j (aj, l')).map fun p => Value.ref p.1) :: .lst Dh lh :: .lst Da la :: (rl.set j (aj, l')).map rowC := by
  rw [set_refs hj]
theorem All2.set {α β : Type} {R : α → β → Prop} {l m} (h : All2 R l m) : ∀ {i : Nat} {a : α} {b : β}, R a b → All2 R (l.set i a) (m.set i b) := by
  induction h with
  | nil => intro i a b _; exact .nil
  | cons h t ih =>
    intro i a b r
    cases i with
    | zero => exact .cons r t
    | succ i => exact .cons h (ih r)
theorem ints_at' {l ns} (h : IntsAre l ns) : ∀ {i : Nat} {v : Value}, l[i]? = some v → ∃ n t, v = .int n t ∧ ns[i]? = some n := by
  induction h with
  | nil => intro i n e; cases e
  | cons _ t _ ih =>
    intro i n e
    cases i with
    | zero => cases e; exact ⟨_, t, rfl, rfl⟩
    | succ i => exact ih e
theorem ints_last {l ns} (h : IntsAre l ns) : ∀ {m : Int}, ns.getLast? = some m → ∃ l' t, l = l' ++ [.int m t] ∧ IntsAre l' ns.dropLast := by
  induction h with
  | nil => intro m e; cases e
  | @cons n t vs ns r ih =>
    intro m e
    cases r with
    | nil => cases e; exact ⟨[], t, rfl, .nil⟩
    | @cons n2 t2 vs2 ns2 r2 =>
      rw [List.getLast?_cons_cons] at e
      obtain ⟨l', t', e1, e2⟩ := ih e
      refine ⟨.int n t :: l', t', by rw [e1]; rfl, ?_⟩
      rw [List.dropLast_cons_cons]
      exact .cons _ _ e2
theorem perm_last {α : Type} {c : α} {l : List α} : (c :: l).Perm (l ++ [c]) := (List.perm_append_comm (l₁ := [c]) (l₂ := l))
theorem fmod2 {k : Nat} : ((k : Nat) : Int).fmod 2 = ((k % 2 : Nat) : Int) := by
  rw [Int.fmod_eq_emod_of_nonneg _ (by decide)]; lia
theorem chN_lt (n : Int) : chN n < 55296 ∧ ((((if n < 0 then -n else n).fdiv (10 ^ 4)).fmod 55296) = (chN n : Int)) := by
  have h1 : 0 ≤ (((if n < 0 then -n else n).fdiv (10 ^ 4)).fmod 55296) := Int.fmod_nonneg_of_pos _ (by decide)
  have h2 : (((if n < 0 then -n else n).fdiv (10 ^ 4)).fmod 55296) < 55296 := Int.fmod_lt_of_pos _ (by decide)
  unfold chN
  lia
theorem wordAt_ok (n : Int) {i : Nat} (hi : i < 10) : WordOk (wordAt n i) ∧ (wordsT ++ [ch (chN n)])[i]? = some (wordAt n i) := by
  have e : (wordsT ++ [ch (chN n)])[i]? = some (wordAt n i) := getD_get (by simp [wordsT]; lia)
  refine ⟨?_, e⟩
  rcases List.mem_append.mp (List.mem_of_getElem? e) with h | h
  · exact .inl h
  · rw [List.mem_singleton] at h; exact .inr ⟨_, (chN_lt n).1, h⟩
end Mine
namespace Mine
/- what is told: a token or none, and a text -/
noncomputable abbrev Ent := Option Str × Str
noncomputable abbrev Tab := List (Str × Int)
noncomputable def optV (x : Option Str) (t : Tok) : Value := match x with
  | none => .none
  | some x => .str x t
noncomputable def EntF (F : Addr → Obj → Prop) (v : Value) (e : Ent) : Prop := ∃ t1 t2, LstF F v [optV e.1 t1, .str e.2 t2]
theorem EntF.mono {F F' : Addr → Obj → Prop} {v h} (x : EntF F v h) (k : ∀ a o, F a o → F' a o) : EntF F' v h := let ⟨t1, t2, h1⟩ := x; ⟨t1, t2, h1.mono k⟩
noncomputable def showF (h : Head) : Str := match fileO h with
  | some p => p
  | none => Str.ofString "None"
noncomputable def noHead : Head := ⟨[], false, false⟩
noncomputable def useN (it : Item) : Nat := ((PySem.intText? it.v).getD 0).toNat
/- a text's answer: the table's, or by the rule -/
noncomputable def ansT (lo : Head → Bool) (kv : Tab) (hd : Head) : Int × Tab := match kv.lookup (nameT hd) with
  | some v => (v, kv)
  | none => ((if lo hd then 1 else 0), kv ++ [(nameT hd, if lo hd then 1 else 0)])
/- a text is used -/
noncomputable def useS (hs : List Head) (lo : Head → Bool) (rec : Nat → Tab → List Ent × Tab) (m : Nat) (kv : Tab) : List Ent × Tab :=
  let a := ansT lo kv (hs.getD m noHead)
  let r := if a.1 = 0 then rec m a.2 else ([], a.2)
  ((some (Str.ofString "use"), Str.ofString (toString a.1)) :: r.1, r.2)
noncomputable def signsT : List Str := [Str.ofString "@", Str.ofString "%", Str.ofString "+", Str.ofString "=", Str.ofString ":", Str.ofString ",", Str.ofString ".", Str.ofString "/", Str.ofString "-"]
noncomputable def lettersT : Str := Str.ofString "abcdefghijklmnopqrstuvwxyzABCDEFGHIJKLMNOPQRSTUVWXYZ0123456789_"
noncomputable def plainW (v : Str) : Bool := (v != Str.ofString "") && v.cps.toList.all fun c => Txt.contains lettersT (ch c)
noncomputable def cntT (v : Str) : Int := Txt.count v (Str.ofString "\n")
/- strands, one after another -/
noncomputable def strandE (f : Str) : List Str → Int → List Ent × Int
  | [], line => ([], line)
  | p :: r, line => ((some p, leadT f (line + cntT p)) :: (strandE f r (line + cntT p)).1, (strandE f r (line + cntT p)).2)
theorem strandE_0 {f line} : strandE f [] line = ([], line) := rfl
theorem strandE_c {f p r line} : strandE f (p :: r) line = ((some p, leadT f (line + cntT p)) :: (strandE f r (line + cntT p)).1, (strandE f r (line + cntT p)).2) := rfl
/- what a word is told as, and the line behind it -/
noncomputable def wordE (px : Bool) (f : Str) (line : Int) (it : Item) : List Ent × Int :=
  if signsT.contains it.v then ([(some it.v, leadT f line)], line + it.last)
  else if px || plainW it.v then ([(some it.v, leadT f (line + cntT it.v + it.last))], line + cntT it.v + it.last)
  else ((strandE f (strandsT it.v) line).1, (strandE f (strandsT it.v) line).2 + it.last)
structure TS where
  told : List Ent
  kv : Tab
  line : Int
noncomputable def stepI (hs : List Head) (lo : Head → Bool) (rec : Nat → Tab → List Ent × Tab) (px : Bool) (f : Str) (st : TS) (it : Item) : TS :=
  if it.k == Str.ofString "use" then ⟨st.told ++ (useS hs lo rec (useN it) st.kv).1, (useS hs lo rec (useN it) st.kv).2, st.line + it.last⟩
  else ⟨st.told ++ (wordE px f st.line it).1, st.kv, (wordE px f st.line it).2⟩
noncomputable def eofE (px : Bool) : Option Str := if px then none else some (Str.ofString "")
noncomputable def tell (hs : List Head) (rs : List (List Item)) (lo : Head → Bool) : Nat → Nat → Tab → List Ent × Tab
  | 0, _, kv => ([], kv)
  | f + 1, n, kv =>
    let h := hs.getD n noHead
    let st := (rs.getD n []).foldl (stepI hs lo (tell hs rs lo f) h.px (showF h)) ⟨[], kv, 1⟩
    (st.told ++ [(eofE h.px, leadT (showF h) st.line)], st.kv)
noncomputable abbrev useL : List Nat := [117, 115, 101]
noncomputable abbrev numL (m : Nat) : List Nat := (Str.ofString (toString (m : Int))).cps.toList
/- the lexer has given a token; what is told from there on -/
inductive RdA (hs : List Head) (lo : Head → Bool) (rec : Nat → Tab → List Ent × Tab) (N : Nat) (px : Bool) (wc : List Nat) (f : Str) : Option (List Nat) → List Nat → TS → List Ent × Tab → Prop
  | eof {rest st} : 0 ≤ st.line → st.line < 10 ^ 10 → RdA hs lo rec N px wc f none rest st (st.told ++ [(eofE px, leadT f st.line)], st.kv)
  | use {m : Nat} {r1 r2 r3 : List Nat} {n2 n3 : Int} {r : Option (List Nat)} {st out} : m < hs.length → N < m → Run px wc .sp false [] r1 (some (numL m)) r2 n2 → Run px wc .sp false [] r2 r r3 n3 → (px = false → r ≠ some []) →
      RdA hs lo rec N px wc f r r3 ⟨st.told ++ (useS hs lo rec m st.kv).1, (useS hs lo rec m st.kv).2, st.line + n2 + n3⟩ out → RdA hs lo rec N px wc f (some useL) r1 st out
  | word {tok rest r3 : List Nat} {n3 : Int} {r : Option (List Nat)} {st out} : tok ≠ useL → (px = false → tok ≠ []) → 0 ≤ st.line → st.line < 10 ^ 10 → Run px wc .sp false [] rest r r3 n3 → (px = false → r ≠ some []) →
      RdA hs lo rec N px wc f r r3 ⟨st.told ++ [(some (tx tok), leadT f st.line)], st.kv, st.line + n3⟩ out → RdA hs lo rec N px wc f (some tok) rest st out
theorem ansT_le {lo kv hd} : kv.length ≤ (ansT lo kv hd).2.length := by
  unfold ansT
  split
  · exact Nat.le_refl _
  · simp
theorem RdA.le {hs lo rec N px wc f r rest st out} (hrec : ∀ m kv, kv.length ≤ (rec m kv).2.length) (h : RdA hs lo rec N px wc f r rest st out) : st.told.length + 1 ≤ out.1.length ∧ st.kv.length ≤ out.2.length := by
  induction h with
  | eof => simp
  | @use m r1 r2 r3 n2 n3 r st out _ _ _ _ _ _ ih =>
    obtain ⟨h1, h2⟩ := ih
    simp only [List.length_append] at h1
    refine ⟨by lia, Nat.le_trans ?_ h2⟩
    refine Nat.le_trans (ansT_le (lo := lo) (hd := hs.getD m noHead)) ?_
    show _ ≤ (if (ansT lo st.kv (hs.getD m noHead)).1 = 0 then rec m (ansT lo st.kv (hs.getD m noHead)).2 else ([], (ansT lo st.kv (hs.getD m noHead)).2)).2.length
    split
    · exact hrec _ _
    · exact Nat.le_refl _
  | word _ _ _ _ _ _ _ ih =>
    obtain ⟨h1, h2⟩ := ih
    simp only [List.length_append, List.length_cons, List.length_nil] at h1
    exact ⟨by lia, h2⟩
theorem useS_len {hs lo rec m kv} (hrec : ∀ m kv, kv.length ≤ (rec m kv).2.length) : kv.length ≤ (useS hs lo rec m kv).2.length := by
  refine Nat.le_trans (ansT_le (lo := lo) (hd := hs.getD m noHead)) ?_
  show _ ≤ (if (ansT lo kv (hs.getD m noHead)).1 = 0 then rec m (ansT lo kv (hs.getD m noHead)).2 else ([], (ansT lo kv (hs.getD m noHead)).2)).2.length
  split
  · exact hrec _ _
  · exact Nat.le_refl _
theorem fold_kv {hs lo rec px f} (hrec : ∀ m kv, kv.length ≤ (rec m kv).2.length) : ∀ (row : List Item) (st : TS), st.kv.length ≤ (row.foldl (stepI hs lo rec px f) st).kv.length
  | [], st => Nat.le_refl _
  | it :: row, st => by
    refine Nat.le_trans ?_ (fold_kv hrec row _)
    unfold stepI
    split
    · exact useS_len hrec
    · exact Nat.le_refl _
theorem tell_kv {hs rs lo} : ∀ f m kv, kv.length ≤ (tell hs rs lo f m kv).2.length
  | 0, m, kv => Nat.le_refl _
  | f + 1, m, kv => by
    show _ ≤ ((rs.getD m []).foldl (stepI hs lo (tell hs rs lo f) _ _) ⟨[], kv, 1⟩).kv.length
    exact fold_kv (tell_kv f) _ ⟨[], kv, 1⟩
/- a table's values are 1 and 0 -/
noncomputable def KvOk (kv : Tab) : Prop := ∀ p ∈ kv, p.2 = 0 ∨ p.2 = 1
theorem lookup_mem : ∀ {kv : Tab} {x : Str} {v : Int}, kv.lookup x = some v → (x, v) ∈ kv
  | (y, u) :: r, x, v, h => by
    rw [List.lookup_cons] at h
    cases q : x == y with
    | true => rw [q] at h; cases h; rw [eq_of_beq q]; exact .head _
    | false => rw [q] at h; exact .tail _ (lookup_mem h)
theorem KvOk.ans {lo kv hd} (h : KvOk kv) : KvOk (ansT lo kv hd).2 ∧ ((ansT lo kv hd).1 = 0 ∨ (ansT lo kv hd).1 = 1) := by
  unfold ansT
  split
  · rename_i v e; exact ⟨h, h _ (lookup_mem e)⟩
  · have hb : (if lo hd then (1 : Int) else 0) = 0 ∨ (if lo hd then (1 : Int) else 0) = 1 := by split <;> simp
    refine ⟨fun p hp => ?_, hb⟩
    rcases List.mem_append.mp hp with hp | hp
    · exact h p hp
    · rw [List.mem_singleton] at hp; subst hp; exact hb
theorem KvOk.use {hs lo rec m kv} (h : KvOk kv) (hrec : ∀ m kv, KvOk kv → KvOk (rec m kv).2) : KvOk (useS hs lo rec m kv).2 := by
  show KvOk (if (ansT lo kv (hs.getD m noHead)).1 = 0 then rec m (ansT lo kv (hs.getD m noHead)).2 else ([], (ansT lo kv (hs.getD m noHead)).2)).2
  split
  · exact hrec _ _ h.ans.1
  · exact h.ans.1
theorem KvOk.fold {hs lo rec px f} (hrec : ∀ m kv, KvOk kv → KvOk (rec m kv).2) : ∀ (row : List Item) (st : TS), KvOk st.kv → KvOk (row.foldl (stepI hs lo rec px f) st).kv
  | [], st, h => h
  | it :: row, st, h => by
    refine KvOk.fold hrec row _ ?_
    unfold stepI
    split
    · exact h.use hrec
    · exact h
theorem KvOk.tell {hs rs lo} : ∀ f m kv, KvOk kv → KvOk (tell hs rs lo f m kv).2
  | 0, m, kv, h => h
  | f + 1, m, kv, h => by
    show KvOk ((rs.getD m []).foldl (stepI hs lo (Mine.tell hs rs lo f) _ _) ⟨[], kv, 1⟩).kv
    exact KvOk.fold (KvOk.tell f) _ ⟨[], kv, 1⟩ h
theorem useS_eq {hs lo rec m kv} : useS hs lo rec m kv = ((some (Str.ofString "use"), Str.ofString (toString (ansT lo kv (hs.getD m noHead)).1)) :: (if (ansT lo kv (hs.getD m noHead)).1 = 0 then rec m (ansT lo kv (hs.getD m noHead)).2 else ([], (ansT lo kv (hs.getD m noHead)).2)).1, (if (ansT lo kv (hs.getD m noHead)).1 = 0 then rec m (ansT lo kv (hs.getD m noHead)).2 else ([], (ansT lo kv (hs.getD m noHead)).2)).2) := rfl
section
variable {w : World} {o₀ : OsState} {g g₂ : Heap} {L : Addr} {nm gl : List Str} {vs vs' : List (Option Value)} {led led' sub rest : Led} {s s₂ : Shared} {A : Around} {env : Env} {cl cs : List (Str × Addr)}
/- a while's turns by an invariant of one's own choice -/
theorem loop_by {test : Expr} {body : List Stmt} {K : QF} (Inv : Shared → Prop) (h0 : Inv s) (h : ∀ s, Inv s → WW w A env test body K s) : WW w A env test body K s := h s h0
end
noncomputable def rowsOk (hs : List Head) (rs : List (List Item)) : Prop := hs.length = rs.length ∧ rs.length ≤ 100 ∧ (∀ h ∈ hs, HeadOk h) ∧ ∀ r ∈ rs, r.length ≤ 100 ∧ ∀ it ∈ r, ItemOk rs.length it
/- all that a reading looks at -/
structure RdW (w : World) (g : Heap) (Dh Dr : Addr) (hs : List Head) (rs : List (List Item)) (ms ds : Addr) (o : Obj) (xs : List Str) (l : List Value) (dirs : List Str) : Prop where
  hs : HeadsF (Frz g) (.ref Dh) hs
  rs : RowsF (Frz g) (.ref Dr) rs
  ms : (Cell.raw ms o).ok w.params g
  st : SetS pg w (!byTx w) xs o
  ne : xs ≠ []
  ds : (Cell.lst ds l).ok w.params g
  dl : Strs l dirs
  xz : ∀ x ∈ xs, x.length ≤ 1000
  dz : ∀ x ∈ dirs, x.length ≤ 1000
theorem RdW.sub {w g g' Dh Dr hs rs ms ds o xs l dirs} (h : RdW w g Dh Dr hs rs ms ds o xs l dirs) (k : Sub g g') : RdW w g' Dh Dr hs rs ms ds o xs l dirs :=
  ⟨h.hs.mono (frz_sub k), h.rs.mono (frz_sub k), h.ms.keeps fun o q => k _ _ q, h.st, h.ne, h.ds.keeps fun o q => k _ _ q, h.dl, h.xz, h.dz⟩
theorem HeadsF.at {w : World} {g : Heap} {D : Addr} {hs : List Head} (h : HeadsF (Frz g) (.ref D) hs) : ∃ l, (Cell.lst D l).ok w.params g ∧ ∀ {i : Nat} {hd : Head}, hs[i]? = some hd → ∃ a b lp, l[i]? = some (.ref a) ∧ HeadF (Frz g) (.ref a) hd ∧ (Cell.lst a [.ref b, .bool hd.file, .bool hd.px]).ok w.params g ∧ (Cell.lst b lp).ok w.params g ∧ Strs lp hd.parts := by
  obtain ⟨l, h1, h2⟩ := h
  refine ⟨l, h1.cell, fun {i hd} e => ?_⟩
  obtain ⟨v, e1, e2⟩ := h2.at' e
  obtain ⟨p, lp, q1, q2, q3⟩ := id e2
  obtain ⟨a, na, rfl, r1⟩ := id q1
  obtain ⟨b, nb, rfl, r2⟩ := id q2
  exact ⟨a, b, lp, e1, e2, q1.cell, q2.cell, q3⟩
theorem RowsF.at {w : World} {g : Heap} {D : Addr} {rs : List (List Item)} (h : RowsF (Frz g) (.ref D) rs) : ∃ l, (Cell.lst D l).ok w.params g ∧ ∀ {i : Nat} {r : List Item}, rs[i]? = some r → ∃ a, l[i]? = some (.ref a) ∧ RowF (Frz g) (.ref a) r := by
  obtain ⟨l, h1, h2⟩ := h
  refine ⟨l, h1.cell, fun {i r} e => ?_⟩
  obtain ⟨v, e1, e2⟩ := h2.at' e
  obtain ⟨l', ⟨a, na, rfl, r1⟩, q2⟩ := id e2
  exact ⟨a, e1, e2⟩
end Mine
namespace Mine
section
variable {w : World} {o₀ : OsState} {g g₂ : Heap} {L : Addr} {nm gl : List Str} {vs vs' : List (Option Value)} {led led' sub rest : Led} {s s₂ : Shared} {A : Around} {env : Env} {cl cs : List (Str × Addr)}
noncomputable def sitP (ty : String) (x : Str) (t : Tok) (k : Nat) (o : Obj) : Prop := o.cls = .type ty ∧ o.data = .fields #[.str x t, .int k 0]
theorem it_str {x : Str} {t : Tok} {n : Nat} {Q : QV} (S : St w o₀ g L nm vs led s)
    (h : ∀ s I ty, L < I → (ty = "str_ascii_iterator" ∨ ty = "str_iterator") → St w o₀ g L nm vs (.prd I (sitP ty x t 0) :: led) s → Q (.ref I) s) : WIt w A (.str x t) Q s := by
  rw [wit]
  cases ha : x.cps.all (· < 128)
  · exact wpAny_pyIter_wide ha (h _ _ _ S.ns.lt (.inr rfl) (S.alloc (.prd s.heap.objs.size (sitP _ x t 0)) _ rfl rfl ⟨rfl, rfl⟩))
  · exact wpAny_pyIter_ascii ha (h _ _ _ S.ns.lt (.inl rfl) (S.alloc (.prd s.heap.objs.size (sitP _ x t 0)) _ rfl rfl ⟨rfl, rfl⟩))
theorem iterP_str {I : Addr} {x : Str} {t : Tok} {m : Nat} {ty : String} (hA : Ok A m) (hty : ty = "str_ascii_iterator" ∨ ty = "str_iterator") : IterP w o₀ g A I x.cps.toList.length (fun k v => ∃ c u, x.cps.toList[k]? = some c ∧ v = .str (ch c) u) (fun k => .prd I (sitP ty x t k)) := by
  have key : ∀ k c, x.cps.toList[k]? = some c → x.cps[k]? = some c := fun k c h => by rwa [Array.getElem?_toList] at h
  refine ⟨fun k s L nm vs led hk S Q h => ?_, fun s L nm vs led S Q h => ?_, fun s L nm vs led S Q h => ?_⟩
  · obtain ⟨o, h1, h2⟩ := (S.ld _ (.head _)).1
    have hc : x.cps.toList[k]? = some x.cps.toList[k] := List.getElem?_eq_getElem hk
    have fin : ∀ h', h'.IsStrIter I ty x t (k + 1) → Heap.SameBut I s.heap h' → Q (some (.str ⟨#[x.cps.toList[k]]⟩ s.toks)) { s with heap := h', toks := s.toks + 1 } := fun h' hit hs =>
      h _ _ ⟨_, _, hc, rfl⟩ ((S.tok (s.toks + 1)).at (s' := { s with heap := h', toks := s.toks + 1 }) (c := .prd I (sitP ty x t k)) (c' := .prd I (sitP ty x t (k + 1))) .head rfl hs.extBut hit rfl rfl)
    rcases hty with rfl | rfl
    · exact wpAny_pyNext_ascii_item (it := I) (i := k) ⟨o, h1, h2⟩ (key _ _ hc) fin
    · exact wpAny_pyNext_wide_item (it := I) (i := k) ⟨o, h1, h2⟩ (key _ _ hc) fin
  · obtain ⟨o, h1, h2⟩ := (S.ld _ (.head _)).1
    have hc : x.cps[x.cps.toList.length]? = none := by simp
    rcases hty with rfl | rfl
    · exact wpAny_pyNext_ascii_end (it := I) hA.hd ⟨o, h1, h2⟩ hc fun h' he => h _ (S.drop (s' := { s with heap := h' }) he rfl rfl)
    · exact wpAny_pyNext_wide_end (it := I) hA.hd ⟨o, h1, h2⟩ hc fun h' he => h _ (S.drop (s' := { s with heap := h' }) he rfl rfl)
  · obtain ⟨o, h1, h2⟩ := (S.ld _ (.head _)).1
    rcases hty with rfl | rfl
    · exact wpAny_pyIter_striter_ascii (it := I) (i := 0) ⟨o, h1, h2⟩ h
    · exact wpAny_pyIter_striter_wide (it := I) (i := 0) ⟨o, h1, h2⟩ h
theorem strs_signs {x : Str} {acc : Array Value} (h : ItemsOf (SignAt x) acc x.cps.size) : Strs acc.toList (x.cps.toList.map ch) := by
  obtain ⟨h1, h2⟩ := h
  have key : ∀ (l : List Value) (cs : List Nat), l.length = cs.length → (∀ (j : Nat) (v : Value), l[j]? = some v → ∃ c u, cs[j]? = some c ∧ v = Value.str ⟨#[c]⟩ u) → Strs l (cs.map ch) := by
    intro l
    induction l with
    | nil => intro cs e _; cases cs with
      | nil => exact .nil
      | cons _ _ => simp at e
    | cons v l ih =>
      intro cs e q
      cases cs with
      | nil => simp at e
      | cons c cs =>
        obtain ⟨c', u, e1, e2⟩ := q 0 v rfl
        cases e1
        subst e2
        exact .cons (ih cs (by simpa using e) fun j v hv => q (j + 1) v hv)
  refine key _ _ (by simp [h1]) fun j v hv => ?_
  obtain ⟨c, u, e1, e2⟩ := h2 j v (by rwa [Array.getElem?_toList] at hv)
  exact ⟨c, u, by rw [Array.getElem?_toList]; exact e1, e2⟩
theorem k_list_str {x : Str} {t : Tok} {n : Nat} {Q : QV} (S : St w o₀ g L nm vs led s) (hA : Ok A n) (hn : Nat.ble x.cps.size 1000 = true) (h : ∀ s D l, L < D → Strs l (x.cps.toList.map ch) → St w o₀ g L nm vs (.lst D l :: led) s → Q (.ref D) s) : WC w A (.type "list") [.str x t] [] Q s := by
  rw [wc]
  refine call_list_str hA.hd x t (fun h' tk acc c hk hS hacc => h _ s.heap.objs.size acc.toList S.ns.lt (strs_signs hacc) ?_) (by rw [sizeLine_eq]; have := Nat.le_of_ble_eq_true hn; lia)
  have S' := S.more (s' := { s with heap := h', toks := tk }) (fun b o e => hk b o e) rfl rfl
  refine ⟨S'.P, S'.ns, S'.keep, S'.Lg, fun p hp => ?_, List.nodup_cons.mpr ⟨S.none_at (Nat.le_refl _), S.nd⟩, S'.gens, S'.os⟩
  rcases List.mem_cons.mp hp with rfl | hp
  · exact ⟨⟨_, hS, c, by simp⟩, Nat.ne_of_gt S.ns.lt, S.fresh⟩
  · exact S'.ld p hp
theorem k_all {D : Addr} {bs : List Bool} {n : Nat} {Q : QV} (S : St w o₀ g L nm vs led s) (hA : Ok A (n + 1)) (hl : Has w.params g led (.lst D (bs.map Value.bool))) (h : ∀ s, St w o₀ g L nm vs led s → Q (.bool (bs.all id)) s) : WC w A (.builtin "all") [.ref D] [] Q s := by
  rw [wc]
  have hL := hl.list S
  refine call_all_walk (wpAny_pyIter_list hL ⟨s.heap.objs.size, _, _, _, _, _, fun i => bs.getD i false, rfl, Walks.list (A := A.in1) hA.hd s.heap.objs.size D (Nat.ne_of_lt (hl.at S).lt) (bs.map Value.bool).toArray, ⟨⟨_, Heap.get?_push_size _ rfl, rfl, rfl⟩, hL.push _⟩, fun i v s Q E hP hQ => ?_, fun h' tk hk => ?_⟩)
  · have hP : (bs.map Value.bool).toArray[i]? = some v := hP
    rw [List.getElem?_toArray, List.getElem?_map, Option.map_eq_some_iff] at hP
    obtain ⟨b, hb, rfl⟩ := hP
    have : bs.getD i false = b := by rw [List.getD_eq_getElem?_getD, hb]; rfl
    exact wpAny_truthy_bool (this ▸ hQ)
  · have e : (List.range (bs.map Value.bool).toArray.size).all (fun i => bs.getD i false) = bs.all id := by
      have hr : (List.range bs.length).map (fun i => bs.getD i false) = bs := by
        apply List.ext_getElem
        · simp
        · intro i h1 h2
          simp only [List.getElem_map, List.getElem_range]
          rw [List.getD_eq_getElem?_getD, List.getElem?_eq_getElem h2]; rfl
      rw [List.size_toArray, List.length_map]
      conv => rhs; rw [← hr]
      rw [List.all_map]; rfl
    rw [e]
    refine h _ (S.more (s' := { s with heap := h', toks := tk }) (fun b o q => hk b o (fun hm => ?_) (Heap.get?_push_of_some _ q)) rfl rfl)
    rw [List.mem_singleton] at hm
    exact absurd (Heap.lt_size q) (by rw [hm]; exact Nat.lt_irrefl _)
end
theorem signs_eq : (Str.ofString "@%+=:,./-").cps.toList.map ch = signsT := by decide +kernel
theorem cnt_bounds (x : Str) : 0 ≤ cntT x ∧ cntT x ≤ x.length + 1 := by
  unfold cntT Txt.count
  have := StrLaws.occ_length_le x (Str.ofString "\n") 0 x.length (x.length + 1)
  lia
theorem strand_line {f : Str} : ∀ (l : List Str) (line : Int), (∀ p ∈ l, p.length ≤ 20) → line ≤ (strandE f l line).2 ∧ (strandE f l line).2 ≤ line + 21 * l.length
  | [], line, _ => by simp [strandE_0, strandE_c]
  | p :: r, line, h => by
    have h1 := strand_line (f := f) r (line + cntT p) fun q hq => h q (.tail _ hq)
    have h2 := cnt_bounds p
    have h3 := h p (.head _)
    simp only [strandE_0, strandE_c, List.length_cons]
    lia
theorem strands_short {x : Str} (h : WordOk x) : (strandsT x).length ≤ 20 ∧ ∀ p ∈ strandsT x, p.length ≤ 20 := by
  obtain ⟨h1, h2⟩ := word_split h
  unfold strandsT
  refine ⟨?_, fun p hp => ?_⟩
  · rw [List.length_drop]
    have : ∀ l : List Str, (l.flatMap fun p => [Str.ofString "\"'\"", Str.ofString "'" ++ p ++ Str.ofString "'"]).length = 2 * l.length := by
      intro l
      induction l with
      | nil => rfl
      | cons a r ih => simp only [List.flatMap_cons, List.length_append, ih, List.length_cons, List.length_nil]; lia
    rw [this]; lia
  · have := List.mem_of_mem_drop hp
    obtain ⟨q, hq, hp⟩ := List.mem_flatMap.mp this
    have hql := h2 q hq
    rcases List.mem_cons.mp hp with rfl | hp
    · decide
    · rw [List.mem_singleton] at hp
      subst hp
      rw [Str.length_append, Str.length_append]
      have : (Str.ofString "'").length = 1 := rfl
      lia
/- a row's line grows by little -/
theorem step_line {hs lo rec px f N} {st : TS} {it : Item} (h : ItemOk N it) : st.line ≤ (stepI hs lo rec px f st it).line ∧ (stepI hs lo rec px f st it).line ≤ st.line + 1000 := by
  obtain ⟨hl, hk⟩ := h
  unfold stepI
  rcases hk with ⟨hk, _⟩ | ⟨hk, hw⟩
  · rw [if_pos (by rw [hk]; exact beq_self_eq_true _)]
    dsimp only; lia
  · rw [if_neg (by rw [hk]; decide +kernel)]
    have hc := cnt_bounds it.v
    have hwl := word_len hw
    dsimp only
    unfold wordE
    split
    · dsimp only; lia
    · split
      · dsimp only; lia
      · obtain ⟨h1, h2⟩ := strands_short hw
        have := strand_line (f := f) (strandsT it.v) st.line h2
        dsimp only; lia
end Mine
namespace Mine
/- a cut with a step -/
@[irreducible] noncomputable def WSl3 (w : World) (A : Around) (value : Expr) (lower upper step : Option Expr) (p : Pos) (o lo hi st : Value) (Q : QV) (s : Shared) : Prop :=
  wpAny (MM w) A (subscriptTail value (.Slice lower upper step p) o (.ref s.heap.objs.size)) Q FF { s with heap := s.heap.push { cls := .type "slice", data := .fields #[lo, hi, st] } }
noncomputable def entD (e : Ent) : PyData := .list [(match e.1 with | none => .none | some x => .str x), .str e.2]
noncomputable def itemsD (kv : Tab) : PyData := .list (kv.map fun p => .tuple [.str p.1, .int p.2])
section
variable {w : World} {o₀ : OsState} {g g₂ : Heap} {L : Addr} {nm gl : List Str} {vs vs' : List (Option Value)} {led led' sub rest : Led} {s s₂ : Shared} {A : Around} {env : Env} {cl cs : List (Str × Addr)}
theorem n_ints {l : List Value} {xs : List Int} {Q : QV} (S : St w o₀ g L nm vs led s) (hs : IntsAre l xs) (hl : Nat.ble l.length 100000 = true)
    (k : ∀ s a l, L < a → IntsAre l xs → St w o₀ g L nm vs (.lst a l :: led) s → Q (.ref a) s) : WLst w A l Q s := n_list S hl fun s a ha S => k s a l ha hs S
theorem r_slice3 {value : Expr} {lower upper step : Option Expr} {p pos : Pos} {Q : QV}
    (h : WE w A env value (fun o s₁ => WP w A env lower (fun vl s₂ => WP w A env upper (fun vu s₃ => WP w A env step (fun vt s₄ => WSl3 w A value lower upper step p o vl vu vt Q s₄) s₃) s₂) s₁) s) : WE w A env (.Subscript value (.Slice lower upper step p) pos) Q s := by
  rw [we]; simp only [we, wpt] at h
  refine Subscript_ (wpAny_mono h (fun o s₁ h₁ => wpAny_Slice (wpAny_mono h₁ (fun vl s₂ h₂ => wpAny_mono h₂ (fun vu s₃ h₃ => wpAny_mono h₃ (fun vt s₄ h₄ => ?_) fun _ _ e => e) fun _ _ e => e) fun _ _ e => e)) fun _ _ e => e)
  unfold WSl3 at h₄
  exact h₄
theorem sl3_list {value : Expr} {lower upper : Option Expr} {step : Expr} {p : Pos} {D : Addr} {l : List Value} {vl vu vt : Value} {lo hi st : Option Int} {Q : QV} (S : St w o₀ g L nm vs led s) (hl : g.IsList D l.toArray) (pl : IsPart vl lo) (pu : IsPart vu hi) (pt : IsPart vt st) (h0 : st ≠ some 0)
    (ht : ∀ r, letTemporaryGo value (.ref D) r = pure ()) (hz : l.length ≤ 1000000) (k : ∀ s a, L < a → St w o₀ g L nm vs (.lst a (slicePick l.toArray lo hi st).toList :: led) s → Q (.ref a) s) : WSl3 w A value lower upper (some step) p (.ref D) vl vu vt Q s := by
  unfold WSl3
  have hL : s.heap.IsList D l.toArray := let ⟨o, h1, r⟩ := hl; ⟨o, S.keep _ _ h1, r⟩
  refine subscriptTail_ops (ops := [.ref D, .ref s.heap.objs.size]) (Heap.IsList.typeIs (s := { s with heap := s.heap.push { cls := .type "slice", data := .fields #[vl, vu, vt] } }) (hL.push _)) list_getitem_lookup
    (wpAny_getItem_list_slice (hL.push _) (Heap.IsSliceOf.new ..) pl pu pt h0 ?_ (by rw [List.size_toArray, sizeLine_eq]; lia)) rfl ht
  have S1 := S.push { cls := .type "slice", data := .fields #[vl, vu, vt] }
  have S2 := S1.alloc (.lst (s.heap.push { cls := .type "slice", data := .fields #[vl, vu, vt] }).objs.size (slicePick l.toArray lo hi st).toList) (lstO (slicePick l.toArray lo hi st).toList 0) rfl rfl ⟨0, rfl⟩
  exact k _ _ S1.ns.lt S2
theorem pick_ints {l : List Value} {xs : List Int} {lo hi st : Option Int} (h : IntsAre l xs) : ∃ ys, IntsAre (slicePick l.toArray lo hi st).toList ys := by
  unfold slicePick
  generalize sliceRange _ _ _ = is
  dsimp only
  induction is with
  | nil => exact ⟨[], .nil⟩
  | cons i is ih =>
    obtain ⟨ys, ih⟩ := ih
    rw [List.filterMap_cons]
    cases q : l.toArray[i]? with
    | none => exact ⟨ys, ih⟩
    | some v =>
      rw [List.getElem?_toArray] at q
      obtain ⟨n, t, rfl, _⟩ := ints_at' h q
      exact ⟨n :: ys, .cons n t ih⟩
theorem k_sum {D : Addr} {l : List Value} {xs : List Int} {n : Nat} {Q : QV} (S : St w o₀ g L nm vs led s) (hA : Ok A n) (hl : Has w.params g led (.lst D l)) (hi : IntsAre l xs) (h : ∀ s t v, St w o₀ g L nm vs led s → Q (.int v t) s) : WC w A (.builtin "sum") [.ref D] [] Q s := by
  rw [wc]
  obtain ⟨ys, e⟩ := hi.allInts.items
  have hL := hl.list S
  rw [e] at hL
  exact sum_intListG hA.hd hL fun h' tk t' hk => h _ _ _ (S.more (s' := { s with heap := h', toks := tk }) (fun b o q => hk b o q) rfl rfl)
theorem m_dict {D : Addr} {kvs : Tab} {Q : QM} (S : St w o₀ g L nm vs led s) (hd : Has w.params g led (.tab D kvs)) (h : Q (.builtin "dict.items") [.ref D] s) : WM w A (.ref D) (Str.ofString "items") Q s := by
  rw [wm]; intro pl
  obtain ⟨es, n, h1, _⟩ := tab_dict S hd
  exact getMethod_builtin ⟨_, h1, rfl⟩ PySem.F.plainAttrs_dict PySem.F.slot_dict_items PySem.F.type_dict_items (fun a e => by cases e; exact ⟨_, h1, rfl⟩) h
theorem k_items {D : Addr} {kvs : Tab} {Q : QV} (S : St w o₀ g L nm vs led s) (hd : Has w.params g led (.tab D kvs)) (h : ∀ s V, St w o₀ g L nm vs (.raw V { cls := .type "dict_items", data := .fields #[.ref D] } :: led) s → Q (.ref V) s) : WC w A (.builtin "dict.items") [.ref D] [] Q s := by
  rw [wc]
  obtain ⟨es, n, h1, h2, h3, h4⟩ := tab_dict S hd
  exact call_meetsIn PySem.F.slot_dict_items ⟨_, h1, rfl⟩ PySem.F.entry_dict_items (PySem.F.args_dict_items_1 _) (meets_dict_items (strKind pg w) D h3) ⟨⟨_, h4⟩, h _ _ (S.alloc (.raw s.heap.objs.size _) _ rfl rfl rfl)⟩
theorem k_list_items {V D : Addr} {kvs : Tab} {n : Nat} {Q : QV} (hA : Ok A n) (S : St w o₀ g L nm vs (.raw V { cls := .type "dict_items", data := .fields #[.ref D] } :: led) s) (hd : Has w.params g led (.tab D kvs)) (hz : kvs.length ≤ 1000000)
    (h : ∀ s g' D' as, Sub g g' → Reads g' (.ref D') (itemsD kvs) as → St w o₀ g' L nm vs led s → Q (.ref D') s) : WC w A (.type "list") [.ref V] [] Q s := by
  rw [wc]
  obtain ⟨es, m, h1, h2, h3, h4⟩ := tab_dict S.forget hd
  obtain ⟨oV, hV, rfl⟩ := (S.ld _ (.head _)).1
  obtain ⟨ep, h5⟩ := h4.dictAt
  have hkl : (tabVals es kvs).length = kvs.length := by
    have := congrArg List.length h2.num.keys
    simpa using this
  refine kdx_call hA.hd ⟨_, hV, rfl, rfl⟩ h5 (by rw [hkl, sizeLine_eq]; lia) fun h' tk acc c as hk hS hlen hG hacc => ?_
  have S' := S.forget.more (s' := { s with heap := h', toks := tk }) (fun b o e => hk b o e) rfl rfl
  obtain ⟨g', hg', Sf, key⟩ := S'.freeze
  have fresh : ∀ a o, s.heap.objs.size ≤ a → h'.get? a = some o → g'.get? a = some o := fun a o ha e =>
    key a o e (Nat.ne_of_gt (Nat.lt_of_lt_of_le S.ns.lt ha)) fun q => by
      obtain ⟨p, hp, e2⟩ := List.mem_map.mp q
      have q2 := (S.forget.ld p hp).1.lt
      rw [e2] at q2
      exact absurd (Nat.lt_of_lt_of_le q2 ha) (Nat.lt_irrefl _)
  have rd : ∀ (as : List Addr) (kv : List (Str × Value)) (kvs : Tab), IsNum kv kvs → as.length = kv.length → (∀ a ∈ as, s.heap.objs.size < a) →
      (∀ (j : Nat) (a : Addr), as[j]? = some a → ∃ key k x, kv[j]? = some (k, x) ∧ (strKind pg w).is k key = true ∧ h'.get? a = some { cls := .type "tuple", data := .seq #[key, x] }) → ∃ bs, ReadsAll g' (as.map Value.ref) (kvs.map fun p => PyData.tuple [.str p.1, .int p.2]) bs := by
    intro as kv kvs hn
    induction hn generalizing as with
    | nil => intro hl _ _; cases as with
      | nil => exact ⟨[], .nil⟩
      | cons _ _ => simp at hl
    | @cons x nn t aa bb hn ih =>
      intro hl hab hp
      cases as with
      | nil => simp at hl
      | cons a as =>
        obtain ⟨bs, hr⟩ := ih as (by simpa using hl) (fun b hb => hab b (.tail _ hb)) fun j b hj => by
          obtain ⟨key, k, x, e1, e2, e3⟩ := hp (j + 1) b hj
          exact ⟨key, k, x, e1, e2, e3⟩
        obtain ⟨key, k, x', e1, e2, e3⟩ := hp 0 a rfl
        cases e1
        obtain ⟨tk2, rfl⟩ := Value.isStrOf_shape e2
        exact ⟨_, .cons (reads_tuple_at (fresh a _ (Nat.le_of_lt (hab a (.head _))) e3) rfl rfl (.cons (.str _ _) (.cons (.int _ _) .nil))) hr⟩
  obtain ⟨bs, hr⟩ := rd as _ kvs h2.num hlen hG.above hG.pairs
  refine h _ g' s.heap.objs.size _ hg' (reads_list_at (fresh _ _ (Nat.le_refl _) hS) rfl rfl (by rw [hacc]; exact hr)) Sf
theorem ents_reads {lt : List Value} {es : List Ent} (h : All2 (EntF (Frz g)) lt es) : ∃ as, ReadsAll g lt (es.map entD) as := by
  induction h with
  | nil => exact ⟨[], .nil⟩
  | @cons v e lt es h _ ih =>
    obtain ⟨as, ih⟩ := ih
    obtain ⟨t1, t2, a, n, rfl, hf⟩ := h
    obtain ⟨e1, e2⟩ := e
    cases e1 with
    | none => exact ⟨_, .cons (reads_list_at hf rfl rfl (.cons .none (.cons (.str _ _) .nil))) ih⟩
    | some x => exact ⟨_, .cons (reads_list_at hf rfl rfl (.cons (.str _ _) (.cons (.str _ _) .nil))) ih⟩
theorem q_eq_data {a b : Value} {d : PyData} {as bs : List Addr} {n : Nat} {Q : QV} (S : St w o₀ g L nm vs led s) (hA : Ok A n) (hn : 4 ≤ n) (ra : Reads s.heap a d as) (rb : Reads s.heap b d bs) (hd : SeqAt.shaped d = true) (h : Q (.bool true) s) : WCmp w A .Eq a b Q s := by
  rw [wcmp]
  refine eq_dataH ra rb hd hd (hA.units64 hn) ?_
  rw [SeqAt.eqv_refl d (SeqAt.canLay_of_shaped hd)]
  exact h
end
end Mine
namespace Mine
section
variable {w : World} {o₀ : OsState} {g g₂ : Heap} {L : Addr} {nm gl : List Str} {vs vs' : List (Option Value)} {led led' sub rest : Led} {s s₂ : Shared} {A : Around} {env : Env} {cl cs : List (Str × Addr)}
variable {a b : Int} {x y z : Str} {t u v : Tok}
/- a list's places, all written texts; all written numbers -/
inductive LitS : List Expr → List Str → Prop
  | nil : LitS [] []
  | cons {x k p r xs} : LitS r xs → LitS (.Constant (.str x) k p :: r) (x :: xs)
inductive LitI : List Expr → List Int → Prop
  | nil : LitI [] []
  | cons {n k p r xs} : LitI r xs → LitI (.Constant (.int n) k p :: r) (n :: xs)
theorem a_strs {elts : List Expr} {xs : List Str} {pos : Pos} (h : LitS elts xs) : ∀ {Q : QL} {s : Shared}, St w o₀ g L nm vs led s → (∀ s l, Strs l xs → St w o₀ g L nm vs led s → Q l s) → WA w A env pos elts Q s := by
  induction h with
  | nil => intro Q s S k; exact a_nil (k _ _ .nil S)
  | cons _ ih => intro Q s S k; exact a_cons rfl (r_str S fun s t S => ih S fun s l hl S => k _ _ (.cons hl) S)
theorem a_ints {elts : List Expr} {xs : List Int} {pos : Pos} (h : LitI elts xs) : ∀ {Q : QL} {s : Shared}, St w o₀ g L nm vs led s → (∀ s l, IntsAre l xs → St w o₀ g L nm vs led s → Q l s) → WA w A env pos elts Q s := by
  induction h with
  | nil => intro Q s S k; exact a_nil (k _ _ .nil S)
  | cons _ ih => intro Q s S k; exact a_cons rfl (r_int S fun s t S => ih S fun s l hl S => k _ _ (.cons _ _ hl) S)
/- where a walk stands, as one thing -/
structure Cx where
  o₀ : OsState
  g : Heap
  L : Addr
  nm : List Str
  vs : List (Option Value)
  led : Led
/- a goal at every state that is so -/
noncomputable def V (w : World) (c : Cx) (P : Shared → Prop) : Prop := ∀ s, St w c.o₀ c.g c.L c.nm c.vs c.led s → P s
variable {κ : Cx}
@[reducible] noncomputable def BrS (b : Bool) (P R : Shared → Prop) : Shared → Prop := fun s => Br b (P s) (R s)
theorem vin (S : St w o₀ g L nm vs led s) {P : Shared → Prop} (h : V w ⟨o₀, g, L, nm, vs, led⟩ P) : P s := h s S
theorem vout {P : Shared → Prop} (h : ∀ s, St w o₀ g L nm vs led s → P s) : V w ⟨o₀, g, L, nm, vs, led⟩ P := h
/- a call from where the walk stands, and back -/
theorem v_use {P : Shared → Prop} (hp : Picks sub led rest) (h : ∀ s gc, S0 w o₀ gc sub s → Sub g gc → RkP w rest gc → BkP w o₀ g L nm vs rest gc → P s) : V w ⟨o₀, g, L, nm, vs, led⟩ P := fun s S => use S hp (h s)
theorem vbk {P : Shared → Prop} {gc : Heap} {sub' : Led} (bk : BkP w o₀ g L nm vs rest gc) (C : S0 w o₀ gc sub' s) (ha : App sub' rest led') (h : V w ⟨o₀, g, L, nm, vs, led'⟩ P) : P s := h s (bk _ _ _ C ha)
theorem v_imp {P R : Shared → Prop} (h : ∀ s, P s → R s) (k : V w c P) : V w c R := fun s S => h s (k s S)
theorem v_ite_t {P R : Shared → Prop} (h : V w c P) : V w c (BrS true P R) := fun s S => ite_t (h s S)
theorem v_ite_f {P R : Shared → Prop} (h : V w c R) : V w c (BrS false P R) := fun s S => ite_f (h s S)
theorem v_ite_eqt {b : Bool} {P R : Shared → Prop} (hp : b = true) (h : V w c P) : V w c (BrS b P R) := fun s S => ite_eqt hp (h s S)
theorem v_ite_eqf {b : Bool} {P R : Shared → Prop} (hp : b = false) (h : V w c R) : V w c (BrS b P R) := fun s S => ite_eqf hp (h s S)
theorem v_ite_no {p : Prop} [Decidable p] {P R : Shared → Prop} (hp : ¬ p) (h : V w c R) : V w c (BrS (decide p) P R) := fun s S => ite_no hp (h s S)
theorem v_ite_yes {p : Prop} [Decidable p] {P R : Shared → Prop} (hp : p) (h : V w c P) : V w c (BrS (decide p) P R) := fun s S => ite_yes hp (h s S)
theorem v_ite_not {b : Bool} {P R : Shared → Prop} (h : V w c (BrS b R P)) : V w c (BrS (!b) P R) := fun s S => ite_not (h s S)
theorem v_q_in_tupd {D : Addr} {l : List Value} {xs : List Str} {Q : QV} (hs : Strs l xs) (h : V w ⟨o₀, g, L, nm, vs, led⟩ (Q (.bool (xs.contains x)))) : V w ⟨o₀, g, L, nm, vs, .tup D l :: led⟩ (WCmp w A .In (.str x t) (.ref D) Q) := fun s S => q_in_tupd S hs (fun S => h s S)
@[reducible] noncomputable def K_0 (Q : QL) (v : _) (vs : _) := Q (v :: vs)
@[reducible] noncomputable def K_1 (w : World) (A : Around) (env : Env) (pos : Pos) (rest : List Expr) (Q : QL) (v : _) := WA w A env pos rest (K_0 Q v)
@[reducible] noncomputable def K_2 (w : World) (A : Around) (env : Env) (es : _) (ws : _) (Q : QU) (x0 : Unit) := WAO w A env es ws Q
@[reducible] noncomputable def K_3 (w : World) (A : Around) (Q : QB) (c : _) := WTru w A c Q
@[reducible] noncomputable def K_4 (w : World) (A : Around) (op : _) (a : _) (Q : QB) (b : _) := WCmp w A op a b (K_3 w A Q)
@[reducible] noncomputable def K_5 (w : World) (A : Around) (env : Env) (r : _) (op : _) (Q : QB) (a : _) := WE w A env r (K_4 w A op a Q)
@[reducible] noncomputable def K_6 (Q : QB) (b : _) := Q (!b)
@[reducible] noncomputable def K_7 (w : World) (A : Around) (Q : QB) (v : _) := WTru w A v Q
@[reducible] noncomputable def K_8 (w : World) (A : Around) (f : Addr) (first : List Value) (Q : QV) (vs : _) := WCK w A (.ref f) (first ++ vs) Q
@[reducible] noncomputable def K_9 (w : World) (A : Around) (first : List Value) (Q : QV) (vs : _) := WCK w A (.ref 792) (first ++ vs) Q
@[reducible] noncomputable def K_10 (w : World) (A : Around) (f : Value) (first : List Value) (Q : QV) (vs : _) := WC w A f (first ++ vs) [] Q
@[reducible] noncomputable def K_11 (w : World) (A : Around) (env : Env) (rest : _) (Q : QB) (b : _) := BrS b (WAnd w A env rest Q) (Q false)
@[reducible] noncomputable def K_12 (w : World) (A : Around) (env : Env) (Q : QB) (rest : _) (b : _) := BrS b (Q true) (WOr w A env rest Q)
@[reducible] noncomputable def K_13 (w : World) (A : Around) (env : Env) (y : _) (Q : QV) (v : _) (t : _) := BrS t (WE w A env y Q) (Q v)
@[reducible] noncomputable def K_14 (w : World) (A : Around) (env : Env) (y : _) (Q : QV) (v : _) := WTru w A v (K_13 w A env y Q v)
@[reducible] noncomputable def K_15 (w : World) (A : Around) (attr : _) (Q : QV) (o : _) := WGet w A o attr Q
@[reducible] noncomputable def K_16 (w : World) (A : Around) (op : _) (a : _) (Q : QV) (b : _) := WBin w A op a b Q
@[reducible] noncomputable def K_17 (w : World) (A : Around) (env : Env) (r : _) (op : _) (Q : QV) (a : _) := WE w A env r (K_16 w A op a Q)
@[reducible] noncomputable def K_18 (w : World) (A : Around) (env : Env) (pos : _) (args : _) (Q : QV) (f : _) := WCW w A env pos f [] args Q
@[reducible] noncomputable def K_19 (w : World) (A : Around) (op : _) (a : _) (Q : QV) (b : _) := WCmp w A op a b Q
@[reducible] noncomputable def K_20 (w : World) (A : Around) (env : Env) (r : _) (op : _) (Q : QV) (a : _) := WE w A env r (K_19 w A op a Q)
@[reducible] noncomputable def K_21 (w : World) (A : Around) (env : Env) (body : _) (Q : QV) (orelse : _) (b : _) := BrS b (WE w A env body Q) (WE w A env orelse Q)
@[reducible] noncomputable def K_22 (w : World) (A : Around) (Q : QV) (vs : _) := WLst w A vs Q
@[reducible] noncomputable def K_23 (w : World) (A : Around) (env : Env) (pos : _) (args : _) (Q : QV) (f : _) (first : _) := WCW w A env pos f first args Q
@[reducible] noncomputable def K_24 (w : World) (A : Around) (env : Env) (name : _) (pos : _) (args : _) (Q : QV) (ov : _) := WM w A ov name (K_23 w A env pos args Q)
@[reducible] noncomputable def K_25 (w : World) (A : Around) (env : Env) (Q : QV) (v : _) (y : _) (t : _) := BrS t (Q v) (WE w A env y Q)
@[reducible] noncomputable def K_26 (w : World) (A : Around) (env : Env) (Q : QV) (y : _) (v : _) := WTru w A v (K_25 w A env Q v y)
@[reducible] noncomputable def K_27 (w : World) (A : Around) (value : Expr) (lower : Option Expr) (upper : Option Expr) (p : Pos) (o : _) (vl : _) (Q : QV) (vu : _) := WSl w A value lower upper p o vl vu Q
@[reducible] noncomputable def K_28 (w : World) (A : Around) (env : Env) (upper : Option Expr) (value : Expr) (lower : Option Expr) (p : Pos) (o : _) (Q : QV) (vl : _) := WP w A env upper (K_27 w A value lower upper p o vl Q)
@[reducible] noncomputable def K_29 (w : World) (A : Around) (env : Env) (lower : Option Expr) (upper : Option Expr) (value : Expr) (p : Pos) (Q : QV) (o : _) := WP w A env lower (K_28 w A env upper value lower p o Q)
@[reducible] noncomputable def K_30 (w : World) (A : Around) (value : _) (slice : _) (o : _) (Q : QV) (i : _) := WSub w A value slice o i Q
@[reducible] noncomputable def K_31 (w : World) (A : Around) (env : Env) (slice : _) (value : _) (Q : QV) (o : _) := WE w A env slice (K_30 w A value slice o Q)
@[reducible] noncomputable def K_32 (w : World) (A : Around) (Q : QV) (vs : _) := WTup w A vs Q
@[reducible] noncomputable def K_33 (w : World) (A : Around) (env : Env) (rest : _) (Q : QF) (x0 : Unit) := WX w A env rest Q
@[reducible] noncomputable def K_34 (w : World) (A : Around) (env : Env) (x : _) (rest : _) (Q : QF) (v : _) := WStore w A env x v (K_33 w A env rest Q)
@[reducible] noncomputable def K_35 (w : World) (A : Around) (env : Env) (x : _) (rest : _) (Q : QF) (r : _) := WStore w A env x r (K_33 w A env rest Q)
@[reducible] noncomputable def K_36 (w : World) (A : Around) (env : Env) (op : _) (old : _) (x : _) (rest : _) (Q : QF) (v : _) := WInp w A op old v (K_35 w A env x rest Q)
@[reducible] noncomputable def K_37 (w : World) (A : Around) (env : Env) (ov : _) (attr : _) (rest : _) (Q : QF) (new : _) := WSet w A ov attr new (K_33 w A env rest Q)
@[reducible] noncomputable def K_38 (w : World) (A : Around) (env : Env) (op : _) (old : _) (ov : _) (attr : _) (rest : _) (Q : QF) (v : _) := WInp w A op old v (K_37 w A env ov attr rest Q)
@[reducible] noncomputable def K_39 (w : World) (A : Around) (env : Env) (e : _) (op : _) (ov : _) (attr : _) (rest : _) (Q : QF) (old : _) := WE w A env e (K_38 w A env op old ov attr rest Q)
@[reducible] noncomputable def K_40 (w : World) (A : Around) (env : Env) (attr : _) (e : _) (op : _) (rest : _) (Q : QF) (ov : _) := WGet w A ov attr (K_39 w A env e op ov attr rest Q)
@[reducible] noncomputable def K_41 (w : World) (A : Around) (env : Env) (rest : _) (Q : QF) (x0 : Value) := WX w A env rest Q
@[reducible] noncomputable def K_42 (w : World) (A : Around) (env : Env) (body : _) (rest : _) (Q : QF) (orelse : _) (b : _) := BrS b (WX w A env body (Thn w A env rest Q)) (WX w A env orelse (Thn w A env rest Q))
@[reducible] noncomputable def K_43 (Q : QF) (v : _) := Q (.ret v)
@[reducible] noncomputable def K_44 (w : World) (A : Around) (env : Env) (attr : _) (v : _) (rest : _) (Q : QF) (ov : _) := WSet w A ov attr v (K_33 w A env rest Q)
@[reducible] noncomputable def K_45 (w : World) (A : Around) (env : Env) (o : _) (attr : _) (rest : _) (Q : QF) (v : _) := WE w A env o (K_44 w A env attr v rest Q)
@[reducible] noncomputable def K_46 (w : World) (A : Around) (env : Env) (ov : _) (v : _) (rest : _) (Q : QF) (iv : _) := WSetI w A ov iv v (K_33 w A env rest Q)
@[reducible] noncomputable def K_47 (w : World) (A : Around) (env : Env) (i : _) (v : _) (rest : _) (Q : QF) (ov : _) := WE w A env i (K_46 w A env ov v rest Q)
@[reducible] noncomputable def K_48 (w : World) (A : Around) (env : Env) (o : _) (i : _) (rest : _) (Q : QF) (v : _) := WE w A env o (K_47 w A env i v rest Q)
@[reducible] noncomputable def K_49 (w : World) (A : Around) (env : Env) (elts : _) (k : _) (p : _) (rest : _) (Q : QF) (v : _) := WAs w A env (.Tuple elts k p) v (K_33 w A env rest Q)
theorem v_a_cons {pos : Pos} {e : Expr} {rest : List Expr} {Q : QL} (he : noStar e = true) (h : V w κ (WE w A env e (K_1 w A env pos rest Q))) : V w κ (WA w A env pos (e :: rest) Q) := fun s S => a_cons he (h s S)
theorem v_a_nil {pos : Pos} {Q : QL} (h : V w κ (Q [])) : V w κ (WA w A env pos [] Q) := fun s S => a_nil (h s S)
theorem v_ao_cons {x p es v ws} {Q : QU} (h : V w κ (WStore w A env x v (K_2 w A env es ws Q))) : V w κ (WAO w A env (.Name x p :: es) (v :: ws) Q) := fun s S => ao_cons (h s S)
theorem v_ao_nil {Q : QU} (h : V w κ (Q ())) : V w κ (WAO w A env [] [] Q) := fun s S => ao_nil (h s S)
theorem v_as_name {x p v} {Q : QU} (h : V w κ (WStore w A env x v Q)) : V w κ (WAs w A env (.Name x p) v Q) := fun s S => as_name (h s S)
theorem v_b_add_int {Q : QV} (h : ∀ t, V w κ (Q (.int (a + b) t))) : V w κ (WBin w A .Add (.int a t) (.int b u) Q) := fun s S => b_add_int S (fun s t S => h t s S)
theorem v_b_add_list {D B : Addr} {l l2 : List Value} {Q : QV} (hl : Has w.params g led (.lst D l)) (hb : Has w.params g led (.lst B l2)) (hz : l.length + l2.length ≤ 1000000) (k : ∀ a, L < a → V w ⟨o₀, g, L, nm, vs, (.lst a (l ++ l2) :: led)⟩ (Q (.ref a))) : V w ⟨o₀, g, L, nm, vs, led⟩ (WBin w A .Add (.ref D) (.ref B) Q) := fun s S => b_add_list S hl hb hz (fun s a h0 S => k a h0 s S)
theorem v_b_add_str {Q : QV} (hz : x.length + y.length ≤ sizeLine) (h : ∀ t, V w κ (Q (.str (x ++ y) t))) : V w κ (WBin w A .Add (.str x t) (.str y u) Q) := fun s S => b_add_str S hz (fun s t S => h t s S)
theorem v_b_fdiv_int {Q : QV} (hb : (b == 0) = false) (hz : Nat.blt b.natAbs (2 ^ 64) = true) (h : ∀ t, V w κ (Q (.int (a.fdiv b) t))) : V w κ (WBin w A .FloorDiv (.int a t) (.int b u) Q) := fun s S => b_fdiv_int S hb hz (fun s t S => h t s S)
theorem v_b_mod_int {Q : QV} (hb : (b == 0) = false) (h : ∀ t, V w κ (Q (.int (a.fmod b) t))) : V w κ (WBin w A .Mod (.int a t) (.int b u) Q) := fun s S => b_mod_int S hb (fun s t S => h t s S)
theorem v_b_mul_int {Q : QV} (hm : IntMulOk a b) (h : ∀ t, V w κ (Q (.int (a * b) t))) : V w κ (WBin w A .Mult (.int a t) (.int b u) Q) := fun s S => b_mul_int S hm (fun s t S => h t s S)
theorem v_b_pow_int {Q : QV} (hn : 0 ≤ b) (hn2 : b ≤ 1000000) (ha : Nat.blt a.natAbs (2 ^ 64) = true) (h : ∀ t, V w κ (Q (.int (a ^ b.toNat) t))) : V w κ (WBin w A .Pow (.int a t) (.int b u) Q) := fun s S => b_pow_int S hn hn2 ha (fun s t S => h t s S)
theorem v_b_truthy {b : Bool} {Q : QB} (h : V w κ (Q b)) : V w κ (WTru w A (.bool b) Q) := fun s S => b_truthy (h s S)
theorem v_c_and {vals pos} {Q : QB} (h : V w κ (WAnd w A env vals Q)) : V w κ (WT w A env (.BoolOp .And vals pos) Q) := fun s S => c_and (h s S)
theorem v_c_isTrue {l op r pos} {Q : QB} (hm : noSet r = true) (h : V w κ (WE w A env l (K_5 w A env r op Q))) : V w κ (WT w A env (.Compare l [op] [r] pos) Q) := fun s S => c_isTrue hm (h s S)
theorem v_c_not {x pos} {Q : QB} (h : V w κ (WT w A env x (K_6 Q))) : V w κ (WT w A env (.UnaryOp .Not x pos) Q) := fun s S => c_not (h s S)
theorem v_c_or {vals pos} {Q : QB} (h : V w κ (WOr w A env vals Q)) : V w κ (WT w A env (.BoolOp .Or vals pos) Q) := fun s S => c_or (h s S)
theorem v_c_val {e : Expr} {Q : QB} (he : plainT e = true) (h : V w κ (WE w A env e (K_7 w A Q))) : V w κ (WT w A env e Q) := fun s S => c_val he (h s S)
theorem v_ck {f : Value} {args : List Value} {Q : QV} (h : V w κ (WC w A f args [] Q)) : V w κ (WCK w A f args Q) := fun s S => ck S (h s S)
theorem v_cw_K {pos : Pos} {f : Addr} {first : List Value} {args : List Expr} {Q : QV} (hk : keepIn (KK w.params) (.ref f) = true) (ha : args.all noStar = true) (h : V w κ (WA w A env pos args (K_8 w A f first Q))) : V w κ (WCW w A env pos (.ref f) first args Q) := fun s S => cw_K hk ha (h s S)
theorem v_cw_find {pos : Pos} {first : List Value} {args : List Expr} {Q : QV} (ha : args.all noStar = true) (h : V w κ (WA w A env pos args (K_9 w A first Q))) : V w κ (WCW w A env pos (.ref 792) first args Q) := fun s S => cw_find ha (h s S)
theorem v_cw_val {pos : Pos} {f : Value} {first : List Value} {args : List Expr} {Q : QV} (hf : noRef f = true) (ha : args.all noStar = true) (h : V w κ (WA w A env pos args (K_10 w A f first Q))) : V w κ (WCW w A env pos f first args Q) := fun s S => cw_val hf ha (h s S)
theorem v_fe_brk {P : Shared → Prop} {K : QF} (h : V w κ (K .next)) : V w κ (FEnd P K .brk) := fun s S => fe_brk (h s S)
theorem v_fe_cont {P : Shared → Prop} {K : QF} (h : V w κ (P)) : V w κ (FEnd P K .cont) := fun s S => fe_cont (h s S)
theorem v_fe_next {P : Shared → Prop} {K : QF} (h : V w κ (P)) : V w κ (FEnd P K .next) := fun s S => fe_next (h s S)
theorem v_fe_ret {P : Shared → Prop} {K : QF} {v : Value} (h : V w κ (K (.ret v))) : V w κ (FEnd P K (.ret v)) := fun s S => fe_ret (h s S)
theorem v_i_add_int {Q : QV} (h : ∀ t, V w κ (Q (.int (a + b) t))) : V w κ (WInp w A .Add (.int a t) (.int b u) Q) := fun s S => i_add_int S (fun s t S => h t s S)
theorem v_i_add_str {Q : QV} (hz : x.length + y.length ≤ sizeLine) (h : ∀ t, V w κ (Q (.str (x ++ y) t))) : V w κ (WInp w A .Add (.str x t) (.str y u) Q) := fun s S => i_add_str S hz (fun s t S => h t s S)
theorem v_i_tab {D : Addr} {kvs : List (Str × Int)} {n : Int} {Q : QU} (U : UpL (.tab D kvs) (.tab D (kvs ++ [(x, n)])) led led') (hk : kvs.lookup x = none) (hz : kvs.length ≤ 1000000) (h : V w ⟨o₀, g, L, nm, vs, led'⟩ (Q ())) : V w ⟨o₀, g, L, nm, vs, led⟩ (WSetI w A (.ref D) (.str x t) (.int n u) Q) := fun s S => i_tab S U hk hz (fun s  S => h  s S)
theorem v_k_abs {Q : QV} (h : ∀ t, V w κ (Q (.int (if a < 0 then -a else a) t))) : V w κ (WC w A (.builtin "abs") [.int a t] [] Q) := fun s S => k_abs S (fun s t S => h t s S)
theorem v_k_append {D : Addr} {l : List Value} {y : Value} {Q : QV} (U : UpL (.lst D l) (.lst D (l ++ [y])) led led') (hz : l.length ≤ sizeLine) (h : V w ⟨o₀, g, L, nm, vs, led'⟩ (Q .none)) : V w ⟨o₀, g, L, nm, vs, led⟩ (WC w A (.builtin "list.append") [.ref D, y] [] Q) := fun s S => k_append S U hz (fun s  S => h  s S)
theorem v_k_chr {Q : QV} (h0 : 0 ≤ a) (h1 : a ≤ 1114111) (h : ∀ t, V w κ (Q (.str (ch a.toNat) t))) : V w κ (WC w A (.builtin "chr") [.int a t] [] Q) := fun s S => k_chr S h0 h1 (fun s t S => h t s S)
theorem v_k_count {Q : QV} (h : ∀ t, V w κ (Q (.int (Txt.count x y) t))) : V w κ (WC w A (.builtin "str.count") [.str x t, .str y u] [] Q) := fun s S => k_count S (fun s t S => h t s S)
theorem v_k_deque {Q : QV} (h : ∀ a, V w ⟨o₀, g, L, nm, vs, (.raw a dqO :: led)⟩ (Q (.ref a))) : V w ⟨o₀, g, L, nm, vs, led⟩ (WC w A (.type "collections.deque") [] [] Q) := fun s S => k_deque S (fun s a S => h a s S)
theorem v_k_extend {D B : Addr} {l l2 : List Value} {Q : QV} (hB : Has w.params g led (.lst B l2)) (U : UpL (.lst D l) (.lst D (l ++ l2)) led led') (hz : l.length + l2.length ≤ 1000000) (h : V w ⟨o₀, g, L, nm, vs, led'⟩ (Q .none)) : V w ⟨o₀, g, L, nm, vs, led⟩ (WC w A (.builtin "list.extend") [.ref D, .ref B] [] Q) := fun s S => k_extend S hB U hz (fun s  S => h  s S)
theorem v_k_find {x : Str} {t : Tok} {Q : QV} (hx : WordOk x) (hz : (x.length == 0) = false) (hn : x.cps.size ≤ 1000) (h : ∀ v, (v == Value.none) = safeT x → V w κ (Q v)) : V w κ (WC w A (.ref 792) [.str x t] [] Q) := fun s S => k_find S hx hz hn (fun s v h0 S => h v h0 s S)
theorem v_k_int_int {Q : QV} (h : V w κ (Q (.int a t))) : V w κ (WC w A (.type "int") [.int a t] [] Q) := fun s S => k_int_int (h s S)
theorem v_k_int_text {Q : QV} (hn : PySem.intText? x = some a) (hl : x.length ≤ 640) (h : ∀ t, V w κ (Q (.int a t))) : V w κ (WC w A (.type "int") [.str x t] [] Q) := fun s S => k_int_text S hn hl (fun s t S => h t s S)
theorem v_k_isi_str {Q : QV} (h : V w κ (Q (.bool true))) : V w κ (WC w A (.builtin "isinstance") [.str x t, .type "str"] [] Q) := fun s S => k_isi_str (h s S)
theorem v_k_len_list {D : Addr} {l : List Value} {Q : QV} (hl : Has w.params κ.g κ.led (.lst D l)) (hz : l.length ≤ sizeLine) (h : ∀ t, V w κ (Q (.int l.length t))) : V w κ (WC w A (.builtin "len") [.ref D] [] Q) := fun s S => k_len_list S hl hz (fun s t S => h t s S)
theorem v_k_len_str {Q : QV} (hx : x.length ≤ sizeLine) (h : ∀ t, V w κ (Q (.int x.length t))) : V w κ (WC w A (.builtin "len") [.str x t] [] Q) := fun s S => k_len_str S hx (fun s t S => h t s S)
theorem v_k_len_tup {D : Addr} {l : List Value} {Q : QV} (hl : Has w.params κ.g κ.led (.tup D l)) (hz : Nat.ble l.length 100000 = true) (h : ∀ t, V w κ (Q (.int l.length t))) : V w κ (WC w A (.builtin "len") [.ref D] [] Q) := fun s S => k_len_tup S hl hz (fun s t S => h t s S)
theorem v_k_list_str {x : Str} {t : Tok} {n : Nat} {Q : QV} (hA : Ok A n) (hn : Nat.ble x.cps.size 1000 = true) (h : ∀ D l, L < D → Strs l (x.cps.toList.map ch) → V w ⟨o₀, g, L, nm, vs, (.lst D l :: led)⟩ (Q (.ref D))) : V w ⟨o₀, g, L, nm, vs, led⟩ (WC w A (.type "list") [.str x t] [] Q) := fun s S => k_list_str S hA hn (fun s D l h0 h1 S => h D l h0 h1 s S)
theorem v_k_objNew {Q : QV} (h : ∀ x d, V w ⟨o₀, g, L, nm, vs, (.ins x 694 d :: .dic d ioNm [none, none, none] :: led)⟩ (Q (.ref x))) : V w ⟨o₀, g, L, nm, vs, led⟩ (WC w A (.builtin "object.__new__") [.ref 694] [] Q) := fun s S => k_objNew S (fun s x d S => h x d s S)
theorem v_k_pop {D : Addr} {l : List Value} {y : Value} {Q : QV} (U : UpL (.lst D (l ++ [y])) (.lst D l) led led') (hz : l.length < sizeLine) (h : V w ⟨o₀, g, L, nm, vs, led'⟩ (Q y)) : V w ⟨o₀, g, L, nm, vs, led⟩ (WC w A (.builtin "list.pop") [.ref D] [] Q) := fun s S => k_pop S U hz (fun s  S => h  s S)
theorem v_k_set {D : Addr} {l : List Value} {xs : List Str} {n : Nat} {Q : QV} (hA : Ok A n) (hl : Has w.params g led (.lst D l)) (hx : Strs l xs) (hn : Nat.ble xs.length 90 = true) (h : ∀ a o, SetS pg w (!byTx w) (metS xs) o → V w ⟨o₀, g, L, nm, vs, (.raw a o :: led)⟩ (Q (.ref a))) : V w ⟨o₀, g, L, nm, vs, led⟩ (WC w A (.type "set") [.ref D] [] Q) := fun s S => k_set S hA hl hx hn (fun s a o h0 S => h a o h0 s S)
theorem v_k_split2 {Q : QV} (hy : (y.length == 0) = false) (hx : x.length ≤ 100000) (h : ∀ D l, L < D → Strs l (Txt.split x y) → V w ⟨o₀, g, L, nm, vs, (.lst D l :: led)⟩ (Q (.ref D))) : V w ⟨o₀, g, L, nm, vs, led⟩ (WC w A (.builtin "str.split") [.str x t, .str y u] [] Q) := fun s S => k_split2 S hy hx (fun s D l h0 h1 S => h D l h0 h1 s S)
theorem v_k_startswith {Q : QV} (h : V w κ (Q (.bool (Txt.startswith x y)))) : V w κ (WC w A (.builtin "str.startswith") [.str x t, .str y u] [] Q) := fun s S => k_startswith (h s S)
theorem v_k_str_int {Q : QV} (h0 : 0 ≤ a) (h1 : a < 10 ^ 10) (h : ∀ t, V w κ (Q (.str (Str.ofString (toString a)) t))) : V w κ (WC w A (.type "str") [.int a t] [] Q) := fun s S => k_str_int S h0 h1 (fun s t S => h t s S)
theorem v_k_str_str {Q : QV} (h : V w κ (Q (.str x t))) : V w κ (WC w A (.type "str") [.str x t] [] Q) := fun s S => k_str_str (h s S)
theorem v_k_sum {D : Addr} {l : List Value} {xs : List Int} {n : Nat} {Q : QV} (hA : Ok A n) (hl : Has w.params κ.g κ.led (.lst D l)) (hi : IntsAre l xs) (h : ∀ t v, V w κ (Q (.int v t))) : V w κ (WC w A (.builtin "sum") [.ref D] [] Q) := fun s S => k_sum S hA hl hi (fun s t v S => h t v s S)
theorem v_k_type_int {Q : QV} (h : V w κ (Q (.type "int"))) : V w κ (WC w A (.type "type") [.int a t] [] Q) := fun s S => k_type_int (h s S)
theorem v_k_type_str {Q : QV} (h : V w κ (Q (.type "str"))) : V w κ (WC w A (.type "type") [.str x t] [] Q) := fun s S => k_type_str (h s S)
theorem v_m_count {Q : QM} (h : V w κ (Q (.builtin "str.count") [.str x t])) : V w κ (WM w A (.str x t) "count" Q) := fun s S => m_count (h s S)
theorem v_m_dict {D : Addr} {kvs : Tab} {Q : QM} (hd : Has w.params κ.g κ.led (.tab D kvs)) (h : V w κ (Q (.builtin "dict.items") [.ref D])) : V w κ (WM w A (.ref D) (Str.ofString "items") Q) := fun s S => m_dict S hd (h s S)
theorem v_m_join {Q : QM} (h : V w κ (Q (.builtin "str.join") [.str x t])) : V w κ (WM w A (.str x t) "join" Q) := fun s S => m_join (h s S)
theorem v_m_list {D : Addr} {l : List Value} {name : Str} {id : String} {Q : QM} (hl : Has w.params κ.g κ.led (.lst D l)) (sl : Slot "list" name id) (ty : typeOf (.builtin id) = pure (.type "method_descriptor")) (h : V w κ (Q (.builtin id) [.ref D])) : V w κ (WM w A (.ref D) name Q) := fun s S => m_list S hl sl ty (h s S)
theorem v_m_split {Q : QM} (h : V w κ (Q (.builtin "str.split") [.str x t])) : V w κ (WM w A (.str x t) "split" Q) := fun s S => m_split (h s S)
theorem v_m_startswith {Q : QM} (h : V w κ (Q (.builtin "str.startswith") [.str x t])) : V w κ (WM w A (.str x t) "startswith" Q) := fun s S => m_startswith (h s S)
theorem v_n_cons {x rest} {Q : QB} (h : V w κ (WT w A env x (K_11 w A env rest Q))) : V w κ (WAnd w A env (x :: rest) Q) := fun s S => n_cons (h s S)
theorem v_n_list {l : List Value} {Q : QV} (hl : Nat.ble l.length 100000 = true) (k : ∀ a, L < a → V w ⟨o₀, g, L, nm, vs, (.lst a l :: led)⟩ (Q (.ref a))) : V w ⟨o₀, g, L, nm, vs, led⟩ (WLst w A l Q) := fun s S => n_list S hl (fun s a h0 S => k a h0 s S)
theorem v_n_nil {Q : QB} (h : V w κ (Q true)) : V w κ (WAnd w A env [] Q) := fun s S => n_nil (h s S)
theorem v_n_tuple {l : List Value} {Q : QV} (hl : Nat.ble l.length 100000 = true) (k : ∀ a, L < a → V w ⟨o₀, g, L, nm, vs, (.tup a l :: led)⟩ (Q (.ref a))) : V w ⟨o₀, g, L, nm, vs, led⟩ (WTup w A l Q) := fun s S => n_tuple S hl (fun s a h0 S => k a h0 s S)
theorem v_o_cons {x rest} {Q : QB} (h : V w κ (WT w A env x (K_12 w A env Q rest))) : V w κ (WOr w A env (x :: rest) Q) := fun s S => o_cons (h s S)
theorem v_o_nil {Q : QB} (h : V w κ (Q false)) : V w κ (WOr w A env [] Q) := fun s S => o_nil (h s S)
theorem v_p_none {Q : QV} (h : V w κ (Q .none)) : V w κ (WP w A env none Q) := fun s S => p_none (h s S)
theorem v_p_some {e : Expr} {Q : QV} (h : V w κ (WE w A env e Q)) : V w κ (WP w A env (some e) Q) := fun s S => p_some (h s S)
theorem v_q_eq_int {Q : QV} (h : V w κ (Q (.bool (a == b)))) : V w κ (WCmp w A .Eq (.int a t) (.int b u) Q) := fun s S => q_eq_int (h s S)
theorem v_q_eq_none_none {Q : QV} (h : V w κ (Q (.bool true))) : V w κ (WCmp w A .Eq .none .none Q) := fun s S => q_eq_none_none (h s S)
theorem v_q_eq_str {x y : Str} {t u : Tok} {Q : QV} (h : V w κ (Q (.bool (x == y)))) : V w κ (WCmp w A .Eq (.str x t) (.str y u) Q) := fun s S => q_eq_str (h s S)
theorem v_q_eq_str_none {Q : QV} (h : V w κ (Q (.bool false))) : V w κ (WCmp w A .Eq (.str x t) .none Q) := fun s S => q_eq_str_none (h s S)
theorem v_q_eq_strs {D B : Addr} {l l2 : List Value} {xs ys : List Str} {n : Nat} {Q : QV} (hA : Ok A n) (hn : 4 ≤ n) (hl : Has w.params κ.g κ.led (.lst D l)) (hb : Has w.params κ.g κ.led (.lst B l2)) (hx : Strs l xs) (hy : Strs l2 ys) (hxo : xs.all PyData.strOk = true) (hyo : ys.all PyData.strOk = true) (h : V w κ (Q (.bool (decide (xs = ys))))) : V w κ (WCmp w A .Eq (.ref D) (.ref B) Q) := fun s S => q_eq_strs S hA hn hl hb hx hy hxo hyo (h s S)
theorem v_q_ge_int {Q : QV} (h : V w κ (Q (.bool (decide (b ≤ a))))) : V w κ (WCmp w A .GtE (.int a t) (.int b u) Q) := fun s S => q_ge_int (h s S)
theorem v_q_in_list {D : Addr} {l : List Value} {xs : List Str} {Q : QV} (hl : Has w.params κ.g κ.led (.lst D l)) (hs : Strs l xs) (h : V w κ (Q (.bool (xs.contains x)))) : V w κ (WCmp w A .In (.str x t) (.ref D) Q) := fun s S => q_in_list S hl hs (h s S)
theorem v_q_in_set {D : Addr} {o : Obj} {xs : List Str} {led' : Bool} {Q : QV} (hd : Has w.params g led (.raw D o)) (hs : SetS pg w led' xs o) (h : V w ⟨o₀, g, L, nm, vs, led⟩ (Q (.bool (xs.contains x)))) : V w ⟨o₀, g, L, nm, vs, led⟩ (WCmp w A .In (.str x t) (.ref D) Q) := fun s S => q_in_set S hd hs (fun s  S => h  s S)
theorem v_q_in_str {Q : QV} (h : V w κ (Q (.bool (Txt.contains x y)))) : V w κ (WCmp w A .In (.str y u) (.str x t) Q) := fun s S => q_in_str (h s S)
theorem v_q_in_tab {D : Addr} {kvs : List (Str × Int)} {Q : QV} (hd : Has w.params κ.g κ.led (.tab D kvs)) (h : V w κ (Q (.bool (kvs.lookup x).isSome))) : V w κ (WCmp w A .In (.str x t) (.ref D) Q) := fun s S => q_in_tab S hd (fun s  S => h  s S)
theorem v_q_is_none {v : Value} {Q : QV} (h : V w κ (Q (.bool (v == .none)))) : V w κ (WCmp w A .Is v .none Q) := fun s S => q_is_none (h s S)
theorem v_q_is_type {T U : String} {Q : QV} (h : V w κ (Q (.bool (T == U)))) : V w κ (WCmp w A .Is (.type T) (.type U) Q) := fun s S => q_is_type (h s S)
theorem v_q_isn_cls {a b : Addr} {Q : QV} (hab : Nat.beq a b = false) (ha : clsVal (KK w.params) a = true) (hb : clsVal (KK w.params) b = true) (h : V w κ (Q (.bool true))) : V w κ (WCmp w A .IsNot (.ref a) (.ref b) Q) := fun s S => q_isn_cls S hab ha hb (h s S)
theorem v_q_isn_none {v : Value} {Q : QV} (h : V w κ (Q (.bool (!(v == .none))))) : V w κ (WCmp w A .IsNot v .none Q) := fun s S => q_isn_none (h s S)
theorem v_q_isn_self {a : Addr} {Q : QV} (h : V w κ (Q (.bool false))) : V w κ (WCmp w A .IsNot (.ref a) (.ref a) Q) := fun s S => q_isn_self (h s S)
theorem v_q_isn_type {T U : String} {Q : QV} (h : V w κ (Q (.bool (!(T == U))))) : V w κ (WCmp w A .IsNot (.type T) (.type U) Q) := fun s S => q_isn_type (h s S)
theorem v_q_lt_int {Q : QV} (h : V w κ (Q (.bool (decide (a < b))))) : V w κ (WCmp w A .Lt (.int a t) (.int b u) Q) := fun s S => q_lt_int (h s S)
theorem v_q_ne_nil {D B : Addr} {l : List Value} {n : Nat} {Q : QV} (hA : Ok A n) (hl : Has w.params κ.g κ.led (.lst D l)) (hb : Has w.params κ.g κ.led (.lst B [])) (h : V w κ (Q (.bool (!l.isEmpty)))) : V w κ (WCmp w A .NotEq (.ref D) (.ref B) Q) := fun s S => q_ne_nil S hA hl hb (h s S)
theorem v_q_ne_none_none {Q : QV} (h : V w κ (Q (.bool false))) : V w κ (WCmp w A .NotEq .none .none Q) := fun s S => q_ne_none_none (h s S)
theorem v_q_ne_str {x y : Str} {t u : Tok} {Q : QV} (h : V w κ (Q (.bool (x != y)))) : V w κ (WCmp w A .NotEq (.str x t) (.str y u) Q) := fun s S => q_ne_str (h s S)
theorem v_q_ne_strs {D B : Addr} {l l2 : List Value} {xs ys : List Str} {n : Nat} {Q : QV} (hA : Ok A n) (hn : 4 ≤ n) (hl : Has w.params κ.g κ.led (.lst D l)) (hb : Has w.params κ.g κ.led (.lst B l2)) (hx : Strs l xs) (hy : Strs l2 ys) (hxo : xs.all PyData.strOk = true) (hyo : ys.all PyData.strOk = true) (h : V w κ (Q (.bool (!decide (xs = ys))))) : V w κ (WCmp w A .NotEq (.ref D) (.ref B) Q) := fun s S => q_ne_strs S hA hn hl hb hx hy hxo hyo (h s S)
theorem v_q_nin_tab {D : Addr} {kvs : List (Str × Int)} {Q : QV} (hd : Has w.params κ.g κ.led (.tab D kvs)) (h : V w κ (Q (.bool (!(kvs.lookup x).isSome)))) : V w κ (WCmp w A .NotIn (.str x t) (.ref D) Q) := fun s S => q_nin_tab S hd (fun s  S => h  s S)
theorem v_r_and2 {x y pos} {Q : QV} (h : V w κ (WE w A env x (K_14 w A env y Q))) : V w κ (WE w A env (.BoolOp .And [x, y] pos) Q) := fun s S => r_and2 (h s S)
theorem v_r_attr {x p attr pos} {Q : QV} (h : V w κ (WE w A env (.Name x p) (K_15 w A attr Q))) : V w κ (WE w A env (.Attribute (.Name x p) attr pos) Q) := fun s S => r_attr (h s S)
theorem v_r_bin {l op r pos} {Q : QV} (h : V w κ (WE w A env l (K_17 w A env r op Q))) : V w κ (WE w A env (.BinOp l op r pos) Q) := fun s S => r_bin (h s S)
theorem v_r_bool {b k pos} {Q : QV} (h : V w κ (Q (.bool b))) : V w κ (WE w A env (.Constant (.bool b) k pos) Q) := fun s S => r_bool (h s S)
theorem v_r_builtin {x pos v} {Q : QV} (e : En env κ.L κ.nm gl) (hx : x ∈ gl) (h : nsIn (KK w.params) mainGlobals x = some none) (hv : bootBuiltins x = some v) (k : V w κ (Q v)) : V w κ (WE w A env (.Name x pos) Q) := fun s S => r_builtin S e hx h hv (k s S)
theorem v_r_call {x p args pos} {Q : QV} (h : V w κ (WE w A env (.Name x p) (K_18 w A env pos args Q))) : V w κ (WE w A env (.Call (.Name x p) args [] pos) Q) := fun s S => r_call (h s S)
theorem v_r_cell {x : Str} {c : Addr} {pos v} {Q : QV} (e : En env κ.L κ.nm gl) (ec : EnC env cl) (hx : (x, c) ∈ cl) (hc : Has w.params κ.g κ.led (celC c (some v))) (k : V w κ (Q v)) : V w κ (WE w A env (.Name x pos) Q) := fun s S => r_cell S e ec hx hc (k s S)
theorem v_r_cmp {l op r pos} {Q : QV} (hm : noSet r = true) (h : V w κ (WE w A env l (K_20 w A env r op Q))) : V w κ (WE w A env (.Compare l [op] [r] pos) Q) := fun s S => r_cmp hm (h s S)
theorem v_r_dict1 {x : Str} {n : Int} {k1 k2 pos : Pos} {t1 t2 : Nat} {Q : QV} (h : ∀ d, V w ⟨o₀, g, L, nm, vs, (.tab d [(x, n)] :: led)⟩ (Q (.ref d))) : V w ⟨o₀, g, L, nm, vs, led⟩ (WE w A env (.Dict [some (.Constant (.str x) t1 k1)] [.Constant (.int n) t2 k2] pos) Q) := fun s S => r_dict1 S (fun s d S => h d s S)
theorem v_r_get {x C d : Addr} {an : List Str} {av : List (Option Value)} {name : Str} {v : Value} {Q : QV} (hx : Has w.params κ.g κ.led (.ins x C d)) (hd : Has w.params κ.g κ.led (.dic d an av)) (hl : Lk an av name v) (ho : attrOk (KK w.params) C name = true) (hn : an.Nodup) (hv : handedIn v = true) (k : V w κ (Q v)) : V w κ (WGet w A (.ref x) name Q) := fun s S => r_get S hx hd hl ho hn hv (fun s  S => k  s S)
theorem v_r_global {x pos v} {Q : QV} (e : En env κ.L κ.nm gl) (hx : x ∈ gl) (h : nsIn (KK w.params) mainGlobals x = some (some v)) (k : V w κ (Q v)) : V w κ (WE w A env (.Name x pos) Q) := fun s S => r_global S e hx h (k s S)
theorem v_r_ifexp {test body orelse pos} {Q : QV} (h : V w κ (WT w A env test (K_21 w A env body Q orelse))) : V w κ (WE w A env (.IfExp test body orelse pos) Q) := fun s S => r_ifexp (h s S)
theorem v_r_int {i k pos} {Q : QV} (k' : ∀ t, V w κ (Q (.int i t))) : V w κ (WE w A env (.Constant (.int i) k pos) Q) := fun s S => r_int S (fun s t S => k' t s S)
theorem v_r_list {elts pos} {Q : QV} (h : V w κ (WA w A env pos elts (K_22 w A Q))) : V w κ (WE w A env (.List elts pos) Q) := fun s S => r_list (h s S)
theorem v_r_local {x pos v} {Q : QV} (e : En env κ.L κ.nm gl) (h : Lk κ.nm κ.vs x v) (k : V w κ (Q v)) : V w κ (WE w A env (.Name x pos) Q) := fun s S => r_local S e h (k s S)
theorem v_r_meth {o name apos args pos} {Q : QV} (hc : callForm o args apos pos = true) (h : V w κ (WE w A env o (K_24 w A env name pos args Q))) : V w κ (WE w A env (.Call (.Attribute o name apos) args [] pos) Q) := fun s S => r_meth hc (h s S)
theorem v_r_meth2 {o name apos args pos} {Q : QV} (hc : callForm2 o args apos pos = true) (h : V w κ (WE w A env o (K_24 w A env name pos args Q))) : V w κ (WE w A env (.Call (.Attribute o name apos) args [] pos) Q) := fun s S => r_meth2 hc (h s S)
theorem v_r_mth {x C d f : Addr} {an : List Str} {av : List (Option Value)} {name : Str} {Q : QM} (hx : Has w.params κ.g κ.led (.ins x C d)) (hd : Has w.params κ.g κ.led (.dic d an av)) (ho : methOk (KK w.params) C name f = true) (hn : an.contains name = false) (k : V w κ (Q (.ref f) [.ref x])) : V w κ (WM w A (.ref x) name Q) := fun s S => r_mth S hx hd ho hn (k s S)
theorem v_r_negc {i k p pos} {Q : QV} (h : ∀ t, V w κ (Q (.int (-i) t))) : V w κ (WE w A env (.UnaryOp .USub (.Constant (.int i) k p) pos) Q) := fun s S => r_negc S (fun s t S => h t s S)
theorem v_r_none {k pos} {Q : QV} (h : V w κ (Q .none)) : V w κ (WE w A env (.Constant .none k pos) Q) := fun s S => r_none (h s S)
theorem v_r_or2 {x y pos} {Q : QV} (h : V w κ (WE w A env x (K_26 w A env Q y))) : V w κ (WE w A env (.BoolOp .Or [x, y] pos) Q) := fun s S => r_or2 (h s S)
theorem v_r_setA {x C d : Addr} {an : List Str} {av av' : List (Option Value)} {name : Str} {v : Value} {Q : QU} (hx : Has w.params g led (.ins x C d)) (hm : .dic d an av ∈ led) (hu : UpA an av name v av') (U : UpL (.dic d an av) (.dic d an av') led led') (ho : attrOk (KK w.params) C name = true) (hn : an.Nodup) (hz : Nat.ble an.length 1000 = true) (k : V w ⟨o₀, g, L, nm, vs, led'⟩ (Q ())) : V w ⟨o₀, g, L, nm, vs, led⟩ (WSet w A (.ref x) name v Q) := fun s S => r_setA S hx hm hu U ho hn hz (fun s  S => k  s S)
theorem v_r_slice {value : Expr} {lower upper : Option Expr} {p pos : Pos} {Q : QV} (h : V w κ (WE w A env value (K_29 w A env lower upper value p Q))) : V w κ (WE w A env (.Subscript value (.Slice lower upper none p) pos) Q) := fun s S => r_slice (h s S)
theorem v_r_store {x v} {Q : QU} (e : En env L nm gl) (h : Up nm vs x v vs') (k : V w ⟨o₀, g, L, nm, vs', led⟩ (Q ())) : V w ⟨o₀, g, L, nm, vs, led⟩ (WStore w A env x v Q) := fun s S => r_store S e h (fun s  S => k  s S)
theorem v_r_storeC {x : Str} {c : Addr} {v : Value} {v₀ : Option Value} {Q : QU} (e : En env L nm gl) (ec : EnC env cl) (hx : (x, c) ∈ cl) (U : UpL (celC c v₀) (celC c (some v)) led led') (k : V w ⟨o₀, g, L, nm, vs, led'⟩ (Q ())) : V w ⟨o₀, g, L, nm, vs, led⟩ (WStore w A env x v Q) := fun s S => r_storeC S e ec hx U (fun s  S => k  s S)
theorem v_r_str {x k pos} {Q : QV} (k' : ∀ t, V w κ (Q (.str x t))) : V w κ (WE w A env (.Constant (.str x) k pos) Q) := fun s S => r_str S (fun s t S => k' t s S)
theorem v_r_sub {value slice pos} {Q : QV} (_hs : noSl slice = true) (h : V w κ (WE w A env value (K_31 w A env slice value Q))) : V w κ (WE w A env (.Subscript value slice pos) Q) := fun s S => r_sub _hs (h s S)
theorem v_r_tuple {elts k pos} {Q : QV} (h : V w κ (WA w A env pos elts (K_32 w A Q))) : V w κ (WE w A env (.Tuple elts k pos) Q) := fun s S => r_tuple (h s S)
theorem v_s_item {value slice : Expr} {D : Addr} {l : List Value} {k : Int} {y : Value} {Q : QV} (hl : Has w.params κ.g κ.led (.lst D l)) (hs : noSl slice = true) (h0 : 0 ≤ k) (hk : k < 2 ^ 63) (hy : l[k.toNat]? = some y) (h : V w κ (Q y)) : V w κ (WSub w A value slice (.ref D) (.int k u) Q) := fun s S => s_item S hl hs h0 hk hy (h s S)
theorem v_s_last {value slice : Expr} {D : Addr} {l : List Value} {y : Value} {Q : QV} (hl : Has w.params κ.g κ.led (.lst D l)) (hs : noSl slice = true) (hy : l.getLast? = some y) (h : V w κ (Q y)) : V w κ (WSub w A value slice (.ref D) (.int (-1) u) Q) := fun s S => s_last S hl hs hy (h s S)
theorem v_s_str {value slice : Expr} {k : Int} {Q : QV} (hs : noSl slice = true) (h1 : 0 ≤ k) (h2 : k < x.length) (hx : x.length ≤ sizeLine) (h : ∀ t, V w κ (Q (.str (Txt.item x k) t))) : V w κ (WSub w A value slice (.str x t) (.int k u) Q) := fun s S => s_str S hs h1 h2 hx (fun s t S => h t s S)
theorem v_s_tab {value slice : Expr} {D : Addr} {kvs : List (Str × Int)} {n : Int} {Q : QV} (hd : Has w.params κ.g κ.led (.tab D kvs)) (hs : noSl slice = true) (hk : kvs.lookup x = some n) (h : ∀ t, V w κ (Q (.int n t))) : V w κ (WSub w A value slice (.ref D) (.str x t) Q) := fun s S => s_tab S hd hs hk (fun s t S => h t s S)
theorem v_s_tup {value slice : Expr} {D : Addr} {l : List Value} {k : Int} {y : Value} {Q : QV} (hl : Has w.params κ.g κ.led (.tup D l)) (hs : noSl slice = true) (h0 : 0 ≤ k) (hk : k < 2 ^ 63) (hy : l[k.toNat]? = some y) (h : V w κ (Q y)) : V w κ (WSub w A value slice (.ref D) (.int k u) Q) := fun s S => s_tup S hl hs h0 hk hy (h s S)
theorem v_sl_list {value : Expr} {lower upper : Option Expr} {p : Pos} {D : Addr} {l : List Value} {vl vu : Value} {lo hi : Option Int} {Q : QV} (hl : Has w.params g led (.lst D l)) (pl : IsPart vl lo) (pu : IsPart vu hi) (ht : ∀ r, letTemporaryGo value (.ref D) r = pure ()) (hz : l.length ≤ 1000000) (k : ∀ a, L < a → V w ⟨o₀, g, L, nm, vs, (.lst a (slicePick l.toArray lo hi none).toList :: led)⟩ (Q (.ref a))) : V w ⟨o₀, g, L, nm, vs, led⟩ (WSl w A value lower upper p (.ref D) vl vu Q) := fun s S => sl_list S hl pl pu ht hz (fun s a h0 S => k a h0 s S)
theorem v_sl_ns {value : Expr} {lower upper : Option Expr} {p : Pos} {x : Str} {t ti : Tok} {i : Int} {Q : QV} (hx : x.length ≤ sizeLine) (k : ∀ t, V w κ (Q (.str (Txt.slice x none (some i)) t))) : V w κ (WSl w A value lower upper p (.str x t) .none (.int i ti) Q) := fun s S => sl_ns S hx (fun s t S => k t s S)
theorem v_sl_sn {value : Expr} {lower upper : Option Expr} {p : Pos} {x : Str} {t ti : Tok} {i : Int} {Q : QV} (hx : x.length ≤ sizeLine) (k : ∀ t, V w κ (Q (.str (Txt.slice x (some i) none) t))) : V w κ (WSl w A value lower upper p (.str x t) (.int i ti) .none Q) := fun s S => sl_sn S hx (fun s t S => k t s S)
theorem v_sl_ss {value : Expr} {lower upper : Option Expr} {p : Pos} {x : Str} {t ti tj : Tok} {i j : Int} {Q : QV} (hx : x.length ≤ sizeLine) (k : ∀ t, V w κ (Q (.str (Txt.slice x (some i) (some j)) t))) : V w κ (WSl w A value lower upper p (.str x t) (.int i ti) (.int j tj) Q) := fun s S => sl_ss S hx (fun s t S => k t s S)
theorem v_t_brk {rest} {Q : QF} (h : V w κ (Q .brk)) : V w κ (Thn w A env rest Q .brk) := fun s S => t_brk (h s S)
theorem v_t_cont {rest} {Q : QF} (h : V w κ (Q .cont)) : V w κ (Thn w A env rest Q .cont) := fun s S => t_cont (h s S)
theorem v_t_deque {a : Addr} {Q : QB} (hd : Has w.params κ.g κ.led (.raw a dqO)) (h : V w κ (Q false)) : V w κ (WTru w A (.ref a) Q) := fun s S => t_deque S hd (fun s  S => h  s S)
theorem v_t_list {D : Addr} {l : List Value} {Q : QB} (hl : Has w.params κ.g κ.led (.lst D l)) (hz : l.length ≤ 1000000) (h : V w κ (Q (!l.isEmpty))) : V w κ (WTru w A (.ref D) Q) := fun s S => t_list S hl hz (fun s  S => h  s S)
theorem v_t_next {rest} {Q : QF} (h : V w κ (WX w A env rest Q)) : V w κ (Thn w A env rest Q .next) := fun s S => t_next (h s S)
theorem v_t_ret {rest v} {Q : QF} (h : V w κ (Q (.ret v))) : V w κ (Thn w A env rest Q (.ret v)) := fun s S => t_ret (h s S)
theorem v_t_str {Q : QB} (hx : x.length ≤ sizeLine) (h : V w κ (Q ((x.length : Int) != 0))) : V w κ (WTru w A (.str x t) Q) := fun s S => t_str S hx (fun s  S => h  s S)
theorem v_t_tab0 {D : Addr} {Q : QB} (hd : Has w.params κ.g κ.led (.tab D [])) (h : V w κ (Q false)) : V w κ (WTru w A (.ref D) Q) := fun s S => t_tab0 S hd (fun s  S => h  s S)
theorem v_u_list {es k p a l n} {Q : QU} (hA : Ok A n) (ht : Has w.params κ.g κ.led (.lst a l)) (hu : unpOk es l.length = true) (h : V w κ (WAO w A env es l Q)) : V w κ (WAs w A env (.Tuple es k p) (.ref a) Q) := fun s S => u_list S hA ht hu (fun s  S => h  s S)
theorem v_u_tup {es k p a l n} {Q : QU} (hA : Ok A n) (ht : Has w.params κ.g κ.led (.tup a l)) (hu : unpOk es l.length = true) (h : V w κ (WAO w A env es l Q)) : V w κ (WAs w A env (.Tuple es k p) (.ref a) Q) := fun s S => u_tup S hA ht hu (fun s  S => h  s S)
theorem v_wm_objNew {Q : QM} (h : V w κ (Q (.builtin "object.__new__") [])) : V w κ (WM w A (.type "object") "__new__" Q) := fun s S => wm_objNew S (fun s  S => h  s S)
theorem v_x_assign {x p e pos rest} {Q : QF} (hs : noComp e = true) (h : V w κ (WE w A env e (K_34 w A env x rest Q))) : V w κ (WX w A env (.Assign [.Name x p] e pos :: rest) Q) := fun s S => x_assign hs (h s S)
theorem v_x_aug {x p op e pos rest old} {Q : QF} (en : En env κ.L κ.nm gl) (hl : Lk κ.nm κ.vs x old) (h : V w κ (WE w A env e (K_36 w A env op old x rest Q))) : V w κ (WX w A env (.AugAssign (.Name x p) op e pos :: rest) Q) := fun s S => x_aug S en hl (h s S)
theorem v_x_augattr {o attr p op e pos rest} {Q : QF} (h : V w κ (WE w A env o (K_40 w A env attr e op rest Q))) : V w κ (WX w A env (.AugAssign (.Attribute o attr p) op e pos :: rest) Q) := fun s S => x_augattr (h s S)
theorem v_x_break {pos rest} {Q : QF} (h : V w κ (Q .brk)) : V w κ (WX w A env (.Break pos :: rest) Q) := fun s S => x_break (h s S)
theorem v_x_cont {pos rest} {Q : QF} (h : V w κ (Q .cont)) : V w κ (WX w A env (.Continue pos :: rest) Q) := fun s S => x_cont (h s S)
theorem v_x_expr {e pos rest} {Q : QF} (en : En env κ.L κ.nm gl) (hs : noComp e = true) (h : V w κ (WE w A env e (K_41 w A env rest Q))) : V w κ (WX w A env (.Expr e pos :: rest) Q) := fun s S => x_expr en hs (h s S)
theorem v_x_if {test body orelse pos rest} {Q : QF} (h : V w κ (WT w A env test (K_42 w A env body rest Q orelse))) : V w κ (WX w A env (.If test body orelse pos :: rest) Q) := fun s S => x_if (h s S)
theorem v_x_nil {Q : QF} (h : V w κ (Q .next)) : V w κ (WX w A env [] Q) := fun s S => x_nil (h s S)
theorem v_x_return {e pos rest} {Q : QF} (h : V w κ (WE w A env e (K_43 Q))) : V w κ (WX w A env (.Return (some e) pos :: rest) Q) := fun s S => x_return (h s S)
theorem v_x_setattr {o attr p e pos rest} {Q : QF} (hs : noComp e = true) (h : V w κ (WE w A env e (K_45 w A env o attr rest Q))) : V w κ (WX w A env (.Assign [.Attribute o attr p] e pos :: rest) Q) := fun s S => x_setattr hs (h s S)
theorem v_x_setitem {o i p e pos rest} {Q : QF} (hs : noComp e = true) (h : V w κ (WE w A env e (K_48 w A env o i rest Q))) : V w κ (WX w A env (.Assign [.Subscript o i p] e pos :: rest) Q) := fun s S => x_setitem hs (h s S)
theorem v_x_tuple {elts k p e pos rest} {Q : QF} (hs : noTup e = true) (h : V w κ (WE w A env e (K_49 w A env elts k p rest Q))) : V w κ (WX w A env (.Assign [.Tuple elts k p] e pos :: rest) Q) := fun s S => x_tuple hs (h s S)
theorem v_l_eq {x y : Str} {t : Tok} {k pos} {Q : QB} (h : V w c (Q (x == y))) : V w c (WE w A env (.Constant (.str y) k pos) (K_4 w A .Eq (.str x t) Q)) := fun s S => r_str S (fun s t S => q_eq_str (b_truthy (h s S)))
theorem v_l_ne {x y : Str} {t : Tok} {k pos} {Q : QB} (h : V w c (Q (x != y))) : V w c (WE w A env (.Constant (.str y) k pos) (K_4 w A .NotEq (.str x t) Q)) := fun s S => r_str S (fun s t S => q_ne_str (b_truthy (h s S)))
theorem v_l_ge {a b : Int} {t : Tok} {k pos} {Q : QB} (h : V w c (Q (decide (b ≤ a)))) : V w c (WE w A env (.Constant (.int b) k pos) (K_4 w A .GtE (.int a t) Q)) := fun s S => r_int S (fun s t S => q_ge_int (b_truthy (h s S)))
theorem v_l_gt {a b : Int} {t : Tok} {k pos} {Q : QB} (h : V w c (Q (decide (b < a)))) : V w c (WE w A env (.Constant (.int b) k pos) (K_4 w A .Gt (.int a t) Q)) := fun s S => r_int S (fun s t S => q_gt_int (b_truthy (h s S)))
theorem v_l_lt {a b : Int} {t : Tok} {k pos} {Q : QB} (h : V w c (Q (decide (a < b)))) : V w c (WE w A env (.Constant (.int b) k pos) (K_4 w A .Lt (.int a t) Q)) := fun s S => r_int S (fun s t S => q_lt_int (b_truthy (h s S)))
theorem v_l_eqi {a b : Int} {t : Tok} {k pos} {Q : QB} (h : V w c (Q (a == b))) : V w c (WE w A env (.Constant (.int b) k pos) (K_4 w A .Eq (.int a t) Q)) := fun s S => r_int S (fun s t S => q_eq_int (b_truthy (h s S)))
theorem v_r_attrG {x p attr pos} {C a d : Addr} {an : List Str} {av : List (Option Value)} {v : Value} {Q : QV} (e : En env κ.L κ.nm gl) (hl : Lk κ.nm κ.vs x (.ref a)) (hx : Has w.params κ.g κ.led (.ins a C d)) (hd : Has w.params κ.g κ.led (.dic d an av)) (hv : Lk an av attr v) (ho : attrOk (KK w.params) C attr = true) (hn : an.Nodup) (hh : handedIn v = true) (k : V w κ (Q v)) :
    V w κ (WE w A env (.Attribute (.Name x p) attr pos) Q) := fun s S => r_attr (r_local S e hl (r_get S hx hd hv ho hn hh (fun s S => k s S)))
theorem v_k_join {D : Addr} {l : List Value} {xs : List Str} {Q : QV} (hl : Has w.params κ.g κ.led (.lst D l)) (hx : Strs l xs) (hok : JoinOk x xs = true) (h : ∀ t, V w κ (Q (.str (Txt.join x xs) t))) : V w κ (WC w A (.builtin "str.join") [.str x t, .ref D] [] Q) := fun s S => k_join S hl hx hok (fun s t S => h t s S)
end
end Mine
namespace Mine.Ln
section
open Lean
/- a walk's lines out of a text: alternatives between bars, steps between semicolons, words between blanks -/
def nd (k : Name) (a : Array Syntax) : Syntax := .node .none k a
def nl (a : Array Syntax) : Syntax := nd `null a
def tn (k : String) (a : Array Syntax) : Syntax := nd (.str `Lean.Parser.Tactic k) a
def mn (k : String) (a : Array Syntax) : Syntax := nd (.str `Lean.Parser.Term k) a
def aw (s : String) : Syntax := .atom .none s
def mi (s : String) : Syntax := mkIdent s.toName
def ho : Syntax := mn "hole" #[aw "_"]
def sq (l : List Syntax) : Syntax := tn "tacticSeq" #[tn "tacticSeq1Indented" #[nl (mkSepArray l.toArray (aw ";"))]]
def wd (h : String) (x : Syntax) (l : List String) : Syntax :=
  if h = "w" then tn "withReducible" #[aw "with_reducible", sq [x]]
  else if h = "intro" then tn h #[aw h, nl (l.map mi).toArray]
  else if h = "fail" then tn h #[aw h, nl #[Syntax.mkStrLit (l.headD "")]]
  else if h = "show" then tn h #[aw h, mn "app" #[mi "V", nl #[ho, ho, mn "app" #[x, nl (Array.replicate (l.getD 1 "").length ho)]]]]
  else if h = "lia" ∨ h = "decide" then tn h #[aw h, tn "optConfig" #[nl #[]]]
  else if h = "k_is" then nd `PySem.W.tacticK_is #[aw h]
  else if h = "kernel_rfl!" then nd `PyProof.Rows.tacticKernel_rfl! #[aw h]
  else if l = [] then tn h #[aw h]
  else tn h #[aw h, x]
def w1 (l : List String) : Syntax := wd (l.headD "") (mi (l.getD 1 "")) l.tail
def st (s : String) : Syntax :=
  let l := s.splitOn " "
  if l.headD "" = "w" then wd "w" (w1 l.tail) [] else w1 l
def alt (s : String) : Syntax := nd `group #[aw "|", sq ((s.splitOn ";").map st)]
def fst (l : List String) : Syntax := tn "first" #[aw "first", nl (l.map alt).toArray]
def alts (l : List String) : Syntax := if l.headD "" = "w" then wd "w" (fst l.tail) [] else fst l
def tab : List String := [
  "lk|w|exact lk0|exact lk1|exact lk2|exact lk3|exact lk4|exact lk5|exact lk6|exact lk7|exact lk8|exact lk9|exact lk10|exact lk11|exact lk12|exact lk13|exact lk14|exact lk15|exact lk16|exact lk17|exact lk18|apply Lk.head|apply Lk.tail;fail lk",
  "up|w|exact up0|exact up1|exact up2|exact up3|exact up4|exact up5|exact up6|exact up7|exact up8|exact up9|exact up10|exact up11|exact up12|exact up13|exact up14|apply Up.head|apply Up.tail;fail up",
  "uaE|w|exact ua0|exact ua1|exact ua2|exact ua3|exact ua4|exact ua5|exact ua6|exact ua7|exact ua8|exact ua9|exact ua10|exact ua11|exact ua12|exact ua13|exact ua14|exact ua15|apply UpA.head",
  "ua|fail uaE|w apply UpA.new;exact rfl|w apply UpA.tail;fail ua",
  "ul|w|exact UpL.head|exact ul0|exact ul1|exact ul2|exact ul3|exact ul4|exact ul5|exact ul6|exact ul7|exact ul8|exact ul9|exact ul10|exact ul11|apply UpL.tail;fail ul",
  "memR|w|assumption|exact mm0|exact mm1|exact mm2|exact mm3|exact mm4|exact mm5|exact mm6|exact mm7|exact mm8|exact mm9|exact mm10|exact mm11|exact mm12|exact mm13|exact mm14|exact mm15|exact mm16|exact mm17|exact mm18|apply List.mem_cons_self|apply List.mem_cons_of_mem;fail mem",
  "mem|fail memR|assumption",
  "pk1|w|exact pk0|exact pk1|exact pk2|exact pk3|exact pk4|exact pk5|exact pk6|exact pk7|apply Pick.head|apply Pick.tail;fail pk1",
  "pk|w apply Picks.nil|w apply Picks.cons;fail pk1;fail pk",
  "app|w apply App.nil|w apply App.cons;fail app",
  "has|w apply Has.led;fail mem|w apply Has.frz;assumption|w assumption",
  "boot|w|exact bt_len|exact bt_str|exact bt_int|exact bt_type|exact bt_isinstance|exact bt_list|exact bt_range|exact bt_abs|exact bt_chr|exact bt_sum|exact bt_all|exact bt_set|exact bt_object",
  "idx|decide;decide;exact rfl",
  "al|w assumption|lia",
  "len|w assumption|apply Nat.le_of_ble_eq_true;kernel_rfl!",
  "ao|w|apply ao_lex;fail mem|apply ao_io;fail mem|apply ao_ig;fail mem",
  "nd|w|exact nd_lex|exact nd_io|exact nd_ig",
  "mo|w|exact mo_read|exact mo_check|exact mo_trans|exact mo_getTok|exact mo_readTok|exact mo_leader|exact mo_names",
  "kp|apply kp_all;exact rfl",
  "strs|assumption|w exact Strs.nil|w apply Strs.cons;fail strs",
  "sb|w|apply List.Sublist.refl|apply List.Sublist.cons_cons;fail sb|apply List.Sublist.cons;fail sb",
  "alls|w|exact AllIn.nil|apply AllIn.cons;fail mem;fail alls",
  "ve1|apply v_r_local;exact e;fail lk|apply v_r_attrG;exact e;fail lk;fail has;fail has;fail lk;fail ao;fail nd;exact rfl|apply v_r_attr|apply v_l_eq|apply v_l_ne|apply v_l_ge|apply v_l_gt|apply v_l_lt|apply v_l_eqi|apply v_r_str;intro t|apply v_r_int;intro t|apply v_r_meth;exact rfl|apply v_r_meth2;exact rfl|apply v_r_call|apply v_r_none|apply v_r_negc;intro t|apply v_r_bool|apply v_r_bin|apply v_r_cmp;exact rfl|apply v_r_sub;exact rfl|apply v_r_slice|apply v_r_ifexp|apply v_r_list|apply v_r_tuple|apply v_r_or2|apply v_r_and2|apply v_r_cell;exact e;exact ec;fail mem;fail has|apply v_r_global;exact e;fail mem;k_is|apply v_r_builtin;exact e;fail mem;k_is;fail boot",
  "vx1|apply v_x_assign;exact rfl|apply v_x_if|apply v_x_return|apply v_x_expr;exact e;exact rfl|apply v_x_setattr;exact rfl|apply v_x_augattr|apply v_x_aug;exact e;fail lk|apply v_x_setitem;exact rfl|apply v_x_tuple;exact rfl|apply v_x_nil|apply v_x_break|apply v_x_cont",
  "vt1|apply v_c_isTrue;exact rfl|apply v_c_val;exact rfl|apply v_c_not|apply v_c_and|apply v_c_or|apply v_n_cons|apply v_n_nil|apply v_o_cons|apply v_o_nil",
  "vq1|apply v_q_eq_str|apply v_q_ne_str|apply v_q_is_none|apply v_q_isn_none|apply v_q_in_str|apply v_q_ge_int|apply v_q_lt_int|apply v_q_eq_int|apply v_q_is_type|apply v_q_isn_type|apply v_q_eq_str_none|apply v_q_eq_none_none|apply v_q_ne_none_none|apply v_q_in_tupd;fail strs|apply v_q_in_list;fail has;fail strs|fail vq2|apply vout;intro s S;fail q2;fail vback",
  "vbr1|w apply v_ite_t|w apply v_ite_f|w apply v_ite_not|apply v_ite_eqt;w assumption|apply v_ite_eqf;w assumption|w apply v_ite_no;fail al|w apply v_ite_yes;fail al|apply v_ite_eqt;kernel_rfl!|apply v_ite_eqf;kernel_rfl!|apply vout;intro s S;fail br2;fail vback",
  "vtr1|apply v_b_truthy|apply v_t_str;fail len|apply v_t_list;fail has;fail len|apply v_t_tab0;fail has|fail vtr2|apply vout;intro s S;fail tr2;fail vback",
  "vc1|apply v_k_type_int|apply v_k_type_str|apply v_k_int_int|apply v_k_isi_str|apply v_k_len_str;fail len;intro t|apply v_k_startswith|apply v_k_append;fail ul;fail len|apply v_k_len_list;fail has;fail len;intro t|apply v_k_len_tup;fail has;exact rfl;intro t|fail vc2|apply vout;intro s S;fail c2;fail vback",
  "vg1|apply v_r_get;fail has;fail has;fail lk;fail ao;fail nd;exact rfl|fail vg2|apply vout;intro s S;fail g2;fail vback",
  "vwm1|apply v_r_mth;fail has;fail has;fail mo;exact rfl|apply v_m_startswith|apply v_m_join|apply v_m_split|apply v_m_count|apply v_m_list;fail has;exact PySem.F.slot_list_append;exact PySem.F.type_list_append|apply v_m_list;fail has;exact PySem.F.slot_list_pop;exact PySem.F.type_list_pop|apply v_m_list;fail has;exact PySem.F.slot_list_extend;exact PySem.F.type_list_extend|apply vout;intro s S;fail wm2;fail vback",
  "vs1|w show WE _____;fail ve1|w show BrS ___;fail vbr1|w show WX _____;fail vx1|w show WGet _____;fail vg1|w show WCmp ______;fail vq1|w show WTru ____;fail vtr1|apply v_r_store;exact e;fail up|apply v_r_storeC;exact e;exact ec;fail mem;fail ul|w show WC ______;fail vc1|fail vt1|apply v_r_setA;fail has;fail mem;fail ua;fail ul;fail ao;fail nd;exact rfl|apply v_t_ret|apply v_t_next|apply v_t_brk|apply v_t_cont|apply v_fe_next|apply v_fe_cont|apply v_fe_brk|apply v_fe_ret|apply v_a_cons;exact rfl|apply v_a_nil|w show WM _____;fail vwm1|apply v_cw_K;fail kp;exact rfl|apply v_cw_val;exact rfl;exact rfl|apply v_ck|apply v_i_add_int;intro t|apply v_b_add_int;intro t|apply v_i_add_str;fail len;intro t|apply v_b_add_str;fail len;intro t|apply v_n_tuple;exact rfl;intro a ha|apply v_n_list;exact rfl;intro a ha|apply v_as_name|apply v_u_tup;exact hA;fail has;exact rfl|apply v_u_list;exact hA;fail has;exact rfl|apply v_ao_cons|apply v_ao_nil|apply v_p_some|apply v_p_none|apply v_sl_ns;fail len;intro t|apply v_sl_sn;fail len;intro t|apply v_sl_ss;fail len;intro t|apply v_s_item;fail has;exact rfl;fail idx|apply v_s_tup;fail has;exact rfl;fail idx|apply v_imp;exact hnext|apply v_imp;apply hretF|apply v_imp;exact hendF|apply v_imp;exact hcont|apply v_imp;exact hbrk|apply v_imp;apply hret|apply v_imp;apply hval|apply v_imp;exact hskip|fail vs2|apply vout;intro s S;fail s2;fail vback",
  "run|fail vin;fail gox"]
def mac (k : String) : MacroM Syntax :=
  match tab.find? (·.startsWith (k ++ "|")) with
  | some t => pure (alts (t.splitOn "|").tail)
  | none => Macro.throwUnsupported
end
end Mine.Ln
namespace Mine
noncomputable def dOf (n0 : Int) (ns : List Int) : Drawn := ns.foldl drawStep (draw0 n0)
noncomputable abbrev kv0 : Tab := [(Str.ofString "<string>", 1)]
/- a sum over a row's uses, over all rows' uses, over the first numbers -/
noncomputable def itemG (g : Nat → Nat) (it : Item) : Nat := if it.k == Str.ofString "use" then g (useN it) else 0
noncomputable def rowG (g : Nat → Nat) (r : List Item) : Nat := (r.map (itemG g)).sum
noncomputable def allG (g : Nat → Nat) (rs : List (List Item)) : Nat := (rs.map (rowG g)).sum
noncomputable def sumTo (g : Nat → Nat) (n : Nat) : Nat := ((List.range n).map g).sum
theorem sumTo_succ {g : Nat → Nat} {n : Nat} : sumTo g (n + 1) = sumTo g n + g n := by
  unfold sumTo
  rw [List.range_succ, List.map_append, List.sum_append]; simp
theorem sumTo_mono {g k : Nat → Nat} (h : ∀ n, g n ≤ k n) : ∀ n, sumTo g n ≤ sumTo k n
  | 0 => Nat.le_refl _
  | n + 1 => by rw [sumTo_succ, sumTo_succ]; exact Nat.add_le_add (sumTo_mono h n) (h n)
theorem rowG_snoc {g : Nat → Nat} {r : List Item} {it : Item} : rowG g (r ++ [it]) = rowG g r + itemG g it := by
  unfold rowG
  rw [List.map_append, List.sum_append]; simp
theorem rowG_mono {g k : Nat → Nat} (h : ∀ n, g n ≤ k n) : ∀ r, rowG g r ≤ rowG k r
  | [] => Nat.le_refl _
  | it :: r => by
    have h1 := rowG_mono h r
    have h2 : itemG g it ≤ itemG k it := by
      unfold itemG
      split
      · exact h _
      · exact Nat.le_refl _
    unfold rowG at h1 ⊢
    simp only [List.map_cons, List.sum_cons]; lia
theorem allG_add {g : Nat → Nat} {it : Item} : ∀ {rs : List (List Item)} {i : Nat}, i < rs.length → allG g (addTo rs i it) = allG g rs + itemG g it
  | [], i, h => by simp at h
  | r :: rs, 0, h => by
    show allG g ((r ++ [it]) :: rs) = _
    unfold allG
    rw [List.map_cons, List.map_cons, List.sum_cons, List.sum_cons, rowG_snoc]; lia
  | r :: rs, i + 1, h => by
    have h1 := allG_add (g := g) (it := it) (rs := rs) (i := i) (by simpa using h)
    show allG g (r :: addTo rs i it) = _
    unfold allG at h1 ⊢
    rw [List.map_cons, List.map_cons, List.sum_cons, List.sum_cons, h1]; lia
theorem allG_snoc {g : Nat → Nat} {rs : List (List Item)} : allG g (rs ++ [[]]) = allG g rs := by
  unfold allG
  rw [List.map_append, List.sum_append]; simp [rowG]
theorem sum_idx {φ : List Item → Nat} {rs : List (List Item)} : sumTo (fun n => φ (rs.getD n [])) rs.length = (rs.map φ).sum := by
  unfold sumTo
  congr 1
  apply List.ext_getElem
  · simp
  · intro i h1 h2
    simp only [List.getElem_map, List.getElem_range]
    rw [List.getD_eq_getElem?_getD, List.getElem?_eq_getElem (by simpa using h2)]; rfl
theorem use_ne_word : Str.ofString "word" ≠ Str.ofString "use" := by decide +kernel
/- what holds of all that is drawn -/
structure D2 (d : Drawn) : Prop where
  ho : ∀ h ∈ d.heads, HeadOk h
  io : ∀ r ∈ d.rows, ∀ it ∈ r, ItemOk d.rows.length it
  ord : ∀ n it, it ∈ d.rows.getD n [] → it.k = Str.ofString "use" → n < useN it
  sm : ∀ g, allG g d.rows + g 0 = sumTo g d.rows.length
theorem ItemOk.up {N M : Nat} {it : Item} (h : ItemOk N it) (k : N ≤ M) : ItemOk M it := by
  obtain ⟨h1, h2⟩ := h
  refine ⟨h1, ?_⟩
  rcases h2 with ⟨h2, n, h3, h4⟩ | h2
  · exact .inl ⟨h2, n, by lia, h4⟩
  · exact .inr h2
theorem useN_num {m : Nat} {b : Int} (h : m < 10 ^ 10) : useN ⟨Str.ofString "use", Str.ofString (toString (m : Int)), b⟩ = m := by
  unfold useN; rw [intText_num h]; rfl
theorem last_ok (k : Nat) : (((k % 2 : Nat) : Int) = 0 ∨ ((k % 2 : Nat) : Int) = 1) := by lia
theorem head_mem {i j : Nat} (hi : i < 10) : folderT i ++ [baseT j] ∈ headsT := by
  refine .tail _ (List.mem_flatMap.mpr ⟨i, List.mem_range.mpr hi, List.mem_map.mpr ⟨j % 6, List.mem_range.mpr (Nat.mod_lt _ (by decide)), ?_⟩⟩)
  unfold baseT
  rw [Nat.mod_mod]
theorem getD_addTo {rows : List (List Item)} {i n : Nat} {it x : Item} (h : x ∈ (addTo rows i it).getD n []) : x ∈ rows.getD n [] ∨ (n = i ∧ x = it) := by
  unfold addTo at h
  rw [List.getD_eq_getElem?_getD, List.getElem?_set] at h
  split at h
  · rename_i e
    subst e
    split at h
    · simp only [Option.getD_some, List.mem_append, List.mem_singleton] at h
      rcases h with h | h
      · exact .inl h
      · exact .inr ⟨rfl, h⟩
    · simp at h
  · exact .inl (by rw [List.getD_eq_getElem?_getD]; exact h)
theorem D2.zero (n : Int) : D2 (draw0 n) := by
  refine ⟨fun h hh => ?_, fun r hr it hi => ?_, fun m it hi => ?_, fun g => ?_⟩
  · simp only [draw0, List.mem_singleton] at hh; subst hh; exact .head _
  · simp only [draw0, List.mem_singleton] at hr; subst hr; cases hi
  · simp only [draw0] at hi
    cases m with
    | zero => cases hi
    | succ m => cases hi
  · simp [draw0, allG, rowG, sumTo]
theorem io_addTo {rows : List (List Item)} {i M : Nat} {it : Item} (hM : rows.length ≤ M) (h : ∀ r ∈ rows, ∀ it ∈ r, ItemOk rows.length it) (hi : ItemOk M it) : ∀ r ∈ addTo rows i it, ∀ x ∈ r, ItemOk M x := by
  intro r hr x hx
  rcases mem_addTo hr with hr | rfl
  · exact (h r hr x hx).up hM
  · rcases List.mem_append.mp hx with hx | hx
    · rcases getD_rows (rows := rows) (i := i) with q | q
      · exact (h _ q x hx).up hM
      · rw [q] at hx; cases hx
    · rw [List.mem_singleton] at hx; subst hx; exact hi
theorem D2.step {k : Nat} {d : Drawn} (h : D2 d) (o : DOk k d) (hk : k ≤ 1000) (n : Int) : D2 (drawStep d n) := by
  have hlast := o.last.1
  have hrl := o.rl
  unfold drawStep
  split
  · have hu : useN ⟨Str.ofString "use", Str.ofString (toString (d.rows.length : Int)), ((fig n 3 % 2 : Nat) : Int)⟩ = d.rows.length := useN_num (by lia)
    refine ⟨fun x hx => ?_, fun r hr x hx => ?_, fun m it hi he => ?_, fun g => ?_⟩
    · rcases List.mem_append.mp hx with hx | hx
      · exact h.ho x hx
      · rw [List.mem_singleton] at hx; subst hx
        exact head_mem (figI_eq n 1).2
    · have e : (addTo d.rows (d.around.getLastD 0) ⟨Str.ofString "use", Str.ofString (toString (d.rows.length : Int)), ((fig n 3 % 2 : Nat) : Int)⟩ ++ [[]]).length = d.rows.length + 1 := by simp [addTo_len]
      show ItemOk (addTo d.rows (d.around.getLastD 0) ⟨Str.ofString "use", Str.ofString (toString (d.rows.length : Int)), ((fig n 3 % 2 : Nat) : Int)⟩ ++ [[]]).length x
      rw [e]
      rcases List.mem_append.mp hr with hr | hr
      · exact io_addTo (Nat.le_succ _) h.io ⟨last_ok _, .inl ⟨rfl, d.rows.length, Nat.lt_succ_self _, rfl⟩⟩ r hr x hx
      · rw [List.mem_singleton] at hr; subst hr; cases hx
    · have hi : it ∈ (addTo d.rows (d.around.getLastD 0) ⟨Str.ofString "use", Str.ofString (toString (d.rows.length : Int)), ((fig n 3 % 2 : Nat) : Int)⟩ ++ [[]]).getD m [] := hi
      rw [List.getD_eq_getElem?_getD, List.getElem?_append] at hi
      split at hi
      · rw [← List.getD_eq_getElem?_getD] at hi
        rcases getD_addTo hi with hi | ⟨rfl, rfl⟩
        · exact h.ord m it hi he
        · rw [hu]; exact hlast
      · have : ∀ j : Nat, ([[]] : List (List Item))[j]?.getD [] = [] := fun j => by cases j <;> rfl
        rw [this] at hi
        cases hi
    · show allG g (addTo d.rows (d.around.getLastD 0) ⟨Str.ofString "use", Str.ofString (toString (d.rows.length : Int)), ((fig n 3 % 2 : Nat) : Int)⟩ ++ [[]]) + g 0 = sumTo g (addTo d.rows (d.around.getLastD 0) ⟨Str.ofString "use", Str.ofString (toString (d.rows.length : Int)), ((fig n 3 % 2 : Nat) : Int)⟩ ++ [[]]).length
      rw [allG_snoc, allG_add hlast, List.length_append, addTo_len]
      show _ = sumTo g (d.rows.length + 1)
      rw [sumTo_succ, ← h.sm g]
      have : itemG g ⟨Str.ofString "use", Str.ofString (toString (d.rows.length : Int)), ((fig n 3 % 2 : Nat) : Int)⟩ = g d.rows.length := by
        unfold itemG
        rw [if_pos (beq_self_eq_true _), hu]
      lia
  · split
    · have hw := (wordAt_ok n (figI_eq n 1).2).1
      refine ⟨h.ho, fun r hr x hx => ?_, fun m it hi he => ?_, fun g => ?_⟩
      · show ItemOk (addTo d.rows _ _).length x
        rw [addTo_len]
        exact io_addTo (Nat.le_refl _) h.io ⟨last_ok _, .inr ⟨rfl, hw⟩⟩ r hr x hx
      · rcases getD_addTo hi with hi | ⟨rfl, rfl⟩
        · exact h.ord m it hi he
        · exact absurd he use_ne_word
      · show allG g (addTo d.rows _ _) + g 0 = sumTo g (addTo d.rows _ _).length
        rw [allG_add hlast, addTo_len, ← h.sm g]
        have : itemG g ⟨Str.ofString "word", wordAt n (fig n 1), ((fig n 3 % 2 : Nat) : Int)⟩ = 0 := by
          unfold itemG
          rw [if_neg (by simpa using use_ne_word)]
        lia
    · split
      · exact ⟨h.ho, h.io, h.ord, h.sm⟩
      · exact h
theorem D2.fold : ∀ (ns : List Int) (k : Nat) (d : Drawn), D2 d → DOk k d → k + ns.length ≤ 1000 → D2 (ns.foldl drawStep d) ∧ DOk (k + ns.length) (ns.foldl drawStep d)
  | [], k, d, h, o, hk => ⟨h, o⟩
  | n :: ns, k, d, h, o, hk => by
    have hk : k + (ns.length + 1) ≤ 1000 := hk
    have := D2.fold ns (k + 1) _ (h.step o (by lia) n) (o.step n) (by lia)
    refine ⟨this.1, ?_⟩
    have e : k + (n :: ns).length = k + 1 + ns.length := by simp only [List.length_cons]; lia
    rw [e]; exact this.2
theorem d_all {n0 : Int} {ns : List Int} (h : ns.length ≤ 22) : D2 (dOf n0 ns) ∧ DOk ns.length (dOf n0 ns) := by
  have := D2.fold ns 0 (draw0 n0) (D2.zero n0) (DOk.zero n0) (by lia)
  rw [Nat.zero_add] at this
  exact this
theorem d_rows {n0 : Int} {ns : List Int} (h : ns.length ≤ 22) : rowsOk (dOf n0 ns).heads (dOf n0 ns).rows := by
  obtain ⟨h1, h2⟩ := d_all (n0 := n0) h
  have := h2.rl
  refine ⟨h2.hl, by lia, h1.ho, fun r hr => ⟨?_, h1.io r hr⟩⟩
  have := h2.iw r hr
  lia
theorem d_ord {n0 : Int} {ns : List Int} (h : ns.length ≤ 22) : ∀ n it, it ∈ (dOf n0 ns).rows.getD n [] → it.k = Str.ofString "use" → n < useN it := (d_all h).1.ord
theorem d_zero {n0 : Int} {ns : List Int} (h : ns.length ≤ 22) : 0 < (dOf n0 ns).rows.length := by
  obtain ⟨h1, h2⟩ := d_all (n0 := n0) h
  have := h2.last.1
  lia
theorem d_num {n0 : Int} {ns : List Int} (h : ns.length ≤ 22) : (dOf n0 ns).rows.length ≤ 23 := by
  have := (d_all (n0 := n0) h).2.rl
  lia
/- what a row's telling can come to -/
noncomputable def T (rs : List (List Item)) : Nat → Nat → Nat
  | 0, _ => 0
  | f + 1, n => 1 + 40 * (rs.getD n []).length + rowG (T rs f) (rs.getD n [])
theorem T_mono {rs : List (List Item)} : ∀ f n, T rs f n ≤ T rs (f + 1) n
  | 0, n => Nat.zero_le _
  | f + 1, n => by
    have := rowG_mono (T_mono (rs := rs) f) (rs.getD n [])
    show 1 + 40 * (rs.getD n []).length + rowG (T rs f) (rs.getD n []) ≤ 1 + 40 * (rs.getD n []).length + rowG (T rs (f + 1)) (rs.getD n [])
    lia
noncomputable def ownG (r : List Item) : Nat := 1 + 40 * r.length
theorem T_sum {rs : List (List Item)} {f : Nat} : sumTo (T rs (f + 1)) rs.length = (rs.map ownG).sum + allG (T rs f) rs := by
  have e : T rs (f + 1) = fun n => (fun r => ownG r + rowG (T rs f) r) (rs.getD n []) := rfl
  rw [e]
  refine (sum_idx (φ := fun r => ownG r + rowG (T rs f) r) (rs := rs)).trans ?_
  unfold allG
  · have key : ∀ (l : List (List Item)) (a b : List Item → Nat), (l.map fun r => a r + b r).sum = (l.map a).sum + (l.map b).sum := by
      intro l a b
      induction l with
      | nil => rfl
      | cons r l ih => simp only [List.map_cons, List.sum_cons, ih]; lia
    exact key _ _ _
theorem T_zero {rs : List (List Item)} (h : ∀ g, allG g rs + g 0 = sumTo g rs.length) (f : Nat) : T rs f 0 ≤ (rs.map ownG).sum := by
  have h1 := T_sum (rs := rs) (f := f)
  have h2 := sumTo_mono (T_mono (rs := rs) f) rs.length
  have h3 := h (T rs f)
  lia
theorem own_le {k : Nat} : ∀ {rs : List (List Item)}, (∀ r ∈ rs, r.length ≤ k) → (rs.map ownG).sum ≤ rs.length * (1 + 40 * k)
  | [], _ => Nat.zero_le _
  | r :: rs, h => by
    have h1 := own_le (k := k) (rs := rs) fun x hx => h x (.tail _ hx)
    have h2 := h r (.head _)
    rw [List.map_cons, List.sum_cons, List.length_cons, Nat.add_mul, Nat.one_mul]
    unfold ownG at h1 ⊢
    lia
theorem strandE_len {f : Str} : ∀ (l : List Str) (line : Int), (strandE f l line).1.length = l.length
  | [], line => rfl
  | p :: r, line => by simp only [strandE_0, strandE_c, List.length_cons, strandE_len r]
theorem wordE_len {px f line it} (h : WordOk it.v) : (wordE px f line it).1.length ≤ 40 := by
  unfold wordE
  split
  · exact Nat.le_of_ble_eq_true rfl
  · split
    · exact Nat.le_of_ble_eq_true rfl
    · dsimp only
      rw [strandE_len]
      have := (strands_short h).1
      lia
theorem ans_len {lo kv hd} : (ansT lo kv hd).2.length ≤ kv.length + 1 := by
  unfold ansT
  split
  · exact Nat.le_succ _
  · simp
theorem use_len {hs lo rec m kv} {t : Nat} (h1 : ∀ kv, (rec m kv).1.length ≤ t) (h2 : ∀ kv, (rec m kv).2.length ≤ kv.length + t) : (useS hs lo rec m kv).1.length ≤ 1 + t ∧ (useS hs lo rec m kv).2.length ≤ kv.length + (1 + t) := by
  rw [useS_eq]
  have h3 := ans_len (lo := lo) (kv := kv) (hd := hs.getD m noHead)
  dsimp only
  split
  · have h4 := h1 (ansT lo kv (hs.getD m noHead)).2
    have h5 := h2 (ansT lo kv (hs.getD m noHead)).2
    simp only [List.length_cons]
    lia
  · simp only [List.length_cons, List.length_nil]
    lia
theorem fold_len {hs lo rec px f N} {t : Nat → Nat} (h1 : ∀ m kv, (rec m kv).1.length ≤ t m) (h2 : ∀ m kv, (rec m kv).2.length ≤ kv.length + t m) : ∀ (row : List Item) (st : TS), (∀ it ∈ row, ItemOk N it) →
    (row.foldl (stepI hs lo rec px f) st).told.length ≤ st.told.length + 40 * row.length + rowG t row ∧ (row.foldl (stepI hs lo rec px f) st).kv.length ≤ st.kv.length + 40 * row.length + rowG t row
  | [], st, h => by simp
  | it :: row, st, h => by
    have ih := fold_len (f := f) (px := px) (hs := hs) (lo := lo) h1 h2 row (stepI hs lo rec px f st it) fun x hx => h x (.tail _ hx)
    have key : (stepI hs lo rec px f st it).told.length ≤ st.told.length + 40 + itemG t it ∧ (stepI hs lo rec px f st it).kv.length ≤ st.kv.length + 40 + itemG t it := by
      unfold stepI itemG
      split
      · have := use_len (hs := hs) (lo := lo) (rec := rec) (m := useN it) (kv := st.kv) (h1 _) (h2 _)
        simp only [List.length_append]
        lia
      · rename_i hu
        obtain ⟨_, q⟩ := h it (.head _)
        rcases q with ⟨q, _⟩ | ⟨_, q⟩
        · rw [q] at hu; exact absurd (beq_self_eq_true _) hu
        · have := wordE_len (px := px) (f := f) (line := st.line) q
          simp only [List.length_append]
          lia
    have e : rowG t (it :: row) = itemG t it + rowG t row := rfl
    rw [List.foldl_cons, e, List.length_cons]
    lia
theorem tell_len {hs : List Head} {rs : List (List Item)} {lo : Head → Bool} (hok : rowsOk hs rs) : ∀ f n kv, (tell hs rs lo f n kv).1.length ≤ T rs f n ∧ (tell hs rs lo f n kv).2.length ≤ kv.length + T rs f n
  | 0, n, kv => ⟨Nat.le_refl _, Nat.le_refl _⟩
  | f + 1, n, kv => by
    have hio : ∀ it ∈ rs.getD n [], ItemOk rs.length it := by
      rcases getD_rows (rows := rs) (i := n) with q | q
      · exact (hok.2.2.2 _ q).2
      · rw [q]; intro it hi; cases hi
    have := fold_len (hs := hs) (lo := lo) (rec := tell hs rs lo f) (px := (hs.getD n noHead).px) (f := showF (hs.getD n noHead)) (fun m kv => (tell_len hok f m kv).1) (fun m kv => (tell_len hok f m kv).2) (rs.getD n []) ⟨[], kv, 1⟩ hio
    have e : T rs (f + 1) n = 1 + 40 * (rs.getD n []).length + rowG (T rs f) (rs.getD n []) := rfl
    rw [e]
    simp only [tell, List.length_append, List.length_cons, List.length_nil] at this ⊢
    lia
theorem d_len {n0 : Int} {ns : List Int} {lo : Head → Bool} (h : ns.length ≤ 22) : (tell (dOf n0 ns).heads (dOf n0 ns).rows lo (dOf n0 ns).rows.length 0 kv0).1.length ≤ 100000 ∧ (tell (dOf n0 ns).heads (dOf n0 ns).rows lo (dOf n0 ns).rows.length 0 kv0).2.length ≤ 100000 := by
  obtain ⟨h1, h2⟩ := d_all (n0 := n0) h
  have h3 := tell_len (lo := lo) (d_rows (n0 := n0) h) (dOf n0 ns).rows.length 0 kv0
  have h4 := T_zero h1.sm (dOf n0 ns).rows.length
  have h5 := own_le (k := 22) (rs := (dOf n0 ns).rows) fun r hr => Nat.le_trans (h2.iw r hr) h
  have h6 : (dOf n0 ns).rows.length * (1 + 40 * 22) ≤ 23 * (1 + 40 * 22) := Nat.mul_le_mul_right _ (d_num h)
  have e : kv0.length = 1 := rfl
  rw [e] at h3
  lia
/- the rule counts at the heads alone -/
theorem fold_congr {hs lo1 lo2 rec px f N} (hN : N ≤ hs.length) (hz : N ≤ 1000) (hlo : ∀ h ∈ hs, lo1 h = lo2 h) {rec2 : Nat → Tab → List Ent × Tab} (hr : ∀ m kv, rec m kv = rec2 m kv) : ∀ (row : List Item) (st : TS), (∀ it ∈ row, ItemOk N it) →
    row.foldl (stepI hs lo1 rec px f) st = row.foldl (stepI hs lo2 rec2 px f) st
  | [], st, h => rfl
  | it :: row, st, h => by
    have hr : rec = rec2 := funext fun m => funext fun kv => hr m kv
    subst hr
    have key : stepI hs lo1 rec px f st it = stepI hs lo2 rec px f st it := by
      unfold stepI
      split
      · rename_i hu
        obtain ⟨_, q⟩ := h it (.head _)
        rcases q with ⟨q, m, hm, hv⟩ | ⟨q, _⟩
        · have hun : useN it = m := by unfold useN; rw [hv, intText_num (by lia)]; rfl
          have hmem : hs.getD (useN it) noHead ∈ hs := by
            rw [hun, List.getD_eq_getElem?_getD, List.getElem?_eq_getElem (by lia)]
            exact List.getElem_mem _
          have ha : ansT lo1 st.kv (hs.getD (useN it) noHead) = ansT lo2 st.kv (hs.getD (useN it) noHead) := by
            unfold ansT
            rw [hlo _ hmem]
          have : useS hs lo1 rec (useN it) st.kv = useS hs lo2 rec (useN it) st.kv := by rw [useS_eq, useS_eq, ha]
          rw [this]
        · rw [q] at hu; exact absurd (eq_of_beq hu) use_ne_word
      · rfl
    rw [List.foldl_cons, List.foldl_cons, key]
    exact fold_congr hN hz hlo (fun _ _ => rfl) row _ fun x hx => h x (.tail _ hx)
theorem tell_congr {hs : List Head} {rs : List (List Item)} {lo1 lo2 : Head → Bool} (hok : rowsOk hs rs) (hlo : ∀ h ∈ hs, lo1 h = lo2 h) : ∀ (f n : Nat) (kv : Tab), tell hs rs lo1 f n kv = tell hs rs lo2 f n kv
  | 0, n, kv => rfl
  | f + 1, n, kv => by
    have hio : ∀ it ∈ rs.getD n [], ItemOk rs.length it := by
      rcases getD_rows (rows := rs) (i := n) with q | q
      · exact (hok.2.2.2 _ q).2
      · rw [q]; intro it hi; cases hi
    have := fold_congr (hs := hs) (px := (hs.getD n noHead).px) (f := showF (hs.getD n noHead)) (by have := hok.1; lia) (by have := hok.2.1; lia) hlo (fun m kv => tell_congr hok hlo f m kv) (rs.getD n []) ⟨[], kv, 1⟩ hio
    simp only [tell, this]
end Mine
namespace Mine
/- signs that a text can hold -/
theorem sok_iff {x : Str} : PyData.strOk x = true ↔ ∀ c ∈ x.cps.toList, c < 0x110000 := by
  unfold PyData.strOk
  rw [← Array.all_toList, List.all_eq_true]
  simp
theorem sok_add {a b : Str} (ha : PyData.strOk a = true) (hb : PyData.strOk b = true) : PyData.strOk (a ++ b) = true := by
  rw [sok_iff] at ha hb ⊢
  intro c hc
  rcases mem_cps_append.mp hc with h | h
  · exact ha c h
  · exact hb c h
theorem sok_of (s : String) : PyData.strOk (Str.ofString s) = true := by
  rw [sok_iff]
  intro c hc
  rw [signs_ofString] at hc
  obtain ⟨d, _, rfl⟩ := List.mem_map.mp hc
  have hv : Nat.isValidChar d.toNat := d.valid
  rcases hv with h | ⟨_, h⟩ <;> lia
theorem sok_lead {f : Str} {n : Int} (h : PyData.strOk f = true) : PyData.strOk (leadT f n) = true :=
  sok_add (sok_add (sok_add (sok_add (sok_of _) h) (sok_of _)) (sok_of _)) (sok_of _)
theorem sok_ch {c : Nat} (h : c < 55296) : PyData.strOk (ch c) = true := by
  rw [sok_iff]
  intro d hd
  have : d = c := by simpa using hd
  lia
theorem heads_fine : (headsT.all fun p => PyData.strOk (Txt.join (Str.ofString "/") p) && PyData.strOk (Txt.join (Str.ofString ".") p)) = true := by decide +kernel
theorem head_fine {h : Head} (hh : HeadOk h) : PyData.strOk (pathT h) = true ∧ PyData.strOk (nameT h) = true := by
  have := List.all_eq_true.mp heads_fine _ hh
  rw [Bool.and_eq_true] at this
  exact this
theorem any_head {hs : List Head} (hok : ∀ h ∈ hs, HeadOk h) (m : Nat) : PyData.strOk (showF (hs.getD m noHead)) = true ∧ PyData.strOk (nameT (hs.getD m noHead)) = true := by
  have h : hs.getD m noHead = noHead ∨ HeadOk (hs.getD m noHead) := by
    rw [List.getD_eq_getElem?_getD]
    cases q : hs[m]? with
    | none => exact .inl rfl
    | some x => exact .inr (hok x (List.mem_of_getElem? q))
  rcases h with h | h
  · rw [h]; exact ⟨sok_of _, by decide +kernel⟩
  · refine ⟨?_, (head_fine h).2⟩
    unfold showF fileO
    cases q : (hs.getD m noHead).file
    · exact sok_of _
    · exact (head_fine h).1
theorem words_fine : (wordsT.all fun x => PyData.strOk x && (strandsT x).all PyData.strOk) = true := by decide +kernel
theorem strands_ch {c : Nat} (h : c ≠ 39) : strandsT (ch c) = [Str.ofString "'" ++ ch c ++ Str.ofString "'"] := by
  unfold strandsT
  rw [split_ch h]; rfl
theorem word_fine {x : Str} (h : WordOk x) : PyData.strOk x = true ∧ ∀ p ∈ strandsT x, PyData.strOk p = true := by
  rcases h with h | ⟨c, hc, rfl⟩
  · have := List.all_eq_true.mp words_fine x h
    simpa using this
  · refine ⟨sok_ch hc, ?_⟩
    by_cases q : c = 39
    · subst q
      have : ((strandsT (ch 39)).all PyData.strOk) = true := by decide +kernel
      exact List.all_eq_true.mp this
    · rw [strands_ch q]
      intro p hp
      rw [List.mem_singleton] at hp
      subst hp
      exact sok_add (sok_add (sok_of _) (sok_ch hc)) (sok_of _)
noncomputable def entOk (e : Ent) : Bool := (match e.1 with | none => true | some x => PyData.strOk x) && PyData.strOk e.2
theorem entOk_some {x y : Str} (hx : PyData.strOk x = true) (hy : PyData.strOk y = true) : entOk (some x, y) = true := by
  show (PyData.strOk x && PyData.strOk y) = true
  rw [hx, hy]; rfl
theorem strandE_fine {f : Str} (hf : PyData.strOk f = true) : ∀ (l : List Str) (line : Int), (∀ p ∈ l, PyData.strOk p = true) → ∀ e ∈ (strandE f l line).1, entOk e = true
  | [], line, h, e, he => by cases he
  | p :: r, line, h, e, he => by
    rcases List.mem_cons.mp he with rfl | he
    · exact entOk_some (h p (.head _)) (sok_lead hf)
    · exact strandE_fine hf r _ (fun q hq => h q (.tail _ hq)) e he
theorem wordE_fine {px f line it} (hf : PyData.strOk f = true) (h : WordOk it.v) : ∀ e ∈ (wordE px f line it).1, entOk e = true := by
  obtain ⟨h1, h2⟩ := word_fine h
  have one : ∀ n, entOk (some it.v, leadT f n) = true := fun n => entOk_some h1 (sok_lead hf)
  intro e he
  unfold wordE at he
  split at he
  · rw [List.mem_singleton] at he; subst he; exact one _
  · split at he
    · rw [List.mem_singleton] at he; subst he; exact one _
    · exact strandE_fine hf _ _ h2 e he
noncomputable def Fine (r : List Ent × Tab) : Prop := (∀ e ∈ r.1, entOk e = true) ∧ ∀ p ∈ r.2, PyData.strOk p.1 = true
theorem use_fine {hs lo rec m} {kv : Tab} (hh : ∀ h ∈ hs, HeadOk h) (hr : ∀ m kv, (∀ p ∈ kv, PyData.strOk p.1 = true) → Fine (rec m kv)) (hk : ∀ p ∈ kv, PyData.strOk p.1 = true) : Fine (useS hs lo rec m kv) := by
  have ha : ∀ p ∈ (ansT lo kv (hs.getD m noHead)).2, PyData.strOk p.1 = true := by
    unfold ansT
    split
    · exact hk
    · intro p hp
      rcases List.mem_append.mp hp with hp | hp
      · exact hk p hp
      · rw [List.mem_singleton] at hp; subst hp; exact (any_head hh m).2
  have hf : Fine (if (ansT lo kv (hs.getD m noHead)).1 = 0 then rec m (ansT lo kv (hs.getD m noHead)).2 else ([], (ansT lo kv (hs.getD m noHead)).2)) := by
    split
    · exact hr _ _ ha
    · exact ⟨(fun e he => by cases he), ha⟩
  rw [useS_eq]
  refine ⟨fun e he => ?_, hf.2⟩
  rcases List.mem_cons.mp he with rfl | he
  · exact entOk_some (sok_of _) (sok_of _)
  · exact hf.1 e he
theorem fold_fine2 {hs lo rec px f N} (hh : ∀ h ∈ hs, HeadOk h) (hf : PyData.strOk f = true) (hr : ∀ m kv, (∀ p ∈ kv, PyData.strOk p.1 = true) → Fine (rec m kv)) : ∀ (row : List Item) (st : TS), (∀ it ∈ row, ItemOk N it) → Fine (st.told, st.kv) → Fine ((row.foldl (stepI hs lo rec px f) st).told, (row.foldl (stepI hs lo rec px f) st).kv)
  | [], st, _, h => h
  | it :: row, st, ho, h => by
    refine fold_fine2 hh hf hr row (stepI hs lo rec px f st it) (fun x hx => ho x (.tail _ hx)) ?_
    unfold stepI
    split
    · have := use_fine (lo := lo) (m := useN it) hh hr h.2
      refine ⟨fun e he => ?_, this.2⟩
      rcases List.mem_append.mp he with he | he
      · exact h.1 e he
      · exact this.1 e he
    · rename_i hu
      obtain ⟨_, q⟩ := ho it (.head _)
      rcases q with ⟨q, _⟩ | ⟨_, q⟩
      · rw [q] at hu; exact absurd (beq_self_eq_true _) hu
      · refine ⟨fun e he => ?_, h.2⟩
        rcases List.mem_append.mp he with he | he
        · exact h.1 e he
        · exact wordE_fine hf q e he
theorem tell_fine {hs : List Head} {rs : List (List Item)} {lo : Head → Bool} (hok : rowsOk hs rs) : ∀ f n kv, (∀ p ∈ kv, PyData.strOk p.1 = true) → Fine (tell hs rs lo f n kv)
  | 0, n, kv, h => ⟨(fun e he => by cases he), h⟩
  | f + 1, n, kv, h => by
    have hio : ∀ it ∈ rs.getD n [], ItemOk rs.length it := by
      rcases getD_rows (rows := rs) (i := n) with q | q
      · exact (hok.2.2.2 _ q).2
      · rw [q]; intro it hi; cases hi
    have hsf := (any_head hok.2.2.1 n).1
    have := fold_fine2 (lo := lo) (px := (hs.getD n noHead).px) (f := showF (hs.getD n noHead)) hok.2.2.1 hsf (fun m kv hk => tell_fine (lo := lo) hok f m kv hk) (rs.getD n []) ⟨[], kv, 1⟩ hio ⟨(fun e he => by cases he), h⟩
    refine ⟨fun e he => ?_, this.2⟩
    rcases List.mem_append.mp he with he | he
    · exact this.1 e he
    · rw [List.mem_singleton] at he
      subst he
      unfold entOk eofE
      rw [sok_lead hsf]
      cases (hs.getD n noHead).px
      · show (PyData.strOk (Str.ofString "") && true) = true
        rw [sok_of]; rfl
      · rfl
theorem ents_lay : ∀ (l : List Ent), (∀ e ∈ l, entOk e = true) → PyData.canLayAll0 (l.map entD) = true ∧ PyData.depthAll (l.map entD) ≤ 1
  | [], _ => ⟨rfl, Nat.zero_le _⟩
  | e :: l, h => by
    obtain ⟨h1, h2⟩ := ents_lay l fun x hx => h x (.tail _ hx)
    have h3 := h e (.head _)
    obtain ⟨a, b⟩ := e
    unfold entOk at h3
    rw [Bool.and_eq_true] at h3
    obtain ⟨h3, h4⟩ := h3
    simp only at h3 h4
    cases a with
    | none =>
      refine ⟨?_, ?_⟩
      · simp only [List.map_cons, entD, PyData.canLayAll0, PyData.canLay0, h1, h4, Bool.and_self]
      · simp only [List.map_cons, entD, PyData.depthAll, PyData.depth]; lia
    | some x =>
      simp only at h3
      refine ⟨?_, ?_⟩
      · simp only [List.map_cons, entD, PyData.canLayAll0, PyData.canLay0, h1, h3, h4, Bool.and_self]
      · simp only [List.map_cons, entD, PyData.depthAll, PyData.depth]; lia
theorem items_lay : ∀ (kv : Tab), (∀ p ∈ kv, PyData.strOk p.1 = true) → PyData.canLayAll0 (kv.map fun p => .tuple [.str p.1, .int p.2]) = true ∧ PyData.depthAll (kv.map fun p => .tuple [.str p.1, .int p.2]) ≤ 1
  | [], _ => ⟨rfl, Nat.zero_le _⟩
  | p :: kv, h => by
    obtain ⟨h1, h2⟩ := items_lay kv fun x hx => h x (.tail _ hx)
    have h3 := h p (.head _)
    refine ⟨?_, ?_⟩
    · simp only [List.map_cons, PyData.canLayAll0, PyData.canLay0, h1, h3, Bool.and_self]
    · simp only [List.map_cons, PyData.depthAll, PyData.depth]; lia
theorem shaped_list {l : List PyData} (h : PyData.canLayAll0 l = true ∧ PyData.depthAll l ≤ 1) : SeqAt.shaped (.list l) = true := by
  unfold SeqAt.shaped
  have h2 := h.2
  rw [Bool.and_eq_true, decide_eq_true_eq]
  simp only [PyData.canLay0, PyData.depth]
  exact ⟨h.1, by lia⟩
theorem d_shape {n0 : Int} {ns : List Int} {lo : Head → Bool} (h : ns.length ≤ 22) : SeqAt.shaped (.list ((tell (dOf n0 ns).heads (dOf n0 ns).rows lo (dOf n0 ns).rows.length 0 kv0).1.map entD)) = true ∧ SeqAt.shaped (itemsD (tell (dOf n0 ns).heads (dOf n0 ns).rows lo (dOf n0 ns).rows.length 0 kv0).2) = true := by
  have hf := tell_fine (lo := lo) (d_rows (n0 := n0) h) (dOf n0 ns).rows.length 0 kv0 fun p hp => by
    rw [List.mem_singleton] at hp; subst hp; exact sok_of _
  exact ⟨shaped_list (ents_lay _ hf.1), shaped_list (items_lay _ hf.2)⟩
end Mine
namespace Mine
local macro_rules | `(tactic| fail $s:str) => Ln.mac s.getString
set_option hygiene false in
local macro_rules | `(tactic| fail "call0") => `(tactic| (refine use (sub := []) S Picks.nil ?_; intro gc C hg hr bk; clear S; try apply wc_of))
set_option hygiene false in
local macro_rules | `(tactic| fail "back") => `(tactic| (have S := bk _ _ _ C' (by fail "app"); clear C' bk hr hg C gc))
set_option hygiene false in
local macro_rules | `(tactic| fail "vin") => `(tactic| (fail_if_success (with_reducible show Exists _)); (fail_if_success (with_reducible show Ex3 _)); first | refine vin (P := BrS _ _ _) S ?_; clear S | refine vin S ?_; clear S | (refine vin (s := s) (P := fun s => _) S ?_; clear S))
set_option hygiene false in
local macro_rules | `(tactic| fail "vback") => `(tactic| all_goals first | fail "vin" | skip)
set_option hygiene false in
local macro_rules | `(tactic| fail "go") => `(tactic| repeat' (fail "vs1"))
set_option hygiene false in
local macro_rules | `(tactic| fail "gox") => `(tactic| ((repeat' (fail "vs1")); (all_goals first | refine vout ?_; intro s S | skip)))
set_option hygiene false in
local macro_rules | `(tactic| fail "callv") => `(tactic| (refine v_use (sub := []) Picks.nil ?_; intro s gc C hg hr bk; try apply wc_of))
set_option hygiene false in
local macro_rules | `(tactic| fail "bck") => `(tactic| (refine vbk bk C' (by fail "app") ?_; clear C' bk hr hg C gc))
example : PySem.Challenge.rw_nq0235_01.prog = PySem.Challenge.rw_nq0235_01.prog ∧ KK = KK := by
  k_fill
  exact ⟨rfl, rfl⟩
section
theorem splitroot_spec {w o₀ g led s A} {p : Str} {t : Tok} (hp : p.length ≤ sizeLine) (C : S0 w o₀ g led s) (hA : Ok A 1) {Q : QV}
    (k : ∀ s' a t1 t2 t3, S0 w o₀ g (.tup a [.str (Str.ofString "") t1, .str (rootT p).1 t2, .str (rootT p).2 t3] :: led) s' → Q (.ref a) s') : WD w A (.ref 93) [.str p t] [] Q s := by
  refine enter C hA [Str.ofString "p", Str.ofString "sep", Str.ofString "empty"] [] [some (.str p t), none, none] (by k_is) (by k_is) rfl (BindsTo.of_eq rfl) (by kernel_rfl) ?_
  intro env L s e hL hA S; apply hideF; intro KF hretF hendF
  unfold rootT at k
  try (fail "run")
  apply ite_by <;> intro h1
  · rw [if_pos h1] at k
    try (fail "run")
    exact k _ _ _ _ _ S.out
  · rw [if_neg (by rw [h1]; exact Bool.false_ne_true)] at k
    try (fail "run")
    apply ite_by <;> intro h2
    · rw [if_pos (by rw [h2]; rfl)] at k
      try (fail "run")
      exact k _ _ _ _ _ S.out
    · try (fail "run")
      apply ite_by <;> intro h3
      · rw [if_pos (by rw [h3, Bool.or_true])] at k
        try (fail "run")
        exact k _ _ _ _ _ S.out
      · rw [if_neg (by rw [h2, h3]; exact Bool.false_ne_true)] at k
        try (fail "run")
        exact k _ _ _ _ _ S.out
theorem kind_spec {w o₀ g led s A} {x p : Str} {t u : Tok} (C : S0 w o₀ g led s) (hA : Ok A 1) {Q : QV}
    (k : ∀ s' t1, S0 w o₀ g led s' → Q (.str (Str.ofString "") t1) s') : WD w A (.ref 51) [.str x u, .str p t] [] Q s := by
  refine enter C hA [Str.ofString "name", Str.ofString "x", Str.ofString "t"] [Str.ofString "type", Str.ofString "str", Str.ofString "bool", Str.ofString "int", Str.ofString "float", Str.ofString "list", Str.ofString "tuple", Str.ofString "dict", Str.ofString "set", Str.ofString "_wall"] [some (.str x u), some (.str p t), none] (by k_is) (by k_is) rfl (BindsTo.of_eq rfl) (by kernel_rfl) ?_
  intro env L s e hL hA S; apply hideF; intro KF hretF hendF
  try (fail "run")
  exact k _ _ S.out
theorem cpath_spec {w o₀ g led s A} {x y z p : Str} {t u v r : Tok} {a b : Addr} (ha : Has w.params g led (.tup a [.str p t])) (hb : Has w.params g led (.tab b [])) (C : S0 w o₀ g led s) (hA : Ok A 2) {Q : QV}
    (k : ∀ s', S0 w o₀ g led s' → Q (.str p t) s') : WD w A (.ref 86) [.str x u, .str y v, .str z r, .ref a, .ref b] [] Q s := by
  refine enter C hA [Str.ofString "name", Str.ofString "cname", Str.ofString "argname", Str.ofString "args", Str.ofString "kwargs", Str.ofString "x", Str.ofString "k"] [Str.ofString "len", Str.ofString "_wall", Str.ofString "_kind", Str.ofString "TypeError"] [some (.str x u), some (.str y v), some (.str z r), some (.ref a), some (.ref b), none, none] (by k_is) (by k_is) rfl (BindsTo.of_eq rfl) (by kernel_rfl) ?_
  intro env L s e hL hA S; apply hideF; intro KF hretF hendF
  fail "vin"; fail "go"
  fail "callv"
  apply kind_spec C (hA.le (by decide))
  intro s t1 C'
  fail "bck"
  fail "gox"
  exact k _ S.out
set_option hygiene false in
local macro_rules | `(tactic| fail "vc2") => `(tactic| first | apply v_k_split2; exact rfl; with_reducible assumption; intro D l hD hl | apply v_k_join; fail "has"; with_reducible assumption; with_reducible assumption; intro t | apply v_k_pop; fail "ul"; with_reducible assumption)
theorem stepT_len (r : Str) : ∀ (cs acc : List Str), (cs.foldl (stepT r) acc).length ≤ acc.length + cs.length
  | [], acc => Nat.le_refl _
  | c :: cs, acc => by
    refine Nat.le_trans (stepT_len r cs _) ?_
    have : (stepT r acc c).length ≤ acc.length + 1 := by
      unfold stepT
      split
      · lia
      · split
        · simp
        · simp; lia
    simp only [List.length_cons]; lia
theorem norm_spec {w o₀ g s A} {p : Str} {t : Tok} (hp0 : ((p.length : Int) != 0) = true) (hp : p.length ≤ 10000) (hq1 : (rootT p).1.length ≤ 10000) (hq2 : (rootT p).2.length ≤ 100000)
    (hj1 : (Txt.split (rootT p).2 (Str.ofString "/")).length ≤ 10000) (hj2 : ∀ c ∈ Txt.split (rootT p).2 (Str.ofString "/"), c.length ≤ 10000)
    (hj : JoinOk (Str.ofString "/") ((Txt.split (rootT p).2 (Str.ofString "/")).foldl (stepT (rootT p).1) []) = true)
    (hj3 : (rootT p).1.length + (Txt.join (Str.ofString "/") ((Txt.split (rootT p).2 (Str.ofString "/")).foldl (stepT (rootT p).1) [])).length ≤ sizeLine)
    (C : S0 w o₀ g [] s) (hA : Ok A 2) {Q : QV}
    (k : ∀ s' t, S0 w o₀ g [] s' → Q (.str (normT p) t) s') : WD w A (.ref 107) [.str p t] [] Q s := by
  refine enter C hA [Str.ofString "path", Str.ofString "sep", Str.ofString "dot", Str.ofString "dotdot", Str.ofString "_", Str.ofString "initial_slashes", Str.ofString "comps", Str.ofString "new_comps", Str.ofString "comp"] [Str.ofString "_splitroot"] [some (.str p t), none, none, none, none, none, none, none, none] (by k_is) (by k_is) rfl (BindsTo.of_eq rfl) (by kernel_rfl) ?_
  intro env L s e hL hA S; apply hideF; intro KF hretF hendF
  have hpz : p.length ≤ sizeLine := by rw [sizeLine_eq]; lia
  have hq1z : (rootT p).1.length ≤ sizeLine := by rw [sizeLine_eq]; lia
  fail "vin"; fail "go"
  fail "callv"
  apply splitroot_spec hpz C (hA.le (by decide))
  intro s a t1 t2 t3 C'
  fail "bck"
  fail "gox"
  apply x_for rfl
  try (fail "run")
  apply it_list S (by fail "has"); clear S; intro s I hI S
  have S := S.only (sub := [.itr _ _ _, .lst a _, .lst D _]) (by fail "pk")
  refine with_vs S ?_; clear S; intro vs0 led0 hvs hled S
  subst hled
  have hz : ∀ i, ((Txt.split (rootT p).2 (Str.ofString "/")).take i |>.foldl (stepT (rootT p).1) []).length ≤ 10000 := fun i => Nat.le_trans (stepT_len _ _ _) (by
    rw [List.length_nil, Nat.zero_add]; exact Nat.le_trans (List.length_take_le' ..) hj1)
  refine f_list (items := l) (J := fun i g' vs' led' => g' = g ∧ ∃ la nx, Strs la (((Txt.split (rootT p).2 (Str.ofString "/")).take i).foldl (stepT (rootT p).1) []) ∧ vs' = vs0.set 8 nx ∧ led' = [.lst a la, .lst D l]) hA S ⟨rfl, [], none, .nil, by rw [hvs]; rfl, rfl⟩ ?_ ?_ ?_
  · rintro i g' vs' led' ⟨rfl, la, nx, _, _, rfl⟩
    exact .led (.tail _ (.head _))
  · rintro i v g' vs' led' s hv qq1 S
    apply hideE; intro KL hnext hcont hbrk hret
    obtain ⟨rfl, la, nx, hla, rfl, rfl⟩ := qq1
    obtain ⟨c, tc, rfl, hc⟩ := hl.at hv
    have hcz : c.length ≤ sizeLine := by rw [sizeLine_eq]; have := hj2 c (List.mem_of_getElem? hc); lia
    have hlaz := hz i
    rw [← hla.length] at hlaz
    have hlaz2 : la.length ≤ sizeLine := by rw [sizeLine_eq]; lia
    have hlaz3 : la.length ≤ 1000000 := by lia
    have hst : ∀ r, stepT (rootT p).1 (((Txt.split (rootT p).2 (Str.ofString "/")).take i).foldl (stepT (rootT p).1) []) c = r → ((Txt.split (rootT p).2 (Str.ofString "/")).take (i + 1)).foldl (stepT (rootT p).1) [] = r := fun r hr => by
      rw [take_succ' hc, List.foldl_append]; exact hr
    generalize ((Txt.split (rootT p).2 (Str.ofString "/")).take i).foldl (stepT (rootT p).1) [] = acc at hla hst
    rw [hvs] at S
    simp only [List.set] at S
    have hst : ∀ r la' s, stepT (rootT p).1 acc c = r → Strs la' r → ∀ vs1, vs1 = vs0.set 8 (some (.str c tc)) → St w o₀ g' L [Str.ofString "path", Str.ofString "sep", Str.ofString "dot", Str.ofString "dotdot", Str.ofString "_", Str.ofString "initial_slashes", Str.ofString "comps", Str.ofString "new_comps", Str.ofString "comp"] vs1 [.itr I D (i + 1), .lst a la', .lst D l] s →
        Ex3 fun g'' vs' led' => St w o₀ g'' L [Str.ofString "path", Str.ofString "sep", Str.ofString "dot", Str.ofString "dotdot", Str.ofString "_", Str.ofString "initial_slashes", Str.ofString "comps", Str.ofString "new_comps", Str.ofString "comp"] vs' (.itr I D (i + 1) :: led') s ∧ (g'' = g' ∧ ∃ la nx, Strs la (((Txt.split (rootT p).2 (Str.ofString "/")).take (i + 1)).foldl (stepT (rootT p).1) []) ∧ vs' = vs0.set 8 nx ∧ led' = [.lst a la, .lst D l]) :=
      fun r la' s h1 h2 vs1 h3 S => ⟨_, _, _, S, rfl, la', _, by rw [hst r h1]; exact h2, h3, rfl⟩
    try (fail "run")
    apply ite_by <;> intro h1
    · try (fail "run")
      apply ite_by <;> intro h2
      · try (fail "run")
        exact hst _ _ _ (by unfold stepT; simp only [h1, h2]; rfl) hla _ (by rw [hvs]; rfl) S
      · try (fail "run")
        have e1 : (((c.length : Int) != 0) == false || c == Str.ofString ".") = false := by rw [h1, h2]; rfl
        apply ite_by <;> intro h3
        · try (fail "run")
          exact hst _ _ _ (by unfold stepT; rw [if_neg (by rw [e1]; exact Bool.false_ne_true), if_pos (by rw [h3]; rfl)]) hla.snoc _ (by rw [hvs]; rfl) S
        · rcases hla.last with ⟨rfl, rfl⟩ | ⟨l', acc', d, td, rfl, rfl, hl'⟩
          · try (fail "run")
            apply ite_by <;> intro h4
            · try (fail "run")
              exact hst _ _ _ (by unfold stepT; rw [if_neg (by rw [e1]; exact Bool.false_ne_true), if_neg (by rw [h3, h4]; decide)]; rfl) .nil _ (by rw [hvs]; rfl) S
            · try (fail "run")
              exact hst _ _ _ (by unfold stepT; rw [if_neg (by rw [e1]; exact Bool.false_ne_true), if_pos (by rw [h4]; simp)]; rfl) (.cons .nil) _ (by rw [hvs]; rfl) S
          · have he : (l' ++ [Value.str d td]).isEmpty = false := by cases l' <;> rfl
            have he2 : (acc' ++ [d]).isEmpty = false := by cases acc' <;> rfl
            have hlz : l'.length < sizeLine := by rw [List.length_append, List.length_singleton] at hlaz; rw [sizeLine_eq]; lia
            try (fail "run")
            apply ite_by <;> intro h4
            · try (fail "run")
              apply s_last; exact S; fail "has"; exact rfl; exact List.getLast?_concat
              try (fail "run")
              apply ite_by <;> intro h5
              · try (fail "run")
                exact hst _ _ _ (by unfold stepT; rw [if_neg (by rw [e1]; exact Bool.false_ne_true), if_pos (by rw [he2, List.getLast?_concat, eq_of_beq h5]; simp)]) hla.snoc _ (by rw [hvs]; rfl) S
              · try (fail "run")
                exact hst _ _ _ (by unfold stepT; rw [if_neg (by rw [e1]; exact Bool.false_ne_true), if_neg (by rw [h3, h4, he2, List.getLast?_concat]; simpa using h5), List.dropLast_concat]) hl' _ (by rw [hvs]; rfl) S
            · try (fail "run")
              apply s_last; exact S; fail "has"; exact rfl; exact List.getLast?_concat
              try (fail "run")
              apply ite_by <;> intro h5
              · try (fail "run")
                exact hst _ _ _ (by unfold stepT; rw [if_neg (by rw [e1]; exact Bool.false_ne_true), if_pos (by rw [he2, List.getLast?_concat, eq_of_beq h5]; simp)]) hla.snoc _ (by rw [hvs]; rfl) S
              · try (fail "run")
                exact hst _ _ _ (by unfold stepT; rw [if_neg (by rw [e1]; exact Bool.false_ne_true), if_neg (by rw [h3, he2, List.getLast?_concat]; simpa using h5), List.dropLast_concat]) hl' _ (by rw [hvs]; rfl) S
    · try (fail "run")
      exact hst _ _ _ (by unfold stepT; rw [if_pos (by rw [h1]; rfl)]) hla _ (by rw [hvs]; rfl) S
  · rintro g' vs' led' s ⟨rfl, la, nx, hla, rfl, rfl⟩ S
    rw [hl.length, List.take_length] at hla
    rw [hvs] at S
    simp only [List.set] at S
    unfold normT at k
    have hj4 : ((rootT p).1 ++ Txt.join (Str.ofString "/") ((Txt.split (rootT p).2 (Str.ofString "/")).foldl (stepT (rootT p).1) [])).length ≤ sizeLine := by rw [Str.length_append]; exact hj3
    try (fail "run")
    apply ite_by <;> intro h1
    · rw [if_pos h1] at k
      try (fail "run")
      exact k _ _ (S.only .nil).out
    · rw [if_neg (by rw [h1]; exact Bool.false_ne_true)] at k
      try (fail "run")
      exact k _ _ (S.only .nil).out
theorem normpath_spec {w o₀ g s A} {p : Str} {t : Tok} (hp0 : ((p.length : Int) != 0) = true) (hp : p.length ≤ 10000) (hq1 : (rootT p).1.length ≤ 10000) (hq2 : (rootT p).2.length ≤ 100000)
    (hj1 : (Txt.split (rootT p).2 (Str.ofString "/")).length ≤ 10000) (hj2 : ∀ c ∈ Txt.split (rootT p).2 (Str.ofString "/"), c.length ≤ 10000)
    (hj : JoinOk (Str.ofString "/") ((Txt.split (rootT p).2 (Str.ofString "/")).foldl (stepT (rootT p).1) []) = true)
    (hj3 : (rootT p).1.length + (Txt.join (Str.ofString "/") ((Txt.split (rootT p).2 (Str.ofString "/")).foldl (stepT (rootT p).1) [])).length ≤ sizeLine)
    (C : S0 w o₀ g [] s) (hA : Ok A 3) {Q : QV}
    (k : ∀ s' t, S0 w o₀ g [] s' → Q (.str (normT p) t) s') : WD w A (.ref 114) [.str p t] [] Q s := by
  have C1 := C.alloc (.tup s.heap.objs.size [.str p t]) (tupO [.str p t]) rfl rfl rfl
  have C2 := C1.alloc (.tab (s.heap.objs.size + 1) []) emptyDict rfl (by show _ = (s.heap.push _).objs.size; rw [Heap.size_push]; rfl) ⟨by
    have := modules_low (C.P.lim.keeps C.keep)
    exact beq_eq_false_iff_ne.mpr (Nat.ne_of_gt (Nat.lt_succ_of_lt this)), List.nodup_nil, [], 0, rfl, .nil⟩
  refine enterG C C2 hA [Str.ofString "args", Str.ofString "kwargs"] [Str.ofString "_normpath", Str.ofString "_c_path"] [some (.ref s.heap.objs.size), some (.ref (s.heap.objs.size + 1))] (by k_is) (by k_is) rfl (fun M A E Q q => wp_lay (K := KK w.params) _ _ [tupO [.str p t], emptyDict] (C.P.K.keeps C.keep) rfl q) (by kernel_rfl) ?_
  intro env L s e hL hA S; apply hideF; intro KF hretF hendF
  fail "vin"; fail "go"
  fail "callv"
  apply cpath_spec (.frz (hr _ (by fail "mem"))) (.frz (hr _ (by fail "mem"))) C (hA.le (by decide))
  intro s C'
  fail "bck"
  fail "go"
  fail "callv"
  apply norm_spec hp0 hp hq1 hq2 hj1 hj2 hj hj3 C (hA.le (by decide))
  intro s t C'
  fail "back"
  exact hretF _ _ (k _ _ (S.only .nil).out)
end
section
/- whether a text is left out -/
noncomputable def outT (xs dirs : List Str) (fo : Option Str) (m : Str) : Bool :=
  xs.contains m || xs.any (fun x => Txt.startswith m (x ++ Str.ofString ".")) || (match fo with | none => true | some f => dirs.any fun d => Txt.startswith f (d ++ Str.ofString "/"))
/- a file's name, or none -/
inductive FilO : Value → Option Str → Prop
  | none : FilO .none Option.none
  | some {x t} : FilO (.str x t) (Option.some x)
set_option hygiene false in
local macro_rules | `(tactic| fail "vq2") => `(tactic| first | apply v_q_in_tab; fail "has" | apply v_q_in_set; exact hms' _; exact hset)
set_option hygiene false in
local macro_rules | `(tactic| fail "vs2") => `(tactic| (apply v_i_tab; fail "ul"; exact hlk; exact hkz))
theorem names_spec {w o₀ g s A} {r d ms ds it : Addr} {o : Obj} {xs dirs : List Str} {l : List Value} {kvs : List (Str × Int)} {fv : Value} {fo : Option Str} {m : Str} {tm : Tok} (hfo : FilO fv fo)
    (hms : (Cell.raw ms o).ok w.params g) (hset : SetS pg w (!byTx w) xs o) (hne : xs ≠ []) (hds : (Cell.lst ds l).ok w.params g) (hl : Strs l dirs) (hkz : kvs.length ≤ 1000000)
    (hxz : ∀ x ∈ xs, x.length ≤ 1000) (hdz : ∀ x ∈ dirs, x.length ≤ 1000)
    (C : S0 w o₀ g [.ins r 137 d, .dic d igNm [some (.ref ms), some (.ref ds), some (.ref it)], .tab it kvs] s) (hA : Ok A 2) {Q : QV}
    (k : ∀ s' n t kvs', (n, kvs') = (match kvs.lookup m with | some v => (v, kvs) | none => ((if outT xs dirs fo m then 1 else 0 : Int), kvs ++ [(m, if outT xs dirs fo m then 1 else 0)])) →
      S0 w o₀ g [.ins r 137 d, .dic d igNm [some (.ref ms), some (.ref ds), some (.ref it)], .tab it kvs'] s' → Q (.int n t) s') : WD w A (.ref 134) [.ref r, fv, .str m tm] [] Q s := by
  refine enter C hA [Str.ofString "self", Str.ofString "filename", Str.ofString "modulename", Str.ofString "mod", Str.ofString "d"] [Str.ofString "sep"] [some (.ref r), some fv, some (.str m tm), none, none] (by k_is) (by k_is) rfl (BindsTo.of_eq rfl) (by kernel_rfl) ?_
  intro env L s e hL hA S; apply hideF; intro KF hretF hendF
  have hms' : ∀ led, Has w.params g led (.raw ms o) := fun led => .frz hms
  have hds' : ∀ led, Has w.params g led (.lst ds l) := fun led => .frz hds
  try (fail "run")
  apply ite_by <;> intro h1
  · obtain ⟨v, hv⟩ := Option.isSome_iff_exists.mp h1
    try (fail "run")
    apply s_tab; exact S; fail "has"; exact rfl; exact hv; clear S; intro s t S
    try (fail "run")
    exact k _ _ _ _ (by rw [hv]) S.out
  · have hlk : kvs.lookup m = none := by simpa using h1
    rw [hlk] at k
    dsimp only at k
    try (fail "run")
    apply ite_by <;> intro h2
    · have ho : outT xs dirs fo m = true := by unfold outT; rw [h2]; simp
      rw [ho] at k
      try (fail "run")
      exact k _ _ _ _ rfl S.out
    · try (fail "run")
      apply x_for rfl
      try (fail "run")
      refine with_vs S ?_; clear S; intro vs0 led0 hvs hled S
      subst hled
      refine for_set hA S (fun it v => rfl) (hms' _) hset hne (fun seen vs => (∃ nx, vs = vs0.set 3 nx) ∧ ∀ x ∈ seen, Txt.startswith m (x ++ Str.ofString ".") = false) ⟨⟨none, by rw [hvs]; rfl⟩, fun x hx => nomatch hx⟩ ?_ ?_
      · rintro g₂ hg x tx seen vs I oI s hx qq1 S
        apply hideE; intro KL hnext hcont hbrk hret
        obtain ⟨⟨nx, rfl⟩, hsn⟩ := qq1
        have hxl : x.length + (Str.ofString ".").length ≤ sizeLine := by
          have := hxz x hx
          have : (Str.ofString ".").length = 1 := rfl
          rw [sizeLine_eq]; lia
        rw [hvs] at S
        simp only [List.set] at S
        try (fail "run")
        apply ite_by <;> intro h3
        · have ho : outT xs dirs fo m = true := by
            unfold outT
            have : xs.any (fun x => Txt.startswith m (x ++ Str.ofString ".")) = true := List.any_eq_true.mpr ⟨x, hx, h3⟩
            rw [this]; simp
          rw [ho] at k
          try (fail "run")
          exact k _ _ _ _ rfl ((S.forget.base C.P hg).out)
        · try (fail "run")
          refine ⟨_, S, ⟨_, by rw [hvs]; rfl⟩, fun y hy => ?_⟩
          rcases List.mem_cons.mp hy with rfl | hy
          · exact h3
          · exact hsn y hy
      · rintro seen vs s hall ⟨⟨nx, rfl⟩, hsn⟩ S
        have hany : xs.any (fun x => Txt.startswith m (x ++ Str.ofString ".")) = false := by
          rw [Bool.eq_false_iff]; intro q
          obtain ⟨x, hx, q⟩ := List.any_eq_true.mp q
          rw [hsn x (hall x hx)] at q; cases q
        rw [hvs] at S
        simp only [List.set] at S
        cases hfo with
        | none =>
          have ho : outT xs dirs none m = true := by unfold outT; simp
          rw [ho] at k
          try (fail "run")
          exact k _ _ _ _ rfl S.out
        | @some f tf =>
          have hout : outT xs dirs (some f) m = dirs.any (fun d => Txt.startswith f (d ++ Str.ofString "/")) := by unfold outT; rw [h2, hany]; rfl
          rw [hout] at k
          try (fail "run")
          apply x_for rfl
          try (fail "run")
          apply it_list S (hds' _); clear S; intro s I hI S
          refine with_vs S ?_; clear S hvs; intro vs0 led0 hvs hled S
          subst hled
          refine f_list (items := l) (J := fun i g' vs' led' => g' = g ∧ (∃ nx, vs' = vs0.set 4 nx) ∧ led' = [.ins r 137 d, .dic d igNm [some (.ref ms), some (.ref ds), some (.ref it)], .tab it kvs] ∧ (dirs.take i).any (fun d => Txt.startswith f (d ++ Str.ofString "/")) = false) hA S ⟨rfl, ⟨none, by rw [hvs]; rfl⟩, rfl, rfl⟩ ?_ ?_ ?_
          · rintro i g' vs' led' ⟨rfl, _, rfl, _⟩
            exact hds' _
          · rintro i v g' vs' led' s hv qq1 S
            apply hideE; intro KL hnext hcont hbrk hret
            obtain ⟨rfl, ⟨nx, rfl⟩, rfl, hno⟩ := qq1
            obtain ⟨c, tc, rfl, hc⟩ := hl.at hv
            have hcl : c.length + (Str.ofString "/").length ≤ sizeLine := by
              have := hdz c (List.mem_of_getElem? hc)
              have : (Str.ofString "/").length = 1 := rfl
              rw [sizeLine_eq]; lia
            rw [hvs] at S
            simp only [List.set] at S
            try (fail "run")
            apply ite_by <;> intro h3
            · have ho : dirs.any (fun d => Txt.startswith f (d ++ Str.ofString "/")) = true := List.any_eq_true.mpr ⟨c, List.mem_of_getElem? hc, h3⟩
              rw [ho] at k
              try (fail "run")
              exact k _ _ _ _ rfl S.forget.out
            · try (fail "run")
              refine ⟨_, _, _, S, rfl, ⟨_, by rw [hvs]; rfl⟩, rfl, ?_⟩
              rw [take_succ' hc, List.any_append, hno]
              simp [h3]
          · rintro g' vs' led' s ⟨rfl, ⟨nx, rfl⟩, rfl, hno⟩ S
            rw [hl.length, List.take_length] at hno
            rw [hno] at k
            rw [hvs] at S
            simp only [List.set] at S
            try (fail "run")
            exact k _ _ _ _ rfl S.out
end
section
/- a way that normpath takes -/
noncomputable def wayOk (p : Str) : Bool := (((p.length : Int) != 0) == true) && decide (p.length ≤ 10000) && decide ((rootT p).1.length ≤ 10000) && decide ((rootT p).2.length ≤ 100000) && decide ((Txt.split (rootT p).2 (Str.ofString "/")).length ≤ 10000) && (Txt.split (rootT p).2 (Str.ofString "/")).all (fun c => decide (c.length ≤ 10000))
  && JoinOk (Str.ofString "/") ((Txt.split (rootT p).2 (Str.ofString "/")).foldl (stepT (rootT p).1) []) && decide ((rootT p).1.length + (Txt.join (Str.ofString "/") ((Txt.split (rootT p).2 (Str.ofString "/")).foldl (stepT (rootT p).1) [])).length ≤ 100000)
theorem normpath_ok {w o₀ g s A} {p : Str} {t : Tok} (hp : wayOk p = true) (C : S0 w o₀ g [] s) (hA : Ok A 3) {Q : QV}
    (k : ∀ s' t, S0 w o₀ g [] s' → Q (.str (normT p) t) s') : WD w A (.ref 114) [.str p t] [] Q s := by
  simp only [wayOk, Bool.and_eq_true, decide_eq_true_eq, beq_iff_eq, List.all_eq_true] at hp
  obtain ⟨⟨⟨⟨⟨⟨⟨h1, h2⟩, h3⟩, h4⟩, h5⟩, h6⟩, h7⟩, h8⟩ := hp
  exact normpath_spec h1 h2 h3 h4 h5 h6 h7 (by rw [sizeLine_eq]; lia) C hA k
set_option hygiene false in
local macro_rules | `(tactic| fail "vc2") => `(tactic| (apply v_k_set; exact hA; fail "has"; with_reducible assumption; exact hmz; intro ms om hom))
theorem iginit_spec {w o₀ g s A} {r d Dm Dw : Addr} {lm lw : List Value} {mods ways : List Str} (hm : (Cell.lst Dm lm).ok w.params g) (hw : (Cell.lst Dw lw).ok w.params g) (hlm : Strs lm mods) (hlw : Strs lw ways) (hmz : Nat.ble mods.length 90 = true) (hm0 : lm.isEmpty = false) (hw0 : lw.isEmpty = false)
    (hmz2 : lm.length ≤ 1000000) (hwz2 : lw.length ≤ 1000000) (hok : ∀ p ∈ ways, wayOk p = true)
    (C : S0 w o₀ g [.ins r 137 d, .dic d igNm [none, none, none]] s) (hA : Ok A 4) {Q : QV}
    (k : ∀ s' ms ds it o l, SetS pg w (!byTx w) (metS mods) o → Strs l (ways.map normT) → S0 w o₀ g [.ins r 137 d, .dic d igNm [some (.ref ms), some (.ref ds), some (.ref it)], .tab it [(Str.ofString "<string>", 1)], .raw ms o, .lst ds l] s' → Q .none s') : WD w A (.ref 127) [.ref r, .ref Dm, .ref Dw] [] Q s := by
  refine enter C hA [Str.ofString "self", Str.ofString "modules", Str.ofString "dirs"] [Str.ofString "set"] [some (.ref r), some (.ref Dm), some (.ref Dw)] (by k_is) (by k_is) rfl (binds_K (C.P.K.keeps C.keep) rfl (by k_is) rfl rfl rfl) (by kernel_rfl) ?_
  intro env L s e hL hA S; apply hideF; intro KF hretF hendF
  try (fail "run")
  apply r_comp rfl (closureFor_none (by decide)) (by decide)
  try (fail "run")
  apply it_list S (.frz hw); clear S; intro s I hI S
  refine use (sub := [.itr _ _ _]) S (by fail "pk") ?_
  intro gc C hg hr bk
  have hw' : (Cell.lst Dw lw).ok w.params gc := hw.keeps fun o q => hg _ _ q
  refine co_p (L := L) (P := fun k v => lw[k]? = some v) (n := lw.length) (Ic := fun k => .itr I Dw k) [Str.ofString "normpath"] (by decide) (by decide) e C (iterP_list hA hw') (fun k ys led => led = [] ∧ Strs ys ((ways.take k).map normT)) ⟨rfl, .nil⟩ (fun k ys led h => ?_) ?_ ?_
  · obtain ⟨_, h⟩ := h
    rw [h.length, List.length_map]
    have := hlw.length
    have := List.length_take_le' k ways
    lia
  · clear bk hr C S
    rintro cenv Cc D hE hce k v ys led s hk hv ⟨rfl, hys⟩ S
    obtain ⟨c, tc, rfl, hc⟩ := hlw.at hv
    clear e
    have e := hE
    apply ts_nil
    apply ite_t
    fail "vin"; fail "go"
    fail "callv"
    apply normpath_ok (hok c (List.mem_of_getElem? hc)) C (hA.le (by decide))
    intro s t C'
    have S := bk _ _ _ C' (by fail "app")
    exact ⟨_, S, rfl, by rw [take_succ' hc, List.map_append]; exact hys.snoc⟩
  · rintro D ys led s ⟨rfl, hys⟩ C'
    rw [hlw.length, List.take_length] at hys
    have S := bk _ _ _ C' (by fail "app")
    clear C' bk hr C
    fail "vin"; fail "go"
    apply v_r_dict1; intro it
    fail "gox"
    have S := S.only (sub := [.ins _ 137 _, .dic _ igNm _, .tab _ _, .raw _ _, .lst D _]) (by fail "pk")
    exact k _ _ _ _ _ _ hom hys S.out
end
section
theorem ig_spec {w o₀ g s A} {Dm Dw : Addr} {lm lw : List Value} {mods ways : List Str} (hm : (Cell.lst Dm lm).ok w.params g) (hw : (Cell.lst Dw lw).ok w.params g) (hlm : Strs lm mods) (hlw : Strs lw ways) (hmz : Nat.ble mods.length 90 = true) (hm0 : lm.isEmpty = false) (hw0 : lw.isEmpty = false)
    (hmz2 : lm.length ≤ 1000000) (hwz2 : lw.length ≤ 1000000) (hok : ∀ p ∈ ways, wayOk p = true)
    (C : S0 w o₀ g [] s) (hA : Ok A 5) {Q : QV}
    (k : ∀ s' r d ms ds it o l, SetS pg w (!byTx w) (metS mods) o → Strs l (ways.map normT) → S0 w o₀ g [.ins r 137 d, .dic d igNm [some (.ref ms), some (.ref ds), some (.ref it)], .tab it [(Str.ofString "<string>", 1)], .raw ms o, .lst ds l] s' → Q (.ref r) s') : WD w A (.ref 137) [.ref Dm, .ref Dw] [] Q s := by
  refine w_make (n := 4) igNm [none, none, none] C hA rfl (by kernel_rfl) (fI := 127) (by kernel_rfl) (by kernel_rfl) fun A x d s' hA C => ?_
  exact iginit_spec hm hw hlm hlw hmz hm0 hw0 hmz2 hwz2 hok C hA fun s' ms ds it o l h1 h2 C => ⟨rfl, k _ _ _ _ _ _ _ _ h1 h2 C⟩
end
section
theorem index_spec {w o₀ g led s A} {n : Int} {tn : Tok} {wt : Str} {tw : Tok} (h1 : ¬ 1099511627776 < n) (h2 : ¬ n < -1099511627776) (C : S0 w o₀ g led s) (hA : Ok A 1) {Q : QV}
    (k : ∀ s', S0 w o₀ g led s' → Q (.int n tn) s') : WD w A (.ref 160) [.int n tn, .str wt tw] [] Q s := by
  refine enter C hA [Str.ofString "n", Str.ofString "what"] [Str.ofString "type", Str.ofString "int", Str.ofString "bool", Str.ofString "_wall"] [some (.int n tn), some (.str wt tw)] (by k_is) (by k_is) rfl (BindsTo.of_eq rfl) (by kernel_rfl) ?_
  intro env L s e hL hA S; apply hideF; intro KF hretF hendF
  try (fail "run")
  exact k _ S.out
theorem check_spec {w o₀ g led s A} {y d : Addr} {nl : Value} {buf : Str} {tb : Tok} {ps : Option Value} (hx : Has w.params g led (.ins y 694 d)) (hd : Has w.params g led (.dic d ioNm [some nl, some (.str buf tb), ps])) (C : S0 w o₀ g led s) (hA : Ok A 1) {Q : QV}
    (k : ∀ s', S0 w o₀ g led s' → Q .none s') : WD w A (.ref 478) [.ref y] [] Q s := by
  refine enter C hA [Str.ofString "self"] [] [some (.ref y)] (by k_is) (by k_is) rfl (BindsTo.of_eq rfl) (by kernel_rfl) ?_
  intro env L s e hL hA S; apply hideF; intro KF hretF hendF
  try (fail "run")
  exact k _ S.out
theorem read_spec {w o₀ g s A} {y d : Addr} {nl : Value} {buf : Str} {tb tp tn : Tok} {p : Nat} (hb : buf.length ≤ sizeLine) (hp : p ≤ buf.length) 
   (C : S0 w o₀ g [.ins y 694 d, .dic d ioNm [some nl, some (.str buf tb), some (.int p tp)]] s) (hA : Ok A 2) {Q : QV}
    (k : ∀ s' c t tp' p', (c, p') = (if p < buf.length then (Txt.slice buf (some p) (some (p + 1)), p + 1) else (Str.ofString "", p)) → S0 w o₀ g [.ins y 694 d, .dic d ioNm [some nl, some (.str buf tb), some (.int (p' : Nat) tp')]] s' → Q (.str c t) s') :
    WD w A (.ref 640) [.ref y, .int 1 tn] [] Q s := by
  refine enter C hA [Str.ofString "self", Str.ofString "size", Str.ofString "start", Str.ofString "stop"] [Str.ofString "_index", Str.ofString "len"] [some (.ref y), some (.int 1 tn), none, none] (by k_is) (by k_is) rfl (binds_K (C.P.K.keeps C.keep) rfl (by k_is) rfl rfl rfl) (by kernel_rfl) ?_
  intro env L s e hL hA S; apply hideF; intro KF hretF hendF
  fail "vin"; fail "go"
  fail "callv"
  apply index_spec (by decide) (by decide) C (hA.le (by decide))
  intro s C
  have S := bk _ _ _ C .nil
  fail "vin"; fail "go"
  fail "callv"
  apply check_spec (.frz (hr _ (by fail "mem"))) (.frz (hr _ (by fail "mem"))) C (hA.le (by decide))
  intro s C
  have S := bk _ _ _ C .nil
  try (fail "run")
  apply ite_d <;> intro hc
  · try (fail "run")
    exact k _ _ _ _ p (by rw [if_neg (by lia)]) S.out
  · try (fail "run")
    apply ite_d <;> intro hd
    · try (fail "run")
      exact k _ _ _ _ (p + 1) (by rw [if_pos (by lia)]) S.out
    · try (fail "run")
      have e : buf.length = p + 1 := by lia
      rw [e] at S ⊢
      exact k _ _ _ _ (p + 1) (by rw [if_pos (by lia)]; rfl) S.out
end
section
theorem punct_spec {w o₀ g led s A} {x d : Addr} {av : List (Option Value)} {z : Str} {t : Tok} (hx : Has w.params g led (.ins x 787 d)) (hd : Has w.params g led (.dic d lexNm av)) (hv : Lk lexNm av (Str.ofString "_punctuation_chars") (.str z t)) (C : S0 w o₀ g led s) (hA : Ok A 1) {Q : QV}
    (k : ∀ s', S0 w o₀ g led s' → Q (.str z t) s') : WD w A (.ref 718) [.ref x] [] Q s := by
  refine enter C hA [Str.ofString "self"] [] [some (.ref x)] (by k_is) (by k_is) rfl (BindsTo.of_eq rfl) (by kernel_rfl) ?_
  intro env L s e hL hA S; apply hideF; intro KF hretF hendF
  try (fail "run")
  apply r_get; exact S; exact hx; exact hd; exact hv; fail "ao"; fail "nd"; exact rfl; clear S; intro s S
  exact hretF _ _ (k _ S.out)
theorem read_one {w o₀ g s A} {y d : Addr} {nl : Value} {buf : Str} {tb tp tn : Tok} {p c : Nat} {cs : List Nat} (hb : buf.length ≤ sizeLine) (hp : buf.cps.toList.drop p = c :: cs)
   (C : S0 w o₀ g [.ins y 694 d, .dic d ioNm [some nl, some (.str buf tb), some (.int p tp)]] s) (hA : Ok A 2) {Q : QV}
    (k : ∀ s' t tp', buf.cps.toList.drop (p + 1) = cs → p < buf.length → S0 w o₀ g [.ins y 694 d, .dic d ioNm [some nl, some (.str buf tb), some (.int ((p + 1 : Nat) : Int) tp')]] s' → Q (.str (ch c) t) s') :
    WD w A (.ref 640) [.ref y, .int 1 tn] [] Q s := by
  obtain ⟨h1, h2, h3⟩ := slice_one hp
  refine read_spec hb (Nat.le_of_lt h1) C hA fun s' c t tp' p' e C => ?_
  rw [if_pos h1, h2] at e
  obtain ⟨rfl, rfl⟩ := Prod.mk.inj e
  exact k _ _ _ h3 h1 C
theorem read_end {w o₀ g s A} {y d : Addr} {nl : Value} {buf : Str} {tb tp tn : Tok} {p : Nat} (hb : buf.length ≤ sizeLine) (hp : buf.cps.toList.drop p = []) (hq : p ≤ buf.length)
   (C : S0 w o₀ g [.ins y 694 d, .dic d ioNm [some nl, some (.str buf tb), some (.int p tp)]] s) (hA : Ok A 2) {Q : QV}
    (k : ∀ s' t tp', S0 w o₀ g [.ins y 694 d, .dic d ioNm [some nl, some (.str buf tb), some (.int (p : Int) tp')]] s' → Q (.str (Str.ofString "") t) s') :
    WD w A (.ref 640) [.ref y, .int 1 tn] [] Q s := by
  refine read_spec hb hq C hA fun s' c t tp' p' e C' => ?_
  rw [if_neg (slice_end hp)] at e
  obtain ⟨rfl, e2⟩ := Prod.mk.inj e
  rw [e2] at C'
  exact k _ _ _ C'
/- a lexer's attributes -/
noncomputable abbrev lexV (y : Addr) (inf : Value) (px : Bool) (eofv : Value) (wcs : Str) (t0 t1 t2 t3 t4 t5 t7 t9 : Tok) (st : Value) (pb : Addr) (ln : Int) (tl : Tok) (tok : Str) (tt : Tok) (fs : Addr) : List (Option Value) :=
  [some (.ref y), some inf, some (.bool px), some eofv, some (.str (Str.ofString "#") t0), some (.str wcs t1), some (.str (Str.ofString " \t\r\n") t2), some (.bool false), some (.str (Str.ofString "'\"") t3), some (.str (Str.ofString "\\") t4), some (.str (Str.ofString "\"") t5),
   some st, some (.ref pb), some (.int ln tl), some (.int 0 t7), some (.str tok tt), some (.ref fs), some .none, some (.str (Str.ofString "") t9)]
/- the lexer's attributes that change, each set -/
theorem ua_state {y : Addr} {inf : Value} {px : Bool} {eofv : Value} {wcs : Str} {t0 t1 t2 t3 t4 t5 t7 t9 : Tok} {st : Value} {pb : Addr} {ln : Int} {tl : Tok} {tok : Str} {tt : Tok} {fs : Addr} {v : Value} : UpA lexNm (lexV y inf px eofv wcs t0 t1 t2 t3 t4 t5 t7 t9 st pb ln tl tok tt fs) (Str.ofString "state") v (lexV y inf px eofv wcs t0 t1 t2 t3 t4 t5 t7 t9 v pb ln tl tok tt fs) := ua11
theorem ua_line {y : Addr} {inf : Value} {px : Bool} {eofv : Value} {wcs : Str} {t0 t1 t2 t3 t4 t5 t7 t9 : Tok} {st : Value} {pb : Addr} {ln : Int} {tl : Tok} {tok : Str} {tt : Tok} {fs : Addr} {n : Int} {t : Tok} : UpA lexNm (lexV y inf px eofv wcs t0 t1 t2 t3 t4 t5 t7 t9 st pb ln tl tok tt fs) (Str.ofString "lineno") (.int n t) (lexV y inf px eofv wcs t0 t1 t2 t3 t4 t5 t7 t9 st pb n t tok tt fs) := ua13
theorem ua_tok {y : Addr} {inf : Value} {px : Bool} {eofv : Value} {wcs : Str} {t0 t1 t2 t3 t4 t5 t7 t9 : Tok} {st : Value} {pb : Addr} {ln : Int} {tl : Tok} {tok : Str} {tt : Tok} {fs : Addr} {x : Str} {t : Tok} : UpA lexNm (lexV y inf px eofv wcs t0 t1 t2 t3 t4 t5 t7 t9 st pb ln tl tok tt fs) (Str.ofString "token") (.str x t) (lexV y inf px eofv wcs t0 t1 t2 t3 t4 t5 t7 t9 st pb ln tl x t fs) := ua15
set_option hygiene false in
local macro_rules | `(tactic| fail "ua") => `(tactic| with_reducible first | exact ua_state | exact ua_line | exact ua_tok)
noncomputable def stS : LS → Str
  | .sp => Str.ofString " "
  | .a => Str.ofString "a"
  | .q c => ch c
set_option hygiene false in
local macro_rules | `(tactic| fail "punct") => `(tactic| (apply r_prop; exact S; fail "has"; fail "has"; exact po_punct; clear S; intro s S; refine use (sub := []) S Picks.nil ?_; intro gc C hg hr bk; clear S; apply punct_spec (.frz (hr _ (by fail "mem"))) (.frz (hr _ (by fail "mem"))) (by fail "lk") C ((hA.le (m := 2) (by decide)).in1); intro s C'; fail "back"; refine ⟨rfl, ?_⟩))
set_option hygiene false in
local macro_rules | `(tactic| fail "px") => `(tactic| (refine ite_by (b := px) ?_ ?_ <;> intro hpx))
set_option hygiene false in
local macro_rules | `(tactic| fail "g2") => `(tactic| fail "punct")
set_option hygiene false in
local macro_rules | `(tactic| fail "br2") => `(tactic| fail "px")
set_option hygiene false in
local macro_rules | `(tactic| fail "turn") => `(tactic| (
  refine front _ _ _ _ _ _ _ _ _ _ _ _ _ hinp S ?_; clear S front; intro s t tp' tl ln' hln hd2 hlt S; try (fail "run")))
set_option hygiene false in
local macro_rules | `(tactic| fail "again") => `(tactic| ((apply ih <;> (first | exact S | exact fin | exact hd2 | skip)); all_goals first | lia | simp only [List.length_append, List.length_nil, List.length_cons]; lia))
/- a goal, its front part proved once -/
theorem front_intro {α : Type} {W : Shared → Prop} {s : Shared} {F : (α → Shared → Prop) → (Shared → Prop) → Prop} (G : α → Shared → Prop) (h : F G W) (k : F G W → W s) : W s := k h
theorem f_nl {c : Nat} (h : c = 10) : (ch c == Str.ofString "\n") = true := eq_lit (d := 10) rfl _ (by rw [h]; rfl)
theorem f_nnl {c : Nat} (h : c ≠ 10) : (ch c == Str.ofString "\n") = false := eq_lit (d := 10) rfl _ (beq_eq_false_iff_ne.mpr h)
theorem f_ws {c : Nat} {b : Bool} (h : isWs c = b) : Txt.contains (Str.ofString " \t\r\n") (ch c) = b := in_lit (l := [32, 9, 13, 10]) (by kernel_rfl) b (by rw [← h]; simp only [List.contains_cons, List.contains_nil, isWs, Bool.or_false, Bool.or_assoc])
theorem f_q {c : Nat} {b : Bool} (h : isQ c = b) : Txt.contains (Str.ofString "'\"") (ch c) = b := in_lit (l := [39, 34]) (by kernel_rfl) b (by rw [← h]; simp only [List.contains_cons, List.contains_nil, isQ, Bool.or_false])
theorem f_com {c : Nat} (h : c ≠ 35) : Txt.contains (Str.ofString "#") (ch c) = false := in_lit (l := [35]) (by kernel_rfl) _ (by simp [h])
theorem f_esc {c : Nat} (h : c ≠ 92) : Txt.contains (Str.ofString "\\") (ch c) = false := in_lit (l := [92]) (by kernel_rfl) _ (by simp [h])
theorem f_eq {c : Nat} (h : c ≠ 34) : Txt.contains (Str.ofString "\"") (ch c) = false := in_lit (l := [34]) (by kernel_rfl) _ (by simp [h])
theorem f_pu {c : Nat} : Txt.contains (Str.ofString "") (ch c) = false := in_lit (l := []) (by kernel_rfl) _ rfl
theorem f_wc {wcs : Str} {c : Nat} (h : c ∈ wcs.cps.toList) : Txt.contains wcs (ch c) = true := in_lit rfl _ (by simpa using h)
theorem f_nwc {wcs : Str} {c : Nat} (h : c ∉ wcs.cps.toList) : Txt.contains wcs (ch c) = false := in_lit rfl _ (by simpa using h)
theorem f_qsp {c : Nat} (h : isQ c = true) : (ch c == Str.ofString " ") = false := eq_lit (d := 32) rfl _ (by
  cases q : (c == 32) with
  | false => rfl
  | true => rw [eq_of_beq q] at h; cases h)
theorem nlc_t {c : Nat} (h : c = 10) : nlc c = 1 := if_pos h
theorem nlc_f {c : Nat} (h : c ≠ 10) : nlc c = 0 := if_neg h
theorem q_nws {c : Nat} (h : isQ c = true) : isWs c = false ∧ c ≠ 35 ∧ c ≠ 92 ∧ c ≠ 10 := by
  unfold isQ at h; unfold isWs
  simp only [Bool.or_eq_true, beq_iff_eq] at h
  rcases h with h | h <;> subst h <;> decide
theorem tx_nl {l : List Nat} (h : l ≠ []) : (((tx l).length : Int) != 0) = true := by
  rw [tx_len]
  have := List.length_pos_iff.mpr h
  simp only [bne_iff_ne, ne_eq]; lia
theorem tx_nz {l : List Nat} (h : l ≠ []) : (tx l == Str.ofString "") = false := by
  refine beq_eq_false_iff_ne.mpr fun e => h ?_
  exact congrArg (fun z : Str => z.cps.toList) e
theorem tx_add1 {l : List Nat} {c : Nat} : tx l ++ ch c = tx (l ++ [c]) := tx_add (b := [c])
/- what is to hold behind a while's end, hidden -/
theorem hideW {w : World} {A : Around} {env : Env} {test : Expr} {body : List Stmt} {K : QF} {s : Shared} (h : ∀ KB : QF, (∀ s, K .next s → KB .next s) → WW w A env test body KB s) : WW w A env test body K s := h K fun _ h => h
theorem token_spec {w o₀ g s A} {x d y d2 : Addr} {nl inf eofv : Value} {buf wcs : Str} {px : Bool} {tb tp ts tl tt : Tok} {t0 t1 t2 t3 t4 t5 t7 t9 : Tok} {pb fs : Addr} {p : Nat} {ln N : Int} {r : Option (List Nat)} {rest : List Nat} {n : Int}
    (hb : buf.length ≤ 1000000) (hp : p ≤ buf.length) (hrun : Run px wcs.cps.toList .sp false [] (buf.cps.toList.drop p) r rest n) (hN : ln + n = N)
    (C : S0 w o₀ g [.ins y 694 d2, .dic d2 ioNm [some nl, some (.str buf tb), some (.int p tp)], .ins x 787 d, .dic d lexNm (lexV y inf px eofv wcs t0 t1 t2 t3 t4 t5 t7 t9 (.str (Str.ofString " ") ts) pb ln tl (Str.ofString "") tt fs)] s) (hA : Ok A 3) {Q : QV}
    (k : ∀ s' v t ts tl tt st tp' p', p' ≤ buf.length → buf.cps.toList.drop p' = rest → (v, st) = (match r with | none => (if px then .none else .str (Str.ofString "") t, .none) | some l => (.str (tx l) t, .str (Str.ofString " ") ts)) →
      S0 w o₀ g [.ins y 694 d2, .dic d2 ioNm [some nl, some (.str buf tb), some (.int p' tp')], .ins x 787 d, .dic d lexNm (lexV y inf px eofv wcs t0 t1 t2 t3 t4 t5 t7 t9 st pb N tl (Str.ofString "") tt fs)] s' → Q v s') :
    WD w A (.ref 755) [.ref x] [] Q s := by
  refine enter C hA [Str.ofString "self", Str.ofString "quoted", Str.ofString "escapedstate", Str.ofString "nextchar", Str.ofString "result"] [] [some (.ref x), none, none, none, none] (by k_is) (by k_is) rfl (BindsTo.of_eq rfl) (by kernel_rfl) ?_
  intro env L s e hL hA S; apply hideF; intro KF hretF hendF
  have hb' : buf.length ≤ sizeLine := by rw [sizeLine_eq]; lia
  try (fail "run")
  apply x_while
  refine hideW ?_; intro KB hB
  generalize hinp : buf.cps.toList.drop p = inp at hrun
  obtain ⟨st, hst⟩ : ∃ st, st = LS.sp := ⟨_, rfl⟩
  obtain ⟨qd, hqd⟩ : ∃ qd, qd = false := ⟨_, rfl⟩
  obtain ⟨tok, htok⟩ : ∃ tok : List Nat, tok = [] := ⟨_, rfl⟩
  rw [← hst, ← hqd, ← htok] at hrun
  have htl : tok.length ≤ p := by rw [htok]; exact Nat.zero_le _
  obtain ⟨nx, S⟩ : ∃ nx, St w o₀ g L [Str.ofString "self", Str.ofString "quoted", Str.ofString "escapedstate", Str.ofString "nextchar", Str.ofString "result"] [some (.ref x), some (.bool qd), some (.str (Str.ofString " ") t), nx, none]
      [.ins y 694 d2, .dic d2 ioNm [some nl, some (.str buf tb), some (.int p tp)], .ins x 787 d, .dic d lexNm (lexV y inf px eofv wcs t0 t1 t2 t3 t4 t5 t7 t9 (.str (stS st) ts) pb ln tl (tx tok) tt fs)] s := ⟨none, by rw [hst, hqd, htok]; exact S⟩
  rename_i S₁
  clear S₁ hst hqd htok C
  have fin : ∀ s' v t ts tl tt st tp' p', p' ≤ buf.length → buf.cps.toList.drop p' = rest → (v, st) = (match r with | none => (if px then .none else .str (Str.ofString "") t, .none) | some l => (.str (tx l) t, .str (Str.ofString " ") ts)) →
      S0 w o₀ g [.ins y 694 d2, .dic d2 ioNm [some nl, some (.str buf tb), some (.int p' tp')], .ins x 787 d, .dic d lexNm (lexV y inf px eofv wcs t0 t1 t2 t3 t4 t5 t7 t9 st pb N tl (Str.ofString "") tt fs)] s' → Q v s' := k
  clear k
  have tail : ∀ (s : Shared) (l : List Nat) (ln : Int) (ts tl tt tp : Tok) (p : Nat) (qd : Bool) (nx : Option Value), (l ≠ [] ∨ (px = true ∧ qd = true)) →
      (∀ s' t tt', S0 w o₀ g [.ins y 694 d2, .dic d2 ioNm [some nl, some (.str buf tb), some (.int p tp)], .ins x 787 d, .dic d lexNm (lexV y inf px eofv wcs t0 t1 t2 t3 t4 t5 t7 t9 (.str (Str.ofString " ") ts) pb ln tl (Str.ofString "") tt' fs)] s' → Q (.str (tx l) t) s') →
      St w o₀ g L [Str.ofString "self", Str.ofString "quoted", Str.ofString "escapedstate", Str.ofString "nextchar", Str.ofString "result"] [some (.ref x), some (.bool qd), some (.str (Str.ofString " ") t), nx, none]
        [.ins y 694 d2, .dic d2 ioNm [some nl, some (.str buf tb), some (.int p tp)], .ins x 787 d, .dic d lexNm (lexV y inf px eofv wcs t0 t1 t2 t3 t4 t5 t7 t9 (.str (Str.ofString " ") ts) pb ln tl (tx l) tt fs)] s → KB .next s := by
    intro s l ln ts tl tt tp p qd nx hc kq S
    apply hB
    cases qd
    · have hz4 := tx_nz (hc.resolve_right fun q => Bool.false_ne_true q.2)
      try (fail "run")
      all_goals exact kq _ _ _ S.out
    · try (fail "run")
      all_goals exact kq _ _ _ S.out
  refine front_intro (F := fun (G : Str → Shared → Prop) W => ∀ (c : Nat) (cs : List Nat) (s : Shared) (p : Nat) (ln : Int) (z : Str) (qd : Bool) (tok : Str) (ts tl tt tp : Tok) (nx : Option Value), buf.cps.toList.drop p = c :: cs → St w o₀ g L [Str.ofString "self", Str.ofString "quoted", Str.ofString "escapedstate", Str.ofString "nextchar", Str.ofString "result"] [some (.ref x), some (.bool qd), some (.str (Str.ofString " ") t), nx, none]
      [.ins y 694 d2, .dic d2 ioNm [some nl, some (.str buf tb), some (.int p tp)], .ins x 787 d, .dic d lexNm (lexV y inf px eofv wcs t0 t1 t2 t3 t4 t5 t7 t9 (.str z ts) pb ln tl tok tt fs)] s →
      (∀ s t' tp' tl' ln', ln' = ln + nlc c → buf.cps.toList.drop (p + 1) = cs → p < buf.length → St w o₀ g L [Str.ofString "self", Str.ofString "quoted", Str.ofString "escapedstate", Str.ofString "nextchar", Str.ofString "result"] [some (.ref x), some (.bool qd), some (.str (Str.ofString " ") t), some (.str (ch c) t'), none]
      [.ins y 694 d2, .dic d2 ioNm [some nl, some (.str buf tb), some (.int (p + 1 : Nat) tp')], .ins x 787 d, .dic d lexNm (lexV y inf px eofv wcs t0 t1 t2 t3 t4 t5 t7 t9 (.str z ts) pb ln' tl' tok tt fs)] s → G z s) → W s) ?G ?f ?m
  case f =>
    intro c cs s p ln z qd tok ts tl tt tp nx hinp S k
    apply w_step; try (fail "run")
    refine use (sub := [.ins _ 694 _, .dic _ ioNm _]) S (by fail "pk") ?_; intro gc C hg hr bk; clear S; apply wc_of; apply read_one hb' hinp C (hA.le (by decide)); intro s t tp' hd2 hlt C'; fail "back"; try (fail "run")
    by_cases h10 : c = 10
    · have hz2 := f_nl h10
      try (fail "run")
      exact k _ _ _ _ _ (by rw [nlc_t h10]) hd2 hlt S
    · have hz2 := f_nnl h10
      try (fail "run")
      exact k _ _ _ _ _ (by rw [nlc_f h10, Int.add_zero]) hd2 hlt S
  intro front
  induction hrun generalizing s p ln ts tl tt tp nx with
  | eof =>
    rw [Int.add_zero] at hN; subst hN
    simp only [stS] at S
    apply w_step; try (fail "run")
    refine use (sub := [.ins _ 694 _, .dic _ ioNm _]) S (by fail "pk") ?_; intro gc C hg hr bk; clear S; apply wc_of; apply read_end hb' hinp hp C (hA.le (by decide)); intro s t tp' C'; fail "back"; try (fail "run")
    apply hB
    try (fail "run")
    all_goals subst hpx; first | exact fin _ _ _ (0 : Tok) _ _ _ _ p hp hinp rfl S.out | exact fin _ _ (0 : Tok) (0 : Tok) _ _ _ _ p hp hinp rfl S.out
  | @spWs c cs r rest n h1 hrn ih =>
    simp only [stS] at S
    have hz1 := f_ws h1
    fail "turn"
    all_goals fail "again"
  | @spWord c cs r rest n h1 h2 h3 h4 hrn ih =>
    simp only [stS] at S
    have hz1 := f_ws h1
    have hn0 := nlc_f (c := c) (fun q => by subst q; cases h1)
    have hz3 := f_com h2
    have hz4 := f_esc h3
    have hz5 := f_wc h4
    fail "turn"
    all_goals fail "again"
  | @spSign c cs h1 h2 h3 h4 h5 =>
    simp only [stS] at S
    have hz1 := f_ws h1
    have hn0 := nlc_f (c := c) (fun q => by subst q; cases h1)
    have hz3 := f_com h2
    have hz4 := f_esc h3
    have hz5 := f_nwc h4
    have hz6 := f_q h5
    have hz7 := f_pu (c := c)
    fail "turn"
    all_goals obtain rfl : ln' = N := by lia
    all_goals exact tail _ [c] _ _ _ _ _ (p + 1) _ _ (.inl (List.cons_ne_nil _ _)) (fun s' t tt' C => fin _ _ t _ _ tt' _ _ (p + 1) hlt hd2 rfl C) S
  | @spQ c cs r rest n h1 h2 hrn ih =>
    simp only [stS] at S
    have hz1 := f_ws (q_nws h1).1
    have hn0 := nlc_f (c := c) (q_nws h1).2.2.2
    have hz3 := f_com (q_nws h1).2.1
    have hz4 := f_esc (q_nws h1).2.2.1
    have hz5 := f_nwc h2
    have hz6 := f_q h1
    have hz7 := f_pu (c := c)
    fail "turn"
    all_goals subst hpx
    all_goals simp only [if_true, Bool.false_eq_true, if_false] at ih
    all_goals fail "again"
  | @aWs qd tok c cs h1 h2 =>
    simp only [stS] at S
    have hz1 := f_ws h1
    have hl : (tx tok).length ≤ sizeLine := by rw [tx_len]; lia
    by_cases ht : tok = []
    · obtain ⟨rfl, rfl⟩ : px = true ∧ qd = true := by
        rcases h2 with h2 | h2
        · exact absurd ht h2
        · exact h2
      subst ht
      fail "turn"
      all_goals (obtain rfl : ln' = N := by lia); exact tail _ [] _ _ _ _ _ (p + 1) _ _ (.inr ⟨rfl, rfl⟩) (fun s' t tt' C => fin _ _ t _ _ tt' _ _ (p + 1) hlt hd2 rfl C) S
    · have hz3 := tx_nl ht
      have hz4 := tx_nz ht
      cases qd
      all_goals fail "turn"
      all_goals (obtain rfl : ln' = N := by lia); exact tail _ tok _ _ _ _ _ (p + 1) _ _ (.inl ht) (fun s' t tt' C => fin _ _ t _ _ tt' _ _ (p + 1) hlt hd2 rfl C) S
  | @aQ qd tok c cs r rest n h1 h2 hrn ih =>
    subst h1
    simp only [stS] at S
    have hz1 := f_ws (q_nws h2).1
    have hn0 := nlc_f (c := c) (q_nws h2).2.2.2
    have hz3 := f_com (q_nws h2).2.1
    have hz6 := f_q h2
    fail "turn"
    all_goals fail "again"
  | @aWord qd tok c cs r rest n h1 h2 h3 h4 h5 hrn ih =>
    simp only [stS] at S
    have hl : (tx tok).length + (ch c).length ≤ sizeLine := by rw [tx_len, len_ch, sizeLine_eq]; lia
    have hz1 := f_ws h1
    have hn0 := nlc_f (c := c) (fun q => by subst q; cases h1)
    have hz3 := f_com h3
    have hz4 := f_esc h4
    have hz5 := f_wc h5
    have hz6 := f_q h2
    fail "turn"
    all_goals rw [tx_add1] at S
    all_goals fail "again"
  | @qEnd qd tok c cs r rest n h1 h2 hrn ih =>
    subst h1
    simp only [stS] at S
    have hz1 := f_qsp h2
    have hn0 := nlc_f (c := c) (q_nws h2).2.2.2
    have hz3 := f_q h2
    have hz4 : (ch c == ch c) = true := beq_self_eq_true _
    fail "turn"
    all_goals fail "again"
  | @qEndN qd tok c cs h1 h2 =>
    subst h1
    simp only [stS] at S
    have hl : (tx tok).length + (ch c).length ≤ sizeLine := by rw [tx_len, len_ch, sizeLine_eq]; lia
    have hz1 := f_qsp h2
    have hn0 := nlc_f (c := c) (q_nws h2).2.2.2
    have hz3 := f_q h2
    have hz4 : (ch c == ch c) = true := beq_self_eq_true _
    fail "turn"
    all_goals obtain rfl : ln' = N := by lia
    all_goals rw [tx_add1] at S
    all_goals exact tail _ (tok ++ [c]) _ _ _ _ _ (p + 1) _ _ (.inl (by simp)) (fun s' t tt' C => fin _ _ t _ _ tt' _ _ (p + 1) hlt hd2 rfl C) S
  | @qIn d qd tok c cs r rest n h1 h2 h3 hrn ih =>
    simp only [stS] at S
    have hl : (tx tok).length + (ch c).length ≤ sizeLine := by rw [tx_len, len_ch, sizeLine_eq]; lia
    have hz1 := f_qsp h1
    have hz3 := f_q h1
    have hz4 : (ch c == ch d) = false := eq_lit rfl _ (beq_eq_false_iff_ne.mpr h2)
    have hz5 : ∃ b, Txt.contains (Str.ofString "\\") (ch c) = b ∧ (b = true → Txt.contains (Str.ofString "\"") (ch d) = false) := by
      by_cases q : c = 92
      · exact ⟨_, rfl, fun _ => f_eq (fun z => h3 z q)⟩
      · exact ⟨_, f_esc q, fun z => by cases z⟩
    obtain ⟨b, hz5, hz6⟩ := hz5
    cases b
    · fail "turn"
      all_goals rw [tx_add1] at S
      all_goals fail "again"
    · have hz7 := hz6 rfl
      fail "turn"
      all_goals rw [tx_add1] at S
      all_goals fail "again"
end
section
set_option hygiene false in
local macro_rules | `(tactic| fail "vc2") => `(tactic| first | apply v_k_objNew; intro x d | apply v_k_deque; intro a)
set_option hygiene false in
local macro_rules | `(tactic| fail "vq2") => `(tactic| first | apply v_q_isn_self | apply v_q_isn_cls; exact rfl; kernel_rfl!; kernel_rfl!)
set_option hygiene false in
local macro_rules | `(tactic| fail "vs2") => `(tactic| (apply v_wm_objNew))
theorem new_spec {w o₀ g led s A} {v : Value} (C : S0 w o₀ g led s) (hA : Ok A 1) {Q : QV}
    (k : ∀ x d s', S0 w o₀ g (.ins x 694 d :: .dic d ioNm [none, none, none] :: led) s' → Q (.ref x) s') : WD w A (.ref 187) [.ref 694, v] [] Q s := by
  have C1 := C.alloc (.tup s.heap.objs.size [v]) (tupO [v]) rfl rfl rfl
  have C2 := C1.alloc (.dic (s.heap.objs.size + 1) [] []) emptyDict rfl (by show _ = (s.heap.push _).objs.size; rw [Heap.size_push]; rfl) ⟨fun _ => 0, 0, rfl⟩
  refine enterG C C2 hA [Str.ofString "cls", Str.ofString "args", Str.ofString "kwargs"] [Str.ofString "BytesIO", Str.ofString "StringIO", Str.ofString "_wall", Str.ofString "object"] [some (.ref 694), some (.ref s.heap.objs.size), some (.ref (s.heap.objs.size + 1))] (by k_is) (by k_is) rfl (fun M A E Q q => wp_lay (K := KK w.params) _ _ [tupO [v], emptyDict] (C.P.K.keeps C.keep) rfl q) (by kernel_rfl) ?_
  intro env L s e hL hA S; apply hideF; intro KF hretF hendF
  try (fail "run")
  exact k _ _ _ (S.out.thin (.cons₂ _ (.cons₂ _ (.cons _ (.cons _ (List.Sublist.refl _))))))
theorem trans_spec {w o₀ g led s A} {y d : Addr} {t t' : Tok} {x : Str} {b p : Option Value} (hx : Has w.params g led (.ins y 694 d)) (hd : Has w.params g led (.dic d ioNm [some (.str (Str.ofString "\n") t'), b, p])) (C : S0 w o₀ g led s) (hA : Ok A 1) {Q : QV}
    (k : ∀ s', S0 w o₀ g led s' → Q (.str x t) s') : WD w A (.ref 471) [.ref y, .str x t] [] Q s := by
  refine enter C hA [Str.ofString "self", Str.ofString "s", Str.ofString "newline"] [] [some (.ref y), some (.str x t), none] (by k_is) (by k_is) rfl (BindsTo.of_eq rfl) (by kernel_rfl) ?_
  intro env L s e hL hA S; apply hideF; intro KF hretF hendF
  try (fail "run")
  exact k _ S.out
theorem ioinit_spec {w o₀ g s A} {y d : Addr} {t : Tok} {x : Str} (C : S0 w o₀ g [.ins y 694 d, .dic d ioNm [none, none, none]] s) (hA : Ok A 2) {Q : QV}
    (k : ∀ s' t1 t2, S0 w o₀ g [.ins y 694 d, .dic d ioNm [some (.str (Str.ofString "\n") t1), some (.str x t), some (.int (0 : Nat) t2)]] s' → Q .none s') : WD w A (.ref 464) [.ref y, .str x t] [] Q s := by
  refine enter C hA [Str.ofString "self", Str.ofString "initial_value", Str.ofString "newline"] [Str.ofString "type", Str.ofString "str", Str.ofString "_wall", Str.ofString "ValueError"] [some (.ref y), some (.str x t), some (.str (Str.ofString "\n") _)] (by k_is) (by k_is) rfl (binds_K (C.P.K.keeps C.keep) rfl (by k_is) rfl rfl rfl) (by kernel_rfl) ?_
  intro env L s e hL hA S; apply hideF; intro KF hretF hendF
  fail "vin"; fail "go"
  fail "callv"
  apply trans_spec (.frz (hr _ (by fail "mem"))) (.frz (hr _ (by fail "mem"))) C (hA.le (by decide))
  intro s C'
  fail "bck"
  fail "gox"
  exact k _ _ _ S.out
theorem io_spec {w o₀ g s A} {t : Tok} {x : Str} (C : S0 w o₀ g [] s) (hA : Ok A 3) {Q : QV}
    (k : ∀ s' y d t1 t2, S0 w o₀ g [.ins y 694 d, .dic d ioNm [some (.str (Str.ofString "\n") t1), some (.str x t), some (.int (0 : Nat) t2)]] s' → Q (.ref y) s') : WD w A (.ref 694) [.str x t] [] Q s := by
  refine io_make (n := 2) C hA (fun A s Q hA C k => new_spec C (hA.le (by decide)) k) fun A x d s' hA C => ?_
  exact ioinit_spec C hA fun s' t1 t2 C => ⟨rfl, k _ _ _ _ _ C⟩
end
section
set_option hygiene false in
local macro_rules | `(tactic| fail "vc2") => `(tactic| (apply v_k_deque; intro a))
set_option hygiene false in
local macro_rules | `(tactic| fail "vtr2") => `(tactic| (apply v_t_deque; fail "has"))
set_option hygiene false in
local macro_rules | `(tactic| fail "g2") => `(tactic| (apply r_prop; exact S; fail "has"; fail "has"; exact po_punct; clear S; intro s S; refine use (sub := []) S Picks.nil ?_; intro gc C hg hr bk; clear S; apply punct_spec (.frz (hr _ (by fail "mem"))) (.frz (hr _ (by fail "mem"))) (by fail "lk") C ((hA.le (m := 2) (by decide)).in1); intro s C'; fail "back"; refine ⟨rfl, ?_⟩))
/- the word signs -/
noncomputable def wcS (px : Bool) : Str := if px then Str.ofString "abcdfeghijklmnopqrstuvwxyzABCDEFGHIJKLMNOPQRSTUVWXYZ0123456789_" ++ Str.ofString "ßàáâãäåæçèéêëìíîïðñòóôõöøùúûüýþÿÀÁÂÃÄÅÆÇÈÉÊËÌÍÎÏÐÑÒÓÔÕÖØÙÚÛÜÝÞ" else Str.ofString "abcdfeghijklmnopqrstuvwxyzABCDEFGHIJKLMNOPQRSTUVWXYZ0123456789_"
/- a lexer at work: its stream, itself, its two deques -/
noncomputable abbrev lexL (x d y d2 pb fs : Addr) (inf : Value) (px : Bool) (eofv nl : Value) (buf : Str) (tb : Tok) (p : Nat) (tp t0 t1 t2 t3 t4 t5 t7 t9 : Tok) (st : Value) (ln : Int) (tl tt : Tok) : Led :=
  [.ins y 694 d2, .dic d2 ioNm [some nl, some (.str buf tb), some (.int p tp)], .ins x 787 d, .dic d lexNm (lexV y inf px eofv (wcS px) t0 t1 t2 t3 t4 t5 t7 t9 st pb ln tl (Str.ofString "") tt fs), .raw fs dqO, .raw pb dqO]
theorem lexinit_spec {w o₀ g s A} {x d : Addr} {t : Tok} {tx : Str} {inf : Value} {px : Bool} (C : S0 w o₀ g [.ins x 787 d, .dic d lexNm (List.replicate 19 none)] s) (hA : Ok A 4) {Q : QV}
    (k : ∀ s' y d2 pb fs eofv t0 t1 t2 t3 t4 t5 t7 t9 tl tt ts tn tp te, eofv = (if px then .none else .str (Str.ofString "") te) →
      S0 w o₀ g (lexL x d y d2 pb fs inf px eofv (.str (Str.ofString "\n") tn) tx t 0 tp t0 t1 t2 t3 t4 t5 t7 t9 (.str (Str.ofString " ") ts) 1 tl tt) s' → Q .none s') : WD w A (.ref 711) [.ref x, .str tx t, inf, .bool px] [] Q s := by
  refine enter C hA [Str.ofString "self", Str.ofString "instream", Str.ofString "infile", Str.ofString "posix", Str.ofString "punctuation_chars"] [Str.ofString "isinstance", Str.ofString "str", Str.ofString "StringIO", Str.ofString "_wall", Str.ofString "deque", Str.ofString "dict"] [some (.ref x), some (.str tx t), some inf, some (.bool px), some (.bool false)] (by k_is) (by k_is) rfl (binds_K (C.P.K.keeps C.keep) rfl (by k_is) rfl rfl rfl) (by kernel_rfl) ?_
  intro env L s e hL hA S; apply hideF; intro KF hretF hendF
  simp only [List.replicate] at S
  fail "vin"; fail "go"
  fail "callv"
  apply io_spec C (hA.le (by decide))
  intro s y d2 t1 t2 C'
  fail "bck"
  fail "gox"
  cases px
  all_goals try (fail "run")
  all_goals have S := S.only (sub := [.ins _ 694 _, .dic _ ioNm _, .ins _ 787 _, .dic _ lexNm _, .raw _ _, .raw _ _]) (by fail "pk")
  · exact k _ _ _ _ _ _ _ _ _ _ _ _ _ _ _ _ _ _ _ _ rfl S.out
  · exact k _ _ _ _ _ _ _ _ _ _ _ _ _ _ _ _ _ _ _ (0 : Tok) rfl S.out
theorem lex_spec {w o₀ g s A} {t : Tok} {tx : Str} {inf : Value} {px : Bool} (C : S0 w o₀ g [] s) (hA : Ok A 5) {Q : QV}
    (k : ∀ s' x d y d2 pb fs eofv t0 t1 t2 t3 t4 t5 t7 t9 tl tt ts tn tp te, eofv = (if px then .none else .str (Str.ofString "") te) →
      S0 w o₀ g (lexL x d y d2 pb fs inf px eofv (.str (Str.ofString "\n") tn) tx t 0 tp t0 t1 t2 t3 t4 t5 t7 t9 (.str (Str.ofString " ") ts) 1 tl tt) s' → Q (.ref x) s') : WD w A (.ref 787) [.str tx t, inf, .bool px] [] Q s := by
  refine w_make (n := 4) lexNm (List.replicate 19 none) C hA rfl (by kernel_rfl) (fI := 711) (by kernel_rfl) (by kernel_rfl) fun A x d s' hA C => ?_
  exact lexinit_spec C hA fun s' y d2 pb fs eofv t0 t1 t2 t3 t4 t5 t7 t9 tl tt ts tn tp te he C => ⟨rfl, k _ _ _ _ _ _ _ _ _ _ _ _ _ _ _ _ _ _ _ _ _ _ he C⟩
/- what read_token and get_token give back -/
noncomputable def tokV (px : Bool) (r : Option (List Nat)) (t : Tok) : Value := match r with
  | none => if px then .none else .str (Str.ofString "") t
  | some l => .str (Mine.tx l) t
theorem get_spec {w o₀ g s A} {x d y d2 pb fs : Addr} {nl inf eofv : Value} {buf : Str} {px : Bool} {tb tp ts tl tt te : Tok} {t0 t1 t2 t3 t4 t5 t7 t9 : Tok} {p : Nat} {ln N : Int} {r : Option (List Nat)} {rest : List Nat} {n : Int}
    (hb : buf.length ≤ 1000000) (hp : p ≤ buf.length) (hrun : Run px (wcS px).cps.toList .sp false [] (buf.cps.toList.drop p) r rest n) (hN : ln + n = N) (hne : px = false → r ≠ some []) (he : eofv = (if px then .none else .str (Str.ofString "") te))
    (C : S0 w o₀ g (lexL x d y d2 pb fs inf px eofv nl buf tb p tp t0 t1 t2 t3 t4 t5 t7 t9 (.str (Str.ofString " ") ts) ln tl tt) s) (hA : Ok A 4) {Q : QV}
    (k : ∀ s' t ts tl tt st tp' p', p' ≤ buf.length → buf.cps.toList.drop p' = rest → (r.isSome = true → st = .str (Str.ofString " ") ts) →
      S0 w o₀ g (lexL x d y d2 pb fs inf px eofv nl buf tb p' tp' t0 t1 t2 t3 t4 t5 t7 t9 st N tl tt) s' → Q (tokV px r t) s') :
    WD w A (.ref 748) [.ref x] [] Q s := by
  refine enter C hA [Str.ofString "self", Str.ofString "tok", Str.ofString "raw", Str.ofString "spec", Str.ofString "newfile", Str.ofString "newstream"] [Str.ofString "print", Str.ofString "repr"] [some (.ref x), none, none, none, none, none] (by k_is) (by k_is) rfl (BindsTo.of_eq rfl) (by kernel_rfl) ?_
  intro env L s e hL hA S; apply hideF; intro KF hretF hendF
  fail "vin"; fail "go"
  refine v_use (sub := [.ins _ 694 _, .dic _ ioNm _, .ins _ 787 _, .dic _ lexNm _]) (by fail "pk") ?_; intro s gc C hg hr bk; apply wc_of
  apply token_spec hb hp hrun hN C (hA.le (by decide))
  intro s v t ts tl tt st tp' p' hp' hd hv C'
  fail "bck"
  fail "gox"
  apply x_while
  cases r with
  | none =>
    obtain ⟨rfl, rfl⟩ := Prod.mk.inj hv
    cases px
    · subst he
      apply w_step
      try (fail "run")
      exact k _ _ (0 : Tok) _ _ _ _ _ hp' hd (fun q => by cases q) S.out
    · subst he
      apply w_step
      try (fail "run")
      exact k _ (0 : Tok) (0 : Tok) _ _ _ _ _ hp' hd (fun q => by cases q) S.out
  | some l =>
    obtain ⟨rfl, rfl⟩ := Prod.mk.inj hv
    cases px
    · subst he
      have hz := tx_nz (l := l) (fun q => hne rfl (by rw [q]))
      apply w_step
      try (fail "run")
      exact k _ _ _ _ _ _ _ _ hp' hd (fun _ => rfl) S.out
    · subst he
      apply w_step
      try (fail "run")
      exact k _ _ _ _ _ _ _ _ hp' hd (fun _ => rfl) S.out
end
section
set_option hygiene false in
local macro_rules | `(tactic| fail "s2") => `(tactic| first | apply b_lead; exact S; exact hf; exact hn; exact hm; clear S; intro s t S)
theorem leader_spec {w o₀ g led s A} {x d : Addr} {av : List (Option Value)} {inf : Value} {f : Str} {n : Int} {tl : Tok} (hf : Fil inf f) (hn : 0 ≤ n) (hm : n < 10 ^ 10) (hi : handedIn inf = true)
    (hx : Has w.params g led (.ins x 787 d)) (hd : Has w.params g led (.dic d lexNm av)) (h1 : Lk lexNm av (Str.ofString "infile") inf) (h2 : Lk lexNm av (Str.ofString "lineno") (.int n tl)) (C : S0 w o₀ g led s) (hA : Ok A 2) {Q : QV}
    (k : ∀ s' t, S0 w o₀ g led s' → Q (.str (leadT f n) t) s') : WD w A (.ref 770) [.ref x] [] Q s := by
  refine enter C hA [Str.ofString "self", Str.ofString "infile", Str.ofString "lineno"] [] [some (.ref x), some .none, some .none] (by k_is) (by k_is) rfl (binds_K (C.P.K.keeps C.keep) rfl (by k_is) rfl rfl rfl) (by kernel_rfl) ?_
  intro env L s e hL hA S; apply hideF; intro KF hretF hendF
  try (fail "run")
  apply r_get; exact S; exact hx; exact hd; exact h1; fail "ao"; fail "nd"; exact hi; clear S; intro s S
  try (fail "run")
  apply r_get; exact S; exact hx; exact hd; exact h2; fail "ao"; fail "nd"; exact rfl; clear S; intro s S
  try (fail "run")
  exact k _ _ S.out
end
section
set_option hygiene false in
local macro_rules | `(tactic| fail "vc2") => `(tactic| (apply v_k_find; exact hx; exact hz; exact hn; intro v hv))
set_option hygiene false in
local macro_rules | `(tactic| fail "vs2") => `(tactic| (apply v_cw_find; exact rfl))
theorem quote_spec {w o₀ g led s A} {x : Str} {t : Tok} (hx : WordOk x) (hn : x.cps.size ≤ 1000) (C : S0 w o₀ g led s) (hA : Ok A 1) {Q : QV}
    (k : ∀ s' t', S0 w o₀ g led s' → Q (.str (quoteT x) t') s') : WD w A (.ref 799) [.str x t] [] Q s := by
  refine enter C hA [Str.ofString "s"] [Str.ofString "_find_unsafe"] [some (.str x t)] (by k_is) (by k_is) rfl (BindsTo.of_eq rfl) (by kernel_rfl) ?_
  intro env L s e hL hA S; apply hideF; intro KF hretF hendF
  have hlen : x.length ≤ sizeLine := by show x.cps.size ≤ _; rw [sizeLine_eq]; lia
  have hl2 : x.length ≤ 1000 := hn
  unfold quoteT at k
  try (fail "run")
  apply ite_by <;> intro h1
  · have hz : (x.length == 0) = false := by
      have : (x.length : Int) ≠ 0 := by simpa using h1
      exact beq_eq_false_iff_ne.mpr (by lia)
    rw [hz] at k
    try (fail "run")
    apply ite_by <;> intro h2
    · rw [h2] at hv
      rw [← hv] at k
      try (fail "run")
      exact k _ _ S.out
    · rw [h2] at hv
      rw [← hv] at k
      apply x_nil; apply t_next; apply x_return
      apply r_bin; apply r_bin
      apply r_strT S; clear S; intro s h3 S
      apply r_meth; exact rfl
      apply r_local; exact S; exact e; fail "lk"
      apply m_replace
      apply cw_val; exact rfl; exact rfl
      apply a_cons; exact rfl
      apply r_strT S; clear S; intro s' h4 S
      apply a_cons; exact rfl
      apply r_strT S; clear S; intro s'' h5 S
      apply a_nil
      apply k_replace S (by rw [h3]; exact Nat.succ_ne_zero _) (by rw [h4]; exact Nat.succ_ne_zero _) (by rw [h4]; exact Nat.ne_of_lt (Nat.lt_succ_self _)) (by decide +kernel) hl2 (by decide +kernel); clear S; intro s t2 S
      have hr : (Txt.replace x (Str.ofString "'") (Str.ofString "'\"'\"'")).length ≤ 100000 := by
        have := replace_len x (Str.ofString "'") (Str.ofString "'\"'\"'")
        have : (x.length + 1) * (Str.ofString "'\"'\"'").length ≤ 1001 * 5 := Nat.mul_le_mul (by lia) (by decide)
        lia
      have hr1 : (Str.ofString "'").length + (Txt.replace x (Str.ofString "'") (Str.ofString "'\"'\"'")).length ≤ sizeLine := by
        rw [sizeLine_eq]; have : (Str.ofString "'").length = 1 := rfl
        lia
      have hr2 : (Str.ofString "'" ++ Txt.replace x (Str.ofString "'") (Str.ofString "'\"'\"'")).length + (Str.ofString "'").length ≤ sizeLine := by
        rw [sizeLine_eq, Str.length_append]; have : (Str.ofString "'").length = 1 := rfl
        lia
      try (fail "run")
      exact k _ _ S.out
  · have hz : (x.length == 0) = true := by
      have : (x.length : Int) = 0 := by simpa using h1
      exact beq_iff_eq.mpr (by lia)
    rw [hz] at k
    try (fail "run")
    exact k _ _ S.out
end
section
set_option hygiene false in
local macro_rules | `(tactic| fail "vs2") => `(tactic| (apply v_b_mod_int; exact rfl; intro t))
theorem folder_spec {w o₀ g led s A} {i : Nat} {t : Tok} (hi : i < 10) (C : S0 w o₀ g led s) (hA : Ok A 1) {Q : QV}
    (k : ∀ s' D l, Strs l (folderT i) → S0 w o₀ g (.lst D l :: led) s' → Q (.ref D) s') : WD w A (.ref 806) [.int (i : Nat) t] [] Q s := by
  refine enter C hA [Str.ofString "which", Str.ofString "folders"] [] [some (.int (i : Nat) t), none] (by k_is) (by k_is) rfl (BindsTo.of_eq rfl) (by kernel_rfl) ?_
  intro env L s e hL hA S; apply hideF; intro KF hretF hendF
  try (fail "run")
  have hc : i = 0 ∨ i = 1 ∨ i = 2 ∨ i = 3 ∨ i = 4 ∨ i = 5 ∨ i = 6 ∨ i = 7 ∨ i = 8 ∨ i = 9 := by lia
  rcases hc with rfl | rfl | rfl | rfl | rfl | rfl | rfl | rfl | rfl | rfl
  all_goals
    apply s_item; exact S; fail "has"; exact rfl; decide; decide; exact rfl
    apply hretF; apply k
    rotate_left
    apply S0.thin S.out; fail "sb"
    apply Strs.cast; fail "strs"; exact rfl
theorem base_spec {w o₀ g led s A} {i : Nat} {t : Tok} (hi : i < 10) (C : S0 w o₀ g led s) (hA : Ok A 1) {Q : QV}
    (k : ∀ s' t, S0 w o₀ g led s' → Q (.str (baseT i) t) s') : WD w A (.ref 813) [.int (i : Nat) t] [] Q s := by
  refine enter C hA [Str.ofString "which"] [] [some (.int (i : Nat) t)] (by k_is) (by k_is) rfl (BindsTo.of_eq rfl) (by kernel_rfl) ?_
  intro env L s e hL hA S; apply hideF; intro KF hretF hendF
  try (fail "run")
  have hc : i = 0 ∨ i = 1 ∨ i = 2 ∨ i = 3 ∨ i = 4 ∨ i = 5 ∨ i = 6 ∨ i = 7 ∨ i = 8 ∨ i = 9 := by lia
  rcases hc with rfl | rfl | rfl | rfl | rfl | rfl | rfl | rfl | rfl | rfl
  all_goals
    apply s_item; exact S; fail "has"; exact rfl; decide; decide; exact rfl
    exact hretF _ _ (k _ _ (S.out.thin (by fail "sb")))
end
section
set_option hygiene false in
local macro_rules | `(tactic| fail "vs2") => `(tactic| first | apply v_b_mod_int; exact rfl; intro t | apply v_b_pow_int; lia; lia; exact rfl; intro t | apply v_b_mul_int; exact .of_left (by decide); intro t)
set_option hygiene false in
local macro_rules | `(tactic| fail "c2") => `(tactic| first | apply k_range; exact S; clear S; intro s r t0 t1 hr S)
set_option hygiene false in
local macro_rules | `(tactic| fail "idx") => `(tactic| first | (with_reducible exact a0); (with_reducible exact a1); exact g0 | (with_reducible exact b0); (with_reducible exact b1); exact g1 | (with_reducible exact idx45.1); (with_reducible exact idx45.2.1); exact gk | (with_reducible exact idx45.2.2.1); (with_reducible exact idx45.2.2.2); exact gk | (with_reducible exact Int.natCast_nonneg _); (with_reducible exact hk63); exact hdk)
theorem ways_take (F : Nat → Str) {a b : Str} {k : Nat} (h0 : F 0 = a) (h1 : F 1 = b) (hk : k < 2) : [a, b].take (k + 1) = [a, b].take k ++ [F k] := by
  subst h0; subst h1
  match k, hk with
  | 0, _ => rfl
  | 1, _ => rfl
theorem ways_two {n : Int} {k : Nat} (hk : k < 2) : ([wayT (folderT (fig n 4 % 9)) (fun i => fig n (6 + i)), wayT (folderT (fig n 5 % 9)) (fun i => fig n (9 + i))] : List Str).take (k + 1) = ([wayT (folderT (fig n 4 % 9)) (fun i => fig n (6 + i)), wayT (folderT (fig n 5 % 9)) (fun i => fig n (9 + i))] : List Str).take k ++ [wayT (folderT (fig n (4 + k) % 9)) (fun i => fig n (6 + 3 * k + i))] :=
  ways_take (fun k => wayT (folderT (fig n (4 + k) % 9)) (fun i => fig n (6 + 3 * k + i))) rfl rfl hk
theorem idx45 : (0 : Int) ≤ 4 ∧ (4 : Int) < 2 ^ 63 ∧ (0 : Int) ≤ 5 ∧ (5 : Int) < 2 ^ 63 := by decide
theorem idx_nat {r : Nat} (h : r + 1 < 12) : (0 : Int) ≤ (r : Int) ∧ (r : Int) < 2 ^ 63 ∧ (0 : Int) ≤ (r : Int) + 1 ∧ (r : Int) + 1 < 2 ^ 63 := by lia
theorem pw10 {k : Nat} (hk : k < 12) : ((10 : Int) ^ ((k : Nat) : Int).toNat == 0) = false ∧ Nat.blt ((10 : Int) ^ ((k : Nat) : Int).toNat).natAbs (2 ^ 64) = true := by
  have : ∀ k, k < 12 → ((10 : Int) ^ ((k : Nat) : Int).toNat == 0) = false ∧ Nat.blt ((10 : Int) ^ ((k : Nat) : Int).toNat).natAbs (2 ^ 64) = true := by decide +kernel
  exact this k hk
theorem fmod9 {k : Nat} : ((k : Nat) : Int).fmod 9 = ((k % 9 : Nat) : Int) := by
  rw [Int.fmod_eq_emod_of_nonneg _ (by decide)]; lia
theorem settings_spec {w o₀ g s A} {n : Int} {tn : Tok} (C : S0 w o₀ g [] s) (hA : Ok A 10) {Q : QV}
    (k : ∀ s' T Dm Df Dw D1 D2 lm lw l1 l2, Strs lm [modT (fig n 0) (fig n 1), modT (fig n 2) (fig n 3)] → Strs l1 (folderT (fig n 4 % 9)) → Strs l2 (folderT (fig n 5 % 9)) →
      Strs lw [wayT (folderT (fig n 4 % 9)) (fun i => fig n (6 + i)), wayT (folderT (fig n 5 % 9)) (fun i => fig n (9 + i))] →
      S0 w o₀ g [.tup T [.ref Dm, .ref Df, .ref Dw], .lst Dm lm, .lst Df [.ref D1, .ref D2], .lst Dw lw, .lst D1 l1, .lst D2 l2] s' → Q (.ref T) s') : WD w A (.ref 818) [.int n tn] [] Q s := by
  refine enterC C hA [Str.ofString "modules", Str.ofString "behind", Str.ofString "folders", Str.ofString "ways"] [Str.ofString "range", Str.ofString "_law_base", Str.ofString "_law_folder", Str.ofString "len"] [none, none, none, none] [(Str.ofString "number", .int n tn)]
    (fun L => [(Str.ofString "row", L + 5), (Str.ofString "turns", L + 4), (Str.ofString "figures", L + 3), (Str.ofString "k", L + 2), (Str.ofString "number", L + 1)]) [Str.ofString "row", Str.ofString "turns", Str.ofString "figures", Str.ofString "k", Str.ofString "number"] [none, none, none, none, some (.int n tn)]
    (by k_is) (by k_is) rfl (BindsTo.of_eq rfl) rfl (by kernel_rfl) (fun L => rfl) (fun L => rfl) (fun L => rfl) rfl (fun L => rfl) ?_
  intro env L s e ec hL hA S; apply hideF; intro KF hretF hendF
  simp only [celLed_c, celLed_0, celLed_00, List.cons_append, List.nil_append] at S
  refine x_assign_cell ec (c := L + 3) (by fail "mem") ?_
  refine r_comp rfl (closureFor_cl ec (cs := [(Str.ofString "number", L + 1)]) rfl) (by decide) ?_
  try (fail "run")
  apply it_range (by decide) S; clear S; intro s I hI S
  refine use (sub := [.raw I _]) S (by fail "pk") ?_
  intro gc C hg hr bk
  clear S
  refine co_p (L := L) (n := 12) (Ic := fun k => .raw I (rngO (k : Nat) ((12 - k : Nat) : Int))) [] (by decide) (by decide) e C (iterP_range hA) (fun k ys led => k ≤ 12 ∧ led = [] ∧ IntsAre ys ((List.range k).map (figI n))) ⟨by lia, rfl, .nil⟩ (fun k ys led h => ?_) ?_ ?_
  · obtain ⟨hk, _, h⟩ := h
    rw [ints_len h]; simp; lia
  · rintro cenv Cc D hE hce k v ys led s hk qq1 qq2 S
    apply hideT; intro KE K0 hval hskip
    obtain ⟨tk, rfl⟩ := qq1
    obtain ⟨hk', rfl, hys⟩ := qq2
    have hc : Has w.params gc [Cell.raw I (rngO ↑(k + 1) ↑(12 - (k + 1))), .lst D ys] (celC (L + 1) (some (.int n tn))) := .frz (hr _ (by fail "mem"))
    have ec := EnC.of (cn := [Str.ofString "number"]) e ec hce (by fail "alls") rfl (by decide)
    clear e
    have e := hE
    clear hce
    apply ts_nil
    apply ite_t
    fail "vin"; fail "go"
    apply v_b_fdiv_int (pw10 hk).1 (pw10 hk).2; intro t
    fail "gox"
    exact ⟨_, S, hk, rfl, by rw [figs_succ]; exact ints_snoc hys⟩
  · rintro D lf led s ⟨_, rfl, hys⟩ C'
    have S := bk _ _ _ C' (by fail "app")
    clear C' bk hr C
    have hfg : (List.range 12).map (figI n) = (List.range 12).map (fun k => ((fig n k : Nat) : Int)) := List.map_congr_left fun k _ => (figI_eq n k).1
    rw [hfg] at hys
    have hf : ∀ k, fig n k < 10 := fun k => (figI_eq n k).2
    have hfx : ∀ k, k < 12 → ∃ u, lf[k]? = some (.int ((fig n k : Nat) : Int) u) := fun k hk => ints_at hys (by rw [List.getElem?_map, List.getElem?_range hk]; rfl)
    have hfi := hys
    clear hys
    try (fail "run")
    apply x_for rfl
    apply r_list
    apply a_cons; exact rfl; apply r_int S; clear S; intro s ta S
    apply a_cons; exact rfl; apply r_int S; clear S; intro s tb S
    apply a_nil
    apply n_list S rfl; clear S; intro s af haf S
    apply it_list S (by fail "has"); clear S; intro s I hI S
    have S := S.only (sub := [.itr I af 0, .lst af _, .lst D _, celC (L + 5) _, celC (L + 4) _, celC (L + 3) _, celC (L + 2) _, celC (L + 1) _, .lst _ []]) (by fail "pk")
    refine with_vs S ?_; clear S; intro vs0 led0 hvs hled S
    subst hled
    refine f_list (items := [.int 0 ta, .int 2 tb]) (J := fun i g' vs' led' => g' = g ∧ Ex4 fun Dm lm bv kv => Strs lm (([modT (fig n 0) (fig n 1), modT (fig n 2) (fig n 3)] : List Str).take i) ∧ vs' = [some (.ref Dm), bv, none, none] ∧
      led' = [.lst af [.int 0 ta, .int 2 tb], .lst D lf, celC (L + 5) none, celC (L + 4) none, celC (L + 3) (some (.ref D)), celC (L + 2) kv, celC (L + 1) (some (.int n tn)), .lst Dm lm])
      hA S ⟨rfl, _, _, _, _, .nil, hvs, rfl⟩ ?_ ?_ ?_
    · rintro i g' vs' led' ⟨rfl, Dm, lm, bv, kv, _, _, rfl⟩
      exact .led (.head _)
    · rintro i v g' vs' led' s hv qq1 S
      apply hideE; intro KL hnext hcont hbrk hret; clear hcont hbrk hret
      obtain ⟨rfl, Dm, lm, bv, kv, hlm, rfl, rfl⟩ := qq1
      have hlmz : lm.length ≤ sizeLine := by rw [hlm.length, sizeLine_eq]; simp; lia
      obtain ⟨r, tv, rfl, hr12, htk⟩ : ∃ (r : Nat) (tv : Tok), v = .int (r : Int) tv ∧ r + 1 < 12 ∧ ([modT (fig n 0) (fig n 1), modT (fig n 2) (fig n 3)] : List Str).take (i + 1) = ([modT (fig n 0) (fig n 1), modT (fig n 2) (fig n 3)] : List Str).take i ++ [modT (fig n r) (fig n (r + 1))] := by
        have hi2 : i < 2 := (List.getElem?_eq_some_iff.mp hv).1
        have hi : i = 0 ∨ i = 1 := by lia
        rcases hi with rfl | rfl
        · cases hv; exact ⟨0, _, rfl, by decide, rfl⟩
        · cases hv; exact ⟨2, _, rfl, by decide, rfl⟩
      clear hv
      obtain ⟨u0, g0⟩ := hfx r (Nat.lt_of_succ_lt hr12)
      obtain ⟨u1, g1⟩ := hfx (r + 1) hr12
      obtain ⟨a0, a1, b0, b1⟩ := idx_nat hr12
      try (fail "run")
      apply ite_d <;> intro h1
      all_goals try (fail "run")
      · fail "call0"; apply base_spec (hf _) C (hA.le (by decide)); intro s tb2 C'; fail "bck"
        fail "go"
        fail "callv"; apply folder_spec (hf _) C (hA.le (by decide)); intro s Dq lq hlq C'; fail "bck"
        fail "go"
        apply v_b_add_list (by fail "has") (by fail "has") (by rw [hlq.length]; exact Nat.le_trans (Nat.add_le_add_right (folder_len _) _) (Nat.le_of_ble_eq_true rfl)); intro Dz hDz
        fail "go"
        apply v_k_join (by fail "has") (hlq.append (xs' := behindT (fig n (r + 1))) (by unfold behindT; first | (rw [if_pos (by lia)]; exact .cons .nil) | (rw [if_neg (by lia)]; exact .nil))) (modJoin (hf _) (hf _)); intro tz
        fail "gox"
        have S := S.only (sub := [.itr I af _, .lst af _, .lst D _, celC (L + 5) _, celC (L + 4) _, celC (L + 3) _, celC (L + 2) _, celC (L + 1) _, .lst Dm _]) (by fail "pk")
        exact ⟨_, _, _, S, rfl, _, _, _, _, by rw [htk]; exact hlm.snoc, rfl, rfl⟩
      · fail "vin"; fail "go"
        fail "callv"; apply folder_spec (hf _) C (hA.le (by decide)); intro s Dq lq hlq C'; fail "bck"
        fail "go"
        apply v_b_add_list (by fail "has") (by fail "has") (by rw [hlq.length]; exact Nat.le_trans (Nat.add_le_add_right (folder_len _) _) (Nat.le_of_ble_eq_true rfl)); intro Dz hDz
        fail "go"
        apply v_k_join (by fail "has") (hlq.append (xs' := behindT (fig n (r + 1))) (by unfold behindT; first | (rw [if_pos (by lia)]; exact .cons .nil) | (rw [if_neg (by lia)]; exact .nil))) (modJoin (hf _) (hf _)); intro tz
        fail "gox"
        have S := S.only (sub := [.itr I af _, .lst af _, .lst D _, celC (L + 5) _, celC (L + 4) _, celC (L + 3) _, celC (L + 2) _, celC (L + 1) _, .lst Dm _]) (by fail "pk")
        exact ⟨_, _, _, S, rfl, _, _, _, _, by rw [htk]; exact hlm.snoc, rfl, rfl⟩
    · rintro g' vs' led' s ⟨rfl, Dm, lm, bv, kv, hlm, rfl, rfl⟩ S
      simp only [List.length_cons, List.length_nil, Nat.zero_add, List.take] at hlm
      have S := S.only (sub := [.lst D _, celC (L + 5) _, celC (L + 4) _, celC (L + 3) _, celC (L + 2) _, celC (L + 1) _, .lst Dm _]) (by fail "pk")
      apply t_next
      refine x_assign_comp (swaps_yes e (by fail "mem") rfl (by decide)) rfl (closureFor_cl ec (cs := [(Str.ofString "figures", L + 3)]) rfl) (by decide) ?_
      apply r_list
      apply a_cons; exact rfl; apply r_int S; clear S; intro s ta S
      apply a_cons; exact rfl; apply r_int S; clear S; intro s tb S
      apply a_nil
      apply n_list S rfl; clear S; intro s af haf S
      apply it_list S (by fail "has"); clear S; intro s I hI S
      refine use2 (A := A.deeper env) (env := env) (gl := [Str.ofString "range", Str.ofString "_law_base", Str.ofString "_law_folder", Str.ofString "len"]) (sub := [.itr I af 0]) S (by fail "pk") ?_
      intro gc C hg hr bk bka
      clear S
      refine co_u (L := L) (P := fun k v => [Value.int 4 ta, .int 5 tb][k]? = some v) (n := 2) (Ic := fun k => .itr I af k) [Str.ofString "_law_folder"] (by decide) (by decide) e C (iterP_list hA (hr _ (by fail "mem"))) (fun k ys led => (k = 0 ∧ ys = [] ∧ led = []) ∨ (k = 1 ∧ ∃ D1 l1, ys = [.ref D1] ∧ led = [.lst D1 l1] ∧ Strs l1 (folderT (fig n 4 % 9))) ∨ (k = 2 ∧ ∃ D1 l1 D2 l2, ys = [.ref D1, .ref D2] ∧ led = [.lst D2 l2, .lst D1 l1] ∧ Strs l1 (folderT (fig n 4 % 9)) ∧ Strs l2 (folderT (fig n 5 % 9)))) (.inl ⟨rfl, rfl, rfl⟩) (fun k ys led h => ?_) ?_ ?_
      · rcases h with ⟨_, rfl, _⟩ | ⟨_, _, _, rfl, _⟩ | ⟨_, _, _, _, _, rfl, _⟩ <;> simp
      · rintro cenv Cc D' hE hce k v ys led s hk hv hJ S
        apply hideT; intro KE K0 hval hskip
        have f1 : (Cell.lst D _).ok w.params gc := hr _ (by fail "mem")
        have f2 : (celC (L + 3) (some (.ref D))).ok w.params gc := hr _ (by fail "mem")
        have ec := EnC.of (cn := [Str.ofString "figures"]) e ec hce (by fail "alls") rfl (by decide)
        clear e
        have e := hE
        clear hce bk bka
        apply ts_nil
        apply ite_t
        rcases hJ with ⟨rfl, rfl, rfl⟩ | ⟨rfl, D1, l1, rfl, rfl, hl1⟩ | ⟨rfl, _⟩
        · cases hv
          obtain ⟨uk, gk⟩ := hfx 4 (by decide)
          try (fail "run")
          rw [fmod9]
          fail "call0"; apply folder_spec (Nat.lt_of_lt_of_le (Nat.mod_lt _ (by decide)) (by decide)) C (hA.le (by decide)); intro s D1 l1 hl1 C'; have S := bk _ _ _ C' (by fail "app")
          have S := S.perm (Picks.perm (cs := [.itr I af _, .lst D' _]) (by fail "pk"))
          exact hval _ _ ⟨_, S, .inr (.inl ⟨rfl, _, _, rfl, rfl, hl1⟩)⟩
        · cases hv
          obtain ⟨uk, gk⟩ := hfx 5 (by decide)
          try (fail "run")
          rw [fmod9]
          fail "call0"; apply folder_spec (Nat.lt_of_lt_of_le (Nat.mod_lt _ (by decide)) (by decide)) C (hA.le (by decide)); intro s D2 l2 hl2 C'; have S := bk _ _ _ C' (by fail "app")
          have S := S.perm (Picks.perm (cs := [.itr I af _, .lst D' _]) (by fail "pk"))
          exact hval _ _ ⟨_, S, .inr (.inr ⟨rfl, _, _, _, _, rfl, rfl, hl1, hl2⟩)⟩
        · lia
      · rintro Df ys led s Cc u hJ S
        rcases hJ with ⟨h, _⟩ | ⟨h, _⟩ | ⟨_, D1, l1, D2, l2, rfl, rfl, hl1, hl2⟩
        · lia
        · lia
        refine bka _ _ _ _ _ _ _ _ _ _ _ e S (by fail "app") (by fail "up") ?_
        clear S C bk bka hr
        intro s S
        apply x_assign; exact rfl
        apply r_list
        refine a_strs (by repeat' constructor) S ?_; clear S; intro s lq hlq S
        apply n_strs (xs := turnsT) S (Strs.cast hlq rfl) (by rw [hlq.length]; rfl); clear S hlq lq; intro s Dt lt hDt hlt S
        try (fail "run")
        have S := S.only (sub := [celC (L + 5) _, celC (L + 4) (some (.ref _)), celC (L + 3) _, celC (L + 2) _, celC (L + 1) _, .lst Dm _, .lst Df _, .lst a [], .lst D1 l1, .lst D2 l2, .lst D lf, .lst Dt lt]) (by fail "pk")
        apply x_for rfl
        try (fail "run")
        apply it_range (by decide) S; clear S; intro s I hI S
        refine f_it (n := 2) (Ic := fun k => .raw I (rngO (k : Nat) ((2 - k : Nat) : Int))) (iterP_range hA) (fun v => rfl) (fun k vs led => ∃ kv rv lw, Strs lw (([wayT (folderT (fig n 4 % 9)) (fun i => fig n (6 + i)), wayT (folderT (fig n 5 % 9)) (fun i => fig n (9 + i))] : List Str).take k) ∧ vs = [some (.ref Dm), bv, some (.ref Df), some (.ref a)] ∧
          led = [celC (L + 5) rv, celC (L + 4) (some (.ref Dt)), celC (L + 3) (some (.ref D)), celC (L + 2) kv, celC (L + 1) (some (.int n tn)), .lst Dm lm, .lst Df [.ref D1, .ref D2], .lst a lw, .lst D1 l1, .lst D2 l2, .lst D lf, .lst Dt lt]) S ⟨_, _, _, .nil, rfl, rfl⟩ ?_ ?_
        · rintro k' v vs led s hk qq1 qq2 S
          apply hideE; intro KL hnext hcont hbrk hret; clear hcont hbrk hret
          obtain ⟨tk, rfl⟩ := qq1
          obtain ⟨kv, rv, lw, hlw, rfl, rfl⟩ := qq2
          obtain ⟨Dk, lk, Do, lo, hdk, hlk, htk, hsb, S⟩ : ∃ Dk lk Do lo, ([Value.ref D1, .ref D2])[((k' : Nat) : Int).toNat]? = some (.ref Dk) ∧ Strs lk (folderT (fig n (4 + k') % 9)) ∧
              ([wayT (folderT (fig n 4 % 9)) (fun i => fig n (6 + i)), wayT (folderT (fig n 5 % 9)) (fun i => fig n (9 + i))] : List Str).take (k' + 1) = ([wayT (folderT (fig n 4 % 9)) (fun i => fig n (6 + i)), wayT (folderT (fig n 5 % 9)) (fun i => fig n (9 + i))] : List Str).take k' ++ [wayT (folderT (fig n (4 + k') % 9)) (fun i => fig n (6 + 3 * k' + i))] ∧
              (∀ s c1 c2 c3 vs lw, St w o₀ g' L [Str.ofString "modules", Str.ofString "behind", Str.ofString "folders", Str.ofString "ways"] vs [c1, c2, celC (L + 4) (some (.ref Dt)), celC (L + 3) (some (.ref D)), c3, celC (L + 1) (some (.int n tn)), .lst Dm lm, .lst Df [.ref D1, .ref D2], .lst a lw, .lst Dk lk, .lst Do lo, .lst D lf, .lst Dt lt] s →
                St w o₀ g' L [Str.ofString "modules", Str.ofString "behind", Str.ofString "folders", Str.ofString "ways"] vs [c1, c2, celC (L + 4) (some (.ref Dt)), celC (L + 3) (some (.ref D)), c3, celC (L + 1) (some (.int n tn)), .lst Dm lm, .lst Df [.ref D1, .ref D2], .lst a lw, .lst D1 l1, .lst D2 l2, .lst D lf, .lst Dt lt] s) ∧
              St w o₀ g' L [Str.ofString "modules", Str.ofString "behind", Str.ofString "folders", Str.ofString "ways"] [some (.ref Dm), bv, some (.ref Df), some (.ref a)] [.raw I (rngO ((k' + 1 : Nat) : Int) ((2 - (k' + 1) : Nat) : Int)), celC (L + 5) rv, celC (L + 4) (some (.ref Dt)), celC (L + 3) (some (.ref D)), celC (L + 2) kv, celC (L + 1) (some (.int n tn)), .lst Dm lm, .lst Df [.ref D1, .ref D2], .lst a lw, .lst Dk lk, .lst Do lo, .lst D lf, .lst Dt lt] s := by
            have hkk : k' = 0 ∨ k' = 1 := by lia
            have hw2 := ways_two (n := n) hk
            rcases hkk with rfl | rfl
            · exact ⟨D1, l1, D2, l2, rfl, hl1, hw2, fun s c1 c2 c3 vs lw S => S, S⟩
            · exact ⟨D2, l2, D1, l1, rfl, hl2, hw2, fun s c1 c2 c3 vs lw S => S.only (sub := [c1, c2, celC (L + 4) _, celC (L + 3) _, c3, celC (L + 1) _, .lst Dm lm, .lst Df _, .lst a lw, .lst D1 l1, .lst D2 l2, .lst D lf, .lst Dt lt]) (by fail "pk"), S.only (by fail "pk")⟩
          have hk63 : ((k' : Nat) : Int) < 2 ^ 63 := by lia
          try (fail "run")
          have hz : lk.length ≤ sizeLine := by rw [hlk.length, sizeLine_eq]; have := folder_len (fig n (4 + k') % 9); lia
          have hz3 : lk.length ≤ 3 := by rw [hlk.length]; exact folder_len _
          have hlwz : lw.length ≤ sizeLine := by rw [hlw.length, sizeLine_eq]; exact Nat.le_trans (List.length_take_le' ..) (Nat.le_of_ble_eq_true rfl)
          refine r_comp rfl (closureFor_cl ec (cs := [(Str.ofString "turns", L + 4), (Str.ofString "row", L + 5), (Str.ofString "k", L + 2), (Str.ofString "figures", L + 3)]) rfl) (by decide) ?_
          try (fail "run")
          apply it_range (by lia) S; clear S; intro s I2 hI2 S
          refine use (sub := [.raw I2 _]) S (by fail "pk") ?_
          intro gc C hg hr bk
          clear S
          refine co_p (L := L) (n := lk.length) (Ic := fun k => .raw I2 (rngO (k : Nat) ((lk.length - k : Nat) : Int))) [] (by decide) (by decide) e C (iterP_range hA) (fun i ys led => i ≤ lk.length ∧ led = [] ∧ Strs ys ((List.range i).map fun i => (folderT (fig n (4 + k') % 9)).getD i (Str.ofString "") ++ turnT (fig n (6 + 3 * k' + i)))) ⟨by lia, rfl, .nil⟩ (fun i ys led h => ?_) ?_ ?_
          · obtain ⟨h1, _, h2⟩ := h
            rw [h2.length]; simp; lia
          · rintro cenv Cc Da hE hce i v ys led s hi qq1 qq2 S
            apply hideT; intro KE K0 hval hskip
            obtain ⟨ti, rfl⟩ := qq1
            obtain ⟨_, rfl, hys⟩ := qq2
            have f1 : (Cell.lst D lf).ok w.params gc := hr _ (by fail "mem")
            have f2 : (celC (L + 3) (some (.ref D))).ok w.params gc := hr _ (by fail "mem")
            have f3 : (celC (L + 4) (some (.ref Dt))).ok w.params gc := hr _ (by fail "mem")
            have f4 : (celC (L + 5) (some (.ref Dk))).ok w.params gc := hr _ (by fail "mem")
            have f5 : (celC (L + 2) (some (.int ↑k' tk))).ok w.params gc := hr _ (by fail "mem")
            have f6 : (Cell.lst Dk lk).ok w.params gc := hr _ (by fail "mem")
            have f7 : (Cell.lst Dt lt).ok w.params gc := hr _ (by fail "mem")
            have ec := EnC.of (cn := [Str.ofString "turns", Str.ofString "row", Str.ofString "k", Str.ofString "figures"]) e ec hce (by fail "alls") rfl (by decide)
            clear e
            have e := hE
            clear hce bk
            obtain ⟨tq, hq⟩ := hlk.get (getD_get (by rw [← hlk.length]; exact hi))
            obtain ⟨tf, hfq⟩ := fig_get hfi (i := 6 + 3 * k' + i) (by lia)
            obtain ⟨tt, htq⟩ := hlt.get (turn_get (fig n (6 + 3 * k' + i)))
            have hps := part_short (i := fig n (4 + k') % 9) (k := i) (m := fig n (6 + 3 * k' + i))
            apply ts_nil
            apply ite_t
            fail "vin"; fail "go"
            apply v_s_item (.frz f6) rfl (by lia) (by lia) (by rw [← hq]; rfl)
            fail "go"
            apply v_s_item (.frz f1) rfl (by lia) (by lia) (y := .int ((fig n (6 + 3 * k' + i) : Nat) : Int) tf) (by rw [← hfq]; exact congrArg (fun z : Nat => lf[z]?) (by lia))
            fail "gox"
            rw [fmod4]
            apply s_item S (.frz f7) rfl (by lia) (by lia) (by rw [← htq]; rfl)
            try (fail "run")
            exact ⟨_, S, hi, rfl, by rw [way_succ (f := fun i => fig n (6 + 3 * k' + i))]; exact hys.snoc⟩
          · rintro D' ys led s ⟨_, rfl, hys⟩ C'
            have S := bk _ _ _ C' (by fail "app")
            clear C' bk hr C
            rw [hlk.length] at hys
            fail "vin"; fail "go"
            apply v_k_join (by fail "has") hys (wayJoin (i := fig n (4 + k') % 9) (Nat.mod_lt _ (by decide)) (fun i => fig n (6 + 3 * k' + i))); intro tz
            fail "gox"
            have S := S.only (sub := [.raw I _, celC (L + 5) _, celC (L + 4) _, celC (L + 3) _, celC (L + 2) _, celC (L + 1) _, .lst Dm _, .lst Df _, .lst a _, .lst Dk lk, .lst Do lo, .lst D lf, .lst Dt lt]) (by fail "pk")
            exact ⟨_, _, hsb _ _ _ _ _ _ S, _, _, _, by rw [htk]; exact hlw.snoc, rfl, rfl⟩
        · rintro vs led s ⟨kv, rv, lw, hlw, rfl, rfl⟩ S
          simp only [List.take] at hlw
          try (fail "run")
          have S := S.only (sub := [.tup _ _, .lst Dm _, .lst Df _, .lst _ lw, .lst D1 _, .lst D2 _]) (by fail "pk")
          exact k _ _ _ _ _ _ _ _ _ _ _ hlm hl1 hl2 hlw S.out
end
section
theorem file_spec {w o₀ g led s A} {v : Value} {h : Head} (hh : HeadF (Frz g) v h) (hok : HeadOk h) (C : S0 w o₀ g led s) (hA : Ok A 1) {Q : QV}
    (k : ∀ s' v, FilO v (fileO h) → S0 w o₀ g led s' → Q v s') : WD w A (.ref 837) [v] [] Q s := by
  obtain ⟨p, lp, h1, h2, h3⟩ := hh
  obtain ⟨a, n, rfl, h1⟩ := h1
  obtain ⟨b, n2, rfl, h2⟩ := h2
  have f1 : (Cell.lst a [.ref b, .bool h.file, .bool h.px]).ok w.params g := ⟨_, h1, n, rfl⟩
  have f2 : (Cell.lst b lp).ok w.params g := ⟨_, h2, n2, rfl⟩
  refine enter C hA [Str.ofString "head"] [] [some (.ref a)] (by k_is) (by k_is) rfl (BindsTo.of_eq rfl) (by kernel_rfl) ?_
  intro env L s e hL hA S; apply hideF; intro KF hretF hendF
  unfold fileO at k
  try (fail "run")
  apply ite_by <;> intro q1
  · rw [if_pos q1] at k
    try (fail "run")
    apply k_join S (.frz f2) h3 hok.join.1; clear S; intro s t S
    exact hretF _ _ (k _ _ .some S.out)
  · rw [if_neg (by rw [q1]; exact Bool.false_ne_true)] at k
    try (fail "run")
    exact k _ _ .none S.out
theorem item_sp0 : Txt.item (Str.ofString " \n") 0 = Str.ofString " " := by decide +kernel
theorem item_sp1 : Txt.item (Str.ofString " \n") 1 = Str.ofString "\n" := by decide +kernel
theorem text_spec {w o₀ g s A} {v : Value} {row : List Item} {N : Nat} (hrow : RowF (Frz g) v row) (hN : N ≤ 1000) (hz : row.length ≤ 100) (hok : ∀ it ∈ row, ItemOk N it) (C : S0 w o₀ g [] s) (hA : Ok A 2) {Q : QV}
    (k : ∀ s' t, S0 w o₀ g [] s' → Q (.str (textT row) t) s') : WD w A (.ref 830) [v] [] Q s := by
  obtain ⟨l, ⟨a, n, rfl, h1⟩, hl⟩ := hrow
  have f1 : (Cell.lst a l).ok w.params g := ⟨_, h1, n, rfl⟩
  refine enter C hA [Str.ofString "row", Str.ofString "text", Str.ofString "kind", Str.ofString "value", Str.ofString "last"] [Str.ofString "quote"] [some (.ref a), none, none, none, none] (by k_is) (by k_is) rfl (BindsTo.of_eq rfl) (by kernel_rfl) ?_
  intro env L s e hL hA S; apply hideF; intro KF hretF hendF
  try (fail "run")
  apply x_for rfl
  try (fail "run")
  apply it_list S (.frz f1); clear S; intro s I hI S
  refine f_list (items := l) (J := fun i g' vs' led' => g' = g ∧ Ex4 fun tt kv vv lv => vs' = [some (.ref a), some (.str (textT (row.take i)) tt), kv, vv, lv] ∧ led' = []) hA S ⟨rfl, _, _, _, _, rfl, rfl⟩ ?_ ?_ ?_
  · rintro i g' vs' led' ⟨rfl, _⟩
    exact .frz f1
  · rintro i v g' vs' led' s hv qq1 S
    apply hideE; intro KL hnext hcont hbrk hret; clear hcont hbrk hret
    obtain ⟨rfl, tt, kv, vv, lv, rfl, rfl⟩ := qq1
    obtain ⟨it, hit, t1, t2, t3, b, n2, rfl, h2⟩ := hl.at hv
    have f2 : (Cell.lst b [.str it.k t1, .str it.v t2, .int it.last t3]).ok w.params g' := ⟨_, h2, n2, rfl⟩
    have hio := hok it (List.mem_of_getElem? hit)
    have hil := item_len hio hN
    have htl : (textT (row.take i)).length ≤ 60 * 100 := by
      have := text_len hN (row := row.take i) fun it hi => hok it (List.mem_of_mem_take hi)
      have h3 := List.length_take_le' i row
      lia
    obtain ⟨hlast, hkind⟩ := hio
    obtain ⟨ik, iv, il⟩ := it
    dsimp only at hlast hkind f2
    have e1 : (Str.ofString " ").length = 1 := rfl
    have e2 : (Str.ofString "\n").length = 1 := rfl
    have e3 : (Str.ofString "use ").length = 4 := rfl
    rcases hkind with ⟨rfl, m, hm, rfl⟩ | ⟨rfl, hwd⟩
    · have hn := num_len (n := m) (by lia)
      have z1 : (Str.ofString "use ").length + (Str.ofString (toString (m : Int))).length ≤ sizeLine := by rw [sizeLine_eq]; lia
      have z2 : (Str.ofString "use " ++ Str.ofString (toString (m : Int))).length + (Str.ofString " ").length ≤ sizeLine := by rw [sizeLine_eq, Str.length_append]; lia
      have z3 : (Str.ofString "use " ++ Str.ofString (toString (m : Int))).length + (Str.ofString "\n").length ≤ sizeLine := by rw [sizeLine_eq, Str.length_append]; lia
      rcases hlast with rfl | rfl
      · have z4 : (textT (row.take i)).length + (Str.ofString "use " ++ Str.ofString (toString (m : Int)) ++ Str.ofString " ").length ≤ sizeLine := by rw [sizeLine_eq, Str.length_append, Str.length_append]; lia
        try (fail "run")
        apply s_str S rfl (by decide) (by decide) (by fail "len"); clear S; intro s t S
        rw [item_sp0]
        try (fail "run")
        exact ⟨_, _, _, S, rfl, _, _, _, _, by rw [take_succ' hit, textT_snoc]; rfl, rfl⟩
      · have z4 : (textT (row.take i)).length + (Str.ofString "use " ++ Str.ofString (toString (m : Int)) ++ Str.ofString "\n").length ≤ sizeLine := by rw [sizeLine_eq, Str.length_append, Str.length_append]; lia
        try (fail "run")
        apply s_str S rfl (by decide) (by decide) (by fail "len"); clear S; intro s t S
        rw [item_sp1]
        try (fail "run")
        exact ⟨_, _, _, S, rfl, _, _, _, _, by rw [take_succ' hit, textT_snoc]; rfl, rfl⟩
    · have hn := quote_len hwd
      have hw4 : iv.cps.size ≤ 1000 := by have := word_len hwd; show iv.length ≤ 1000; lia
      have z2 : (quoteT iv).length + (Str.ofString " ").length ≤ sizeLine := by rw [sizeLine_eq]; lia
      have z3 : (quoteT iv).length + (Str.ofString "\n").length ≤ sizeLine := by rw [sizeLine_eq]; lia
      rcases hlast with rfl | rfl
      · have z4 : (textT (row.take i)).length + (quoteT iv ++ Str.ofString " ").length ≤ sizeLine := by rw [sizeLine_eq, Str.length_append]; lia
        fail "vin"; fail "go"
        fail "callv"; apply quote_spec hwd hw4 C (hA.le (by decide)); intro s tq C'; fail "bck"
        fail "gox"
        apply s_str S rfl (by decide) (by decide) (by fail "len"); clear S; intro s t S
        rw [item_sp0]
        try (fail "run")
        exact ⟨_, _, _, S, rfl, _, _, _, _, by rw [take_succ' hit, textT_snoc]; rfl, rfl⟩
      · have z4 : (textT (row.take i)).length + (quoteT iv ++ Str.ofString "\n").length ≤ sizeLine := by rw [sizeLine_eq, Str.length_append]; lia
        fail "vin"; fail "go"
        fail "callv"; apply quote_spec hwd hw4 C (hA.le (by decide)); intro s tq C'; fail "bck"
        fail "gox"
        apply s_str S rfl (by decide) (by decide) (by fail "len"); clear S; intro s t S
        rw [item_sp1]
        try (fail "run")
        exact ⟨_, _, _, S, rfl, _, _, _, _, by rw [take_succ' hit, textT_snoc]; rfl, rfl⟩
  · rintro g' vs' led' s ⟨rfl, tt, kv, vv, lv, rfl, rfl⟩ S
    rw [hl.length, List.take_length] at S
    try (fail "run")
    exact k _ _ S.out
end
section
set_option hygiene false in
local macro_rules | `(tactic| fail "vc2") => `(tactic| (apply v_k_split2; exact rfl; with_reducible assumption; intro D l hD hl))
theorem flat_len {l : List Str} : (l.flatMap fun p => [Str.ofString "\"'\"", Str.ofString "'" ++ p ++ Str.ofString "'"]).length = 2 * l.length := by
  induction l with
  | nil => rfl
  | cons a r ih => simp only [List.flatMap_cons, List.length_append, ih, List.length_cons, List.length_nil]; lia
theorem Strs.drop {l : List Value} {xs : List Str} (h : Strs l xs) : ∀ n, Strs (l.drop n) (xs.drop n) := by
  induction h with
  | nil => intro n; simp; exact .nil
  | cons h ih =>
    intro n
    cases n with
    | zero => exact .cons h
    | succ n => exact ih n
theorem Strs.take {l : List Value} {xs : List Str} (h : Strs l xs) : ∀ n, Strs (l.take n) (xs.take n) := by
  induction h with
  | nil => intro n; simp; exact .nil
  | cons h ih =>
    intro n
    cases n with
    | zero => exact .nil
    | succ n => exact .cons (ih n)
theorem strands_spec {w o₀ g s A} {x : Str} {tw : Tok} (hx : WordOk x) (C : S0 w o₀ g [] s) (hA : Ok A 2) {Q : QV}
    (k : ∀ s' D l, Strs l (strandsT x) → S0 w o₀ g [.lst D l] s' → Q (.ref D) s') : WD w A (.ref 856) [.str x tw] [] Q s := by
  refine enter C hA [Str.ofString "word", Str.ofString "strands", Str.ofString "strand"] [] [some (.str x tw), none, none] (by k_is) (by k_is) rfl (BindsTo.of_eq rfl) (by kernel_rfl) ?_
  intro env L s e hL hA S; apply hideF; intro KF hretF hendF
  obtain ⟨w1, w2⟩ := word_split hx
  have hx1 : x.length ≤ 100000 := by have := word_len hx; lia
  try (fail "run")
  apply x_for rfl
  try (fail "run")
  apply it_list S (by fail "has"); clear S; intro s I hI S
  refine f_list (items := l) (J := fun i g' vs' led' => g' = g ∧ ∃ Ds ls sv, Strs ls (((Txt.split x (Str.ofString "'")).take i).flatMap fun p => [Str.ofString "\"'\"", Str.ofString "'" ++ p ++ Str.ofString "'"]) ∧ vs' = [some (.str x tw), some (.ref Ds), sv] ∧ led' = [.lst D l, .lst Ds ls]) hA S ⟨rfl, _, _, _, .nil, rfl, rfl⟩ ?_ ?_ ?_
  · rintro i g' vs' led' ⟨rfl, _, _, _, _, _, rfl⟩
    exact .led (.head _)
  · rintro i v g' vs' led' s hv qq1 S
    apply hideE; intro KL hnext hcont hbrk hret; clear hcont hbrk hret
    obtain ⟨rfl, Ds, ls, sv, hls, rfl, rfl⟩ := qq1
    obtain ⟨p, tp, rfl, hp⟩ := hl.at hv
    have hpz := w2 p (List.mem_of_getElem? hp)
    have e1 : (Str.ofString "'").length = 1 := rfl
    have z1 : (Str.ofString "'").length + p.length ≤ sizeLine := by rw [sizeLine_eq]; lia
    have z2 : (Str.ofString "'" ++ p).length + (Str.ofString "'").length ≤ sizeLine := by rw [sizeLine_eq, Str.length_append]; lia
    have hi : i < 10 := by have := (List.getElem?_eq_some_iff.mp hp).1; lia
    have z3 : ls.length ≤ 20 := by
      rw [hls.length, flat_len, List.length_take]; lia
    fail "vin"; fail "go"
    apply v_k_extend (by fail "has") (by fail "ul") (by simp only [List.length_cons, List.length_nil]; lia)
    fail "gox"
    have S := S.only (sub := [.itr I D _, .lst D _, .lst Ds _]) (by fail "pk")
    refine ⟨_, _, _, S, rfl, _, _, _, ?_, rfl, rfl⟩
    rw [take_succ' hp, List.flatMap_append]
    exact hls.append (.cons (.cons .nil))
  · rintro g' vs' led' s ⟨rfl, Ds, ls, sv, hls, rfl, rfl⟩ S
    rw [hl.length, List.take_length] at hls
    have hne : 1 ≤ ls.length := by
      rw [hls.length]
      cases q : Txt.split x (Str.ofString "'") with
      | nil => exact absurd q (split_ne _ _)
      | cons a r => simp
    have hz : ls.length ≤ 1000000 := by
      rw [hls.length, flat_len]; lia
    try (fail "run")
    apply sl_list S (by fail "has") (.int _ _) .none (fun r => rfl) hz; clear S; intro s Dz hDz S
    have hsp : (slicePick ls.toArray (some 1) none none).toList = ls.drop 1 := by
      have := slicePick_from ls.toArray 1 (by simpa using hne)
      rw [show ((1 : Nat) : Int) = 1 from rfl] at this
      rw [this]
    rw [hsp] at S
    have S := S.only (sub := [.lst Dz _]) (by fail "pk")
    try apply hretF
    refine k _ _ _ ?_ S.out
    unfold strandsT
    exact hls.drop 1
end
section
set_option hygiene false in
local macro_rules | `(tactic| fail "vc2") => `(tactic| (apply v_k_join; fail "has"; with_reducible assumption; with_reducible assumption; intro t))
noncomputable def FoldF (F : Addr → Obj → Prop) (v : Value) (r : List Str) : Prop := ∃ l, LstF F v l ∧ Strs l r
noncomputable def modOk (r : Str) : Bool := decide (r.length ≤ 1000) && decide ((Txt.split r (Str.ofString ".")).length ≤ 1000) && (Txt.split r (Str.ofString ".")).all PyData.strOk
noncomputable def headOk (p : List Str) : Bool := decide (p.length ≤ 10) && p.all PyData.strOk && modOk (Txt.join (Str.ofString ".") p)
theorem slice_to {l : List Value} {n : Nat} : (slicePick l.toArray none (some (n : Int)) none).toList = l.take n := by
  rcases Nat.lt_or_ge l.length n with h | h
  · rw [List.take_of_length_le (Nat.le_of_lt h)]
    have e : slicePick l.toArray none (some (n : Int)) none = slicePick l.toArray none (some ((l.length : Nat) : Int)) none := by
      unfold slicePick
      have : sliceBounds none (some (n : Int)) none l.toArray.size = sliceBounds none (some ((l.length : Nat) : Int)) none l.toArray.size := by
        unfold sliceBounds
        simp
        lia
      rw [this]
    rw [e, slicePick_upto _ _ (by simp)]
    simp
  · rw [slicePick_upto _ _ (by simpa using h)]
theorem left_spec {w o₀ g s A} {hv : Value} {h : Head} {Dm Df : Addr} {lm lf : List Value} {mods : List Str} {fs : List (List Str)} (hh : HeadF (Frz g) hv h) (hho : headOk h.parts = true) (hjo : JoinOk (Str.ofString ".") h.parts = true)
    (hm : (Cell.lst Dm lm).ok w.params g) (hlm : Strs lm mods) (hmo : ∀ r ∈ mods, modOk r = true) (hf : (Cell.lst Df lf).ok w.params g) (hlf : All2 (FoldF (Frz g)) lf fs) (hfo : ∀ r ∈ fs, r.length ≤ 1000 ∧ r.all PyData.strOk = true) (hmz : mods.length ≤ 1000) (hfz : fs.length ≤ 1000)
    (C : S0 w o₀ g [] s) (hA : Ok A 6) {Q : QV}
    (k : ∀ s' t, S0 w o₀ g [] s' → Q (.int (if leftT h mods fs then 1 else 0) t) s') : WD w A (.ref 849) [hv, .ref Dm, .ref Df] [] Q s := by
  obtain ⟨p, lp, ⟨a, na, rfl, h1⟩, ⟨b, nb, rfl, h2⟩, h3⟩ := hh
  have f1 : (Cell.lst a [.ref b, .bool h.file, .bool h.px]).ok w.params g := ⟨_, h1, na, rfl⟩
  have f2 : (Cell.lst b lp).ok w.params g := ⟨_, h2, nb, rfl⟩
  simp only [headOk, modOk, Bool.and_eq_true, decide_eq_true_eq] at hho
  obtain ⟨⟨hp1, hp2⟩, ⟨⟨hn1, hn2⟩, hn3⟩⟩ := hho
  have hn4 : (Txt.join (Str.ofString ".") h.parts).length ≤ 100000 := by lia
  refine enterC C hA [Str.ofString "head", Str.ofString "modules", Str.ofString "folders", Str.ofString "under", Str.ofString "inside"] [] [some (.ref a), some (.ref Dm), some (.ref Df), none, none] [(Str.ofString "head", .ref a), (Str.ofString "modules", .ref Dm), (Str.ofString "folders", .ref Df)]
    (fun L => [(Str.ofString "pieces", L + 2), (Str.ofString "parts", L + 1)]) [Str.ofString "pieces", Str.ofString "parts"] [none, none]
    (by k_is) (by k_is) rfl (BindsTo.of_eq rfl) rfl (by kernel_rfl) (fun L => rfl) (fun L => rfl) (fun L => rfl) rfl (fun L => rfl) ?_
  intro env L s e ec hL hA S; apply hideF; intro KF hretF hendF
  simp only [celLed_c, celLed_0, celLed_00, List.cons_append, List.nil_append] at S
  try (fail "run")
  apply k_split2 S rfl hn4; clear S; intro s D l hD hl S
  have hlz : l.length ≤ 1000 := by rw [hl.length]; exact hn2
  try (fail "run")
  have S := S.only (sub := [celC (L + 2) _, celC (L + 1) _, .lst D l]) (by fail "pk")
  refine x_assign_comp (swaps_yes e (by fail "mem") rfl (by decide)) rfl (closureFor_cl ec (cs := [(Str.ofString "pieces", L + 2)]) rfl) (by decide) ?_
  try (fail "run")
  apply it_list S (.frz hm); clear S; intro s I hI S
  refine use2 (A := A.deeper env) (env := env) (gl := []) (sub := [.itr I Dm 0]) S (by fail "pk") ?_
  intro gc C hg hr bk bka
  clear S
  have hm' : (Cell.lst Dm lm).ok w.params gc := hm.keeps fun o q => hg _ _ q
  refine co_u (L := L) (P := fun k v => lm[k]? = some v) (n := lm.length) (Ic := fun k => .itr I Dm k) [Str.ofString "len"] (by decide) (by decide) e C (iterP_list hA hm') (fun k ys led => led = [] ∧ ys.length ≤ k ∧ k ≤ 1000 ∧ (!ys.isEmpty) = (mods.take k).any (underT h)) ⟨rfl, by simp, by lia, rfl⟩ (fun k ys led h => ?_) ?_ ?_
  · obtain ⟨_, q1, q2, _⟩ := h; lia
  · rintro cenv Cc D' hE hce k v ys led s hk hv qq1 S
    apply hideT; intro KE K0 hval hskip
    obtain ⟨rfl, q1, q2, q3⟩ := qq1
    have f3 : (Cell.lst D l).ok w.params gc := hr _ (by fail "mem")
    have f4 : (celC (L + 2) (some (.ref D))).ok w.params gc := hr _ (by fail "mem")
    have ec := EnC.of (cn := [Str.ofString "pieces"]) e ec hce (by fail "alls") rfl (by decide)
    clear e
    have e := hE
    clear hce bk bka
    obtain ⟨r, tr, rfl, hr2⟩ := hlm.at hv
    have hmr := hmo r (List.mem_of_getElem? hr2)
    simp only [modOk, Bool.and_eq_true, decide_eq_true_eq] at hmr
    obtain ⟨⟨m1, m2⟩, m3⟩ := hmr
    have m4 : r.length ≤ 100000 := by lia
    have hk' : k < 1000 := by have := (List.getElem?_eq_some_iff.mp hr2).1; lia
    apply ts_one
    try (fail "run")
    apply k_split2 S rfl m4; clear S; intro s D1 l1 hD1 hl1 S
    have z1 : l1.length ≤ sizeLine := by rw [hl1.length, sizeLine_eq]; lia
    try (fail "run")
    apply sl_list S (.frz f3) .none (.int _ _) (fun r => rfl) (by lia); clear S; intro s D2 hD2 S
    rw [slice_to, hl1.length] at S
    try (fail "run")
    apply k_split2 S rfl m4; clear S; intro s D3 l3 hD3 hl3 S
    apply q_eq_strs S hA (by decide) (by fail "has") (by fail "has") (hl.take _) hl3 (by
      rw [List.all_eq_true] at hn3 ⊢
      exact fun x hx => hn3 x (List.mem_of_mem_take hx)) m3
    have S := S.only (sub := [.itr I Dm _, .lst D' ys]) (by fail "pk")
    have hst : (mods.take (k + 1)).any (underT h) = ((mods.take k).any (underT h) || underT h r) := by
      rw [take_succ' hr2, List.any_append]; simp
    have hun : underT h r = decide ((Txt.split (Txt.join (Str.ofString ".") h.parts) (Str.ofString ".")).take (Txt.split r (Str.ofString ".")).length = Txt.split r (Str.ofString ".")) := rfl
    try (fail "run")
    apply ite_d <;> intro hq
    · try (fail "run")
      first | apply hval | apply hskip | skip
      refine ⟨_, S, rfl, by simp; lia, by lia, ?_⟩
      rw [hst, hun, decide_eq_true hq]; simp
    · first | apply hval | apply hskip | skip
      refine ⟨_, S, rfl, by lia, by lia, ?_⟩
      rw [hst, hun, decide_eq_false hq, Bool.or_false]; exact q3
  · rintro Du yu led s Cc u ⟨rfl, q1, q2, q3⟩ S
    refine bka _ _ _ _ _ _ _ _ _ _ _ e S (by fail "app") (by fail "up") ?_
    clear S C bk bka hr
    intro s S
    have S := S.only (sub := [celC (L + 2) _, celC (L + 1) _, .lst Du yu]) (by fail "pk")
    rw [hlm.length, List.take_length] at q3
    refine x_assign_comp (swaps_yes e (by fail "mem") rfl (by decide)) rfl (closureFor_cl ec (cs := [(Str.ofString "parts", L + 1)]) rfl) (by decide) ?_
    try (fail "run")
    apply it_list S (.frz hf); clear S; intro s I hI S
    refine use2 (A := A.deeper env) (env := env) (gl := []) (sub := [.itr I Df 0]) S (by fail "pk") ?_
    intro gc C hg hr bk bka
    clear S
    have hf' : (Cell.lst Df lf).ok w.params gc := hf.keeps fun o q => hg _ _ q
    have f2' : (Cell.lst b lp).ok w.params gc := f2.keeps fun o q => hg _ _ q
    refine co_u (L := L) (P := fun k v => lf[k]? = some v) (n := lf.length) (Ic := fun k => .itr I Df k) [Str.ofString "len"] (by decide) (by decide) e C (iterP_list hA hf') (fun k ys led => led = [] ∧ ys.length ≤ k ∧ k ≤ 1000 ∧ (!ys.isEmpty) = (fs.take k).any (insideT h)) ⟨rfl, by simp, by lia, rfl⟩ (fun k ys led h => ?_) ?_ ?_
    · obtain ⟨_, q1, q2, _⟩ := h; lia
    · rintro cenv Cc D' hE hce k v ys led s hk hv qq1 S
      apply hideT; intro KE K0 hval hskip
      obtain ⟨rfl, q1, q2, q3⟩ := qq1
      have f4 : (celC (L + 1) (some (.ref b))).ok w.params gc := hr _ (by fail "mem")
      have ec := EnC.of (cn := [Str.ofString "parts"]) e ec hce (by fail "alls") rfl (by decide)
      clear e
      have e := hE
      clear hce bk bka
      obtain ⟨r, hr2, l1, ⟨c, nc, rfl, hc⟩, hl1⟩ := hlf.at hv
      have f5 : (Cell.lst c l1).ok w.params gc := ⟨_, hg _ _ hc, nc, rfl⟩
      obtain ⟨m1, m2⟩ := hfo r (List.mem_of_getElem? hr2)
      have z1 : l1.length ≤ sizeLine := by rw [hl1.length, sizeLine_eq]; lia
      have z2 : lp.length ≤ 1000000 := by rw [h3.length]; lia
      have hk' : k < 1000 := by have := (List.getElem?_eq_some_iff.mp hr2).1; lia
      apply ts_one
      try (fail "run")
      apply sl_list S (.frz f2') .none (.int _ _) (fun r => rfl) z2; clear S; intro s D2 hD2 S
      rw [slice_to, hl1.length] at S
      try (fail "run")
      apply q_eq_strs S hA (by decide) (by fail "has") (by fail "has") (h3.take _) hl1 (by
        rw [List.all_eq_true] at hp2 ⊢
        exact fun x hx => hp2 x (List.mem_of_mem_take hx)) m2
      have S := S.only (sub := [.itr I Df _, .lst D' ys]) (by fail "pk")
      have hst : (fs.take (k + 1)).any (insideT h) = ((fs.take k).any (insideT h) || insideT h r) := by
        rw [take_succ' hr2, List.any_append]; simp
      try (fail "run")
      apply ite_d <;> intro hq
      · fail "vin"; fail "go"
        apply v_q_ne_strs hA (by decide) (.frz f2') (.frz f5) h3 hl1 hp2 m2
        fail "gox"
        apply ite_d <;> intro hq2
        · try (fail "run")
          first | apply hval | apply hskip | skip
          refine ⟨_, S, rfl, by lia, by lia, ?_⟩
          rw [hst, insideT, decide_eq_true hq, decide_eq_true hq2]; simpa using q3
        · try (fail "run")
          first | apply hval | apply hskip | skip
          refine ⟨_, S, rfl, by simp; lia, by lia, ?_⟩
          rw [hst, insideT, decide_eq_true hq, decide_eq_false hq2]; simp
      · try (fail "run")
        first | apply hval | apply hskip | skip
        refine ⟨_, S, rfl, by lia, by lia, ?_⟩
        rw [hst, insideT, decide_eq_false hq]; simpa using q3
    · rintro Di yi led s Cc u ⟨rfl, q4, q5, q6⟩ S
      refine bka _ _ _ _ _ _ _ _ _ _ _ e S (by fail "app") (by fail "up") ?_
      clear S C bk bka hr
      intro s S
      have S := S.only (sub := [.lst Di yi, .lst Du yu]) (by fail "pk")
      rw [hlf.length, List.take_length] at q6
      have f1' : (Cell.lst a [.ref b, .bool h.file, .bool h.px]).ok w.params g := f1
      fail "vin"; fail "go"
      apply v_b_add_list (by fail "has") (by fail "has") (by lia); intro Dz hDz
      fail "gox"
      apply q_ne_nil S hA (by fail "has") (by fail "has")
      have hne : (!(yu ++ yi).isEmpty) = (mods.any (underT h) || fs.any (insideT h)) := by
        rw [← q3, ← q6]; cases yu <;> simp
      rw [hne]
      unfold leftT at k
      try (fail "run")
      apply ite_by <;> intro hq
      · rw [hq] at k
        try (fail "run")
        try apply hretF
        exact k _ _ (S.only .nil).out
      · rw [hq] at k
        try (fail "run")
        apply ite_by <;> intro hq2
        · rw [hq2] at k
          try (fail "run")
          try apply hretF
          exact k _ _ (S.only .nil).out
        · rw [hq2] at k
          try (fail "run")
          try apply hretF
          exact k _ _ (S.only .nil).out
end
section
set_option hygiene false in
local macro_rules | `(tactic| fail "ulm") => `(tactic| first | exact upl_map hj | apply UpL.tail; fail "ulm")
set_option hygiene false in
local macro_rules | `(tactic| fail "vc2") => `(tactic| first | apply v_k_append; fail "ulm"; fail "len" | apply v_k_str_int; lia; lia; intro t | apply v_k_abs; intro t)
set_option hygiene false in
local macro_rules | `(tactic| fail "c2") => `(tactic| (apply k_range; exact S; clear S; intro s r t0 t1 hr S))
set_option hygiene false in
local macro_rules | `(tactic| fail "vs2") => `(tactic| first | apply v_b_mod_int; exact rfl; intro t | apply v_b_pow_int; lia; lia; exact rfl; intro t)
theorem pw10d {k : Nat} (hk : k < 4) : ((10 : Int) ^ ((k : Nat) : Int).toNat == 0) = false ∧ Nat.blt ((10 : Int) ^ ((k : Nat) : Int).toNat).natAbs (2 ^ 64) = true := pw10 (by lia)
theorem drawn_spec {w o₀ g s A} {Dn : Addr} {ln : List Value} {n0 : Int} {tn0 : Tok} {ns : List Int} (hn : (Cell.lst Dn (.int n0 tn0 :: ln)).ok w.params g) (hln : IntsAre ln ns) (hz : ns.length ≤ 100) (C : S0 w o₀ g [] s) (hA : Ok A 10) {Q : QV}
    (k : ∀ s' g' T Dh Dr, Sub g g' → HeadsF (New g g') (.ref Dh) (ns.foldl drawStep (draw0 n0)).heads → RowsF (New g g') (.ref Dr) (ns.foldl drawStep (draw0 n0)).rows → S0 w o₀ g' [.tup T [.ref Dh, .ref Dr]] s' → Q (.ref T) s') : WD w A (.ref 823) [.ref Dn] [] Q s := by
  refine enterC C hA [Str.ofString "numbers", Str.ofString "words", Str.ofString "heads", Str.ofString "rows", Str.ofString "around", Str.ofString "kind", Str.ofString "which", Str.ofString "other", Str.ofString "last", Str.ofString "signs"] [Str.ofString "range", Str.ofString "str", Str.ofString "len", Str.ofString "_law_folder", Str.ofString "_law_base", Str.ofString "chr", Str.ofString "abs"] [some (.ref Dn), none, none, none, none, none, none, none, none, none] [(Str.ofString "numbers", .ref Dn)]
    (fun L => [(Str.ofString "number", L + 1)]) [Str.ofString "number"] [none]
    (by k_is) (by k_is) rfl (BindsTo.of_eq rfl) rfl (by kernel_rfl) (fun L => rfl) (fun L => rfl) (fun L => rfl) rfl (fun L => rfl) ?_
  intro env L s e ec hL hA S; apply hideF; intro KF hretF hendF
  simp only [celLed_c, celLed_0, celLed_00, List.cons_append, List.nil_append] at S
  apply x_assign; exact rfl
  apply r_list
  refine a_strs (by repeat' constructor) S ?_; clear S; intro s lq hlq S
  apply n_strs (xs := wordsT) S (Strs.cast hlq rfl) (by rw [hlq.length]; rfl); clear S hlq lq; intro s Dw lw hDw hlw S
  try (fail "run")
  have S := S.only (sub := [.lst _ [.str (Str.ofString "top") _], .lst _ [.ref _, .bool true, .bool _], .lst _ [.ref _], .lst _ [.ref _], .lst _ [.int 0 _], .lst _ [], celC (L + 1) none, .lst Dw lw]) (by fail "pk")
  obtain ⟨g1, hg1, hp1, S⟩ := S.frz1
  obtain ⟨g2, hg2, hp2, S⟩ := S.frz1
  have hg12 := Sub.trans hg1 hg2
  have hh0 : HeadF (New g g2) _ ⟨[Str.ofString "top"], true, n0.fmod 2 == 0⟩ := ⟨_, _, hp2.mono (new_old hg1), hp1.mono (new_sub hg2), .cons .nil⟩
  have hn2 : (Cell.lst Dn (.int n0 tn0 :: ln)).ok w.params g2 := hn.keeps fun o q => hg12 _ _ q
  have hlz : ln.length ≤ 100 := by rw [ints_len hln]; exact hz
  apply x_for rfl
  try (fail "run")
  apply sl_list S (.frz hn2) (.int _ _) .none (fun r => rfl) (by simp; lia); clear S; intro s Dz hDz S
  have hsp : (slicePick (Value.int n0 tn0 :: ln).toArray (some 1) none none).toList = ln := by
    have := slicePick_from (Value.int n0 tn0 :: ln).toArray 1 (by simp)
    rw [show ((1 : Nat) : Int) = 1 from rfl] at this
    rw [this]; rfl
  rw [hsp] at S
  apply it_list S (by fail "has"); clear S; intro s I hI S
  have S := S.only (sub := [.itr I Dz 0, .lst Dz ln, celC (L + 1) none, .lst Dw lw, .lst _ [.ref _], .lst _ [.ref _], .lst _ [.int 0 _], .lst _ []]) (by fail "pk")
  refine f_list (items := ln) (J := fun i g' vs' led' => Sub g g' ∧ Ex12 fun Dh Dr Da lh la rl cv v5 v6 v7 v8 v9 => DOk i ((ns.take i).foldl drawStep (draw0 n0)) ∧ All2 (HeadF (New g g')) lh ((ns.take i).foldl drawStep (draw0 n0)).heads ∧
      All2 (fun (p : Addr × List Value) row => All2 (ItemF (New g g')) p.2 row) rl ((ns.take i).foldl drawStep (draw0 n0)).rows ∧ IntsAre la (((ns.take i).foldl drawStep (draw0 n0)).around.map fun j => ((j : Nat) : Int)) ∧
      vs' = [some (.ref Dn), some (.ref Dw), some (.ref Dh), some (.ref Dr), some (.ref Da), v5, v6, v7, v8, v9] ∧
      led' = .lst Dz ln :: celC (L + 1) cv :: .lst Dw lw :: .lst Dr (rl.map fun p => .ref p.1) :: .lst Dh lh :: .lst Da la :: rl.map rowC)
    hA S ⟨hg12, _, _, _, _, _, [(_, [])], _, _, _, _, _, _, DOk.zero n0, .cons hh0 .nil, .cons .nil .nil, .cons _ _ .nil, rfl, rfl⟩ ?_ ?_ ?_
  · rintro i g' vs' led' ⟨_, _, _, _, _, _, _, _, _, _, _, _, _, _, _, _, _, _, rfl⟩
    exact .led (.head _)
  · clear S hh0 hp1 hp2
    rintro i v g' vs' led' s hv qq1 S
    apply hideE; intro KL hnext hcont hbrk hret; clear hcont hbrk hret
    obtain ⟨hg, Dh, Dr, Da, lh, la, rl, cv, v5, v6, v7, v8, v9, dok, hhs, hrs, has, rfl, rfl⟩ := qq1
    obtain ⟨n, tn, rfl, hni⟩ := ints_at' hln hv
    have hdr : (ns.take (i + 1)).foldl drawStep (draw0 n0) = drawStep ((ns.take i).foldl drawStep (draw0 n0)) n := by
      rw [take_succ' hni, List.foldl_append]; rfl
    rw [hdr] at hnext
    clear hdr
    have hi100 : i < 100 := by have := (List.getElem?_eq_some_iff.mp hni).1; lia
    generalize (ns.take i).foldl drawStep (draw0 n0) = d at dok hhs hrs has hnext
    have hf : ∀ k, fig n k < 10 := fun k => (figI_eq n k).2
    try (fail "run")
    refine x_tuple_comp ?_
    refine r_comp rfl (closureFor_cl ec (cs := [(Str.ofString "number", L + 1)]) rfl) (by decide) ?_
    try (fail "run")
    apply it_range (by decide) S; clear S; intro s I2 hI2 S
    refine use (sub := [.raw I2 _]) S (by fail "pk") ?_
    intro gc C hgc hr bk
    clear S
    refine co_p (L := L) (n := 4) (Ic := fun k => .raw I2 (rngO (k : Nat) ((4 - k : Nat) : Int))) [] (by decide) (by decide) e C (iterP_range hA) (fun k ys led => k ≤ 4 ∧ led = [] ∧ IntsAre ys ((List.range k).map (figI n))) ⟨by lia, rfl, .nil⟩ (fun k ys led h => ?_) ?_ ?_
    · obtain ⟨hk, _, h⟩ := h
      rw [ints_len h]; simp; lia
    · rintro cenv Cc D hE hce k v ys led s hk qq1 qq2 S
      apply hideT; intro KE K0 hval hskip
      obtain ⟨tk, rfl⟩ := qq1
      obtain ⟨hk', rfl, hys⟩ := qq2
      have f1 : (celC (L + 1) (some (.int n tn))).ok w.params gc := hr _ (by fail "mem")
      have ec := EnC.of (cn := [Str.ofString "number"]) e ec hce (by fail "alls") rfl (by decide)
      clear e
      have e := hE
      clear hce
      apply ts_nil
      apply ite_t
      fail "vin"; fail "go"
      apply v_b_fdiv_int (pw10d hk).1 (pw10d hk).2; intro t
      fail "gox"
      exact ⟨_, S, hk, rfl, by rw [figs_succ]; exact ints_snoc hys⟩
    · rintro D ys led s ⟨_, rfl, hys⟩ C'
      have S := bk _ _ _ C' (by fail "app")
      clear C' bk hr C
      have hfg : (List.range 4).map (figI n) = (List.range 4).map (fun k => ((fig n k : Nat) : Int)) := List.map_congr_left fun k _ => (figI_eq n k).1
      rw [hfg] at hys
      simp only [List.range, List.range.loop, List.map_cons, List.map_nil] at hys
      rcases hys with _ | ⟨_, u0, _ | ⟨_, u1, _ | ⟨_, u2, _ | ⟨_, u3, ⟨⟩⟩⟩⟩⟩
      try (fail "run")
      have S := S.forget
      obtain ⟨hjl, hje⟩ := dok.last
      have hrlen : rl.length = d.rows.length := hrs.length
      have halen : la.length = d.around.length := by rw [ints_len has, List.length_map]
      have hhlen : lh.length = d.heads.length := hhs.length
      have hd1 := dok.rl
      have hd2 := dok.al
      have hd3 := dok.hl
      have z1 : lh.length ≤ sizeLine := by rw [sizeLine_eq]; lia
      have z2 : la.length ≤ sizeLine := by rw [sizeLine_eq]; lia
      have z3 : (rl.map fun p => Value.ref p.1).length ≤ sizeLine := by rw [List.length_map, sizeLine_eq]; lia
      obtain ⟨la', tj, hla', hla2⟩ := ints_last has (m := (d.around.getLastD 0 : Nat)) (by rw [List.getLast?_map, hje]; rfl)
      obtain ⟨⟨aj, lj⟩, hj, hrj⟩ := hrs.at' (i := d.around.getLastD 0) (b := d.rows.getD (d.around.getLastD 0) []) (by rw [List.getD_eq_getElem?_getD, List.getElem?_eq_getElem hjl]; rfl)
      have hmem : Cell.lst aj lj ∈ rl.map rowC := List.mem_map.mpr ⟨(aj, lj), List.mem_of_getElem? hj, rfl⟩
      have hjr : (rl.map fun p => Value.ref p.1)[d.around.getLastD 0]? = some (.ref aj) := by rw [List.getElem?_map, hj]; rfl
      have z4 : lj.length ≤ sizeLine := by
        rw [hrj.length, sizeLine_eq]
        have := dok.iw (d.rows.getD (d.around.getLastD 0) []) (by rw [List.getD_eq_getElem?_getD, List.getElem?_eq_getElem hjl]; exact List.getElem_mem hjl)
        lia
      have z5 : (rl.map fun p => Value.ref p.1).length ≤ 1000 := by rw [List.length_map]; lia
      have hd' := dok.step n
      apply ite_d <;> intro h1
      · have hst : drawStep d n = { heads := d.heads ++ [⟨folderT (fig n 1) ++ [baseT (fig n 2)], decide (fig n 3 < 8), fig n 0 % 2 == 0⟩], rows := addTo d.rows (d.around.getLastD 0) ⟨Str.ofString "use", Str.ofString (toString (d.rows.length : Int)), ((fig n 3 % 2 : Nat) : Int)⟩ ++ [[]], around := d.around ++ [d.rows.length] } := if_pos (by lia)
        rw [hst] at hd' hnext
        fail "vin"; fail "go"
        apply v_s_last (by fail "has") rfl (by rw [hla']; exact List.getLast?_concat)
        fail "go"
        apply v_s_item (by fail "has") rfl (by lia) (by lia) hjr
        fail "go"
        fail "callv"; apply folder_spec (hf _) C (hA.le (by decide)); intro s Df lf hlf C'; fail "bck"
        fail "go"
        fail "callv"; apply base_spec (hf _) C (hA.le (by decide)); intro s tb C'; fail "bck"
        fail "go"
        apply v_b_add_list (by fail "has") (by fail "has") (by rw [hlf.length]; have := folder_len (fig n 1); simp only [List.length_cons, List.length_nil]; lia); intro Dp hDp
        fail "gox"
        rw [fmod2, List.length_map, hrlen, fmod2, show decide (((fig n 3 : Nat) : Int) < 8) = decide (fig n 3 < 8) from decide_eq_decide.mpr (by lia), show ((((fig n 0 % 2 : Nat)) : Int) == 0) = (fig n 0 % 2 == 0) from by rw [Bool.eq_iff_iff]; simp; lia] at S
        have S := S.perm (Picks.perm (cs := [.lst Dp _, .lst _ [.ref Dp, .bool _, .bool _], .lst _ [.str (Str.ofString "use") _, .str _ _, .int _ _], .itr I Dz _, .lst Dz ln, celC (L + 1) _, .lst Dw lw, .lst Dr _, .lst Dh _, .lst Da _, .lst _ []]) (by fail "pk"))
        simp only [List.cons_append, List.nil_append] at S
        obtain ⟨ga, hga, hpa, S⟩ := S.frz1
        obtain ⟨gb, hgb, hpb, S⟩ := S.frz1
        obtain ⟨gd, hgd, hpd, S⟩ := S.frz1
        have S := S.thin (led' := .itr I Dz (i + 1) :: .lst Dz ln :: celC (L + 1) _ :: .lst Dw lw :: .lst Dr _ :: .lst Dh _ :: .lst Da _ :: .lst _ [] :: (rl.set (d.around.getLastD 0) (aj, lj ++ [.ref _])).map rowC) (by fail "sb")
        have S := S.perm (.cons _ (.cons _ (.cons _ (.cons _ (.cons _ (.cons _ (.cons _ perm_last)))))))
        have sga := Sub.trans hg hga
        have sgb := Sub.trans sga hgb
        have sgd := Sub.trans sgb hgd
        have up : ∀ a o, New g g' a o → New g gd a o := new_sub (Sub.trans hga (Sub.trans hgb hgd))
        have hhd : HeadF (New g gd) _ ⟨folderT (fig n 1) ++ [baseT (fig n 2)], decide (fig n 3 < 8), fig n 0 % 2 == 0⟩ := ⟨_, _, hpb.mono fun a o z => new_sub hgd a o (new_old sga a o z), hpa.mono fun a o z => new_sub (Sub.trans hgb hgd) a o (new_old hg a o z), hlf.append (.cons .nil)⟩
        have hit : ItemF (New g gd) _ ⟨Str.ofString "use", Str.ofString (toString (d.rows.length : Int)), ((fig n 3 % 2 : Nat) : Int)⟩ := ⟨_, _, _, hpd.mono fun a o z => new_old sgb a o z⟩
        refine ⟨_, _, _, S, sgd, Dh, Dr, Da, _, _, _, _, _, _, _, _, _, hd', (hhs.mono fun _ _ z => z.mono up).snoc hhd, ?_, ?_, rfl, led_eq hj⟩
        · exact All2.snoc ((hrs.mono fun _ _ z => z.mono fun _ _ y => y.mono up).set ((hrj.mono fun _ _ y => y.mono up).snoc hit)) .nil
        · rw [List.map_append]; exact ints_snoc has
      · try (fail "run")
        apply ite_d <;> intro h2
        · have hst : drawStep d n = { d with rows := addTo d.rows (d.around.getLastD 0) ⟨Str.ofString "word", wordAt n (fig n 1), ((fig n 3 % 2 : Nat) : Int)⟩ } := by
            unfold drawStep; rw [if_neg (by lia), if_pos (by lia)]
          rw [hst] at hd' hnext
          obtain ⟨hc1, hc2⟩ := chN_lt n
          fail "vin"; fail "go"
          apply v_b_fdiv_int rfl rfl; intro t
          fail "gox"
          rw [show (if n < 0 then -n else n).fdiv (10 ^ Int.toNat 4) = (if n < 0 then -n else n).fdiv (10 ^ 4) from rfl, hc2]
          apply k_chr S (by lia) (by lia); clear S; intro s tc S
          rw [show ((chN n : Nat) : Int).toNat = chN n from rfl] at *
          try (fail "run")
          have hwz : lw.length = 9 := hlw.length
          apply b_add_list S (by fail "has") (by fail "has") (by simp only [List.length_cons, List.length_nil]; lia); clear S; intro s Ds hDs S
          fail "vin"; fail "go"
          apply v_s_last (by fail "has") rfl (by rw [hla']; exact List.getLast?_concat)
          fail "go"
          apply v_s_item (by fail "has") rfl (by lia) (by lia) hjr
          fail "gox"
          obtain ⟨hw1, hw2⟩ := wordAt_ok n (hf 1)
          obtain ⟨tw, hw3⟩ := (hlw.append (.cons (x := ch (chN n)) (t := tc) .nil)).get hw2
          apply s_item S (by fail "has") rfl (by lia) (by have := hf 1; lia) (by rw [← hw3]; rfl)
          try (fail "run")
          rw [fmod2] at S
          have S := S.perm (Picks.perm (cs := [.lst _ [.str (Str.ofString "word") _, .str _ _, .int _ _], .itr I Dz _, .lst Dz ln, celC (L + 1) _, .lst Dw lw, .lst Dr _, .lst Dh _, .lst Da _]) (by fail "pk"))
          simp only [List.cons_append, List.nil_append] at S
          obtain ⟨ga, hga, hpa, S⟩ := S.frz1
          have S := S.thin (led' := .itr I Dz (i + 1) :: .lst Dz ln :: celC (L + 1) _ :: .lst Dw lw :: .lst Dr _ :: .lst Dh _ :: .lst Da _ :: (rl.set (d.around.getLastD 0) (aj, lj ++ [.ref _])).map rowC) (by fail "sb")
          have hit : ItemF (New g ga) _ ⟨Str.ofString "word", wordAt n (fig n 1), ((fig n 3 % 2 : Nat) : Int)⟩ := ⟨_, _, _, hpa.mono fun a o z => new_old hg a o z⟩
          have up : ∀ a o, New g g' a o → New g ga a o := new_sub hga
          refine ⟨_, _, _, S, Sub.trans hg hga, Dh, Dr, Da, _, _, _, _, _, _, _, _, _, hd', hhs.mono fun _ _ z => z.mono up, ?_, has, rfl, led_eq2 hj⟩
          exact (hrs.mono fun _ _ z => z.mono fun _ _ y => y.mono up).set ((hrj.mono fun _ _ y => y.mono up).snoc hit)
        · try (fail "run")
          apply ite_d <;> intro h3
          · have hst : drawStep d n = { d with around := d.around.dropLast } := by
              unfold drawStep; rw [if_neg (by lia), if_neg (by lia), if_pos (by lia)]
            rw [hst] at hd' hnext
            rw [hla'] at S
            have z6 : la'.length < sizeLine := by
              rw [hla', List.length_append, List.length_cons, List.length_nil] at halen
              rw [sizeLine_eq]; lia
            fail "vin"; fail "go"
            apply v_k_pop (by fail "ul") z6
            fail "gox"
            refine ⟨_, _, _, S, hg, Dh, Dr, Da, _, _, rl, _, _, _, _, _, _, hd', hhs, hrs, ?_, rfl, rfl⟩
            rw [List.map_dropLast]; exact hla2
          · have hst : drawStep d n = d := by
              unfold drawStep; rw [if_neg (by lia), if_neg (by lia), if_neg (by lia)]
            rw [hst] at hd' hnext
            try (fail "run")
            exact ⟨_, _, _, S, hg, Dh, Dr, Da, _, _, rl, _, _, _, _, _, _, hd', hhs, hrs, has, rfl, rfl⟩
  · rintro g' vs' led' s ⟨hg, Dh, Dr, Da, lh, la, rl, cv, v5, v6, v7, v8, v9, dok, hhs, hrs, has, rfl, rfl⟩ S
    rw [ints_len hln, List.take_length] at hhs hrs has
    have S := S.thin (led' := .lst Dr (rl.map fun p => .ref p.1) :: .lst Dh lh :: rl.map rowC) (by fail "sb")
    try (fail "run")
    have S := S.perm (Picks.perm (cs := [.tup _ _]) (by fail "pk"))
    obtain ⟨gz, hgz, hall, S⟩ := S.frzAll
    have up : ∀ a o, New g g' a o → New g gz a o := new_sub hgz
    have hrf : ∀ a l, Cell.lst a l ∈ (Cell.lst Dr (rl.map fun p => .ref p.1) :: .lst Dh lh :: rl.map rowC) → LstF (New g gz) (.ref a) l := fun a l hm => by
      obtain ⟨o, ho, n, rfl⟩ := hall _ hm
      exact ⟨a, n, rfl, new_old hg _ _ ho⟩
    try apply hretF
    refine k _ gz _ Dh Dr (Sub.trans hg hgz) ⟨lh, hrf _ _ (by fail "mem"), hhs.mono fun _ _ z => z.mono up⟩ ⟨_, hrf _ _ (by fail "mem"), ?_⟩ S.out
    have key : ∀ (rl : List (Addr × List Value)) rows, (∀ p ∈ rl, LstF (New g gz) (.ref p.1) p.2) → All2 (fun (p : Addr × List Value) row => All2 (ItemF (New g g')) p.2 row) rl rows → All2 (RowF (New g gz)) (rl.map fun p => .ref p.1) rows := by
      intro rl rows h1 h2
      induction h2 with
      | nil => exact .nil
      | cons h _ ih => exact .cons ⟨_, h1 _ (.head _), h.mono fun _ _ z => z.mono up⟩ (ih fun p hp => h1 p (.tail _ hp))
    exact key rl _ (fun p hp => hrf _ _ (.tail _ (.tail _ (List.mem_map.mpr ⟨p, hp, rfl⟩)))) hrs
end
section
set_option hygiene false in
local macro_rules | `(tactic| fail "vc2") => `(tactic| first | apply v_k_str_int; lia; lia; intro t | apply v_k_str_str)
/- the contract of _law_read, for so much fuel -/
noncomputable def RS (w : World) (o₀ : OsState) (Dh Dr : Addr) (hs : List Head) (rs : List (List Item)) (rd dr ms ds it : Addr) (o : Obj) (xs : List Str) (l : List Value) (dirs : List Str) (f : Nat) : Prop :=
  ∀ (n : Nat) (kv : Tab) (g : Heap) (s : Shared) (A : Around) (Q : QV) (tn : Tok), n < rs.length → rs.length - n ≤ f → Ok A (f + 6) → KvOk kv →
    (tell hs rs (fun h => outT xs dirs (fileO h) (nameT h)) f n kv).1.length ≤ 1000000 → (tell hs rs (fun h => outT xs dirs (fileO h) (nameT h)) f n kv).2.length ≤ 1000000 →
    RdW w g Dh Dr hs rs ms ds o xs l dirs → S0 w o₀ g [.ins rd 137 dr, .dic dr igNm [some (.ref ms), some (.ref ds), some (.ref it)], .tab it kv] s →
    (∀ s' g' Dt lt, Sub g g' → All2 (EntF (New g g')) lt (tell hs rs (fun h => outT xs dirs (fileO h) (nameT h)) f n kv).1 →
      S0 w o₀ g' [.ins rd 137 dr, .dic dr igNm [some (.ref ms), some (.ref ds), some (.ref it)], .tab it (tell hs rs (fun h => outT xs dirs (fileO h) (nameT h)) f n kv).2, .lst Dt lt] s' → Q (.ref Dt) s') →
    WD w A (.ref 844) [.ref Dh, .ref Dr, .int (n : Nat) tn, .ref rd] [] Q s
theorem fil_of {v : Value} {h : Head} (hv : FilO v (fileO h)) (hz : (pathT h).length ≤ 1000000) : Fil v (showF h) ∧ handedIn v = true := by
  unfold showF
  generalize hf : fileO h = fo at hv ⊢
  cases hv with
  | none => exact ⟨.none, rfl⟩
  | @some x t =>
    refine ⟨.some ?_, rfl⟩
    unfold fileO at hf
    split at hf
    · cases hf; exact hz
    · cases hf
theorem useL_tx : tx useL = Str.ofString "use" := by decide +kernel
/- a token that is not the end's -/
theorem q_ne_eof {w : World} {A : Around} {s : Shared} {px : Bool} {eofv : Value} {te t : Tok} {x : Str} {Q : QV} (he : eofv = if px then .none else .str (Str.ofString "") te) (hx : px = false → (x != Str.ofString "") = true) (h : Q (.bool true) s) : WCmp w A .NotEq (.str x t) eofv Q s := by
  subst he; cases px
  · refine q_ne_str ?_; rw [hx rfl]; exact h
  · exact q_ne_str_none h
theorem v_q_ne_eof {w : World} {κ : Cx} {A : Around} {px : Bool} {eofv : Value} {te t : Tok} {x : Str} {Q : QV} (he : eofv = if px then .none else .str (Str.ofString "") te) (hx : px = false → (x != Str.ofString "") = true) (h : V w κ (Q (.bool true))) : V w κ (WCmp w A .NotEq (.str x t) eofv Q) := fun s S => q_ne_eof he hx (h s S)
set_option hygiene false in
local macro_rules | `(tactic| fail "vq2") => `(tactic| (apply v_q_ne_eof he hz))
set_option hygiene false in
local macro_rules | `(tactic| fail "vg2") => `(tactic| (apply v_r_get; fail "has"; fail "has"; fail "lk"; fail "ao"; fail "nd"; exact heh))
theorem read_step {w : World} {o₀ : OsState} {Dh Dr : Addr} {hs : List Head} {rs : List (List Item)} {rd dr ms ds it : Addr} {o : Obj} {xs : List Str} {l : List Value} {dirs : List Str} {f : Nat} (hok : rowsOk hs rs) (hpz : ∀ h ∈ hs, (pathT h).length ≤ 1000)
    (hpl : ∀ n kv h, hs[n]? = some h → ∃ r rest k, Run h.px (wcS h.px).cps.toList .sp false [] (textT (rs.getD n [])).cps.toList r rest k ∧ (h.px = false → r ≠ some []) ∧
      RdA hs (fun h => outT xs dirs (fileO h) (nameT h)) (tell hs rs (fun h => outT xs dirs (fileO h) (nameT h)) f) n h.px (wcS h.px).cps.toList (showF h) r rest ⟨[], kv, 1 + k⟩ (tell hs rs (fun h => outT xs dirs (fileO h) (nameT h)) (f + 1) n kv))
    (IH : RS w o₀ Dh Dr hs rs rd dr ms ds it o xs l dirs f) : RS w o₀ Dh Dr hs rs rd dr ms ds it o xs l dirs (f + 1) := by
  intro n kv g s A Q tn hn hf hA hkv hb1 hb2 W C k
  obtain ⟨hlen, hrz, hho, hro⟩ := hok
  have hget : hs[n]? = some (hs.getD n noHead) := by rw [List.getD_eq_getElem?_getD, List.getElem?_eq_getElem (by lia)]; rfl
  have hgetr : rs[n]? = some (rs.getD n []) := by rw [List.getD_eq_getElem?_getD, List.getElem?_eq_getElem hn]; rfl
  obtain ⟨r, rest, k0, hrun, hrne, hrd⟩ := hpl n kv _ hget
  have hhn := hho _ (List.mem_of_getElem? hget)
  have hpn := hpz _ (List.mem_of_getElem? hget)
  obtain ⟨hr1, hr2⟩ := hro _ (List.mem_of_getElem? hgetr)
  generalize hhd : hs.getD n noHead = h at hget hrun hrne hrd hhn hpn
  generalize hrow : rs.getD n [] = row at hgetr hrun hr1 hr2
  have htz := text_len (N := rs.length) (by lia) hr2
  generalize hout : tell hs rs (fun h => outT xs dirs (fileO h) (nameT h)) (f + 1) n kv = out at hrd hb1 hb2 k
  obtain ⟨lh, f1, hat⟩ := W.hs.at (w := w)
  obtain ⟨lr, f2, rat⟩ := W.rs.at (w := w)
  obtain ⟨ah, bh, lp, ha1, ha2, ha3, ha4, ha5⟩ := hat hget
  obtain ⟨ar, hb3, hb4⟩ := rat hgetr
  refine enter C hA [Str.ofString "heads", Str.ofString "rows", Str.ofString "number", Str.ofString "reader", Str.ofString "lex", Str.ofString "told", Str.ofString "token", Str.ofString "other", Str.ofString "answer"] [Str.ofString "shlex", Str.ofString "_law_text", Str.ofString "_law_file", Str.ofString "int", Str.ofString "str", Str.ofString "_law_read"] [some (.ref Dh), some (.ref Dr), some (.int (n : Nat) tn), some (.ref rd), none, none, none, none, none] (by k_is) (by k_is) rfl (BindsTo.of_eq rfl) (by kernel_rfl) ?_
  intro env L s e hL hA S; apply hideF; intro KF hretF hendF
  fail "vin"; fail "go"
  apply v_s_item (.frz f2) rfl (by lia) (by lia) (by rw [Int.toNat_natCast]; exact hb3)
  fail "go"
  refine v_use (sub := []) Picks.nil ?_; intro s gc C hg hr bk; apply wc_of
  apply text_spec (N := rs.length) (hb4.mono (frz_sub hg)) (by lia) hr1 hr2 C (hA.le (by lia))
  intro s txt C'
  fail "bck"
  fail "go"
  apply v_s_item (.frz f1) rfl (by lia) (by lia) (by rw [Int.toNat_natCast]; exact ha1)
  fail "go"
  refine v_use (sub := []) Picks.nil ?_; intro s gc C hg hr bk; apply wc_of
  apply file_spec (ha2.mono (frz_sub hg)) hhn C (hA.le (by lia))
  intro s inf hinf C'
  fail "bck"
  fail "go"
  apply v_s_item (.frz f1) rfl (by lia) (by lia) (by rw [Int.toNat_natCast]; exact ha1)
  fail "go"
  refine v_use (sub := []) Picks.nil ?_; intro s gc C hg hr bk; apply wc_of
  apply lex_spec C (hA.le (by lia))
  intro s x d y d2 pb fs eofv t0 t1 t2 t3 t4 t5 t7 t9 tl tt2 ts tnl tp te he C'
  fail "bck"
  fail "gox"
  have S := S.only (sub := [.ins y 694 d2, .dic d2 ioNm _, .ins x 787 d, .dic d lexNm _, .raw fs dqO, .raw pb dqO, .ins rd 137 dr, .dic dr igNm _, .tab it kv, .lst _ []]) (by fail "pk")
  obtain ⟨hfil, hhin⟩ := fil_of hinf (by lia)
  clear hout
  have hbz : (textT row).length ≤ 1000000 := by lia
  refine use (sub := [.ins y 694 d2, .dic d2 ioNm _, .ins x 787 d, .dic d lexNm _, .raw fs dqO, .raw pb dqO]) S (by fail "pk") ?_; intro gc C hg hr bk; clear S; apply wc_of
  apply get_spec (p := 0) hbz (Nat.zero_le _) hrun rfl hrne he C (hA.le (by lia))
  intro s tk ts2 tl2 tt3 stv tp2 p2 hp2 hd2 hst C'
  fail "bck"
  fail "gox"
  obtain ⟨Dt, hDt⟩ : ∃ Dt, Dt = a := ⟨a, rfl⟩
  subst hDt
  obtain ⟨hparts, hfile, px⟩ := h
  dsimp only at hrun hrne hrd he S
  apply x_while
  refine loop_by (fun s => Ex14 fun g' r rest st lt p tp stv ts tl tt tk v8 v9 => Sub g g' ∧ KvOk st.kv ∧ RdA hs (fun h => outT xs dirs (fileO h) (nameT h)) (tell hs rs (fun h => outT xs dirs (fileO h) (nameT h)) f) n px (wcS px).cps.toList (showF ⟨hparts, hfile, px⟩) r rest st out ∧ All2 (EntF (New g g')) lt st.told ∧ p ≤ (textT row).length ∧ (textT row).cps.toList.drop p = rest ∧ (r.isSome = true → stv = Value.str (Str.ofString " ") ts) ∧
    St w o₀ g' L [Str.ofString "heads", Str.ofString "rows", Str.ofString "number", Str.ofString "reader", Str.ofString "lex", Str.ofString "told", Str.ofString "token", Str.ofString "other", Str.ofString "answer"] [some (.ref Dh), some (.ref Dr), some (.int (n : Nat) tn), some (.ref rd), some (.ref x), some (.ref Dt), some (tokV px r tk), v8, v9]
      [.ins y 694 d2, .dic d2 ioNm [some (.str (Str.ofString "\n") tnl), some (.str (textT row) txt), some (.int (p : Nat) tp)], .ins x 787 d, .dic d lexNm (lexV y inf px eofv (wcS px) t0 t1 t2 t3 t4 t5 t7 t9 stv pb st.line tl (Str.ofString "") tt fs), .raw fs dqO, .raw pb dqO, .ins rd 137 dr, .dic dr igNm [some (.ref ms), some (.ref ds), some (.ref it)], .tab it st.kv, .lst Dt lt] s) ?_ ?_
  · exact ⟨g, _, _, _, _, _, _, _, _, _, _, _, _, _, Sub.refl g, hkv, hrd, .nil, hp2, hd2, hst, S⟩
  clear S hst hd2 hp2 hrd hrun hrne
  rintro s ⟨g', r, rest, st, lt, p, tp, stv, ts, tl, tt, tk, v8, v9, hgg, hkv2, hR, hlt, hp2, hd2, hst, S⟩
  have hle := hR.le (tell_kv f)
  induction hR generalizing g' lt p tp stv ts tl tt tk v8 v9 s with
  | @eof rest st h3 h4 =>
    have hlz : lt.length ≤ sizeLine := by rw [hlt.length, sizeLine_eq]; lia
    cases px
    · obtain rfl : eofv = .str (Str.ofString "") te := he
      apply w_step
      fail "vin"; fail "go"
      refine v_use (sub := []) Picks.nil ?_; intro s gc C hg hr bk; apply wc_of
      apply leader_spec hfil h3 h4 hhin (.frz (hr _ (by fail "mem"))) (.frz (hr _ (by fail "mem"))) (by fail "lk") (by fail "lk") C (hA.le (by lia))
      intro s tld C'; fail "bck"
      fail "gox"
      obtain ⟨ga, hga, hpa, S⟩ := S.frz1
      have S := S.only (sub := [.ins rd 137 dr, .dic dr igNm _, .tab it _, .lst Dt _]) (by fail "pk")
      try apply hretF
      exact k _ ga Dt _ (Sub.trans hgg hga) ((hlt.mono fun _ _ z => z.mono (new_sub hga)).snoc ⟨_, _, hpa.mono fun a o z => new_old hgg a o z⟩) S.out
    · obtain rfl : eofv = .none := he
      apply w_step
      fail "vin"; fail "go"
      refine v_use (sub := []) Picks.nil ?_; intro s gc C hg hr bk; apply wc_of
      apply leader_spec hfil h3 h4 hhin (.frz (hr _ (by fail "mem"))) (.frz (hr _ (by fail "mem"))) (by fail "lk") (by fail "lk") C (hA.le (by lia))
      intro s tld C'; fail "bck"
      fail "gox"
      obtain ⟨ga, hga, hpa, S⟩ := S.frz1
      have S := S.only (sub := [.ins rd 137 dr, .dic dr igNm _, .tab it _, .lst Dt _]) (by fail "pk")
      try apply hretF
      exact k _ ga Dt _ (Sub.trans hgg hga) ((hlt.mono fun _ _ z => z.mono (new_sub hga)).snoc ⟨(0 : Tok), _, hpa.mono fun a o z => new_old hgg a o z⟩) S.out
  | @word tok rest r3 n3 r st out h1 h2 h3 h4 h5 h6 h7 ih =>
    have hlz : lt.length ≤ sizeLine := by rw [hlt.length, sizeLine_eq]; lia
    have hle2 := h7.le (tell_kv f)
    obtain rfl := hst rfl
    have hu : (tx tok == Str.ofString "use") = false := by
      rw [← useL_tx]
      refine beq_eq_false_iff_ne.mpr fun q => h1 ?_
      have := congrArg (fun z : Str => z.cps.toList) q
      simpa using this
    have heh : handedIn eofv = true := by rw [he]; cases px <;> rfl
    have hz : px = false → (tx tok != Str.ofString "") = true := fun hpx => by rw [bne, tx_nz (h2 hpx)]; rfl
    apply w_step
    fail "vin"; fail "go"
    refine v_use (sub := []) Picks.nil ?_; intro s gc C hg hr bk; apply wc_of
    apply leader_spec hfil h3 h4 hhin (.frz (hr _ (by fail "mem"))) (.frz (hr _ (by fail "mem"))) (by fail "lk") (by fail "lk") C (hA.le (by lia))
    intro s tld C'; fail "bck"
    fail "gox"
    obtain ⟨ga, hga, hpa, S⟩ := S.frz1
    refine use (sub := [.ins y 694 d2, .dic d2 ioNm _, .ins x 787 d, .dic d lexNm _, .raw fs dqO, .raw pb dqO]) S (by fail "pk") ?_; intro gc C hg hr bk; clear S; apply wc_of
    apply get_spec (te := te) hbz hp2 (hd2 ▸ h5) rfl h6 he C (hA.le (by lia))
    intro s tk2 ts2 tl2 tt3 stv tp2 p2 hp3 hd3 hst2 C'
    fail "bck"
    fail "gox"
    exact ih hb1 hb2 k _ ga _ _ _ _ _ _ _ _ _ _ (Sub.trans hgg hga) hkv2 ((hlt.mono fun _ _ z => z.mono (new_sub hga)).snoc (show EntF (New g ga) _ (some (tx tok), leadT (showF _) st.line) from ⟨tk, _, hpa.mono fun a o z => new_old hgg a o z⟩)) hp3 hd3 hst2 S hle2
  | @use m r1 r2 r3 n2 n3 r st out h1 h2 h3 h4 h5 h6 ih =>
    have hlz : lt.length ≤ sizeLine := by rw [hlt.length, sizeLine_eq]; lia
    have hle2 := h6.le (tell_kv f)
    have hkvz : st.kv.length ≤ 1000000 := by lia
    obtain rfl := hst rfl
    have hnn : numL m ≠ [] := fun q => by
      have h := intText_num (n := m) (by lia)
      have e : Str.ofString (toString (m : Int)) = tx (numL m) := tx_eq
      rw [e, q] at h
      have h0 : PySem.intText? (tx []) = none := by decide +kernel
      rw [h0] at h
      cases h
    have W' := W.sub hgg
    obtain ⟨lh, f1', hat⟩ := W'.hs.at (w := w)
    have hmg : hs.getD m noHead = hs[m] := by rw [List.getD_eq_getElem?_getD, List.getElem?_eq_getElem h1]; rfl
    have hme : hs[m]? = some hs[m] := List.getElem?_eq_getElem h1
    generalize hs[m] = hm at hmg hme
    obtain ⟨am, bm, lpm, hm1, hm2, hm3, hm4, hm5⟩ := hat hme
    have hmo := hho _ (List.mem_of_getElem? hme)
    have heh : handedIn eofv = true := by rw [he]; cases px <;> rfl
    have hz : px = false → (tx useL != Str.ofString "") = true := fun _ => by decide +kernel
    have huu : (tx useL == Str.ofString "use") = true := by decide +kernel
    apply w_step
    fail "vin"; fail "go"
    refine v_use (sub := [.ins y 694 d2, .dic d2 ioNm _, .ins x 787 d, .dic d lexNm _, .raw fs dqO, .raw pb dqO]) (by fail "pk") ?_; intro s gc C hg hr bk; apply wc_of
    apply get_spec (te := te) hbz hp2 (hd2 ▸ h3) rfl (fun _ q => hnn (Option.some.inj q)) he C (hA.le (by lia))
    intro s tk2 ts2 tl2 tt3 stv2 tp2 p2 hp3 hd3 hst2 C'
    have S := bk _ _ _ C' (by fail "app"); clear C' bk hr hg C gc
    obtain rfl := hst2 rfl
    rw [show tokV px (some (numL m)) tk2 = .str (Str.ofString (toString (m : Int))) tk2 from by show Value.str (tx (numL m)) tk2 = _; rw [← tx_eq]]
    fail "vin"; fail "go"
    apply v_k_int_text (intText_num (by lia)) (by have := num_len (n := m) (by lia); lia); intro tm
    fail "go"
    apply v_s_item (.frz f1') rfl (by lia) (by lia) (by rw [Int.toNat_natCast]; exact hm1)
    fail "go"
    refine v_use (sub := []) Picks.nil ?_; intro s gc C hg hr bk; apply wc_of
    apply file_spec (hm2.mono (frz_sub hg)) hmo C (hA.le (by lia))
    intro s fv hfv C'
    fail "bck"
    fail "go"
    apply v_s_item (.frz f1') rfl (by lia) (by lia) (by rw [Int.toNat_natCast]; exact hm1)
    fail "go"
    apply v_k_join (.frz hm4) hm5 hmo.join.2; intro tj
    fail "go"
    refine v_use (sub := [.ins rd 137 dr, .dic dr igNm _, .tab it _]) (by fail "pk") ?_; intro s gc C hg hr bk; apply wc_of
    have Wc := (W.sub hgg).sub hg
    apply names_spec hfv Wc.ms Wc.st Wc.ne Wc.ds Wc.dl hkvz Wc.xz Wc.dz C (hA.le (by lia))
    intro s an ta kv2 han C'
    have S := bk _ _ _ C' (by fail "app"); clear C' bk hr hg C gc Wc
    have han : (an, kv2) = ansT (fun h => outT xs dirs (fileO h) (nameT h)) st.kv hm := han
    have han1 := congrArg Prod.fst han
    have han2 := congrArg Prod.snd han
    dsimp only at han1 han2
    have hkv3 := (hkv2.ans (lo := fun h => outT xs dirs (fileO h) (nameT h)) (hd := hm))
    rw [← han1, ← han2] at hkv3
    obtain ⟨hkv4, han3⟩ := hkv3
    have hus := useS_eq (hs := hs) (lo := fun h => outT xs dirs (fileO h) (nameT h)) (rec := tell hs rs (fun h => outT xs dirs (fileO h) (nameT h)) f) (m := m) (kv := st.kv)
    rw [hmg, ← han1, ← han2] at hus
    try (fail "run")
    obtain ⟨ga, hga, hpa, S⟩ := S.frz1
    have sga := Sub.trans hgg hga
    apply ite_by <;> intro hq
    · have hq0 : an = 0 := eq_of_beq hq
      rw [if_pos hq0] at hus
      rw [hus] at ih hle2
      simp only [List.length_append, List.length_cons] at hle2
      try (fail "run")
      refine use3 (sub := [.ins rd 137 dr, .dic dr igNm _, .tab it _]) S (by fail "pk") ?_; intro gc C hg hr bk; clear S; apply wc_of
      refine IH m kv2 gc s _ _ tm (by lia) (by lia) hA hkv4 (by lia) (by lia) ((W.sub sga).sub hg) C ?_
      intro s gc' Ds ls hsc hls C'
      obtain ⟨gb, hgb, hnew, S⟩ := bk gc' _ _ _ hsc C' (by fail "app")
      clear C' bk hr C
      have hlsl := hls.length
      try (fail "run")
      apply k_extend S (by fail "has") (by fail "ul") (by rw [List.length_append, hlt.length, hlsl]; simp only [List.length_cons, List.length_nil]; lia); clear S; intro s S
      have S := S.only (sub := [.ins y 694 d2, .dic d2 ioNm _, .ins x 787 d, .dic d lexNm _, .raw fs dqO, .raw pb dqO, .ins rd 137 dr, .dic dr igNm _, .tab it _, .lst Dt _]) (by fail "pk")
      fail "vin"; fail "go"
      refine v_use (sub := [.ins y 694 d2, .dic d2 ioNm _, .ins x 787 d, .dic d lexNm _, .raw fs dqO, .raw pb dqO]) (by fail "pk") ?_; intro s gc C hg hr bk; apply wc_of
      apply get_spec (te := te) hbz hp3 (hd3 ▸ h4) rfl h5 he C (hA.le (by lia))
      intro s tk3 ts3 tl3 tt4 stv3 tp3 p3 hp4 hd4 hst3 C'
      fail "bck"
      fail "gox"
      have S := S.only (sub := [.ins y 694 d2, .dic d2 ioNm _, .ins x 787 d, .dic d lexNm _, .raw fs dqO, .raw pb dqO, .ins rd 137 dr, .dic dr igNm _, .tab it _, .lst Dt _]) (by fail "pk")
      refine ih hb1 hb2 k _ gb _ _ _ _ _ _ _ _ _ _ (Sub.trans sga hgb) (KvOk.tell f m kv2 hkv4) ?_ hp4 hd4 hst3 S (by simp only [List.length_append, List.length_cons]; exact hle2)
      have up : ∀ a o, New g g' a o → New g gb a o := new_sub (Sub.trans hga hgb)
      have e1 : EntF (New g gb) _ (some (Str.ofString "use"), Str.ofString (toString an)) := ⟨_, _, hpa.mono fun a o z => new_sub hgb a o (new_old hgg a o z)⟩
      rw [List.append_assoc]
      exact (hlt.mono fun _ _ z => z.mono up).append (.cons e1 (hls.mono fun _ _ z => z.mono fun a o y => new_old sga a o (hnew a o y)))
    · have hq0 : ¬ an = 0 := by simpa using hq
      rw [if_neg hq0] at hus
      rw [hus] at ih hle2
      fail "vin"; fail "go"
      refine v_use (sub := [.ins y 694 d2, .dic d2 ioNm _, .ins x 787 d, .dic d lexNm _, .raw fs dqO, .raw pb dqO]) (by fail "pk") ?_; intro s gc C hg hr bk; apply wc_of
      apply get_spec (te := te) hbz hp3 (hd3 ▸ h4) rfl h5 he C (hA.le (by lia))
      intro s tk3 ts3 tl3 tt4 stv3 tp3 p3 hp4 hd4 hst3 C'
      fail "bck"
      fail "gox"
      have S := S.only (sub := [.ins y 694 d2, .dic d2 ioNm _, .ins x 787 d, .dic d lexNm _, .raw fs dqO, .raw pb dqO, .ins rd 137 dr, .dic dr igNm _, .tab it _, .lst Dt _]) (by fail "pk")
      refine ih hb1 hb2 k _ ga _ _ _ _ _ _ _ _ _ _ sga hkv4 ?_ hp4 hd4 hst3 S hle2
      have up : ∀ a o, New g g' a o → New g ga a o := new_sub hga
      have e1 : EntF (New g ga) _ (some (Str.ofString "use"), Str.ofString (toString an)) := ⟨_, _, hpa.mono fun a o z => new_old hgg a o z⟩
      exact (hlt.mono fun _ _ z => z.mono up).append (.cons e1 .nil)
end
section
theorem k_str_fil {w : World} {o₀ : OsState} {g : Heap} {L : Addr} {nm : List Str} {vs : List (Option Value)} {led : Led} {s : Shared} {A : Around} {inf : Value} {f : Str} {Q : QV} (S : St w o₀ g L nm vs led s) (hf : Fil inf f) (h : ∀ s t, St w o₀ g L nm vs led s → Q (.str f t) s) : WC w A (.type "str") [inf] [] Q s := by
  cases hf with
  | none => exact k_str_none S h
  | some => exact k_str_str (h _ _ S)
theorem v_k_str_fil {w : World} {κ : Cx} {A : Around} {inf : Value} {f : Str} {Q : QV} (hf : Fil inf f) (h : ∀ t, V w κ (Q (.str f t))) : V w κ (WC w A (.type "str") [inf] [] Q) := fun s S => k_str_fil S hf fun s t S => h t s S
set_option hygiene false in
local macro_rules | `(tactic| fail "vc2") => `(tactic| first | apply v_k_str_int; lia; lia; intro t | apply v_k_str_fil; exact hfil; intro t | apply v_k_join; fail "has"; with_reducible assumption; with_reducible assumption; intro t | apply v_k_int_text; exact hit1; exact hit2; intro t)
set_option hygiene false in
local macro_rules | `(tactic| fail "vs2") => `(tactic| (apply v_i_tab; fail "ul"; exact hlk; exact hkz))
set_option hygiene false in
local macro_rules | `(tactic| fail "vq2") => `(tactic| (apply v_q_nin_tab; fail "has"))
/- all that the due walk looks at -/
structure DuW (w : World) (g : Heap) (Dh Dr : Addr) (hs : List Head) (rs : List (List Item)) (Dst Dm Df : Addr) (lm lf : List Value) (mods : List Str) (fs : List (List Str)) : Prop where
  hs : HeadsF (Frz g) (.ref Dh) hs
  rs : RowsF (Frz g) (.ref Dr) rs
  st : (Cell.lst Dst [.ref Dm, .ref Df]).ok w.params g
  m : (Cell.lst Dm lm).ok w.params g
  ml : Strs lm mods
  mo : ∀ r ∈ mods, modOk r = true
  f : (Cell.lst Df lf).ok w.params g
  fl : All2 (FoldF (Frz g)) lf fs
  fo : ∀ r ∈ fs, r.length ≤ 1000 ∧ r.all PyData.strOk = true
  mz : mods.length ≤ 1000
  fz : fs.length ≤ 1000
theorem FoldF.mono {F F' : Addr → Obj → Prop} {v h} (x : FoldF F v h) (k : ∀ a o, F a o → F' a o) : FoldF F' v h := let ⟨l, h1, h2⟩ := x; ⟨l, h1.mono k, h2⟩
theorem DuW.sub {w g g' Dh Dr hs rs Dst Dm Df lm lf mods fs} (h : DuW w g Dh Dr hs rs Dst Dm Df lm lf mods fs) (k : Sub g g') : DuW w g' Dh Dr hs rs Dst Dm Df lm lf mods fs :=
  ⟨h.hs.mono (frz_sub k), h.rs.mono (frz_sub k), h.st.keeps fun o q => k _ _ q, h.m.keeps fun o q => k _ _ q, h.ml, h.mo, h.f.keeps fun o q => k _ _ q, h.fl.mono fun _ _ z => z.mono (frz_sub k), h.fo, h.mz, h.fz⟩
theorem heads_ok : headsT.all headOk = true := by decide +kernel
/- the contract of _law_due, for so much fuel -/
noncomputable def DS (w : World) (o₀ : OsState) (Dh Dr : Addr) (hs : List Head) (rs : List (List Item)) (Dst Dm Df kn : Addr) (lm lf : List Value) (mods : List Str) (fs : List (List Str)) (f : Nat) : Prop :=
  ∀ (n : Nat) (kv : Tab) (g : Heap) (s : Shared) (A : Around) (Q : QV) (tn : Tok), n < rs.length → rs.length - n ≤ f → Ok A (f + 8) → KvOk kv →
    (tell hs rs (fun h => leftT h mods fs) f n kv).1.length ≤ 1000000 → (tell hs rs (fun h => leftT h mods fs) f n kv).2.length ≤ 1000000 →
    DuW w g Dh Dr hs rs Dst Dm Df lm lf mods fs → S0 w o₀ g [.tab kn kv] s →
    (∀ s' g' Dt lt, Sub g g' → All2 (EntF (New g g')) lt (tell hs rs (fun h => leftT h mods fs) f n kv).1 →
      S0 w o₀ g' [.tab kn (tell hs rs (fun h => leftT h mods fs) f n kv).2, .lst Dt lt] s' → Q (.ref Dt) s') →
    WD w A (.ref 861) [.ref Dh, .ref Dr, .int (n : Nat) tn, .ref Dst, .ref kn] [] Q s
noncomputable def ldrT (f : Str) : Str := Str.ofString "\"" ++ f ++ Str.ofString "\", line "
theorem lead_z {f : Str} (hf : f.length ≤ 2000) {n : Int} (h0 : 0 ≤ n) (h1 : n < 10 ^ 10) : (ldrT f).length + (Str.ofString (toString n)).length ≤ sizeLine ∧ (ldrT f ++ Str.ofString (toString n)).length + (Str.ofString ": ").length ≤ sizeLine := by
  have h2 := KT.len_num h0 h1
  have e1 : (Str.ofString "\"").length = 1 := rfl
  have e2 : (Str.ofString "\", line ").length = 8 := rfl
  have e3 : (Str.ofString ": ").length = 2 := rfl
  unfold ldrT
  rw [sizeLine_eq]
  simp only [Str.length_append]
  lia
theorem fold_told {hs lo rec px f} : ∀ (row : List Item) (st : TS), st.told.length ≤ (row.foldl (stepI hs lo rec px f) st).told.length
  | [], st => Nat.le_refl _
  | it :: row, st => by
    refine Nat.le_trans ?_ (fold_told row _)
    unfold stepI
    split <;> simp
theorem strandE_snoc {f : Str} {p : Str} : ∀ (l : List Str) (line : Int), strandE f (l ++ [p]) line = ((strandE f l line).1 ++ [(some p, leadT f ((strandE f l line).2 + cntT p))], (strandE f l line).2 + cntT p)
  | [], line => rfl
  | q :: l, line => by
    simp only [List.cons_append, strandE_0, strandE_c]
    rw [strandE_snoc l]
/- two ways that meet: what comes after is proved once -/
theorem join_at {w : World} {o₀ : OsState} {g : Heap} {L : Addr} {nm : List Str} {vs : List (Option Value)} {led : Led} {s : Shared} {W : Prop} {G : Tok → Shared → Prop} (led' : Led) (h : St w o₀ g L nm vs led s → (∀ s t, St w o₀ g L nm vs led' s → G t s) → W) (k : ∀ s t, St w o₀ g L nm vs led' s → G t s) : St w o₀ g L nm vs led s → W := fun S => h S k
theorem join_b {w : World} {o₀ : OsState} {g : Heap} {L : Addr} {nm : List Str} {vs : List (Option Value)} {led : Led} {s : Shared} {W : Prop} {G : Bool → Shared → Prop} (b : Bool) (h : St w o₀ g L nm vs led s → (∀ s, St w o₀ g L nm vs led s → G b s) → W) (k : ∀ s, St w o₀ g L nm vs led s → G b s) : St w o₀ g L nm vs led s → W := fun S => h S k
theorem ans_lookup {lo : Head → Bool} {kv : List (Str × Int)} {hd : Head} : (ansT lo kv hd).2.lookup (nameT hd) = some (ansT lo kv hd).1 := by
  unfold ansT
  cases q : kv.lookup (nameT hd) with
  | none => rw [List.lookup_append, q]; simp
  | some v => exact q
theorem due_step {w : World} {o₀ : OsState} {Dh Dr : Addr} {hs : List Head} {rs : List (List Item)} {Dst Dm Df kn : Addr} {lm lf : List Value} {mods : List Str} {fs : List (List Str)} {f : Nat} (hok : rowsOk hs rs) (hpz : ∀ h ∈ hs, (pathT h).length ≤ 1000)
    (hord : ∀ n it, it ∈ rs.getD n [] → it.k = Str.ofString "use" → n < useN it)
    (IH : DS w o₀ Dh Dr hs rs Dst Dm Df kn lm lf mods fs f) : DS w o₀ Dh Dr hs rs Dst Dm Df kn lm lf mods fs (f + 1) := by
  intro n kv g s A Q tn hn hf hA hkv hb1 hb2 W C k
  obtain ⟨hlen, hrz, hho, hro⟩ := hok
  have hget : hs[n]? = some (hs.getD n noHead) := by rw [List.getD_eq_getElem?_getD, List.getElem?_eq_getElem (by lia)]; rfl
  have hgetr : rs[n]? = some (rs.getD n []) := by rw [List.getD_eq_getElem?_getD, List.getElem?_eq_getElem hn]; rfl
  have hhn := hho _ (List.mem_of_getElem? hget)
  have hpn := hpz _ (List.mem_of_getElem? hget)
  obtain ⟨hr1, hr2⟩ := hro _ (List.mem_of_getElem? hgetr)
  have hord1 := hord n
  obtain ⟨h, hh⟩ : ∃ h, h = hs.getD n noHead := ⟨_, rfl⟩
  obtain ⟨row, hrow⟩ : ∃ row, row = rs.getD n [] := ⟨_, rfl⟩
  obtain ⟨rec, hrec⟩ : ∃ rec, rec = tell hs rs (fun h => leftT h mods fs) f := ⟨_, rfl⟩
  obtain ⟨ste, hste⟩ : ∃ ste, ste = stepI hs (fun h => leftT h mods fs) rec h.px (showF h) := ⟨_, rfl⟩
  have hout : tell hs rs (fun h => leftT h mods fs) (f + 1) n kv = ((row.foldl ste ⟨[], kv, 1⟩).told ++ [(eofE h.px, leadT (showF h) (row.foldl ste ⟨[], kv, 1⟩).line)], (row.foldl ste ⟨[], kv, 1⟩).kv) := by
    rw [hste, hrec, hh, hrow]; rfl
  rw [hout] at hb1 hb2 k
  rw [← hh] at hget hhn hpn
  rw [← hrow] at hgetr hr1 hr2 hord1
  clear hout
  have hkt : ∀ m kv, kv.length ≤ (rec m kv).2.length := by rw [hrec]; exact tell_kv f
  have hb3 : ∀ i, ((row.take i).foldl ste ⟨[], kv, 1⟩).told.length + 1 ≤ 1000000 ∧ ((row.take i).foldl ste ⟨[], kv, 1⟩).kv.length ≤ 1000000 := fun i => by
    have h1 := fold_told (hs := hs) (lo := fun h => leftT h mods fs) (rec := rec) (px := h.px) (f := showF h) (row.drop i) ((row.take i).foldl ste ⟨[], kv, 1⟩)
    have h2 := fold_kv (hs := hs) (lo := fun h => leftT h mods fs) (px := h.px) (f := showF h) hkt (row.drop i) ((row.take i).foldl ste ⟨[], kv, 1⟩)
    rw [← hste, ← List.foldl_append, List.take_append_drop] at h1 h2
    simp only [List.length_append, List.length_cons, List.length_nil] at hb1 hb2
    lia
  obtain ⟨lh, f1, hat⟩ := W.hs.at (w := w)
  obtain ⟨lr, f2, rat⟩ := W.rs.at (w := w)
  obtain ⟨ah, bh, lp, ha1, ha2, ha3, ha4, ha5⟩ := hat hget
  obtain ⟨ar, hb4, lrow, ⟨_, nr, hare, hb5⟩, hlrow⟩ := rat hgetr
  cases hare
  have f3 : (Cell.lst ar lrow).ok w.params g := ⟨_, hb5, nr, rfl⟩
  refine enterC C hA [Str.ofString "heads", Str.ofString "rows", Str.ofString "number", Str.ofString "settings", Str.ofString "known", Str.ofString "posix", Str.ofString "leader", Str.ofString "told", Str.ofString "line", Str.ofString "kind", Str.ofString "value", Str.ofString "last", Str.ofString "head", Str.ofString "name", Str.ofString "strand"] [Str.ofString "str", Str.ofString "_law_file", Str.ofString "int", Str.ofString "_law_left_out", Str.ofString "_law_due", Str.ofString "list", Str.ofString "all", Str.ofString "_law_strands"] [some (.ref Dh), some (.ref Dr), some (.int (n : Nat) tn), some (.ref Dst), some (.ref kn), none, none, none, none, none, none, none, none, none, none]
    [(Str.ofString "heads", .ref Dh), (Str.ofString "rows", .ref Dr), (Str.ofString "number", .int (n : Nat) tn), (Str.ofString "settings", .ref Dst), (Str.ofString "known", .ref kn)]
    (fun L => [(Str.ofString "letters", L + 1)]) [Str.ofString "letters"] [none]
    (by k_is) (by k_is) rfl (BindsTo.of_eq rfl) rfl (by kernel_rfl) (fun L => rfl) (fun L => rfl) (fun L => rfl) rfl (fun L => rfl) ?_
  intro env L s e ec hL hA S; apply hideF; intro KF hretF hendF
  simp only [celLed_c, celLed_0, celLed_00, List.cons_append, List.nil_append] at S
  fail "vin"; fail "go"
  apply v_s_item (.frz f1) rfl (by lia) (by lia) (by rw [Int.toNat_natCast]; exact ha1)
  fail "go"
  apply v_s_item (.frz f1) rfl (by lia) (by lia) (by rw [Int.toNat_natCast]; exact ha1)
  fail "go"
  refine v_use (sub := []) Picks.nil ?_; intro s gc C hg hr bk; apply wc_of
  apply file_spec (ha2.mono (frz_sub hg)) hhn C (hA.le (by lia))
  intro s inf hinf C'
  fail "back"
  have hshow : (showF h).length ≤ 2000 := by
    unfold showF fileO
    split
    · rename_i p hp; split at hp
      · cases hp; lia
      · cases hp
    · decide
  have zz1 : (Str.ofString "\"").length + (showF h).length ≤ sizeLine := by
    have e1 : (Str.ofString "\"").length = 1 := rfl
    rw [sizeLine_eq]; lia
  have zz2 : (Str.ofString "\"" ++ showF h).length + (Str.ofString "\", line ").length ≤ sizeLine := by
    have e1 : (Str.ofString "\"").length = 1 := rfl
    have e2 : (Str.ofString "\", line ").length = 8 := rfl
    rw [sizeLine_eq, Str.length_append]; lia
  obtain ⟨hfil, hhin⟩ := fil_of hinf (by lia)
  try (fail "run")
  apply x_for rfl
  try (fail "run")
  apply s_item S (.frz f2) rfl (by lia) (by lia) (by rw [Int.toNat_natCast]; exact hb4)
  apply it_list S (.frz f3); clear S; intro s I hI S
  obtain ⟨Dt, hDt⟩ : ∃ Dt, Dt = a := ⟨a, rfl⟩
  subst hDt
  have S := S.only (sub := [.itr I ar 0, celC (L + 1) _, .tab kn kv, .lst Dt []]) (by fail "pk")
  refine f_list (items := lrow) (J := fun i g' vs' led' => Sub g g' ∧ Ex10 fun lt tle tld tl v9 v10 v11 v12 v13 v14 => All2 (EntF (New g g')) lt ((row.take i).foldl ste ⟨[], kv, 1⟩).told ∧ KvOk ((row.take i).foldl ste ⟨[], kv, 1⟩).kv ∧ 1 ≤ ((row.take i).foldl ste ⟨[], kv, 1⟩).line ∧ ((row.take i).foldl ste ⟨[], kv, 1⟩).line ≤ 1 + 1000 * i ∧
      vs' = [some (.ref Dh), some (.ref Dr), some (.int (n : Nat) tn), some (.ref Dst), some (.ref kn), some (.bool h.px), some (.str (ldrT (showF h)) tld), some (.ref Dt), some (.int ((row.take i).foldl ste ⟨[], kv, 1⟩).line tl), v9, v10, v11, v12, v13, v14] ∧
      led' = [celC (L + 1) (some (.str lettersT tle)), .tab kn ((row.take i).foldl ste ⟨[], kv, 1⟩).kv, .lst Dt lt]) hA S ⟨Sub.refl g, _, _, _, _, _, _, _, _, _, _, .nil, hkv, (show (1 : Int) ≤ 1 by decide), (show (1 : Int) ≤ 1 + 1000 * ((0 : Nat) : Int) by decide), rfl, rfl⟩ ?_ ?_ ?_
  · rintro i g' vs' led' ⟨hgg, _⟩
    exact .frz (f3.keeps fun o q => hgg _ _ q)
  · clear S
    rintro i v g' vs' led' s hv qq1 S
    apply hideE; intro KL hnext hcont hbrk hret; clear hcont hbrk hret
    obtain ⟨hgg, lt, tle, tld, tl, v9, v10, v11, v12, v13, v14, hlt, hkv2, hl1, hl2, rfl, rfl⟩ := qq1
    obtain ⟨it, hit, t1, t2, t3, b, n2, rfl, h2⟩ := hlrow.at hv
    have fb : (Cell.lst b [.str it.k t1, .str it.v t2, .int it.last t3]).ok w.params g' := ⟨_, hgg _ _ h2, n2, rfl⟩
    have hio := hr2 it (List.mem_of_getElem? hit)
    have hi100 : i < 100 := by have := (List.getElem?_eq_some_iff.mp hit).1; lia
    have hst1 : (row.take (i + 1)).foldl ste ⟨[], kv, 1⟩ = ste ((row.take i).foldl ste ⟨[], kv, 1⟩) it := by
      rw [take_succ' hit, List.foldl_append]; rfl
    have hb6 := hb3 (i + 1)
    have hb7 := hb3 i
    have hsl := step_line (hs := hs) (lo := fun h => leftT h mods fs) (rec := rec) (px := h.px) (f := showF h) (st := (row.take i).foldl ste ⟨[], kv, 1⟩) hio
    rw [← hste, ← hst1] at hsl
    obtain ⟨st2, hst2⟩ : ∃ st2, st2 = (row.take (i + 1)).foldl ste ⟨[], kv, 1⟩ := ⟨_, rfl⟩
    rw [← hst2] at hb6 hsl hnext
    rw [hst1] at hst2
    have hordi := hord1 it (List.mem_of_getElem? hit)
    clear hst1
    generalize (row.take i).foldl ste ⟨[], kv, 1⟩ = st at *
    have W' := W.sub hgg
    have hlz : lt.length ≤ sizeLine := by rw [hlt.length, sizeLine_eq]; lia
    have hkz : st.kv.length ≤ 1000000 := hb7.2
    obtain ⟨hlast, hkind⟩ := hio
    obtain ⟨ik, iv, il⟩ := it
    dsimp only at hlast hkind fb hordi
    rcases hkind with ⟨rfl, m, hm, rfl⟩ | ⟨rfl, hwd⟩
    · have hui : useN ⟨Str.ofString "use", Str.ofString (toString (m : Int)), il⟩ = m := by unfold useN; rw [intText_num (by lia)]; rfl
      have hnm := hordi rfl
      rw [hui] at hnm
      have hstu : ste st ⟨Str.ofString "use", Str.ofString (toString (m : Int)), il⟩ = ⟨st.told ++ (useS hs (fun h => leftT h mods fs) rec m st.kv).1, (useS hs (fun h => leftT h mods fs) rec m st.kv).2, st.line + il⟩ := by
        rw [hste]; unfold stepI; rw [if_pos (beq_self_eq_true _), hui]
      rw [hstu] at hst2
      obtain ⟨lh', f1', hat'⟩ := W'.hs.at (w := w)
      have h1m : m < hs.length := by lia
      have hmg : hs.getD m noHead = hs[m] := by rw [List.getD_eq_getElem?_getD, List.getElem?_eq_getElem h1m]; rfl
      have hme : hs[m]? = some hs[m] := List.getElem?_eq_getElem h1m
      generalize hs[m] = hmh at hmg hme
      obtain ⟨am, bm, lpm, hm1, hm2, hm3, hm4, hm5⟩ := hat' hme
      have hmo := hho _ (List.mem_of_getElem? hme)
      have hjn := hmo.join.2
      have hit1 := intText_num (n := m) (by lia)
      have hit2 : (Str.ofString (toString (m : Int))).length ≤ 640 := by have := num_len (n := m) (by lia); lia
      have fst := W'.st
      obtain ⟨av, hav⟩ : ∃ av, av = (ansT (fun h => leftT h mods fs) st.kv hmh).1 := ⟨_, rfl⟩
      have hkv3 := hkv2.ans (lo := fun h => leftT h mods fs) (hd := hmh)
      rw [← hav] at hkv3
      obtain ⟨hkv4, han3⟩ := hkv3
      have hus := useS_eq (hs := hs) (lo := fun h => leftT h mods fs) (rec := rec) (m := m) (kv := st.kv)
      rw [hmg, ← hav] at hus
      fail "vin"; fail "go"
      apply v_s_item (.frz f1') rfl (by lia) (by lia) (by rw [Int.toNat_natCast]; exact hm1)
      fail "gox"
      rw [show Txt.join (Str.ofString ".") hmh.parts = nameT hmh from rfl] at *
      have hlk2 : (ansT (fun h => leftT h mods fs) st.kv hmh).2.lookup (nameT hmh) = some av := by rw [hav]; exact ans_lookup
      obtain ⟨kv2, hkv5⟩ : ∃ kv2, kv2 = (ansT (fun h => leftT h mods fs) st.kv hmh).2 := ⟨_, rfl⟩
      rw [← hkv5] at hlk2 hus hkv4
      revert S
      refine join_at (G := ?G) [.itr I ar (i + 1), celC (L + 1) (some (.str lettersT tle)), .tab kn kv2, .lst Dt lt] ?h ?k
      case h =>
        intro S kk
        apply ite_by <;> intro hq
        · have hsm : (st.kv.lookup (nameT hmh)).isSome = true := hq
          obtain ⟨v0, hlk3⟩ := Option.isSome_iff_exists.mp hsm
          have han : ansT (fun h => leftT h mods fs) st.kv hmh = (v0, st.kv) := by unfold ansT; rw [hlk3]
          rw [han] at hkv5
          rw [hkv5] at kk
          try (fail "run")
          exact kk _ t S
        · have hlk : st.kv.lookup (nameT hmh) = none := by
            have hq' : (st.kv.lookup (nameT hmh)).isSome = false := hq
            cases q : st.kv.lookup (nameT hmh) with
            | none => rfl
            | some v => rw [q] at hq'; cases hq'
          have han : ansT (fun h => leftT h mods fs) st.kv hmh = ((if leftT hmh mods fs then 1 else 0), st.kv ++ [(nameT hmh, if leftT hmh mods fs then 1 else 0)]) := by unfold ansT; rw [hlk]
          rw [han] at hkv5
          rw [hkv5] at kk
          fail "vin"; fail "go"
          refine v_use (sub := []) Picks.nil ?_; intro s gc C hg hr bk; apply wc_of
          have Wc := W'.sub hg
          apply left_spec (hm2.mono (frz_sub hg)) (List.all_eq_true.mp heads_ok _ hmo) hjn Wc.m Wc.ml Wc.mo Wc.f Wc.fl Wc.fo Wc.mz Wc.fz C (hA.le (by lia))
          intro s ta C'
          have S := bk _ _ _ C' (by fail "app"); clear C' bk hr hg C gc Wc
          try (fail "run")
          exact kk _ t S
      intro s tu S
      apply s_tab S (by fail "has") rfl hlk2; clear S; intro s tx1 S
      try (fail "run")
      obtain ⟨ga, hga, hpa, S⟩ := S.frz1
      have sga := Sub.trans hgg hga
      have e1 : EntF (New g ga) _ (some (Str.ofString "use"), Str.ofString (toString av)) := ⟨_, _, hpa.mono fun a o z => new_old hgg a o z⟩
      apply s_tab S (by fail "has") rfl hlk2; clear S; intro s tx2 S
      try (fail "run")
      apply ite_by <;> intro hq2
      · have hq0 : av = 0 := eq_of_beq hq2
        rw [if_pos hq0] at hus
        rw [hus, hrec] at hst2
        subst hst2
        dsimp only at hb6 hsl
        simp only [List.length_append, List.length_cons] at hb6
        try (fail "run")
        refine use3 (sub := [.tab kn _]) S (by fail "pk") ?_; intro gc C hg hr bk; clear S; apply wc_of
        refine IH m _ gc s _ _ _ (by lia) (by lia) hA hkv4 (by lia) (by lia) ((W.sub sga).sub hg) C ?_
        intro s gc' Ds ls hsc hls C'
        obtain ⟨gb, hgb, hnew, S⟩ := bk gc' _ _ _ hsc C' (by fail "app")
        clear C' bk hr C
        have hlsl := hls.length
        fail "vin"; fail "go"
        apply v_k_extend (by fail "has") (by fail "ul") (by rw [List.length_append, hlt.length, hlsl]; simp only [List.length_cons, List.length_nil]; lia)
        fail "gox"
        have S := S.only (sub := [.itr I ar _, celC (L + 1) _, .tab kn _, .lst Dt _]) (by fail "pk")
        have up : ∀ a o, New g g' a o → New g gb a o := new_sub (Sub.trans hga hgb)
        refine ⟨_, _, _, S, Sub.trans sga hgb, _, _, _, _, _, _, _, _, _, _, ?_, KvOk.tell f m _ hkv4, by dsimp only; lia, by dsimp only; lia, rfl, rfl⟩
        show All2 _ _ (st.told ++ (_ :: (tell hs rs (fun h => leftT h mods fs) f m _).1))
        rw [List.append_assoc]
        exact (hlt.mono fun _ _ z => z.mono up).append (.cons (e1.mono (new_sub hgb)) (hls.mono fun _ _ z => z.mono fun a o y => new_old sga a o (hnew a o y)))
      · have hq0 : ¬ av = 0 := by simpa using hq2
        rw [if_neg hq0] at hus
        rw [hus] at hst2
        subst hst2
        dsimp only at hb6 hsl
        try (fail "run")
        have S := S.only (sub := [.itr I ar _, celC (L + 1) _, .tab kn _, .lst Dt _]) (by fail "pk")
        have up : ∀ a o, New g g' a o → New g ga a o := new_sub hga
        refine ⟨_, _, _, S, sga, _, _, _, _, _, _, _, _, _, _, ?_, hkv4, by dsimp only; lia, by dsimp only; lia, rfl, rfl⟩
        show All2 _ _ (st.told ++ [_])
        exact (hlt.mono fun _ _ z => z.mono up).snoc e1
    · have hstw : ste st ⟨Str.ofString "word", iv, il⟩ = ⟨st.told ++ (wordE h.px (showF h) st.line ⟨Str.ofString "word", iv, il⟩).1, st.kv, (wordE h.px (showF h) st.line ⟨Str.ofString "word", iv, il⟩).2⟩ := by
        rw [hste]; unfold stepI; rw [if_neg (by show ¬ (Str.ofString "word" == Str.ofString "use") = true; decide +kernel)]
      rw [hstw] at hst2
      have hwl := word_len hwd
      have hcb := cnt_bounds iv
      try (fail "run")
      apply k_list_str S hA rfl; clear S; intro s Dl ll hDl hll S
      rw [signs_eq] at hll
      try (fail "run")
      have S := S.forget
      apply ite_by <;> intro hsg
      · have hwe : wordE h.px (showF h) st.line ⟨Str.ofString "word", iv, il⟩ = ([(some iv, leadT (showF h) st.line)], st.line + il) := by
          unfold wordE; rw [if_pos (by dsimp only; exact hsg)]
        rw [hwe] at hst2
        subst hst2
        dsimp only at hb6 hsl
        obtain ⟨z1, z2⟩ := lead_z hshow (n := st.line) (by lia) (by lia)
        try (fail "run")
        obtain ⟨ga, hga, hpa, S⟩ := S.frz1
        try (fail "run")
        have S := S.only (sub := [.itr I ar _, celC (L + 1) _, .tab kn _, .lst Dt _]) (by fail "pk")
        exact ⟨_, _, _, S, Sub.trans hgg hga, _, _, _, _, _, _, _, _, _, _, (hlt.mono fun _ _ z => z.mono (new_sub hga)).snoc ⟨_, _, hpa.mono fun a o z => new_old hgg a o z⟩, hkv2, by dsimp only; lia, by dsimp only; lia, rfl, rfl⟩
      · try (fail "run")
        revert S
        refine join_b (G := ?G2) (h.px || plainW iv) ?h2 ?k2
        case h2 =>
          intro S kk
          apply ite_by <;> intro hpx
          · rw [show (h.px || plainW iv) = true by rw [hpx]; rfl] at kk
            exact kk _ S
          · try (fail "run")
            apply ite_by <;> intro hne
            · try (fail "run")
              refine r_comp rfl (closureFor_cl ec (cs := [(Str.ofString "letters", L + 1)]) rfl) (by decide) ?_
              try (fail "run")
              apply it_str (n := 0) S; clear S; intro s I3 ty hI3 hty S
              refine use (sub := [.prd I3 _]) S (by fail "pk") ?_
              intro gc C hg hr bk
              clear S
              refine co_p (L := L) (n := iv.cps.toList.length) (Ic := fun k => .prd I3 (sitP ty iv _ k)) [] (by decide) (by decide) e C (iterP_str hA hty) (fun k ys led => k ≤ iv.cps.toList.length ∧ led = [] ∧ ys = ((iv.cps.toList.take k).map fun c => Txt.contains lettersT (ch c)).map Value.bool) ⟨by lia, rfl, rfl⟩ (fun k ys led h => ?_) ?_ ?_
              · obtain ⟨q1, _, rfl⟩ := h
                simp only [List.length_map, List.length_take]
                have : iv.cps.toList.length = iv.length := by simp [Str.length]
                lia
              · rintro cenv Cc Da hE hce k2 v ys led s hk qq1 qq2 S
                apply hideT; intro KE K0 hval hskip
                obtain ⟨c, u, hc, rfl⟩ := qq1
                obtain ⟨_, rfl, rfl⟩ := qq2
                have f4 : (celC (L + 1) (some (.str lettersT tle))).ok w.params gc := hr _ (by fail "mem")
                have ec := EnC.of (cn := [Str.ofString "letters"]) e ec hce (by fail "alls") rfl (by decide)
                clear e
                have e := hE
                clear hce bk
                apply ts_nil
                apply ite_t
                try (fail "run")
                refine ⟨_, S, hk, rfl, ?_⟩
                rw [take_succ' hc, List.map_append, List.map_append]; rfl
              · rintro Da ys led s ⟨_, rfl, rfl⟩ C'
                have S := bk _ _ _ C' (by fail "app")
                clear C' bk hr C
                rw [List.take_length] at S
                try (fail "run")
                apply k_all (n := 0) S (hA.le (by lia)) (by fail "has"); clear S; intro s S
                have S := S.forget
                have hall : ((iv.cps.toList.map fun c => Txt.contains lettersT (ch c)).all id) = plainW iv := by
                  unfold plainW; rw [hne, Bool.true_and, List.all_map]; rfl
                rw [hall]
                try (fail "run")
                apply ite_by <;> intro hpw
                · rw [show (h.px || plainW iv) = true by rw [hpw, Bool.or_true]] at kk
                  apply n_nil; apply ite_t; exact kk _ S
                · rw [show (h.px || plainW iv) = false by rw [hpx, hpw]; rfl] at kk
                  apply ite_f; apply o_nil; exact kk _ S
            · rw [show (h.px || plainW iv) = false by unfold plainW; rw [hpx, hne]; rfl] at kk
              apply ite_f; apply o_nil; exact kk _ S
        intro s S
        cases hcond : (h.px || plainW iv)
        · have hwe : wordE h.px (showF h) st.line ⟨Str.ofString "word", iv, il⟩ = ((strandE (showF h) (strandsT iv) st.line).1, (strandE (showF h) (strandsT iv) st.line).2 + il) := by
            unfold wordE; rw [if_neg (by dsimp only; rw [hsg]; exact Bool.false_ne_true), if_neg (by dsimp only; rw [hcond]; exact Bool.false_ne_true)]
          rw [hwe] at hst2
          subst hst2
          dsimp only at hb6 hsl
          try (fail "run")
          apply x_for rfl
          fail "vin"; fail "go"
          refine v_use (sub := []) Picks.nil ?_; intro s gc C hg hr bk; apply wc_of
          apply strands_spec hwd C (hA.le (by lia))
          intro s Ds ls hls C'
          fail "bck"
          fail "gox"
          apply it_list S (by fail "has"); clear S; intro s I2 hI2 S
          obtain ⟨hs1, hs2⟩ := strands_short hwd
          have S := S.only (sub := [.itr I2 Ds 0, .lst Ds ls, .itr I ar _, celC (L + 1) _, .tab kn _, .lst Dt _]) (by fail "pk")
          refine f_list (items := ls) (J := fun j g2 vs2 led2 => Sub g g2 ∧ ∃ lt2 tl2 v14, All2 (EntF (New g g2)) lt2 (st.told ++ (strandE (showF h) ((strandsT iv).take j) st.line).1) ∧
              vs2 = [some (.ref Dh), some (.ref Dr), some (.int (n : Nat) tn), some (.ref Dst), some (.ref kn), some (.bool h.px), some (.str (ldrT (showF h)) tld), some (.ref Dt), some (.int (strandE (showF h) ((strandsT iv).take j) st.line).2 tl2), some (.str (Str.ofString "word") t1), some (.str iv t2), some (.int il t3), v12, v13, v14] ∧
              led2 = [.lst Ds ls, .itr I ar (i + 1), celC (L + 1) (some (.str lettersT tle)), .tab kn st.kv, .lst Dt lt2]) hA S ⟨hgg, _, _, _, by simpa [strandE_0, strandE_c] using hlt, rfl, rfl⟩ ?_ ?_ ?_
          · rintro j g2 vs2 led2 ⟨_, _, _, _, _, _, rfl⟩
            exact .led (.head _)
          · clear S
            rintro j v g2 vs2 led2 s hv2 qq1 S
            apply hideE; intro KL hnext hcont hbrk hret; clear hcont hbrk hret
            obtain ⟨hgg2, lt2, tl2, v14, hlt2, rfl, rfl⟩ := qq1
            obtain ⟨p, tp, rfl, hp⟩ := hls.at hv2
            have hpl := hs2 p (List.mem_of_getElem? hp)
            have hsn : strandE (showF h) ((strandsT iv).take (j + 1)) st.line = ((strandE (showF h) ((strandsT iv).take j) st.line).1 ++ [(some p, leadT (showF h) ((strandE (showF h) ((strandsT iv).take j) st.line).2 + cntT p))], (strandE (showF h) ((strandsT iv).take j) st.line).2 + cntT p) := by
              rw [take_succ' hp, strandE_snoc]
            have hln := strand_line (f := showF h) ((strandsT iv).take j) st.line fun q hq => hs2 q (List.mem_of_mem_take hq)
            have htk : ((strandsT iv).take j).length ≤ 20 := Nat.le_trans (List.length_take_le' ..) hs1
            have hcb := cnt_bounds p
            have hlen3 : ∀ (l : List Str) (line : Int), (strandE (showF h) l line).1.length = l.length := by
              intro l
              induction l with
              | nil => intro line; rfl
              | cons a r ih => intro line; simp only [strandE_0, strandE_c, List.length_cons, ih]
            have hlz2 : lt2.length ≤ sizeLine := by rw [hlt2.length, List.length_append, hlen3, sizeLine_eq]; lia
            rw [hsn] at hnext
            generalize strandE (showF h) ((strandsT iv).take j) st.line = se at *
            obtain ⟨z1, z2⟩ := lead_z hshow (n := se.2 + cntT p) (by lia) (by lia)
            have hcnt : Txt.count p (Str.ofString "\n") = cntT p := rfl
            try (fail "run")
            apply k_count S; clear S; intro s tcn S
            rw [hcnt]
            try (fail "run")
            obtain ⟨ga, hga, hpa, S⟩ := S.frz1
            have S := S.only (sub := [.itr I2 Ds _, .lst Ds ls, .itr I ar _, celC (L + 1) _, .tab kn _, .lst Dt _]) (by fail "pk")
            refine ⟨_, _, _, S, Sub.trans hgg2 hga, _, _, _, ?_, rfl, rfl⟩
            rw [← List.append_assoc]
            exact (hlt2.mono fun _ _ z => z.mono (new_sub hga)).snoc ⟨_, _, hpa.mono fun a o z => new_old hgg2 a o z⟩
          · rintro g2 vs2 led2 s ⟨hgg2, lt2, tl2, v14, hlt2, rfl, rfl⟩ S
            rw [hls.length, List.take_length] at hlt2 S
            try (fail "run")
            have S := S.only (sub := [.itr I ar _, celC (L + 1) _, .tab kn _, .lst Dt _]) (by fail "pk")
            exact ⟨_, _, _, S, hgg2, _, _, _, _, _, _, _, _, _, _, hlt2, hkv2, by dsimp only; lia, by dsimp only; lia, rfl, rfl⟩
        · have hwe : wordE h.px (showF h) st.line ⟨Str.ofString "word", iv, il⟩ = ([(some iv, leadT (showF h) (st.line + cntT iv + il))], st.line + cntT iv + il) := by
            unfold wordE; rw [if_neg (by dsimp only; rw [hsg]; exact Bool.false_ne_true), if_pos (by dsimp only; rw [hcond])]
          rw [hwe] at hst2
          subst hst2
          dsimp only at hb6 hsl
          obtain ⟨z1, z2⟩ := lead_z hshow (n := st.line + cntT iv + il) (by lia) (by lia)
          have hcnt : Txt.count iv (Str.ofString "\n") = cntT iv := rfl
          try (fail "run")
          apply k_count S; clear S; intro s tcn S
          rw [hcnt]
          try (fail "run")
          obtain ⟨ga, hga, hpa, S⟩ := S.frz1
          try (fail "run")
          have S := S.only (sub := [.itr I ar _, celC (L + 1) _, .tab kn _, .lst Dt _]) (by fail "pk")
          exact ⟨_, _, _, S, Sub.trans hgg hga, _, _, _, _, _, _, _, _, _, _, (hlt.mono fun _ _ z => z.mono (new_sub hga)).snoc ⟨_, _, hpa.mono fun a o z => new_old hgg a o z⟩, hkv2, by dsimp only; lia, by dsimp only; lia, rfl, rfl⟩
  · rintro g' vs' led' s ⟨hgg, lt, tle, tld, tl, v9, v10, v11, v12, v13, v14, hlt, hkv2, hl1, hl2, rfl, rfl⟩ S
    rw [hlrow.length] at hl2
    have hlen2 := hb3 row.length
    rw [hlrow.length, List.take_length] at *
    have hlz : lt.length ≤ sizeLine := by rw [hlt.length, sizeLine_eq]; lia
    obtain ⟨z1, z2⟩ := lead_z hshow (n := (row.foldl ste ⟨[], kv, 1⟩).line) (by lia) (by lia)
    try (fail "run")
    cases hpx : h.px
    · rw [hpx] at S k
      try (fail "run")
      obtain ⟨ga, hga, hpa, S⟩ := S.frz1
      have S := S.only (sub := [.tab kn _, .lst Dt _]) (by fail "pk")
      try apply hretF
      refine k _ ga Dt _ (Sub.trans hgg hga) ((hlt.mono fun _ _ z => z.mono (new_sub hga)).snoc ⟨_, _, hpa.mono fun a o z => new_old hgg a o z⟩) S.out
    · rw [hpx] at S k
      try (fail "run")
      obtain ⟨ga, hga, hpa, S⟩ := S.frz1
      have S := S.only (sub := [.tab kn _, .lst Dt _]) (by fail "pk")
      try apply hretF
      refine k _ ga Dt _ (Sub.trans hgg hga) ((hlt.mono fun _ _ z => z.mono (new_sub hga)).snoc ⟨(0 : Tok), _, hpa.mono fun a o z => new_old hgg a o z⟩) S.out
end
theorem mods_all : ((List.range 10).all fun a => (List.range 10).all fun b => decide ((modT a b).length ≤ 1000) && modOk (modT a b)) = true := by decide +kernel
theorem mod_both {a b : Nat} (ha : a < 10) (hb : b < 10) : (modT a b).length ≤ 1000 ∧ modOk (modT a b) = true := by
  have := List.all_eq_true.mp (List.all_eq_true.mp mods_all a (List.mem_range.mpr ha)) b (List.mem_range.mpr hb)
  simpa using this
theorem mod_short {a b : Nat} (ha : a < 10) (hb : b < 10) : (modT a b).length ≤ 1000 := (mod_both ha hb).1
theorem mod_fine {a b : Nat} (ha : a < 10) (hb : b < 10) : modOk (modT a b) = true := (mod_both ha hb).2
theorem paths_all : (headsT.all fun p => decide ((Txt.join (Str.ofString "/") p).length ≤ 1000)) = true := by decide +kernel
theorem path_short {h : Head} (hh : HeadOk h) : (pathT h).length ≤ 1000 := of_decide_eq_true (List.all_eq_true.mp paths_all _ hh)
/- all turns of so many parts -/
noncomputable def turnLs : Nat → List (List Nat)
  | 0 => [[]]
  | n + 1 => (List.range 4).flatMap fun a => (turnLs n).map (a :: ·)
theorem mem_turnLs : ∀ l : List Nat, (∀ x ∈ l, x < 4) → l ∈ turnLs l.length
  | [], _ => .head _
  | a :: l, h => List.mem_flatMap.mpr ⟨a, List.mem_range.mpr (h _ (.head _)), List.mem_map.mpr ⟨l, mem_turnLs l fun x hx => h x (.tail _ hx), rfl⟩⟩
theorem way_all2 {P : Nat → List Str → Bool} (h : ((List.range 9).all fun i => (turnLs (folderT i).length).all fun l => P i (wayParts (folderT i) fun k => l.getD k 0)) = true) {i : Nat} (hi : i < 9) (f : Nat → Nat) : P i (wayParts (folderT i) f) = true := by
  have h1 := List.all_eq_true.mp h i (List.mem_range.mpr hi)
  have hm := mem_turnLs ((List.range (folderT i).length).map fun k => f k % 4) (fun x hx => by
    obtain ⟨k, _, rfl⟩ := List.mem_map.mp hx
    exact Nat.mod_lt _ (by decide))
  rw [List.length_map, List.length_range] at hm
  have h4 := List.all_eq_true.mp h1 _ hm
  have e : wayParts (folderT i) f = wayParts (folderT i) fun k => ((List.range (folderT i).length).map fun k => f k % 4).getD k 0 := by
    unfold wayParts
    refine List.map_congr_left fun k hk => ?_
    have hk := List.mem_range.mp hk
    have ht : ∀ m, turnT (m % 4) = turnT m := fun m => by unfold turnT; rw [Nat.mod_mod]
    have hg : ((List.range (folderT i).length).map fun k => f k % 4).getD k 0 = f k % 4 := by
      rw [List.getD_eq_getElem?_getD, List.getElem?_map, List.getElem?_range hk]; rfl
    show _ = _ ++ turnT (((List.range (folderT i).length).map fun k => f k % 4).getD k 0)
    rw [hg, ht]
  rw [e]; exact h4
noncomputable def dirT (i : Nat) : Str := [Str.ofString "a/b", Str.ofString "a.b", Str.ofString "a", Str.ofString "/a", Str.ofString "it's", Str.ofString "a/bc", Str.ofString ".", Str.ofString "b", Str.ofString "a/b/c"].getD i (Str.ofString "")
theorem ways_all : ((List.range 9).all fun i => (turnLs (folderT i).length).all fun l => (fun i p => normT (Txt.join (Str.ofString "/") p) == dirT i && wayOk (Txt.join (Str.ofString "/") p)) i (wayParts (folderT i) fun k => l.getD k 0)) = true := by decide +kernel
theorem way_both {i : Nat} (hi : i < 9) (f : Nat → Nat) : normT (wayT (folderT i) f) = dirT i ∧ wayOk (wayT (folderT i) f) = true := by
  have := way_all2 (P := fun i p => normT (Txt.join (Str.ofString "/") p) == dirT i && wayOk (Txt.join (Str.ofString "/") p)) ways_all hi f
  rw [Bool.and_eq_true, beq_iff_eq] at this
  exact this
theorem way_fine {x : Nat} (hx : x < 9) (f : Nat → Nat) : wayOk (wayT (folderT x) f) = true ∧ (normT (wayT (folderT x) f)).length ≤ 1000 := by
  obtain ⟨h1, h2⟩ := way_both hx f
  have h3 : ((List.range 9).all fun i => decide ((dirT i).length ≤ 1000)) = true := by decide +kernel
  exact ⟨h2, by rw [h1]; exact of_decide_eq_true (List.all_eq_true.mp h3 x (List.mem_range.mpr hx))⟩
theorem fold_fine {x : Nat} : (folderT x).length ≤ 1000 ∧ (folderT x).all PyData.strOk = true := by
  refine ⟨Nat.le_trans (folder_len x) (by decide), ?_⟩
  have h : ((List.range 10).all fun i => (folderT i).all PyData.strOk) = true := by decide +kernel
  rcases Nat.lt_or_ge x 10 with q | q
  · exact List.all_eq_true.mp h x (List.mem_range.mpr q)
  · have : folderT x = [] := by
      unfold folderT
      rw [List.getD_eq_getElem?_getD, List.getElem?_eq_none (by show foldersT.length ≤ x; exact q)]; rfl
    rw [this]; rfl
theorem met_fine {p q : Str} : metS [p, q] ≠ [] ∧ ∀ z ∈ metS [p, q], z = p ∨ z = q := by
  refine ⟨fun e => ?_, fun z hz => ?_⟩
  · have := (mem_metS [p, q] p).mpr (.head _)
    rw [e] at this; cases this
  · have := (mem_metS [p, q] z).mp hz
    simpa using this
theorem met_any {p q : Str} (P : Str → Bool) : (metS [p, q]).any P = (P p || P q) := by
  have hp := (mem_metS [p, q] p).mpr (.head _)
  have hq := (mem_metS [p, q] q).mpr (.tail _ (.head _))
  rw [Bool.eq_iff_iff, List.any_eq_true, Bool.or_eq_true]
  constructor
  · rintro ⟨z, hz, h⟩
    rcases met_fine.2 z hz with rfl | rfl
    · exact .inl h
    · exact .inr h
  · rintro (h | h)
    · exact ⟨p, hp, h⟩
    · exact ⟨q, hq, h⟩
/- texts with a sign between them -/
noncomputable def jl (c : Nat) : List (List Nat) → List Nat
  | [] => []
  | [x] => x
  | x :: y :: r => x ++ c :: jl c (y :: r)
theorem cut_eq {c : Nat} : ∀ {a b X Y : List Nat}, c ∉ a → c ∉ b → a ++ c :: X = b ++ c :: Y → a = b ∧ X = Y
  | [], [], _, _, _, _, h => ⟨rfl, (List.cons.inj h).2⟩
  | [], d :: b, _, _, _, hb, h => absurd ((List.cons.inj h).1 ▸ List.mem_cons_self) hb
  | d :: a, [], _, _, ha, _, h => absurd ((List.cons.inj h).1 ▸ List.mem_cons_self) ha
  | d :: a, e :: b, _, _, ha, hb, h => by
    obtain ⟨h1, h2⟩ := List.cons.inj h
    have := cut_eq (fun z => ha (.tail _ z)) (fun z => hb (.tail _ z)) h2
    exact ⟨by rw [h1, this.1], this.2⟩
theorem cut_not {c : Nat} {a b X : List Nat} (hb : c ∉ b) (h : b = a ++ c :: X) : False := hb (by rw [h]; exact List.mem_append_right _ (.head _))
theorem jl_under {c : Nat} : ∀ (qs ps : List (List Nat)), qs ≠ [] → ps ≠ [] → (∀ q ∈ qs, c ∉ q) → (∀ p ∈ ps, c ∉ p) → ((jl c ps = jl c qs ∨ ∃ t, jl c ps = jl c qs ++ c :: t) ↔ ps.take qs.length = qs)
  | [], _, h, _, _, _ => absurd rfl h
  | _ :: _, [], _, h, _, _ => absurd rfl h
  | [q], [p], _, _, hq, hp => by
    show (p = q ∨ ∃ t, p = q ++ c :: t) ↔ [p] = [q]
    refine ⟨fun h => ?_, fun h => .inl (List.cons.inj h).1⟩
    rcases h with rfl | ⟨t, h⟩
    · rfl
    · exact (cut_not (hp _ (.head _)) h).elim
  | [q], p :: p2 :: r, _, _, hq, hp => by
    show (p ++ c :: jl c (p2 :: r) = q ∨ ∃ t, p ++ c :: jl c (p2 :: r) = q ++ c :: t) ↔ [p] = [q]
    refine ⟨fun h => ?_, fun h => .inr ⟨_, by rw [(List.cons.inj h).1]⟩⟩
    rcases h with h | ⟨t, h⟩
    · exact (cut_not (hq _ (.head _)) h.symm).elim
    · rw [(cut_eq (hp _ (.head _)) (hq _ (.head _)) h).1]
  | q :: q2 :: t, [p], _, _, hq, hp => by
    show (p = q ++ c :: jl c (q2 :: t) ∨ ∃ u, p = (q ++ c :: jl c (q2 :: t)) ++ c :: u) ↔ [p] = q :: q2 :: t
    refine ⟨fun h => ?_, fun h => by cases h⟩
    rcases h with h | ⟨u, h⟩
    · exact (cut_not (hp _ (.head _)) h).elim
    · rw [List.append_assoc] at h; exact (cut_not (hp _ (.head _)) h).elim
  | q :: q2 :: t, p :: p2 :: r, _, _, hq, hp => by
    have ih := jl_under (c := c) (q2 :: t) (p2 :: r) (by simp) (by simp) (fun z hz => hq z (.tail _ hz)) (fun z hz => hp z (.tail _ hz))
    show (p ++ c :: jl c (p2 :: r) = q ++ c :: jl c (q2 :: t) ∨ ∃ u, p ++ c :: jl c (p2 :: r) = (q ++ c :: jl c (q2 :: t)) ++ c :: u) ↔ p :: (p2 :: r).take (q2 :: t).length = q :: q2 :: t
    have c1 := fun X Y => cut_eq (X := X) (Y := Y) (hp _ (.head _)) (hq _ (.head _))
    constructor
    · rintro (h | ⟨u, h⟩)
      · obtain ⟨e1, e2⟩ := c1 _ _ h
        rw [e1, ih.mp (.inl e2)]
      · rw [List.append_assoc] at h
        obtain ⟨e1, e2⟩ := c1 _ _ h
        rw [e1, ih.mp (.inr ⟨u, e2⟩)]
    · intro h
      obtain ⟨e1, e2⟩ := List.cons.inj h
      rw [e1]
      rcases ih.mpr e2 with h | ⟨u, h⟩
      · exact .inl (by rw [h])
      · exact .inr ⟨u, by rw [h, List.append_assoc]; rfl⟩
noncomputable def cl (p : Str) : List Nat := p.cps.toList
theorem cl_inj {p q : Str} (h : cl p = cl q) : p = q := by
  cases p; cases q; exact congrArg _ (Array.toList_inj.mp h)
theorem cl_app (p q : Str) : cl (p ++ q) = cl p ++ cl q := Array.toList_append
theorem cl_join (c : Nat) : ∀ l : List Str, cl (Str.join ⟨#[c]⟩ l) = jl c (l.map cl)
  | [] => rfl
  | [x] => rfl
  | x :: y :: r => by
    show cl (x ++ ⟨#[c]⟩ ++ Str.join ⟨#[c]⟩ (y :: r)) = _
    rw [cl_app, cl_app, cl_join c (y :: r), List.append_assoc]; rfl
theorem split_some (x y : Str) : Txt.split x y ≠ [] := by
  unfold Txt.split
  split
  · simp
  · split
    · simp
    · intro h; have := congrArg List.length h; rw [PySem.length_partsBetween] at this; simp at this
theorem under_gen (x y : Str) (c : Nat) : ((x == y) || Txt.startswith x (y ++ ⟨#[c]⟩)) = decide ((Txt.split x ⟨#[c]⟩).take (Txt.split y ⟨#[c]⟩).length = Txt.split y ⟨#[c]⟩) := by
  have jx : jl c ((Txt.split x ⟨#[c]⟩).map cl) = cl x := by rw [← cl_join, StrLaws.join_split]
  have jy : jl c ((Txt.split y ⟨#[c]⟩).map cl) = cl y := by rw [← cl_join, StrLaws.join_split]
  have fr : ∀ z : Str, ∀ p ∈ (Txt.split z ⟨#[c]⟩).map cl, c ∉ p := fun z p hp => by
    obtain ⟨q, hq, rfl⟩ := List.mem_map.mp hp
    exact StrLaws.split_free z c q hq
  have u := jl_under (c := c) ((Txt.split y ⟨#[c]⟩).map cl) ((Txt.split x ⟨#[c]⟩).map cl) (by simp [split_some]) (by simp [split_some]) (fr y) (fr x)
  rw [jx, jy, List.length_map, ← List.map_take] at u
  have m : (List.map cl ((Txt.split x ⟨#[c]⟩).take (Txt.split y ⟨#[c]⟩).length) = List.map cl (Txt.split y ⟨#[c]⟩)) ↔ ((Txt.split x ⟨#[c]⟩).take (Txt.split y ⟨#[c]⟩).length = Txt.split y ⟨#[c]⟩) := ⟨fun h => (List.map_inj_right (fun _ _ => cl_inj)).mp h, fun h => by rw [h]⟩
  rw [Bool.eq_iff_iff, decide_eq_true_eq, ← m, ← u, Bool.or_eq_true, beq_iff_eq]
  have sw : Txt.startswith x (y ++ ⟨#[c]⟩) = true ↔ ∃ t, cl x = cl y ++ c :: t := by
    have e : (y ++ ⟨#[c]⟩ : Str).cps.toList = cl y ++ [c] := cl_app y ⟨#[c]⟩
    have l1 : (y ++ ⟨#[c]⟩ : Str).length = (cl y).length + 1 := by
      show (y ++ ⟨#[c]⟩ : Str).cps.size = _
      rw [← Array.length_toList, e]; simp
    have l2 : x.length = (cl x).length := by show x.cps.size = _; rw [← Array.length_toList]; rfl
    unfold Txt.startswith
    rw [Bool.and_eq_true, StrLaws.subAt_eq, e, l1, l2, decide_eq_true_eq, beq_iff_eq]
    show _ ∧ (cl x).take _ = _ ↔ _
    constructor
    · rintro ⟨h1, h2⟩
      refine ⟨(cl x).drop ((cl y).length + 1), ?_⟩
      have := List.take_append_drop ((cl y).length + 1) (cl x)
      rw [h2, List.append_assoc] at this
      exact this.symm
    · rintro ⟨t, h⟩
      rw [h]
      refine ⟨by simp, ?_⟩
      have : cl y ++ c :: t = (cl y ++ [c]) ++ t := by rw [List.append_assoc]; rfl
      rw [this]
      exact List.take_left' (by simp)
  rw [sw]
  exact or_congr_left ⟨fun h => by rw [h], cl_inj⟩
/- a name is the module's, or under it -/
theorem under_is {a b : Nat} {h : Head} : ((nameT h == modT a b) || Txt.startswith (nameT h) (modT a b ++ Str.ofString ".")) = underT h (modT a b) := by
  have e : Str.ofString "." = ⟨#[46]⟩ := by decide +kernel
  unfold underT
  rw [e]; exact under_gen _ _ 46
theorem inside_all : (headsT.all fun p => (List.range 9).all fun x => Txt.startswith (Txt.join (Str.ofString "/") p) (dirT x ++ Str.ofString "/") == (decide (p.take (folderT x).length = folderT x) && !decide (p = folderT x))) = true := by decide +kernel
theorem inside_is {x : Nat} (hx : x < 9) (f : Nat → Nat) {h : Head} (hh : HeadOk h) : Txt.startswith (pathT h) (normT (wayT (folderT x) f) ++ Str.ofString "/") = insideT h (folderT x) := by
  rw [(way_both hx f).1]
  exact eq_of_beq (List.all_eq_true.mp (List.all_eq_true.mp inside_all _ hh) x (List.mem_range.mpr hx))
theorem out_left {a b c d x y : Nat} (ha : a < 10) (hb : b < 10) (hc : c < 10) (hd : d < 10) (hx : x < 9) (hy : y < 9) (f1 f2 : Nat → Nat) {h : Head} (hh : HeadOk h) :
    outT (metS [modT a b, modT c d]) ([wayT (folderT x) f1, wayT (folderT y) f2].map normT) (fileO h) (nameT h) = leftT h [modT a b, modT c d] [folderT x, folderT y] := by
  have u1 := under_is (a := a) (b := b) (h := h)
  have u2 := under_is (a := c) (b := d) (h := h)
  have i1 := inside_is hx f1 hh
  have i2 := inside_is hy f2 hh
  unfold outT leftT
  rw [List.contains_eq_any_beq, met_any, met_any]
  simp only [List.any_cons, List.any_nil, Bool.or_false, List.map_cons, List.map_nil]
  rw [← u1, ← u2]
  unfold fileO
  cases hf : h.file
  · simp
  · simp only [if_true, Bool.not_true, Bool.or_false]
    rw [← i1, ← i2]
    generalize Txt.startswith (pathT h) (normT (wayT (folderT x) f1) ++ Str.ofString "/") = z1
    generalize Txt.startswith (pathT h) (normT (wayT (folderT y) f2) ++ Str.ofString "/") = z2
    generalize (nameT h == modT a b) = z3
    generalize (nameT h == modT c d) = z4
    generalize Txt.startswith (nameT h) (modT a b ++ Str.ofString ".") = z5
    generalize Txt.startswith (nameT h) (modT c d ++ Str.ofString ".") = z6
    revert z1 z2 z3 z4 z5 z6
    decide
noncomputable abbrev wcL (px : Bool) : List Nat := (wcS px).cps.toList
noncomputable abbrev ltL : List Nat := lettersT.cps.toList
noncomputable abbrev sgL : List Nat := (Str.ofString "@%+=:,./-").cps.toList
noncomputable def goodC (px : Bool) (c : Nat) : Bool := !isWs c && !isQ c && (c != 35) && (c != 92) && (wcL px).contains c
theorem good_lt (px : Bool) : (ltL.all (goodC px)) = true := by cases px <;> decide +kernel
noncomputable def signC (px : Bool) (c : Nat) : Bool := !isWs c && !isQ c && (c != 35) && (c != 92) && !(wcL px).contains c
theorem good_sg (px : Bool) : (sgL.all (signC px)) = true := by cases px <;> decide +kernel
theorem marks_out (px : Bool) : ((wcL px).contains 39 || (wcL px).contains 34) = false := by cases px <;> decide +kernel
theorem q_out {px : Bool} {c : Nat} (h : isQ c = true) : c ∉ wcL px := by
  have := marks_out px
  simp only [Bool.or_eq_false_iff] at this
  unfold isQ at h
  simp only [Bool.or_eq_true, beq_iff_eq] at h
  rcases h with rfl | rfl
  · intro q; rw [List.contains_iff_mem.mpr q] at this; exact absurd this.1 (by decide)
  · intro q; rw [List.contains_iff_mem.mpr q] at this; exact absurd this.2 (by decide)
theorem nl_eq (v : Str) : cntT v = cnt 10 v.cps.toList := by
  have e : Str.ofString "\n" = ch 10 := by decide +kernel
  unfold cntT
  rw [e]
  exact count_is v 10
theorem nlc_eq (c : Nat) : nlc c = if c = 10 then 1 else 0 := rfl
theorem cnt_c (c : Nat) (l : List Nat) : cnt 10 (c :: l) = nlc c + cnt 10 l := by rw [cnt_cons, nlc_eq]
section
variable {px : Bool}
theorem run_a {sep : Nat} {cs : List Nat} (hs : isWs sep = true) : ∀ (w tok : List Nat), (w.all (goodC px)) = true → tok ≠ [] → Run px (wcL px) .a false tok (w ++ sep :: cs) (some (tok ++ w)) cs (nlc sep)
  | [], tok, _, h => by
    rw [List.append_nil]
    exact .aWs hs (.inl h)
  | c :: w, tok, hg, h => by
    simp only [List.all_cons, Bool.and_eq_true] at hg
    obtain ⟨h1, h2⟩ := hg
    simp only [goodC, Bool.and_eq_true, Bool.not_eq_true', bne_iff_ne, ne_eq] at h1
    obtain ⟨⟨⟨⟨a1, a2⟩, a3⟩, a4⟩, a5⟩ := h1
    have := run_a (cs := cs) hs w (tok ++ [c]) h2 (by simp)
    rw [List.append_assoc] at this
    exact .aWord a1 a2 a3 a4 (List.contains_iff_mem.mp a5) this
theorem run_w {sep : Nat} {cs : List Nat} (hs : isWs sep = true) : ∀ (w : List Nat), (w.all (goodC px)) = true → w ≠ [] → Run px (wcL px) .sp false [] (w ++ sep :: cs) (some w) cs (nlc sep)
  | [], _, h => absurd rfl h
  | c :: w, hg, _ => by
    simp only [List.all_cons, Bool.and_eq_true] at hg
    obtain ⟨h1, h2⟩ := hg
    simp only [goodC, Bool.and_eq_true, Bool.not_eq_true', bne_iff_ne, ne_eq] at h1
    obtain ⟨⟨⟨⟨a1, a2⟩, a3⟩, a4⟩, a5⟩ := h1
    exact .spWord a1 a3 a4 (List.contains_iff_mem.mp a5) (run_a hs w [c] h2 (by simp))
end
/- strands: a mark, what is within -/
noncomputable abbrev Mk := Nat × List Nat
noncomputable def mkL (m : Mk) : List Nat := m.1 :: m.2 ++ [m.1]
noncomputable def mkOk (m : Mk) : Bool := isQ m.1 && m.2.all fun c => (c != m.1) && (!(m.1 == 34) || (c != 92))
theorem mk_in {m : Mk} (h : mkOk m = true) : isQ m.1 = true ∧ ∀ c ∈ m.2, c ≠ m.1 ∧ (m.1 = 34 → c ≠ 92) := by
  unfold mkOk at h
  rw [Bool.and_eq_true, List.all_eq_true] at h
  refine ⟨h.1, fun c hc => ?_⟩
  have := h.2 c hc
  simp only [Bool.and_eq_true, bne_iff_ne, ne_eq, Bool.or_eq_true, Bool.not_eq_true', beq_eq_false_iff_ne] at this
  refine ⟨this.1, fun q => ?_⟩
  rcases this.2 with z | z
  · exact absurd q z
  · exact z
theorem run_qp {d : Nat} {wc cs rest : List Nat} {r : Option (List Nat)} {k : Int} (hd : isQ d = true) : ∀ (w tok : List Nat) (qd : Bool), (∀ c ∈ w, c ≠ d ∧ (d = 34 → c ≠ 92)) → Run true wc .a true (tok ++ w) cs r rest k → Run true wc (.q d) qd tok (w ++ d :: cs) r rest (cnt 10 w + k)
  | [], tok, qd, _, h => by
    rw [List.append_nil] at h
    rw [cnt_nil, Int.zero_add]
    exact .qEnd rfl hd h
  | c :: w, tok, qd, hw, h => by
    obtain ⟨h1, h2⟩ := hw c (.head _)
    have := run_qp (cs := cs) (r := r) hd w (tok ++ [c]) true (fun x hx => hw x (.tail _ hx)) (by rw [List.append_assoc]; exact h)
    rw [cnt_c, Int.add_assoc]
    exact .qIn hd h1 h2 this
theorem run_qn {d : Nat} {wc cs : List Nat} (hd : isQ d = true) : ∀ (w tok : List Nat) (qd : Bool), (∀ c ∈ w, c ≠ d ∧ (d = 34 → c ≠ 92)) → Run false wc (.q d) qd tok (w ++ d :: cs) (some (tok ++ w ++ [d])) cs (cnt 10 w)
  | [], tok, qd, _ => by
    rw [List.append_nil, cnt_nil]
    exact .qEndN rfl hd
  | c :: w, tok, qd, hw => by
    obtain ⟨h1, h2⟩ := hw c (.head _)
    have := run_qn (wc := wc) (cs := cs) hd w (tok ++ [c]) true (fun x hx => hw x (.tail _ hx))
    rw [cnt_c]
    have e : tok ++ (c :: w) ++ [d] = tok ++ [c] ++ w ++ [d] := by simp
    rw [e]
    exact .qIn hd h1 h2 this
noncomputable def inL (ms : List Mk) : List Nat := ms.flatMap (·.2)
noncomputable def mksL (ms : List Mk) : List Nat := ms.flatMap mkL
theorem run_ms {sep : Nat} {wc cs : List Nat} (hs : isWs sep = true) : ∀ (ms : List Mk) (tok : List Nat), (ms.all mkOk) = true → Run true wc .a true tok (mksL ms ++ sep :: cs) (some (tok ++ inL ms)) cs (cnt 10 (inL ms) + nlc sep)
  | [], tok, _ => by
    have : Run true wc .a true tok (sep :: cs) (some tok) cs (nlc sep) := .aWs hs (.inr ⟨rfl, rfl⟩)
    show Run true wc .a true tok (sep :: cs) (some (tok ++ [])) cs (cnt 10 [] + nlc sep)
    rw [cnt_nil, Int.zero_add, List.append_nil]; exact this
  | m :: ms, tok, h => by
    simp only [List.all_cons, Bool.and_eq_true] at h
    obtain ⟨h1, h2⟩ := mk_in h.1
    have ih := run_ms (wc := wc) (cs := cs) hs ms (tok ++ m.2) h.2
    have := Run.aQ (wc := wc) (qd := true) rfl h1 (run_qp (wc := wc) h1 m.2 tok true h2 ih)
    have e1 : mksL (m :: ms) ++ sep :: cs = m.1 :: (m.2 ++ m.1 :: (mksL ms ++ sep :: cs)) := by simp [mksL, mkL]
    have e2 : inL (m :: ms) = m.2 ++ inL ms := rfl
    rw [e1, e2, cnt_append, Int.add_assoc, ← List.append_assoc]
    exact this
theorem run_first {sep : Nat} {cs : List Nat} (hs : isWs sep = true) : ∀ (ms : List Mk), ms ≠ [] → (ms.all mkOk) = true → Run true (wcL true) .sp false [] (mksL ms ++ sep :: cs) (some (inL ms)) cs (cnt 10 (inL ms) + nlc sep)
  | [], h, _ => absurd rfl h
  | m :: ms, _, h => by
    simp only [List.all_cons, Bool.and_eq_true] at h
    obtain ⟨h1, h2⟩ := mk_in h.1
    have ih := run_ms (wc := wcL true) (cs := cs) hs ms ([] ++ m.2) h.2
    have hq := run_qp (wc := wcL true) h1 m.2 [] false h2 ih
    have := Run.spQ (px := true) (wc := wcL true) h1 (q_out h1) hq
    have e1 : mksL (m :: ms) ++ sep :: cs = m.1 :: (m.2 ++ m.1 :: (mksL ms ++ sep :: cs)) := by simp [mksL, mkL]
    have e2 : inL (m :: ms) = m.2 ++ inL ms := rfl
    rw [e1, e2, cnt_append, Int.add_assoc]
    exact this
theorem run_one {m : Mk} {cs : List Nat} (h : mkOk m = true) : Run false (wcL false) .sp false [] (mkL m ++ cs) (some (mkL m)) cs (cnt 10 m.2) := by
  obtain ⟨h1, h2⟩ := mk_in h
  have := Run.spQ (px := false) (wc := wcL false) h1 (q_out h1) (run_qn (wc := wcL false) (cs := cs) h1 m.2 [m.1] false h2)
  have e1 : mkL m ++ cs = m.1 :: (m.2 ++ m.1 :: cs) := by simp [mkL]
  rw [e1]
  exact this
/- the three kinds of words -/
inductive WK (v : Str) : Prop
  | sign (c : Nat) : v = ch c → c ∈ sgL → signsT.contains v = true → quoteT v = v → WK v
  | plain : signsT.contains v = false → plainW v = true → quoteT v = v → WK v
  | quoted (ms : List Mk) : signsT.contains v = false → plainW v = false → ms ≠ [] → (ms.all mkOk) = true → (quoteT v).cps.toList = mksL ms → v.cps.toList = inL ms → strandsT v = ms.map (fun m => tx (mkL m)) → WK v
theorem wk_of (v : Str) (ms : List Mk) (h : (!signsT.contains v && !plainW v && !ms.isEmpty && ms.all mkOk && (quoteT v).cps.toList == mksL ms && v.cps.toList == inL ms && strandsT v == ms.map (fun m => tx (mkL m))) = true) : WK v := by
  simp only [Bool.and_eq_true, Bool.not_eq_true', beq_iff_eq] at h
  obtain ⟨⟨⟨⟨⟨⟨h1, h2⟩, h3⟩, h4⟩, h5⟩, h6⟩, h7⟩ := h
  exact .quoted ms h1 h2 (fun q => by rw [q] at h3; cases h3) h4 h5 h6 h7
theorem wk_words {v : Str} (h : v ∈ wordsT) : WK v := by
  simp only [wordsT, List.mem_cons, List.not_mem_nil, or_false] at h
  rcases h with rfl | rfl | rfl | rfl | rfl | rfl | rfl | rfl | rfl
  · exact wk_of _ [(39, [])] (by decide +kernel)
  · exact .plain (by decide +kernel) (by decide +kernel) (by decide +kernel)
  · exact wk_of _ [(39, [105, 116]), (34, [39]), (39, [115])] (by decide +kernel)
  · exact wk_of _ [(39, [97, 32, 98])] (by decide +kernel)
  · exact .sign 58 (by decide +kernel) (by decide +kernel) (by decide +kernel) (by decide +kernel)
  · exact wk_of _ [(39, [97, 10, 98])] (by decide +kernel)
  · exact wk_of _ [(39, [92])] (by decide +kernel)
  · exact wk_of _ [(39, [34])] (by decide +kernel)
  · exact .plain (by decide +kernel) (by decide +kernel) (by decide +kernel)
theorem safe_low : ((List.range 256).all fun c => safeC c == (ltL.contains c || sgL.contains c)) = true := by decide +kernel
theorem lt_low : (ltL.all fun c => decide (c < 256)) = true := by decide +kernel
theorem sg_low : (sgL.all fun c => decide (c < 256) && !ltL.contains c) = true := by decide +kernel
theorem safe_is (c : Nat) : safeC c = (ltL.contains c || sgL.contains c) := by
  rcases Nat.lt_or_ge c 256 with h | h
  · exact eq_of_beq (List.all_eq_true.mp safe_low c (List.mem_range.mpr h))
  · obtain ⟨k, rfl⟩ := Nat.exists_eq_add_of_le' h
    rw [safe_high]
    have h1 : ltL.contains (k + 256) = false := by
      cases q : ltL.contains (k + 256)
      · rfl
      · have := of_decide_eq_true (List.all_eq_true.mp lt_low _ (List.contains_iff_mem.mp q)); lia
    have h2 : sgL.contains (k + 256) = false := by
      cases q : sgL.contains (k + 256)
      · rfl
      · have := List.all_eq_true.mp sg_low _ (List.contains_iff_mem.mp q)
        simp only [Bool.and_eq_true, decide_eq_true_eq] at this
        lia
    rw [h1, h2]; rfl
theorem signs_ch (c : Nat) : signsT.contains (ch c) = sgL.contains c := by
  rw [← signs_eq]
  have : ∀ l : List Nat, (l.map ch).contains (ch c) = l.contains c := by
    intro l
    induction l with
    | nil => rfl
    | cons d l ih =>
      rw [List.map_cons, List.contains_cons, List.contains_cons, ih, eq_ch]
      by_cases h : c = d <;> simp [h]
  exact this sgL
theorem plain_ch (c : Nat) : plainW (ch c) = ltL.contains c := by
  unfold plainW
  have h1 : (ch c != Str.ofString "") = true := by
    rw [bne_iff_ne]; intro q
    have := congrArg Str.length q
    rw [len_ch] at this
    exact absurd this (by decide)
  rw [h1, Bool.true_and]
  show ([c].all fun d => Txt.contains lettersT (ch d)) = _
  rw [List.all_cons, List.all_nil, Bool.and_true, in_ch]
  by_cases h : c ∈ ltL
  · rw [decide_eq_true h, List.contains_iff_mem.mpr h]
  · rw [decide_eq_false h]
    cases q : ltL.contains c
    · rfl
    · exact absurd (List.contains_iff_mem.mp q) h
theorem quote_safe {c : Nat} (h : safeC c = true) : quoteT (ch c) = ch c := by
  unfold quoteT
  rw [if_neg (by rw [len_ch]; decide), if_pos (by simp [safeT, h])]
theorem quote_un {c : Nat} (h : safeC c = false) (h2 : c ≠ 39) : (quoteT (ch c)).cps.toList = [39, c, 39] := by
  have e : quoteT (ch c) = Str.ofString "'" ++ ch c ++ Str.ofString "'" := by
    unfold quoteT
    rw [if_neg (by rw [len_ch]; decide), if_neg (by simp [safeT, h]), replace_ch h2]
  rw [e, cps_toList_append, cps_toList_append]
  rfl
theorem wk_ch (c : Nat) : WK (ch c) := by
  cases hs : safeC c
  · have hls := hs
    rw [safe_is, Bool.or_eq_false_iff] at hls
    by_cases h39 : c = 39
    · subst h39
      exact wk_of _ [(39, []), (34, [39]), (39, [])] (by decide +kernel)
    · refine .quoted [(39, [c])] (by rw [signs_ch]; exact hls.2) (by rw [plain_ch]; exact hls.1) (by simp) ?_ (quote_un hs h39) rfl ?_
      · have : (c != 39) = true := by simpa using h39
        simp [mkOk, isQ, this]
      · rw [strands_ch h39]; rfl
  · have hls := hs
    rw [safe_is, Bool.or_eq_true] at hls
    rcases hls with h | h
    · have hns : sgL.contains c = false := by
        cases q : sgL.contains c
        · rfl
        · have := List.all_eq_true.mp sg_low _ (List.contains_iff_mem.mp q)
          rw [h] at this
          simp at this
      exact .plain (by rw [signs_ch]; exact hns) (by rw [plain_ch]; exact h) (quote_safe hs)
    · exact .sign c rfl (List.contains_iff_mem.mp h) (by rw [signs_ch]; exact h) (quote_safe hs)
theorem wk_all {v : Str} (h : WordOk v) : WK v := by
  rcases h with h | ⟨c, _, rfl⟩
  · exact wk_words h
  · exact wk_ch c
theorem word_ne {v : Str} (h : WordOk v) : v.cps.toList ≠ useL := by
  rcases h with h | ⟨c, _, rfl⟩
  · have : (wordsT.all fun x => !(x.cps.toList == useL)) = true := by decide +kernel
    have := List.all_eq_true.mp this v h
    simpa using this
  · intro q
    have : (1 : Nat) = 3 := congrArg List.length q
    exact absurd this (by decide)
section
variable {hs : List Head} {lo : Head → Bool} {rec : Nat → Tab → List Ent × Tab} {n : Nat} {px : Bool} {F : Str} {cs : List Nat} {st : TS} {out : List Ent × Tab}
/- the signs from here on are told so -/
noncomputable def Pd (hs : List Head) (lo : Head → Bool) (rec : Nat → Tab → List Ent × Tab) (n : Nat) (px : Bool) (F : Str) (cs : List Nat) (st : TS) (out : List Ent × Tab) : Prop :=
  ∃ r rest k, Run px (wcL px) .sp false [] cs r rest k ∧ (px = false → r ≠ some []) ∧ RdA hs lo rec n px (wcL px) F r rest ⟨st.told, st.kv, st.line + k⟩ out
theorem pd_nil (h0 : 0 ≤ st.line) (h1 : st.line < 10 ^ 10) : Pd hs lo rec n px F [] st (st.told ++ [(eofE px, leadT F st.line)], st.kv) := by
  refine ⟨none, [], 0, .eof, (fun _ h => nomatch h), ?_⟩
  rw [Int.add_zero]
  exact .eof h0 h1
theorem pd_ws {c : Nat} (h : isWs c = true) (p : Pd hs lo rec n px F cs ⟨st.told, st.kv, st.line + nlc c⟩ out) : Pd hs lo rec n px F (c :: cs) st out := by
  obtain ⟨r, rest, k, h1, h2, h3⟩ := p
  refine ⟨r, rest, nlc c + k, .spWs h h1, h2, ?_⟩
  rw [← Int.add_assoc]; exact h3
theorem pd_tok {tok rest : List Nat} {k : Int} (h : Run px (wcL px) .sp false [] cs (some tok) rest k) (hu : tok ≠ useL) (hne : px = false → tok ≠ []) (h0 : 0 ≤ st.line + k) (h1 : st.line + k < 10 ^ 10)
    (p : Pd hs lo rec n px F rest ⟨st.told ++ [(some (tx tok), leadT F (st.line + k))], st.kv, st.line + k⟩ out) : Pd hs lo rec n px F cs st out := by
  obtain ⟨r, rest', k', p1, p2, p3⟩ := p
  exact ⟨some tok, rest, k, h, fun e q => hne e (Option.some.inj q), .word hu hne h0 h1 p1 p2 p3⟩
theorem nums_good (px : Bool) : ((List.range 100).all fun m => (numL m).all (goodC px) && !(numL m).isEmpty) = true := by cases px <;> decide +kernel
theorem use_good (px : Bool) : (useL.all (goodC px)) = true := by cases px <;> decide +kernel
theorem pd_use {m sep : Nat} (hm : m < hs.length) (hn : n < m) (hz : m < 100) (hw : isWs sep = true)
    (p : Pd hs lo rec n px F cs ⟨st.told ++ (useS hs lo rec m st.kv).1, (useS hs lo rec m st.kv).2, st.line + nlc sep⟩ out) : Pd hs lo rec n px F (useL ++ 32 :: (numL m ++ sep :: cs)) st out := by
  have hg := List.all_eq_true.mp (nums_good px) m (List.mem_range.mpr hz)
  rw [Bool.and_eq_true] at hg
  obtain ⟨r, rest', k', p1, p2, p3⟩ := p
  have r1 : Run px (wcL px) .sp false [] (useL ++ 32 :: (numL m ++ sep :: cs)) (some useL) (numL m ++ sep :: cs) (nlc 32) := run_w (by decide) _ (use_good px) (by simp)
  have r2 : Run px (wcL px) .sp false [] (numL m ++ sep :: cs) (some (numL m)) cs (nlc sep) := run_w hw _ hg.1 (fun q => by rw [q] at hg; exact absurd hg.2 (by decide))
  have e : nlc 32 = 0 := by decide
  rw [e] at r1
  refine ⟨some useL, numL m ++ sep :: cs, 0, r1, fun _ q => ?_, .use hm hn r2 p1 p2 ?_⟩
  · have := congrArg List.length (Option.some.inj q)
    exact absurd this (by decide)
  · rw [Int.add_zero]
    exact p3
theorem strandE_ge {f : Str} : ∀ (l : List Str) (line : Int), line ≤ (strandE f l line).2
  | [], line => Int.le_refl _
  | p :: r, line => by
    have h1 := strandE_ge (f := f) r (line + cntT p)
    have h2 := cnt_bounds p
    simp only [strandE_0, strandE_c]
    lia
theorem mk_cnt {m : Mk} (h : mkOk m = true) : cntT (tx (mkL m)) = cnt 10 m.2 := by
  rw [nl_eq]
  show cnt 10 (m.1 :: (m.2 ++ [m.1])) = _
  rw [cnt_c, cnt_append, cnt_c, cnt_nil]
  have : nlc m.1 = 0 := by
    have := (mk_in h).1
    unfold isQ at this
    simp only [Bool.or_eq_true, beq_iff_eq] at this
    rcases this with q | q <;> rw [q] <;> decide
  lia
theorem mk_ne {m : Mk} (h : mkOk m = true) : mkL m ≠ useL := by
  intro q
  have h1 := (mk_in h).1
  have h2 : m.1 = 117 := by
    have := congrArg List.head? q
    exact Option.some.inj this
  rw [h2] at h1
  exact absurd h1 (by decide)
theorem pd_strands : ∀ (ms : List Mk) (st : TS), (ms.all mkOk) = true → 0 ≤ st.line → (strandE F (ms.map fun m => tx (mkL m)) st.line).2 < 10 ^ 10 →
    Pd hs lo rec n false F cs ⟨st.told ++ (strandE F (ms.map fun m => tx (mkL m)) st.line).1, st.kv, (strandE F (ms.map fun m => tx (mkL m)) st.line).2⟩ out → Pd hs lo rec n false F (mksL ms ++ cs) st out
  | [], st, _, _, _, p => by
    simp only [List.map_nil, strandE_0, strandE_c, List.append_nil] at p
    exact p
  | m :: ms, st, h, h0, hb, p => by
    simp only [List.all_cons, Bool.and_eq_true] at h
    have hc := mk_cnt h.1
    have hcb := cnt_bounds (tx (mkL m))
    have hge := strandE_ge (f := F) (ms.map fun m => tx (mkL m)) (st.line + cntT (tx (mkL m)))
    simp only [List.map_cons, strandE_0, strandE_c] at p hb
    have e1 : mksL (m :: ms) ++ cs = mkL m ++ (mksL ms ++ cs) := by simp [mksL]
    rw [e1]
    refine pd_tok (run_one h.1) (mk_ne h.1) (fun _ q => by have := congrArg List.length q; simp [mkL] at this) (by lia) (by lia) ?_
    rw [← hc]
    refine pd_strands ms _ h.2 (by show 0 ≤ st.line + _; lia) hb ?_
    rw [List.append_assoc]
    exact p
theorem sep_ws {l : Int} (h : l = 0 ∨ l = 1) : isWs (if l = 0 then 32 else 10) = true ∧ nlc (if l = 0 then 32 else 10) = l := by
  rcases h with rfl | rfl <;> decide
theorem tx_of (v : Str) : tx v.cps.toList = v := tx_eq.symm
theorem pd_word {it : Item} (hw : WordOk it.v) (hl : it.last = 0 ∨ it.last = 1) (h0 : 0 ≤ st.line) (h1 : st.line < 10 ^ 9)
    (p : Pd hs lo rec n px F cs ⟨st.told ++ (wordE px F st.line it).1, st.kv, (wordE px F st.line it).2⟩ out) : Pd hs lo rec n px F ((quoteT it.v).cps.toList ++ (if it.last = 0 then 32 else 10) :: cs) st out := by
  obtain ⟨hs1, hs2⟩ := sep_ws hl
  generalize (if it.last = 0 then 32 else 10) = sep at hs1 hs2
  have hne := word_ne hw
  have hcb := cnt_bounds it.v
  have hwl := word_len hw
  have hns := nl_eq it.v
  cases wk_all hw with
  | sign c hv hc hsg hq =>
    have hg := List.all_eq_true.mp (good_sg px) c hc
    simp only [signC, Bool.and_eq_true, Bool.not_eq_true', bne_iff_ne, ne_eq] at hg
    obtain ⟨⟨⟨⟨a1, a2⟩, a3⟩, a4⟩, a5⟩ := hg
    unfold wordE at p
    rw [if_pos hsg] at p
    rw [hq]
    have e : it.v.cps.toList = [c] := by rw [hv]
    rw [e]
    have r : Run px (wcL px) .sp false [] ([c] ++ sep :: cs) (some [c]) (sep :: cs) 0 := .spSign a1 a3 a4 (fun q => by rw [List.contains_iff_mem.mpr q] at a5; cases a5) a2
    refine pd_tok r (by rw [← e]; exact hne) (fun _ q => by cases q) (by lia) (by lia) ?_
    rw [Int.add_zero]
    refine pd_ws hs1 ?_
    rw [hs2]
    rw [hv] at p
    exact p
  | plain hsg hpl hq =>
    unfold wordE at p
    rw [if_neg (by rw [hsg]; decide), if_pos (by rw [hpl, Bool.or_true])] at p
    rw [hq]
    unfold plainW at hpl
    rw [Bool.and_eq_true, List.all_eq_true] at hpl
    have hlt : ∀ c ∈ it.v.cps.toList, c ∈ ltL := fun c hc => by
      have := hpl.2 c hc
      rw [in_ch] at this
      exact of_decide_eq_true this
    have hg : (it.v.cps.toList.all (goodC px)) = true := List.all_eq_true.mpr fun c hc => List.all_eq_true.mp (good_lt px) c (hlt c hc)
    have hv0 : it.v.cps.toList ≠ [] := fun q => by
      have : it.v = Str.ofString "" := by rw [← tx_of it.v, q]; decide +kernel
      have h2 := hpl.1
      rw [this] at h2
      exact absurd h2 (by decide +kernel)
    have hc0 : cntT it.v = 0 := by
      rw [hns]
      refine cnt_none 10 _ fun q => ?_
      have : ltL.contains 10 = false := by decide +kernel
      rw [List.contains_iff_mem.mpr (hlt 10 q)] at this
      cases this
    refine pd_tok (run_w hs1 _ hg hv0) hne (fun _ => hv0) (by lia) (by lia) ?_
    rw [hc0, Int.add_zero] at p
    rw [tx_of, hs2]
    exact p
  | quoted ms hsg hpl hm0 hmo hq hv hst =>
    unfold wordE at p
    rw [if_neg (by rw [hsg]; decide)] at p
    rw [hq]
    cases px
    · rw [if_neg (by rw [hpl]; decide), hst] at p
      have hsl := strand_line (f := F) (strandsT it.v) st.line (strands_short hw).2
      have hsz := (strands_short hw).1
      rw [hst] at hsl hsz
      refine pd_strands ms st hmo h0 (by lia) ?_
      refine pd_ws hs1 ?_
      rw [hs2]
      exact p
    · rw [if_pos (show (true || plainW it.v) = true from rfl)] at p
      have r := run_first (cs := cs) hs1 ms hm0 hmo
      rw [← hv, ← hns, hs2] at r
      refine pd_tok r hne (fun q => by cases q) (by lia) (by lia) ?_
      rw [tx_of, ← Int.add_assoc]
      exact p
noncomputable def flatI (row : List Item) : List Nat := row.flatMap fun it => (itemT it).cps.toList
theorem text_flat (row : List Item) : (textT row).cps.toList = flatI row := by
  have key : ∀ (row : List Item) (acc : Str), (row.foldl (fun t it => t ++ itemT it) acc).cps.toList = acc.cps.toList ++ flatI row := by
    intro row
    induction row with
    | nil => intro acc; simp [flatI]
    | cons it row ih =>
      intro acc
      rw [List.foldl_cons, ih, cps_toList_append, List.append_assoc]; rfl
  have := key row (Str.ofString "")
  unfold textT
  rw [this]; rfl
theorem sep_cps {l : Int} : (if l = 0 then Str.ofString " " else Str.ofString "\n").cps.toList = [if l = 0 then 32 else 10] := by
  split <;> decide +kernel
theorem row_pd {N : Nat} (hN : N ≤ hs.length) (hz : N ≤ 100) : ∀ (row : List Item) (st : TS), (∀ it ∈ row, ItemOk N it) → (∀ it ∈ row, it.k = Str.ofString "use" → n < useN it) → 0 ≤ st.line → st.line + 1000 * row.length ≤ 10 ^ 8 →
    Pd hs lo rec n px F (flatI row) st ((row.foldl (stepI hs lo rec px F) st).told ++ [(eofE px, leadT F (row.foldl (stepI hs lo rec px F) st).line)], (row.foldl (stepI hs lo rec px F) st).kv)
  | [], st, _, _, h0, h1 => pd_nil h0 (by simp only [List.length_nil] at h1; lia)
  | it :: row, st, ho, hu, h0, h1 => by
    have hio := ho it (.head _)
    have hsl := step_line (hs := hs) (lo := lo) (rec := rec) (px := px) (f := F) (st := st) hio
    simp only [List.length_cons] at h1
    have ih := row_pd hN hz row (stepI hs lo rec px F st it) (fun x hx => ho x (.tail _ hx)) (fun x hx => hu x (.tail _ hx)) (by lia) (by lia)
    have e1 : flatI (it :: row) = (itemT it).cps.toList ++ flatI row := rfl
    rw [e1, List.foldl_cons]
    have hun := hu it (.head _)
    obtain ⟨hl, q⟩ := hio
    unfold itemT
    rw [cps_toList_append, sep_cps, List.append_assoc]
    rcases q with ⟨hk, m, hm, hv⟩ | ⟨hk, hw⟩
    · have hkb : (it.k == Str.ofString "use") = true := by rw [hk]; exact beq_self_eq_true _
      have hum : useN it = m := by unfold useN; rw [hv, intText_num (by lia)]; rfl
      have hn := hun hk
      rw [hum] at hn
      rw [if_pos hkb, cps_toList_append, hv]
      have e2 : (Str.ofString "use ").cps.toList = useL ++ [32] := by decide +kernel
      rw [e2, List.append_assoc, List.append_assoc]
      refine pd_use (by lia) hn (by lia) (sep_ws hl).1 ?_
      rw [(sep_ws hl).2]
      have e3 : stepI hs lo rec px F st it = ⟨st.told ++ (useS hs lo rec m st.kv).1, (useS hs lo rec m st.kv).2, st.line + it.last⟩ := by
        unfold stepI
        rw [if_pos hkb, hum]
      rw [e3] at ih
      rw [e3]
      exact ih
    · have hkb : ¬ (it.k == Str.ofString "use") = true := by rw [hk]; simpa using use_ne_word
      rw [if_neg hkb]
      have e3 : stepI hs lo rec px F st it = ⟨st.told ++ (wordE px F st.line it).1, st.kv, (wordE px F st.line it).2⟩ := by
        unfold stepI
        rw [if_neg hkb]
      rw [e3] at ih ⊢
      exact pd_word hw hl h0 (by lia) ih
end
theorem d_run {n0 : Int} {ns : List Int} {lo : Head → Bool} (h : ns.length ≤ 22) (f : Nat) : ∀ n kv h, (dOf n0 ns).heads[n]? = some h → ∃ r rest k, Run h.px (wcS h.px).cps.toList .sp false [] (textT ((dOf n0 ns).rows.getD n [])).cps.toList r rest k ∧ (h.px = false → r ≠ some []) ∧
      RdA (dOf n0 ns).heads lo (tell (dOf n0 ns).heads (dOf n0 ns).rows lo f) n h.px (wcS h.px).cps.toList (showF h) r rest ⟨[], kv, 1 + k⟩ (tell (dOf n0 ns).heads (dOf n0 ns).rows lo (f + 1) n kv) := by
  intro n kv hd hg
  obtain ⟨r1, r2, r3, r4⟩ := d_rows (n0 := n0) h
  have hord := d_ord (n0 := n0) h
  have hhd : (dOf n0 ns).heads.getD n noHead = hd := by rw [List.getD_eq_getElem?_getD, hg]; rfl
  have hrow : ((dOf n0 ns).rows.getD n []).length ≤ 100 ∧ ∀ it ∈ (dOf n0 ns).rows.getD n [], ItemOk (dOf n0 ns).rows.length it := by
    rcases getD_rows (rows := (dOf n0 ns).rows) (i := n) with q | q
    · exact r4 _ q
    · rw [q]; exact ⟨by decide, fun it hi => by cases hi⟩
  have := row_pd (hs := (dOf n0 ns).heads) (lo := lo) (rec := tell (dOf n0 ns).heads (dOf n0 ns).rows lo f) (n := n) (px := hd.px) (F := showF hd) (by lia) r2 ((dOf n0 ns).rows.getD n []) ⟨[], kv, 1⟩ hrow.2 (fun it hi hk => hord n it hi hk) (by show (0 : Int) ≤ 1; decide) (by have := hrow.1; show (1 : Int) + _ ≤ _; lia)
  rw [← text_flat] at this
  have e : tell (dOf n0 ns).heads (dOf n0 ns).rows lo (f + 1) n kv = ((((dOf n0 ns).rows.getD n []).foldl (stepI (dOf n0 ns).heads lo (tell (dOf n0 ns).heads (dOf n0 ns).rows lo f) hd.px (showF hd)) ⟨[], kv, 1⟩).told ++ [(eofE hd.px, leadT (showF hd) (((dOf n0 ns).rows.getD n []).foldl (stepI (dOf n0 ns).heads lo (tell (dOf n0 ns).heads (dOf n0 ns).rows lo f) hd.px (showF hd)) ⟨[], kv, 1⟩).line)], (((dOf n0 ns).rows.getD n []).foldl (stepI (dOf n0 ns).heads lo (tell (dOf n0 ns).heads (dOf n0 ns).rows lo f) hd.px (showF hd)) ⟨[], kv, 1⟩).kv) := by
    rw [← hhd]; rfl
  rw [e]
  exact this
section
noncomputable def lawSc (sc : Scope) (nm gl cn : List Str) : Bool :=
  allLoc sc nm && allGlob sc gl && decide nm.Nodup && decide (sc.kind = .function) && ((nm ++ gl ++ cn).all fun x => !(x == ("__debug__" : Str))) && (gl.all fun x => !(x == ("__name__" : Str))) && decide cn.Nodup && cn.all fun x => decide (sc.names.lookup x = some .cell)
theorem vm_none : ∀ (nm : List Str) (x : Str), vm nm (nm.map fun _ => none) x = none
  | [], _ => rfl
  | n :: ns, x => by
    show (if x = n then none else vm ns (ns.map fun _ => none) x) = none
    rw [vm_none ns x]; split <;> rfl
/- the law's frame -/
theorem law_enter {P p : Program} {loose : List Str} {mean : ExcName → Option Value} {mg mb : Str → Option Value} {w : World} {s₁ : Shared} {h₁ : Heap} {tk : Nat} {m : Str → Option Value} {o1 o2 : Obj} {Ds : Addr} {name : Str} {scope : Scope} {fa : Addr} {cd : Value} {body : List Stmt} {v1 v2 : Option Value} {E : Value → Shared → Prop} (hP : P = pg)
    (nm gl : List Str) (hg : s₁.gens = #[]) (KX : (KK w.params).In s₁.heap) (T : Top p loose mean mg mb s₁.heap) (F : Fr s₁.heap s₁.heap.objs.size h₁ m) (h1 : o1.data = .cell v1) (h2 : o2.data = .cell v2) (N : News s₁.heap s₁.heap.objs.size h₁ [(s₁.heap.objs.size + 1 + 1, o1), (s₁.heap.objs.size + 1, o2)])
    (hv1 : v1 = none) (hv2 : v2 = some (.ref Ds)) (hm : m = fun _ => none) (hsc : lawSc scope nm gl [Str.ofString "own", Str.ofString "script"] = true) (hcl : ∀ L, cellsFrom (L + 1) scope.names [] = [(Str.ofString "own", L + 2), (Str.ofString "script", L + 1)])
    (k : ∀ env L s, En env L nm gl → EnC env [(Str.ofString "own", L + 2), (Str.ofString "script", L + 1)] → Ok (callerA.deeper env) 100 → St w s₁.os s₁.heap L nm (nm.map fun _ => none) [celC (L + 2) none, celC (L + 1) (some (.ref Ds))] s →
      WX w (callerA.deeper env) env body (fun fl s' => ∃ g' vs' led', fl = .ret (.bool true) ∧ Sub s₁.heap g' ∧ St w s₁.os g' L nm vs' led' s') s) :
    wpAny (model P w) (callerA.deeper (envOfC name scope s₁.heap.objs.size fa cd)) (execs body (envOfC name scope s₁.heap.objs.size fa cd)) (fun fl s' => fl = .ret (.bool true) ∧ (∀ b o, s₁.heap.get? b = some o → s'.heap.get? b = some o) ∧ s'.os = s₁.os ∧ s'.gens = #[]) E ⟨h₁, s₁.gens, s₁.drawn, tk, s₁.os⟩ := by
  subst hP
  have S : St w s₁.os s₁.heap s₁.heap.objs.size nm (nm.map fun _ => none) [celC (s₁.heap.objs.size + 2) none, celC (s₁.heap.objs.size + 1) (some (.ref Ds))] ⟨h₁, s₁.gens, s₁.drawn, tk, s₁.os⟩ := by
    have fr : ∀ a, s₁.heap.objs.size ≤ a → s₁.heap.get? a = none := fun a ha => by
      cases q : s₁.heap.get? a with
      | none => rfl
      | some o => exact absurd (Nat.lt_of_lt_of_le (Heap.lt_size q) ha) (Nat.lt_irrefl _)
    have n1 := N _ (.head _)
    have n2 := N _ (.tail _ (.head _))
    refine ⟨⟨KX, ⟨mb, T.b, T.builtins⟩, T.nolimit, T.nodigits⟩, by rw [show vm nm (nm.map fun _ => none) = m from by rw [hm]; funext x; exact vm_none nm x]; exact F.ns, F.keep, fr _ (Nat.le_refl _), fun c hc => ?_, ?_, hg, rfl⟩
    · rcases List.mem_cons.mp hc with rfl | hc
      · exact ⟨⟨o1, n1.1, h1.trans (by rw [hv1])⟩, n1.2.1, fr _ (Nat.le_add_right _ _)⟩
      · rw [List.mem_singleton] at hc
        subst hc
        exact ⟨⟨o2, n2.1, h2.trans (by rw [hv2])⟩, n2.2.1, fr _ (Nat.le_add_right _ _)⟩
    · show [s₁.heap.objs.size + 2, s₁.heap.objs.size + 1].Nodup
      simp
  simp only [lawSc, Bool.and_eq_true, decide_eq_true_eq] at hsc
  obtain ⟨⟨⟨⟨⟨⟨⟨a1, a2⟩, a3⟩, a4⟩, a5⟩, a6⟩, a7⟩, a8⟩ := hsc
  have he : En (envOfC name scope s₁.heap.objs.size fa cd) s₁.heap.objs.size nm gl := ⟨a4, rfl, fun x hx => of_decide_eq_true (List.all_eq_true.mp a1 x hx), fun x hx => of_decide_eq_true (List.all_eq_true.mp a2 x hx), fun x hx => by simpa using List.all_eq_true.mp a5 x (List.mem_append_left _ hx), fun x hx => by simpa using List.all_eq_true.mp a6 x hx, rfl, rfl, a3⟩
  have hec : EnC (envOfC name scope s₁.heap.objs.size fa cd) [(Str.ofString "own", s₁.heap.objs.size + 2), (Str.ofString "script", s₁.heap.objs.size + 1)] := by
    have hcells : (envOfC name scope s₁.heap.objs.size fa cd).cells = [(Str.ofString "own", s₁.heap.objs.size + 2), (Str.ofString "script", s₁.heap.objs.size + 1)] := hcl _
    have hmem : ∀ p ∈ [(Str.ofString "own", s₁.heap.objs.size + 2), (Str.ofString "script", s₁.heap.objs.size + 1)], p.1 ∈ [Str.ofString "own", Str.ofString "script"] := by
      intro p hp
      rcases List.mem_cons.mp hp with rfl | hp
      · exact .head _
      · rw [List.mem_singleton] at hp; subst hp; exact .tail _ (.head _)
    exact ⟨fun p hp => of_decide_eq_true (List.all_eq_true.mp a8 _ (hmem p hp)), fun p hp => by rw [hcells]; exact lookup_of_mem_nodup a7 hp, fun p hp => by simpa using List.all_eq_true.mp a5 p.1 (List.mem_append_right _ (hmem p hp))⟩
  have z := k _ _ _ he hec ⟨rfl, by show 1 + 300 + 1 + 2 * 100 < 1000; decide, by show 4 + 3 + 20 * 100 < 9900; decide⟩ S
  rw [wx] at z
  refine wpAny_mono z (fun fl s' h => ?_) fun _ _ q => q.elim
  obtain ⟨g', vs', led', e1, e2, e3⟩ := h
  exact ⟨e1, fun b o q => e3.keep _ _ (e2 _ _ q), e3.os, e3.gens⟩
theorem law_enter2 {P p : Program} {loose : List Str} {mean : ExcName → Option Value} {mg mb : Str → Option Value} {w : World} {s₁ : Shared} {h₁ : Heap} {tk : Nat} {m : Str → Option Value} {o1 o2 : Obj} {Ds : Addr} {name : Str} {scope : Scope} {fa : Addr} {cd : Value} {body : List Stmt} {v1 v2 : Option Value} {R : QF} {E : Value → Shared → Prop} (hP : P = pg)
    (nm gl : List Str) (hg : s₁.gens = #[]) (KX : (KK w.params).In s₁.heap) (T : Top p loose mean mg mb s₁.heap) (F : Fr s₁.heap s₁.heap.objs.size h₁ m) (h1 : o1.data = .cell v1) (h2 : o2.data = .cell v2) (N : News s₁.heap s₁.heap.objs.size h₁ [(s₁.heap.objs.size + 1 + 1, o1), (s₁.heap.objs.size + 1, o2)])
    (hv1 : v1 = none) (hv2 : v2 = some (.ref Ds)) (hm : m = fun _ => none) (hsc : lawSc scope nm gl [Str.ofString "own", Str.ofString "script"] = true) (hcl : ∀ L, cellsFrom (L + 1) scope.names [] = [(Str.ofString "own", L + 2), (Str.ofString "script", L + 1)])
    (k : ∀ env L s, En env L nm gl → EnC env [(Str.ofString "own", L + 2), (Str.ofString "script", L + 1)] → Ok (callerA.deeper env) 100 → St w s₁.os s₁.heap L nm (nm.map fun _ => none) [celC (L + 2) none, celC (L + 1) (some (.ref Ds))] s →
      WX w (callerA.deeper env) env body (fun fl s' => ∃ g' vs' led', fl = .ret (.bool true) ∧ Sub s₁.heap g' ∧ St w s₁.os g' L nm vs' led' s') s)
    (hR : ∀ s', (∀ b o, s₁.heap.get? b = some o → s'.heap.get? b = some o) → s'.os = s₁.os → s'.gens = #[] → R (.ret (.bool true)) s') :
    wpAny (model P w) (callerA.deeper (envOfC name scope s₁.heap.objs.size fa cd)) (execs body (envOfC name scope s₁.heap.objs.size fa cd)) R E ⟨h₁, s₁.gens, s₁.drawn, tk, s₁.os⟩ :=
  wpAny_mono (law_enter (E := E) hP nm gl hg KX T F h1 h2 N hv1 hv2 hm hsc hcl k) (fun fl s' h => by obtain ⟨rfl, q1, q2, q3⟩ := h; exact hR s' q1 q2 q3) fun _ _ h => h
theorem rs_all {w : World} {o₀ : OsState} {Dh Dr : Addr} {n0 : Int} {ns : List Int} (h : ns.length ≤ 22) {rd dr ms ds it : Addr} {o : Obj} {xs : List Str} {l : List Value} {dirs : List Str} : ∀ f, RS w o₀ Dh Dr (dOf n0 ns).heads (dOf n0 ns).rows rd dr ms ds it o xs l dirs f
  | 0 => fun n kv g s A Q tn hn hf => by lia
  | f + 1 => read_step (d_rows h) (fun h hh => path_short ((d_rows ‹_›).2.2.1 h hh)) (d_run h f) (rs_all h f)
theorem ds_all {w : World} {o₀ : OsState} {Dh Dr : Addr} {n0 : Int} {ns : List Int} (h : ns.length ≤ 22) {Dst Dm Df kn : Addr} {lm lf : List Value} {mods : List Str} {fs : List (List Str)} : ∀ f, DS w o₀ Dh Dr (dOf n0 ns).heads (dOf n0 ns).rows Dst Dm Df kn lm lf mods fs f
  | 0 => fun n kv g s A Q tn hn hf => by lia
  | f + 1 => due_step (d_rows h) (fun h hh => path_short ((d_rows ‹_›).2.2.1 h hh)) (d_ord h) (ds_all h f)
/- all that the law needs of its settings -/
structure SetOk (m1 m2 w1 w2 : Str) (f1 f2 : List Str) : Prop where
  mo : ∀ r ∈ [m1, m2], modOk r = true
  mz : ∀ r ∈ metS [m1, m2], r.length ≤ 1000
  wo : ∀ p ∈ [w1, w2], wayOk p = true
  wz : ∀ x ∈ [w1, w2].map normT, x.length ≤ 1000
  fo : ∀ r ∈ [f1, f2], r.length ≤ 1000 ∧ r.all PyData.strOk = true
  eq : ∀ h, HeadOk h → outT (metS [m1, m2]) ([w1, w2].map normT) (fileO h) (nameT h) = leftT h [m1, m2] [f1, f2]
theorem two_mem {α : Type} {P : α → Prop} {a b : α} (ha : P a) (hb : P b) : ∀ x ∈ [a, b], P x := fun x hx => by
  rcases List.mem_cons.mp hx with rfl | hx
  · exact ha
  · rw [List.mem_singleton] at hx; subst hx; exact hb
theorem set_fine {a b c d x y : Nat} (ha : a < 10) (hb : b < 10) (hc : c < 10) (hd : d < 10) (hx : x < 9) (hy : y < 9) (p q : Nat → Nat) : SetOk (modT a b) (modT c d) (wayT (folderT x) p) (wayT (folderT y) q) (folderT x) (folderT y) :=
  ⟨two_mem (mod_fine ha hb) (mod_fine hc hd), fun r hr => by
    rcases met_fine.2 r hr with rfl | rfl
    · exact mod_short ha hb
    · exact mod_short hc hd, two_mem (way_fine hx p).1 (way_fine hy q).1, two_mem (way_fine hx p).2 (way_fine hy q).2, two_mem fold_fine fold_fine, fun h hh => out_left ha hb hc hd hx hy p q hh⟩
theorem set_here {lm lw l1 l2 : List Value} {n : Int} (h1 : Strs lm [modT (fig n 0) (fig n 1), modT (fig n 2) (fig n 3)]) (h2 : Strs l1 (folderT (fig n 4 % 9))) (h3 : Strs l2 (folderT (fig n 5 % 9)))
    (h4 : Strs lw [wayT (folderT (fig n 4 % 9)) (fun i => fig n (6 + i)), wayT (folderT (fig n 5 % 9)) (fun i => fig n (9 + i))]) : ∃ m1 m2 w1 w2 f1 f2, SetOk m1 m2 w1 w2 f1 f2 ∧ Strs lm [m1, m2] ∧ Strs lw [w1, w2] ∧ Strs l1 f1 ∧ Strs l2 f2 :=
  have hf : ∀ k, fig n k < 10 := fun k => (figI_eq n k).2
  ⟨_, _, _, _, _, _, set_fine (hf 0) (hf 1) (hf 2) (hf 3) (Nat.mod_lt _ (by decide)) (Nat.mod_lt _ (by decide)) _ _, h1, h4, h2, h3⟩
theorem strs_ne {l : List Value} {x : Str} {xs : List Str} (h : Strs l (x :: xs)) : l.isEmpty = false := by cases h; rfl
theorem law_all : PySem.Challenge.rw_nq0235_01.Holds := by
  refine holds_law saidQ fun said => ?_
  refine holds_open (q := qV) (loose := looseV) (Xt := fun s => xlAt qV [] s && recOk (RowW.records rwA.row.toRowW) s) (XP := XL qV []) (Yf := Hook.obs hk) (Ya := Hook.val hk) (YP := Hook.says hk) (N := 11240) leftQ (Hook.of hk) (Hook.keeps hk) (fun s e => xl_of s (Bool.and_eq_true_iff.mp e).1) XL.keeps (by rfl) (by rfl) (by rfl) (fun s e => recFacts_of (Bool.and_eq_true_iff.mp e).2) (by rfl) (by assumption) (by decide +kernel) ⟨rfl, rfl, rfl, rfl, rfl, tabsQ⟩ ?hw ?hc
  case hw => w_witness2
  k_fill
  intro w s₀ s₁ mg mb G Y fa o pm cd doc dV kV ho hd hcd hD hmg hg args vals as hpre hlay hrd hwl hlo
  have KX := kIn_of Y
  have X := (Ground.X G).1
  have V := (Ground.X G).2
  refine Ground.open G ?_
  intro T B D TE TW
  try (refine guard_noD D (by decide +kernel) ?_; clear D)
  obtain ⟨_, _, M⟩ := bmod_of_top T
  have TA := at_of_top T
  try (obtain ⟨_, _, he, B0⟩ := based_of_top T rfl hmg ho hd; have he' : cd = _ := he; subst he'; clear he)
  clear hmg
  wrow_args hpre hlay hrd hwl hlo
  all_goals (
    first | refine callC_kw (enter_call ?_) | refine enter_call ?_ | refine callC_kw (enter_callW ?_) | refine enter_callW ?_ | w_how
    w_top on
    try refine codeAny_mono ?_ (fun _ _ g => GoodW.toG g)
    have K0 := below_caller (Top.heap T)
    w_call any ho hd hcd hD T F
    clear hd TA
    k_drop
    skip)
  rename_i w11 w10 w9 w8 ns hsh hlay0 hL1 hr1 hl2 w6 w5 Ds ls w2 hIs ra w1 r0 hI hr hlen hcd2 hp1 tk o1 o2 h1 h2 N X0
  clear X0 hD K0 hcd2 hr r0 w1 ra hcd M TW TE B V X G
  have e1 : PySem.Challenge.rw_nq0235_01.row.prog = pg := by kernel_rfl
  with_reducible refine law_enter2 (Ds := Ds) e1 [Str.ofString "numbers", Str.ofString "modules", Str.ofString "folders", Str.ofString "ways", Str.ofString "heads", Str.ofString "rows", Str.ofString "reader", Str.ofString "told", Str.ofString "known", Str.ofString "due"] [Str.ofString "range", Str.ofString "_law_settings", Str.ofString "_law_drawn", Str.ofString "_Ignore", Str.ofString "_law_read", Str.ofString "_law_due", Str.ofString "list"] hg KX T F h1 h2 N ?hv1 ?hv2 ?hm ?hsc ?hcl ?body ?hR
  case hv1 => kernel_rfl!
  case hv2 => kernel_rfl!
  case hm => kernel_rfl!
  case hsc => kernel_rfl!
  case hcl => intro L; kernel_rfl!
  case hR =>
    intro s' q1 q2 q3
    refine ⟨.inl ⟨.bool true, .bool true, [], rfl, raisesW_false ?_, .bool true, ?_, unshared_nil⟩, q1, q2, q3⟩
    · intro ct hct; revert hct; simp [OpenLaw.row]
    · kernel_rfl!
  case body =>
    clear Y N F h1 h2 T KX ho
    have hIn := hI
    clear hI
    intro env L s e ec hA S; apply hideQ; intro KF hlaw
    have hz63 : ns.length ≤ 63 := by have := hlen; simp only [Int.not_lt] at this; lia
    simp only [List.map_cons, List.map_nil] at S
    apply x_assign; exact rfl
    apply r_list
    refine a_ints (by repeat' constructor) S ?_; clear S; intro s lq hlq S
    apply n_ints S hlq (by rw [ints_len hlq]; rfl); clear S hlq lq; intro s Do lo hDo hlo S
    try (fail "run")
    refine x_assign_comp (swaps_yes e (by fail "mem") rfl (by decide)) rfl (closureFor_cl ec (cs := [(Str.ofString "script", L + 1), (Str.ofString "own", L + 2)]) rfl) (by decide) ?_
    try (fail "run")
    apply k_range S; clear S; intro s r t0 t1 hr S
    apply it_range (by decide) S; clear S; intro s I hI S
    refine use2 (A := callerA.deeper env) (env := env) (gl := [Str.ofString "range", Str.ofString "_law_settings", Str.ofString "_law_drawn", Str.ofString "_Ignore", Str.ofString "_law_read", Str.ofString "_law_due", Str.ofString "list"]) (sub := [.raw I _]) S (by fail "pk") ?_
    intro gc C hg hr bk bka
    clear S
    refine co_u (L := L) (n := 23) (Ic := fun k => .raw I (rngO (k : Nat) ((23 - k : Nat) : Int))) [Str.ofString "sum"] (by decide) (by decide) e C (iterP_range hA) (fun k ys led => k ≤ 23 ∧ led = [] ∧ ∃ zs, IntsAre ys zs ∧ zs.length = k) ⟨by lia, rfl, [], .nil, rfl⟩ (fun k ys led h => ?_) ?_ ?_
    · obtain ⟨hk, _, zs, h, h2⟩ := h
      rw [ints_len h]; lia
    · rintro cenv Cc D hE hce k v ys led s hk qq1 qq2 S
      apply hideT; intro KE K0 hval hskip
      obtain ⟨tk, rfl⟩ := qq1
      obtain ⟨hk', rfl, zs, hys, hzl⟩ := qq2
      have f1 : (Cell.lst Do lo).ok w.params gc := hr _ (by fail "mem")
      have f2 : (celC (L + 2) (some (.ref Do))).ok w.params gc := hr _ (by fail "mem")
      have f3 : (celC (L + 1) (some (.ref Ds))).ok w.params gc := hr _ (by fail "mem")
      have ec := EnC.of (cn := [Str.ofString "script", Str.ofString "own"]) e ec hce (by fail "alls") rfl (by decide)
      clear e
      have e := hE
      clear hce bk bka
      apply ts_nil
      apply ite_t
      try (fail "run")
      obtain ⟨no, hno⟩ : ∃ no : Int, [(12013305710 : Int), 10, 1026, 1001, 16, 100, 282, 4, 5, 1057, 4, 33, 4, 72, 4, 8390, 1048, 4, 5, 412, 1051, 522, 9040][k]? = some no := ⟨_, List.getElem?_eq_getElem hk⟩
      obtain ⟨tno, hno⟩ := ints_at hlo hno
      apply s_item S (.frz f1) rfl (by lia) (by lia) (by rw [Int.toNat_natCast]; exact hno)
      try (fail "run")
      apply r_slice3
      try (fail "run")
      obtain ⟨o, q1, q2⟩ := hIs
      apply sl3_list S (l := ls) ⟨o, hg _ _ q1, q2⟩ (.int _ _) .none (.int _ _) (by decide) (fun r => rfl) (by rw [ints_len hIn]; lia)
      clear S; intro s Dz hDz S
      obtain ⟨zz, hzz⟩ := pick_ints (lo := some (k : Int)) (hi := none) (st := some 23) hIn
      fail "vin"; fail "go"
      apply v_k_sum hA (by fail "has") hzz; intro tsum vsum
      fail "gox"
      exact ⟨_, S.forget, by lia, rfl, _, ints_snoc hys, by rw [List.length_append]; simp only [List.length_cons, List.length_nil]; lia⟩
    · rintro D ys led s Cc u ⟨_, rfl, zs, hys, hzl⟩ S
      refine bka _ _ _ _ _ _ _ _ _ _ _ e S (by fail "app") (by fail "up") ?_
      clear S C bk bka hr hg hI hr1
      intro s S
      obtain _ | @⟨n0, tn0, ys, zs, hys⟩ := hys
      · cases hzl
      have hz22 : zs.length ≤ 22 := by simp only [List.length_cons] at hzl; lia
      fail "vin"; fail "go"
      fail "callv"; apply settings_spec C (hA.le (by decide)); intro s T Dm Df Dw D1 D2 lm lw l1 l2 hlm hl1 hl2 hlw C'; fail "bck"
      fail "gox"
      obtain ⟨m1, m2, w1, w2, f1, f2, SO, hlm, hlw, hl1, hl2⟩ := set_here hlm hl1 hl2 hlw
      obtain ⟨g1, hg1, hall, S⟩ := S.frzAll (led := [])
      have hall : ∀ c ∈ _, Cell.ok w.params g1 c := fun c hc => let ⟨o, q1, q2⟩ := hall c hc; ⟨o, q1.1, q2⟩
      have fD : (Cell.lst D (.int n0 tn0 :: ys)).ok w.params g1 := hall _ (by fail "mem")
      have fDm : (Cell.lst Dm lm).ok w.params g1 := hall _ (by fail "mem")
      have fDf : (Cell.lst Df [.ref D1, .ref D2]).ok w.params g1 := hall _ (by fail "mem")
      have fDw : (Cell.lst Dw lw).ok w.params g1 := hall _ (by fail "mem")
      have fD1 : (Cell.lst D1 l1).ok w.params g1 := hall _ (by fail "mem")
      have fD2 : (Cell.lst D2 l2).ok w.params g1 := hall _ (by fail "mem")
      clear hall
      try (fail "run")
      refine use3 (sub := []) S Picks.nil ?_; intro gc C hg hr bk; clear S; apply wc_of
      apply drawn_spec (fD.keeps fun o q => hg _ _ q) hys (by lia) C (hA.le (by decide))
      intro s gc' T2 Dh Dr hsc hhs0 hrs0 C'
      obtain ⟨g2, hg2, hnew, S⟩ := bk gc' _ _ _ hsc C' (by fail "app")
      have hhs : HeadsF (Frz g2) (.ref Dh) (dOf n0 zs).heads := hhs0.mono fun a o z => (hnew a o z).1
      have hrs : RowsF (Frz g2) (.ref Dr) (dOf n0 zs).rows := hrs0.mono fun a o z => (hnew a o z).1
      clear C' bk hr C hnew hsc hg hhs0 hrs0
      fail "vin"; fail "go"
      fail "callv"
      apply ig_spec (fDm.keeps fun o q => hg _ _ (hg2 _ _ q)) (fDw.keeps fun o q => hg _ _ (hg2 _ _ q)) hlm hlw rfl (strs_ne hlm) (strs_ne hlw) (by rw [hlm.length]; exact of_decide_eq_true rfl) (by rw [hlw.length]; exact of_decide_eq_true rfl) SO.wo C (hA.le (by decide))
      intro s rd dr ms ds it om ld hset hld C'; fail "bck"
      fail "gox"
      obtain ⟨g3, hg3, hall, S⟩ := S.frzAll (led := [.ins rd 137 dr, .dic dr igNm _, .tab it _])
      have hall : ∀ c ∈ _, Cell.ok w.params g3 c := fun c hc => let ⟨o, q1, q2⟩ := hall c hc; ⟨o, q1.1, q2⟩
      have fms : (Cell.raw ms om).ok w.params g3 := hall _ (by fail "mem")
      have fds : (Cell.lst ds ld).ok w.params g3 := hall _ (by fail "mem")
      clear hall
      try (fail "run")
      have hrok := d_rows (n0 := n0) hz22
      have hzero := d_zero (n0 := n0) hz22
      have hnum := d_num (n0 := n0) hz22
      have W : RdW w g3 Dh Dr (dOf n0 zs).heads (dOf n0 zs).rows ms ds om (metS [m1, m2]) ld ([w1, w2].map normT) := ⟨hhs.mono (frz_sub hg3), hrs.mono (frz_sub hg3), fms, hset, met_fine.1, fds, hld, SO.mz, SO.wz⟩
      have hdl := d_len (n0 := n0) hz22 (lo := fun h => outT (metS [m1, m2]) ([w1, w2].map normT) (fileO h) (nameT h))
      have hds := d_shape (n0 := n0) hz22 (lo := fun h => outT (metS [m1, m2]) ([w1, w2].map normT) (fileO h) (nameT h))
      refine use3 (sub := [.ins rd 137 dr, .dic dr igNm _, .tab it _]) S (by fail "pk") ?_; intro gc C hg hr bk; clear S; apply wc_of
      refine rs_all hz22 (dOf n0 zs).rows.length 0 kv0 gc s _ _ _ (by lia) (by lia) (hA.le (by lia)) (fun p hp => by rw [List.mem_singleton] at hp; subst hp; exact .inr rfl) (by lia) (by lia) (W.sub hg) C ?_
      intro s gc' Dt lt hsc hlt0 C'
      obtain ⟨g4, hg4, hnew, S⟩ := bk gc' _ _ _ hsc C' (by fail "app")
      have hlt := hlt0.mono fun _ _ z => z.mono hnew
      clear C' bk hr C hnew hsc hg hlt0
      fail "vin"; fail "go"
      apply v_r_dict1; intro kn
      fail "gox"
      obtain ⟨Dst, hDst⟩ : ∃ Dst, Dst = a := ⟨a, rfl⟩
      subst hDst
      have heq : tell (dOf n0 zs).heads (dOf n0 zs).rows (fun h => leftT h [m1, m2] [f1, f2]) (dOf n0 zs).rows.length 0 kv0 = tell (dOf n0 zs).heads (dOf n0 zs).rows (fun h => outT (metS [m1, m2]) ([w1, w2].map normT) (fileO h) (nameT h)) (dOf n0 zs).rows.length 0 kv0 := tell_congr hrok (fun h hh => (SO.eq h (hrok.2.2.1 h hh)).symm) _ _ _
      obtain ⟨g5, hg5, hst, S⟩ := S.frz1
      have sg25 := Sub.trans hg3 (Sub.trans hg4 hg5)
      have sg15 := Sub.trans hg2 sg25
      have U : DuW w g5 Dh Dr (dOf n0 zs).heads (dOf n0 zs).rows Dst Dm Df lm [.ref D1, .ref D2] [m1, m2] [f1, f2] := ⟨hhs.mono (frz_sub sg25), hrs.mono (frz_sub sg25), (hst.mono new_frz).cell, fDm.keeps fun o q => sg15 _ _ q, hlm, SO.mo, fDf.keeps fun o q => sg15 _ _ q,
        .cons ⟨l1, lstF_of (fD1.keeps fun o q => sg15 _ _ q), hl1⟩ (.cons ⟨l2, lstF_of (fD2.keeps fun o q => sg15 _ _ q), hl2⟩ .nil), SO.fo, of_decide_eq_true rfl, of_decide_eq_true rfl⟩
      refine use3 (sub := [.tab kn _]) S (by fail "pk") ?_; intro gc C hg hr bk; clear S; apply wc_of
      refine ds_all hz22 (dOf n0 zs).rows.length 0 kv0 gc s _ _ _ (by lia) (by lia) (hA.le (by lia)) (fun p hp => by rw [List.mem_singleton] at hp; subst hp; exact .inr rfl) (by rw [heq]; lia) (by rw [heq]; lia) (U.sub hg) C ?_
      intro s gc' Du lu hsc hlu0 C'
      rw [heq] at hlu0 C'
      obtain ⟨g6, hg6, hnew, S⟩ := bk gc' _ _ _ hsc C' (by fail "app")
      have hlu := hlu0.mono fun _ _ z => z.mono hnew
      clear C' bk hr C hnew hsc hg hlu0 heq
      have hlt : All2 (EntF (Frz g6)) lt _ := hlt.mono fun _ _ z => z.mono fun a o q => hg6 _ _ (hg5 _ _ q.1)
      have hlu : All2 (EntF (Frz g6)) lu _ := hlu.mono fun _ _ z => z.mono new_frz
      obtain ⟨R, hR⟩ : ∃ R, R = tell (dOf n0 zs).heads (dOf n0 zs).rows (fun h => outT (metS [m1, m2]) ([w1, w2].map normT) (fileO h) (nameT h)) (dOf n0 zs).rows.length 0 kv0 := ⟨_, rfl⟩
      rw [← hR] at hlt hlu hdl hds S
      clear hR
      try (fail "run")
      obtain ⟨as1, hra⟩ := ents_reads (hlt.mono fun _ _ z => z.mono (frz_sub S.keep))
      obtain ⟨as2, hrb⟩ := ents_reads (hlu.mono fun _ _ z => z.mono (frz_sub S.keep))
      apply q_eq_data S hA (by decide) (lst_reads S (by fail "has") hra) (lst_reads S (by fail "has") hrb) hds.1
      clear hra hrb
      fail "vin"; fail "go"
      apply v_m_dict (by fail "has")
      fail "gox"
      apply k_items S (by fail "has"); clear S; intro s V1 S
      try (fail "run")
      apply k_list_items hA S (by fail "has") (by lia); clear S; intro s g7 V2 as3 hg7 hra S
      fail "vin"; fail "go"
      apply v_m_dict (by fail "has")
      fail "gox"
      apply k_items S (by fail "has"); clear S; intro s V3 S
      try (fail "run")
      apply k_list_items hA S (by fail "has") (by lia); clear S; intro s g8 V4 as4 hg8 hrb S
      try (fail "run")
      apply q_eq_data S hA (by decide) (PyProof.Rows.Reads.keeps (fun b o q => S.keep _ _ (hg8 _ _ q)) hra) (PyProof.Rows.Reads.keeps S.keep hrb) hds.2
      exact hlaw _ _ ⟨_, _, _, rfl, Sub.trans hg1 (Sub.trans sg15 (Sub.trans hg6 (Sub.trans hg7 hg8))), S⟩
end
end Mine
theorem PySem.Challenge.cw_nq0235_01_holds : PySem.Challenge.rw_nq0235_01.Holds := by
  exact Mine.law_all
