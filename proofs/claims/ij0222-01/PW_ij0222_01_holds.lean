import PyProof.Rows.All
import Wide.All
import OpenK.AllK
import Wide.FinOn
import Lean
import PySem.Challenge.RW_ij0222_01
set_option linter.all false
set_option Elab.async false
local macro_rules | `(tactic| walk_at $s:str) => `(tactic| k_extra $s)
section
open PySem PySem.W PySem.Calls PyProof.Rows
set_option maxRecDepth 100000
namespace Mine
noncomputable abbrev PW := PySem.Challenge.pw_ij0222_01
noncomputable def fnAt (i j : Nat) : Option (Arguments × List Stmt × Scope) := match PW.main.body[i]? with
  | some (.FunctionDef _ a b _ _ _ sc _ _ _) => some (a, b, sc)
  | some (.ClassDef _ _ _ body _ _ _ _ _ _ _) => (match body[j]? with
    | some (.FunctionDef _ a b _ _ _ sc _ _ _) => some (a, b, sc)
    | _ => none)
  | _ => none
noncomputable abbrev mkF (c : Value) (d : Option Addr) (i j : Nat) (name qual : Str) (ps : Arguments) (b : List Stmt) (sc : Scope) (_h : fnAt i j = some (ps, b, sc)) (dV kV doc pm : Value) (an : Option Addr) (cdv ct : Value) (sl : Array (Option Value)) : Obj :=
  ⟨c, d, .func (fnOf name qual ps b sc dV kV doc pm an cdv ct), sl⟩
noncomputable def K (P : Params) : Frag :=
  (nat_lit 2, ⟨.none, none, .dict #[⟨PyData.keyHash P "\x69mport.loaded._sre", .str "\x69mport.loaded._sre" 183, .bool true⟩, ⟨PyData.keyHash P "class._frozen_importlib.BuiltinImporter", .str "class._frozen_importlib.BuiltinImporter" 185, .ref 14⟩, ⟨PyData.keyHash P "watched.\x69mport", .str "watched.\x69mport" 206, .ref 18⟩, ⟨PyData.keyHash P "class._frozen_importlib.ModuleSpec", .str "class._frozen_importlib.ModuleSpec" 216, .ref 22⟩, ⟨PyData.keyHash P "sys.modules.booked-epoch", .str "sys.modules.booked-epoch" 245, .int (4) 0⟩, ⟨PyData.keyHash P "\x69mport.later-laid._sre", .str "\x69mport.later-laid._sre" 270, .bool true⟩, ⟨PyData.keyHash P "watched.library", .str "watched.library" 272, .ref 27⟩, ⟨PyData.keyHash P "watched.library-objects", .str "watched.library-objects" 0, .str "\x0c\x1e" 0⟩, ⟨PyData.keyHash P "watched.library-deep._sre", .str "watched.library-deep._sre" 273, .str "\x04\x00\x00\x0b\x04\x00\x00\x0b\x04\x00\x00\x03\x04\x00\x00\x0b\x08\x04dict\x02" 0⟩, ⟨PyData.keyHash P "\x69mport.loaded._collections", .str "\x69mport.loaded._collections" 280, .bool true⟩, ⟨PyData.keyHash P "sys.modules.landed._collections", .str "sys.modules.landed._collections" 294, .bool true⟩, ⟨PyData.keyHash P "\x69mport.later-laid._collections", .str "\x69mport.later-laid._collections" 309, .bool true⟩, ⟨PyData.keyHash P "watched.library-deep._collections", .str "watched.library-deep._collections" 311, .str "\x04\x00\x00\x1d\x04\x00\x00\x1d\x04\x00\x00\x03\x04\x00\x00\x1d\x08\x04dict\x02" 0⟩, ⟨PyData.keyHash P "type.__subclasses__.OSError.0", .str "type.__subclasses__.OSError.0" 647, .int (239) 0⟩, ⟨PyData.keyHash P "type.__subclasses__.OSError.n", .str "type.__subclasses__.OSError.n" 648, .int (1) 0⟩] 15, #[]⟩) ::
  (nat_lit 3, ⟨.type "dict", none, .dict #[⟨PyData.keyHash P "__name__", .str "__name__" 165, .str "law_ij0222_01" 1489⟩, ⟨PyData.keyHash P "__doc__", .str "__doc__" 166, .none⟩, ⟨PyData.keyHash P "__package__", .str "__package__" 167, .none⟩, ⟨PyData.keyHash P "__loader__", .str "__loader__" 168, .builtin "__main__.__loader__#opaque"⟩, ⟨PyData.keyHash P "__spec__", .str "__spec__" 169, .none⟩, ⟨PyData.keyHash P "__annotations__", .str "__annotations__" 170, .ref 6⟩, ⟨PyData.keyHash P "__builtins__", .str "__builtins__" 171, .ref 4⟩, ⟨PyData.keyHash P "__file__", .str "__file__" 173, .str "/claim/cut.py" 172⟩, ⟨PyData.keyHash P "__cached__", .str "__cached__" 174, .none⟩, ⟨PyData.keyHash P "_sre", .str "_sre" 275, .ref 12⟩, ⟨PyData.keyHash P "deque", .str "deque" 317, .type "collections.deque"⟩, ⟨PyData.keyHash P "_wall", .str "_wall" 330, .ref 44⟩, ⟨PyData.keyHash P "filterfalse", .str "filterfalse" 382, .ref 77⟩, ⟨PyData.keyHash P "_filter", .str "_filter" 392, .ref 88⟩, ⟨PyData.keyHash P "_plain_name", .str "_plain_name" 403, .ref 95⟩, ⟨PyData.keyHash P "ABCMeta", .str "ABCMeta" 429, .ref 112⟩, ⟨PyData.keyHash P "_ABCLike", .str "_ABCLike" 472, .ref 145⟩, ⟨PyData.keyHash P "_abc_plain_meta", .str "_abc_plain_meta" 479, .ref 154⟩, ⟨PyData.keyHash P "fspath", .str "fspath" 491, .ref 161⟩, ⟨PyData.keyHash P "_check_arg_types", .str "_check_arg_types" 504, .ref 786⟩, ⟨PyData.keyHash P "check_arg_types_genericpath", .str "check_arg_types_genericpath" 505, .ref 168⟩, ⟨PyData.keyHash P "_get_sep", .str "_get_sep" 514, .ref 175⟩, ⟨PyData.keyHash P "join", .str "join" 525, .ref 800⟩, ⟨PyData.keyHash P "join_posixpath", .str "join_posixpath" 526, .ref 182⟩, ⟨PyData.keyHash P "splitroot", .str "splitroot" 535, .ref 189⟩, ⟨PyData.keyHash P "basename", .str "basename" 544, .ref 196⟩, ⟨PyData.keyHash P "dirname", .str "dirname" 554, .ref 807⟩, ⟨PyData.keyHash P "dirname_posixpath", .str "dirname_posixpath" 555, .ref 203⟩, ⟨PyData.keyHash P "normpath", .str "normpath" 570, .ref 210⟩, ⟨PyData.keyHash P "_twin_re_1", .str "_twin_re_1" 610, .ref 215⟩, ⟨PyData.keyHash P "_whence", .str "_whence" 620, .ref 222⟩, ⟨PyData.keyHash P "_index", .str "_index" 628, .ref 229⟩, ⟨PyData.keyHash P "UnsupportedOperation", .str "UnsupportedOperation" 650, .ref 239⟩, ⟨PyData.keyHash P "IOBase", .str "IOBase" 682, .ref 259⟩, ⟨PyData.keyHash P "BufferedIOBase", .str "BufferedIOBase" 700, .ref 274⟩, ⟨PyData.keyHash P "TextIOBase", .str "TextIOBase" 718, .ref 286⟩, ⟨PyData.keyHash P "BytesIO", .str "BytesIO" 980, .ref 516⟩, ⟨PyData.keyHash P "StringIO", .str "StringIO" 1267, .ref 763⟩, ⟨PyData.keyHash P "_kind", .str "_kind" 1278, .ref 772⟩, ⟨PyData.keyHash P "_fspath", .str "_fspath" 1287, .ref 779⟩, ⟨PyData.keyHash P "check_arg_types_path", .str "check_arg_types_path" 1298, .ref 786⟩, ⟨PyData.keyHash P "isabs", .str "isabs" 1305, .ref 793⟩, ⟨PyData.keyHash P "join_path", .str "join_path" 1317, .ref 800⟩, ⟨PyData.keyHash P "dirname_path", .str "dirname_path" 1328, .ref 807⟩, ⟨PyData.keyHash P "shlex", .str "shlex" 1469, .ref 898⟩, ⟨PyData.keyHash P "split", .str "split" 1479, .ref 910⟩, ⟨PyData.keyHash P "_find_unsafe", .str "_find_unsafe" 1481, .ref 911⟩, ⟨PyData.keyHash P "quote", .str "quote" 1488, .ref 918⟩, ⟨PyData.keyHash P "_law_line", .str "_law_line" 1496, .ref 923⟩, ⟨PyData.keyHash P "_law_names", .str "_law_names" 1502, .ref 928⟩, ⟨PyData.keyHash P "_law_walk", .str "_law_walk" 1508, .ref 933⟩, ⟨PyData.keyHash P "law", .str "law" 1514, .ref 938⟩] 52, #[]⟩) ::
  (nat_lit 58, ⟨.type "code", none, .fields #[.str "__init__" 348, .str "filterfalse.__init__" 349, .str "/claim/cut.py" 350, .int (10) 0, .int (3) 0, .int (3) 0, .int (0) 0, .int (3) 0, .ref 53, .bool true, .int (318) 0, .ref 54, .none, .ref 55, .ref 56, .ref 57, .int (354) 0, .int (10) 0, .str "/claim/cut.py" 355], #[]⟩) ::
  (nat_lit 59, mkF (.type "function") none 4 1 "__init__" "filterfalse.__init__" ⟨_, _, _, _, _, _, _⟩ (_ :: _ :: []) ⟨_, _, _, _, _⟩ rfl (.none) (.none) (.none) (.str "itertools" 331) none (.ref 58) (.none) #[]) ::
  (nat_lit 65, ⟨.type "code", none, .fields #[.str "__iter__" 357, .str "filterfalse.__iter__" 358, .str "/claim/cut.py" 359, .int (14) 0, .int (1) 0, .int (0) 0, .int (0) 0, .int (3) 0, .ref 60, .bool true, .int (318) 0, .ref 61, .none, .ref 62, .ref 63, .ref 64, .int (361) 0, .int (14) 0, .str "/claim/cut.py" 362], #[]⟩) ::
  (nat_lit 66, mkF (.type "function") none 4 2 "__iter__" "filterfalse.__iter__" ⟨_, _, _, _, _, _, _⟩ (_ :: []) ⟨_, _, _, _, _⟩ rfl (.none) (.none) (.none) (.str "itertools" 331) none (.ref 65) (.none) #[]) ::
  (nat_lit 72, ⟨.type "code", none, .fields #[.str "__next__" 364, .str "filterfalse.__next__" 365, .str "/claim/cut.py" 366, .int (17) 0, .int (1) 0, .int (0) 0, .int (0) 0, .int (3) 0, .ref 67, .bool true, .int (318) 0, .ref 68, .none, .ref 69, .ref 70, .ref 71, .int (370) 0, .int (17) 0, .str "/claim/cut.py" 371], #[]⟩) ::
  (nat_lit 73, mkF (.type "function") none 4 3 "__next__" "filterfalse.__next__" ⟨_, _, _, _, _, _, _⟩ (_ :: _ :: []) ⟨_, _, _, _, _⟩ rfl (.none) (.none) (.none) (.str "itertools" 331) none (.ref 72) (.none) #[]) ::
  (nat_lit 76, ⟨.type "dict", none, .dict #[⟨PyData.keyHash P "__module__", .str "__module__" 340, .str "itertools" 331⟩, ⟨PyData.keyHash P "__firstlineno__", .str "__firstlineno__" 344, .int (7) 343⟩, ⟨PyData.keyHash P "__slots__", .str "__slots__" 347, .ref 52⟩, ⟨PyData.keyHash P "__init__", .str "__init__" 356, .ref 59⟩, ⟨PyData.keyHash P "__iter__", .str "__iter__" 363, .ref 66⟩, ⟨PyData.keyHash P "__next__", .str "__next__" 372, .ref 73⟩, ⟨PyData.keyHash P "__static_attributes__", .str "__static_attributes__" 375, .ref 74⟩, ⟨PyData.keyHash P "_func", .str "_func" 377, .ref 78⟩, ⟨PyData.keyHash P "_it", .str "_it" 379, .ref 79⟩, ⟨PyData.keyHash P "__doc__", .str "__doc__" 380, .none⟩] 4, #[]⟩) ::
  (nat_lit 77, ⟨.type "type", none, .cls ⟨"filterfalse", [.type "object"], [.ref 77, .type "object"], 76, "filterfalse", false, ["_func", "_it"], [], false, none, false⟩, #[none, none, some (.str "filterfalse" 333), some (.str "filterfalse" 341), some (.builtin "object.__new__"), some (.bool false)]⟩) ::
  (nat_lit 78, ⟨.type "member_descriptor", none, .fields #[.str "_func" 376, .ref 77, .builtin "proto.slot", .builtin "proto.slot#set", .int (1) 0], #[]⟩) ::
  (nat_lit 79, ⟨.type "member_descriptor", none, .fields #[.str "_it" 378, .ref 77, .builtin "proto.slot", .builtin "proto.slot#set", .int (0) 0], #[]⟩) ::
  (nat_lit 87, ⟨.type "code", none, .fields #[.str "_filter" 385, .str "_filter" 386, .str "/claim/cut.py" 387, .int (27) 0, .int (2) 0, .int (0) 0, .int (0) 0, .int (3) 0, .ref 82, .bool true, .int (318) 0, .ref 83, .none, .ref 84, .ref 85, .ref 86, .int (390) 0, .int (27) 0, .str "/claim/cut.py" 391], #[]⟩) ::
  (nat_lit 88, mkF (.type "function") none 6 1000 "_filter" "_filter" ⟨_, _, _, _, _, _, _⟩ (_ :: []) ⟨_, _, _, _, _⟩ rfl (.none) (.none) (.none) (.str "cpy313.filecmp" 383) none (.ref 87) (.none) #[]) ::
  (nat_lit 160, ⟨.type "code", none, .fields #[.str "fspath" 482, .str "fspath" 483, .str "/claim/cut.py" 484, .int (60) 0, .int (1) 0, .int (0) 0, .int (0) 0, .int (3) 0, .ref 155, .bool true, .int (318) 0, .ref 156, .none, .ref 157, .ref 158, .ref 159, .int (489) 0, .int (60) 0, .str "/claim/cut.py" 490], #[]⟩) ::
  (nat_lit 161, mkF (.type "function") none 15 1000 "fspath" "fspath" ⟨_, _, _, _, _, _, _⟩ (_ :: _ :: _ :: _ :: _ :: _ :: _ :: _ :: _ :: _ :: []) ⟨_, _, _, _, _⟩ rfl (.none) (.none) (.none) (.str "os" 480) none (.ref 160) (.none) #[]) ::
  (nat_lit 174, ⟨.type "code", none, .fields #[.str "_get_sep" 508, .str "_get_sep" 509, .str "/claim/cut.py" 510, .int (90) 0, .int (1) 0, .int (0) 0, .int (0) 0, .int (3) 0, .ref 169, .bool true, .int (318) 0, .ref 170, .none, .ref 171, .ref 172, .ref 173, .int (512) 0, .int (90) 0, .str "/claim/cut.py" 513], #[]⟩) ::
  (nat_lit 175, mkF (.type "function") none 20 1000 "_get_sep" "_get_sep" ⟨_, _, _, _, _, _, _⟩ (_ :: []) ⟨_, _, _, _, _⟩ rfl (.none) (.none) (.none) (.str "cpy313.posixpath" 506) none (.ref 174) (.none) #[]) ::
  (nat_lit 181, ⟨.type "code", none, .fields #[.str "join" 515, .str "join" 516, .str "/claim/cut.py" 517, .int (95) 0, .int (1) 0, .int (0) 0, .int (0) 0, .int (7) 0, .ref 176, .bool true, .int (318) 0, .ref 177, .none, .ref 178, .ref 179, .ref 180, .int (523) 0, .int (95) 0, .str "/claim/cut.py" 524], #[]⟩) ::
  (nat_lit 182, mkF (.type "function") none 21 1000 "join" "join" ⟨_, _, _, _, _, _, _⟩ (_ :: _ :: _ :: _ :: _ :: []) ⟨_, _, _, _, _⟩ rfl (.none) (.none) (.none) (.str "cpy313.posixpath" 506) none (.ref 181) (.none) #[]) ::
  (nat_lit 188, ⟨.type "code", none, .fields #[.str "splitroot" 527, .str "splitroot" 528, .str "/claim/cut.py" 529, .int (113) 0, .int (1) 0, .int (0) 0, .int (0) 0, .int (3) 0, .ref 183, .bool true, .int (318) 0, .ref 184, .none, .ref 185, .ref 186, .ref 187, .int (533) 0, .int (113) 0, .str "/claim/cut.py" 534], #[]⟩) ::
  (nat_lit 189, mkF (.type "function") none 23 1000 "splitroot" "splitroot" ⟨_, _, _, _, _, _, _⟩ (_ :: _ :: _ :: []) ⟨_, _, _, _, _⟩ rfl (.none) (.none) (.none) (.str "cpy313.posixpath" 506) none (.ref 188) (.none) #[]) ::
  (nat_lit 195, ⟨.type "code", none, .fields #[.str "basename" 536, .str "basename" 537, .str "/claim/cut.py" 538, .int (127) 0, .int (1) 0, .int (0) 0, .int (0) 0, .int (3) 0, .ref 190, .bool true, .int (318) 0, .ref 191, .none, .ref 192, .ref 193, .ref 194, .int (542) 0, .int (127) 0, .str "/claim/cut.py" 543], #[]⟩) ::
  (nat_lit 196, mkF (.type "function") none 24 1000 "basename" "basename" ⟨_, _, _, _, _, _, _⟩ (_ :: _ :: _ :: _ :: []) ⟨_, _, _, _, _⟩ rfl (.none) (.none) (.none) (.str "cpy313.posixpath" 506) none (.ref 195) (.none) #[]) ::
  (nat_lit 202, ⟨.type "code", none, .fields #[.str "dirname" 545, .str "dirname" 546, .str "/claim/cut.py" 547, .int (132) 0, .int (1) 0, .int (0) 0, .int (0) 0, .int (3) 0, .ref 197, .bool true, .int (318) 0, .ref 198, .none, .ref 199, .ref 200, .ref 201, .int (552) 0, .int (132) 0, .str "/claim/cut.py" 553], #[]⟩) ::
  (nat_lit 203, mkF (.type "function") none 25 1000 "dirname" "dirname" ⟨_, _, _, _, _, _, _⟩ (_ :: _ :: _ :: _ :: _ :: _ :: []) ⟨_, _, _, _, _⟩ rfl (.none) (.none) (.none) (.str "cpy313.posixpath" 506) none (.ref 202) (.none) #[]) ::
  (nat_lit 209, ⟨.type "code", none, .fields #[.str "normpath" 556, .str "normpath" 557, .str "/claim/cut.py" 558, .int (141) 0, .int (1) 0, .int (0) 0, .int (0) 0, .int (3) 0, .ref 204, .bool true, .int (318) 0, .ref 205, .none, .ref 206, .ref 207, .ref 208, .int (568) 0, .int (141) 0, .str "/claim/cut.py" 569], #[]⟩) ::
  (nat_lit 210, mkF (.type "function") none 27 1000 "normpath" "normpath" ⟨_, _, _, _, _, _, _⟩ (_ :: _ :: _ :: _ :: _ :: _ :: _ :: _ :: _ :: _ :: []) ⟨_, _, _, _, _⟩ rfl (.none) (.none) (.none) (.str "cpy313.posixpath" 506) none (.ref 209) (.none) #[]) ::
  (nat_lit 214, ⟨.type "tuple", none, .seq #[.int (14) 0, .int (17) 0, .int (4) 0, .int (1) 0, .int (1) 0, .int (21) 0, .int (9) 0, .int (0) 0, .int (604043296) 0, .int (1) 0, .int (0) 0, .int (0) 0, .int (0) 0, .int (0) 0, .int (0) 0, .int (8) 0, .int (4) 0, .int (0) 0, .int (13) 0, .int (14) 0, .int (21) 0, .int (9) 0, .int (0) 0, .int (604043296) 0, .int (1) 0, .int (0) 0, .int (0) 0, .int (0) 0, .int (0) 0, .int (0) 0, .int (8) 0, .int (4) 0, .int (0) 0, .int (1) 0] 0, #[]⟩) ::
  (nat_lit 215, ⟨.type "re.Pattern", none, .fields #[.str "[^\\w@%+=:,./-]" 572, .int (256) 609, .int (0) 0, .none, .none, .ref 214, .int (0) 0], #[]⟩) ::
  (nat_lit 228, ⟨.type "code", none, .fields #[.str "_index" 621, .str "_index" 622, .str "/claim/cut.py" 623, .int (173) 0, .int (2) 0, .int (0) 0, .int (0) 0, .int (3) 0, .ref 223, .bool true, .int (318) 0, .ref 224, .none, .ref 225, .ref 226, .ref 227, .int (626) 0, .int (173) 0, .str "/claim/cut.py" 627], #[]⟩) ::
  (nat_lit 229, mkF (.type "function") none 31 1000 "_index" "_index" ⟨_, _, _, _, _, _, _⟩ (_ :: _ :: _ :: _ :: []) ⟨_, _, _, _, _⟩ rfl (.none) (.none) (.none) (.str "io" 611) none (.ref 228) (.none) #[]) ::
  (nat_lit 255, ⟨.type "code", none, .fields #[.str "__new__" 665, .str "IOBase.__new__" 666, .str "/claim/cut.py" 667, .int (185) 0, .int (1) 0, .int (1) 0, .int (0) 0, .int (15) 0, .ref 250, .bool true, .int (318) 0, .ref 251, .none, .ref 252, .ref 253, .ref 254, .int (671) 0, .int (185) 0, .str "/claim/cut.py" 672], #[]⟩) ::
  (nat_lit 256, mkF (.type "function") none 33 1 "__new__" "IOBase.__new__" ⟨_, _, _, _, _, _, _⟩ (_ :: _ :: []) ⟨_, _, _, _, _⟩ rfl (.none) (.none) (.none) (.str "io" 611) none (.ref 255) (.none) #[]) ::
  (nat_lit 258, ⟨.type "dict", none, .dict #[⟨PyData.keyHash P "__module__", .str "__module__" 658, .str "io" 663⟩, ⟨PyData.keyHash P "__firstlineno__", .str "__firstlineno__" 662, .int (182) 661⟩, ⟨PyData.keyHash P "__new__", .str "__new__" 673, .ref 260⟩, ⟨PyData.keyHash P "__static_attributes__", .str "__static_attributes__" 674, .ref 257⟩, ⟨PyData.keyHash P "__dict__", .str "__dict__" 677, .ref 261⟩, ⟨PyData.keyHash P "__weakref__", .str "__weakref__" 679, .ref 262⟩, ⟨PyData.keyHash P "__doc__", .str "__doc__" 680, .none⟩] 4, #[]⟩) ::
  (nat_lit 259, ⟨.type "type", none, .cls ⟨"IOBase", [.type "object"], [.ref 259, .type "object"], 258, "IOBase", true, [], [.ref 274, .ref 286], false, none, false⟩, #[none, none, some (.str "IOBase" 651), some (.str "IOBase" 659), some (.none), some (.bool true)]⟩) ::
  (nat_lit 260, ⟨.type "staticmethod", none, .fields #[.ref 256], #[]⟩) ::
  (nat_lit 285, ⟨.type "dict", none, .dict #[⟨PyData.keyHash P "__module__", .str "__module__" 708, .str "io" 713⟩, ⟨PyData.keyHash P "__firstlineno__", .str "__firstlineno__" 712, .int (191) 711⟩, ⟨PyData.keyHash P "__static_attributes__", .str "__static_attributes__" 715, .ref 284⟩, ⟨PyData.keyHash P "__doc__", .str "__doc__" 716, .none⟩] 2, #[]⟩) ::
  (nat_lit 286, ⟨.type "type", none, .cls ⟨"TextIOBase", [.ref 259], [.ref 286, .ref 259, .type "object"], 285, "TextIOBase", true, [], [.ref 763], false, none, false⟩, #[some (.ref 277), none, some (.str "TextIOBase" 701), some (.str "TextIOBase" 709), some (.none), some (.bool true)]⟩) ::
  (nat_lit 516, ⟨.type "type", none, .cls ⟨"BytesIO", [.ref 274], [.ref 516, .ref 274, .ref 259, .type "object"], 515, "BytesIO", true, [], [], false, none, false⟩, #[some (.ref 289), none, some (.str "BytesIO" 719), some (.str "BytesIO" 727), some (.none), some (.bool true)]⟩) ::
  (nat_lit 526, ⟨.type "tuple", none, .seq #[.str "" 995, .str "\n" 996] 0, #[]⟩) ::
  (nat_lit 532, ⟨.type "code", none, .fields #[.str "__init__" 997, .str "StringIO.__init__" 998, .str "/claim/cut.py" 999, .int (366) 0, .int (3) 0, .int (0) 0, .int (0) 0, .int (3) 0, .ref 527, .bool true, .int (318) 0, .ref 528, .none, .ref 529, .ref 530, .ref 531, .int (1003) 0, .int (366) 0, .str "/claim/cut.py" 1004], #[]⟩) ::
  (nat_lit 533, mkF (.type "function") none 37 1 "__init__" "StringIO.__init__" ⟨_, _, _, _, _, _, _⟩ (_ :: _ :: _ :: _ :: _ :: _ :: _ :: []) ⟨_, _, _, _, _⟩ rfl (.ref 526) (.none) (.none) (.str "io" 611) none (.ref 532) (.none) #[]) ::
  (nat_lit 539, ⟨.type "code", none, .fields #[.str "__translated" 1006, .str "StringIO.__translated" 1007, .str "/claim/cut.py" 1008, .int (379) 0, .int (2) 0, .int (0) 0, .int (0) 0, .int (3) 0, .ref 534, .bool true, .int (318) 0, .ref 535, .none, .ref 536, .ref 537, .ref 538, .int (1012) 0, .int (379) 0, .str "/claim/cut.py" 1013], #[]⟩) ::
  (nat_lit 540, mkF (.type "function") none 37 2 "__translated" "StringIO.__translated" ⟨_, _, _, _, _, _, _⟩ (_ :: _ :: _ :: _ :: []) ⟨_, _, _, _, _⟩ rfl (.none) (.none) (.none) (.str "io" 611) none (.ref 539) (.none) #[]) ::
  (nat_lit 546, ⟨.type "code", none, .fields #[.str "__check" 1015, .str "StringIO.__check" 1016, .str "/claim/cut.py" 1017, .int (387) 0, .int (1) 0, .int (0) 0, .int (0) 0, .int (3) 0, .ref 541, .bool true, .int (318) 0, .ref 542, .none, .ref 543, .ref 544, .ref 545, .int (1019) 0, .int (387) 0, .str "/claim/cut.py" 1020], #[]⟩) ::
  (nat_lit 547, mkF (.type "function") none 37 3 "__check" "StringIO.__check" ⟨_, _, _, _, _, _, _⟩ (_ :: []) ⟨_, _, _, _, _⟩ rfl (.none) (.none) (.none) (.str "io" 611) none (.ref 546) (.none) #[]) ::
  (nat_lit 702, ⟨.type "tuple", none, .seq #[.int (-1) 1188] 0, #[]⟩) ::
  (nat_lit 708, ⟨.type "code", none, .fields #[.str "read" 1189, .str "StringIO.read" 1190, .str "/claim/cut.py" 1191, .int (509) 0, .int (2) 0, .int (2) 0, .int (0) 0, .int (3) 0, .ref 703, .bool true, .int (318) 0, .ref 704, .none, .ref 705, .ref 706, .ref 707, .int (1196) 0, .int (509) 0, .str "/claim/cut.py" 1197], #[]⟩) ::
  (nat_lit 709, mkF (.type "function") none 37 25 "read" "StringIO.read" ⟨_, _, _, _, _, _, _⟩ (_ :: _ :: _ :: _ :: _ :: _ :: _ :: _ :: _ :: []) ⟨_, _, _, _, _⟩ rfl (.ref 702) (.none) (.none) (.str "io" 611) none (.ref 708) (.none) #[]) ::
  (nat_lit 762, ⟨.type "dict", none, .dict #[⟨PyData.keyHash P "__module__", .str "__module__" 988, .str "_io" 993⟩, ⟨PyData.keyHash P "__firstlineno__", .str "__firstlineno__" 992, .int (363) 991⟩, ⟨PyData.keyHash P "__init__", .str "__init__" 1005, .ref 533⟩, ⟨PyData.keyHash P "_StringIO__translated", .str "_StringIO__translated" 1014, .ref 540⟩, ⟨PyData.keyHash P "_StringIO__check", .str "_StringIO__check" 1021, .ref 547⟩, ⟨PyData.keyHash P "_StringIO__check_dot", .str "_StringIO__check_dot" 1028, .ref 554⟩, ⟨PyData.keyHash P "_StringIO__line", .str "_StringIO__line" 1043, .ref 561⟩, ⟨PyData.keyHash P "closed", .str "closed" 1051, .ref 569⟩, ⟨PyData.keyHash P "line_buffering", .str "line_buffering" 1059, .ref 577⟩, ⟨PyData.keyHash P "newlines", .str "newlines" 1067, .ref 585⟩, ⟨PyData.keyHash P "encoding", .str "encoding" 1075, .ref 593⟩, ⟨PyData.keyHash P "errors", .str "errors" 1083, .ref 601⟩, ⟨PyData.keyHash P "close", .str "close" 1090, .ref 608⟩, ⟨PyData.keyHash P "__enter__", .str "__enter__" 1097, .ref 615⟩, ⟨PyData.keyHash P "__exit__", .str "__exit__" 1105, .ref 622⟩, ⟨PyData.keyHash P "readable", .str "readable" 1112, .ref 629⟩, ⟨PyData.keyHash P "writable", .str "writable" 1119, .ref 636⟩, ⟨PyData.keyHash P "seekable", .str "seekable" 1126, .ref 643⟩, ⟨PyData.keyHash P "isatty", .str "isatty" 1133, .ref 650⟩, ⟨PyData.keyHash P "flush", .str "flush" 1140, .ref 657⟩, ⟨PyData.keyHash P "fileno", .str "fileno" 1147, .ref 664⟩, ⟨PyData.keyHash P "detach", .str "detach" 1154, .ref 671⟩, ⟨PyData.keyHash P "getvalue", .str "getvalue" 1161, .ref 678⟩, ⟨PyData.keyHash P "tell", .str "tell" 1168, .ref 685⟩, ⟨PyData.keyHash P "seek", .str "seek" 1178, .ref 693⟩, ⟨PyData.keyHash P "truncate", .str "truncate" 1186, .ref 701⟩, ⟨PyData.keyHash P "read", .str "read" 1198, .ref 709⟩, ⟨PyData.keyHash P "readline", .str "readline" 1208, .ref 717⟩, ⟨PyData.keyHash P "readlines", .str "readlines" 1218, .ref 725⟩, ⟨PyData.keyHash P "__iter__", .str "__iter__" 1225, .ref 732⟩, ⟨PyData.keyHash P "__next__", .str "__next__" 1233, .ref 739⟩, ⟨PyData.keyHash P "write", .str "write" 1245, .ref 746⟩, ⟨PyData.keyHash P "writelines", .str "writelines" 1253, .ref 753⟩, ⟨PyData.keyHash P "__repr__", .str "__repr__" 1260, .ref 760⟩, ⟨PyData.keyHash P "__static_attributes__", .str "__static_attributes__" 1264, .ref 761⟩, ⟨PyData.keyHash P "__doc__", .str "__doc__" 1265, .none⟩] 2, #[]⟩) ::
  (nat_lit 763, ⟨.type "type", none, .cls ⟨"StringIO", [.ref 286], [.ref 763, .ref 286, .ref 259, .type "object"], 762, "StringIO", true, [], [], false, none, false⟩, #[some (.ref 519), none, some (.str "StringIO" 981), some (.str "StringIO" 989), some (.none), some (.bool true)]⟩) ::
  (nat_lit 815, ⟨.type "tuple", none, .seq #[.none, .none, .bool false, .bool false] 0, #[]⟩) ::
  (nat_lit 821, ⟨.type "code", none, .fields #[.str "__init__" 1343, .str "shlex.__init__" 1344, .str "/claim/cut.py" 1345, .int (637) 0, .int (5) 0, .int (0) 0, .int (0) 0, .int (3) 0, .ref 816, .bool true, .int (318) 0, .ref 817, .none, .ref 818, .ref 819, .ref 820, .int (1352) 0, .int (637) 0, .str "/claim/cut.py" 1353], #[]⟩) ::
  (nat_lit 822, mkF (.type "function") none 49 0 "__init__" "shlex.__init__" ⟨_, _, _, _, _, _, _⟩ (_ :: _ :: _ :: _ :: _ :: _ :: _ :: _ :: _ :: _ :: _ :: _ :: _ :: _ :: _ :: _ :: _ :: _ :: _ :: _ :: _ :: _ :: []) ⟨_, _, _, _, _⟩ rfl (.ref 815) (.none) (.none) (.str "cpy313.shlex" 1329) none (.ref 821) (.none) #[]) ::
  (nat_lit 828, ⟨.type "code", none, .fields #[.str "punctuation_chars" 1355, .str "shlex.punctuation_chars" 1356, .str "/claim/cut.py" 1357, .int (678) 0, .int (1) 0, .int (0) 0, .int (0) 0, .int (3) 0, .ref 823, .bool true, .int (318) 0, .ref 824, .none, .ref 825, .ref 826, .ref 827, .int (1359) 0, .int (678) 0, .str "/claim/cut.py" 1360], #[]⟩) ::
  (nat_lit 829, mkF (.type "function") none 49 1 "punctuation_chars" "shlex.punctuation_chars" ⟨_, _, _, _, _, _, _⟩ (_ :: []) ⟨_, _, _, _, _⟩ rfl (.none) (.none) (.none) (.str "cpy313.shlex" 1329) none (.ref 828) (.none) #[]) ::
  (nat_lit 830, ⟨.type "property", none, .fields #[.ref 829, .none, .none, .none, .str "punctuation_chars" 1362, .bool false], #[]⟩) ::
  (nat_lit 858, ⟨.type "code", none, .fields #[.str "get_token" 1387, .str "shlex.get_token" 1388, .str "/claim/cut.py" 1389, .int (705) 0, .int (1) 0, .int (0) 0, .int (0) 0, .int (3) 0, .ref 853, .bool true, .int (318) 0, .ref 854, .none, .ref 855, .ref 856, .ref 857, .int (1396) 0, .int (705) 0, .str "/claim/cut.py" 1397], #[]⟩) ::
  (nat_lit 859, mkF (.type "function") none 49 5 "get_token" "shlex.get_token" ⟨_, _, _, _, _, _, _⟩ (_ :: _ :: _ :: _ :: _ :: _ :: []) ⟨_, _, _, _, _⟩ rfl (.none) (.none) (.none) (.str "cpy313.shlex" 1329) none (.ref 858) (.none) #[]) ::
  (nat_lit 865, ⟨.type "code", none, .fields #[.str "read_token" 1399, .str "shlex.read_token" 1400, .str "/claim/cut.py" 1401, .int (732) 0, .int (1) 0, .int (0) 0, .int (0) 0, .int (3) 0, .ref 860, .bool true, .int (318) 0, .ref 861, .none, .ref 862, .ref 863, .ref 864, .int (1407) 0, .int (732) 0, .str "/claim/cut.py" 1408], #[]⟩) ::
  (nat_lit 866, mkF (.type "function") none 49 6 "read_token" "shlex.read_token" ⟨_, _, _, _, _, _, _⟩ (_ :: _ :: _ :: _ :: _ :: _ :: _ :: _ :: []) ⟨_, _, _, _, _⟩ rfl (.none) (.none) (.none) (.str "cpy313.shlex" 1329) none (.ref 865) (.none) #[]) ::
  (nat_lit 887, ⟨.type "code", none, .fields #[.str "__iter__" 1427, .str "shlex.__iter__" 1428, .str "/claim/cut.py" 1429, .int (879) 0, .int (1) 0, .int (0) 0, .int (0) 0, .int (3) 0, .ref 882, .bool true, .int (318) 0, .ref 883, .none, .ref 884, .ref 885, .ref 886, .int (1431) 0, .int (879) 0, .str "/claim/cut.py" 1432], #[]⟩) ::
  (nat_lit 888, mkF (.type "function") none 49 9 "__iter__" "shlex.__iter__" ⟨_, _, _, _, _, _, _⟩ (_ :: []) ⟨_, _, _, _, _⟩ rfl (.none) (.none) (.none) (.str "cpy313.shlex" 1329) none (.ref 887) (.none) #[]) ::
  (nat_lit 894, ⟨.type "code", none, .fields #[.str "__next__" 1434, .str "shlex.__next__" 1435, .str "/claim/cut.py" 1436, .int (882) 0, .int (1) 0, .int (0) 0, .int (0) 0, .int (3) 0, .ref 889, .bool true, .int (318) 0, .ref 890, .none, .ref 891, .ref 892, .ref 893, .int (1439) 0, .int (882) 0, .str "/claim/cut.py" 1440], #[]⟩) ::
  (nat_lit 895, mkF (.type "function") none 49 10 "__next__" "shlex.__next__" ⟨_, _, _, _, _, _, _⟩ (_ :: _ :: _ :: []) ⟨_, _, _, _, _⟩ rfl (.none) (.none) (.none) (.str "cpy313.shlex" 1329) none (.ref 894) (.none) #[]) ::
  (nat_lit 897, ⟨.type "dict", none, .dict #[⟨PyData.keyHash P "__module__", .str "__module__" 1338, .str "cpy313.shlex" 1329⟩, ⟨PyData.keyHash P "__firstlineno__", .str "__firstlineno__" 1342, .int (635) 1341⟩, ⟨PyData.keyHash P "__init__", .str "__init__" 1354, .ref 822⟩, ⟨PyData.keyHash P "punctuation_chars", .str "punctuation_chars" 1362, .ref 830⟩, ⟨PyData.keyHash P "push_token", .str "push_token" 1370, .ref 837⟩, ⟨PyData.keyHash P "push_source", .str "push_source" 1379, .ref 845⟩, ⟨PyData.keyHash P "pop_source", .str "pop_source" 1386, .ref 852⟩, ⟨PyData.keyHash P "get_token", .str "get_token" 1398, .ref 859⟩, ⟨PyData.keyHash P "read_token", .str "read_token" 1409, .ref 866⟩, ⟨PyData.keyHash P "sourcehook", .str "sourcehook" 1417, .ref 873⟩, ⟨PyData.keyHash P "error_leader", .str "error_leader" 1426, .ref 881⟩, ⟨PyData.keyHash P "__iter__", .str "__iter__" 1433, .ref 888⟩, ⟨PyData.keyHash P "__next__", .str "__next__" 1441, .ref 895⟩, ⟨PyData.keyHash P "__static_attributes__", .str "__static_attributes__" 1462, .ref 896⟩, ⟨PyData.keyHash P "__dict__", .str "__dict__" 1464, .ref 899⟩, ⟨PyData.keyHash P "__weakref__", .str "__weakref__" 1466, .ref 900⟩, ⟨PyData.keyHash P "__doc__", .str "__doc__" 1467, .none⟩] 4, #[]⟩) ::
  (nat_lit 898, ⟨.type "type", none, .cls ⟨"shlex", [.type "object"], [.ref 898, .type "object"], 897, "shlex", true, [], [], false, none, false⟩, #[none, none, some (.str "shlex" 1331), some (.str "shlex" 1339), some (.builtin "object.__new__"), some (.bool true)]⟩) ::
  (nat_lit 903, ⟨.type "tuple", none, .seq #[.bool false, .bool true] 0, #[]⟩) ::
  (nat_lit 909, ⟨.type "code", none, .fields #[.str "split" 1470, .str "split" 1471, .str "/claim/cut.py" 1472, .int (887) 0, .int (3) 0, .int (0) 0, .int (0) 0, .int (3) 0, .ref 904, .bool true, .int (318) 0, .ref 905, .none, .ref 906, .ref 907, .ref 908, .int (1477) 0, .int (887) 0, .str "/claim/cut.py" 1478], #[]⟩) ::
  (nat_lit 910, mkF (.type "function") none 50 1000 "split" "split" ⟨_, _, _, _, _, _, _⟩ (_ :: _ :: _ :: _ :: _ :: []) ⟨_, _, _, _, _⟩ rfl (.ref 903) (.none) (.none) (.str "cpy313.shlex" 1329) none (.ref 909) (.none) #[]) ::
  (nat_lit 911, ⟨.type "builtin_function_or_method", none, .fields #[.builtin "re.Pattern.search", .ref 215], #[]⟩) ::
  (nat_lit 917, ⟨.type "code", none, .fields #[.str "quote" 1482, .str "quote" 1483, .str "/claim/cut.py" 1484, .int (896) 0, .int (1) 0, .int (0) 0, .int (0) 0, .int (3) 0, .ref 912, .bool true, .int (318) 0, .ref 913, .none, .ref 914, .ref 915, .ref 916, .int (1486) 0, .int (896) 0, .str "/claim/cut.py" 1487], #[]⟩) ::
  (nat_lit 918, mkF (.type "function") none 52 1000 "quote" "quote" ⟨_, _, _, _, _, _, _⟩ (_ :: _ :: _ :: []) ⟨_, _, _, _, _⟩ rfl (.none) (.none) (.none) (.str "cpy313.shlex" 1329) none (.ref 917) (.none) #[]) ::
  (nat_lit 922, ⟨.type "code", none, .fields #[.str "_law_line" 1491, .str "_law_line" 1492, .str "/claim/cut.py" 1493, .int (903) 0, .int (1) 0, .int (0) 0, .int (0) 0, .int (3) 0, .ref 919, .bool true, .int (318) 0, .ref 920, .none, .none, .none, .ref 921, .int (1494) 0, .int (903) 0, .str "/claim/cut.py" 1495], #[]⟩) ::
  (nat_lit 923, mkF (.type "function") none 54 1000 "_law_line" "_law_line" ⟨_, _, _, _, _, _, _⟩ (_ :: []) ⟨_, _, _, _, _⟩ rfl (.none) (.none) (.none) (.str "law_ij0222_01" 1489) none (.ref 922) (.none) #[]) ::
  (nat_lit 927, ⟨.type "code", none, .fields #[.str "_law_names" 1497, .str "_law_names" 1498, .str "/claim/cut.py" 1499, .int (905) 0, .int (1) 0, .int (0) 0, .int (0) 0, .int (3) 0, .ref 924, .bool true, .int (318) 0, .ref 925, .none, .none, .none, .ref 926, .int (1500) 0, .int (905) 0, .str "/claim/cut.py" 1501], #[]⟩) ::
  (nat_lit 928, mkF (.type "function") none 55 1000 "_law_names" "_law_names" ⟨_, _, _, _, _, _, _⟩ (_ :: []) ⟨_, _, _, _, _⟩ rfl (.none) (.none) (.none) (.str "law_ij0222_01" 1489) none (.ref 927) (.none) #[]) ::
  (nat_lit 932, ⟨.type "code", none, .fields #[.str "_law_walk" 1503, .str "_law_walk" 1504, .str "/claim/cut.py" 1505, .int (907) 0, .int (3) 0, .int (0) 0, .int (0) 0, .int (3) 0, .ref 929, .bool true, .int (318) 0, .ref 930, .none, .none, .none, .ref 931, .int (1506) 0, .int (907) 0, .str "/claim/cut.py" 1507], #[]⟩) ::
  (nat_lit 933, mkF (.type "function") none 56 1000 "_law_walk" "_law_walk" ⟨_, _, _, _, _, _, _⟩ (_ :: _ :: _ :: []) ⟨_, _, _, _, _⟩ rfl (.none) (.none) (.none) (.str "law_ij0222_01" 1489) none (.ref 932) (.none) #[]) ::
  (nat_lit 937, ⟨.type "code", none, .fields #[.str "law" 1509, .str "law" 1510, .str "/claim/cut.py" 1511, .int (912) 0, .int (1) 0, .int (0) 0, .int (0) 0, .int (3) 0, .ref 934, .bool true, .int (318) 0, .ref 935, .none, .none, .none, .ref 936, .int (1512) 0, .int (912) 0, .str "/claim/cut.py" 1513], #[]⟩) ::
  (nat_lit 938, mkF (.type "function") none 57 1000 "law" "law" ⟨_, _, _, _, _, _, _⟩ (_ :: _ :: _ :: _ :: _ :: _ :: _ :: _ :: _ :: _ :: _ :: _ :: _ :: _ :: _ :: _ :: []) ⟨_, _, _, _, _⟩ rfl (.none) (.none) (.none) (.str "law_ij0222_01" 1489) none (.ref 937) (.none) #[]) ::
  []
noncomputable def Kas : List Addr := [2, 3, 58, 59, 65, 66, 72, 73, 76, 77, 78, 79, 87, 88, 160, 161, 174, 175, 181, 182, 188, 189, 195, 196, 202, 203, 209, 210, 214, 215, 228, 229, 255, 256, 258, 259, 260, 285, 286, 516, 526, 532, 533, 539, 540, 546, 547, 702, 708, 709, 762, 763, 815, 821, 822, 828, 829, 830, 858, 859, 865, 866, 887, 888, 894, 895, 897, 898, 903, 909, 910, 911, 917, 918, 922, 923, 927, 928, 932, 933, 937, 938]
theorem lt3c : ∀ i, i < 3 → i = 0 ∨ i = 1 ∨ i = 2 := by decide
theorem lt5c : ∀ i, i < 5 → i = 0 ∨ i = 1 ∨ i = 2 ∨ i = 3 ∨ i = 4 := by decide
theorem lt3y {i : Nat} {y : Int} (h1 : y ≤ 2) (hi : i < (1 + y).toNat) : i = 0 ∨ i = 1 ∨ i = 2 := lt3c i (Nat.lt_of_lt_of_le hi (Int.toNat_le.mpr (Int.add_le_add_left h1 1)))
theorem fmc {α : Type} {p : α → Prop} {a : α} {r : List α} (h : p a) (t : ∀ x ∈ r, p x) : ∀ x ∈ a :: r, p x := List.forall_mem_cons.mpr ⟨h, t⟩
theorem execs_one {M : Model} {A : Around} {st : Stmt} {env : Env} {E : Value → Shared → Prop} {s : Shared} {Q : Flow → Shared → Prop} (h : wpAny M A (exec st env) Q E s) : wpAny M A (execs [st] env) Q E s :=
  wpAny_execs_cons (wpAny_mono h (fun f s' hq => by cases f <;> first | exact wpAny_execs_nil hq | exact hq) fun _ _ e => e)
theorem execs_let {M : Model} {A : Around} {st : Stmt} {rest : List Stmt} {env : Env} {E : Value → Shared → Prop} {s : Shared} {Q : Flow → Shared → Prop}
    (h : let C : Flow → Shared → Prop := fun f s' => match f with | .next => wpAny M A (execs rest env) Q E s' | f => Q f s'; wpAny M A (exec st env) C E s) : wpAny M A (execs (st :: rest) env) Q E s := wpAny_execs_cons h
end Mine
end
section
open PySem PySem.W PySem.Calls PySem.Spec PyProof.Rows
local macro_rules | `(tactic| cell_enter) => `(tactic| (refine' code_def ?k1 ?k2 ?k3 ?k4 ?k5 ?kA ?kF ?kK ?k6 ?k7 ?k8 ?k9 ?kB ?_ ?c2 ?c3 ?c4 ?c5; (case kA => exact rfl); (case kF => exact rfl); (case kK => first | exact rfl | assumption); (case k1 => k_asm); (case k2 => k_asm); (case k3 => k_asm); (case k4 => k_asm); (case k5 => k_asm); (case k6 => k_is); (case k7 => k_is); (case k8 => ktr_room); (case k9 => first | exact BindsTo.of_eq rfl | exact binds_K (by k_in) rfl (by k_is) rfl rfl rfl | fail "binds"); (case c5 => decide); (case kB => exact locs rfl); (case c2 => exact rfl); (case c3 => exact rfl); (case c4 => exact rfl); k_whole; intro g' L' h' FG' F' N' B' X' T'; (try dsimp only); (try k_lift B'); (try k_fold)))
local macro_rules | `(tactic| ktr_room) => `(tactic| first | (dsimp only [depth_under_make, depth_under_kw, depth_in1, depth_deeper, depth_caller, ktrTop]; (try simp only [Nat.add_assoc, Nat.reduceAdd]); refine Nat.lt_of_le_of_lt ?_ (by assumption); first | exact Nat.add_le_add_left (by decide) _ | exact Nat.le_add_right _ _) | ((try simp only [depth_under_make, depth_under_kw, depth_in1, depth_deeper, depth_caller]); (try dsimp only [ktrTop]); omega))
local macro_rules | `(tactic| k_room) => `(tactic| ktr_room)
local macro_rules | `(tactic| ktr_units) => `(tactic| (dsimp only [units_in1, units_deeper, Around.mark_units, units_caller, ktrTop]; (try simp only [Nat.add_assoc, Nat.reduceAdd]); refine Nat.lt_of_le_of_lt ?_ (by assumption); first | exact Nat.add_le_add_left (by decide) _ | exact Nat.le_add_right _ _))
local macro_rules | `(tactic| k_units) => `(tactic| ktr_units)
local macro_rules | `(tactic| k_all) => `(tactic| assumption)
local macro_rules | `(tactic| k_all) => `(tactic| k_extra "zz k_all")
local macro_rules | `(tactic| k_ne) => `(tactic| k_extra "zz k_ne")
section
open PySem PySem.W PySem.Calls PySem.Spec PyProof.Rows
namespace Mine
theorem kw_W1_1 : True := by
  k_with_none
  k_with "execs cons" => (first | (k_here; k_gentoks) | (refine' execs_one ?_) | (refine' execs_let ?_; intro Cq9))
  trivial
abbrev RR := PySem.Challenge.rw_ij0222_01
noncomputable abbrev E1 (P : Params) (name : String) (t : Tok) (v : Value) : DictEntry := ⟨PyData.keyHash P (Str.ofString name), .str (Str.ofString name) t, v⟩
noncomputable abbrev ioD (P : Params) (τ : Nat → Tok) (buf : Str) (pos : Int) : List DictEntry :=
  [E1 P "_StringIO__newline" (τ 0) (.str (Str.ofString "\n") (τ 1)), E1 P "_StringIO__buf" (τ 2) (.str buf (τ 3)), E1 P "_StringIO__pos" (τ 4) (.int pos (τ 5))]
noncomputable abbrev ioLed (P : Params) (io dio : Addr) (υ : Nat → Tok) (buf : Str) (pos : Int) (rest : List (Addr × Obj)) : List (Addr × Obj) :=
  (io, instObj 763 dio) :: (dio, dictOf (ioD P υ buf pos) 3) :: rest
theorem toList_append (a b : Str) : (a ++ b).cps.toList = a.cps.toList ++ b.cps.toList := by
  show (a.cps ++ b.cps).toList = _
  simp
open PySem.Builtin PySem.Builtin.Str in
theorem slice_front (x : Str) (b : Nat) : Txt.slice (x ++ Str.ofString " ") none (some (-1)) = x := by
  have e : (x ++ Str.ofString " ").length = x.length + 1 := by
    show (x.cps ++ (Str.ofString " ").cps).size = _
    rw [Array.size_append]; rfl
  have q : Txt.slice (x ++ Str.ofString " ") none (some (-1)) = StrLaws.sliceText (x ++ Str.ofString " ") (some ((0 : Nat) : Int)) (some ((x.length : Nat) : Int)) := by
    show StrLaws.sliceText _ none (some (-1)) = _
    unfold StrLaws.sliceText
    have i1 : strSliceIndices none (some (-1)) 1 (x ++ Str.ofString " ").length = strSliceIndices (some ((0 : Nat) : Int)) (some ((x.length : Nat) : Int)) 1 (x ++ Str.ofString " ").length := by
      rw [e, StrLaws.sliceIdx_none_lo, StrLaws.sliceIdx_neg_hi (some 0) (j := -1) (x.length + 1) (by decide) (Int.neg_le_neg (Int.ofNat_le.mpr (Nat.succ_le_succ (Nat.zero_le x.length)))), show (-1 + ((x.length + 1 : Nat) : Int)) = (x.length : Int) from by rw [Int.add_comm]; exact Int.add_sub_cancel (x.length : Int) 1]
      rfl
    rw [i1]
  rw [q, StrLaws.sliceText_nat _ (Nat.zero_le _) (by rw [e]; exact Nat.le_succ _)]
  apply Str.ext'
  apply Array.toList_inj.mp
  show List.take (x.length - 0) (List.drop 0 (x ++ Str.ofString " ").cps.toList) = x.cps.toList
  rw [toList_append, List.drop_zero, Nat.sub_zero]
  have : x.length = x.cps.toList.length := by simp [Str.length]
  rw [this, List.take_left]
theorem slice_one {x : Str} {pos : Int} {c : Nat} (h0 : 0 ≤ pos) (hc : x.cps.toList[pos.toNat]? = some c) : Txt.slice x (some pos) (some (pos + 1)) = ⟨#[c]⟩ := by
  obtain ⟨n, rfl⟩ := Int.eq_ofNat_of_zero_le h0
  have hlt : n < x.cps.toList.length := (List.getElem?_eq_some_iff.mp hc).1
  have hl : n + 1 ≤ x.length := by simp [Str.length] at hlt ⊢; omega
  show StrLaws.sliceText x (some (n : Int)) (some ((n : Int) + 1)) = _
  have : ((n : Int) + 1) = ((n + 1 : Nat) : Int) := by omega
  rw [this, StrLaws.sliceText_nat _ (Nat.le_succ n) hl]
  apply Str.ext'
  show (List.take (n + 1 - n) (List.drop n x.cps.toList)).toArray = #[c]
  have hd : List.drop n x.cps.toList = c :: List.drop (n + 1) x.cps.toList := by
    rw [List.drop_eq_getElem_cons hlt]
    congr 1
    have := List.getElem?_eq_some_iff.mp hc
    simpa using this.2
  rw [hd, Nat.add_sub_cancel_left]
  rfl
theorem pos_lt {x : Str} {pos : Int} {c : Nat} (h0 : 0 ≤ pos) (hc : x.cps.toList[pos.toNat]? = some c) : pos < (x.length : Int) := by
  have hlt := (List.getElem?_eq_some_iff.mp hc).1
  simp [Str.length] at hlt ⊢
  omega
theorem rd_val {x : Str} {pos : Int} {c : Nat} (h0 : 0 ≤ pos) (hc : x.cps.toList[pos.toNat]? = some c) : Txt.slice (Txt.slice x (some pos) (some (pos + 1)) ++ Str.ofString " ") none (some (-1)) = ⟨#[c]⟩ := by
  rw [slice_one h0 hc, slice_front _ 0]
theorem rd_val' {x : Str} {pos : Int} {c : Nat} (h0 : 0 ≤ pos) (hc : x.cps.toList[pos.toNat]? = some c) (h : ¬ pos + 1 < (x.length : Int)) : Txt.slice (Txt.slice x (some pos) (some (x.length : Int)) ++ Str.ofString " ") none (some (-1)) = ⟨#[c]⟩ := by
  have := pos_lt h0 hc
  have e : (x.length : Int) = pos + 1 := by omega
  rw [e, slice_one h0 hc, slice_front _ 0]
set_option maxRecDepth 100000 in
set_option maxHeartbeats 0 in
theorem rd : ∀ (w : World) (p : Program) (loose : List Str) (mean : ExcName → Option Value) (mg mb : Str → Option Value)
   (io dio : Addr) (υ : Nat → Tok) (buf : Str) (pos : Int) (c : Nat) (t7 : Tok) (rest : List (Addr × Obj)),
   (∀ q ∈ rest, q.1 ≠ dio) → io ≠ dio → 0 ≤ pos → buf.cps.toList[pos.toNat]? = some c → buf.length ≤ 1000000 →
   ∀ (dp un : Nat) (gd : Option (List Code)) (cn : Str) (cs : Scope) (a : Addr) (ccd : Value) (cl : List (Str × Addr)) (outer : List Env) (A₀ : Around) (base h₀ : Heap) (L : Addr) (m : Str → Option Value) (s : Shared) (Q : Value → Shared → Prop),
    Below A₀ base outer h₀ → Fr h₀ L s.heap m → (K w.params).In h₀ → News h₀ L s.heap (ioLed w.params io dio υ buf pos rest) → Top p loose mean mg mb h₀ → cs.kind = .function →
     dp + 3 < recursionLimit → un + 20 < cLine →
     (∀ (h' : Heap) (tk' : Nat) (t' : Tok) (υ' : Nat → Tok), Fr h₀ L h' m → News h₀ L h' (ioLed w.params io dio υ' buf (pos + 1) rest) →
        Q (.str ⟨#[c]⟩ t') { s with heap := h', toks := tk' }) →
     wpAny (model (OpenLaw.prog RR) w) (ktrTop dp un gd cn cs L a ccd cl outer) (call (.ref 709) [.ref io, .int 1 t7]) Q (fun _ _ => False) s := by
  k_fill
  intro w p loose mean mg mb io dio υ buf pos c t7 rest hr2 a5 hp0 hc hb dp un gd cn cs a ccd cl outer A₀ base h₀ L m s Q B F X N T hk hd hu hret
  have hp1 := pos_lt hp0 hc
  refine wpAny_call ?_
  k_dflt cell_enter
  k_steps
  · rw [rd_val hp0 hc]
    exact hret _ _ _ (fun | 0 => υ 0 | 1 => υ 1 | 2 => υ 2 | 3 => υ 3 | 4 => υ 4 | _ => _) (by assumption) (by assumption)
  · rw [rd_val' hp0 hc (by assumption)]
    have e9 : (buf.length : Int) = pos + 1 := by omega
    rename News _ _ _ _ => N9
    rw [e9] at N9
    exact hret _ _ _ (fun | 0 => υ 0 | 1 => υ 1 | 2 => υ 2 | 3 => υ 3 | 4 => υ 4 | _ => _) (by assumption) N9
end Mine
end
section
open PySem PySem.W PySem.Calls PySem.Spec PyProof.Rows
namespace Mine
theorem kw_W2_1 : True := by
  k_with_none
  k_with "execs cons" => (first | (k_here; k_gentoks) | (refine' execs_one ?_) | (refine' execs_let ?_; intro Cq9))
  trivial
noncomputable abbrev wchars : Str := Str.ofString "abcdfeghijklmnopqrstuvwxyzABCDEFGHIJKLMNOPQRSTUVWXYZ0123456789_ßàáâãäåæçèéêëìíîïðñòóôõöøùúûüýþÿÀÁÂÃÄÅÆÇÈÉÊËÌÍÎÏÐÑÒÓÔÕÖØÙÚÛÜÝÞ"
noncomputable abbrev lexE (P : Params) (t0 t1 t2 t3 t4 t5 t6 t7 t8 t9 t10 t11 t12 t13 t14 t15 t16 t17 t18 t19 t20 t21 t22 t23 t24 t25 t26 t27 t28 : Tok) (io pb fs : Addr) (st : Value) (ln : Int) (tok : Str) : List DictEntry :=
  [E1 P "instream" t0 (.ref io), E1 P "infile" t1 .none, E1 P "posix" t2 (.bool true), E1 P "eof" t3 .none, E1 P "commenters" t4 (.str (Str.ofString "") t5), E1 P "wordchars" t6 (.str wchars t7), E1 P "whitespace" t8 (.str (Str.ofString " \t\r\n") t9), E1 P "whitespace_split" t10 (.bool true), E1 P "quotes" t11 (.str (Str.ofString "'\"") t12), E1 P "escape" t13 (.str (Str.ofString "\\") t14), E1 P "escapedquotes" t15 (.str (Str.ofString "\"") t16), E1 P "state" t17 st, E1 P "pushback" t18 (.ref pb), E1 P "lineno" t19 (.int ln t20), E1 P "debug" t21 (.int 0 t22), E1 P "token" t23 (.str tok t24), E1 P "filestack" t25 (.ref fs), E1 P "source" t26 .none, E1 P "_punctuation_chars" t27 (.str (Str.ofString "") t28)]
noncomputable abbrev lexD (P : Params) (τ : Nat → Tok) (io pb fs : Addr) (st : Value) (ln : Int) (tok : Str) : List DictEntry := lexE P (τ 0) (τ 1) (τ 2) (τ 3) (τ 4) (τ 5) (τ 6) (τ 7) (τ 8) (τ 9) (τ 10) (τ 11) (τ 12) (τ 13) (τ 14) (τ 15) (τ 16) (τ 17) (τ 18) (τ 19) (τ 20) (τ 21) (τ 22) (τ 23) (τ 24) (τ 25) (τ 26) (τ 27) (τ 28) io pb fs st ln tok
noncomputable abbrev lexLed (P : Params) (lex dx io dio pb fs : Addr) (τ υ : Nat → Tok) (st : Value) (ln : Int) (tok buf : Str) (pos : Int) (rest : List (Addr × Obj)) : List (Addr × Obj) :=
  ioLed P io dio υ buf pos ((lex, instObj 898 dx) :: (dx, dictOf (lexD P τ io pb fs st ln tok) 19) :: rest)
noncomputable abbrev mR (lex : Addr) (qd : Bool) (e : Str) (te : Tok) (nc : Option Value) : Str → Option Value := fun y => if y = ("nextchar" : Str) then nc else if y = ("escapedstate" : Str) then some (.str e te) else if y = ("quoted" : Str) then some (.bool qd) else if y = ("self" : Str) then some (.ref lex) else none
noncomputable abbrev isin (S : Str) (c : Nat) : Bool := !(Builtin.Str.occurrences S ⟨#[c]⟩ 0 S.length 1).isEmpty
theorem fr_eq {h₀ h : Heap} {L : Addr} {m m' : Str → Option Value} (F : Fr h₀ L h m) (e : m = m') : Fr h₀ L h m' := e ▸ F
theorem kw_W2_2 : True := by
  k_with "ite" => (first | (k_closed; first | refine ite_pos (by decide +kernel) ?_ | refine ite_neg (by decide +kernel) ?_) | refine ite_pos (by with_reducible assumption) ?_ | refine ite_neg (by with_reducible assumption) ?_ | refine ite_isFalse (by with_reducible assumption) ?_ | refine ite_isFalse (by exact rfl) ?_ | refine ite_pos (by exact rfl) ?_)
  k_with "call ref" => (k_here; (with_reducible show wpAny _ _ (call (Value.ref 709) [Value.ref _, Value.int _ _]) _ _ _); k_dflt (refine' rd _ _ _ _ _ _ _ _ _ _ _ _ _ _ ?q1q9 ?q2q9 ?q3q9 ?q4q9 ?q5q9 _ _ _ _ _ _ _ _ _ _ _ _ _ _ _ _ ?k1q9 ?k2q9 ?k3q9 ?k4q9 ?k5q9 ?kKq9 ?kdq9 ?kuq9 ?kRq9; (case k1q9 => k_asm); (case k2q9 => k_asm); (case k3q9 => k_asm); (case k4q9 => k_asm); (case k5q9 => k_asm); (case kKq9 => first | exact rfl | assumption); (case q1q9 => k_all); (case q2q9 => first | assumption | k_ne); (case q3q9 => assumption); (case q4q9 => assumption); (case q5q9 => assumption); (case kdq9 => k_room); (case kuq9 => ktr_units)); intro h'q9 tk'q9 t'q9 υ' F'q9 N'q9; (try dsimp only); (try k_sweep); walk_say "READ")
  trivial
noncomputable def rtF : {x : Arguments × List Stmt × Scope // fnAt 49 6 = some x} := ⟨(⟨_, _, _, _, _, _, _⟩, _ :: _ :: _ :: _ :: _ :: _ :: _ :: _ :: [], ⟨_, _, _, _, _⟩), rfl⟩
noncomputable def whOf (i j k : Nat) : Option (PySem.Expr × List Stmt) := match fnAt i j with
  | some (_, b, _) => (match b[k]? with
    | some (.While t b _ _) => some (t, b)
    | _ => none)
  | none => none
noncomputable def rtW : {x : PySem.Expr × List Stmt // whOf 49 6 2 = some x} := ⟨(_, _ :: _ :: _ :: _ :: []), rfl⟩
noncomputable abbrev rtEnv (L : Addr) : Env := envOf (Str.ofString "shlex.read_token") rtF.1.2.2 L 866 (.ref 865)
structure Lx where
  lex : Addr
  dx : Addr
  io : Addr
  dio : Addr
  pb : Addr
  fs : Addr
  rest : List (Addr × Obj)
  buf : Str
structure Lx.Ok (x : Lx) : Prop where
  r1 : ∀ q ∈ x.rest, q.1 ≠ x.dx
  r2 : ∀ q ∈ x.rest, q.1 ≠ x.dio
  a1 : x.lex ≠ x.dx
  a2 : x.io ≠ x.dx
  a3 : x.dio ≠ x.dx
  a4 : x.lex ≠ x.dio
  a5 : x.io ≠ x.dio
  a6 : x.dx ≠ x.dio
  fits : x.buf.length ≤ 1000000
noncomputable def stV (st : Option Str) (ts : Tok) : Value := match st with
  | some v => .str v ts
  | none => .none
noncomputable def RtAt (w : World) (x : Lx) (h₀ : Heap) (L : Addr) (qd : Bool) (st : Option Str) (tok : Str) (pos : Int) (h : Heap) : Prop :=
  ∃ τ υ ts te nc ln, Fr h₀ L h (mR x.lex qd (Str.ofString " ") te nc) ∧ News h₀ L h (lexLed w.params x.lex x.dx x.io x.dio x.pb x.fs τ υ (stV st ts) ln tok x.buf pos x.rest)
theorem rtAt_mk {w : World} {x : Lx} {h₀ : Heap} {L : Addr} {qd : Bool} {st : Option Str} {tok : Str} {pos : Int} {h : Heap} {t0 t1 t2 t3 t4 t5 t6 t7 t8 t9 t10 t11 t12 t13 t14 t15 t16 t17 t18 t19 t20 t21 t22 t23 t24 t25 t26 t27 t28 : Tok} {υ : Nat → Tok} {ts te : Tok} {ln : Int} {m : Str → Option Value}
    (F : Fr h₀ L h m) (N : News h₀ L h (ioLed w.params x.io x.dio υ x.buf pos ((x.lex, instObj 898 x.dx) :: (x.dx, dictOf (lexE w.params t0 t1 t2 t3 t4 t5 t6 t7 t8 t9 t10 t11 t12 t13 t14 t15 t16 t17 t18 t19 t20 t21 t22 t23 t24 t25 t26 t27 t28 x.io x.pb x.fs (stV st ts) ln tok) 19) :: x.rest)))
    (e : ∀ y, m y = mR x.lex qd (Str.ofString " ") te (m "nextchar") y) : RtAt w x h₀ L qd st tok pos h :=
  ⟨fun | 0 => t0 | 1 => t1 | 2 => t2 | 3 => t3 | 4 => t4 | 5 => t5 | 6 => t6 | 7 => t7 | 8 => t8 | 9 => t9 | 10 => t10 | 11 => t11 | 12 => t12 | 13 => t13 | 14 => t14 | 15 => t15 | 16 => t16 | 17 => t17 | 18 => t18 | 19 => t19 | 20 => t20 | 21 => t21 | 22 => t22 | 23 => t23 | 24 => t24 | 25 => t25 | 26 => t26 | 27 => t27 | _ => t28, υ, ts, te, m "nextchar", ln, fr_eq F (funext e), N⟩
noncomputable def RtN (w : World) (x : Lx) (h₀ : Heap) (L : Addr) (qd : Bool) (st : Option Str) (tok : Str) (pos : Int) (nc : Option Value) (h : Heap) : Prop :=
  ∃ τ υ ts te ln, Fr h₀ L h (mR x.lex qd (Str.ofString " ") te nc) ∧ News h₀ L h (lexLed w.params x.lex x.dx x.io x.dio x.pb x.fs τ υ (stV st ts) ln tok x.buf pos x.rest)
theorem rtN_mk {w : World} {x : Lx} {h₀ : Heap} {L : Addr} {qd : Bool} {st : Option Str} {tok : Str} {pos : Int} {h : Heap} {t0 t1 t2 t3 t4 t5 t6 t7 t8 t9 t10 t11 t12 t13 t14 t15 t16 t17 t18 t19 t20 t21 t22 t23 t24 t25 t26 t27 t28 : Tok} {υ : Nat → Tok} {ts te : Tok} {ln : Int} {m : Str → Option Value}
    (F : Fr h₀ L h m) (N : News h₀ L h (ioLed w.params x.io x.dio υ x.buf pos ((x.lex, instObj 898 x.dx) :: (x.dx, dictOf (lexE w.params t0 t1 t2 t3 t4 t5 t6 t7 t8 t9 t10 t11 t12 t13 t14 t15 t16 t17 t18 t19 t20 t21 t22 t23 t24 t25 t26 t27 t28 x.io x.pb x.fs (stV st ts) ln tok) 19) :: x.rest)))
    (e : ∀ y, m y = mR x.lex qd (Str.ofString " ") te (m "nextchar") y) : RtN w x h₀ L qd st tok pos (m "nextchar") h :=
  ⟨fun | 0 => t0 | 1 => t1 | 2 => t2 | 3 => t3 | 4 => t4 | 5 => t5 | 6 => t6 | 7 => t7 | 8 => t8 | 9 => t9 | 10 => t10 | 11 => t11 | 12 => t12 | 13 => t13 | 14 => t14 | 15 => t15 | 16 => t16 | 17 => t17 | 18 => t18 | 19 => t19 | 20 => t20 | 21 => t21 | 22 => t22 | 23 => t23 | 24 => t24 | 25 => t25 | 26 => t26 | 27 => t27 | _ => t28, υ, ts, te, ln, fr_eq F (funext e), N⟩
set_option maxRecDepth 100000 in
set_option maxHeartbeats 0 in
theorem preC (w : World) (p : Program) (loose : List Str) (mean : ExcName → Option Value) (mg mb : Str → Option Value) (x : Lx) (ok : x.Ok)
    (dp un : Nat) (gd : Option (List Code)) (outer : List Env) (A₀ : Around) (base h₀ : Heap) (L : Addr) (s : Shared) (P : Flow → Shared → Prop)
    (B : Below A₀ base outer h₀) (X : (K w.params).In h₀) (T : Top p loose mean mg mb h₀) (hd : dp + 20 < recursionLimit) (hu : un + 100 < cLine)
    (qd : Bool) (tok : Str) (pos : Int) (htok : tok.length ≤ 100000) (hp : 0 ≤ pos)
    (c : Nat) (hc : x.buf.cps.toList[pos.toNat]? = some c) (e0 : (!((⟨#[c]⟩ : Str).length : Int) != 0) = false) (e1 : ((⟨#[c]⟩ : Str) == Str.ofString "\n") = false) (st : Option Str) (more : List Stmt)
    (at_ : RtAt w x h₀ L qd st tok pos s.heap)
    (next : ∀ h' tk' nc', (∃ tn, nc' = some (.str ⟨#[c]⟩ tn)) → RtN w x h₀ L qd st tok (pos + 1) nc' h' → wpAny (model (OpenLaw.prog RR) w) (ktrTop dp un gd (Str.ofString "shlex.read_token") rtF.1.2.2 L 866 (.ref 865) [] outer) (execs more (rtEnv L)) P (fun _ _ => False) { s with heap := h', toks := tk' }) :
    wpAny (model (OpenLaw.prog RR) w) (ktrTop dp un gd (Str.ofString "shlex.read_token") rtF.1.2.2 L 866 (.ref 865) [] outer) (execs (rtW.1.2.take 3 ++ more) (rtEnv L)) P (fun _ _ => False) s := by
  revert next at_ X
  k_fill
  intro X at_ next
  obtain ⟨lex, dx, io, dio, pb, fs, rest, buf⟩ := x
  obtain ⟨r1, r2, a1, a2, a3, a4, a5, a6, hb⟩ := ok
  obtain ⟨τ, υ, ts, te, nc, ln, F, N⟩ := at_
  dsimp only [rtW, rtF, rtEnv, List.take, List.cons_append, List.nil_append] at *
  k_steps
  all_goals (rename Fr _ _ _ _ => F9; rename News _ _ _ _ => N9; refine next _ _ _ ?hx (rtN_mk (te := te) (ts := ts) F9 (by first | exact N9 | exact (fun q hq => N9 q (List.mem_cons_of_mem _ hq)) | exact (fun q hq => N9 q (by have := List.mem_append_left [_] hq; exact this)) | exact (fun q hq => by have := N9 q; simp only [List.mem_cons, List.mem_append] at hq this; exact this hq)) ?_); (case hx => exact ⟨_, rfl⟩); intro y; by_cases y1 : y = ("nextchar" : Str))
  all_goals (try (subst y1; rfl; done))
  all_goals (by_cases y2 : y = ("escapedstate" : Str))
  all_goals (try (subst y2; rfl; done))
  all_goals (by_cases y3 : y = ("quoted" : Str))
  all_goals (try (subst y3; rfl; done))
  all_goals (by_cases y4 : y = ("self" : Str))
  all_goals (try (subst y4; rfl; done))
  all_goals (simp only [mR, y1, y2, y3, y4, if_false]; done)
set_option maxRecDepth 100000 in
set_option maxHeartbeats 0 in
theorem preE (w : World) (p : Program) (loose : List Str) (mean : ExcName → Option Value) (mg mb : Str → Option Value) (x : Lx) (ok : x.Ok)
    (dp un : Nat) (gd : Option (List Code)) (outer : List Env) (A₀ : Around) (base h₀ : Heap) (L : Addr) (s : Shared) (P : Flow → Shared → Prop)
    (B : Below A₀ base outer h₀) (X : (K w.params).In h₀) (T : Top p loose mean mg mb h₀) (hd : dp + 20 < recursionLimit) (hu : un + 100 < cLine)
    (qd : Bool) (tok : Str) (pos : Int) (htok : tok.length ≤ 100000) (hp : 0 ≤ pos)
    (he : pos = (x.buf.length : Int)) (st : Option Str) (more : List Stmt)
    (at_ : RtAt w x h₀ L qd st tok pos s.heap)
    (next : ∀ h' tk' nc', (∃ tn, nc' = some (.str (Str.ofString "") tn)) → RtN w x h₀ L qd st tok pos nc' h' → wpAny (model (OpenLaw.prog RR) w) (ktrTop dp un gd (Str.ofString "shlex.read_token") rtF.1.2.2 L 866 (.ref 865) [] outer) (execs more (rtEnv L)) P (fun _ _ => False) { s with heap := h', toks := tk' }) :
    wpAny (model (OpenLaw.prog RR) w) (ktrTop dp un gd (Str.ofString "shlex.read_token") rtF.1.2.2 L 866 (.ref 865) [] outer) (execs (rtW.1.2.take 3 ++ more) (rtEnv L)) P (fun _ _ => False) s := by
  revert next at_ X
  k_fill
  intro X at_ next
  obtain ⟨lex, dx, io, dio, pb, fs, rest, buf⟩ := x
  obtain ⟨r1, r2, a1, a2, a3, a4, a5, a6, hb⟩ := ok
  obtain ⟨τ, υ, ts, te, nc, ln, F, N⟩ := at_
  dsimp only [rtW, rtF, rtEnv, List.take, List.cons_append, List.nil_append] at *
  k_steps
  all_goals (rename Fr _ _ _ _ => F9; rename News _ _ _ _ => N9; refine next _ _ _ ?hx (rtN_mk (te := te) (ts := ts) F9 (by first | exact N9 | exact (fun q hq => N9 q (List.mem_cons_of_mem _ hq)) | exact (fun q hq => N9 q (by have := List.mem_append_left [_] hq; exact this)) | exact (fun q hq => by have := N9 q; simp only [List.mem_cons, List.mem_append] at hq this; exact this hq)) ?_); (case hx => exact ⟨_, rfl⟩); intro y; by_cases y1 : y = ("nextchar" : Str))
  all_goals (try (subst y1; rfl; done))
  all_goals (by_cases y2 : y = ("escapedstate" : Str))
  all_goals (try (subst y2; rfl; done))
  all_goals (by_cases y3 : y = ("quoted" : Str))
  all_goals (try (subst y3; rfl; done))
  all_goals (by_cases y4 : y = ("self" : Str))
  all_goals (try (subst y4; rfl; done))
  all_goals (simp only [mR, y1, y2, y3, y4, if_false]; done)
set_option maxRecDepth 100000 in
set_option maxHeartbeats 0 in
theorem from_q (w : World) (p : Program) (loose : List Str) (mean : ExcName → Option Value) (mg mb : Str → Option Value) (x : Lx) (ok : x.Ok)
    (dp un : Nat) (gd : Option (List Code)) (outer : List Env) (A₀ : Around) (base h₀ : Heap) (L : Addr) (s : Shared) (P : Flow → Shared → Prop)
    (B : Below A₀ base outer h₀) (X : (K w.params).In h₀) (T : Top p loose mean mg mb h₀) (hd : dp + 20 < recursionLimit) (hu : un + 100 < cLine)
    (qd : Bool) (tok : Str) (pos : Int) (htok : tok.length ≤ 100000) (hp : 0 ≤ pos)
    (c : Nat) (hc : x.buf.cps.toList[pos.toNat]? = some c) (e0 : (!((⟨#[c]⟩ : Str).length : Int) != 0) = false) (e1 : ((⟨#[c]⟩ : Str) == Str.ofString "\n") = false) (e2 : ((⟨#[c]⟩ : Str) == Str.ofString "'") = false) (e10981 : isin (Str.ofString "\\") c = false) (tn : Tok)
    (at_ : RtN w x h₀ L qd (some (Str.ofString "'")) tok (pos + 1) (some (.str ⟨#[c]⟩ tn)) s.heap)
    (next : ∀ h' tk', RtAt w x h₀ L true (some (Str.ofString "'")) (tok ++ ⟨#[c]⟩) (pos + 1) h' → P .next { s with heap := h', toks := tk' }) :
    wpAny (model (OpenLaw.prog RR) w) (ktrTop dp un gd (Str.ofString "shlex.read_token") rtF.1.2.2 L 866 (.ref 865) [] outer) (execs (rtW.1.2.drop 3) (rtEnv L)) P (fun _ _ => False) s := by
  revert next at_ X
  k_fill
  intro X at_ next
  obtain ⟨lex, dx, io, dio, pb, fs, rest, buf⟩ := x
  obtain ⟨r1, r2, a1, a2, a3, a4, a5, a6, hb⟩ := ok
  obtain ⟨τ, υ, ts, te, ln, F, N⟩ := at_
  dsimp only [stV] at *
  dsimp only [rtW, rtF, rtEnv, List.drop] at *
  k_steps
  all_goals (rename Fr _ _ _ _ => F9; rename News _ _ _ _ => N9; refine next _ _ (rtAt_mk (te := te) F9 (by first | exact N9 | exact (fun q hq => N9 q (List.mem_cons_of_mem _ hq)) | exact (fun q hq => N9 q (by have := List.mem_append_left [_] hq; exact this)) | exact (fun q hq => by have := N9 q; simp only [List.mem_cons, List.mem_append] at hq this; exact this hq)) ?_); intro y; by_cases y1 : y = ("nextchar" : Str))
  all_goals (try (subst y1; rfl; done))
  all_goals (by_cases y2 : y = ("escapedstate" : Str))
  all_goals (try (subst y2; rfl; done))
  all_goals (by_cases y3 : y = ("quoted" : Str))
  all_goals (try (subst y3; rfl; done))
  all_goals (by_cases y4 : y = ("self" : Str))
  all_goals (try (subst y4; rfl; done))
  all_goals (simp only [mR, y1, y2, y3, y4, if_false]; done)
theorem turn_q (w : World) (p : Program) (loose : List Str) (mean : ExcName → Option Value) (mg mb : Str → Option Value) (x : Lx) (ok : x.Ok)
    (dp un : Nat) (gd : Option (List Code)) (outer : List Env) (A₀ : Around) (base h₀ : Heap) (L : Addr) (s : Shared) (P : Flow → Shared → Prop)
    (B : Below A₀ base outer h₀) (X : (K w.params).In h₀) (T : Top p loose mean mg mb h₀) (hd : dp + 20 < recursionLimit) (hu : un + 100 < cLine)
    (qd : Bool) (tok : Str) (pos : Int) (htok : tok.length ≤ 100000) (hp : 0 ≤ pos)
    (c : Nat) (hc : x.buf.cps.toList[pos.toNat]? = some c) (e0 : (!((⟨#[c]⟩ : Str).length : Int) != 0) = false) (e1 : ((⟨#[c]⟩ : Str) == Str.ofString "\n") = false) (e2 : ((⟨#[c]⟩ : Str) == Str.ofString "'") = false) (e10981 : isin (Str.ofString "\\") c = false)
    (at_ : RtAt w x h₀ L qd (some (Str.ofString "'")) tok pos s.heap)
    (next : ∀ h' tk', RtAt w x h₀ L true (some (Str.ofString "'")) (tok ++ ⟨#[c]⟩) (pos + 1) h' → P .next { s with heap := h', toks := tk' }) :
    wpAny (model (OpenLaw.prog RR) w) (ktrTop dp un gd (Str.ofString "shlex.read_token") rtF.1.2.2 L 866 (.ref 865) [] outer) (execs rtW.1.2 (rtEnv L)) P (fun _ _ => False) s := by
  exact preC w p loose mean mg mb x ok dp un gd outer A₀ base h₀ L s P B X T hd hu qd tok pos htok hp c hc e0 e1 (some (Str.ofString "'")) (rtW.1.2.drop 3) at_ fun h' tk' nc' hx a => by
    obtain ⟨tn, rfl⟩ := hx
    exact from_q w p loose mean mg mb x ok dp un gd outer A₀ base h₀ L _ P B X T hd hu qd tok pos htok hp c hc e0 e1 e2 e10981 tn a next
set_option maxRecDepth 100000 in
set_option maxHeartbeats 0 in
theorem from_q39 (w : World) (p : Program) (loose : List Str) (mean : ExcName → Option Value) (mg mb : Str → Option Value) (x : Lx) (ok : x.Ok)
    (dp un : Nat) (gd : Option (List Code)) (outer : List Env) (A₀ : Around) (base h₀ : Heap) (L : Addr) (s : Shared) (P : Flow → Shared → Prop)
    (B : Below A₀ base outer h₀) (X : (K w.params).In h₀) (T : Top p loose mean mg mb h₀) (hd : dp + 20 < recursionLimit) (hu : un + 100 < cLine)
    (qd : Bool) (tok : Str) (pos : Int) (htok : tok.length ≤ 100000) (hp : 0 ≤ pos)
    (hc : x.buf.cps.toList[pos.toNat]? = some 39) (tn : Tok)
    (at_ : RtN w x h₀ L qd (some (Str.ofString "'")) tok (pos + 1) (some (.str ⟨#[39]⟩ tn)) s.heap)
    (next : ∀ h' tk', RtAt w x h₀ L true (some (Str.ofString "a")) tok (pos + 1) h' → P .next { s with heap := h', toks := tk' }) :
    wpAny (model (OpenLaw.prog RR) w) (ktrTop dp un gd (Str.ofString "shlex.read_token") rtF.1.2.2 L 866 (.ref 865) [] outer) (execs (rtW.1.2.drop 3) (rtEnv L)) P (fun _ _ => False) s := by
  revert next at_ X
  k_fill
  intro X at_ next
  obtain ⟨lex, dx, io, dio, pb, fs, rest, buf⟩ := x
  obtain ⟨r1, r2, a1, a2, a3, a4, a5, a6, hb⟩ := ok
  obtain ⟨τ, υ, ts, te, ln, F, N⟩ := at_
  dsimp only [stV] at *
  dsimp only [rtW, rtF, rtEnv, List.drop] at *
  k_steps
  all_goals (rename Fr _ _ _ _ => F9; rename News _ _ _ _ => N9; refine next _ _ (rtAt_mk (te := te) F9 (by first | exact N9 | exact (fun q hq => N9 q (List.mem_cons_of_mem _ hq)) | exact (fun q hq => N9 q (by have := List.mem_append_left [_] hq; exact this)) | exact (fun q hq => by have := N9 q; simp only [List.mem_cons, List.mem_append] at hq this; exact this hq)) ?_); intro y; by_cases y1 : y = ("nextchar" : Str))
  all_goals (try (subst y1; rfl; done))
  all_goals (by_cases y2 : y = ("escapedstate" : Str))
  all_goals (try (subst y2; rfl; done))
  all_goals (by_cases y3 : y = ("quoted" : Str))
  all_goals (try (subst y3; rfl; done))
  all_goals (by_cases y4 : y = ("self" : Str))
  all_goals (try (subst y4; rfl; done))
  all_goals (simp only [mR, y1, y2, y3, y4, if_false]; done)
theorem turn_q39 (w : World) (p : Program) (loose : List Str) (mean : ExcName → Option Value) (mg mb : Str → Option Value) (x : Lx) (ok : x.Ok)
    (dp un : Nat) (gd : Option (List Code)) (outer : List Env) (A₀ : Around) (base h₀ : Heap) (L : Addr) (s : Shared) (P : Flow → Shared → Prop)
    (B : Below A₀ base outer h₀) (X : (K w.params).In h₀) (T : Top p loose mean mg mb h₀) (hd : dp + 20 < recursionLimit) (hu : un + 100 < cLine)
    (qd : Bool) (tok : Str) (pos : Int) (htok : tok.length ≤ 100000) (hp : 0 ≤ pos)
    (hc : x.buf.cps.toList[pos.toNat]? = some 39)
    (at_ : RtAt w x h₀ L qd (some (Str.ofString "'")) tok pos s.heap)
    (next : ∀ h' tk', RtAt w x h₀ L true (some (Str.ofString "a")) tok (pos + 1) h' → P .next { s with heap := h', toks := tk' }) :
    wpAny (model (OpenLaw.prog RR) w) (ktrTop dp un gd (Str.ofString "shlex.read_token") rtF.1.2.2 L 866 (.ref 865) [] outer) (execs rtW.1.2 (rtEnv L)) P (fun _ _ => False) s := by
  exact preC w p loose mean mg mb x ok dp un gd outer A₀ base h₀ L s P B X T hd hu qd tok pos htok hp 39 hc (by decide +kernel) (by decide +kernel) (some (Str.ofString "'")) (rtW.1.2.drop 3) at_ fun h' tk' nc' hx a => by
    obtain ⟨tn, rfl⟩ := hx
    exact from_q39 w p loose mean mg mb x ok dp un gd outer A₀ base h₀ L _ P B X T hd hu qd tok pos htok hp hc tn a next
set_option maxRecDepth 100000 in
set_option maxHeartbeats 0 in
theorem from_d39 (w : World) (p : Program) (loose : List Str) (mean : ExcName → Option Value) (mg mb : Str → Option Value) (x : Lx) (ok : x.Ok)
    (dp un : Nat) (gd : Option (List Code)) (outer : List Env) (A₀ : Around) (base h₀ : Heap) (L : Addr) (s : Shared) (P : Flow → Shared → Prop)
    (B : Below A₀ base outer h₀) (X : (K w.params).In h₀) (T : Top p loose mean mg mb h₀) (hd : dp + 20 < recursionLimit) (hu : un + 100 < cLine)
    (qd : Bool) (tok : Str) (pos : Int) (htok : tok.length ≤ 100000) (hp : 0 ≤ pos)
    (hc : x.buf.cps.toList[pos.toNat]? = some 39) (tn : Tok)
    (at_ : RtN w x h₀ L qd (some (Str.ofString "\"")) tok (pos + 1) (some (.str ⟨#[39]⟩ tn)) s.heap)
    (next : ∀ h' tk', RtAt w x h₀ L true (some (Str.ofString "\"")) (tok ++ ⟨#[39]⟩) (pos + 1) h' → P .next { s with heap := h', toks := tk' }) :
    wpAny (model (OpenLaw.prog RR) w) (ktrTop dp un gd (Str.ofString "shlex.read_token") rtF.1.2.2 L 866 (.ref 865) [] outer) (execs (rtW.1.2.drop 3) (rtEnv L)) P (fun _ _ => False) s := by
  revert next at_ X
  k_fill
  intro X at_ next
  obtain ⟨lex, dx, io, dio, pb, fs, rest, buf⟩ := x
  obtain ⟨r1, r2, a1, a2, a3, a4, a5, a6, hb⟩ := ok
  obtain ⟨τ, υ, ts, te, ln, F, N⟩ := at_
  dsimp only [stV] at *
  dsimp only [rtW, rtF, rtEnv, List.drop] at *
  k_steps
  all_goals (rename Fr _ _ _ _ => F9; rename News _ _ _ _ => N9; refine next _ _ (rtAt_mk (te := te) F9 (by first | exact N9 | exact (fun q hq => N9 q (List.mem_cons_of_mem _ hq)) | exact (fun q hq => N9 q (by have := List.mem_append_left [_] hq; exact this)) | exact (fun q hq => by have := N9 q; simp only [List.mem_cons, List.mem_append] at hq this; exact this hq)) ?_); intro y; by_cases y1 : y = ("nextchar" : Str))
  all_goals (try (subst y1; rfl; done))
  all_goals (by_cases y2 : y = ("escapedstate" : Str))
  all_goals (try (subst y2; rfl; done))
  all_goals (by_cases y3 : y = ("quoted" : Str))
  all_goals (try (subst y3; rfl; done))
  all_goals (by_cases y4 : y = ("self" : Str))
  all_goals (try (subst y4; rfl; done))
  all_goals (simp only [mR, y1, y2, y3, y4, if_false]; done)
theorem turn_d39 (w : World) (p : Program) (loose : List Str) (mean : ExcName → Option Value) (mg mb : Str → Option Value) (x : Lx) (ok : x.Ok)
    (dp un : Nat) (gd : Option (List Code)) (outer : List Env) (A₀ : Around) (base h₀ : Heap) (L : Addr) (s : Shared) (P : Flow → Shared → Prop)
    (B : Below A₀ base outer h₀) (X : (K w.params).In h₀) (T : Top p loose mean mg mb h₀) (hd : dp + 20 < recursionLimit) (hu : un + 100 < cLine)
    (qd : Bool) (tok : Str) (pos : Int) (htok : tok.length ≤ 100000) (hp : 0 ≤ pos)
    (hc : x.buf.cps.toList[pos.toNat]? = some 39)
    (at_ : RtAt w x h₀ L qd (some (Str.ofString "\"")) tok pos s.heap)
    (next : ∀ h' tk', RtAt w x h₀ L true (some (Str.ofString "\"")) (tok ++ ⟨#[39]⟩) (pos + 1) h' → P .next { s with heap := h', toks := tk' }) :
    wpAny (model (OpenLaw.prog RR) w) (ktrTop dp un gd (Str.ofString "shlex.read_token") rtF.1.2.2 L 866 (.ref 865) [] outer) (execs rtW.1.2 (rtEnv L)) P (fun _ _ => False) s := by
  exact preC w p loose mean mg mb x ok dp un gd outer A₀ base h₀ L s P B X T hd hu qd tok pos htok hp 39 hc (by decide +kernel) (by decide +kernel) (some (Str.ofString "\"")) (rtW.1.2.drop 3) at_ fun h' tk' nc' hx a => by
    obtain ⟨tn, rfl⟩ := hx
    exact from_d39 w p loose mean mg mb x ok dp un gd outer A₀ base h₀ L _ P B X T hd hu qd tok pos htok hp hc tn a next
set_option maxRecDepth 100000 in
set_option maxHeartbeats 0 in
theorem from_d34 (w : World) (p : Program) (loose : List Str) (mean : ExcName → Option Value) (mg mb : Str → Option Value) (x : Lx) (ok : x.Ok)
    (dp un : Nat) (gd : Option (List Code)) (outer : List Env) (A₀ : Around) (base h₀ : Heap) (L : Addr) (s : Shared) (P : Flow → Shared → Prop)
    (B : Below A₀ base outer h₀) (X : (K w.params).In h₀) (T : Top p loose mean mg mb h₀) (hd : dp + 20 < recursionLimit) (hu : un + 100 < cLine)
    (qd : Bool) (tok : Str) (pos : Int) (htok : tok.length ≤ 100000) (hp : 0 ≤ pos)
    (hc : x.buf.cps.toList[pos.toNat]? = some 34) (tn : Tok)
    (at_ : RtN w x h₀ L qd (some (Str.ofString "\"")) tok (pos + 1) (some (.str ⟨#[34]⟩ tn)) s.heap)
    (next : ∀ h' tk', RtAt w x h₀ L true (some (Str.ofString "a")) tok (pos + 1) h' → P .next { s with heap := h', toks := tk' }) :
    wpAny (model (OpenLaw.prog RR) w) (ktrTop dp un gd (Str.ofString "shlex.read_token") rtF.1.2.2 L 866 (.ref 865) [] outer) (execs (rtW.1.2.drop 3) (rtEnv L)) P (fun _ _ => False) s := by
  revert next at_ X
  k_fill
  intro X at_ next
  obtain ⟨lex, dx, io, dio, pb, fs, rest, buf⟩ := x
  obtain ⟨r1, r2, a1, a2, a3, a4, a5, a6, hb⟩ := ok
  obtain ⟨τ, υ, ts, te, ln, F, N⟩ := at_
  dsimp only [stV] at *
  dsimp only [rtW, rtF, rtEnv, List.drop] at *
  k_steps
  all_goals (rename Fr _ _ _ _ => F9; rename News _ _ _ _ => N9; refine next _ _ (rtAt_mk (te := te) F9 (by first | exact N9 | exact (fun q hq => N9 q (List.mem_cons_of_mem _ hq)) | exact (fun q hq => N9 q (by have := List.mem_append_left [_] hq; exact this)) | exact (fun q hq => by have := N9 q; simp only [List.mem_cons, List.mem_append] at hq this; exact this hq)) ?_); intro y; by_cases y1 : y = ("nextchar" : Str))
  all_goals (try (subst y1; rfl; done))
  all_goals (by_cases y2 : y = ("escapedstate" : Str))
  all_goals (try (subst y2; rfl; done))
  all_goals (by_cases y3 : y = ("quoted" : Str))
  all_goals (try (subst y3; rfl; done))
  all_goals (by_cases y4 : y = ("self" : Str))
  all_goals (try (subst y4; rfl; done))
  all_goals (simp only [mR, y1, y2, y3, y4, if_false]; done)
theorem turn_d34 (w : World) (p : Program) (loose : List Str) (mean : ExcName → Option Value) (mg mb : Str → Option Value) (x : Lx) (ok : x.Ok)
    (dp un : Nat) (gd : Option (List Code)) (outer : List Env) (A₀ : Around) (base h₀ : Heap) (L : Addr) (s : Shared) (P : Flow → Shared → Prop)
    (B : Below A₀ base outer h₀) (X : (K w.params).In h₀) (T : Top p loose mean mg mb h₀) (hd : dp + 20 < recursionLimit) (hu : un + 100 < cLine)
    (qd : Bool) (tok : Str) (pos : Int) (htok : tok.length ≤ 100000) (hp : 0 ≤ pos)
    (hc : x.buf.cps.toList[pos.toNat]? = some 34)
    (at_ : RtAt w x h₀ L qd (some (Str.ofString "\"")) tok pos s.heap)
    (next : ∀ h' tk', RtAt w x h₀ L true (some (Str.ofString "a")) tok (pos + 1) h' → P .next { s with heap := h', toks := tk' }) :
    wpAny (model (OpenLaw.prog RR) w) (ktrTop dp un gd (Str.ofString "shlex.read_token") rtF.1.2.2 L 866 (.ref 865) [] outer) (execs rtW.1.2 (rtEnv L)) P (fun _ _ => False) s := by
  exact preC w p loose mean mg mb x ok dp un gd outer A₀ base h₀ L s P B X T hd hu qd tok pos htok hp 34 hc (by decide +kernel) (by decide +kernel) (some (Str.ofString "\"")) (rtW.1.2.drop 3) at_ fun h' tk' nc' hx a => by
    obtain ⟨tn, rfl⟩ := hx
    exact from_d34 w p loose mean mg mb x ok dp un gd outer A₀ base h₀ L _ P B X T hd hu qd tok pos htok hp hc tn a next
set_option maxRecDepth 100000 in
set_option maxHeartbeats 0 in
theorem from_aE (w : World) (p : Program) (loose : List Str) (mean : ExcName → Option Value) (mg mb : Str → Option Value) (x : Lx) (ok : x.Ok)
    (dp un : Nat) (gd : Option (List Code)) (outer : List Env) (A₀ : Around) (base h₀ : Heap) (L : Addr) (s : Shared) (P : Flow → Shared → Prop)
    (B : Below A₀ base outer h₀) (X : (K w.params).In h₀) (T : Top p loose mean mg mb h₀) (hd : dp + 20 < recursionLimit) (hu : un + 100 < cLine)
    (qd : Bool) (tok : Str) (pos : Int) (htok : tok.length ≤ 100000) (hp : 0 ≤ pos)
    (he : pos = (x.buf.length : Int)) (tn : Tok)
    (at_ : RtN w x h₀ L qd (some (Str.ofString "a")) tok pos (some (.str (Str.ofString "") tn)) s.heap)
    (next : ∀ h' tk', RtAt w x h₀ L qd none tok pos h' → P .brk { s with heap := h', toks := tk' }) :
    wpAny (model (OpenLaw.prog RR) w) (ktrTop dp un gd (Str.ofString "shlex.read_token") rtF.1.2.2 L 866 (.ref 865) [] outer) (execs (rtW.1.2.drop 3) (rtEnv L)) P (fun _ _ => False) s := by
  revert next at_ X
  k_fill
  intro X at_ next
  obtain ⟨lex, dx, io, dio, pb, fs, rest, buf⟩ := x
  obtain ⟨r1, r2, a1, a2, a3, a4, a5, a6, hb⟩ := ok
  obtain ⟨τ, υ, ts, te, ln, F, N⟩ := at_
  dsimp only [stV] at *
  dsimp only [rtW, rtF, rtEnv, List.drop] at *
  k_steps
  all_goals (rename Fr _ _ _ _ => F9; rename News _ _ _ _ => N9; refine next _ _ (rtAt_mk (te := te) (ts := ts) F9 (by first | exact N9 | exact (fun q hq => N9 q (List.mem_cons_of_mem _ hq)) | exact (fun q hq => N9 q (by have := List.mem_append_left [_] hq; exact this)) | exact (fun q hq => by have := N9 q; simp only [List.mem_cons, List.mem_append] at hq this; exact this hq)) ?_); intro y; by_cases y1 : y = ("nextchar" : Str))
  all_goals (try (subst y1; rfl; done))
  all_goals (by_cases y2 : y = ("escapedstate" : Str))
  all_goals (try (subst y2; rfl; done))
  all_goals (by_cases y3 : y = ("quoted" : Str))
  all_goals (try (subst y3; rfl; done))
  all_goals (by_cases y4 : y = ("self" : Str))
  all_goals (try (subst y4; rfl; done))
  all_goals (simp only [mR, y1, y2, y3, y4, if_false]; done)
theorem turn_aE (w : World) (p : Program) (loose : List Str) (mean : ExcName → Option Value) (mg mb : Str → Option Value) (x : Lx) (ok : x.Ok)
    (dp un : Nat) (gd : Option (List Code)) (outer : List Env) (A₀ : Around) (base h₀ : Heap) (L : Addr) (s : Shared) (P : Flow → Shared → Prop)
    (B : Below A₀ base outer h₀) (X : (K w.params).In h₀) (T : Top p loose mean mg mb h₀) (hd : dp + 20 < recursionLimit) (hu : un + 100 < cLine)
    (qd : Bool) (tok : Str) (pos : Int) (htok : tok.length ≤ 100000) (hp : 0 ≤ pos)
    (he : pos = (x.buf.length : Int))
    (at_ : RtAt w x h₀ L qd (some (Str.ofString "a")) tok pos s.heap)
    (next : ∀ h' tk', RtAt w x h₀ L qd none tok pos h' → P .brk { s with heap := h', toks := tk' }) :
    wpAny (model (OpenLaw.prog RR) w) (ktrTop dp un gd (Str.ofString "shlex.read_token") rtF.1.2.2 L 866 (.ref 865) [] outer) (execs rtW.1.2 (rtEnv L)) P (fun _ _ => False) s := by
  exact preE w p loose mean mg mb x ok dp un gd outer A₀ base h₀ L s P B X T hd hu qd tok pos htok hp he (some (Str.ofString "a")) (rtW.1.2.drop 3) at_ fun h' tk' nc' hx a => by
    obtain ⟨tn, rfl⟩ := hx
    exact from_aE w p loose mean mg mb x ok dp un gd outer A₀ base h₀ L _ P B X T hd hu qd tok pos htok hp he tn a next
set_option maxRecDepth 100000 in
set_option maxHeartbeats 0 in
theorem from_aS (w : World) (p : Program) (loose : List Str) (mean : ExcName → Option Value) (mg mb : Str → Option Value) (x : Lx) (ok : x.Ok)
    (dp un : Nat) (gd : Option (List Code)) (outer : List Env) (A₀ : Around) (base h₀ : Heap) (L : Addr) (s : Shared) (P : Flow → Shared → Prop)
    (B : Below A₀ base outer h₀) (X : (K w.params).In h₀) (T : Top p loose mean mg mb h₀) (hd : dp + 20 < recursionLimit) (hu : un + 100 < cLine)
    (qd : Bool) (tok : Str) (pos : Int) (htok : tok.length ≤ 100000) (hp : 0 ≤ pos)
    (hc : x.buf.cps.toList[pos.toNat]? = some 32) (e9 : ((tok.length : Int) != 0) = true) (tn : Tok)
    (at_ : RtN w x h₀ L qd (some (Str.ofString "a")) tok (pos + 1) (some (.str ⟨#[32]⟩ tn)) s.heap)
    (next : ∀ h' tk', RtAt w x h₀ L qd (some (Str.ofString " ")) tok (pos + 1) h' → P .brk { s with heap := h', toks := tk' }) :
    wpAny (model (OpenLaw.prog RR) w) (ktrTop dp un gd (Str.ofString "shlex.read_token") rtF.1.2.2 L 866 (.ref 865) [] outer) (execs (rtW.1.2.drop 3) (rtEnv L)) P (fun _ _ => False) s := by
  revert next at_ X
  k_fill
  intro X at_ next
  obtain ⟨lex, dx, io, dio, pb, fs, rest, buf⟩ := x
  obtain ⟨r1, r2, a1, a2, a3, a4, a5, a6, hb⟩ := ok
  obtain ⟨τ, υ, ts, te, ln, F, N⟩ := at_
  dsimp only [stV] at *
  dsimp only [rtW, rtF, rtEnv, List.drop] at *
  k_steps
  all_goals (rename Fr _ _ _ _ => F9; rename News _ _ _ _ => N9; refine next _ _ (rtAt_mk (te := te) F9 (by first | exact N9 | exact (fun q hq => N9 q (List.mem_cons_of_mem _ hq)) | exact (fun q hq => N9 q (by have := List.mem_append_left [_] hq; exact this)) | exact (fun q hq => by have := N9 q; simp only [List.mem_cons, List.mem_append] at hq this; exact this hq)) ?_); intro y; by_cases y1 : y = ("nextchar" : Str))
  all_goals (try (subst y1; rfl; done))
  all_goals (by_cases y2 : y = ("escapedstate" : Str))
  all_goals (try (subst y2; rfl; done))
  all_goals (by_cases y3 : y = ("quoted" : Str))
  all_goals (try (subst y3; rfl; done))
  all_goals (by_cases y4 : y = ("self" : Str))
  all_goals (try (subst y4; rfl; done))
  all_goals (simp only [mR, y1, y2, y3, y4, if_false]; done)
theorem turn_aS (w : World) (p : Program) (loose : List Str) (mean : ExcName → Option Value) (mg mb : Str → Option Value) (x : Lx) (ok : x.Ok)
    (dp un : Nat) (gd : Option (List Code)) (outer : List Env) (A₀ : Around) (base h₀ : Heap) (L : Addr) (s : Shared) (P : Flow → Shared → Prop)
    (B : Below A₀ base outer h₀) (X : (K w.params).In h₀) (T : Top p loose mean mg mb h₀) (hd : dp + 20 < recursionLimit) (hu : un + 100 < cLine)
    (qd : Bool) (tok : Str) (pos : Int) (htok : tok.length ≤ 100000) (hp : 0 ≤ pos)
    (hc : x.buf.cps.toList[pos.toNat]? = some 32) (e9 : ((tok.length : Int) != 0) = true)
    (at_ : RtAt w x h₀ L qd (some (Str.ofString "a")) tok pos s.heap)
    (next : ∀ h' tk', RtAt w x h₀ L qd (some (Str.ofString " ")) tok (pos + 1) h' → P .brk { s with heap := h', toks := tk' }) :
    wpAny (model (OpenLaw.prog RR) w) (ktrTop dp un gd (Str.ofString "shlex.read_token") rtF.1.2.2 L 866 (.ref 865) [] outer) (execs rtW.1.2 (rtEnv L)) P (fun _ _ => False) s := by
  exact preC w p loose mean mg mb x ok dp un gd outer A₀ base h₀ L s P B X T hd hu qd tok pos htok hp 32 hc (by decide +kernel) (by decide +kernel) (some (Str.ofString "a")) (rtW.1.2.drop 3) at_ fun h' tk' nc' hx a => by
    obtain ⟨tn, rfl⟩ := hx
    exact from_aS w p loose mean mg mb x ok dp un gd outer A₀ base h₀ L _ P B X T hd hu qd tok pos htok hp hc e9 tn a next
set_option maxRecDepth 100000 in
set_option maxHeartbeats 0 in
theorem from_a39 (w : World) (p : Program) (loose : List Str) (mean : ExcName → Option Value) (mg mb : Str → Option Value) (x : Lx) (ok : x.Ok)
    (dp un : Nat) (gd : Option (List Code)) (outer : List Env) (A₀ : Around) (base h₀ : Heap) (L : Addr) (s : Shared) (P : Flow → Shared → Prop)
    (B : Below A₀ base outer h₀) (X : (K w.params).In h₀) (T : Top p loose mean mg mb h₀) (hd : dp + 20 < recursionLimit) (hu : un + 100 < cLine)
    (qd : Bool) (tok : Str) (pos : Int) (htok : tok.length ≤ 100000) (hp : 0 ≤ pos)
    (hc : x.buf.cps.toList[pos.toNat]? = some 39) (tn : Tok)
    (at_ : RtN w x h₀ L qd (some (Str.ofString "a")) tok (pos + 1) (some (.str ⟨#[39]⟩ tn)) s.heap)
    (next : ∀ h' tk', RtAt w x h₀ L qd (some (Str.ofString "'")) tok (pos + 1) h' → P .next { s with heap := h', toks := tk' }) :
    wpAny (model (OpenLaw.prog RR) w) (ktrTop dp un gd (Str.ofString "shlex.read_token") rtF.1.2.2 L 866 (.ref 865) [] outer) (execs (rtW.1.2.drop 3) (rtEnv L)) P (fun _ _ => False) s := by
  revert next at_ X
  k_fill
  intro X at_ next
  obtain ⟨lex, dx, io, dio, pb, fs, rest, buf⟩ := x
  obtain ⟨r1, r2, a1, a2, a3, a4, a5, a6, hb⟩ := ok
  obtain ⟨τ, υ, ts, te, ln, F, N⟩ := at_
  dsimp only [stV] at *
  dsimp only [rtW, rtF, rtEnv, List.drop] at *
  k_steps
  all_goals (rename Fr _ _ _ _ => F9; rename News _ _ _ _ => N9; refine next _ _ (rtAt_mk (te := te) F9 (by first | exact N9 | exact (fun q hq => N9 q (List.mem_cons_of_mem _ hq)) | exact (fun q hq => N9 q (by have := List.mem_append_left [_] hq; exact this)) | exact (fun q hq => by have := N9 q; simp only [List.mem_cons, List.mem_append] at hq this; exact this hq)) ?_); intro y; by_cases y1 : y = ("nextchar" : Str))
  all_goals (try (subst y1; rfl; done))
  all_goals (by_cases y2 : y = ("escapedstate" : Str))
  all_goals (try (subst y2; rfl; done))
  all_goals (by_cases y3 : y = ("quoted" : Str))
  all_goals (try (subst y3; rfl; done))
  all_goals (by_cases y4 : y = ("self" : Str))
  all_goals (try (subst y4; rfl; done))
  all_goals (simp only [mR, y1, y2, y3, y4, if_false]; done)
theorem turn_a39 (w : World) (p : Program) (loose : List Str) (mean : ExcName → Option Value) (mg mb : Str → Option Value) (x : Lx) (ok : x.Ok)
    (dp un : Nat) (gd : Option (List Code)) (outer : List Env) (A₀ : Around) (base h₀ : Heap) (L : Addr) (s : Shared) (P : Flow → Shared → Prop)
    (B : Below A₀ base outer h₀) (X : (K w.params).In h₀) (T : Top p loose mean mg mb h₀) (hd : dp + 20 < recursionLimit) (hu : un + 100 < cLine)
    (qd : Bool) (tok : Str) (pos : Int) (htok : tok.length ≤ 100000) (hp : 0 ≤ pos)
    (hc : x.buf.cps.toList[pos.toNat]? = some 39)
    (at_ : RtAt w x h₀ L qd (some (Str.ofString "a")) tok pos s.heap)
    (next : ∀ h' tk', RtAt w x h₀ L qd (some (Str.ofString "'")) tok (pos + 1) h' → P .next { s with heap := h', toks := tk' }) :
    wpAny (model (OpenLaw.prog RR) w) (ktrTop dp un gd (Str.ofString "shlex.read_token") rtF.1.2.2 L 866 (.ref 865) [] outer) (execs rtW.1.2 (rtEnv L)) P (fun _ _ => False) s := by
  exact preC w p loose mean mg mb x ok dp un gd outer A₀ base h₀ L s P B X T hd hu qd tok pos htok hp 39 hc (by decide +kernel) (by decide +kernel) (some (Str.ofString "a")) (rtW.1.2.drop 3) at_ fun h' tk' nc' hx a => by
    obtain ⟨tn, rfl⟩ := hx
    exact from_a39 w p loose mean mg mb x ok dp un gd outer A₀ base h₀ L _ P B X T hd hu qd tok pos htok hp hc tn a next
set_option maxRecDepth 100000 in
set_option maxHeartbeats 0 in
theorem from_a34 (w : World) (p : Program) (loose : List Str) (mean : ExcName → Option Value) (mg mb : Str → Option Value) (x : Lx) (ok : x.Ok)
    (dp un : Nat) (gd : Option (List Code)) (outer : List Env) (A₀ : Around) (base h₀ : Heap) (L : Addr) (s : Shared) (P : Flow → Shared → Prop)
    (B : Below A₀ base outer h₀) (X : (K w.params).In h₀) (T : Top p loose mean mg mb h₀) (hd : dp + 20 < recursionLimit) (hu : un + 100 < cLine)
    (qd : Bool) (tok : Str) (pos : Int) (htok : tok.length ≤ 100000) (hp : 0 ≤ pos)
    (hc : x.buf.cps.toList[pos.toNat]? = some 34) (tn : Tok)
    (at_ : RtN w x h₀ L qd (some (Str.ofString "a")) tok (pos + 1) (some (.str ⟨#[34]⟩ tn)) s.heap)
    (next : ∀ h' tk', RtAt w x h₀ L qd (some (Str.ofString "\"")) tok (pos + 1) h' → P .next { s with heap := h', toks := tk' }) :
    wpAny (model (OpenLaw.prog RR) w) (ktrTop dp un gd (Str.ofString "shlex.read_token") rtF.1.2.2 L 866 (.ref 865) [] outer) (execs (rtW.1.2.drop 3) (rtEnv L)) P (fun _ _ => False) s := by
  revert next at_ X
  k_fill
  intro X at_ next
  obtain ⟨lex, dx, io, dio, pb, fs, rest, buf⟩ := x
  obtain ⟨r1, r2, a1, a2, a3, a4, a5, a6, hb⟩ := ok
  obtain ⟨τ, υ, ts, te, ln, F, N⟩ := at_
  dsimp only [stV] at *
  dsimp only [rtW, rtF, rtEnv, List.drop] at *
  k_steps
  all_goals (rename Fr _ _ _ _ => F9; rename News _ _ _ _ => N9; refine next _ _ (rtAt_mk (te := te) F9 (by first | exact N9 | exact (fun q hq => N9 q (List.mem_cons_of_mem _ hq)) | exact (fun q hq => N9 q (by have := List.mem_append_left [_] hq; exact this)) | exact (fun q hq => by have := N9 q; simp only [List.mem_cons, List.mem_append] at hq this; exact this hq)) ?_); intro y; by_cases y1 : y = ("nextchar" : Str))
  all_goals (try (subst y1; rfl; done))
  all_goals (by_cases y2 : y = ("escapedstate" : Str))
  all_goals (try (subst y2; rfl; done))
  all_goals (by_cases y3 : y = ("quoted" : Str))
  all_goals (try (subst y3; rfl; done))
  all_goals (by_cases y4 : y = ("self" : Str))
  all_goals (try (subst y4; rfl; done))
  all_goals (simp only [mR, y1, y2, y3, y4, if_false]; done)
theorem turn_a34 (w : World) (p : Program) (loose : List Str) (mean : ExcName → Option Value) (mg mb : Str → Option Value) (x : Lx) (ok : x.Ok)
    (dp un : Nat) (gd : Option (List Code)) (outer : List Env) (A₀ : Around) (base h₀ : Heap) (L : Addr) (s : Shared) (P : Flow → Shared → Prop)
    (B : Below A₀ base outer h₀) (X : (K w.params).In h₀) (T : Top p loose mean mg mb h₀) (hd : dp + 20 < recursionLimit) (hu : un + 100 < cLine)
    (qd : Bool) (tok : Str) (pos : Int) (htok : tok.length ≤ 100000) (hp : 0 ≤ pos)
    (hc : x.buf.cps.toList[pos.toNat]? = some 34)
    (at_ : RtAt w x h₀ L qd (some (Str.ofString "a")) tok pos s.heap)
    (next : ∀ h' tk', RtAt w x h₀ L qd (some (Str.ofString "\"")) tok (pos + 1) h' → P .next { s with heap := h', toks := tk' }) :
    wpAny (model (OpenLaw.prog RR) w) (ktrTop dp un gd (Str.ofString "shlex.read_token") rtF.1.2.2 L 866 (.ref 865) [] outer) (execs rtW.1.2 (rtEnv L)) P (fun _ _ => False) s := by
  exact preC w p loose mean mg mb x ok dp un gd outer A₀ base h₀ L s P B X T hd hu qd tok pos htok hp 34 hc (by decide +kernel) (by decide +kernel) (some (Str.ofString "a")) (rtW.1.2.drop 3) at_ fun h' tk' nc' hx a => by
    obtain ⟨tn, rfl⟩ := hx
    exact from_a34 w p loose mean mg mb x ok dp un gd outer A₀ base h₀ L _ P B X T hd hu qd tok pos htok hp hc tn a next
set_option maxRecDepth 100000 in
set_option maxHeartbeats 0 in
theorem from_aW (w : World) (p : Program) (loose : List Str) (mean : ExcName → Option Value) (mg mb : Str → Option Value) (x : Lx) (ok : x.Ok)
    (dp un : Nat) (gd : Option (List Code)) (outer : List Env) (A₀ : Around) (base h₀ : Heap) (L : Addr) (s : Shared) (P : Flow → Shared → Prop)
    (B : Below A₀ base outer h₀) (X : (K w.params).In h₀) (T : Top p loose mean mg mb h₀) (hd : dp + 20 < recursionLimit) (hu : un + 100 < cLine)
    (qd : Bool) (tok : Str) (pos : Int) (htok : tok.length ≤ 100000) (hp : 0 ≤ pos)
    (c : Nat) (hc : x.buf.cps.toList[pos.toNat]? = some c) (e0 : (!((⟨#[c]⟩ : Str).length : Int) != 0) = false) (e1 : ((⟨#[c]⟩ : Str) == Str.ofString "\n") = false) (e14229 : isin (Str.ofString " \t\r\n") c = false) (e9693 : isin (Str.ofString "") c = false) (e10981 : isin (Str.ofString "\\") c = false) (e10848 : isin (Str.ofString "'\"") c = false) (e4540 : isin wchars c = true) (tn : Tok)
    (at_ : RtN w x h₀ L qd (some (Str.ofString "a")) tok (pos + 1) (some (.str ⟨#[c]⟩ tn)) s.heap)
    (next : ∀ h' tk', RtAt w x h₀ L qd (some (Str.ofString "a")) (tok ++ ⟨#[c]⟩) (pos + 1) h' → P .next { s with heap := h', toks := tk' }) :
    wpAny (model (OpenLaw.prog RR) w) (ktrTop dp un gd (Str.ofString "shlex.read_token") rtF.1.2.2 L 866 (.ref 865) [] outer) (execs (rtW.1.2.drop 3) (rtEnv L)) P (fun _ _ => False) s := by
  revert next at_ X
  k_fill
  intro X at_ next
  obtain ⟨lex, dx, io, dio, pb, fs, rest, buf⟩ := x
  obtain ⟨r1, r2, a1, a2, a3, a4, a5, a6, hb⟩ := ok
  obtain ⟨τ, υ, ts, te, ln, F, N⟩ := at_
  dsimp only [stV] at *
  dsimp only [rtW, rtF, rtEnv, List.drop] at *
  k_steps
  all_goals (rename Fr _ _ _ _ => F9; rename News _ _ _ _ => N9; refine next _ _ (rtAt_mk (te := te) F9 (by first | exact N9 | exact (fun q hq => N9 q (List.mem_cons_of_mem _ hq)) | exact (fun q hq => N9 q (by have := List.mem_append_left [_] hq; exact this)) | exact (fun q hq => by have := N9 q; simp only [List.mem_cons, List.mem_append] at hq this; exact this hq)) ?_); intro y; by_cases y1 : y = ("nextchar" : Str))
  all_goals (try (subst y1; rfl; done))
  all_goals (by_cases y2 : y = ("escapedstate" : Str))
  all_goals (try (subst y2; rfl; done))
  all_goals (by_cases y3 : y = ("quoted" : Str))
  all_goals (try (subst y3; rfl; done))
  all_goals (by_cases y4 : y = ("self" : Str))
  all_goals (try (subst y4; rfl; done))
  all_goals (simp only [mR, y1, y2, y3, y4, if_false]; done)
theorem turn_aW (w : World) (p : Program) (loose : List Str) (mean : ExcName → Option Value) (mg mb : Str → Option Value) (x : Lx) (ok : x.Ok)
    (dp un : Nat) (gd : Option (List Code)) (outer : List Env) (A₀ : Around) (base h₀ : Heap) (L : Addr) (s : Shared) (P : Flow → Shared → Prop)
    (B : Below A₀ base outer h₀) (X : (K w.params).In h₀) (T : Top p loose mean mg mb h₀) (hd : dp + 20 < recursionLimit) (hu : un + 100 < cLine)
    (qd : Bool) (tok : Str) (pos : Int) (htok : tok.length ≤ 100000) (hp : 0 ≤ pos)
    (c : Nat) (hc : x.buf.cps.toList[pos.toNat]? = some c) (e0 : (!((⟨#[c]⟩ : Str).length : Int) != 0) = false) (e1 : ((⟨#[c]⟩ : Str) == Str.ofString "\n") = false) (e14229 : isin (Str.ofString " \t\r\n") c = false) (e9693 : isin (Str.ofString "") c = false) (e10981 : isin (Str.ofString "\\") c = false) (e10848 : isin (Str.ofString "'\"") c = false) (e4540 : isin wchars c = true)
    (at_ : RtAt w x h₀ L qd (some (Str.ofString "a")) tok pos s.heap)
    (next : ∀ h' tk', RtAt w x h₀ L qd (some (Str.ofString "a")) (tok ++ ⟨#[c]⟩) (pos + 1) h' → P .next { s with heap := h', toks := tk' }) :
    wpAny (model (OpenLaw.prog RR) w) (ktrTop dp un gd (Str.ofString "shlex.read_token") rtF.1.2.2 L 866 (.ref 865) [] outer) (execs rtW.1.2 (rtEnv L)) P (fun _ _ => False) s := by
  exact preC w p loose mean mg mb x ok dp un gd outer A₀ base h₀ L s P B X T hd hu qd tok pos htok hp c hc e0 e1 (some (Str.ofString "a")) (rtW.1.2.drop 3) at_ fun h' tk' nc' hx a => by
    obtain ⟨tn, rfl⟩ := hx
    exact from_aW w p loose mean mg mb x ok dp un gd outer A₀ base h₀ L _ P B X T hd hu qd tok pos htok hp c hc e0 e1 e14229 e9693 e10981 e10848 e4540 tn a next
set_option maxRecDepth 100000 in
set_option maxHeartbeats 0 in
theorem from_aO (w : World) (p : Program) (loose : List Str) (mean : ExcName → Option Value) (mg mb : Str → Option Value) (x : Lx) (ok : x.Ok)
    (dp un : Nat) (gd : Option (List Code)) (outer : List Env) (A₀ : Around) (base h₀ : Heap) (L : Addr) (s : Shared) (P : Flow → Shared → Prop)
    (B : Below A₀ base outer h₀) (X : (K w.params).In h₀) (T : Top p loose mean mg mb h₀) (hd : dp + 20 < recursionLimit) (hu : un + 100 < cLine)
    (qd : Bool) (tok : Str) (pos : Int) (htok : tok.length ≤ 100000) (hp : 0 ≤ pos)
    (c : Nat) (hc : x.buf.cps.toList[pos.toNat]? = some c) (e0 : (!((⟨#[c]⟩ : Str).length : Int) != 0) = false) (e1 : ((⟨#[c]⟩ : Str) == Str.ofString "\n") = false) (e14229 : isin (Str.ofString " \t\r\n") c = false) (e9693 : isin (Str.ofString "") c = false) (e10981 : isin (Str.ofString "\\") c = false) (e10848 : isin (Str.ofString "'\"") c = false) (e4541 : isin wchars c = false) (tn : Tok)
    (at_ : RtN w x h₀ L qd (some (Str.ofString "a")) tok (pos + 1) (some (.str ⟨#[c]⟩ tn)) s.heap)
    (next : ∀ h' tk', RtAt w x h₀ L qd (some (Str.ofString "a")) (tok ++ ⟨#[c]⟩) (pos + 1) h' → P .next { s with heap := h', toks := tk' }) :
    wpAny (model (OpenLaw.prog RR) w) (ktrTop dp un gd (Str.ofString "shlex.read_token") rtF.1.2.2 L 866 (.ref 865) [] outer) (execs (rtW.1.2.drop 3) (rtEnv L)) P (fun _ _ => False) s := by
  revert next at_ X
  k_fill
  intro X at_ next
  obtain ⟨lex, dx, io, dio, pb, fs, rest, buf⟩ := x
  obtain ⟨r1, r2, a1, a2, a3, a4, a5, a6, hb⟩ := ok
  obtain ⟨τ, υ, ts, te, ln, F, N⟩ := at_
  dsimp only [stV] at *
  dsimp only [rtW, rtF, rtEnv, List.drop] at *
  k_steps
  all_goals (rename Fr _ _ _ _ => F9; rename News _ _ _ _ => N9; refine next _ _ (rtAt_mk (te := te) F9 (by first | exact N9 | exact (fun q hq => N9 q (List.mem_cons_of_mem _ hq)) | exact (fun q hq => N9 q (by have := List.mem_append_left [_] hq; exact this)) | exact (fun q hq => by have := N9 q; simp only [List.mem_cons, List.mem_append] at hq this; exact this hq)) ?_); intro y; by_cases y1 : y = ("nextchar" : Str))
  all_goals (try (subst y1; rfl; done))
  all_goals (by_cases y2 : y = ("escapedstate" : Str))
  all_goals (try (subst y2; rfl; done))
  all_goals (by_cases y3 : y = ("quoted" : Str))
  all_goals (try (subst y3; rfl; done))
  all_goals (by_cases y4 : y = ("self" : Str))
  all_goals (try (subst y4; rfl; done))
  all_goals (simp only [mR, y1, y2, y3, y4, if_false]; done)
theorem turn_aO (w : World) (p : Program) (loose : List Str) (mean : ExcName → Option Value) (mg mb : Str → Option Value) (x : Lx) (ok : x.Ok)
    (dp un : Nat) (gd : Option (List Code)) (outer : List Env) (A₀ : Around) (base h₀ : Heap) (L : Addr) (s : Shared) (P : Flow → Shared → Prop)
    (B : Below A₀ base outer h₀) (X : (K w.params).In h₀) (T : Top p loose mean mg mb h₀) (hd : dp + 20 < recursionLimit) (hu : un + 100 < cLine)
    (qd : Bool) (tok : Str) (pos : Int) (htok : tok.length ≤ 100000) (hp : 0 ≤ pos)
    (c : Nat) (hc : x.buf.cps.toList[pos.toNat]? = some c) (e0 : (!((⟨#[c]⟩ : Str).length : Int) != 0) = false) (e1 : ((⟨#[c]⟩ : Str) == Str.ofString "\n") = false) (e14229 : isin (Str.ofString " \t\r\n") c = false) (e9693 : isin (Str.ofString "") c = false) (e10981 : isin (Str.ofString "\\") c = false) (e10848 : isin (Str.ofString "'\"") c = false) (e4541 : isin wchars c = false)
    (at_ : RtAt w x h₀ L qd (some (Str.ofString "a")) tok pos s.heap)
    (next : ∀ h' tk', RtAt w x h₀ L qd (some (Str.ofString "a")) (tok ++ ⟨#[c]⟩) (pos + 1) h' → P .next { s with heap := h', toks := tk' }) :
    wpAny (model (OpenLaw.prog RR) w) (ktrTop dp un gd (Str.ofString "shlex.read_token") rtF.1.2.2 L 866 (.ref 865) [] outer) (execs rtW.1.2 (rtEnv L)) P (fun _ _ => False) s := by
  exact preC w p loose mean mg mb x ok dp un gd outer A₀ base h₀ L s P B X T hd hu qd tok pos htok hp c hc e0 e1 (some (Str.ofString "a")) (rtW.1.2.drop 3) at_ fun h' tk' nc' hx a => by
    obtain ⟨tn, rfl⟩ := hx
    exact from_aO w p loose mean mg mb x ok dp un gd outer A₀ base h₀ L _ P B X T hd hu qd tok pos htok hp c hc e0 e1 e14229 e9693 e10981 e10848 e4541 tn a next
set_option maxRecDepth 100000 in
set_option maxHeartbeats 0 in
theorem from_sE (w : World) (p : Program) (loose : List Str) (mean : ExcName → Option Value) (mg mb : Str → Option Value) (x : Lx) (ok : x.Ok)
    (dp un : Nat) (gd : Option (List Code)) (outer : List Env) (A₀ : Around) (base h₀ : Heap) (L : Addr) (s : Shared) (P : Flow → Shared → Prop)
    (B : Below A₀ base outer h₀) (X : (K w.params).In h₀) (T : Top p loose mean mg mb h₀) (hd : dp + 20 < recursionLimit) (hu : un + 100 < cLine)
    (qd : Bool) (tok : Str) (pos : Int) (htok : tok.length ≤ 100000) (hp : 0 ≤ pos)
    (he : pos = (x.buf.length : Int)) (tn : Tok)
    (at_ : RtN w x h₀ L qd (some (Str.ofString " ")) tok pos (some (.str (Str.ofString "") tn)) s.heap)
    (next : ∀ h' tk', RtAt w x h₀ L qd none tok pos h' → P .brk { s with heap := h', toks := tk' }) :
    wpAny (model (OpenLaw.prog RR) w) (ktrTop dp un gd (Str.ofString "shlex.read_token") rtF.1.2.2 L 866 (.ref 865) [] outer) (execs (rtW.1.2.drop 3) (rtEnv L)) P (fun _ _ => False) s := by
  revert next at_ X
  k_fill
  intro X at_ next
  obtain ⟨lex, dx, io, dio, pb, fs, rest, buf⟩ := x
  obtain ⟨r1, r2, a1, a2, a3, a4, a5, a6, hb⟩ := ok
  obtain ⟨τ, υ, ts, te, ln, F, N⟩ := at_
  dsimp only [stV] at *
  dsimp only [rtW, rtF, rtEnv, List.drop] at *
  k_steps
  all_goals (rename Fr _ _ _ _ => F9; rename News _ _ _ _ => N9; refine next _ _ (rtAt_mk (te := te) (ts := ts) F9 (by first | exact N9 | exact (fun q hq => N9 q (List.mem_cons_of_mem _ hq)) | exact (fun q hq => N9 q (by have := List.mem_append_left [_] hq; exact this)) | exact (fun q hq => by have := N9 q; simp only [List.mem_cons, List.mem_append] at hq this; exact this hq)) ?_); intro y; by_cases y1 : y = ("nextchar" : Str))
  all_goals (try (subst y1; rfl; done))
  all_goals (by_cases y2 : y = ("escapedstate" : Str))
  all_goals (try (subst y2; rfl; done))
  all_goals (by_cases y3 : y = ("quoted" : Str))
  all_goals (try (subst y3; rfl; done))
  all_goals (by_cases y4 : y = ("self" : Str))
  all_goals (try (subst y4; rfl; done))
  all_goals (simp only [mR, y1, y2, y3, y4, if_false]; done)
theorem turn_sE (w : World) (p : Program) (loose : List Str) (mean : ExcName → Option Value) (mg mb : Str → Option Value) (x : Lx) (ok : x.Ok)
    (dp un : Nat) (gd : Option (List Code)) (outer : List Env) (A₀ : Around) (base h₀ : Heap) (L : Addr) (s : Shared) (P : Flow → Shared → Prop)
    (B : Below A₀ base outer h₀) (X : (K w.params).In h₀) (T : Top p loose mean mg mb h₀) (hd : dp + 20 < recursionLimit) (hu : un + 100 < cLine)
    (qd : Bool) (tok : Str) (pos : Int) (htok : tok.length ≤ 100000) (hp : 0 ≤ pos)
    (he : pos = (x.buf.length : Int))
    (at_ : RtAt w x h₀ L qd (some (Str.ofString " ")) tok pos s.heap)
    (next : ∀ h' tk', RtAt w x h₀ L qd none tok pos h' → P .brk { s with heap := h', toks := tk' }) :
    wpAny (model (OpenLaw.prog RR) w) (ktrTop dp un gd (Str.ofString "shlex.read_token") rtF.1.2.2 L 866 (.ref 865) [] outer) (execs rtW.1.2 (rtEnv L)) P (fun _ _ => False) s := by
  exact preE w p loose mean mg mb x ok dp un gd outer A₀ base h₀ L s P B X T hd hu qd tok pos htok hp he (some (Str.ofString " ")) (rtW.1.2.drop 3) at_ fun h' tk' nc' hx a => by
    obtain ⟨tn, rfl⟩ := hx
    exact from_sE w p loose mean mg mb x ok dp un gd outer A₀ base h₀ L _ P B X T hd hu qd tok pos htok hp he tn a next
set_option maxRecDepth 100000 in
set_option maxHeartbeats 0 in
theorem from_s39 (w : World) (p : Program) (loose : List Str) (mean : ExcName → Option Value) (mg mb : Str → Option Value) (x : Lx) (ok : x.Ok)
    (dp un : Nat) (gd : Option (List Code)) (outer : List Env) (A₀ : Around) (base h₀ : Heap) (L : Addr) (s : Shared) (P : Flow → Shared → Prop)
    (B : Below A₀ base outer h₀) (X : (K w.params).In h₀) (T : Top p loose mean mg mb h₀) (hd : dp + 20 < recursionLimit) (hu : un + 100 < cLine)
    (qd : Bool) (tok : Str) (pos : Int) (htok : tok.length ≤ 100000) (hp : 0 ≤ pos)
    (hc : x.buf.cps.toList[pos.toNat]? = some 39) (tn : Tok)
    (at_ : RtN w x h₀ L qd (some (Str.ofString " ")) tok (pos + 1) (some (.str ⟨#[39]⟩ tn)) s.heap)
    (next : ∀ h' tk', RtAt w x h₀ L qd (some (Str.ofString "'")) tok (pos + 1) h' → P .next { s with heap := h', toks := tk' }) :
    wpAny (model (OpenLaw.prog RR) w) (ktrTop dp un gd (Str.ofString "shlex.read_token") rtF.1.2.2 L 866 (.ref 865) [] outer) (execs (rtW.1.2.drop 3) (rtEnv L)) P (fun _ _ => False) s := by
  revert next at_ X
  k_fill
  intro X at_ next
  obtain ⟨lex, dx, io, dio, pb, fs, rest, buf⟩ := x
  obtain ⟨r1, r2, a1, a2, a3, a4, a5, a6, hb⟩ := ok
  obtain ⟨τ, υ, ts, te, ln, F, N⟩ := at_
  dsimp only [stV] at *
  dsimp only [rtW, rtF, rtEnv, List.drop] at *
  k_steps
  all_goals (rename Fr _ _ _ _ => F9; rename News _ _ _ _ => N9; refine next _ _ (rtAt_mk (te := te) F9 (by first | exact N9 | exact (fun q hq => N9 q (List.mem_cons_of_mem _ hq)) | exact (fun q hq => N9 q (by have := List.mem_append_left [_] hq; exact this)) | exact (fun q hq => by have := N9 q; simp only [List.mem_cons, List.mem_append] at hq this; exact this hq)) ?_); intro y; by_cases y1 : y = ("nextchar" : Str))
  all_goals (try (subst y1; rfl; done))
  all_goals (by_cases y2 : y = ("escapedstate" : Str))
  all_goals (try (subst y2; rfl; done))
  all_goals (by_cases y3 : y = ("quoted" : Str))
  all_goals (try (subst y3; rfl; done))
  all_goals (by_cases y4 : y = ("self" : Str))
  all_goals (try (subst y4; rfl; done))
  all_goals (simp only [mR, y1, y2, y3, y4, if_false]; done)
theorem turn_s39 (w : World) (p : Program) (loose : List Str) (mean : ExcName → Option Value) (mg mb : Str → Option Value) (x : Lx) (ok : x.Ok)
    (dp un : Nat) (gd : Option (List Code)) (outer : List Env) (A₀ : Around) (base h₀ : Heap) (L : Addr) (s : Shared) (P : Flow → Shared → Prop)
    (B : Below A₀ base outer h₀) (X : (K w.params).In h₀) (T : Top p loose mean mg mb h₀) (hd : dp + 20 < recursionLimit) (hu : un + 100 < cLine)
    (qd : Bool) (tok : Str) (pos : Int) (htok : tok.length ≤ 100000) (hp : 0 ≤ pos)
    (hc : x.buf.cps.toList[pos.toNat]? = some 39)
    (at_ : RtAt w x h₀ L qd (some (Str.ofString " ")) tok pos s.heap)
    (next : ∀ h' tk', RtAt w x h₀ L qd (some (Str.ofString "'")) tok (pos + 1) h' → P .next { s with heap := h', toks := tk' }) :
    wpAny (model (OpenLaw.prog RR) w) (ktrTop dp un gd (Str.ofString "shlex.read_token") rtF.1.2.2 L 866 (.ref 865) [] outer) (execs rtW.1.2 (rtEnv L)) P (fun _ _ => False) s := by
  exact preC w p loose mean mg mb x ok dp un gd outer A₀ base h₀ L s P B X T hd hu qd tok pos htok hp 39 hc (by decide +kernel) (by decide +kernel) (some (Str.ofString " ")) (rtW.1.2.drop 3) at_ fun h' tk' nc' hx a => by
    obtain ⟨tn, rfl⟩ := hx
    exact from_s39 w p loose mean mg mb x ok dp un gd outer A₀ base h₀ L _ P B X T hd hu qd tok pos htok hp hc tn a next
set_option maxRecDepth 100000 in
set_option maxHeartbeats 0 in
theorem from_sW (w : World) (p : Program) (loose : List Str) (mean : ExcName → Option Value) (mg mb : Str → Option Value) (x : Lx) (ok : x.Ok)
    (dp un : Nat) (gd : Option (List Code)) (outer : List Env) (A₀ : Around) (base h₀ : Heap) (L : Addr) (s : Shared) (P : Flow → Shared → Prop)
    (B : Below A₀ base outer h₀) (X : (K w.params).In h₀) (T : Top p loose mean mg mb h₀) (hd : dp + 20 < recursionLimit) (hu : un + 100 < cLine)
    (qd : Bool) (tok : Str) (pos : Int) (htok : tok.length ≤ 100000) (hp : 0 ≤ pos)
    (c : Nat) (hc : x.buf.cps.toList[pos.toNat]? = some c) (e0 : (!((⟨#[c]⟩ : Str).length : Int) != 0) = false) (e1 : ((⟨#[c]⟩ : Str) == Str.ofString "\n") = false) (e14229 : isin (Str.ofString " \t\r\n") c = false) (e9693 : isin (Str.ofString "") c = false) (e10981 : isin (Str.ofString "\\") c = false) (e10848 : isin (Str.ofString "'\"") c = false) (e4540 : isin wchars c = true) (tn : Tok)
    (at_ : RtN w x h₀ L qd (some (Str.ofString " ")) tok (pos + 1) (some (.str ⟨#[c]⟩ tn)) s.heap)
    (next : ∀ h' tk', RtAt w x h₀ L qd (some (Str.ofString "a")) ⟨#[c]⟩ (pos + 1) h' → P .next { s with heap := h', toks := tk' }) :
    wpAny (model (OpenLaw.prog RR) w) (ktrTop dp un gd (Str.ofString "shlex.read_token") rtF.1.2.2 L 866 (.ref 865) [] outer) (execs (rtW.1.2.drop 3) (rtEnv L)) P (fun _ _ => False) s := by
  revert next at_ X
  k_fill
  intro X at_ next
  obtain ⟨lex, dx, io, dio, pb, fs, rest, buf⟩ := x
  obtain ⟨r1, r2, a1, a2, a3, a4, a5, a6, hb⟩ := ok
  obtain ⟨τ, υ, ts, te, ln, F, N⟩ := at_
  dsimp only [stV] at *
  dsimp only [rtW, rtF, rtEnv, List.drop] at *
  k_steps
  all_goals (rename Fr _ _ _ _ => F9; rename News _ _ _ _ => N9; refine next _ _ (rtAt_mk (te := te) F9 (by first | exact N9 | exact (fun q hq => N9 q (List.mem_cons_of_mem _ hq)) | exact (fun q hq => N9 q (by have := List.mem_append_left [_] hq; exact this)) | exact (fun q hq => by have := N9 q; simp only [List.mem_cons, List.mem_append] at hq this; exact this hq)) ?_); intro y; by_cases y1 : y = ("nextchar" : Str))
  all_goals (try (subst y1; rfl; done))
  all_goals (by_cases y2 : y = ("escapedstate" : Str))
  all_goals (try (subst y2; rfl; done))
  all_goals (by_cases y3 : y = ("quoted" : Str))
  all_goals (try (subst y3; rfl; done))
  all_goals (by_cases y4 : y = ("self" : Str))
  all_goals (try (subst y4; rfl; done))
  all_goals (simp only [mR, y1, y2, y3, y4, if_false]; done)
theorem turn_sW (w : World) (p : Program) (loose : List Str) (mean : ExcName → Option Value) (mg mb : Str → Option Value) (x : Lx) (ok : x.Ok)
    (dp un : Nat) (gd : Option (List Code)) (outer : List Env) (A₀ : Around) (base h₀ : Heap) (L : Addr) (s : Shared) (P : Flow → Shared → Prop)
    (B : Below A₀ base outer h₀) (X : (K w.params).In h₀) (T : Top p loose mean mg mb h₀) (hd : dp + 20 < recursionLimit) (hu : un + 100 < cLine)
    (qd : Bool) (tok : Str) (pos : Int) (htok : tok.length ≤ 100000) (hp : 0 ≤ pos)
    (c : Nat) (hc : x.buf.cps.toList[pos.toNat]? = some c) (e0 : (!((⟨#[c]⟩ : Str).length : Int) != 0) = false) (e1 : ((⟨#[c]⟩ : Str) == Str.ofString "\n") = false) (e14229 : isin (Str.ofString " \t\r\n") c = false) (e9693 : isin (Str.ofString "") c = false) (e10981 : isin (Str.ofString "\\") c = false) (e10848 : isin (Str.ofString "'\"") c = false) (e4540 : isin wchars c = true)
    (at_ : RtAt w x h₀ L qd (some (Str.ofString " ")) tok pos s.heap)
    (next : ∀ h' tk', RtAt w x h₀ L qd (some (Str.ofString "a")) ⟨#[c]⟩ (pos + 1) h' → P .next { s with heap := h', toks := tk' }) :
    wpAny (model (OpenLaw.prog RR) w) (ktrTop dp un gd (Str.ofString "shlex.read_token") rtF.1.2.2 L 866 (.ref 865) [] outer) (execs rtW.1.2 (rtEnv L)) P (fun _ _ => False) s := by
  exact preC w p loose mean mg mb x ok dp un gd outer A₀ base h₀ L s P B X T hd hu qd tok pos htok hp c hc e0 e1 (some (Str.ofString " ")) (rtW.1.2.drop 3) at_ fun h' tk' nc' hx a => by
    obtain ⟨tn, rfl⟩ := hx
    exact from_sW w p loose mean mg mb x ok dp un gd outer A₀ base h₀ L _ P B X T hd hu qd tok pos htok hp c hc e0 e1 e14229 e9693 e10981 e10848 e4540 tn a next
set_option maxRecDepth 100000 in
set_option maxHeartbeats 0 in
theorem from_sO (w : World) (p : Program) (loose : List Str) (mean : ExcName → Option Value) (mg mb : Str → Option Value) (x : Lx) (ok : x.Ok)
    (dp un : Nat) (gd : Option (List Code)) (outer : List Env) (A₀ : Around) (base h₀ : Heap) (L : Addr) (s : Shared) (P : Flow → Shared → Prop)
    (B : Below A₀ base outer h₀) (X : (K w.params).In h₀) (T : Top p loose mean mg mb h₀) (hd : dp + 20 < recursionLimit) (hu : un + 100 < cLine)
    (qd : Bool) (tok : Str) (pos : Int) (htok : tok.length ≤ 100000) (hp : 0 ≤ pos)
    (c : Nat) (hc : x.buf.cps.toList[pos.toNat]? = some c) (e0 : (!((⟨#[c]⟩ : Str).length : Int) != 0) = false) (e1 : ((⟨#[c]⟩ : Str) == Str.ofString "\n") = false) (e14229 : isin (Str.ofString " \t\r\n") c = false) (e9693 : isin (Str.ofString "") c = false) (e10981 : isin (Str.ofString "\\") c = false) (e10848 : isin (Str.ofString "'\"") c = false) (e4541 : isin wchars c = false) (tn : Tok)
    (at_ : RtN w x h₀ L qd (some (Str.ofString " ")) tok (pos + 1) (some (.str ⟨#[c]⟩ tn)) s.heap)
    (next : ∀ h' tk', RtAt w x h₀ L qd (some (Str.ofString "a")) ⟨#[c]⟩ (pos + 1) h' → P .next { s with heap := h', toks := tk' }) :
    wpAny (model (OpenLaw.prog RR) w) (ktrTop dp un gd (Str.ofString "shlex.read_token") rtF.1.2.2 L 866 (.ref 865) [] outer) (execs (rtW.1.2.drop 3) (rtEnv L)) P (fun _ _ => False) s := by
  revert next at_ X
  k_fill
  intro X at_ next
  obtain ⟨lex, dx, io, dio, pb, fs, rest, buf⟩ := x
  obtain ⟨r1, r2, a1, a2, a3, a4, a5, a6, hb⟩ := ok
  obtain ⟨τ, υ, ts, te, ln, F, N⟩ := at_
  dsimp only [stV] at *
  dsimp only [rtW, rtF, rtEnv, List.drop] at *
  k_steps
  all_goals (rename Fr _ _ _ _ => F9; rename News _ _ _ _ => N9; refine next _ _ (rtAt_mk (te := te) F9 (by first | exact N9 | exact (fun q hq => N9 q (List.mem_cons_of_mem _ hq)) | exact (fun q hq => N9 q (by have := List.mem_append_left [_] hq; exact this)) | exact (fun q hq => by have := N9 q; simp only [List.mem_cons, List.mem_append] at hq this; exact this hq)) ?_); intro y; by_cases y1 : y = ("nextchar" : Str))
  all_goals (try (subst y1; rfl; done))
  all_goals (by_cases y2 : y = ("escapedstate" : Str))
  all_goals (try (subst y2; rfl; done))
  all_goals (by_cases y3 : y = ("quoted" : Str))
  all_goals (try (subst y3; rfl; done))
  all_goals (by_cases y4 : y = ("self" : Str))
  all_goals (try (subst y4; rfl; done))
  all_goals (simp only [mR, y1, y2, y3, y4, if_false]; done)
theorem turn_sO (w : World) (p : Program) (loose : List Str) (mean : ExcName → Option Value) (mg mb : Str → Option Value) (x : Lx) (ok : x.Ok)
    (dp un : Nat) (gd : Option (List Code)) (outer : List Env) (A₀ : Around) (base h₀ : Heap) (L : Addr) (s : Shared) (P : Flow → Shared → Prop)
    (B : Below A₀ base outer h₀) (X : (K w.params).In h₀) (T : Top p loose mean mg mb h₀) (hd : dp + 20 < recursionLimit) (hu : un + 100 < cLine)
    (qd : Bool) (tok : Str) (pos : Int) (htok : tok.length ≤ 100000) (hp : 0 ≤ pos)
    (c : Nat) (hc : x.buf.cps.toList[pos.toNat]? = some c) (e0 : (!((⟨#[c]⟩ : Str).length : Int) != 0) = false) (e1 : ((⟨#[c]⟩ : Str) == Str.ofString "\n") = false) (e14229 : isin (Str.ofString " \t\r\n") c = false) (e9693 : isin (Str.ofString "") c = false) (e10981 : isin (Str.ofString "\\") c = false) (e10848 : isin (Str.ofString "'\"") c = false) (e4541 : isin wchars c = false)
    (at_ : RtAt w x h₀ L qd (some (Str.ofString " ")) tok pos s.heap)
    (next : ∀ h' tk', RtAt w x h₀ L qd (some (Str.ofString "a")) ⟨#[c]⟩ (pos + 1) h' → P .next { s with heap := h', toks := tk' }) :
    wpAny (model (OpenLaw.prog RR) w) (ktrTop dp un gd (Str.ofString "shlex.read_token") rtF.1.2.2 L 866 (.ref 865) [] outer) (execs rtW.1.2 (rtEnv L)) P (fun _ _ => False) s := by
  exact preC w p loose mean mg mb x ok dp un gd outer A₀ base h₀ L s P B X T hd hu qd tok pos htok hp c hc e0 e1 (some (Str.ofString " ")) (rtW.1.2.drop 3) at_ fun h' tk' nc' hx a => by
    obtain ⟨tn, rfl⟩ := hx
    exact from_sO w p loose mean mg mb x ok dp un gd outer A₀ base h₀ L _ P B X T hd hu qd tok pos htok hp c hc e0 e1 e14229 e9693 e10981 e10848 e4541 tn a next
set_option maxRecDepth 100000 in
set_option maxHeartbeats 0 in
theorem from_n (w : World) (p : Program) (loose : List Str) (mean : ExcName → Option Value) (mg mb : Str → Option Value) (x : Lx) (ok : x.Ok)
    (dp un : Nat) (gd : Option (List Code)) (outer : List Env) (A₀ : Around) (base h₀ : Heap) (L : Addr) (s : Shared) (P : Flow → Shared → Prop)
    (B : Below A₀ base outer h₀) (X : (K w.params).In h₀) (T : Top p loose mean mg mb h₀) (hd : dp + 20 < recursionLimit) (hu : un + 100 < cLine)
    (qd : Bool) (tok : Str) (pos : Int) (htok : tok.length ≤ 100000) (hp : 0 ≤ pos)
    (he : pos = (x.buf.length : Int)) (tn : Tok)
    (at_ : RtN w x h₀ L qd none tok pos (some (.str (Str.ofString "") tn)) s.heap)
    (next : ∀ h' tk', RtAt w x h₀ L qd none (Str.ofString "") pos h' → P .brk { s with heap := h', toks := tk' }) :
    wpAny (model (OpenLaw.prog RR) w) (ktrTop dp un gd (Str.ofString "shlex.read_token") rtF.1.2.2 L 866 (.ref 865) [] outer) (execs (rtW.1.2.drop 3) (rtEnv L)) P (fun _ _ => False) s := by
  revert next at_ X
  k_fill
  intro X at_ next
  obtain ⟨lex, dx, io, dio, pb, fs, rest, buf⟩ := x
  obtain ⟨r1, r2, a1, a2, a3, a4, a5, a6, hb⟩ := ok
  obtain ⟨τ, υ, ts, te, ln, F, N⟩ := at_
  dsimp only [stV] at *
  dsimp only [rtW, rtF, rtEnv, List.drop] at *
  k_steps
  all_goals (rename Fr _ _ _ _ => F9; rename News _ _ _ _ => N9; refine next _ _ (rtAt_mk (te := te) (ts := ts) F9 (by first | exact N9 | exact (fun q hq => N9 q (List.mem_cons_of_mem _ hq)) | exact (fun q hq => N9 q (by have := List.mem_append_left [_] hq; exact this)) | exact (fun q hq => by have := N9 q; simp only [List.mem_cons, List.mem_append] at hq this; exact this hq)) ?_); intro y; by_cases y1 : y = ("nextchar" : Str))
  all_goals (try (subst y1; rfl; done))
  all_goals (by_cases y2 : y = ("escapedstate" : Str))
  all_goals (try (subst y2; rfl; done))
  all_goals (by_cases y3 : y = ("quoted" : Str))
  all_goals (try (subst y3; rfl; done))
  all_goals (by_cases y4 : y = ("self" : Str))
  all_goals (try (subst y4; rfl; done))
  all_goals (simp only [mR, y1, y2, y3, y4, if_false]; done)
theorem turn_n (w : World) (p : Program) (loose : List Str) (mean : ExcName → Option Value) (mg mb : Str → Option Value) (x : Lx) (ok : x.Ok)
    (dp un : Nat) (gd : Option (List Code)) (outer : List Env) (A₀ : Around) (base h₀ : Heap) (L : Addr) (s : Shared) (P : Flow → Shared → Prop)
    (B : Below A₀ base outer h₀) (X : (K w.params).In h₀) (T : Top p loose mean mg mb h₀) (hd : dp + 20 < recursionLimit) (hu : un + 100 < cLine)
    (qd : Bool) (tok : Str) (pos : Int) (htok : tok.length ≤ 100000) (hp : 0 ≤ pos)
    (he : pos = (x.buf.length : Int))
    (at_ : RtAt w x h₀ L qd none tok pos s.heap)
    (next : ∀ h' tk', RtAt w x h₀ L qd none (Str.ofString "") pos h' → P .brk { s with heap := h', toks := tk' }) :
    wpAny (model (OpenLaw.prog RR) w) (ktrTop dp un gd (Str.ofString "shlex.read_token") rtF.1.2.2 L 866 (.ref 865) [] outer) (execs rtW.1.2 (rtEnv L)) P (fun _ _ => False) s := by
  exact preE w p loose mean mg mb x ok dp un gd outer A₀ base h₀ L s P B X T hd hu qd tok pos htok hp he none (rtW.1.2.drop 3) at_ fun h' tk' nc' hx a => by
    obtain ⟨tn, rfl⟩ := hx
    exact from_n w p loose mean mg mb x ok dp un gd outer A₀ base h₀ L _ P B X T hd hu qd tok pos htok hp he tn a next
end Mine
end
section
open PySem PySem.W PySem.Calls PySem.Spec PyProof.Rows
namespace Mine
theorem kw_W3_1 : True := by
  k_with_none
  k_with "execs cons" => (first | (k_here; k_gentoks) | (refine' execs_one ?_) | (refine' execs_let ?_; intro Cq9))
  trivial
noncomputable abbrev nth (x : Lx) (pos : Int) : Option Nat := x.buf.cps.toList[pos.toNat]?
noncomputable abbrev sSP : Option Str := some (Str.ofString " ")
noncomputable abbrev sA : Option Str := some (Str.ofString "a")
noncomputable abbrev sQ : Option Str := some (Str.ofString "'")
noncomputable abbrev sD : Option Str := some (Str.ofString "\"")
noncomputable abbrev plainO : List Nat := [45, 46, 47]
noncomputable abbrev inQ : List Nat := [97, 98, 32, 99, 105, 116, 115, 35, 45, 46, 47]
inductive Turn (x : Lx) : Bool → Option Str → Str → Int → Bool → Option Str → Str → Int → Bool → Prop where
  | q {qd tok pos} (c : Nat) : nth x pos = some c → c ∈ inQ → Turn x qd sQ tok pos true sQ (tok ++ ⟨#[c]⟩) (pos + 1) false
  | q39 {qd tok pos} : nth x pos = some 39 → Turn x qd sQ tok pos true sA tok (pos + 1) false
  | d39 {qd tok pos} : nth x pos = some 39 → Turn x qd sD tok pos true sD (tok ++ ⟨#[39]⟩) (pos + 1) false
  | d34 {qd tok pos} : nth x pos = some 34 → Turn x qd sD tok pos true sA tok (pos + 1) false
  | aE {qd tok pos} : pos = (x.buf.length : Int) → Turn x qd sA tok pos qd none tok pos true
  | aS {qd tok pos} : nth x pos = some 32 → ((tok.length : Int) != 0) = true → Turn x qd sA tok pos qd sSP tok (pos + 1) true
  | a39 {qd tok pos} : nth x pos = some 39 → Turn x qd sA tok pos qd sQ tok (pos + 1) false
  | a34 {qd tok pos} : nth x pos = some 34 → Turn x qd sA tok pos qd sD tok (pos + 1) false
  | aW {qd tok pos} : nth x pos = some 97 → Turn x qd sA tok pos qd sA (tok ++ ⟨#[97]⟩) (pos + 1) false
  | aO {qd tok pos} (c : Nat) : nth x pos = some c → c ∈ plainO → Turn x qd sA tok pos qd sA (tok ++ ⟨#[c]⟩) (pos + 1) false
  | sE {qd tok pos} : pos = (x.buf.length : Int) → Turn x qd sSP tok pos qd none tok pos true
  | s39 {qd tok pos} : nth x pos = some 39 → Turn x qd sSP tok pos qd sQ tok (pos + 1) false
  | sW {qd tok pos} : nth x pos = some 97 → Turn x qd sSP tok pos qd sA ⟨#[97]⟩ (pos + 1) false
  | sO {qd tok pos} (c : Nat) : nth x pos = some c → c ∈ plainO → Turn x qd sSP tok pos qd sA ⟨#[c]⟩ (pos + 1) false
  | n {qd tok pos} : pos = (x.buf.length : Int) → Turn x qd none tok pos qd none (Str.ofString "") pos true
theorem Turn.pos {x : Lx} {qd st tok pos qd' st' tok' pos' b} (t : Turn x qd st tok pos qd' st' tok' pos' b) (h : 0 ≤ pos) : 0 ≤ pos' := by
  induction t <;> omega
theorem Turn.len {x : Lx} {qd st tok pos qd' st' tok' pos' b} (t : Turn x qd st tok pos qd' st' tok' pos' b) : tok'.length ≤ tok.length + 1 := by
  have a (u : Str) (c : Nat) : (u ++ (⟨#[c]⟩ : Str)).length = u.length + 1 := by
    show (u.cps ++ #[c]).size = _
    rw [Array.size_append]; rfl
  have o (c : Nat) : (⟨#[c]⟩ : Str).length = 1 := rfl
  have z : (Str.ofString "").length = 0 := rfl
  induction t <;> (first | rw [a]; omega | (simp only [o, z]; omega) | omega)
inductive Run (x : Lx) : Nat → Bool → Option Str → Str → Int → Bool → Option Str → Str → Int → Prop where
  | stop {qd st tok pos qd' st' tok' pos'} : Turn x qd st tok pos qd' st' tok' pos' true → Run x 1 qd st tok pos qd' st' tok' pos'
  | more {n qd st tok pos qd' st' tok' pos' qd2 st2 tok2 pos2} : Turn x qd st tok pos qd' st' tok' pos' false → Run x n qd' st' tok' pos' qd2 st2 tok2 pos2 → Run x (n + 1) qd st tok pos qd2 st2 tok2 pos2
section
variable (w : World) (p : Program) (loose : List Str) (mean : ExcName → Option Value) (mg mb : Str → Option Value) (x : Lx) (ok : x.Ok)
    (dp un : Nat) (gd : Option (List Code)) (outer : List Env) (A₀ : Around) (base h₀ : Heap) (L : Addr) (s : Shared) (P : Flow → Shared → Prop)
    (B : Below A₀ base outer h₀) (X : (K w.params).In h₀) (T : Top p loose mean mg mb h₀) (hd : dp + 20 < recursionLimit) (hu : un + 100 < cLine)
include B X T hd hu ok
theorem turn_all {qd st tok pos qd' st' tok' pos' b} (t : Turn x qd st tok pos qd' st' tok' pos' b) (htok : tok.length ≤ 100000) (hp : 0 ≤ pos)
    (at_ : RtAt w x h₀ L qd st tok pos s.heap)
    (next : ∀ h' tk', RtAt w x h₀ L qd' st' tok' pos' h' → P (if b then .brk else .next) { s with heap := h', toks := tk' }) :
    wpAny (model (OpenLaw.prog RR) w) (ktrTop dp un gd (Str.ofString "shlex.read_token") rtF.1.2.2 L 866 (.ref 865) [] outer) (execs rtW.1.2 (rtEnv L)) P (fun _ _ => False) s := by
  induction t with
  | q c h k =>
    simp only [List.mem_cons, List.not_mem_nil, or_false] at k
    rcases k with rfl | rfl | rfl | rfl | rfl | rfl | rfl | rfl | rfl | rfl | rfl <;>
      exact turn_q w p loose mean mg mb x ok dp un gd outer A₀ base h₀ L s P B X T hd hu _ _ _ htok hp _ h (by decide +kernel) (by decide +kernel) (by decide +kernel) (by decide +kernel) at_ next
  | q39 h => exact turn_q39 w p loose mean mg mb x ok dp un gd outer A₀ base h₀ L s P B X T hd hu _ _ _ htok hp h at_ next
  | d39 h => exact turn_d39 w p loose mean mg mb x ok dp un gd outer A₀ base h₀ L s P B X T hd hu _ _ _ htok hp h at_ next
  | d34 h => exact turn_d34 w p loose mean mg mb x ok dp un gd outer A₀ base h₀ L s P B X T hd hu _ _ _ htok hp h at_ next
  | aE h => exact turn_aE w p loose mean mg mb x ok dp un gd outer A₀ base h₀ L s P B X T hd hu _ _ _ htok hp h at_ next
  | aS h k => exact turn_aS w p loose mean mg mb x ok dp un gd outer A₀ base h₀ L s P B X T hd hu _ _ _ htok hp h k at_ next
  | a39 h => exact turn_a39 w p loose mean mg mb x ok dp un gd outer A₀ base h₀ L s P B X T hd hu _ _ _ htok hp h at_ next
  | a34 h => exact turn_a34 w p loose mean mg mb x ok dp un gd outer A₀ base h₀ L s P B X T hd hu _ _ _ htok hp h at_ next
  | aW h => exact turn_aW w p loose mean mg mb x ok dp un gd outer A₀ base h₀ L s P B X T hd hu _ _ _ htok hp _ h (by decide +kernel) (by decide +kernel) (by decide +kernel) (by decide +kernel) (by decide +kernel) (by decide +kernel) (by decide +kernel) at_ next
  | aO c h k =>
    simp only [List.mem_cons, List.not_mem_nil, or_false] at k
    rcases k with rfl | rfl | rfl <;>
      exact turn_aO w p loose mean mg mb x ok dp un gd outer A₀ base h₀ L s P B X T hd hu _ _ _ htok hp _ h (by decide +kernel) (by decide +kernel) (by decide +kernel) (by decide +kernel) (by decide +kernel) (by decide +kernel) (by decide +kernel) at_ next
  | sE h => exact turn_sE w p loose mean mg mb x ok dp un gd outer A₀ base h₀ L s P B X T hd hu _ _ _ htok hp h at_ next
  | s39 h => exact turn_s39 w p loose mean mg mb x ok dp un gd outer A₀ base h₀ L s P B X T hd hu _ _ _ htok hp h at_ next
  | sW h => exact turn_sW w p loose mean mg mb x ok dp un gd outer A₀ base h₀ L s P B X T hd hu _ _ _ htok hp _ h (by decide +kernel) (by decide +kernel) (by decide +kernel) (by decide +kernel) (by decide +kernel) (by decide +kernel) (by decide +kernel) at_ next
  | sO c h k =>
    simp only [List.mem_cons, List.not_mem_nil, or_false] at k
    rcases k with rfl | rfl | rfl <;>
      exact turn_sO w p loose mean mg mb x ok dp un gd outer A₀ base h₀ L s P B X T hd hu _ _ _ htok hp _ h (by decide +kernel) (by decide +kernel) (by decide +kernel) (by decide +kernel) (by decide +kernel) (by decide +kernel) (by decide +kernel) at_ next
  | n h => exact turn_n w p loose mean mg mb x ok dp un gd outer A₀ base h₀ L s P B X T hd hu _ _ _ htok hp h at_ next
end
theorem wh_test (w : World) (A : Around) (env : Env) (s : Shared) (Q : Bool → Shared → Prop) (E : Value → Shared → Prop) (h : Q true s) :
    wpAny (model (OpenLaw.prog RR) w) A (isTrue rtW.1.1 env (eval rtW.1.1 env)) Q E s := by
  dsimp only [rtW]
  repeat' walk1
  all_goals exact h
theorem loop_rest (w : World) (p : Program) (loose : List Str) (mean : ExcName → Option Value) (mg mb : Str → Option Value) (x : Lx) (ok : x.Ok)
    (dp un : Nat) (gd : Option (List Code)) (outer : List Env) (A₀ : Around) (base h₀ : Heap) (L : Addr) (Q : Flow → Shared → Prop)
    (B : Below A₀ base outer h₀) (X : (K w.params).In h₀) (T : Top p loose mean mg mb h₀) (hd : dp + 20 < recursionLimit) (hu : un + 100 < cLine)
    {n qd st tok pos qd2 st2 tok2 pos2} (r : Run x n qd st tok pos qd2 st2 tok2 pos2) (hp : 0 ≤ pos) (hn : n + tok.length ≤ 100000) : ∀ (s : Shared),
    RtAt w x h₀ L qd st tok pos s.heap →
    (∀ h' tk', RtAt w x h₀ L qd2 st2 tok2 pos2 h' → Q .next { s with heap := h', toks := tk' }) →
    WhlRest (OpenLaw.prog RR) w (ktrTop dp un gd (Str.ofString "shlex.read_token") rtF.1.2.2 L 866 (.ref 865) [] outer) (fun _ _ => False) (rtEnv L) rtW.1.1 rtW.1.2 [] Q 0 s := by
  induction r with
  | stop t =>
    intro s a next
    refine whl_turn (k := 0) (fun e s h => h.elim) (wh_test _ _ _ _ _ _ (WhlIf.yes rfl ?_))
    exact turn_all w p loose mean mg mb x ok dp un gd outer A₀ base h₀ L s _ B X T hd hu t (by omega) hp a fun h' tk' a' => next h' tk' a'
  | more t r ih =>
    intro s a next
    refine whl_turn (k := 0) (fun e s h => h.elim) (wh_test _ _ _ _ _ _ (WhlIf.yes rfl ?_))
    have := t.len
    exact turn_all w p loose mean mg mb x ok dp un gd outer A₀ base h₀ L s _ B X T hd hu t (by omega) hp a fun h' tk' a' => ih (t.pos hp) (by omega) _ a' next
theorem whl_any {prog : Program} {w : World} {A : Around} {E : Value → Shared → Prop} {s : Shared} {env : Env} {test : PySem.Expr} {body orelse : List Stmt} {Q : Flow → Shared → Prop} {k : Nat}
    (h : WhlRest prog w A (fun _ _ => False) env test body orelse Q k s) : WhlRest prog w A E env test body orelse Q k s := by
  refine codeAny_mono h fun r s' hr => ?_
  cases r with
  | ok f => exact hr
  | error e => exact wpAny_mono hr (fun _ _ h => h.elim) (fun _ _ h => h.elim)
end Mine
end
section
open PySem PySem.W PySem.Calls PySem.Spec PyProof.Rows
namespace Mine
theorem kw_W4_1 : True := by
  k_with_none
  k_with "ite" => (first | (k_closed; first | refine ite_pos (by decide +kernel) ?_ | refine ite_neg (by decide +kernel) ?_) | refine ite_pos (by with_reducible assumption) ?_ | refine ite_neg (by with_reducible assumption) ?_ | refine ite_isFalse (by with_reducible assumption) ?_)
  trivial
theorem lookup_one {y a : Str} {v : Value} (h : ¬ y = a) : List.lookup y [(a, v)] = none := by
  have : (y == a) = false := by simpa using h
  simp [List.lookup, this]
theorem led_mk {w : World} {x : Lx} {h₀ : Heap} {L : Addr} {sv : Value} {tok : Str} {pos : Int} {h : Heap} {t0 t1 t2 t3 t4 t5 t6 t7 t8 t9 t10 t11 t12 t13 t14 t15 t16 t17 t18 t19 t20 t21 t22 t23 t24 t25 t26 t27 t28 : Tok} {υ : Nat → Tok} {ln : Int} {G : Prop}
    (N : News h₀ L h (ioLed w.params x.io x.dio υ x.buf pos ((x.lex, instObj 898 x.dx) :: (x.dx, dictOf (lexE w.params t0 t1 t2 t3 t4 t5 t6 t7 t8 t9 t10 t11 t12 t13 t14 t15 t16 t17 t18 t19 t20 t21 t22 t23 t24 t25 t26 t27 t28 x.io x.pb x.fs sv ln tok) 19) :: x.rest)))
    (g : ∀ τ', News h₀ L h (lexLed w.params x.lex x.dx x.io x.dio x.pb x.fs τ' υ sv ln tok x.buf pos x.rest) → G) : G :=
  g (fun | 0 => t0 | 1 => t1 | 2 => t2 | 3 => t3 | 4 => t4 | 5 => t5 | 6 => t6 | 7 => t7 | 8 => t8 | 9 => t9 | 10 => t10 | 11 => t11 | 12 => t12 | 13 => t13 | 14 => t14 | 15 => t15 | 16 => t16 | 17 => t17 | 18 => t18 | 19 => t19 | 20 => t20 | 21 => t21 | 22 => t22 | 23 => t23 | 24 => t24 | 25 => t25 | 26 => t26 | 27 => t27 | _ => t28) N
theorem rtAt_mk2 {w : World} {x : Lx} {h₀ : Heap} {L : Addr} {qd : Bool} {st : Option Str} {tok : Str} {pos : Int} {h : Heap} {τ υ : Nat → Tok} {ts te : Tok} {ln : Int} {m : Str → Option Value}
    (F : Fr h₀ L h m) (N : News h₀ L h (lexLed w.params x.lex x.dx x.io x.dio x.pb x.fs τ υ (stV st ts) ln tok x.buf pos x.rest))
    (e2 : m "escapedstate" = some (.str (Str.ofString " ") te))
    (e : ∀ y, m y = mR x.lex qd (Str.ofString " ") te (m "nextchar") y) : RtAt w x h₀ L qd st tok pos h :=
  ⟨τ, υ, ts, te, m "nextchar", ln, fr_eq F (funext e), N⟩
set_option maxRecDepth 100000 in
set_option maxHeartbeats 0 in
theorem rtA : ∀ (w : World) (p : Program) (loose : List Str) (mean : ExcName → Option Value) (mg mb : Str → Option Value)
   (x : Lx) (τ υ : Nat → Tok) (ts : Tok) (ln : Int) (n : Nat) (qd2 : Bool) (st st2 : Option Str) (tok2 : Str) (pos pos2 : Int),
   x.Ok → Run x n false st (Str.ofString "") pos qd2 st2 tok2 pos2 → 0 ≤ pos → n ≤ 90000 → (tok2 == Str.ofString "") = false →
   ∀ (dp un : Nat) (gd : Option (List Code)) (cn : Str) (cs : Scope) (a : Addr) (ccd : Value) (cl : List (Str × Addr)) (outer : List Env) (A₀ : Around) (base h₀ : Heap) (L : Addr) (m : Str → Option Value) (s : Shared) (Q : Value → Shared → Prop),
    Below A₀ base outer h₀ → Fr h₀ L s.heap m → (K w.params).In h₀ → News h₀ L s.heap (lexLed w.params x.lex x.dx x.io x.dio x.pb x.fs τ υ (stV st ts) ln (Str.ofString "") x.buf pos x.rest) → Top p loose mean mg mb h₀ → cs.kind = .function →
     dp + 25 < recursionLimit → un + 150 < cLine →
     (∀ (h' : Heap) (tk' : Nat) (t' : Tok) (τ' υ' : Nat → Tok) (ts' : Tok) (ln' : Int), Fr h₀ L h' m → News h₀ L h' (lexLed w.params x.lex x.dx x.io x.dio x.pb x.fs τ' υ' (stV st2 ts') ln' (Str.ofString "") x.buf pos2 x.rest) →
        Q (.str tok2 t') { s with heap := h', toks := tk' }) →
     wpAny (model (OpenLaw.prog RR) w) (ktrTop dp un gd cn cs L a ccd cl outer) (call (.ref 866) [.ref x.lex]) Q (fun _ _ => False) s := by
  k_fill
  intro w p loose mean mg mb x τ υ ts ln n qd2 st st2 tok2 pos pos2 ok run hp0 hn e9 dp un gd cn cs a ccd cl outer A₀ base h₀ L m s Q B F X N T hk hd hu hret
  obtain ⟨lex, dx, io, dio, pb, fs, rest, buf⟩ := x
  have ok' := ok
  obtain ⟨r1, r2, a1, a2, a3, a4, a5, a6, hb⟩ := ok'
  dsimp only at *
  refine wpAny_call ?_
  k_dflt cell_enter
  iterate 10 (first | (k_unfold; (try dsimp only)) | (k_end; wrow_close) | walk1 | (dsimp only; walk1) | (leave1; walk_say "STEP leave1"; try dsimp only) | skip)
  k_here
  (with_reducible show wpAny _ _ (exec (Stmt.While _ _ _ _) _) _ _ _)
  refine whl_start 0 ?_
  (rename Run _ _ _ _ _ _ _ _ _ _ => hrun)
  (rename Lx.Ok _ => hok)
  (rename Fr _ _ _ _ => F9)
  (rename News _ _ _ _ => N9)
  refine' whl_any (loop_rest _ _ _ _ _ _ _ hok _ _ _ _ _ _ _ _ _ ?lpb ?lpx ?lpt ?lpd ?lpu hrun ?lpp ?lpn _ ?lpa ?lpz)
  (case lpb => k_asm)
  (case lpx => first | assumption | k_asm)
  (case lpt => k_asm)
  (case lpd => k_room)
  (case lpu => ktr_units)
  (case lpp => assumption)
  (case lpn => (have z0 : (Str.ofString "").length = 0 := rfl); omega)
  case lpa => (refine' rtAt_mk2 (te := ?te9) F9 N9 ?e2 ?e; (case e2 => exact rfl); intro y; by_cases y1 : y = ("nextchar" : Str); (subst y1; rfl); by_cases y2 : y = ("escapedstate" : Str); (subst y2; rfl); by_cases y3 : y = ("quoted" : Str); (subst y3; rfl); by_cases y4 : y = ("self" : Str); (subst y4; rfl); (refine Eq.trans (Eq.trans (if_neg y2) (Eq.trans (if_neg y3) (lookup_one y4))) ?_; simp only [mR, y1, y2, y3, y4, if_false]))
  intro h' tk' a'
  obtain ⟨τ9, υ9, ts9, te9, nc9, ln9, F9, N9⟩ := a'
  (try dsimp only)
  (try k_sweep)
  k_steps
  all_goals (rename News _ _ _ _ => N9; exact led_mk (x := ⟨lex, dx, io, dio, pb, fs, rest, buf⟩) N9 fun τ' N' => hret _ _ _ τ' _ _ _ (by assumption) N')
set_option maxRecDepth 100000 in
set_option maxHeartbeats 0 in
theorem rtB : ∀ (w : World) (p : Program) (loose : List Str) (mean : ExcName → Option Value) (mg mb : Str → Option Value)
   (x : Lx) (τ υ : Nat → Tok) (ts : Tok) (ln : Int) (n : Nat) (st st2 : Option Str) (pos pos2 : Int),
   x.Ok → Run x n false st (Str.ofString "") pos false st2 (Str.ofString "") pos2 → 0 ≤ pos → n ≤ 90000 →
   ∀ (dp un : Nat) (gd : Option (List Code)) (cn : Str) (cs : Scope) (a : Addr) (ccd : Value) (cl : List (Str × Addr)) (outer : List Env) (A₀ : Around) (base h₀ : Heap) (L : Addr) (m : Str → Option Value) (s : Shared) (Q : Value → Shared → Prop),
    Below A₀ base outer h₀ → Fr h₀ L s.heap m → (K w.params).In h₀ → News h₀ L s.heap (lexLed w.params x.lex x.dx x.io x.dio x.pb x.fs τ υ (stV st ts) ln (Str.ofString "") x.buf pos x.rest) → Top p loose mean mg mb h₀ → cs.kind = .function →
     dp + 25 < recursionLimit → un + 150 < cLine →
     (∀ (h' : Heap) (tk' : Nat) (τ' υ' : Nat → Tok) (ts' : Tok) (ln' : Int), Fr h₀ L h' m → News h₀ L h' (lexLed w.params x.lex x.dx x.io x.dio x.pb x.fs τ' υ' (stV st2 ts') ln' (Str.ofString "") x.buf pos2 x.rest) →
        Q .none { s with heap := h', toks := tk' }) →
     wpAny (model (OpenLaw.prog RR) w) (ktrTop dp un gd cn cs L a ccd cl outer) (call (.ref 866) [.ref x.lex]) Q (fun _ _ => False) s := by
  k_fill
  intro w p loose mean mg mb x τ υ ts ln n st st2 pos pos2 ok run hp0 hn dp un gd cn cs a ccd cl outer A₀ base h₀ L m s Q B F X N T hk hd hu hret
  obtain ⟨lex, dx, io, dio, pb, fs, rest, buf⟩ := x
  have ok' := ok
  obtain ⟨r1, r2, a1, a2, a3, a4, a5, a6, hb⟩ := ok'
  dsimp only at *
  refine wpAny_call ?_
  k_dflt cell_enter
  iterate 10 (first | (k_unfold; (try dsimp only)) | (k_end; wrow_close) | walk1 | (dsimp only; walk1) | (leave1; walk_say "STEP leave1"; try dsimp only) | skip)
  k_here
  (with_reducible show wpAny _ _ (exec (Stmt.While _ _ _ _) _) _ _ _)
  refine whl_start 0 ?_
  (rename Run _ _ _ _ _ _ _ _ _ _ => hrun)
  (rename Lx.Ok _ => hok)
  (rename Fr _ _ _ _ => F9)
  (rename News _ _ _ _ => N9)
  refine' whl_any (loop_rest _ _ _ _ _ _ _ hok _ _ _ _ _ _ _ _ _ ?lpb ?lpx ?lpt ?lpd ?lpu hrun ?lpp ?lpn _ ?lpa ?lpz)
  (case lpb => k_asm)
  (case lpx => first | assumption | k_asm)
  (case lpt => k_asm)
  (case lpd => k_room)
  (case lpu => ktr_units)
  (case lpp => assumption)
  (case lpn => (have z0 : (Str.ofString "").length = 0 := rfl); omega)
  case lpa => (refine' rtAt_mk2 (te := ?te9) F9 N9 ?e2 ?e; (case e2 => exact rfl); intro y; by_cases y1 : y = ("nextchar" : Str); (subst y1; rfl); by_cases y2 : y = ("escapedstate" : Str); (subst y2; rfl); by_cases y3 : y = ("quoted" : Str); (subst y3; rfl); by_cases y4 : y = ("self" : Str); (subst y4; rfl); (refine Eq.trans (Eq.trans (if_neg y2) (Eq.trans (if_neg y3) (lookup_one y4))) ?_; simp only [mR, y1, y2, y3, y4, if_false]))
  intro h' tk' a'
  obtain ⟨τ9, υ9, ts9, te9, nc9, ln9, F9, N9⟩ := a'
  (try dsimp only)
  (try k_sweep)
  k_steps
  all_goals (rename News _ _ _ _ => N9; exact led_mk (x := ⟨lex, dx, io, dio, pb, fs, rest, buf⟩) N9 fun τ' N' => hret _ _ τ' _ _ _ (by assumption) N')
end Mine
end
section
open PySem PySem.W PySem.Calls PySem.Spec PyProof.Rows
set_option maxRecDepth 100000
namespace Mine
noncomputable abbrev DQ : String := "collections.deque"
noncomputable abbrev dqObj : Obj := { cls := .type DQ, dict := none, data := .fields #[.none, rawInt 0] }
theorem dq_noBool : typeLookup (.type DQ) "__bool__" = pure none := by rw [typeLookup_type, builtinLookup_eq_fast]; kernel_rfl
theorem dq_slot_len : Slot DQ "__len__" "collections.deque.__len__" :=
  .of (owner := DQ) (n := "__len__") (by rw [typeLookup_type, builtinLookup_eq_fast]; kernel_rfl) (by decide +kernel) (by decide +kernel) (by decide +kernel)
    (by first | exact .inl (by decide +kernel) | exact .inr (by decide +kernel)) (by rw [isSubtype_type]; kernel_rfl)
theorem dq_entry_len : entryFor table "collections.deque.__len__" = some Builtin.«collections.deque.__len__» := entryFor_of_fast (by kernel_rfl)
theorem dq_args_len (a : Value) : argsOk "collections.deque.__len__" ⟨[a], []⟩ := by unfold argsOk; kernel_rfl
section
variable {prog : Program} {w : World} {A : Around} {E : Value → Shared → Prop} {s : Shared}
theorem dq_typeIs {a : Addr} (h : s.heap.get? a = some dqObj) : s.TypeIs (.ref a) DQ := ⟨_, h, rfl⟩
theorem dq_len_body {a : Addr} {Q : Value → Shared → Prop} (hg : s.heap.get? a = some dqObj)
    (h : Q (.int 0 (s.toks + 1)) { s with toks := s.toks + 1 + 1 }) : wpAny (model prog w) A (Builtin.«len» ⟨[.ref a], []⟩) (fun fin s' => ∃ r, fin = .done (.ret r) ∧ Q r s') E s := by
  unfold Builtin.«len»
  refine wpAny_bind (m := oneArg "len" _) (wpAny_pure ?_)
  refine wpAny_bind (m := callSpecial? (.ref a) (Str.ofString "__len__")) (wpAny_callSpecial?_slot (name := Str.ofString "__len__") (dq_typeIs hg) dq_slot_len
    (wpAny_call_entry dq_slot_len (dq_typeIs hg) dq_entry_len ?_ (dq_args_len _)))
  · unfold Builtin.«collections.deque.__len__» Builtin.Deque.size slotArgs fieldsOf
    wp_walk
    refine ⟨_, rfl, ?_⟩
    refine wpAny_bind (wpAny_holding (wpAny_pure ?_))
    refine wpAny_bind (wpAny_letGo ?_)
    show wpAny _ _ (if ((#[Value.none, rawInt 0].size - 2 : Nat) : Int) < 0 then _ else _) _ _ _
    rw [if_neg (by decide)]
    show wpAny _ _ (if ((#[Value.none, rawInt 0].size - 2 : Nat) : Int) ≥ 2 ^ 63 then _ else _) _ _ _
    rw [if_neg (by decide)]
    exact wpAny_bind (wpAny_mkInt (wpAny_pure ⟨_, rfl, h⟩))
theorem dq_truthy {a : Addr} {Q : Bool → Shared → Prop} (hg : s.heap.get? a = some dqObj)
    (h : Q false { s with toks := s.toks + 1 + 1 }) : wpAny (model prog w) A (truthy (.ref a)) Q E s := by
  have key : wpAny (model prog w) A (runValue (.builtin "len" ⟨[.ref a], []⟩)) (fun r s' => r = .int 0 (s.toks + 1) ∧ Q false s') E s := by
    refine wpAny_runValue (codeAny_builtin entry_len ?_)
    rw [Around.under_plainId plain_len _]
    exact wpAny_mono (dq_len_body (Q := fun r s' => r = .int 0 (s.toks + 1) ∧ Q false s') hg ⟨rfl, h⟩)
      (fun fin s' h' => by obtain ⟨r, rfl, hq⟩ := h'; exact hq) fun _ _ e => e
  unfold truthy
  first
    | refine wpAny_bind (wpAny_callSpecial?_none (name := Str.ofString "__bool__") (dq_typeIs hg) dq_noBool ?_)
    | refine wpAny_bind (wpAny_pure (wpAny_bind (wpAny_callSpecial?_none (name := Str.ofString "__bool__") (dq_typeIs hg) dq_noBool ?_)))
  first
    | refine wpAny_bind (wpAny_specialOf (name := Str.ofString "__len__") (dq_typeIs hg) dq_slot_len.lookup ?_)
    | refine wpAny_bind (wpAny_pure (wpAny_bind (wpAny_specialOf (name := Str.ofString "__len__") (dq_typeIs hg) dq_slot_len.lookup ?_)))
  have z : ((0 : Int) != 0) = false := rfl
  first
    | exact wpAny_bind (wpAny_mono key (fun r s' h' => by obtain ⟨rfl, hq⟩ := h'; exact wpAny_pure hq) fun _ _ e => e)
    | exact wpAny_bind (wpAny_pure (wpAny_bind (wpAny_mono key (fun r s' h' => by obtain ⟨rfl, hq⟩ := h'; exact wpAny_pure hq) fun _ _ e => e)))
theorem dq_slot_init : Slot DQ "__init__" "collections.deque.__init__" :=
  .of (owner := DQ) (n := "__init__") (by rw [typeLookup_type, builtinLookup_eq_fast]; kernel_rfl) (by decide +kernel) (by decide +kernel) (by decide +kernel)
    (by first | exact .inl (by decide +kernel) | exact .inr (by decide +kernel)) (by rw [isSubtype_type]; kernel_rfl)
theorem dq_mro : mroOf (.type DQ) = pure [.type DQ, .type "object"] := by rw [mroOf_type]; kernel_rfl
theorem dq_lookup_new : typeLookup (.type DQ) "__new__" = pure (some (.builtin "collections.deque.__new__")) := by rw [typeLookup_type, builtinLookup_eq_fast]; kernel_rfl
theorem dq_sub : isSubtype (.type DQ) (.type DQ) = pure true := by rw [isSubtype_type]; kernel_rfl
theorem dq_called : TypeCalled DQ "collections.deque.__new__" "collections.deque.__init__" :=
  ⟨by decide +kernel, by decide +kernel, ⟨_, _, dq_mro⟩, madeBy_type dq_mro dq_lookup_new (by decide +kernel), by decide +kernel, dq_sub, dq_slot_init⟩
theorem dq_typeCall : checkTypeCall DQ ⟨[], []⟩ = pure () := by kernel_rfl
theorem dq_newCall : checkBuiltinCall "collections.deque.__new__" ⟨[.type DQ], []⟩ = pure () := by kernel_rfl
theorem dq_entry_new : entryFor table "collections.deque.__new__" = some Builtin.«collections.deque.__new__» := entryFor_of_tree (by kernel_rfl)
theorem dq_entry_init : entryFor table "collections.deque.__init__" = some Builtin.«collections.deque.__init__» := entryFor_of_tree (by kernel_rfl)
theorem dq_plain_new : plainId "collections.deque.__new__" = true := by decide +kernel
theorem dq_new_meets : Meets (Builtin.«collections.deque.__new__» ⟨[.type DQ], []⟩) (fun _ R s₁ => R (.ok (.ret (.ref s₁.heap.objs.size))) { s₁ with heap := s₁.heap.push dqObj }) := by
  refine Meets.of_wp fun prog w A R s h => ?_
  unfold Builtin.«collections.deque.__new__» Builtin.Deque.newArgs Builtin.Deque.new
  have hsub := dq_sub
  have hd : typeHasDict (.type DQ) = false := by kernel_rfl
  obtain ⟨hp, g, d, tk, os⟩ := s
  dsimp only
  wp_walk
  refine wpAny_of_eq dq_sub ?_
  rw [if_neg (by decide)]
  wp_walk
  exact ⟨_, rfl, h⟩
theorem dq_argsOk (obj : Value) : argsOk "collections.deque.__init__" ⟨[obj], []⟩ := by unfold argsOk; kernel_rfl
theorem dq_init_meets (a : Addr) : Meets (Builtin.«collections.deque.__init__» ⟨[.ref a], []⟩) (fun _ R s => s.heap.get? a = some dqObj ∧ ∀ h', h'.get? a = some dqObj → (∀ b, b ≠ a → h'.get? b = s.heap.get? b) → h'.objs.size = s.heap.objs.size → R (.ok (.ret .none)) { s with heap := h' }) := by
  refine Meets.of_wp fun prog w A R s hs => ?_
  obtain ⟨hT, hq⟩ := hs
  unfold Builtin.«collections.deque.__init__» Builtin.Deque.clear Builtin.Deque.items
  obtain ⟨hp, g, d, tk, os⟩ := s
  dsimp only
  wp_walk
  have e : (hp.update a (Obj.mapFields fun x => x.setIfInBounds 0 Value.none)).get? a = some dqObj := by
    rw [Heap.get?_update_self _ hT (by rfl)]; rfl
  exact ⟨_, rfl, hq _ e (fun b hb => Heap.get?_update_other hp _ (Ne.symm hb)) (Heap.size_update _ _ _)⟩
theorem dq_call {Q : Value → Shared → Prop} {h₀ : Heap} {L : Addr} {m : Str → Option Value} {news : List (Addr × Obj)} (F : Fr h₀ L s.heap m) (N : News h₀ L s.heap news)
    (h : ∀ (a : Addr) h', Fr h₀ L h' m → News h₀ L h' ((a, dqObj) :: news) → (∀ q ∈ news, q.1 < a) → Q (.ref a) { s with heap := h' }) :
    wpAny (model prog w) A (call (.type DQ) []) Q E s := by
  have hS : (s.heap.push dqObj).get? s.heap.objs.size = some dqObj := Heap.get?_push_size _ rfl
  have F1 : Fr h₀ L (s.heap.push dqObj) m := F.push _
  have N1 := N.push F dqObj
  refine callType_meets dq_called dq_typeCall dq_newCall dq_entry_new dq_entry_init (S := fun _ R s₁ => R (.ok (.ret (.ref s₁.heap.objs.size))) { s₁ with heap := s₁.heap.push dqObj })
    (Q₁ := fun obj s₁ => obj = .ref s.heap.objs.size ∧ s₁ = { s with heap := s.heap.push dqObj }) ?_ ⟨rfl, rfl⟩ ?_
  · exact dq_new_meets
  · rintro obj s₁ ⟨rfl, rfl⟩
    refine ⟨⟨_, hS, rfl⟩, dq_argsOk _, _, dq_init_meets _, hS, fun h' e1 e2 e3 => ⟨rfl, ?_⟩⟩
    have hk : ∀ b o, (s.heap.push dqObj).get? b = some o → h'.get? b = some o := by
      intro b o e
      by_cases hb : b = s.heap.objs.size
      · subst hb; rw [hS] at e; rw [e1]; exact e
      · rw [e2 b hb]; exact e
    exact h _ h' (F1.keeps hk) (N1.grown hk) fun q hq => Heap.lt_size (N q hq).1
end
end Mine
end
section
open PySem PySem.W PySem.Calls PySem.Spec PyProof.Rows
namespace Mine
theorem kw_W5_1 : True := by
  k_with_none
  k_with "execs cons" => (first | (k_here; k_gentoks) | (refine' execs_one ?_) | (refine' execs_let ?_; intro Cq9))
  k_with "ite" => (first | (k_closed; first | refine ite_pos (by decide +kernel) ?_ | refine ite_neg (by decide +kernel) ?_) | refine ite_pos (by with_reducible assumption) ?_ | refine ite_neg (by with_reducible assumption) ?_ | refine ite_isFalse (by with_reducible assumption) ?_)
  trivial
theorem anyE {α : Type} {M : Model} {A : Around} {t : Sem α} {Q : α → Shared → Prop} {E : Value → Shared → Prop} {s : Shared} (h : wpAny M A t Q (fun _ _ => False) s) : wpAny M A t Q E s := wpAny_mono h (fun _ _ h => h) (fun _ _ h => h.elim)
theorem kw_W5_2 : True := by
  k_with "call ref" => (k_here; k_dflt (show wpAny _ _ (call (Value.ref 866) [Value.ref _]) _ _ _); (rename Run _ _ _ _ _ _ _ _ _ _ => hrunq9); (rename Lx.Ok _ => hokq9); k_dflt (refine' anyE (rtA _ _ _ _ _ _ _ _ _ _ _ _ _ _ _ _ _ _ hokq9 hrunq9 ?pq9 ?nq9 ?e9q9 _ _ _ _ _ _ _ _ _ _ _ _ _ _ _ _ ?k1q9 ?k2q9 ?k3q9 ?k4q9 ?k5q9 ?kKq9 ?kdq9 ?kuq9 ?kRq9); (case k1q9 => k_asm); (case k2q9 => k_asm); (case k3q9 => k_asm); (case k4q9 => k_asm); (case k5q9 => k_asm); (case kKq9 => first | exact rfl | assumption); (case pq9 => assumption); (case nq9 => assumption); (case e9q9 => assumption); (case kdq9 => k_room); (case kuq9 => ktr_units)); intro h'q9 tk'q9 t'q9 τ' υ' ts'q9 ln'q9 F'q9 N'q9; (try dsimp only); (try k_sweep); walk_say "RTA")
  k_with "call ref" => (k_here; k_dflt (show wpAny _ _ (call (Value.ref 866) [Value.ref _]) _ _ _); (rename Run _ _ false _ _ _ false _ (Str.ofString "") _ => hrunq9); (rename Lx.Ok _ => hokq9); k_dflt (refine' anyE (rtB _ _ _ _ _ _ _ _ _ _ _ _ _ _ _ _ hokq9 hrunq9 ?pq9 ?nq9 _ _ _ _ _ _ _ _ _ _ _ _ _ _ _ _ ?k1q9 ?k2q9 ?k3q9 ?k4q9 ?k5q9 ?kKq9 ?kdq9 ?kuq9 ?kRq9); (case k1q9 => k_asm); (case k2q9 => k_asm); (case k3q9 => k_asm); (case k4q9 => k_asm); (case k5q9 => k_asm); (case kKq9 => first | exact rfl | assumption); (case pq9 => assumption); (case nq9 => assumption); (case kdq9 => k_room); (case kuq9 => ktr_units)); intro h'q9 tk'q9 τ' υ' ts'q9 ln'q9 F'q9 N'q9; (try dsimp only); (try k_sweep); walk_say "RTB")
  k_with "truthy ref" => (k_here; (with_reducible show wpAny _ _ (truthy (Value.ref _)) _ _ _); (refine' dq_truthy ?k1q9 ?_; (case k1q9 => exact News.get (by k_asm) (by first | exact .tail _ (.tail _ (.tail _ (.tail _ (.head _)))) | exact .tail _ (.tail _ (.tail _ (.tail _ (.tail _ (.head _)))))))); walk_say "DQT")
  trivial
set_option maxRecDepth 100000 in
set_option maxHeartbeats 0 in
theorem nextA : ∀ (w : World) (p : Program) (loose : List Str) (mean : ExcName → Option Value) (mg mb : Str → Option Value)
   (x : Lx) (r0 : List (Addr × Obj)) (τ υ : Nat → Tok) (ts : Tok) (ln : Int) (n : Nat) (qd2 : Bool) (st st2 : Option Str) (tok2 : Str) (pos pos2 : Int),
   x.rest = (x.pb, dqObj) :: (x.fs, dqObj) :: r0 → x.Ok → Run x n false st (Str.ofString "") pos qd2 st2 tok2 pos2 → 0 ≤ pos → n ≤ 90000 → (tok2 == Str.ofString "") = false →
   ∀ (dp un : Nat) (gd : Option (List Code)) (cn : Str) (cs : Scope) (a : Addr) (ccd : Value) (cl : List (Str × Addr)) (outer : List Env) (A₀ : Around) (base h₀ : Heap) (L : Addr) (m : Str → Option Value) (s : Shared) (Q : Option Value → Shared → Prop),
    Below A₀ base outer h₀ → Fr h₀ L s.heap m → (K w.params).In h₀ → News h₀ L s.heap (lexLed w.params x.lex x.dx x.io x.dio x.pb x.fs τ υ (stV st ts) ln (Str.ofString "") x.buf pos x.rest) → Top p loose mean mg mb h₀ → cs.kind = .function →
     dp + 35 < recursionLimit → un + 300 < cLine →
     (∀ (h' : Heap) (tk' : Nat) (t' : Tok) (τ' υ' : Nat → Tok) (ts' : Tok) (ln' : Int), Fr h₀ L h' m → News h₀ L h' (lexLed w.params x.lex x.dx x.io x.dio x.pb x.fs τ' υ' (stV st2 ts') ln' (Str.ofString "") x.buf pos2 x.rest) →
        Q (some (.str tok2 t')) { s with heap := h', toks := tk' }) →
     wpAny (model (OpenLaw.prog RR) w) (ktrTop dp un gd cn cs L a ccd cl outer) (pyNext (.ref x.lex)) Q (fun _ _ => False) s := by
  k_fill
  intro w p loose mean mg mb x r0 τ υ ts ln n qd2 st st2 tok2 pos pos2 hr0 ok run hp0 hn e9 dp un gd cn cs a ccd cl outer A₀ base h₀ L m s Q B F X N T hk hd hu hret
  obtain ⟨lex, dx, io, dio, pb, fs, rest, buf⟩ := x
  dsimp only at hr0
  subst hr0
  have ok' := ok
  obtain ⟨r1, r2, a1, a2, a3, a4, a5, a6, hb⟩ := ok'
  dsimp only at *
  refine' owit_next ?F ?X ?I ?hs ?hf ?_
  case F => k_asm
  case X => k_asm
  case I => k_inst
  case hs => k_is
  case hf => k_is
  refine wpAny_call ?_
  k_dflt cell_enter
  k_steps
  all_goals exact hret _ _ _ _ _ _ _ (by assumption) (by assumption)
theorem owit_stopS {M : Model} {A A₀ : Around} {E : Value → Shared → Prop} {Q : Option Value → Shared → Prop} {s : Shared} {base g G : Heap} {outer : List Env} {L a e t : Addr} {m : Str → Option Value} {name : Str} {scope : Scope} {cd : Value} {vs : List Value} {news : List (Addr × Obj)} {KF : Frag}
    {p : Program} {loose : List Str} {mean : ExcName → Option Value} {mg mb : Str → Option Value} {Y : String}
    (R : RaisedS base G (envOf name scope L a cd :: outer) e (.type Y) t vs news s.heap) (F : Fr g L G m) (B0 : Below A₀ base outer g) (hsm : G.UpToSlots s.heap) (XB : KF.In base) (TB : Top p loose mean mg mb base)
    (D : KtsDicts (outer.filterMap (·.frame)) g) (hsub : isSubtype (.type Y) (.type "StopIteration") = pure true)
    (k : ∀ g', KtsTurn (outer.filterMap (·.frame)) g g' → Fr g' L s.heap m → News g' L s.heap news → Below A₀ base outer g' → KF.In g' → Top p loose mean mg mb g' → KtsDicts (outer.filterMap (·.frame)) g' → Q none s) : OwitStop M A Q E (.ref e) s := by
  obtain ⟨⟨B, hB, hBG, hl, hfl, _⟩, _⟩ := R
  have hL : B.get? L = none := by
    obtain ⟨_, ⟨L', _, hf, hn', _⟩, _⟩ := hfl.2.2.1
    obtain rfl : L = L' := Option.some.inj hf
    exact hn'
  obtain ⟨ob, hob, hobc⟩ := (flyingW_base hB hfl).there
  have hT : s.TypeIs (.ref e) Y := (show ∃ o, s.heap.get? e = some o ∧ o.cls = .type Y from ⟨ob, hob, hobc⟩)
  obtain ⟨g', T, F', K'⟩ := kts_ground B0 F hBG hfl.1 hsm
  unfold OwitStop
  refine wpAny_isInstance hT hsub ?_
  show (if true = true then Q none s else E (.ref e) s)
  rw [if_pos rfl]
  exact k g' T F' (fun q hq => ⟨hfl.1 _ _ (hl q hq).1, (fun z => by have := (hl q hq).1; rw [z, hL] at this; cases this), T.none_ _ (kts_none F.keep (hl q hq).2.1)⟩) K' (XB.keeps K'.stays) (TB.keeps K'.stays) (D.turn T)
set_option maxRecDepth 100000 in
set_option maxHeartbeats 0 in
theorem nextB : ∀ (w : World) (p : Program) (loose : List Str) (mean : ExcName → Option Value) (mg mb : Str → Option Value)
   (x : Lx) (r0 : List (Addr × Obj)) (τ υ : Nat → Tok) (ts : Tok) (ln : Int) (n : Nat) (st st2 : Option Str) (pos pos2 : Int),
   x.rest = (x.pb, dqObj) :: (x.fs, dqObj) :: r0 → x.Ok → Run x n false st (Str.ofString "") pos false st2 (Str.ofString "") pos2 → 0 ≤ pos → n ≤ 90000 →
   ∀ (dp un : Nat) (gd : Option (List Code)) (cn : Str) (cs : Scope) (a : Addr) (ccd : Value) (outer : List Env) (A₀ : Around) (base h₀ : Heap) (L : Addr) (m : Str → Option Value) (s : Shared) (Q : Option Value → Shared → Prop),
    Below A₀ base outer h₀ → Fr h₀ L s.heap m → (K w.params).In h₀ → News h₀ L s.heap (lexLed w.params x.lex x.dx x.io x.dio x.pb x.fs τ υ (stV st ts) ln (Str.ofString "") x.buf pos x.rest) → Top p loose mean mg mb h₀ → (K w.params).In base → Top p loose mean mg mb base → KtsDicts (outer.filterMap (·.frame)) h₀ → cs.kind = .function →
     dp + 35 < recursionLimit → un + 300 < cLine →
     (∀ (g' h' : Heap) (tk' : Nat) (τ' υ' : Nat → Tok) (ts' : Tok) (ln' : Int), KtsTurn (outer.filterMap (·.frame)) h₀ g' → Below A₀ base outer g' → (K w.params).In g' → Top p loose mean mg mb g' → KtsDicts (outer.filterMap (·.frame)) g' → Fr g' L h' m → News g' L h' (lexLed w.params x.lex x.dx x.io x.dio x.pb x.fs τ' υ' (stV st2 ts') ln' (Str.ofString "") x.buf pos2 x.rest) →
        Q none { s with heap := h', toks := tk' }) →
     wpAny (model (OpenLaw.prog RR) w) (ktrTop dp un gd cn cs L a ccd [] outer) (pyNext (.ref x.lex)) Q (fun _ _ => False) s := by
  k_fill
  intro w p loose mean mg mb x r0 τ υ ts ln n st st2 pos pos2 hr0 ok run hp0 hn dp un gd cn cs a ccd outer A₀ base h₀ L m s Q B F X N T XB TB D hk hd hu hret
  obtain ⟨lex, dx, io, dio, pb, fs, rest, buf⟩ := x
  dsimp only at hr0
  subst hr0
  have ok' := ok
  obtain ⟨r1, r2, a1, a2, a3, a4, a5, a6, hb⟩ := ok'
  dsimp only at *
  refine' owit_next ?F ?X ?I ?hs ?hf ?_
  case F => k_asm
  case X => k_asm
  case I => k_inst
  case hs => k_is
  case hf => k_is
  refine wpAny_call ?_
  k_dflt cell_enter
  k_steps
  all_goals (rename RaisedS _ _ _ _ _ _ _ _ _ => rs9; rename Heap.UpToSlots _ _ => up9; refine' owit_stopS rs9 ?oF ?oB ?oU ?oXB ?oTB ?oD ?oS ?oK; (case oF => assumption); (case oB => assumption); (case oU => assumption); (case oXB => assumption); (case oTB => assumption); (case oD => assumption); (case oS => (rw [isSubtype_type]; kernel_rfl)))
  all_goals intro g9 T9 F9 N9 B9 X9 P9 D9
  all_goals exact hret _ _ _ _ _ _ _ T9 B9 X9 P9 D9 F9 N9
end Mine
end
section
open PySem PySem.W PySem.Calls PySem.Spec PyProof.Rows
set_option maxRecDepth 100000
namespace Mine
noncomputable abbrev listO (xs : Array Value) (c : Nat) : Obj := { cls := .type "list", dict := none, data := .seq xs c, slots := #[] }
noncomputable def listUps (h : Heap) (S : Addr) (v : Value) : Heap := h.update S (Obj.mapSeq (·.push v))
section
variable {prog : Program} {w : World} {A : Around} {E : Value → Shared → Prop} {s : Shared}
theorem instAt_keeps {h h' : Heap} {x C : Addr} {ox : Obj} {od : Option Obj} (I : InstAt h x ox C od) (k : ∀ b o, h.get? b = some o → h'.get? b = some o) : InstAt h' x ox C od := by
  refine ⟨k _ _ I.at_, I.cls, I.no, ?_⟩
  have := I.dict
  split at this <;> first | exact k _ _ this | exact this
noncomputable def NextPost (S : Addr) (R : Shared → Prop) (J : Nat → Shared → Prop) (n : Nat) (r : Option Value) (s' : Shared) : Prop := match r with
  | none => R s'
  | some v => ∃ xs c, s'.heap.get? S = some (listO xs c) ∧ xs.size ≤ 100000 ∧ ∃ m, m < n ∧ J m { s' with heap := listUps s'.heap S v }
theorem ext_loop (I S : Addr) (R : Shared → Prop) (J : Nat → Shared → Prop)
    (turn : ∀ n s, J n s → wpAny (model prog w) A.in1 (pyNext (.ref I)) (NextPost S R J n) (fun _ _ => False) s) :
    ∀ n s, J n s → codeAny (model prog w) A (.builtin "list.extend.loop" ⟨[.ref S, .ref I, .none], []⟩) (fun r s' => match r with | .ok (.ret v) => v = .none ∧ R s' | _ => False) s := by
  intro n
  induction n using Nat.strongRecOn with
  | ind n ih =>
    intro s hJ
    refine codeAny_builtin F.entry_extend_loop ?_
    rw [Around.under_plainId F.plain_extend_loop _]
    show wpAny _ A.in1 (pyNext (.ref I) >>= _) _ _ s
    refine wpAny_bind (wpAny_mono (turn n s hJ) (fun r s' hr => ?_) fun _ _ h => h.elim)
    cases r with
    | none => exact wpAny_pure ⟨rfl, hr⟩
    | some v =>
      obtain ⟨xs, c, hS, hsz, m, hm, hJ'⟩ := hr
      show wpAny _ A.in1 (updateSeq S (·.push v) >>= _) _ _ _
      refine wpAny_bind ?_
      refine wpAny_updateSeq hS rfl (wpAny_pure ⟨plainId_quiet F.plain_extend_loop _, ih m hm _ hJ'⟩) ?_ ?_
      · show xs.size ≤ _; exact Nat.le_trans hsz (by decide)
      · show (xs.push v).size ≤ sizeLine + 1; rw [Array.size_push]; exact Nat.le_trans (Nat.succ_le_succ hsz) (by decide)
theorem list_own {K : Frag} {I C f L : Addr} {h₀ : Heap} {m : Str → Option Value} {nx : Value} {ox : Obj} {od : Option Obj} {R : Shared → Prop} {Q : Value → Shared → Prop} (J : Nat → Shared → Prop) (n : Nat)
    (F1 : Fr h₀ L s.heap m) (X₀ : K.In h₀) (In : InstAt s.heap I ox C od)
    (hs : findIn K (.ref C) "__iter__" = some (some (.ref f))) (hf : isFn K (.ref f) = true) (hl : findIn K (.ref C) "__len__" = some none) (hn : findIn K (.ref C) "__next__" = some (some nx)) (hh : findIn K (.ref C) "__length_hint__" = some none)
    (hi : ∀ h', (∀ b o, s.heap.get? b = some o → h'.get? b = some o) → (∃ c, h'.get? s.heap.objs.size = some (listO #[] c)) →
      wpAny (model prog w) A.in1.in1 (call (.ref f) [.ref I]) (fun v s' => v = .ref I ∧ Fr h₀ L s'.heap m ∧ InstAt s'.heap I ox C od ∧ (∃ c, s'.heap.get? s.heap.objs.size = some (listO #[] c)) ∧
         ∀ h'', (∀ b o, b ≠ s.heap.objs.size → s'.heap.get? b = some o → h''.get? b = some o) → (∃ c, h''.get? s.heap.objs.size = some (listO #[] c)) → J n { s' with heap := h'' }) (fun _ _ => False) { s with heap := h' })
    (turn : ∀ n s', J n s' → wpAny (model prog w) A.in1.in1 (pyNext (.ref I)) (NextPost s.heap.objs.size R J n) (fun _ _ => False) s')
    (hq : ∀ s', R s' → Q (.ref s.heap.objs.size) s') :
    wpAny (model prog w) A (call (.type "list") [.ref I]) Q E s := by
  refine callType_codes (Q₁ := fun obj s₁ => obj = .ref s.heap.objs.size ∧ s₁ = { s with heap := s.heap.push { cls := .type "list", data := .seq #[] } }) F.called_list (F.typeCall_list_1 _) F.entry_list_init
    (code_list_new _ ⟨rfl, rfl⟩) fun obj s₁ h₁ => ?_
  obtain ⟨rfl, rfl⟩ := h₁
  have hS : (s.heap.push { cls := .type "list", data := .seq #[] }).get? s.heap.objs.size = some (listO #[] 0) := Heap.get?_push_size _ rfl
  have hne : s.heap.objs.size ≠ I := (Nat.ne_of_gt (Heap.lt_size In.at_))
  refine ⟨⟨_, hS, rfl⟩, F.args_list_init_2 _ _, ?_⟩
  show wpAny _ A.in1.in1 (do let old ← Builtin.List.listItems (.ref s.heap.objs.size); Builtin.List.listUpdate (.ref s.heap.objs.size) (fun _ => #[]); letGo old.toList.reverse; Builtin.List.listExtendWith (.ref s.heap.objs.size) (.ref I) .none) _ _ _
  refine wpAny_bind ?_
  unfold Builtin.List.listItems
  refine wpAny_bind (wpAny_seqItems hS rfl (wpAny_pure ?_))
  show wpAny _ A.in1.in1 (updateSeq s.heap.objs.size (fun _ => #[]) >>= fun _ => letGo (#[] : Array Value).toList.reverse >>= fun _ => Builtin.List.listExtendWith (.ref s.heap.objs.size) (.ref I) .none) _ _ _
  refine wpAny_bind (wpAny_updateSeq hS rfl ?_)
  have hS₂ := Heap.get?_update_self (Obj.mapSeq (fun _ => (#[] : Array Value))) hS rfl
  have keep : ∀ b o, s.heap.get? b = some o → ((s.heap.push { cls := .type "list", data := .seq #[] }).update s.heap.objs.size (Obj.mapSeq (fun _ => (#[] : Array Value)))).get? b = some o :=
    fun b o e => (Heap.get?_update_other _ _ (Nat.ne_of_gt (Heap.lt_size e))).trans (Heap.get?_push_of_some _ e)
  refine wpAny_bind (wpAny_letGo ?_)
  generalize ((s.heap.push { cls := .type "list", data := .seq #[] }).update s.heap.objs.size (Obj.mapSeq (fun _ => (#[] : Array Value)))) = h1 at keep hS₂ ⊢
  have hS1 : ∃ c, h1.get? s.heap.objs.size = some (listO #[] c) := ⟨_, hS₂⟩
  unfold Builtin.List.listExtendWith
  refine wpAny_bind ((In.type.keeps keep).here ?_)
  have e1 : Builtin.List.listSameRef (.ref s.heap.objs.size) (.ref I) = false := by simp [Builtin.List.listSameRef, hne]
  have e2 : (Value.ref C == Value.type "list") = false := rfl
  have e3 : (Value.ref C == Value.type "tuple") = false := rfl
  simp only [e1, e2, e3, Bool.or_false, Bool.false_eq_true, if_false]
  have F2 := F1.keeps keep
  have In2 : InstAt h1 I ox C od := instAt_keeps In keep
  refine wpAny_bind (owit_iter F2 X₀ In2 hs hf (wpAny_mono (hi h1 keep hS1) (fun v s2 hv => ?_) fun _ _ h => h.elim))
  obtain ⟨rfl, F3, In3, ⟨c1, hS4⟩, hJ⟩ := hv
  refine owit_it F3 X₀ In3 hn ?_
  have X3 := X₀.keeps F3.keep
  refine wpAny_bind (wpAny_holding ?_)
  unfold Builtin.List.listLengthHint specialOf
  refine wpAny_bind (wpAny_bind (In3.type.here ((looks_findIn X3 hl).here ?_)))
  show wpAny _ A.in1.in1 (specialOf (Value.ref I) (Str.ofString "__length_hint__") >>= _) _ _ _
  unfold specialOf
  refine wpAny_bind (wpAny_bind (In3.type.here ((looks_findIn X3 hh).here ?_)))
  refine wpAny_pure ?_
  show wpAny _ A.in1.in1 (rule "list.extend.makes-room" >>= fun _ => Builtin.List.listTouch (.ref s.heap.objs.size) >>= fun _ =>
    again (.builtin "list.extend.loop" ⟨[.ref s.heap.objs.size, .ref I, .none], []⟩)) _ _ _
  refine wpAny_bind (wpAny_rule ?_)
  refine wpAny_bind ?_
  show wpAny _ A.in1.in1 (updateSeq s.heap.objs.size (·.push .none) >>= fun _ => updateSeq s.heap.objs.size (·.pop)) _ _ _
  refine wpAny_bind (wpAny_updateSeq hS4 rfl ?_)
  have hS5 := Heap.get?_update_self (Obj.mapSeq (·.push Value.none)) hS4 rfl
  refine wpAny_updateSeq (hz := by seq_fits) hS5 rfl ?_
  have hS6 := Heap.get?_update_self (Obj.mapSeq (·.pop)) hS5 rfl
  refine wpAny_pure ⟨plainId_quiet F.plain_extend_loop _, codeAny_mono (ext_loop I s.heap.objs.size R J turn n _ (hJ _ (fun b o hb e => ?_) ⟨_, hS6⟩)) fun r s' hr => ?_⟩
  · exact (Heap.get?_update_other _ _ (Ne.symm hb)).trans ((Heap.get?_update_other _ _ (Ne.symm hb)).trans e)
  · cases r with
    | error e => exact hr.elim
    | ok fl => cases fl with
      | ret v => exact ⟨hr.1, hq _ hr.2⟩
      | _ => exact hr.elim
end
end Mine
end
section
open PySem PySem.W PySem.Calls PySem.Spec PyProof.Rows
namespace Mine
theorem kw_W7_1 : True := by
  k_with_none
  k_with "execs cons" => (first | (k_here; k_gentoks) | (refine' execs_one ?_) | (refine' execs_let ?_; intro Cq9))
  k_with "ite" => (first | (k_closed; first | refine ite_pos (by decide +kernel) ?_ | refine ite_neg (by decide +kernel) ?_) | refine ite_pos (by with_reducible assumption) ?_ | refine ite_neg (by with_reducible assumption) ?_ | refine ite_isFalse (by with_reducible assumption) ?_)
  trivial
theorem Turn.congr {x y : Lx} (e : x.buf = y.buf) {qd st tok pos qd' st' tok' pos' b} (t : Turn x qd st tok pos qd' st' tok' pos' b) : Turn y qd st tok pos qd' st' tok' pos' b := by
  obtain ⟨_, _, _, _, _, _, _, bx⟩ := x
  obtain ⟨_, _, _, _, _, _, _, bY⟩ := y
  dsimp only at e
  subst e
  induction t with
  | q c h k => exact .q c h k
  | q39 h => exact .q39 h
  | d39 h => exact .d39 h
  | d34 h => exact .d34 h
  | aE h => exact .aE h
  | aS h k => exact .aS h k
  | a39 h => exact .a39 h
  | a34 h => exact .a34 h
  | aW h => exact .aW h
  | aO c h k => exact .aO c h k
  | sE h => exact .sE h
  | s39 h => exact .s39 h
  | sW h => exact .sW h
  | sO c h k => exact .sO c h k
  | n h => exact .n h
theorem Run.congr {x y : Lx} (e : x.buf = y.buf) {n qd st tok pos qd' st' tok' pos'} (t : Run x n qd st tok pos qd' st' tok' pos') : Run y n qd st tok pos qd' st' tok' pos' := by
  induction t with
  | stop t => exact .stop (t.congr e)
  | more t _ ih => exact .more (t.congr e) ih
inductive Toks (x : Lx) : Option Str → Int → List Str → Prop where
  | nil {n st pos st2 pos2} : Run x n false st (Str.ofString "") pos false st2 (Str.ofString "") pos2 → n ≤ 90000 → 0 ≤ pos → Toks x st pos []
  | cons {n st pos qd2 st2 tok2 pos2 ws} : Run x n false st (Str.ofString "") pos qd2 st2 tok2 pos2 → n ≤ 90000 → 0 ≤ pos → (tok2 == Str.ofString "") = false → Toks x st2 pos2 ws → Toks x st pos (tok2 :: ws)
theorem fr_but {h₀ h h' : Heap} {L S : Addr} {m : Str → Option Value} (F : Fr h₀ L h m) (hS : h₀.get? S = none) (hL : S ≠ L) (k : ∀ b o, b ≠ S → h.get? b = some o → h'.get? b = some o) : Fr h₀ L h' m := by
  obtain ⟨o, es, ep, ho, r⟩ := F.ns
  exact ⟨⟨o, es, ep, k _ _ (Ne.symm hL) ho, r⟩, fun b o e => k _ _ (fun q => by rw [q, hS] at e; cases e) (F.keep b o e), F.above⟩
theorem news_but {h₀ h h' : Heap} {L S : Addr} {l : List (Addr × Obj)} (N : News h₀ L h l) (hl : ∀ q ∈ l, q.1 ≠ S) (k : ∀ b o, b ≠ S → h.get? b = some o → h'.get? b = some o) : News h₀ L h' l :=
  fun q hq => ⟨k _ _ (hl q hq) (N q hq).1, (N q hq).2⟩
theorem news_cons {h₀ h : Heap} {L S : Addr} {o : Obj} {l : List (Addr × Obj)} (N : News h₀ L h l) (h1 : h.get? S = some o) (h2 : S ≠ L) (h3 : h₀.get? S = none) : News h₀ L h ((S, o) :: l) := fun q hq => by
  rcases List.mem_cons.mp hq with rfl | hq
  · exact ⟨h1, h2, h3⟩
  · exact N q hq
theorem news_sub {h₀ h : Heap} {L : Addr} {l l' : List (Addr × Obj)} (N : News h₀ L h l) (k : ∀ q ∈ l', q ∈ l) : News h₀ L h l' := fun q hq => N q (k q hq)
theorem strsAre_snoc {vs : List Value} {ys : List Str} (h : StrsAre vs ys) (y : Str) (t : Tok) : StrsAre (vs ++ [.str y t]) (ys ++ [y]) := by
  induction h with
  | nil => exact .cons y t .nil
  | cons y' t' _ ih => exact .cons y' t' ih
theorem strsAre_len {vs : List Value} {ys : List Str} (h : StrsAre vs ys) : vs.length = ys.length := by
  induction h with
  | nil => rfl
  | cons _ _ _ ih => simp [ih]
set_option maxRecDepth 100000 in
set_option maxHeartbeats 0 in
theorem iterC : ∀ (w : World) (p : Program) (loose : List Str) (mean : ExcName → Option Value) (mg mb : Str → Option Value) (lex : Addr) (led : List (Addr × Obj)),
   ∀ (dp un : Nat) (gd : Option (List Code)) (cn : Str) (cs : Scope) (a : Addr) (ccd : Value) (cl : List (Str × Addr)) (outer : List Env) (A₀ : Around) (base h₀ : Heap) (L : Addr) (m : Str → Option Value) (s : Shared) (Q : Value → Shared → Prop),
    Below A₀ base outer h₀ → Fr h₀ L s.heap m → (K w.params).In h₀ → News h₀ L s.heap led → Top p loose mean mg mb h₀ → cs.kind = .function →
     dp + 5 < recursionLimit → un + 50 < cLine →
     (∀ (h' : Heap) (tk' : Nat), Fr h₀ L h' m → News h₀ L h' led → Q (.ref lex) { s with heap := h', toks := tk' }) →
     wpAny (model (OpenLaw.prog RR) w) (ktrTop dp un gd cn cs L a ccd cl outer) (call (.ref 888) [.ref lex]) Q (fun _ _ => False) s := by
  k_fill
  intro w p loose mean mg mb lex led dp un gd cn cs a ccd cl outer A₀ base h₀ L m s Q B F X N T hk hd hu hret
  refine wpAny_call ?_
  k_dflt cell_enter
  k_steps
  all_goals exact hret _ _ (by assumption) (by assumption)
theorem mv_in {α : Type} {q s a : α} {l l' : List α} (h : q ∈ l → q ∈ s :: l') (hq : q ∈ a :: l) : q ∈ s :: a :: l' :=
  (List.mem_cons.mp hq).elim (fun e => e ▸ .tail _ (.head _)) fun hq => (List.mem_cons.mp (h hq)).elim (fun e => e ▸ .head _) fun hq => .tail _ (.tail _ hq)
theorem mv_of {α : Type} {q s a : α} {l l' : List α} (h : q ∈ s :: l' → q ∈ l) (hq : q ∈ s :: a :: l') : q ∈ a :: l :=
  (List.mem_cons.mp hq).elim (fun e => .tail _ (h (e ▸ .head _))) fun hq => (List.mem_cons.mp hq).elim (fun e => e ▸ .head _) fun hq => .tail _ (h (.tail _ hq))
theorem mem_move {α : Type} {q a b c d e f s : α} {r : List α} (h : q ∈ a :: b :: c :: d :: e :: f :: s :: r) : q ∈ s :: a :: b :: c :: d :: e :: f :: r :=
  mv_in (mv_in (mv_in (mv_in (mv_in (mv_in id))))) h
theorem mem_move' {α : Type} {q a b c d e f s : α} {r : List α} (h : q ∈ s :: a :: b :: c :: d :: e :: f :: r) : q ∈ a :: b :: c :: d :: e :: f :: s :: r :=
  mv_of (mv_of (mv_of (mv_of (mv_of (mv_of id))))) h
theorem mem_tail {α : Type} {q a b c d e f s : α} {r : List α} (h : q ∈ s :: r) : q ∈ a :: b :: c :: d :: e :: f :: s :: r :=
  .tail _ (.tail _ (.tail _ (.tail _ (.tail _ (.tail _ h)))))
noncomputable def dqs (x : Lx) (r0 : List (Addr × Obj)) : List (Addr × Obj) := (x.pb, dqObj) :: (x.fs, dqObj) :: r0
noncomputable def withRest (x : Lx) (r : List (Addr × Obj)) : Lx := { x with rest := r }
inductive LJ (w : World) (x : Lx) (r0 : List (Addr × Obj)) (h₀ : Heap) (L : Addr) (m : Str → Option Value) (S : Addr) (s0 : Shared) (ws : List Str) (n : Nat) (s' : Shared) : Prop
  | mk (h : Heap) (tk : Nat) (done rest : List Str) (st : Option Str) (pos : Int) (τ υ : Nat → Tok) (ts : Tok) (ln : Int) (vs : List Value) (c : Nat) (e : s' = { s0 with heap := h, toks := tk }) (h1 : done ++ rest = ws) (h2 : rest.length = n) (h3 : Toks x st pos rest) (h4 : StrsAre vs done) (F : Fr h₀ L h m)
    (N : News h₀ L h (lexLed w.params x.lex x.dx x.io x.dio x.pb x.fs τ υ (stV st ts) ln (Str.ofString "") x.buf pos ((x.pb, dqObj) :: (x.fs, dqObj) :: (S, listO vs.toArray c) :: r0)))
inductive EndR (w : World) (p : Program) (loose : List Str) (mean : ExcName → Option Value) (mg mb : Str → Option Value) (outer : List Env) (A₀ : Around) (base h₀ : Heap) (L : Addr) (m : Str → Option Value) (S : Addr) (r0 : List (Addr × Obj)) (ws : List Str) (s s' : Shared) : Prop
  | mk (g' h' : Heap) (tk' : Nat) (vs : List Value) (c : Nat) (e : s' = { s with heap := h', toks := tk' }) (h1 : KtsTurn (outer.filterMap (·.frame)) h₀ g') (h2 : Below A₀ base outer g') (h3 : (K w.params).In g') (h4 : Top p loose mean mg mb g') (h5 : KtsDicts (outer.filterMap (·.frame)) g') (h6 : Fr g' L h' m) (h7 : News g' L h' ((S, listO vs.toArray c) :: r0)) (h8 : StrsAre vs ws)
theorem lexOk_more {x : Lx} (ok : x.Ok) {r0 : List (Addr × Obj)} (hr : x.rest = (x.pb, dqObj) :: (x.fs, dqObj) :: r0) {S : Addr} {o : Obj} (h1 : S ≠ x.dx) (h2 : S ≠ x.dio) :
    (withRest x ((x.pb, dqObj) :: (x.fs, dqObj) :: (S, o) :: r0)).Ok := by
  have r1 := ok.r1
  have r2 := ok.r2
  rw [hr] at r1 r2
  refine ⟨?_, ?_, ok.a1, ok.a2, ok.a3, ok.a4, ok.a5, ok.a6, ok.fits⟩
  · intro q hq
    rcases List.mem_cons.mp hq with rfl | hq
    · exact r1 (x.pb, dqObj) (.head _)
    rcases List.mem_cons.mp hq with rfl | hq
    · exact r1 (x.fs, dqObj) (.tail _ (.head _))
    rcases List.mem_cons.mp hq with rfl | hq
    · exact h1
    · exact r1 q (.tail _ (.tail _ hq))
  · intro q hq
    rcases List.mem_cons.mp hq with rfl | hq
    · exact r2 (x.pb, dqObj) (.head _)
    rcases List.mem_cons.mp hq with rfl | hq
    · exact r2 (x.fs, dqObj) (.tail _ (.head _))
    rcases List.mem_cons.mp hq with rfl | hq
    · exact h2
    · exact r2 q (.tail _ (.tail _ hq))
set_option maxRecDepth 100000 in
set_option maxHeartbeats 0 in
theorem lexlist : ∀ (w : World) (p : Program) (loose : List Str) (mean : ExcName → Option Value) (mg mb : Str → Option Value) (x : Lx) (r0 : List (Addr × Obj)) (τ υ : Nat → Tok) (ts : Tok) (ln : Int) (st : Option Str) (pos : Int) (ws : List Str),
   x.rest = (x.pb, dqObj) :: (x.fs, dqObj) :: r0 → x.Ok → Toks x st pos ws → ws.length ≤ 1000 →
   ∀ (dp un : Nat) (gd : Option (List Code)) (cn : Str) (cs : Scope) (a : Addr) (ccd : Value) (outer : List Env) (A₀ : Around) (base h₀ : Heap) (L : Addr) (m : Str → Option Value) (s : Shared) (Q : Value → Shared → Prop),
    Below A₀ base outer h₀ → Fr h₀ L s.heap m → (K w.params).In h₀ → News h₀ L s.heap (lexLed w.params x.lex x.dx x.io x.dio x.pb x.fs τ υ (stV st ts) ln (Str.ofString "") x.buf pos x.rest) → Top p loose mean mg mb h₀ →
     (K w.params).In base → Top p loose mean mg mb base → KtsDicts (outer.filterMap (·.frame)) h₀ → cs.kind = .function →
     dp + 35 < recursionLimit → un + 310 < cLine →
     (∀ (g' h' : Heap) (tk' : Nat) (S : Addr) (vs : List Value) (c : Nat), KtsTurn (outer.filterMap (·.frame)) h₀ g' → Below A₀ base outer g' → (K w.params).In g' → Top p loose mean mg mb g' → KtsDicts (outer.filterMap (·.frame)) g' → Fr g' L h' m →
        News g' L h' ((S, listO vs.toArray c) :: r0) → StrsAre vs ws → Q (.ref S) { s with heap := h', toks := tk' }) →
     wpAny (model (OpenLaw.prog RR) w) (ktrTop dp un gd cn cs L a ccd [] outer) (call (.type "list") [.ref x.lex]) Q (fun _ _ => False) s := by
  k_fill
  intro w p loose mean mg mb x r0 τ υ ts ln st pos ws hr ok tks hws dp un gd cn cs a ccd outer A₀ base h₀ L m s Q B F X N T XB TB D hk hd hu hret
  have hLs := F.ns.lt
  have hSL : s.heap.objs.size ≠ L := Nat.ne_of_gt hLs
  have hS0 : h₀.get? s.heap.objs.size = none := Heap.get?_none_of_le (Nat.le_trans F.above (Nat.le_of_lt hLs))
  have hlt : ∀ q ∈ lexLed w.params x.lex x.dx x.io x.dio x.pb x.fs τ υ (stV st ts) ln (Str.ofString "") x.buf pos x.rest, q.1 ≠ s.heap.objs.size := fun q hq => Nat.ne_of_lt (Heap.lt_size (N q hq).1)
  have hSdx : s.heap.objs.size ≠ x.dx := fun e => hlt _ (.tail _ (.tail _ (.tail _ (.head _)))) e.symm
  have hSdio : s.heap.objs.size ≠ x.dio := fun e => hlt _ (.tail _ (.head _)) e.symm
  have In : InstAt s.heap x.lex (instObj 898 x.dx) 898 (some (dictOf (lexD w.params τ x.io x.pb x.fs (stV st ts) ln (Str.ofString "")) 19)) :=
    ⟨(N _ (.tail _ (.tail _ (.head _)))).1, rfl, rfl, (N _ (.tail _ (.tail _ (.tail _ (.head _))))).1⟩
  refine' list_own (f := 888) (nx := .ref 895) (R := EndR w p loose mean mg mb outer A₀ base h₀ L m s.heap.objs.size r0 ws s)
    (LJ w x r0 h₀ L m s.heap.objs.size s ws) ws.length F X In ?ohs ?ohf ?ohl ?ohn ?ohh ?ohi ?oturn ?ohq
  case ohs => k_is
  case ohf => k_is
  case ohl => k_is
  case ohn => k_is
  case ohh => k_is
  case ohi =>
    intro h' kp hS
    obtain ⟨c, hS⟩ := hS
    have F2 := F.keeps kp
    have N2 := news_cons (N.grown kp) hS hSL hS0
    refine iterC w p loose mean mg mb x.lex _ dp (un + 2) gd cn cs a ccd [] outer A₀ base h₀ L m _ _ B F2 X N2 T hk (by omega) (by omega) fun h3 tk3 F3 N3 => ?_
    refine ⟨rfl, F3, ⟨(N3 _ (.tail _ (.tail _ (.tail _ (.head _))))).1, rfl, rfl, (N3 _ (.tail _ (.tail _ (.tail _ (.tail _ (.head _)))))).1⟩, ⟨c, (N3 _ (.head _)).1⟩, ?_⟩
    intro h4 k4 hS4
    obtain ⟨c4, hS4⟩ := hS4
    refine ⟨h4, tk3, [], ws, st, pos, τ, υ, ts, ln, [], c4, rfl, rfl, rfl, tks, .nil, fr_but F3 hS0 hSL k4, ?_⟩
    have N4 := news_cons (news_but (news_sub N3 fun q hq => List.mem_cons_of_mem _ hq) hlt k4) hS4 hSL hS0
    rw [hr] at N4
    exact news_sub N4 fun q hq => mem_move hq
  case oturn =>
    rintro n s' ⟨h, tk, done, rest, st1, pos1, τ1, υ1, ts1, ln1, vs, c, rfl, hdr, hlen, tk1, hvs, F1, N1⟩
    have okS := lexOk_more ok hr (S := s.heap.objs.size) (o := listO vs.toArray c) hSdx hSdio
    have hl1 : vs.length ≤ 1000 := by
      have h1 := strsAre_len hvs
      have h2 := congrArg List.length hdr
      rw [List.length_append] at h2
      omega
    cases tk1 with
    | nil run hn hp =>
      rw [List.append_nil] at hdr
      subst hdr
      exact nextB w p loose mean mg mb (withRest x ((x.pb, dqObj) :: (x.fs, dqObj) :: (s.heap.objs.size, listO vs.toArray c) :: r0)) ((s.heap.objs.size, listO vs.toArray c) :: r0) τ1 υ1 ts1 ln1 _ _ _ _ _ rfl okS (Run.congr (x := x) (y := withRest x ((x.pb, dqObj) :: (x.fs, dqObj) :: (s.heap.objs.size, listO vs.toArray c) :: r0)) rfl run) hp hn
        dp (un + 2) gd cn cs a ccd outer A₀ base h₀ L m _ _ B F1 X N1 T XB TB D hk (by omega) (by omega)
        fun g' h' tk' τ' υ' ts' ln' T9 B9 X9 P9 D9 F9 N9 => ⟨g', h', tk', vs, c, rfl, T9, B9, X9, P9, D9, F9, news_sub N9 (fun q hq => mem_tail hq), hvs⟩
    | @cons nn _ _ qd2 st2 tok2 pos2 ws' run hn hp e9 tks' =>
      exact nextA w p loose mean mg mb (withRest x ((x.pb, dqObj) :: (x.fs, dqObj) :: (s.heap.objs.size, listO vs.toArray c) :: r0)) ((s.heap.objs.size, listO vs.toArray c) :: r0) τ1 υ1 ts1 ln1 _ _ _ _ _ _ _ rfl okS (Run.congr (x := x) (y := withRest x ((x.pb, dqObj) :: (x.fs, dqObj) :: (s.heap.objs.size, listO vs.toArray c) :: r0)) rfl run) hp hn e9
        dp (un + 2) gd cn cs a ccd [] outer A₀ base h₀ L m _ _ B F1 X N1 T hk (by omega) (by omega)
        fun h' tk' t' τ' υ' ts' ln' F9 N9 => by
          have hS9 : h'.get? s.heap.objs.size = some (listO vs.toArray c) := (N9 _ (mem_move' (.head _))).1
          refine ⟨vs.toArray, c, hS9, by simp; omega, ws'.length, by rw [← hlen]; exact Nat.lt_succ_self _, ?_⟩
          have k9 : ∀ b o, b ≠ s.heap.objs.size → h'.get? b = some o → (listUps h' s.heap.objs.size (.str tok2 t')).get? b = some o := fun b o hb e => (Heap.get?_update_other _ _ (Ne.symm hb)).trans e
          have hSu := Heap.get?_update_self (Obj.mapSeq (·.push (.str tok2 t'))) hS9 rfl
          obtain ⟨c', hSu'⟩ : ∃ c', (listUps h' s.heap.objs.size (.str tok2 t')).get? s.heap.objs.size = some (listO (vs ++ [Value.str tok2 t']).toArray c') := ⟨_, hSu.trans (by rw [← List.push_toArray]; rfl)⟩
          refine ⟨listUps h' s.heap.objs.size (.str tok2 t'), tk', done ++ [tok2], ws', st2, pos2, τ', υ', ts', ln', vs ++ [.str tok2 t'], c', rfl, by rw [← hdr]; simp, rfl, tks', strsAre_snoc hvs _ _, fr_but F9 hS0 hSL k9, ?_⟩
          have N8 : News h₀ L h' (lexLed w.params x.lex x.dx x.io x.dio x.pb x.fs τ' υ' (stV st2 ts') ln' (Str.ofString "") x.buf pos2 ((x.pb, dqObj) :: (x.fs, dqObj) :: r0)) := news_sub N9 fun q hq => mem_move' (.tail _ hq)
          have hlt2 : ∀ q ∈ lexLed w.params x.lex x.dx x.io x.dio x.pb x.fs τ' υ' (stV st2 ts') ln' (Str.ofString "") x.buf pos2 ((x.pb, dqObj) :: (x.fs, dqObj) :: r0), q.1 ≠ s.heap.objs.size := fun q hq => by
            rcases List.mem_cons.mp hq with rfl | hq
            · exact hlt (x.io, instObj 763 x.dio) (.head _)
            rcases List.mem_cons.mp hq with rfl | hq
            · exact Ne.symm hSdio
            rcases List.mem_cons.mp hq with rfl | hq
            · exact hlt (x.lex, instObj 898 x.dx) (.tail _ (.tail _ (.head _)))
            rcases List.mem_cons.mp hq with rfl | hq
            · exact Ne.symm hSdx
            · exact hlt q (.tail _ (.tail _ (.tail _ (.tail _ (by rw [hr]; exact hq)))))
          exact news_sub (news_cons (news_but N8 hlt2 k9) hSu' hSL hS0) fun q hq => mem_move hq
  case ohq =>
    rintro s' ⟨g', h', tk', vs, c, rfl, h1, h2, h3, h4, h5, h6, h7, h8⟩
    exact hret g' h' tk' _ vs c h1 h2 h3 h4 h5 h6 h7 h8
end Mine
end
section
open PySem PySem.W PySem.Calls PySem.Spec PyProof.Rows Builtin Builtin.ObjectAttr Builtin.Getset_descriptor
set_option maxRecDepth 100000
namespace Mine
section
variable {w : World} {A : Around} {R : Result → Shared → Prop} {h : Heap} {g : Array GenState} {d : Drawn} {t : Nat} {os : OsState}
theorem pk1 (P : Params) : peek (K P) ⟨OpenLaw.prog RR, P⟩ (Bind.madeBy (.ref 763)) = some none := by kernel_rfl
theorem pk2 (P : Params) : peek (K P) ⟨OpenLaw.prog RR, P⟩ (Bind.madeHere "object.__new__" (.ref 763)) = some () := by kernel_rfl
theorem pk3 (P : Params) : peek (K P) ⟨OpenLaw.prog RR, P⟩ (isSubtype (.ref 763) (.ref 763)) = some true := by kernel_rfl
theorem pk4 (P : Params) : peek (K P) ⟨OpenLaw.prog RR, P⟩ (isSubtype (.ref 763) (.type "object")) = some true := by kernel_rfl
theorem pk5 (P : Params) : peek (K P) ⟨OpenLaw.prog RR, P⟩ (specialOf (.ref 763) "__call__") = some (some (.builtin "type.__call__")) := by kernel_rfl
theorem pk6 (P : Params) : peek (K P) ⟨OpenLaw.prog RR, P⟩ (isInstance (.ref 763) (.type "type")) = some true := by kernel_rfl
theorem pk7 (P : Params) : peek (K P) ⟨OpenLaw.prog RR, P⟩ (mroOf (.ref 763)) = some [.ref 763, .ref 286, .ref 259, .type "object"] := by kernel_rfl
theorem pk8 (P : Params) : peek (K P) ⟨OpenLaw.prog RR, P⟩ (typeLookup (.ref 763) "__init__") = some (some (.ref 533)) := by kernel_rfl
theorem pk9 (P : Params) : peek (K P) ⟨OpenLaw.prog RR, P⟩ (isType (.ref 763)) = some true := by kernel_rfl
theorem pk10 (P : Params) : peek (K P) ⟨OpenLaw.prog RR, P⟩ (Bind.staticBase (.ref 763)) = some (.type "object") := by kernel_rfl
theorem pk11 (P : Params) : peek (K P) ⟨OpenLaw.prog RR, P⟩ (Bind.madeBy (.type "object")) = some (some "object.__new__") := by kernel_rfl
theorem new763 (X : (K w.params).In h)
    (hq : R (.ok (.ret (.ref (h.objs.size + 1)))) ⟨(h.push emptyDict).push (instObj 763 h.objs.size), g, d, t, os⟩) :
    codeAny (model (OpenLaw.prog RR) w) A (.call (.builtin "object.__new__") ⟨[.ref 763], []⟩) R ⟨h, g, d, t, os⟩ := by
  have F := PySem.F.objNew
  refine codeAny_call_builtin_code (Code.quiet_builtin _ F.quiet) ?_
  simp only [checkBuiltinCall, F.kind, F.split, F.row]
  have here : Looks (model (OpenLaw.prog RR) w) h (Bind.madeHere "object.__new__" (.ref 763)) () := Looks.of_peek X (pk2 _)
  have top : Looks (model (OpenLaw.prog RR) w) h (isSubtype (.ref 763) (.type "object")) true := Looks.of_peek X (pk4 _)
  have base : Looks (model (OpenLaw.prog RR) w) h (Bind.staticBase (.ref 763)) (.type "object") := Looks.of_peek X (pk10 _)
  have made : Looks (model (OpenLaw.prog RR) w) h (Bind.madeBy (.type "object")) (some "object.__new__") := Looks.of_peek X (pk11 _)
  have typ : Looks (model (OpenLaw.prog RR) w) h (isInstance (.ref 763) (.type "type")) true := Looks.of_peek X (pk6 _)
  have ist : Looks (model (OpenLaw.prog RR) w) h (isType (.ref 763)) true := Looks.of_peek X (pk9 _)
  have args : Bind.checkArgs "object.__new__" ⟨.hand, "object.__new__", "__new__", .cls, []⟩ ⟨[.ref 763], []⟩ = pure () := by kernel_rfl
  rw [args]
  have hC := X 763 _ (by rfl)
  repeat (first | simp only [bne_self_eq_false, Bool.false_eq_true, if_false] | lk)
  refine codeAny_builtin F.entry ?_
  unfold Builtin.«object.__new__»
  have fin : ∀ A', wpAny (model (OpenLaw.prog RR) w) A' (do
      let d ← if typeHasDict (.ref 763) then some <$> alloc { cls := .type "dict", data := .dict #[] } else pure none
      ret (← newObj (.ref 763) .plain d)) (fun fin s' => match fin with | .done f => R (.ok f) s' | .again c' => c'.quiet = true ∧ codeAny (model (OpenLaw.prog RR) w) A c' R s') (fun e s' => R (.error e) s') ⟨h, g, d, t, os⟩ := by
    intro A'
    show wpAny _ _ ((alloc emptyDict >>= fun x => pure (some x)) >>= _) _ _ _
    refine wpAny_bind (wpAny_bind (wpAny_alloc (wpAny_pure (wpAny_bind ?_))))
    show wpAny _ _ (newObjAsIs _ _ _) _ _ _
    unfold newObjAsIs classHasDel
    refine wpAny_bind (wpAny_alloc (wpAny_bind (wpAny_bind (wpAny_load (Heap.get?_push_of_some _ (Heap.get?_push_of_some _ hC)) (wpAny_pure ?_)))))
    refine wpAny_pure (wpAny_pure ?_)
    show R _ _
    rw [Heap.size_push]
    exact hq
  repeat (first | simp only [Bool.false_eq_true, if_false, Bool.not_true] | exact fin _ | lk)
noncomputable def NewBack (w : World) (A' : Around) (R : Result → Shared → Prop) (rest : List Value) (v : Value) (s' : Shared) : Prop :=
  ∃ x dx, v = .ref x ∧ (K w.params).In s'.heap ∧ s'.heap.get? x = some (instObj 763 dx) ∧ codeAny (model (OpenLaw.prog RR) w) A' (.call (.ref 533) ⟨.ref x :: rest, []⟩) (InitBack x R) s'
theorem newBack {A' : Around} {R : Result → Shared → Prop} {rest : List Value} {x dx : Addr} {s' : Shared} {h₀ : Heap} {L : Addr} {m : Str → Option Value} {news : List (Addr × Obj)} (F : Fr h₀ L s'.heap m) (X : (K w.params).In h₀) (N : News h₀ L s'.heap news)
    (hm : (x, instObj 763 dx) ∈ news) (h : codeAny (model (OpenLaw.prog RR) w) A' (.call (.ref 533) ⟨.ref x :: rest, []⟩) (InitBack x R) s') : NewBack w A' R rest (.ref x) s' :=
  ⟨x, dx, rfl, X.keeps F.keep, (N _ hm).1, h⟩
theorem new763N {E : Value → Shared → Prop} {s : Shared} {Q : Value → Shared → Prop} {h₀ : Heap} {L : Addr} {m : Str → Option Value} {news : List (Addr × Obj)} (F : Fr h₀ L s.heap m) (X : (K w.params).In h₀) (N : News h₀ L s.heap news)
    (q : ∀ x dx h', Fr h₀ L h' m → News h₀ L h' ((x, instObj 763 dx) :: (dx, dictOf [] 0) :: news) → (∀ p ∈ news, p.1 < dx) → dx < x → Q (.ref x) { s with heap := h' }) :
    wpAny (model (OpenLaw.prog RR) w) A (PySem.call (.builtin "object.__new__") [.ref 763]) Q E s := by
  obtain ⟨hh, g, d, t, os⟩ := s
  have N' := (N.push F emptyDict).push (F.push _) (instObj 763 hh.objs.size)
  rw [Heap.size_push] at N'
  exact wpAny_call (new763 (X.keeps F.keep) (q _ hh.objs.size _ ((F.push _).push _) N' (fun p hp => Heap.lt_size (N p hp).1) (Nat.lt_succ_self _)))
theorem getNew {E : Value → Shared → Prop} {Q : Value → Shared → Prop} (X : (K w.params).In h) (q : Q (.ref 256) ⟨h, g, d, t + 1, os⟩) :
    wpAny (model (OpenLaw.prog RR) w) A (getAttr (.ref 763) "__new__") Q E ⟨h, g, d, t, os⟩ := by
  refine cls_bind (mc := .type "type") (C := 763) (g := .builtin "staticmethod.__get__") (a := .ref 260) (obj := .none) (tp := .ref 763) (K := K w.params) X (by kernel_rfl) (by kernel_rfl) (wpAny_call (sm_get (C := 763) (f := .ref 256) (rest := []) X (by kernel_rfl) ?_))
  exact handed_on (by kernel_rfl) q
theorem call763 {rest : List Value} (X : (K w.params).In h)
    (hnew : wpAny (model (OpenLaw.prog RR) w) (A.under (.builtin "type.__call__" ⟨.ref 763 :: rest, []⟩)) (PySem.call (.ref 256) (.ref 763 :: rest))
      (fun v s' => NewBack w (A.under (.builtin "type.__call__" ⟨.ref 763 :: rest, []⟩)) R rest v s') (fun e s' => R (.error e) s') ⟨h, g, d, t + 1, os⟩) :
    codeAny (model (OpenLaw.prog RR) w) A (.call (.ref 763) ⟨rest, []⟩) R ⟨h, g, d, t, os⟩ := by
  have hC := X 763 _ (by rfl)
  have call : Looks (model (OpenLaw.prog RR) w) h (specialOf (.ref 763) "__call__") (some (.builtin "type.__call__")) := Looks.of_peek X (pk5 _)
  have made : Looks (model (OpenLaw.prog RR) w) h (Bind.madeBy (.ref 763)) none := Looks.of_peek X (pk1 _)
  have typ : Looks (model (OpenLaw.prog RR) w) h (isInstance (.ref 763) (.type "type")) true := Looks.of_peek X (pk6 _)
  have hm : Looks (model (OpenLaw.prog RR) w) h (mroOf (.ref 763)) [.ref 763, .ref 286, .ref 259, .type "object"] := Looks.of_peek X (pk7 _)
  refine codeAny_of_tree ?_
  show wpAny _ _ (callAny (.ref 763) _) _ _ _
  refine nd_load hC ?_
  show wpAny _ _ (callAny.viaDunder (.ref 763) _) _ _ _
  unfold callAny.viaDunder
  refine wpAny_bind (call.at ?_)
  dsimp only
  rw [tc_bind]
  refine wpAny_bind (wpAny_pure (wpAny_bind (wpAny_pure ?_)))
  refine wpAny_pure (a := Fin.again (.call (.builtin "type.__call__") ⟨.ref 763 :: rest, []⟩)) (And.intro rfl ?_)
  refine codeAny_call_builtin_at (Code.quiet_builtin _ (by decide +kernel)) entry_typeCall (check_slot tc_kind tc_split typ (tc_args _ _ _) ?_)
  unfold Builtin.«type.__call__»
  repeat (first | simp only [List.isEmpty_cons, Bool.false_eq_true, if_false] | with_reducible refine getNew X ?_ | ((fail_if_success (with_reducible show wpAny _ _ (PySem.call _ _) _ _ _)); lk))
  refine wpAny_mono hnew (fun v s' hv => ?_) (fun _ _ h => h)
  obtain ⟨x, dx, rfl, X', hx, hq⟩ := hv
  have t1 : Looks (model (OpenLaw.prog RR) w) s'.heap (typeOf (.ref x)) (.ref 763) := (Looks.ld hx).andThen .now
  have s1 : Looks (model (OpenLaw.prog RR) w) s'.heap (isSubtype (.ref 763) (.ref 763)) true := Looks.of_peek X' (pk3 _)
  have i1 : Looks (model (OpenLaw.prog RR) w) s'.heap (typeLookup (.ref 763) "__init__") (some (.ref 533)) := Looks.of_peek X' (pk8 _)
  have b1 : Looks (model (OpenLaw.prog RR) w) s'.heap (bindSpecial (.ref 533) (.ref x)) (.ref 533, [.ref x]) := bind_fn X' _ (by kernel_rfl)
  unfold isInstance callSpecial? specialOf
  repeat (first | with_reducible refine wpAny_call ?_ | lk)
  refine codeAny_mono hq fun r s' z => ?_
  rcases r with e | (v | _ | _ | _) <;> first | exact z | exact z.elim | skip
  obtain ⟨rfl, z⟩ := z
  exact wpAny_pure (wpAny_pure z)
theorem call763N {E : Value → Shared → Prop} {s : Shared} {Q : Value → Shared → Prop} {rest : List Value} {h₀ : Heap} {L : Addr} {m : Str → Option Value} (F : Fr h₀ L s.heap m) (X : (K w.params).In h₀)
    (hnew : wpAny (model (OpenLaw.prog RR) w) (A.under (.builtin "type.__call__" ⟨.ref 763 :: rest, []⟩)) (PySem.call (.ref 256) (.ref 763 :: rest))
      (fun v s' => NewBack w (A.under (.builtin "type.__call__" ⟨.ref 763 :: rest, []⟩)) (wants Q E) rest v s') (fun e s' => E e s') { s with toks := s.toks + 1 }) :
    wpAny (model (OpenLaw.prog RR) w) A (PySem.call (.ref 763) rest) Q E s := by
  obtain ⟨hh, g, d, t, os⟩ := s
  exact wpAny_call (call763 (X.keeps F.keep) hnew)
end
end Mine
end
section
open PySem PySem.W PySem.Calls PySem.Spec PyProof.Rows
set_option maxRecDepth 100000
namespace Mine
section
variable {prog : Program} {w : World} {A₀ A : Around} {s : Shared} {base h₀ g₀ : Heap} {outer : List Env} {env : Env} {L : Addr} {m : Str → Option Value} {news : List (Addr × Obj)} {KF : Frag} {p : Program} {loose : List Str} {mean : ExcName → Option Value} {mg mb : Str → Option Value}
  {R : Result → Shared → Prop}
theorem fr_self {g h : Heap} (F : Fr g L h m) : g.get? L = none := by
  cases e : g.get? L with
  | none => rfl
  | some o => exact absurd (Nat.lt_of_lt_of_le (Heap.lt_size e) F.above) (Nat.lt_irrefl _)
theorem mem_frames {b : Addr} (hf : env.frame = some L) (h : b ∈ (env :: outer).filterMap (·.frame)) : b = L ∨ b ∈ outer.filterMap (·.frame) := by
  rw [List.filterMap_cons_some hf] at h
  exact List.mem_cons.mp h
theorem leaveE {g : Heap} {v : Value} {s' : Shared} (B : Below A₀ base outer h₀) (F : Fr h₀ L s.heap m) (N : News h₀ L s.heap news) (XB : KF.In base) (TB : Top p loose mean mg mb base) (D : KtsDicts (outer.filterMap (·.frame)) h₀)
    (T0 : KtsTurn (outer.filterMap (·.frame)) g₀ h₀) (hA : A.frames = some (env :: outer)) (hf : env.frame = some L) (hke : env.scope.kind = .function) (hg : g = hideAll s.heap (news.map (·.1)))
    (hl : LeaveS ((env :: outer).filterMap (·.frame)) A₀ base outer KF p loose mean mg mb g₀ h₀ L m g R v s') : R (.ok (.ret v)) s' := by
  subst hg
  obtain ⟨FG, _, st, lv⟩ := groundX (R := R) B F N hA hf hke
  rcases hl with hl | ⟨g', L', m', news', T, F', N', k⟩
  · exact lv _ _ hl
  have nL := fr_self F
  obtain ⟨oL, es, ep, hL, d1, d2, d3⟩ := FG.ns
  obtain ⟨slL, hL'⟩ := T.up hL
  obtain ⟨T₁, S₁⟩ := kts_turn_at (h := s'.heap) (fs := outer.filterMap (·.frame)) (g := h₀) (fun b hb => let ⟨_, o, ho, _⟩ := B.frames.mem hb; ⟨o, ho⟩)
    (fun b o e nm => F'.keep _ _ (T.other b o (st _ _ e) fun hm => (mem_frames hf hm).elim (fun z => by rw [z, nL] at e; cases e) nm))
    (fun b o e _ => let ⟨sl, hs⟩ := T.up (st _ _ e); ⟨sl, F'.keep _ _ hs⟩)
  have B₁ : Below A₀ base outer (ktsHeap s'.heap (outer.filterMap (·.frame)) h₀) :=
    ⟨B.stack, fun b o e => T₁.other b o (B.stays b o e) fun hm => (by rw [(B.frames.mem hm).1] at e; cases e), B.frames.of_keeps fun b o e _ => let ⟨sl, hs⟩ := T₁.up e; ⟨_, hs, rfl⟩⟩
  refine k _ (T0.trans T₁) ⟨⟨_, es, ep, F'.keep _ _ hL', d1, d2, d3⟩, S₁, by rw [T₁.size]; exact F.above⟩ (fun q hq => ⟨(N' q hq).1, fun z => ?_, T₁.none_ _ ?_⟩) B₁ (XB.keeps B₁.stays) (TB.keeps B₁.stays) (D.turn T₁)
  · have e := (N' q hq).2.2
    rw [z, hL'] at e
    cases e
  · cases e : h₀.get? q.1 with
    | none => rfl
    | some o =>
      obtain ⟨sl, hs⟩ := T.up (st _ _ e)
      rw [(N' q hq).2.2] at hs
      cases hs
variable {name qual : Str} {params : Arguments} {body : List Stmt} {scope : Scope} {dV kV doc pm cdv ct oc : Value} {an od : Option Addr} {osl : Array (Option Value)} {f : Addr} {args : Args} {binds : List (Str × Value)}
theorem dicts_more {g : Heap} (B : Below A₀ base outer h₀) (F : Fr h₀ L s.heap m) (N : News h₀ L s.heap news) (D : KtsDicts (outer.filterMap (·.frame)) h₀) (hA : A.frames = some (env :: outer)) (hf : env.frame = some L) (hke : env.scope.kind = .function) (hg : g = hideAll s.heap (news.map (·.1))) :
    KtsDicts ((env :: outer).filterMap (·.frame)) g := by
  subst hg
  obtain ⟨FG, _, st, _⟩ := groundX (R := fun _ _ => True) B F N hA hf hke
  intro b hb
  rcases mem_frames hf hb with rfl | hb
  · obtain ⟨oL, es, ep, hL, d1, _⟩ := FG.ns
    exact ⟨oL, es, ep, hL, d1⟩
  · obtain ⟨o, es, n, ho, hd⟩ := D b hb
    exact ⟨o, es, n, st _ _ ho, hd⟩
theorem code_defT (B : Below A₀ base outer h₀) (F : Fr h₀ L s.heap m) (X₀ : KF.In h₀) (N : News h₀ L s.heap news) (T : Top p loose mean mg mb h₀) (XB : KF.In base) (TB : Top p loose mean mg mb base) (D : KtsDicts (outer.filterMap (·.frame)) h₀)
    (T0 : KtsTurn (outer.filterMap (·.frame)) g₀ h₀) (hA : A.frames = some (env :: outer)) (hf : env.frame = some L) (hke : env.scope.kind = .function)
    (ho : KF.lookup f = some ⟨oc, od, .func (fnOf name qual params body scope dV kV doc pm an cdv ct), osl⟩) (hcd : codeIn KF cdv qual = true) (hroom : A.depth < recursionLimit)
    (hbind : BindsTo s (fnOf name qual params body scope dV kV doc pm an cdv ct) args binds) (hloc : ∀ y ∈ binds, scope.names.lookup y.1 = some .local)
    (h : ∀ g L' h₁, Fr h₀ L g m → Fr g L' h₁ (fun y => binds.reverse.lookup y) → News g L' h₁ news → Below A base (env :: outer) g → KF.In g → Top p loose mean mg mb g → KtsDicts ((env :: outer).filterMap (·.frame)) g →
      wpAny (model prog w) (A.deeper (envOf qual scope L' f cdv)) (execs body (envOf qual scope L' f cdv))
        (fun fl s' => LeaveS ((env :: outer).filterMap (·.frame)) A₀ base outer KF p loose mean mg mb g₀ h₀ L m g R (match fl with | .ret v => v | _ => .none) s')
        (fun e s' => wpAny (model prog w) (A.deeper (envOf qual scope L' f cdv)) (leaving (envOf qual scope L' f cdv) e) (fun _ s'' => R (.error e) s'') (fun e' s'' => R (.error e') s'') s')
        { s with heap := h₁, toks := s.toks + binds.length })
    (hco : scope.isCoroutine = false) (hgen : scope.isGenerator = false) (hk : scope.kind = .function) (hcell : ∀ x ∈ scope.names, x.2 ≠ .cell) : codeAny (model prog w) A (.call (.ref f) args) R s := by
  have X := X₀.keeps F.keep
  obtain ⟨FG, BG, st, _⟩ := groundX (R := R) B F N hA hf hke
  refine codeAny_call_def (fd := fnOf name qual params body scope dV kV doc pm an cdv ct) (body := body) (binds := binds) hroom (X _ _ ho) rfl (T.nolimit.keeps F.keep) (codeRec_of X hcd) rfl hbind hcell hloc (fun h₁ hns hk₁ => ?_) hco hgen hk
  have F1 : Fr (hideAll s.heap (news.map (·.1))) s.heap.objs.size h₁ (fun y => binds.reverse.lookup y) := ⟨hns, fun b o e => hk₁ b o (of_hideAll _ e), Nat.le_of_eq (hideAll_size _ _)⟩
  have N1 : News (hideAll s.heap (news.map (·.1))) s.heap.objs.size h₁ news := fun q hq => ⟨hk₁ _ _ (N q hq).1, Nat.ne_of_lt (Heap.lt_size (N q hq).1), hideAll_none _ (List.mem_map_of_mem hq)⟩
  exact wpAny_mono (h _ _ h₁ FG F1 N1 BG (X₀.keeps st) (T.keeps st) (dicts_more B F N D hA hf hke rfl)) (fun fl s' hl => leaveE B F N XB TB D T0 hA hf hke rfl hl) fun _ _ y => y
theorem code_defTC (B : Below A₀ base outer h₀) (F : Fr h₀ L s.heap m) (X₀ : KF.In h₀) (N : News h₀ L s.heap news) (T : Top p loose mean mg mb h₀) (XB : KF.In base) (TB : Top p loose mean mg mb base) (D : KtsDicts (outer.filterMap (·.frame)) h₀)
    (T0 : KtsTurn (outer.filterMap (·.frame)) g₀ h₀) (hA : A.frames = some (env :: outer)) (hf : env.frame = some L) (hke : env.scope.kind = .function)
    (ho : KF.lookup f = some ⟨oc, od, .func (fnOf name qual params body scope dV kV doc pm an cdv ct), osl⟩) (hcd : codeIn KF cdv qual = true) (hroom : A.depth < recursionLimit)
    (hbind : BindsTo s (fnOf name qual params body scope dV kV doc pm an cdv ct) args binds) (hkind : (binds.all fun y => scope.names.lookup y.1 == some .local || scope.names.lookup y.1 == some .cell) = true)
    (hnd : ((cellsFrom 0 scope.names []).map (·.1)).Nodup)
    (h : ∀ g L' h₁ tk cells, Fr h₀ L g m → Fr g L' h₁ (bindL (envOfC qual scope L' f cdv).kindOf binds fun _ => none) → News g L' h₁ (cells ++ news) →
      CellsAre (bindC (envOfC qual scope L' f cdv).kindOf binds fun _ => none) (cellsFrom (L' + 1) scope.names []) cells → Below A base (env :: outer) g → KF.In g → Top p loose mean mg mb g → KtsDicts ((env :: outer).filterMap (·.frame)) g → (∀ q ∈ news, q.1 < L') →
      wpAny (model prog w) (A.deeper (envOfC qual scope L' f cdv)) (execs body (envOfC qual scope L' f cdv))
        (fun fl s' => LeaveS ((env :: outer).filterMap (·.frame)) A₀ base outer KF p loose mean mg mb g₀ h₀ L m g R (match fl with | .ret v => v | _ => .none) s')
        (fun e s' => wpAny (model prog w) (A.deeper (envOfC qual scope L' f cdv)) (leaving (envOfC qual scope L' f cdv) e) (fun _ s'' => R (.error e) s'') (fun e' s'' => R (.error e') s'') s')
        { s with heap := h₁, toks := tk })
    (hco : scope.isCoroutine = false) (hgen : scope.isGenerator = false) (hk : scope.kind = .function) : codeAny (model prog w) A (.call (.ref f) args) R s := by
  have X := X₀.keeps F.keep
  obtain ⟨FG, BG, st, _⟩ := groundX (R := R) B F N hA hf hke
  refine codeAny_call_function hroom (X _ _ ho) rfl hco hgen rfl (codeRec_of X hcd) (hbind _ _ _ _ ?_)
  refine wpAny_newFunctionEnv_cells hk (kindsX hkind _) fun env' he s' x => ?_
  subst he
  have keep := x.toInCall.keep
  refine ⟨(T.nolimit.keeps F.keep).keeps keep, codeAny_func ?_⟩
  obtain ⟨h₁, tk, rfl, _⟩ := x.done
  obtain ⟨cells, NC, Y⟩ := Cl.news (h₀ := s.heap) (Nat.le_refl _) fun n c hm => ⟨x.cell n c (lookup_of_mem_nodup (cellsFrom_names scope.names 0 (s.heap.objs.size + 1) [] [] rfl ▸ hnd) hm), x.above n c hm⟩
  have F1 : Fr (hideAll s.heap (news.map (·.1))) s.heap.objs.size h₁ (bindL (envOfC qual scope s.heap.objs.size f cdv).kindOf binds fun _ => none) := ⟨x.toInCall.ns, fun b o e => keep b o (of_hideAll _ e), Nat.le_of_eq (hideAll_size _ _)⟩
  have N1 : News (hideAll s.heap (news.map (·.1))) s.heap.objs.size h₁ (cells ++ news) := fun q hq => by
    rcases List.mem_append.mp hq with hq | hq
    · refine ⟨(NC q hq).1, (NC q hq).2.1, ?_⟩
      cases e : (hideAll s.heap (news.map (·.1))).get? q.1 with
      | none => rfl
      | some o =>
        have z := of_hideAll _ e
        rw [(NC q hq).2.2] at z
        cases z
    · exact ⟨keep _ _ (N q hq).1, Nat.ne_of_lt (Heap.lt_size (N q hq).1), hideAll_none _ (List.mem_map_of_mem hq)⟩
  exact wpAny_mono (h _ _ h₁ tk cells FG F1 N1 Y BG (X₀.keeps st) (T.keeps st) (dicts_more B F N D hA hf hke rfl) (fun q hq => Heap.lt_size (N q hq).1)) (fun fl s' hl => leaveE B F N XB TB D T0 hA hf hke rfl hl) fun _ _ y => y
end
end Mine
end
section
open PySem PySem.W PySem.Calls PySem.Spec PyProof.Rows
namespace Mine
theorem kw_W8_1 : True := by
  k_with_none
  k_with "execs cons" => (first | (k_here; k_gentoks) | (refine' execs_one ?_) | (refine' execs_let ?_; intro Cq9))
  k_with "ite" => (first | (k_closed; first | refine ite_pos (by decide +kernel) ?_ | refine ite_neg (by decide +kernel) ?_) | refine ite_pos (by with_reducible assumption) ?_ | refine ite_neg (by with_reducible assumption) ?_ | refine ite_isFalse (by with_reducible assumption) ?_)
  k_with "call type:collections.deque" => (k_here; k_dflt (refine' dq_call ?k1q9 ?k2q9 ?_; (case k1q9 => k_asm); (case k2q9 => k_asm); k_whole); intro a'q9 h'q9 F'q9 N'q9 l1q9; (try dsimp only); (try k_lt l1q9); (try k_sweep); walk_say "DEQUE")
  k_with "call ref" => (k_here; k_dflt (show wpAny _ _ (call (Value.ref 763) _) _ _ _); k_dflt (refine' call763N ?k1q9 ?k2q9 ?_; (case k1q9 => k_asm); (case k2q9 => k_asm); k_whole); walk_say "C763")
  k_with "call builtin:object.__new__" => (k_here; k_dflt (refine' new763N ?k1q9 ?k2q9 ?k3q9 ?_; (case k1q9 => k_asm); (case k2q9 => k_asm); (case k3q9 => k_asm); k_whole); intro x'q9 dx'q9 h'q9 F'q9 N'q9 l1q9 l2q9; (try dsimp only); (try k_lt l1q9); (try k_lt2 l2q9); (try k_sweep); walk_say "NEW")
  k_with "NewBack" => (k_dflt (refine' newBack ?k1q9 ?k2q9 ?k3q9 ?k4q9 ?_; (case k1q9 => k_asm); (case k2q9 => k_asm); (case k3q9 => k_asm); (case k4q9 => k_mem); k_whole); walk_say "NEWBACK"; k_dflt cell_enter)
  trivial
noncomputable abbrev wcA : Str := Str.ofString "abcdfeghijklmnopqrstuvwxyzABCDEFGHIJKLMNOPQRSTUVWXYZ0123456789_" ++ Str.ofString "ßàáâãäåæçèéêëìíîïðñòóôõöøùúûüýþÿÀÁÂÃÄÅÆÇÈÉÊËÌÍÎÏÐÑÒÓÔÕÖØÙÚÛÜÝÞ"
theorem wcA_eq : wcA = wchars := by decide +kernel
theorem split_led {w : World} {h₀ h : Heap} {L : Addr} {fs pb io dio lex dx : Addr} {o1 o2 : Addr × Obj} {line : Str} {t0 t1 t2 t3 t4 t5 t6 t7 t8 t9 t10 t11 t12 t13 t14 t15 t16 t17 t18 t19 t20 t21 t22 t23 t24 t25 t26 t27 t28 ts u0 u1 u2 u3 u4 u5 : Tok} {led : List (Addr × Obj)} {G : Prop} {wc : Str} (hw : wc = wchars)
    (N : News h₀ L h ((fs, dqObj) :: (pb, dqObj) :: (io, instObj 763 dio) :: (dio, dictOf [E1 w.params "_StringIO__newline" u0 (.str (Str.ofString "\n") u1), E1 w.params "_StringIO__buf" u2 (.str line u3), E1 w.params "_StringIO__pos" u4 (.int 0 u5)] 3) :: o1 :: o2 :: (lex, instObj 898 dx) :: (dx, dictOf [E1 w.params "instream" t0 (.ref io), E1 w.params "infile" t1 .none, E1 w.params "posix" t2 (.bool true), E1 w.params "eof" t3 .none, E1 w.params "commenters" t4 (.str (Str.ofString "") t5), E1 w.params "wordchars" t6 (.str wc t7), E1 w.params "whitespace" t8 (.str (Str.ofString " \t\r\n") t9), E1 w.params "whitespace_split" t10 (.bool true), E1 w.params "quotes" t11 (.str (Str.ofString "'\"") t12), E1 w.params "escape" t13 (.str (Str.ofString "\\") t14), E1 w.params "escapedquotes" t15 (.str (Str.ofString "\"") t16), E1 w.params "state" t17 (.str (Str.ofString " ") ts), E1 w.params "pushback" t18 (.ref pb), E1 w.params "lineno" t19 (.int 1 t20), E1 w.params "debug" t21 (.int 0 t22), E1 w.params "token" t23 (.str (Str.ofString "") t24), E1 w.params "filestack" t25 (.ref fs), E1 w.params "source" t26 .none, E1 w.params "_punctuation_chars" t27 (.str (Str.ofString "") t28)] 19) :: led))
    (g : ∀ τ υ ts, News h₀ L h (lexLed w.params lex dx io dio pb fs τ υ (stV (some (Str.ofString " ")) ts) 1 (Str.ofString "") line 0 ((pb, dqObj) :: (fs, dqObj) :: led)) → G) : G := by
  subst hw
  refine g (fun | 0 => t0 | 1 => t1 | 2 => t2 | 3 => t3 | 4 => t4 | 5 => t5 | 6 => t6 | 7 => t7 | 8 => t8 | 9 => t9 | 10 => t10 | 11 => t11 | 12 => t12 | 13 => t13 | 14 => t14 | 15 => t15 | 16 => t16 | 17 => t17 | 18 => t18 | 19 => t19 | 20 => t20 | 21 => t21 | 22 => t22 | 23 => t23 | 24 => t24 | 25 => t25 | 26 => t26 | 27 => t27 | _ => t28) (fun | 0 => u0 | 1 => u1 | 2 => u2 | 3 => u3 | 4 => u4 | _ => u5) ts (news_sub N ?_)
  exact fmc (.tail _ (.tail _ (.head _))) (fmc (.tail _ (.tail _ (.tail _ (.head _)))) (fmc (.tail _ (.tail _ (.tail _ (.tail _ (.tail _ (.tail _ (.head _))))))) (fmc (.tail _ (.tail _ (.tail _ (.tail _ (.tail _ (.tail _ (.tail _ (.head _)))))))) (fmc (.tail _ (.head _)) (fmc (.head _)
    fun q hq => .tail _ (.tail _ (.tail _ (.tail _ (.tail _ (.tail _ (.tail _ (.tail _ hq))))))))))))
theorem lexOk_new {dx lex C D dio io pb fs : Addr} {led : List (Addr × Obj)} {line : Str} (h1 : ∀ p ∈ led, p.1 < dx) (h2 : dx < lex) (h3 : D < dio ∧ C < dio ∧ lex < dio ∧ dx < dio ∧ AllLt dio led) (h4 : dio < io)
    (h5 : io < pb ∧ dio < pb ∧ D < pb ∧ C < pb ∧ lex < pb ∧ dx < pb ∧ AllLt pb led) (h6 : pb < fs ∧ io < fs ∧ dio < fs ∧ D < fs ∧ C < fs ∧ lex < fs ∧ dx < fs ∧ AllLt fs led) (hb : line.length ≤ 1000000) :
    Lx.Ok ⟨lex, dx, io, dio, pb, fs, (pb, dqObj) :: (fs, dqObj) :: led, line⟩ := by
  obtain ⟨_, _, a1, a2, _⟩ := h3
  obtain ⟨b1, b2, _, _, b3, b4, _⟩ := h5
  obtain ⟨c0, c1, c2, _, _, c3, c4, _⟩ := h6
  have n1 : lex ≠ dx := Nat.ne_of_gt h2
  have n2 : io ≠ dx := Nat.ne_of_gt (Nat.lt_trans a2 h4)
  have n3 : dio ≠ dx := Nat.ne_of_gt a2
  have n4 : lex ≠ dio := Nat.ne_of_lt a1
  have n5 : io ≠ dio := Nat.ne_of_gt h4
  refine ⟨?_, ?_, n1, n2, n3, n4, n5, Ne.symm n3, hb⟩
  · intro q hq
    rcases List.mem_cons.mp hq with rfl | hq
    · exact Nat.ne_of_gt b4
    rcases List.mem_cons.mp hq with rfl | hq
    · exact Nat.ne_of_gt c4
    · exact Nat.ne_of_lt (h1 q hq)
  · intro q hq
    rcases List.mem_cons.mp hq with rfl | hq
    · exact Nat.ne_of_gt b2
    rcases List.mem_cons.mp hq with rfl | hq
    · exact Nat.ne_of_gt c2
    · exact Nat.ne_of_lt (Nat.lt_trans (h1 q hq) a2)
theorem Toks.congr {x y : Lx} (e : x.buf = y.buf) {st pos ws} (t : Toks x st pos ws) : Toks y st pos ws := by
  induction t with
  | nil r a b => exact .nil (r.congr e) a b
  | cons r a b c _ ih => exact .cons (r.congr e) a b c ih
noncomputable def TokL (line : Str) (ws : List Str) : Prop := Toks ⟨0, 0, 0, 0, 0, 0, [], line⟩ (some (Str.ofString " ")) 0 ws
set_option maxRecDepth 100000 in
set_option maxHeartbeats 0 in
theorem splitC : ∀ (w : World) (p : Program) (loose : List Str) (mean : ExcName → Option Value) (mg mb : Str → Option Value) (line : Str) (t : Tok) (ws : List Str) (led : List (Addr × Obj)),
   TokL line ws → line.length ≤ 1000000 → ws.length ≤ 1000 →
   ∀ (dp un : Nat) (gd : Option (List Code)) (cn : Str) (cs : Scope) (a : Addr) (ccd : Value) (cl : List (Str × Addr)) (outer : List Env) (A₀ : Around) (base h₀ : Heap) (L : Addr) (m : Str → Option Value) (s : Shared) (Q : Value → Shared → Prop),
    Below A₀ base outer h₀ → Fr h₀ L s.heap m → (K w.params).In h₀ → News h₀ L s.heap led → Top p loose mean mg mb h₀ →
     (K w.params).In base → Top p loose mean mg mb base → KtsDicts (outer.filterMap (·.frame)) h₀ → cs.kind = .function →
     dp + 60 < recursionLimit → un + 500 < cLine →
     (∀ (g' h' : Heap) (tk' : Nat) (S : Addr) (vs : List Value) (c : Nat), KtsTurn (outer.filterMap (·.frame)) h₀ g' → Below A₀ base outer g' → (K w.params).In g' → Top p loose mean mg mb g' → KtsDicts (outer.filterMap (·.frame)) g' → Fr g' L h' m →
        News g' L h' ((S, listO vs.toArray c) :: led) → StrsAre vs ws → Q (.ref S) { s with heap := h', toks := tk' }) →
     wpAny (model (OpenLaw.prog RR) w) (ktrTop dp un gd cn cs L a ccd cl outer) (call (.ref 910) [.str line t]) Q (fun _ _ => False) s := by
  k_fill
  intro w p loose mean mg mb line t ws led tks hb hws dp un gd cn cs a ccd cl outer A₀ base h₀ L m s Q B F X N T XB TB D hk hd hu hret
  refine wpAny_call ?_
  k_dflt (refine' code_defT ?k1 ?k2 ?k3 ?k4 ?k5 ?XB ?TB ?D ?T0 ?kA ?kF ?kK ?k6 ?k7 ?k8 ?k9 ?kB ?_ ?c2 ?c3 ?c4 ?c5; (case kA => exact rfl); (case kF => exact rfl); (case kK => assumption); (case k3 => exact X); (case k2 => exact F); (case k1 => exact B); (case XB => exact XB); (case TB => exact TB); (case D => exact D); (case T0 => exact KtsTurn.refl); (case k4 => exact N); (case k5 => exact T); (case k6 => k_is); (case k7 => k_is); (case k8 => ktr_room); (case k9 => first | exact BindsTo.of_eq rfl | exact binds_K (X.keeps F.keep) rfl (by k_is) rfl rfl rfl); (case kB => exact locs rfl); (case c2 => exact rfl); (case c3 => exact rfl); (case c4 => exact rfl); (case c5 => decide); k_whole; intro g' L' h' FG' F' N' B' X' T' D'; (try dsimp only); (try k_lift B'); (try k_fold))
  k_steps
  rename News _ _ _ _ => N9
  refine split_led wcA_eq N9 fun τ9 υ9 ts9 N8 => ?_
  refine anyE ?_
  refine' lexlist w p loose mean mg mb ⟨_, _, _, _, _, _, (_, dqObj) :: (_, dqObj) :: led, line⟩ led τ9 υ9 ts9 1 (some (Str.ofString " ")) 0 ws rfl ?oOk ?oTk hws _ _ _ _ _ _ _ _ _ _ _ _ _ _ _ ?oB ?oF ?oX ?oN ?oT ?oXB ?oTB ?oD ?oC ?od ?ou ?oR
  case oN => exact N8
  case oTk => exact Toks.congr (by rfl) tks
  case oB => assumption
  case oF => assumption
  case oX => assumption
  case oT => assumption
  case oXB => assumption
  case oTB => assumption
  case oD => assumption
  case oC => exact rfl
  case od => k_room
  case ou => ktr_units
  case oOk => exact lexOk_new (by assumption) (by assumption) (by assumption) (by assumption) (by assumption) (by assumption) hb
  case oR =>
    intro g9 h9 tk9 S9 vs9 c9 T9 B9 X9 P9 D9 F9 N7 V9
    (try dsimp only)
    k_steps
    all_goals exact hret _ _ _ _ _ _ (by assumption) (by assumption) (by assumption) (by assumption) (by assumption) (by assumption) (by assumption) V9
end Mine
end
section
open PySem PySem.W PySem.Calls PySem.Spec PyProof.Rows PySem.Builtin PySem.Builtin.Re
set_option maxRecDepth 100000
namespace Mine
noncomputable def driveP : Nat → Sre.M → Option Sre.M
  | 0, _ => none
  | n + 1, m => match (m.runFor reTurnSteps).outcome.isSome with
    | true => some (m.runFor reTurnSteps)
    | false => driveP n (m.runFor reTurnSteps)
section
variable {M : Model} {A : Around} {E : Value → Shared → Prop} {s : Shared}
theorem drive_ok {Q : Sre.M → Shared → Prop} {m' : Sre.M} (q : Q m' s) : ∀ (n k : Nat) (m : Sre.M), driveP n m = some m' → n ≤ k → wpAny M A (reDrive k m) Q E s
  | 0, _, _, e, _ => by cases e
  | n + 1, 0, _, _, h => by omega
  | n + 1, k + 1, m, e, h => by
    unfold driveP at e
    unfold reDrive
    dsimp only
    cases z : (m.runFor reTurnSteps).outcome.isSome with
    | true =>
      rw [z] at e
      cases e
      rw [if_pos rfl]
      exact wpAny_pure q
    | false =>
      rw [z] at e
      rw [if_neg (by decide)]
      exact wpAny_bind (wpAny_rule (drive_ok q n k _ e (by omega)))
theorem rules_ok {Q : PUnit → Shared → Prop} (c : Nat → Bool) (f : Nat → String) (q : Q ⟨⟩ s) : ∀ l : List Nat, wpAny M A (forIn l PUnit.unit (fun i _ => if c i = true then (do rule (f i); pure (ForInStep.yield PUnit.unit)) else pure (ForInStep.yield PUnit.unit))) Q E s
  | [] => by exact wpAny_pure q
  | i :: l => by
    rw [List.forIn_cons]
    refine wpAny_bind ?_
    cases z : c i with
    | true =>
      rw [if_pos rfl]
      exact wpAny_bind (wpAny_rule (wpAny_pure (rules_ok c f q l)))
    | false =>
      rw [if_neg (by decide)]
      exact wpAny_pure (rules_ok c f q l)
theorem run_ok {Q : Option Sre.M → Shared → Prop} {m m' : Sre.M} {n : Nat} (e : driveP n m = some m') (hn : n ≤ 1000) (r : Option Sre.M)
    (o : (m'.outcome = some .failed ∧ r = none) ∨ (m'.outcome = some .matched ∧ r = some m')) (q : Q r s) : wpAny M A (reRunToEnd m) Q E s := by
  unfold reRunToEnd
  refine wpAny_bind (drive_ok ?_ n _ m e (Nat.le_trans hn (by decide)))
  refine wpAny_bind (rules_ok _ _ ?_ _)
  rcases o with ⟨o, rfl⟩ | ⟨o, rfl⟩ <;> rw [o] <;> exact wpAny_pure q
end
noncomputable def codeA : Array Nat := #[14, 17, 4, 1, 1, 21, 9, 0, 604043296, 1, 0, 0, 0, 0, 0, 8, 4, 0, 13, 14, 21, 9, 0, 604043296, 1, 0, 0, 0, 0, 0, 8, 4, 0, 1]
noncomputable def tgt (w : Str) (t : Tok) : ReTarget := { pattern := .ref 215, string := .str w t, code := codeA, text := w.cps, kind := 0, groups := 0, pos := min (Int.toNat 0) w.cps.size, lim := min (Int.toNat (2 ^ 63 - 1)) w.cps.size }
theorem tgt_ok (P : Params) (w : Str) (t : Tok) : peek (K P) ⟨OpenLaw.prog RR, P⟩ (reTarget "re.Pattern.search" "search" ⟨[.ref 215, .str w t], []⟩) = some (tgt w t) := by kernel_rfl
noncomputable def srchM (w : Str) : Sre.M := Sre.forSearch codeA w.cps 0 (min (Int.toNat 0) w.cps.size) (min (Int.toNat (2 ^ 63 - 1)) w.cps.size) false
noncomputable def outc (w : Str) : Nat := match driveP 100 (srchM w) with
  | none => 0
  | some m => match m.outcome with
    | some .failed => 2
    | some .matched => 1
    | _ => 0
end Mine
end
section
open PySem PySem.W PySem.Calls PySem.Spec PyProof.Rows PySem.Builtin PySem.Builtin.Re
set_option maxRecDepth 100000
namespace Mine
theorem outc_none {w : Str} (h : outc w = 2) : ∃ m, driveP 100 (srchM w) = some m ∧ m.outcome = some .failed := by
  unfold outc at h
  split at h
  · cases h
  · rename_i m hm
    refine ⟨m, hm, ?_⟩
    split at h
    · rename_i e; exact e
    · cases h
    · cases h
theorem outc_some {w : Str} (h : outc w = 1) : ∃ m, driveP 100 (srchM w) = some m ∧ m.outcome = some .matched := by
  unfold outc at h
  split at h
  · cases h
  · rename_i m hm
    refine ⟨m, hm, ?_⟩
    split at h
    · cases h
    · rename_i e; exact e
    · cases h
theorem pkBound (P : Params) (w : Str) (t : Tok) : peek (K P) ⟨OpenLaw.prog RR, P⟩ (checkBoundCall "re.Pattern.search" ⟨[.ref 215, .str w t], []⟩) = some () := by kernel_rfl
theorem entry_search : entryFor table "re.Pattern.search" = some Builtin.«re.Pattern.search» := entryFor_of_tree (by kernel_rfl)
theorem newMatch0 (p v : Value) (pos lim : Nat) (m : Sre.M) : reNewMatch p v 0 pos lim m = (newTuple [rawInt m.start, rawInt m.handed]) >>= fun t => newFields "re.Match" [v, p, rawInt pos, rawInt lim, rawInt m.lastindex, t] := rfl
noncomputable abbrev fobj (cls : String) (vs : Array Value) : Obj := { cls := .type cls, data := .fields vs }
section
variable {w : World} {A : Around} {E : Value → Shared → Prop} {s : Shared}
theorem find_code {R : Result → Shared → Prop} {x : Str} {t : Tok} (X : (K w.params).In s.heap)
    (h : wpAny (model (OpenLaw.prog RR) w) (A.under (.builtin "re.Pattern.search" ⟨[.ref 215, .str x t], []⟩)) (reAnswer (tgt x t) (srchM x)) (fun fin s' => match fin with | .done f => R (.ok f) s' | .again c' => c'.quiet = true ∧ codeAny (model (OpenLaw.prog RR) w) A c' R s') (fun e s' => R (.error e) s') s) :
    codeAny (model (OpenLaw.prog RR) w) A (.call (.ref 911) ⟨[.str x t], []⟩) R s := by
  have hC := X 911 _ (by rfl)
  refine codeAny_of_tree ?_
  show wpAny _ _ (callAny (.ref 911) _) _ _ _
  refine nd_load hC ?_
  show wpAny _ _ (checkBoundCall "re.Pattern.search" ⟨[.ref 215, .str x t], []⟩ >>= _) _ _ _
  refine wpAny_bind ((Looks.of_peek X (pkBound _ _ _)).here ?_)
  refine wpAny_pure (a := Fin.again (.builtin "re.Pattern.search" ⟨[.ref 215, .str x t], []⟩)) (And.intro (Code.quiet_builtin _ (by decide +kernel)) ?_)
  refine codeAny_builtin entry_search ?_
  unfold Builtin.«re.Pattern.search»
  refine wpAny_bind ((Looks.of_peek X (tgt_ok _ _ _)).here ?_)
  exact h
theorem find_none {Q : Value → Shared → Prop} {x : Str} {t : Tok} (X : (K w.params).In s.heap) (e : outc x = 2) (q : Q .none s) : wpAny (model (OpenLaw.prog RR) w) A (call (.ref 911) [.str x t]) Q E s := by
  obtain ⟨m, e1, e2⟩ := outc_none e
  refine wpAny_call (find_code X ?_)
  unfold reAnswer
  refine wpAny_bind (run_ok e1 (by decide) none (.inl ⟨e2, rfl⟩) ?_)
  exact wpAny_pure q
theorem find_some {Q : Value → Shared → Prop} {x : Str} {t : Tok} {h₀ : Heap} {L : Addr} {m : Str → Option Value} {news : List (Addr × Obj)} (F : Fr h₀ L s.heap m) (N : News h₀ L s.heap news) (X : (K w.params).In h₀) (e : outc x = 1)
    (q : ∀ h' a, Fr h₀ L h' m → News h₀ L h' news → Q (.ref a) { s with heap := h' }) : wpAny (model (OpenLaw.prog RR) w) A (call (.ref 911) [.str x t]) Q E s := by
  obtain ⟨mm, e1, e2⟩ := outc_some e
  refine wpAny_call (find_code (X.keeps F.keep) ?_)
  unfold reAnswer
  refine wpAny_bind (run_ok e1 (by decide) (some mm) (.inr ⟨e2, rfl⟩) ?_)
  show wpAny _ _ (reNewMatch (.ref 215) (.str x t) 0 _ _ mm >>= _) _ _ _
  refine wpAny_bind ?_
  rw [newMatch0]
  refine wpAny_bind (wpAny_newTuple ?_)
  refine wpAny_newObj_type (wpAny_pure ?_)
  exact q _ _ ((F.push _).push _) ((N.pushKeep _).pushKeep _)
theorem pkKeep (P : Params) : peek (K P) ⟨OpenLaw.prog RR, P⟩ (keeperOf (.ref 911)) = some .machine := by kernel_rfl
theorem callWith_911 {pos : Pos} {first : List Value} {env : Env} {e : PySem.Expr} {rest : List PySem.Expr} {Q : Value → Shared → Prop} (h : wpAny (model (OpenLaw.prog RR) w) A (spliced (backTo pos (starEach (e :: rest) env))) (fun vs s₁ => (K w.params).In s₁.heap ∧ wpAny (model (OpenLaw.prog RR) w) A (call (.ref 911) (first ++ vs)) Q E s₁) E s)
    (he : starEach (e :: rest) env = (false, eval e env) :: starEach rest env := by rfl) (hplain : (backTo pos (starEach rest env)).any (·.1) = false := by rfl) :
    wpAny (model (OpenLaw.prog RR) w) A (callWith pos (.ref 911) first (backTo pos (starEach (e :: rest) env)) []) Q E s := by
  rw [he] at h ⊢
  refine callWith_of (P := fun h => (K w.params).In h) (by show ((false || (backTo pos (starEach rest env)).any (·.1)) || false) = false; rw [hplain]; rfl) (fun h X => ⟨.machine, .inr (.inl rfl), Looks.of_peek X (pkKeep _)⟩) (evalArgs_plain h)
end
end Mine
end
section
open PySem PySem.W PySem.Calls PySem.Spec PyProof.Rows
namespace Mine
theorem kw_X1_1 : True := by
  k_with_none
  k_with "execs cons" => (first | (k_here; k_gentoks) | (refine' execs_one ?_) | (refine' execs_let ?_; intro Cq9))
  k_with "ite" => (first | (k_closed; first | refine ite_pos (by decide +kernel) ?_ | refine ite_neg (by decide +kernel) ?_) | refine ite_pos (by with_reducible assumption) ?_ | refine ite_neg (by with_reducible assumption) ?_ | refine ite_isFalse (by with_reducible assumption) ?_)
  k_with "call ref" => (k_here; k_dflt (show wpAny _ _ (call (Value.ref 911) [Value.str _ _]) _ _ _); k_dflt (refine' find_none ?k1q9 ?k2q9 ?_; (case k1q9 => first | k_in | exact Frag.In.keeps (by k_asm) (Fr.keep (by k_asm))); (case k2q9 => assumption); k_whole); walk_say "FINDN")
  k_with "call ref" => (k_here; k_dflt (show wpAny _ _ (call (Value.ref 911) [Value.str _ _]) _ _ _); k_dflt (refine' find_some ?k1q9 ?k2q9 ?k3q9 ?k4q9 ?_; (case k1q9 => k_asm); (case k2q9 => k_asm); (case k3q9 => k_asm); (case k4q9 => assumption); k_whole); intro h'q9 a'q9 F'q9 N'q9; (try dsimp only); (try k_sweep); walk_say "FINDS")
  k_with "callWith ref" => (k_here; k_dflt (show wpAny _ _ (callWith _ (Value.ref 911) _ (backTo _ (starEach (_ :: _) _)) []) _ _ _); k_dflt (refine' callWith_911 ?_ ?k3q9 ?k4q9; (case k3q9 => rfl); (case k4q9 => rfl); k_whole))
  trivial
theorem slen (x y : Str) : (x ++ y).length = x.length + y.length := by
  show (x.cps ++ y.cps).size = _
  rw [Array.size_append]; rfl
theorem kw_X1_2 : True := by
  k_with "binaryOp Add str str" => (k_here; (with_reducible show wpAny _ _ (binaryOp Operator.Add (Value.str _ _) (Value.str _ _)) _ _ _); k_dflt (refine' SBL.add ?_ ?hszq9; (case hszq9 => ((try simp only [slen]); rw [sizeLine_eq]; omega))); intro t'q9 k'q9 l'q9; clear l'q9)
  trivial
set_option maxRecDepth 100000 in
set_option maxHeartbeats 0 in
theorem quoteS : ∀ (w : World) (p : Program) (loose : List Str) (mean : ExcName → Option Value) (mg mb : Str → Option Value) (x : Str) (t : Tok) (led : List (Addr × Obj)),
   ((x.length : Int) != 0) = true → x.length ≤ 10000 → outc x = 2 →
   ∀ (dp un : Nat) (gd : Option (List Code)) (cn : Str) (cs : Scope) (a : Addr) (ccd : Value) (cl : List (Str × Addr)) (outer : List Env) (A₀ : Around) (base h₀ : Heap) (L : Addr) (m : Str → Option Value) (s : Shared) (Q : Value → Shared → Prop),
    Below A₀ base outer h₀ → Fr h₀ L s.heap m → (K w.params).In h₀ → News h₀ L s.heap led → Top p loose mean mg mb h₀ → cs.kind = .function →
     dp + 5 < recursionLimit → un + 50 < cLine →
     (∀ (h' : Heap) (tk' : Nat) (t' : Tok), Fr h₀ L h' m → News h₀ L h' led → Q (.str x t') { s with heap := h', toks := tk' }) →
     wpAny (model (OpenLaw.prog RR) w) (ktrTop dp un gd cn cs L a ccd cl outer) (call (.ref 918) [.str x t]) Q (fun _ _ => False) s := by
  k_fill
  intro w p loose mean mg mb x t led hx hlen ho dp un gd cn cs a ccd cl outer A₀ base h₀ L m s Q B F X N T hk hd hu hret
  refine wpAny_call ?_
  k_dflt cell_enter
  k_steps
  all_goals exact hret _ _ _ (by assumption) (by assumption)
set_option maxRecDepth 100000 in
set_option maxHeartbeats 0 in
theorem quoteU : ∀ (w : World) (p : Program) (loose : List Str) (mean : ExcName → Option Value) (mg mb : Str → Option Value) (x : Str) (t : Tok) (led : List (Addr × Obj)),
   ((x.length : Int) != 0) = true → x.length ≤ 10000 → outc x = 1 → (Txt.replace x (Str.ofString "'") (Str.ofString "'\"'\"'")).length ≤ 100000 →
   ∀ (dp un : Nat) (gd : Option (List Code)) (cn : Str) (cs : Scope) (a : Addr) (ccd : Value) (cl : List (Str × Addr)) (outer : List Env) (A₀ : Around) (base h₀ : Heap) (L : Addr) (m : Str → Option Value) (s : Shared) (Q : Value → Shared → Prop),
    Below A₀ base outer h₀ → Fr h₀ L s.heap m → (K w.params).In h₀ → News h₀ L s.heap led → Top p loose mean mg mb h₀ → cs.kind = .function →
     dp + 5 < recursionLimit → un + 50 < cLine →
     (∀ (h' : Heap) (tk' : Nat) (t' : Tok), Fr h₀ L h' m → News h₀ L h' led → Q (.str (Str.ofString "'" ++ Txt.replace x (Str.ofString "'") (Str.ofString "'\"'\"'") ++ Str.ofString "'") t') { s with heap := h', toks := tk' }) →
     wpAny (model (OpenLaw.prog RR) w) (ktrTop dp un gd cn cs L a ccd cl outer) (call (.ref 918) [.str x t]) Q (fun _ _ => False) s := by
  k_fill
  intro w p loose mean mg mb x t led hx hlen ho hrep dp un gd cn cs a ccd cl outer A₀ base h₀ L m s Q B F X N T hk hd hu hret
  have z1 : (Str.ofString "'").length = 1 := rfl
  refine wpAny_call ?_
  k_dflt cell_enter
  k_steps
  all_goals exact hret _ _ _ (by assumption) (by assumption)
end Mine
end
section
open PySem PySem.W PySem.Calls PySem.Spec PyProof.Rows
set_option maxRecDepth 100000
namespace Mine
theorem fr_one {h₀ h h' : Heap} {L S : Addr} {m : Str → Option Value} (F : Fr h₀ L h m) (hS : h₀.get? S = none) (hL : S ≠ L) (k : ∀ b o, S ≠ b → h.get? b = some o → h'.get? b = some o) : Fr h₀ L h' m :=
  fr_but F hS hL fun b o hb e => k b o (Ne.symm hb) e
theorem news_one {h₀ h h' : Heap} {L S : Addr} {l : List (Addr × Obj)} (N : News h₀ L h l) (hl : ∀ q ∈ l, q.1 ≠ S) (k : ∀ b o, S ≠ b → h.get? b = some o → h'.get? b = some o) : News h₀ L h' l :=
  fun q hq => ⟨k _ _ (Ne.symm (hl q hq)) (N q hq).1, (N q hq).2⟩
section
variable {prog : Program} {w : World} {A : Around} {E : Value → Shared → Prop} {s : Shared}
noncomputable def TurnEnd (J : Heap → (Str → Option Value) → List (Addr × Obj) → Prop) (L it : Addr) (oi : Obj) (s : Shared) (Q : Flow → Shared → Prop) (f : Flow) (s' : Shared) : Prop := match f with
  | .brk => Q .next s'
  | .ret v => Q (.ret v) s'
  | _ => ∃ g' h' tk' m' led', s' = { s with heap := h', toks := tk' } ∧ Fr g' L h' m' ∧ News g' L h' ((it, oi) :: led') ∧ (∀ q ∈ led', q.1 ≠ it) ∧ J g' m' led'
inductive ListInv (J : Nat → Heap → (Str → Option Value) → List (Addr × Obj) → Prop) (L l it : Addr) (vs : List Value) (ty : String) (s : Shared) (n : Nat) (s' : Shared) : Prop
  | mk (i : Nat) (g h : Heap) (tk : Nat) (m : Str → Option Value) (led : List (Addr × Obj)) (oi : Obj) (e : s' = { s with heap := h, toks := tk }) (hn : n + i = vs.length) (hJ : J i g m led) (F : Fr g L h m) (N : News g L h ((it, oi) :: led)) (ne : ∀ q ∈ led, q.1 ≠ it) (h1 : oi.cls = .type ty) (h2 : oi.data = .fields #[.ref l, .int (i : Nat) 0])
theorem for_listE {env : Env} {L l : Addr} {x : Str} {px : Pos} {body : List Stmt} {Q : Flow → Shared → Prop} {g₀ : Heap} {m₀ : Str → Option Value} {led₀ : List (Addr × Obj)} {vs : List Value} {lo : Obj} {c : Nat}
    (J : Nat → Heap → (Str → Option Value) → List (Addr × Obj) → Prop) (hh : A.handled = none) (F : Fr g₀ L s.heap m₀) (N : News g₀ L s.heap led₀)
    (hl : (l, lo) ∈ led₀) (hc : lo.cls = .type "list") (hd : lo.data = .seq vs.toArray c) (j0 : J 0 g₀ m₀ led₀) (keepl : ∀ i g m led, J i g m led → (l, lo) ∈ led)
    (hL : env.locals = L) (hsd : (env.scope.kind == .class || (env.scope.kind == .module && env.locals != env.globals)) = false) (hx : env.kindOf x = some .local)
    (turn : ∀ i v g m led it oi h tk, vs[i]? = some v → J i g m led → Fr g L h (fun y => if y = x then some v else m y) → News g L h ((it, oi) :: led) → (∀ q ∈ led, q.1 ≠ it) → oi.cls = .type "list_iterator" →
      wpAny (model prog w) A (execs body env) (TurnEnd (J (i + 1)) L it oi s Q) (fun _ _ => False) { s with heap := h, toks := tk })
    (done : ∀ g m led h tk, J vs.length g m led → Fr g L h m → News g L h led → Q .next { s with heap := h, toks := tk }) :
    wpAny (model prog w) A (pyIter (.ref l)) (fun it s₂ => codeAny (model prog w) A (.forLoop (.Name x px) it body [] env) (fun r s' => match r with | .ok f => Q f s' | .error e => cameBackBy (model prog w) A env E e s') s₂) E s := by
  have hls : s.heap.IsList l vs.toArray := ⟨lo, (N _ hl).1, hc, c, hd⟩
  refine wpAny_pyIter_list hls ?_
  have nS := next_is_new F
  have hLs : s.heap.objs.size ≠ L := Nat.ne_of_gt F.ns.lt
  have n0 : News g₀ L (s.heap.push { cls := .type "list_iterator", data := .fields #[.ref l, .int 0 0] }) ((s.heap.objs.size, { cls := .type "list_iterator", data := .fields #[.ref l, .int 0 0] }) :: led₀) := N.push F _
  refine codeAny_forLoop (ListInv J L l s.heap.objs.size vs "list_iterator" s)
    ?_ vs.length ⟨0, g₀, _, s.toks, m₀, led₀, _, rfl, by omega, j0, F.push _, n0, N.apart, rfl, rfl⟩
  rintro n s' ⟨i, g, h, tk, m, led, oi, rfl, hn, hJ, F1, N1, hne, ho1, ho2⟩
  have hit : h.IsListIter s.heap.objs.size l i := ⟨oi, (N1 _ (.head _)).1, ho1, ho2⟩
  have hl1 : h.IsList l vs.toArray := ⟨lo, (N1 _ (.tail _ (keepl _ _ _ _ hJ))).1, hc, c, hd⟩
  have hS0 : g.get? s.heap.objs.size = none := (N1 _ (.head _)).2.2
  cases n with
  | zero =>
    have hnone : vs.toArray[i]? = none := by simp; omega
    refine wpAny_pyNext_list_end hh hit hl1 hnone fun h' ext => ?_
    have k : ∀ b o, s.heap.objs.size ≠ b → h.get? b = some o → h'.get? b = some o := fun b o hb e => ext b o (Ne.symm hb) e
    have e : i = vs.length := by omega
    subst e
    exact wpAny_pure (done g m led h' tk hJ (fr_one F1 hS0 hLs k) (news_one (fun q hq => N1 q (.tail _ hq)) hne k))
  | succ n =>
    have hlt : i < vs.length := by omega
    have hx' : vs.toArray[i]? = some vs[i] := by simp [hlt]
    refine wpAny_pyNext_list_item hit hl1 hx' fun h' hit' same => ?_
    have k : ∀ b o, s.heap.objs.size ≠ b → h.get? b = some o → h'.get? b = some o := fun b o hb e => (same.2 b (Ne.symm hb)).trans e
    have F2 := fr_one F1 hS0 hLs k
    have N2 := news_one (fun q hq => N1 q (.tail _ hq)) hne k
    obtain ⟨o', ho', hoc', hod'⟩ := hit'
    have N3 : News g L h' ((s.heap.objs.size, o') :: led) := fun q hq => by
      rcases List.mem_cons.mp hq with rfl | hq
      · exact ⟨ho', (N1 _ (.head _)).2.1, (N1 _ (.head _)).2.2⟩
      · exact N2 q hq
    refine wpAny_assign_Name (wpAny_storeName_local hx (hL ▸ F2.ns) (fun h2 hn2 hs2 => ?_) hsd)
    have hgL : g.get? L = none := fr_self F2
    have F3 : Fr g L h2 (fun y => if y = x then some vs[i] else m y) := ⟨hL ▸ hn2, fun b o e => hs2.extBut b o (fun z => by rw [z, hL, hgL] at e; cases e) (F2.keep b o e), F2.above⟩
    have N4 : News g L h2 ((s.heap.objs.size, o') :: led) := fun q hq => ⟨hs2.extBut _ _ (fun z => (N3 q hq).2.1 (z.trans hL)) (N3 q hq).1, (N3 q hq).2⟩
    refine anyE (wpAny_mono (turn i vs[i] g m led s.heap.objs.size o' h2 _ (by simp [hlt]) hJ F3 N4 hne hoc') (fun f s3 hf => ?_) fun _ _ e => e)
    have fin : TurnEnd (J (i + 1)) L s.heap.objs.size o' s Q .next s3 → ∃ n', n' < n + 1 ∧ ListInv J L l s.heap.objs.size vs "list_iterator" s n' s3 := by
      rintro ⟨g', h', tk', m', led', rfl, F', N', ne', hJ'⟩
      exact ⟨n, Nat.lt_succ_self n, i + 1, g', h', tk', m', led', o', rfl, by omega, hJ', F', N', ne', hoc', hod'⟩
    cases f with
    | next => exact fin hf
    | cont => exact fin hf
    | brk => exact hf
    | ret v => exact hf
theorem for_list {name : Str} {scope : Scope} {L a l : Addr} {cd : Value} {x : Str} {px : Pos} {body : List Stmt} {Q : Flow → Shared → Prop} {g₀ : Heap} {m₀ : Str → Option Value} {led₀ : List (Addr × Obj)} {vs : List Value} {lo : Obj} {c : Nat}
    (J : Nat → Heap → (Str → Option Value) → List (Addr × Obj) → Prop) (hh : A.handled = none) (F : Fr g₀ L s.heap m₀) (N : News g₀ L s.heap led₀)
    (hl : (l, lo) ∈ led₀) (hc : lo.cls = .type "list") (hd : lo.data = .seq vs.toArray c) (j0 : J 0 g₀ m₀ led₀) (keepl : ∀ i g m led, J i g m led → (l, lo) ∈ led)
    (hk : scope.kind = .function) (hx : (envOf name scope L a cd).kindOf x = some .local)
    (turn : ∀ i v g m led it oi h tk, vs[i]? = some v → J i g m led → Fr g L h (fun y => if y = x then some v else m y) → News g L h ((it, oi) :: led) → (∀ q ∈ led, q.1 ≠ it) → oi.cls = .type "list_iterator" →
      wpAny (model prog w) A (execs body (envOf name scope L a cd)) (TurnEnd (J (i + 1)) L it oi s Q) (fun _ _ => False) { s with heap := h, toks := tk })
    (done : ∀ g m led h tk, J vs.length g m led → Fr g L h m → News g L h led → Q .next { s with heap := h, toks := tk }) :
    wpAny (model prog w) A (pyIter (.ref l)) (fun it s₂ => codeAny (model prog w) A (.forLoop (.Name x px) it body [] (envOf name scope L a cd)) (fun r s' => match r with | .ok f => Q f s' | .error e => cameBackBy (model prog w) A (envOf name scope L a cd) E e s') s₂) E s :=
  for_listE (env := envOf name scope L a cd) J hh F N hl hc hd j0 keepl rfl (by show (scope.kind == .class || (scope.kind == .module && _)) = false; rw [hk]; rfl) hx turn done
theorem comp_J {h₀ : Heap} {L : Addr} {m : Str → Option Value} {env : Env} {elt : PySem.Expr} {x : Str} {scope : Scope} {cl : List (Str × Addr)} {S : List (Addr × Obj) → Prop} {P : Nat → Value → Prop} {Fin : List Value → List (Addr × Obj) → Prop} {news : List (Addr × Obj)} {n : Nat}
    (J : Nat → List Value → List (Addr × Obj) → Prop) (j0 : J 0 [] news)
    (turn : ∀ i v ys news I oI C oC D m₂ h tk, i < n → P i v → J i ys news → LCg.NsObj oC m₂ → m₂ x = some v → Fr h₀ L h m → News h₀ L h ((I, oI) :: (C, oC) :: (D, LCg.lst ys) :: news) → LCg.Off3 I C D news → ((@Ne Nat I C) ∧ (@Ne Nat I D) ∧ (@Ne Nat C D)) →
      wpAny (model prog w) A (eval elt (compEnvC scope cl C env)) (LCg.CompEnd h₀ L m { s with heap := h, toks := tk } I oI C oC D (LCg.lst ys) S (fun y news' => J (i + 1) (ys ++ [y]) news')) (fun _ _ => False) { s with heap := h, toks := tk })
    (fin : ∀ ys news, J n ys news → Fin ys news) : LCg.CompRest prog w A h₀ L m env elt x scope cl s S P Fin n 0 [] news := by
  have key : ∀ (j i : Nat) (ys : List Value) (news : List (Addr × Obj)), i + j = n → J i ys news → LCg.CompRest prog w A h₀ L m env elt x scope cl s S P Fin j i ys news := by
    intro j
    induction j with
    | zero =>
      intro i ys news hi hJ
      have e : i = n := by omega
      subst e
      exact LCg.CompRest.zero (fin ys news hJ)
    | succ j ih =>
      intro i ys news hi hJ
      refine LCg.CompRest.succ ?_
      intro v I oI C oC D m₂ h tk E' hv hC hx F N off ne
      refine anyE (wpAny_mono (turn i v ys news I oI C oC D m₂ h tk (by omega) hv hJ hC hx F N off ne) (fun y s₂ hq => ?_) fun _ _ e => e)
      obtain ⟨h', tk', nw, e, F', N', off', hS, hj⟩ := hq
      exact ⟨h', tk', nw, e, F', N', off', hS, ih (i + 1) _ _ (by omega) hj⟩
  exact key n 0 [] news (by omega) j0
theorem comp_S {h₀ : Heap} {L : Addr} {m : Str → Option Value} {env : Env} {elt : PySem.Expr} {x : Str} {scope : Scope} {cl : List (Str × Addr)} {S : List (Addr × Obj) → Prop} {P : Nat → Value → Prop} {Fin : List Value → List (Addr × Obj) → Prop} {news : List (Addr × Obj)} {n : Nat}
    (J : Nat → List Value → Prop) (j0 : J 0 [])
    (turn : ∀ i v ys I oI C oC D m₂ h tk, i < n → P i v → J i ys → LCg.NsObj oC m₂ → m₂ x = some v → Fr h₀ L h m → News h₀ L h ((I, oI) :: (C, oC) :: (D, LCg.lst ys) :: news) → LCg.Off3 I C D news → ((@Ne Nat I C) ∧ (@Ne Nat I D) ∧ (@Ne Nat C D)) →
      wpAny (model prog w) A (eval elt (compEnvC scope cl C env)) (LCg.CompEnd h₀ L m { s with heap := h, toks := tk } I oI C oC D (LCg.lst ys) S (fun y news' => J (i + 1) (ys ++ [y]) ∧ news' = news)) (fun _ _ => False) { s with heap := h, toks := tk })
    (fin : ∀ ys, J n ys → Fin ys news) : LCg.CompRest prog w A h₀ L m env elt x scope cl s S P Fin n 0 [] news := by
  refine comp_J (fun i ys nw => J i ys ∧ nw = news) ⟨j0, rfl⟩ ?_ ?_
  · rintro i v ys _ I oI C oC D m₂ h tk hi hv ⟨hJ, rfl⟩ hC hx F N off ne
    exact turn i v ys I oI C oC D m₂ h tk hi hv hJ hC hx F N off ne
  · rintro ys _ ⟨hJ, rfl⟩
    exact fin ys hJ
end
end Mine
end
section
open PySem PySem.W PySem.Calls PySem.Spec PyProof.Rows
set_option maxRecDepth 100000
namespace Mine
section
variable {prog : Program} {w : World} {A : Around} {E : Value → Shared → Prop} {s : Shared}
theorem for_tuple {name : Str} {scope : Scope} {L a l : Addr} {cd : Value} {x : Str} {px : Pos} {body : List Stmt} {Q : Flow → Shared → Prop} {g₀ : Heap} {m₀ : Str → Option Value} {led₀ : List (Addr × Obj)} {vs : List Value} {lo : Obj} {c : Nat}
    (J : Nat → Heap → (Str → Option Value) → List (Addr × Obj) → Prop) (hh : A.handled = none) (F : Fr g₀ L s.heap m₀) (N : News g₀ L s.heap led₀)
    (hl : (l, lo) ∈ led₀) (hc : lo.cls = .type "tuple") (hd : lo.data = .seq vs.toArray c) (j0 : J 0 g₀ m₀ led₀) (keepl : ∀ i g m led, J i g m led → (l, lo) ∈ led)
    (hk : scope.kind = .function) (hx : (envOf name scope L a cd).kindOf x = some .local)
    (turn : ∀ i v g m led it oi h tk, vs[i]? = some v → J i g m led → Fr g L h (fun y => if y = x then some v else m y) → News g L h ((it, oi) :: led) → (∀ q ∈ led, q.1 ≠ it) → oi.cls = .type "tuple_iterator" →
      wpAny (model prog w) A (execs body (envOf name scope L a cd)) (TurnEnd (J (i + 1)) L it oi s Q) (fun _ _ => False) { s with heap := h, toks := tk })
    (done : ∀ g m led h tk, J vs.length g m led → Fr g L h m → News g L h led → Q .next { s with heap := h, toks := tk }) :
    wpAny (model prog w) A (pyIter (.ref l)) (fun it s₂ => codeAny (model prog w) A (.forLoop (.Name x px) it body [] (envOf name scope L a cd)) (fun r s' => match r with | .ok f => Q f s' | .error e => cameBackBy (model prog w) A (envOf name scope L a cd) E e s') s₂) E s := by
  have hls : s.heap.IsTuple l vs.toArray := ⟨lo, (N _ hl).1, hc, c, hd⟩
  refine wpAny_pyIter_tuple hls ?_
  have nS := next_is_new F
  have hLs : s.heap.objs.size ≠ L := Nat.ne_of_gt F.ns.lt
  have n0 : News g₀ L (s.heap.push { cls := .type "tuple_iterator", data := .fields #[.ref l, .int 0 0] }) ((s.heap.objs.size, { cls := .type "tuple_iterator", data := .fields #[.ref l, .int 0 0] }) :: led₀) := N.push F _
  refine codeAny_forLoop (ListInv J L l s.heap.objs.size vs "tuple_iterator" s)
    ?_ vs.length ⟨0, g₀, _, s.toks, m₀, led₀, _, rfl, by omega, j0, F.push _, n0, N.apart, rfl, rfl⟩
  rintro n s' ⟨i, g, h, tk, m, led, oi, rfl, hn, hJ, F1, N1, hne, ho1, ho2⟩
  have hit : h.IsTupleIter s.heap.objs.size l i := ⟨oi, (N1 _ (.head _)).1, ho1, ho2⟩
  have hl1 : h.IsTuple l vs.toArray := ⟨lo, (N1 _ (.tail _ (keepl _ _ _ _ hJ))).1, hc, c, hd⟩
  have hS0 : g.get? s.heap.objs.size = none := (N1 _ (.head _)).2.2
  cases n with
  | zero =>
    have hnone : vs.toArray[i]? = none := by simp; omega
    refine wpAny_pyNext_tuple_end hh hit hl1 hnone fun h' ext => ?_
    have k : ∀ b o, s.heap.objs.size ≠ b → h.get? b = some o → h'.get? b = some o := fun b o hb e => ext b o (Ne.symm hb) e
    have e : i = vs.length := by omega
    subst e
    exact wpAny_pure (done g m led h' tk hJ (fr_one F1 hS0 hLs k) (news_one (fun q hq => N1 q (.tail _ hq)) hne k))
  | succ n =>
    have hlt : i < vs.length := by omega
    have hx' : vs.toArray[i]? = some vs[i] := by simp [hlt]
    refine wpAny_pyNext_tuple_item hit hl1 hx' fun h' hit' same => ?_
    have k : ∀ b o, s.heap.objs.size ≠ b → h.get? b = some o → h'.get? b = some o := fun b o hb e => (same.2 b (Ne.symm hb)).trans e
    have F2 := fr_one F1 hS0 hLs k
    have N2 := news_one (fun q hq => N1 q (.tail _ hq)) hne k
    obtain ⟨o', ho', hoc', hod'⟩ := hit'
    have N3 : News g L h' ((s.heap.objs.size, o') :: led) := fun q hq => by
      rcases List.mem_cons.mp hq with rfl | hq
      · exact ⟨ho', (N1 _ (.head _)).2.1, (N1 _ (.head _)).2.2⟩
      · exact N2 q hq
    refine wpAny_assign_Name (stN F2 N3 (fun h2 F3 N4 => ?_) hk hx)
    refine anyE (wpAny_mono (turn i vs[i] g m led s.heap.objs.size o' h2 _ (by simp [hlt]) hJ F3 N4 hne hoc') (fun f s3 hf => ?_) fun _ _ e => e)
    have fin : TurnEnd (J (i + 1)) L s.heap.objs.size o' s Q .next s3 → ∃ n', n' < n + 1 ∧ ListInv J L l s.heap.objs.size vs "tuple_iterator" s n' s3 := by
      rintro ⟨g', h', tk', m', led', rfl, F', N', ne', hJ'⟩
      exact ⟨n, Nat.lt_succ_self n, i + 1, g', h', tk', m', led', o', rfl, by omega, hJ', F', N', ne', hoc', hod'⟩
    cases f with
    | next => exact fin hf
    | cont => exact fin hf
    | brk => exact hf
    | ret v => exact hf
theorem for_tup1 {name : Str} {scope : Scope} {L a l : Addr} {cd : Value} {x : Str} {px : Pos} {body : List Stmt} {Q : Flow → Shared → Prop} {g₀ : Heap} {m₀ : Str → Option Value} {led₀ : List (Addr × Obj)} {v : Value} {c : Nat} (R : (Str → Option Value) → Prop)
    (hh : A.handled = none) (F : Fr g₀ L s.heap m₀) (N : News g₀ L s.heap led₀) (hl : (l, ({ cls := .type "tuple", data := .seq #[v] c } : Obj)) ∈ led₀) (hk : scope.kind = .function) (hx : (envOf name scope L a cd).kindOf x = some .local)
    (turn : ∀ it oi h tk, Fr g₀ L h (fun y => if y = x then some v else m₀ y) → News g₀ L h ((it, oi) :: led₀) → (∀ q ∈ led₀, q.1 ≠ it) → oi.cls = .type "tuple_iterator" →
      wpAny (model prog w) A (execs body (envOf name scope L a cd)) (TurnEnd (fun g m led => g = g₀ ∧ led = led₀ ∧ R m) L it oi s Q) (fun _ _ => False) { s with heap := h, toks := tk })
    (done : ∀ m h tk, R m → Fr g₀ L h m → News g₀ L h led₀ → Q .next { s with heap := h, toks := tk }) :
    wpAny (model prog w) A (pyIter (.ref l)) (fun it s₂ => codeAny (model prog w) A (.forLoop (.Name x px) it body [] (envOf name scope L a cd)) (fun r s' => match r with | .ok f => Q f s' | .error e => cameBackBy (model prog w) A (envOf name scope L a cd) E e s') s₂) E s := by
  refine for_tuple (vs := [v]) (fun i g m led => g = g₀ ∧ led = led₀ ∧ ((i = 0 ∧ m = m₀) ∨ (i = 1 ∧ R m))) hh F N hl rfl rfl ⟨rfl, rfl, .inl ⟨rfl, rfl⟩⟩ (fun i g m led h => by rw [h.2.1]; exact hl) hk hx ?_ ?_
  · rintro i v' g m led it oi h tk hi ⟨rfl, rfl, h0⟩ F1 N1 ne hc
    cases i with
    | zero =>
      cases hi
      rcases h0 with ⟨_, rfl⟩ | ⟨h1, _⟩
      · refine wpAny_mono (turn it oi h tk F1 N1 ne hc) (fun f s3 hf => ?_) fun _ _ e => e
        have fin : TurnEnd (fun g' m led' => g' = g ∧ led' = led ∧ R m) L it oi s Q .next s3 → TurnEnd (fun g' m' led' => g' = g ∧ led' = led ∧ ((0 + 1 = 0 ∧ m' = m) ∨ (0 + 1 = 1 ∧ R m'))) L it oi s Q .next s3 := by
          rintro ⟨g', h', tk', m', led', e, F', N', ne', e1, e2, r⟩
          exact ⟨g', h', tk', m', led', e, F', N', ne', e1, e2, .inr ⟨rfl, r⟩⟩
        cases f with
        | next => exact fin hf
        | cont => exact fin hf
        | brk => exact hf
        | ret v => exact hf
      · cases h1
    | succ i => simp at hi
  · rintro g m led h tk ⟨rfl, rfl, h0⟩ F1 N1
    rcases h0 with ⟨h1, _⟩ | ⟨_, r⟩
    · cases h1
    · exact done m h tk r F1 N1
end
theorem turn_end {J : Heap → (Str → Option Value) → List (Addr × Obj) → Prop} {L it : Addr} {oi : Obj} {s : Shared} {Q : Flow → Shared → Prop} {g' h' : Heap} {tk' : Nat} {m' : Str → Option Value} {led' : List (Addr × Obj)} (F : Fr g' L h' m') (N : News g' L h' ((it, oi) :: led')) (ne : ∀ q ∈ led', q.1 ≠ it) (j : J g' m' led') :
    TurnEnd J L it oi s Q .next { s with heap := h', toks := tk' } := ⟨g', h', tk', m', led', rfl, F, N, ne, j⟩
theorem fr_at {g h : Heap} {L : Addr} {m : Str → Option Value} {x : Str} {v : Value} (F : Fr g L h m) (e : m x = some v) : Fr g L h (fun y => if y = x then some v else m y) := by
  refine fr_eq F (funext fun y => ?_)
  by_cases hy : y = x
  · rw [if_pos hy, hy, e]
  · rw [if_neg hy]
end Mine
end
section
open PySem PySem.W PySem.Calls PySem.Spec PyProof.Rows
namespace Mine
theorem kw_X2_1 : True := by
  k_with_none
  k_with "execs cons" => (first | (k_here; k_gentoks) | (refine' execs_one ?_) | (refine' execs_let ?_; intro Cq9))
  k_with "ite" => (first | (k_closed; first | refine ite_pos (by decide +kernel) ?_ | refine ite_neg (by decide +kernel) ?_) | refine ite_pos (by with_reducible assumption) ?_ | refine ite_neg (by with_reducible assumption) ?_ | refine ite_isFalse (by with_reducible assumption) ?_)
  trivial
noncomputable def quoteF (x : Str) : Str := if outc x = 2 then x else Str.ofString "'" ++ Txt.replace x (Str.ofString "'") (Str.ofString "'\"'\"'") ++ Str.ofString "'"
structure QOk (x : Str) : Prop where
  ne : ((x.length : Int) != 0) = true
  len : x.length ≤ 1000
  out : outc x = 2 ∨ (outc x = 1 ∧ (Txt.replace x (Str.ofString "'") (Str.ofString "'\"'\"'")).length ≤ 5000)
theorem quoteC : ∀ (w : World) (p : Program) (loose : List Str) (mean : ExcName → Option Value) (mg mb : Str → Option Value) (x : Str) (t : Tok) (led : List (Addr × Obj)),
   QOk x →
   ∀ (dp un : Nat) (gd : Option (List Code)) (cn : Str) (cs : Scope) (a : Addr) (ccd : Value) (cl : List (Str × Addr)) (outer : List Env) (A₀ : Around) (base h₀ : Heap) (L : Addr) (m : Str → Option Value) (s : Shared) (Q : Value → Shared → Prop),
    Below A₀ base outer h₀ → Fr h₀ L s.heap m → (K w.params).In h₀ → News h₀ L s.heap led → Top p loose mean mg mb h₀ → cs.kind = .function →
     dp + 5 < recursionLimit → un + 50 < cLine →
     (∀ (h' : Heap) (tk' : Nat) (t' : Tok), Fr h₀ L h' m → News h₀ L h' led → Q (.str (quoteF x) t') { s with heap := h', toks := tk' }) →
     wpAny (model (OpenLaw.prog RR) w) (ktrTop dp un gd cn cs L a ccd cl outer) (call (.ref 918) [.str x t]) Q (fun _ _ => False) s := by
  intro w p loose mean mg mb x t led ok dp un gd cn cs a ccd cl outer A₀ base h₀ L m s Q B F X N T hk hd hu hret
  obtain ⟨o1, o2, o3 | ⟨o3, o4⟩⟩ := ok
  · have e : quoteF x = x := by unfold quoteF; rw [if_pos o3]
    rw [e] at hret
    exact quoteS w p loose mean mg mb x t led o1 (by omega) o3 dp un gd cn cs a ccd cl outer A₀ base h₀ L m s Q B F X N T hk hd hu hret
  · have e : quoteF x = Str.ofString "'" ++ Txt.replace x (Str.ofString "'") (Str.ofString "'\"'\"'") ++ Str.ofString "'" := by unfold quoteF; rw [if_neg (by rw [o3]; decide)]
    rw [e] at hret
    exact quoteU w p loose mean mg mb x t led o1 (by omega) o3 (by omega) dp un gd cn cs a ccd cl outer A₀ base h₀ L m s Q B F X N T hk hd hu hret
theorem quoteF_len {x : Str} (h : QOk x) : (quoteF x).length ≤ 5002 := by
  obtain ⟨_, h2, h3⟩ := h
  unfold quoteF
  split
  · omega
  · rename_i h4
    rcases h3 with h3 | ⟨_, h3⟩
    · exact absurd h3 h4
    · have z : (Str.ofString "'").length = 1 := rfl
      rw [slen, slen, z]; omega
theorem sum_len_le {ys : List Str} {B : Nat} (h : ∀ y ∈ ys, y.length ≤ B) : (ys.map (·.length)).sum ≤ ys.length * B := by
  induction ys with
  | nil => simp
  | cons y r ih =>
    have h1 := h y (.head _)
    have h2 := ih fun z hz => h z (.tail _ hz)
    simp only [List.map_cons, List.sum_cons, List.length_cons, Nat.add_mul, Nat.one_mul]
    omega
theorem strs_get {vs : List Value} {ws : List Str} (h : StrsAre vs ws) : ∀ {i : Nat} {v : Value}, vs[i]? = some v → ∃ x t, ws[i]? = some x ∧ v = .str x t := by
  induction h with
  | nil => intro i v e; simp at e
  | cons y t r ih =>
    intro i v e
    cases i with
    | zero => exact ⟨y, t, rfl, (Option.some.inj e).symm⟩
    | succ i => exact ih e
theorem strs_take {vs : List Value} {ws : List Str} {i : Nat} {x y : Str} {t : Tok} {f : Str → Str} (h : StrsAre vs ((ws.take i).map f)) (e : ws[i]? = some x) (hy : y = f x) : StrsAre (vs ++ [.str y t]) ((ws.take (i + 1)).map f) := by
  rw [List.take_add_one, e, hy]
  simpa using strsAre_snoc h (f x) t
theorem kw_X2_2 : True := by
  k_with "call ref" => (k_here; k_dflt (show wpAny _ _ (call (Value.ref 918) [Value.str _ _]) _ _ _); (rename QOk _ => hqokq9); k_dflt (refine' anyE (quoteC _ _ _ _ _ _ _ _ _ hqokq9 _ _ _ _ _ _ _ _ _ _ _ _ _ _ _ _ ?k1q9 ?k2q9 ?k3q9 ?k4q9 ?k5q9 ?kKq9 ?kdq9 ?kuq9 ?_); (case k1q9 => k_asm); (case k2q9 => k_asm); (case k3q9 => k_asm); (case k4q9 => k_asm); (case k5q9 => k_asm); (case kKq9 => first | exact rfl | assumption); (case kdq9 => k_room); (case kuq9 => ktr_units)); intro h'q9 tk'q9 t'q9 F'q9 N'q9; (try dsimp only); (try k_sweep); walk_say "QUOTE")
  k_with "eval ListComp" => (k_here; k_dflt (refine LCg.ListComp_U (F₀ := by k_asm) (by with_unfolding_all rfl) (by decide) (by rfl) (by decide) (by rfl) ?_))
  k_with "CompSrc" => (k_here; k_dflt (refine LCg.CompSrc.ledger (by with_unfolding_all rfl) (by k_asm) (by k_asm) (by k_mem) ?zzq9 ?_); (case zzq9 => (rw [sizeLine_eq]; omega)))
  trivial
set_option maxRecDepth 100000 in
set_option maxHeartbeats 0 in
theorem lineC : ∀ (w : World) (p : Program) (loose : List Str) (mean : ExcName → Option Value) (mg mb : Str → Option Value) (l : Addr) (vs : List Value) (c : Nat) (ws : List Str) (led : List (Addr × Obj)),
   StrsAre vs ws → (∀ x ∈ ws, QOk x) → vs.toArray.size ≤ 100 →
   ∀ (dp un : Nat) (gd : Option (List Code)) (cn : Str) (cs : Scope) (a : Addr) (ccd : Value) (cl : List (Str × Addr)) (outer : List Env) (A₀ : Around) (base h₀ : Heap) (L : Addr) (m : Str → Option Value) (s : Shared) (Q : Value → Shared → Prop),
    Below A₀ base outer h₀ → Fr h₀ L s.heap m → (K w.params).In h₀ → News h₀ L s.heap ((l, listO vs.toArray c) :: led) → Top p loose mean mg mb h₀ → cs.kind = .function →
     dp + 10 < recursionLimit → un + 100 < cLine →
     (∀ (h' : Heap) (tk' : Nat) (t' : Tok), Fr h₀ L h' m → News h₀ L h' ((l, listO vs.toArray c) :: led) → Q (.str (Txt.join (Str.ofString " ") (ws.map quoteF)) t') { s with heap := h', toks := tk' }) →
     wpAny (model (OpenLaw.prog RR) w) (ktrTop dp un gd cn cs L a ccd cl outer) (call (.ref 923) [.ref l]) Q (fun _ _ => False) s := by
  k_fill
  intro w p loose mean mg mb l vs c ws led hvs hok hsz dp un gd cn cs a ccd cl outer A₀ base h₀ L m s Q B F X N T hk hd hu hret
  refine wpAny_call ?_
  k_dflt cell_enter
  k_steps
  refine comp_J (fun i ys nw => StrsAre ys ((ws.take i).map quoteF) ∧ nw = (l, listO vs.toArray c) :: led) ⟨.nil, rfl⟩ ?turn ?fin
  case turn =>
    rintro i v ys _ I oI C oC D m₂ h tk hi hP ⟨hys, rfl⟩ hC hx F N off ne
    obtain ⟨x, t, hwx, rfl⟩ := strs_get hvs (by simpa using hP)
    have hqok := hok x (List.mem_of_getElem? hwx)
    have hoff := off
    (try simp only [LCg.Off3, and_true] at off)
    k_steps
    all_goals exact ⟨_, _, _, rfl, by assumption, by assumption, hoff, .inr ⟨_, .head _, rfl, _, rfl⟩, strs_take hys hwx rfl, rfl⟩
  case fin =>
    rintro ys _ ⟨hys, rfl⟩
    have hlen : vs.toArray.size = ws.length := by simpa using strsAre_len hvs
    rw [hlen, List.take_length] at hys
    have hsum : ((ws.map quoteF).map (·.length)).sum + (ws.map quoteF).length * 64 ≤ 16777216 := by
      have h1 := sum_len_le (ys := ws.map quoteF) (B := 5002) fun y hy => by
        obtain ⟨z, hz, rfl⟩ := List.mem_map.mp hy
        exact quoteF_len (hok z hz)
      rw [List.length_map] at h1 ⊢
      omega
    k_steps
    rename News _ _ _ _ => N9
    refine join_listC (News.isList N9 (.head _)) hys (by decide) hsum ?_
    intro t9 k9
    k_steps
    all_goals (rename News _ _ _ _ => N8; exact hret _ _ _ (by assumption) (news_sub N8 fun q hq => .tail _ hq))
end Mine
end
section
open PySem PySem.W PySem.Calls PySem.Spec PyProof.Rows
set_option maxRecDepth 100000
namespace Mine
theorem kind_isn : builtinKind "issubclass.nested" = none := by decide +kernel
theorem plain_isn : plainId "issubclass.nested" = true := by decide +kernel
theorem args_isn (a b c : Value) : argsOk "issubclass.nested" ⟨[a, b, c], []⟩ := by unfold argsOk; kernel_rfl
section
variable {prog : Program} {w : World} {A : Around} {E : Value → Shared → Prop} {s : Shared}
theorem isn_leaf {dep : Int} {tk : Tok} {Q : Fin → Shared → Prop} (hq : Q (.done (.ret (.bool true))) s) :
    wpAny (model prog w) A (Builtin.«issubclass.nested» ⟨[.type "str", .type "str", .int dep tk], []⟩) Q E s := by
  unfold Builtin.«issubclass.nested»
  refine wpAny_bind (wpAny_of_eq (a := Value.type "type") (by kernel_rfl) ?_)
  rw [if_pos (by decide)]
  exact wpAny_bind (wpAny_of_eq (a := true) (by kernel_rfl) (wpAny_bind (wpAny_pure (wpAny_pure hq))))
theorem isn_call {dep : Int} {tk : Tok} {Q : Value → Shared → Prop} (h : Q (.bool true) s) : wpAny (model prog w) A (call (.builtin "issubclass.nested") [.type "str", .type "str", .int dep tk]) Q E s :=
  call_function_meets kind_isn plain_isn F.entry_issubclass_nested (args_isn _ _ _) (S := fun _ R s => R (.ok (.ret (.bool true))) s) (fun _ _ _ _ _ hs => isn_leaf hs) h
theorem isn_tuple {D : Addr} {o : Obj} {n : Nat} {tk : Tok} {Q : Fin → Shared → Prop} (ho : s.heap.get? D = some o) (hc : o.cls = .type "tuple") (hd : o.data = .seq #[.type "str", .type "bytes"] n) (hq : Q (.done (.ret (.bool true))) s) :
    wpAny (model prog w) A (Builtin.«issubclass.nested» ⟨[.type "str", .ref D, .int 0 tk], []⟩) Q E s := by
  have hT : s.TypeIs (.ref D) "tuple" := ⟨_, ho, hc⟩
  unfold Builtin.«issubclass.nested»
  refine wpAny_bind (wpAny_typeOf hT ?_)
  rw [if_neg (by decide)]
  unfold Builtin.Builtins.unionMembers
  refine wpAny_bind (wpAny_bind (wpAny_typeOf hT ?_))
  rw [if_neg (by decide)]
  refine wpAny_pure ?_
  refine wpAny_bind (wpAny_isInstance (T := "tuple") (b := true) hT (by rw [isSubtype_type]; kernel_rfl) ?_)
  rw [if_pos rfl]
  rw [if_neg (by decide)]
  refine wpAny_bind (wpAny_seqItems ho hd ?_)
  simp only [Option.getD_some, List.forIn_toArray, List.forIn_cons]
  refine wpAny_bind (wpAny_bind (wpAny_bind (isn_call (wpAny_bind (wpAny_truthy_bool ?_)))))
  rw [if_pos rfl]
  exact wpAny_bind (wpAny_pure (wpAny_pure (wpAny_pure (wpAny_pure hq))))
theorem issub_str {D : Addr} {news : List (Addr × Obj)} {h₀ : Heap} {L : Addr} {n : Nat} {Q : Value → Shared → Prop} (N : News h₀ L s.heap news) (hm : (D, ({ cls := .type "tuple", data := .seq #[.type "str", .type "bytes"] n } : Obj)) ∈ news) (h : Q (.bool true) s) :
    wpAny (model prog w) A (call (.builtin "issubclass") [.type "str", .ref D]) Q E s :=
  call_issubclass (S := fun _ R s => (∃ o n, s.heap.get? D = some o ∧ o.cls = .type "tuple" ∧ o.data = .seq #[.type "str", .type "bytes"] n) ∧ R (.ok (.ret (.bool true))) s)
    (fun _ _ _ _ _ hs => by
      obtain ⟨⟨o, n, h1, h2, h3⟩, hr⟩ := hs
      exact issubclass_outer (isn_tuple h1 h2 h3 hr)) ⟨⟨_, _, (N _ hm).1, rfl, rfl⟩, h⟩
end
end Mine
end
section
open PySem PySem.W PySem.Calls PySem.Spec PyProof.Rows
namespace Mine
theorem kw_X3_1 : True := by
  k_with_none
  k_with "execs cons" => (first | (k_here; k_gentoks) | (refine' execs_one ?_) | (refine' execs_let ?_; intro Cq9))
  k_with "ite" => (first | (k_closed; first | refine ite_pos (by decide +kernel) ?_ | refine ite_neg (by decide +kernel) ?_) | refine ite_pos (by with_reducible assumption) ?_ | refine ite_neg (by with_reducible assumption) ?_ | refine ite_isFalse (by with_reducible assumption) ?_)
  k_with "call builtin:issubclass" => (k_here; k_dflt (show wpAny _ _ (call (Value.builtin "issubclass") [Value.type "str", Value.ref _]) _ _ _); k_dflt (refine' issub_str ?k1q9 ?k2q9 ?_; (case k1q9 => k_asm); (case k2q9 => k_mem); k_whole); walk_say "ISSUB")
  trivial
set_option maxRecDepth 100000 in
set_option maxHeartbeats 0 in
theorem fspathC : ∀ (w : World) (p : Program) (loose : List Str) (mean : ExcName → Option Value) (mg mb : Str → Option Value) (x : Str) (t : Tok) (led : List (Addr × Obj)),
   ∀ (dp un : Nat) (gd : Option (List Code)) (cn : Str) (cs : Scope) (a : Addr) (ccd : Value) (cl : List (Str × Addr)) (outer : List Env) (A₀ : Around) (base h₀ : Heap) (L : Addr) (m : Str → Option Value) (s : Shared) (Q : Value → Shared → Prop),
    Below A₀ base outer h₀ → Fr h₀ L s.heap m → (K w.params).In h₀ → News h₀ L s.heap led → Top p loose mean mg mb h₀ → cs.kind = .function →
     dp + 4 < recursionLimit → un + 40 < cLine →
     (∀ (h' : Heap) (tk' : Nat) , Fr h₀ L h' m → News h₀ L h' led → Q (.str x t) { s with heap := h', toks := tk' }) →
     wpAny (model (OpenLaw.prog RR) w) (ktrTop dp un gd cn cs L a ccd cl outer) (call (.ref 161) [.str x t]) Q (fun _ _ => False) s := by
  k_fill
  intro w p loose mean mg mb x t led  dp un gd cn cs a ccd cl outer A₀ base h₀ L m s Q B F X N T hk hd hu hret
  refine wpAny_call ?_
  k_dflt cell_enter
  k_steps
  all_goals (rename News _ _ _ _ => N8; exact hret _ _ (by assumption) (news_sub N8 fun q hq => .tail _ hq))
set_option maxRecDepth 100000 in
set_option maxHeartbeats 0 in
theorem getsepC : ∀ (w : World) (p : Program) (loose : List Str) (mean : ExcName → Option Value) (mg mb : Str → Option Value) (x : Str) (t : Tok) (led : List (Addr × Obj)),
   ∀ (dp un : Nat) (gd : Option (List Code)) (cn : Str) (cs : Scope) (a : Addr) (ccd : Value) (cl : List (Str × Addr)) (outer : List Env) (A₀ : Around) (base h₀ : Heap) (L : Addr) (m : Str → Option Value) (s : Shared) (Q : Value → Shared → Prop),
    Below A₀ base outer h₀ → Fr h₀ L s.heap m → (K w.params).In h₀ → News h₀ L s.heap led → Top p loose mean mg mb h₀ → cs.kind = .function →
     dp + 4 < recursionLimit → un + 40 < cLine →
     (∀ (h' : Heap) (tk' : Nat) (t' : Tok), Fr h₀ L h' m → News h₀ L h' led → Q (.str (Str.ofString "/") t') { s with heap := h', toks := tk' }) →
     wpAny (model (OpenLaw.prog RR) w) (ktrTop dp un gd cn cs L a ccd cl outer) (call (.ref 175) [.str x t]) Q (fun _ _ => False) s := by
  k_fill
  intro w p loose mean mg mb x t led  dp un gd cn cs a ccd cl outer A₀ base h₀ L m s Q B F X N T hk hd hu hret
  refine wpAny_call ?_
  k_dflt cell_enter
  k_steps
  all_goals exact hret _ _ _ (by assumption) (by assumption)
theorem kw_X3_2 : True := by
  k_with "call ref" => (k_here; k_dflt (show wpAny _ _ (call (Value.ref 161) [Value.str _ _]) _ _ _); k_dflt (refine' anyE (fspathC _ _ _ _ _ _ _ _ _ _ _ _ _ _ _ _ _ _ _ _ _ _ _ _ _ ?k1q9 ?k2q9 ?k3q9 ?k4q9 ?k5q9 ?kKq9 ?kdq9 ?kuq9 ?_); (case k1q9 => k_asm); (case k2q9 => k_asm); (case k3q9 => k_asm); (case k4q9 => k_asm); (case k5q9 => k_asm); (case kKq9 => first | exact rfl | assumption); (case kdq9 => k_room); (case kuq9 => ktr_units)); intro h'q9 tk'q9 F'q9 N'q9; (try dsimp only); (try k_sweep); walk_say "FSPATH")
  k_with "call ref" => (k_here; k_dflt (show wpAny _ _ (call (Value.ref 175) [Value.str _ _]) _ _ _); k_dflt (refine' anyE (getsepC _ _ _ _ _ _ _ _ _ _ _ _ _ _ _ _ _ _ _ _ _ _ _ _ _ ?k1q9 ?k2q9 ?k3q9 ?k4q9 ?k5q9 ?kKq9 ?kdq9 ?kuq9 ?_); (case k1q9 => k_asm); (case k2q9 => k_asm); (case k3q9 => k_asm); (case k4q9 => k_asm); (case k5q9 => k_asm); (case kKq9 => first | exact rfl | assumption); (case kdq9 => k_room); (case kuq9 => ktr_units)); intro h'q9 tk'q9 t'q9 F'q9 N'q9; (try dsimp only); (try k_sweep); walk_say "GETSEP")
  trivial
end Mine
end
section
open PySem PySem.W PySem.Calls PySem.Spec PyProof.Rows
namespace Mine
theorem kw_X4_1 : True := by
  k_with_none
  k_with "execs cons" => (first | (k_here; k_gentoks) | (refine' execs_one ?_) | (refine' execs_let ?_; intro Cq9))
  k_with "ite" => (first | (k_closed; first | refine ite_pos (by decide +kernel) ?_ | refine ite_neg (by decide +kernel) ?_) | refine ite_pos (by with_reducible assumption) ?_ | refine ite_neg (by with_reducible assumption) ?_ | refine ite_isFalse (by with_reducible assumption) ?_)
  k_with "call ref" => (k_here; k_dflt (show wpAny _ _ (call (Value.ref 161) [Value.str _ _]) _ _ _); k_dflt (refine' anyE (fspathC _ _ _ _ _ _ _ _ _ _ _ _ _ _ _ _ _ _ _ _ _ _ _ _ _ ?k1q9 ?k2q9 ?k3q9 ?k4q9 ?k5q9 ?kKq9 ?kdq9 ?kuq9 ?_); (case k1q9 => k_asm); (case k2q9 => k_asm); (case k3q9 => k_asm); (case k4q9 => k_asm); (case k5q9 => k_asm); (case kKq9 => first | exact rfl | assumption); (case kdq9 => k_room); (case kuq9 => ktr_units)); intro h'q9 tk'q9 F'q9 N'q9; (try dsimp only); (try k_sweep); walk_say "FSPATH")
  k_with "call ref" => (k_here; k_dflt (show wpAny _ _ (call (Value.ref 175) [Value.str _ _]) _ _ _); k_dflt (refine' anyE (getsepC _ _ _ _ _ _ _ _ _ _ _ _ _ _ _ _ _ _ _ _ _ _ _ _ _ ?k1q9 ?k2q9 ?k3q9 ?k4q9 ?k5q9 ?kKq9 ?kdq9 ?kuq9 ?_); (case k1q9 => k_asm); (case k2q9 => k_asm); (case k3q9 => k_asm); (case k4q9 => k_asm); (case k5q9 => k_asm); (case kKq9 => first | exact rfl | assumption); (case kdq9 => k_room); (case kuq9 => ktr_units)); intro h'q9 tk'q9 t'q9 F'q9 N'q9; (try dsimp only); (try k_sweep); walk_say "GETSEP")
  k_with "binaryOp Add str str" => (k_here; (with_reducible show wpAny _ _ (binaryOp Operator.Add (Value.str _ _) (Value.str _ _)) _ _ _); k_dflt (refine' SBL.add ?_ ?hszq9; (case hszq9 => ((try simp only [slen]); rw [sizeLine_eq]; omega))); intro t'q9 k'q9 l'q9; clear l'q9)
  k_with "exec For" => (k_here; k_dflt (refine' wpAny_For ?_ ?hsq9; (case hsq9 => intro _; rfl); k_whole))
  trivial
set_option maxRecDepth 100000 in
set_option maxHeartbeats 0 in
theorem joinR : ∀ (w : World) (p : Program) (loose : List Str) (mean : ExcName → Option Value) (mg mb : Str → Option Value) (x y : Str) (tx ty : Tok) (led : List (Addr × Obj)),
   ((x.length : Int) != 0) = true →
   x.length ≤ 10000 →
   y.length ≤ 10000 →
   Txt.startswith y (Str.ofString "/") = false →
   Txt.endswith x (Str.ofString "/") = true →
   ∀ (dp un : Nat) (gd : Option (List Code)) (cn : Str) (cs : Scope) (a : Addr) (ccd : Value) (cl : List (Str × Addr)) (outer : List Env) (A₀ : Around) (base h₀ : Heap) (L : Addr) (m : Str → Option Value) (s : Shared) (Q : Value → Shared → Prop),
    Below A₀ base outer h₀ → Fr h₀ L s.heap m → (K w.params).In h₀ → News h₀ L s.heap led → Top p loose mean mg mb h₀ → cs.kind = .function →
     dp + 10 < recursionLimit → un + 100 < cLine →
     (∀ (h' : Heap) (tk' : Nat) (t' : Tok), Fr h₀ L h' m → News h₀ L h' led → Q (.str (x ++ y) t') { s with heap := h', toks := tk' }) →
     wpAny (model (OpenLaw.prog RR) w) (ktrTop dp un gd cn cs L a ccd cl outer) (call (.ref 182) [.str x tx, .str y ty]) Q (fun _ _ => False) s := by
  k_fill
  intro w p loose mean mg mb x y tx ty led hx hx1 hy1 h1 h2 dp un gd cn cs a ccd cl outer A₀ base h₀ L m s Q B F X N T hk hd hu hret
  have z1 : (Str.ofString "/").length = 1 := rfl
  refine wpAny_call ?_
  k_dflt (refine' kp_rest ?k1 ?k2 ?k3 ?k4 ?k5 ?kA ?kF ?kK ?k6 ?k7 ?k8 ?kV ?kP ?kG ?kB ?_ ?c2 ?c3 ?c4 ?c5; (case kA => exact rfl); (case kF => exact rfl); (case kK => first | exact rfl | assumption); (case k1 => k_asm); (case k2 => k_asm); (case k3 => k_asm); (case k4 => k_asm); (case k5 => k_asm); (case k6 => k_is); (case k7 => k_is); (case k8 => ktr_room); (case kV => kl_lit); (case kP => exact rfl); (case kG => exact fun _ => rfl); (case kB => exact fun _ => locs rfl); (case c5 => decide); (case c2 => exact rfl); (case c3 => exact rfl); (case c4 => exact rfl); k_whole; intro D' g' L' h' l1 FG' F' N' B' X' T'; (try k_lt l1); (try dsimp only); (try k_lift B'); (try k_fold))
  k_steps
  rename Fr _ _ _ _ => F9
  rename News _ _ _ _ => N9
  refine' for_tup1 (fun m => ∃ t', m "path" = some (.str (x ++ y) t')) ?hh F9 N9 ?hm ?hk ?hx ?turn ?done
  case hh => with_unfolding_all rfl
  case hm => exact .head _
  case hk => rfl
  case hx => rfl
  case turn =>
    intro it oi h tk F8 N8 ne hc
    k_steps
    all_goals exact turn_end (by assumption) (by assumption) ne ⟨rfl, rfl, _, rfl⟩
  case done =>
    rintro m h tk ⟨t', e⟩ F8 N8
    have F7 := fr_at F8 e
    clear F8
    k_steps
    all_goals (rename News _ _ _ _ => N7; exact hret _ _ _ (by assumption) (news_sub N7 fun q hq => .tail _ hq))
set_option maxRecDepth 100000 in
set_option maxHeartbeats 0 in
theorem joinS : ∀ (w : World) (p : Program) (loose : List Str) (mean : ExcName → Option Value) (mg mb : Str → Option Value) (x y : Str) (tx ty : Tok) (led : List (Addr × Obj)),
   ((x.length : Int) != 0) = true →
   x.length ≤ 10000 →
   y.length ≤ 10000 →
   Txt.startswith y (Str.ofString "/") = false →
   Txt.endswith x (Str.ofString "/") = false →
   ∀ (dp un : Nat) (gd : Option (List Code)) (cn : Str) (cs : Scope) (a : Addr) (ccd : Value) (cl : List (Str × Addr)) (outer : List Env) (A₀ : Around) (base h₀ : Heap) (L : Addr) (m : Str → Option Value) (s : Shared) (Q : Value → Shared → Prop),
    Below A₀ base outer h₀ → Fr h₀ L s.heap m → (K w.params).In h₀ → News h₀ L s.heap led → Top p loose mean mg mb h₀ → cs.kind = .function →
     dp + 10 < recursionLimit → un + 100 < cLine →
     (∀ (h' : Heap) (tk' : Nat) (t' : Tok), Fr h₀ L h' m → News h₀ L h' led → Q (.str (x ++ (Str.ofString "/" ++ y)) t') { s with heap := h', toks := tk' }) →
     wpAny (model (OpenLaw.prog RR) w) (ktrTop dp un gd cn cs L a ccd cl outer) (call (.ref 182) [.str x tx, .str y ty]) Q (fun _ _ => False) s := by
  k_fill
  intro w p loose mean mg mb x y tx ty led hx hx1 hy1 h1 h2 dp un gd cn cs a ccd cl outer A₀ base h₀ L m s Q B F X N T hk hd hu hret
  have z1 : (Str.ofString "/").length = 1 := rfl
  refine wpAny_call ?_
  k_dflt (refine' kp_rest ?k1 ?k2 ?k3 ?k4 ?k5 ?kA ?kF ?kK ?k6 ?k7 ?k8 ?kV ?kP ?kG ?kB ?_ ?c2 ?c3 ?c4 ?c5; (case kA => exact rfl); (case kF => exact rfl); (case kK => first | exact rfl | assumption); (case k1 => k_asm); (case k2 => k_asm); (case k3 => k_asm); (case k4 => k_asm); (case k5 => k_asm); (case k6 => k_is); (case k7 => k_is); (case k8 => ktr_room); (case kV => kl_lit); (case kP => exact rfl); (case kG => exact fun _ => rfl); (case kB => exact fun _ => locs rfl); (case c5 => decide); (case c2 => exact rfl); (case c3 => exact rfl); (case c4 => exact rfl); k_whole; intro D' g' L' h' l1 FG' F' N' B' X' T'; (try k_lt l1); (try dsimp only); (try k_lift B'); (try k_fold))
  k_steps
  rename Fr _ _ _ _ => F9
  rename News _ _ _ _ => N9
  refine' for_tup1 (fun m => ∃ t', m "path" = some (.str (x ++ (Str.ofString "/" ++ y)) t')) ?hh F9 N9 ?hm ?hk ?hx ?turn ?done
  case hh => with_unfolding_all rfl
  case hm => exact .head _
  case hk => rfl
  case hx => rfl
  case turn =>
    intro it oi h tk F8 N8 ne hc
    k_steps
    all_goals exact turn_end (by assumption) (by assumption) ne ⟨rfl, rfl, _, rfl⟩
  case done =>
    rintro m h tk ⟨t', e⟩ F8 N8
    have F7 := fr_at F8 e
    clear F8
    k_steps
    all_goals (rename News _ _ _ _ => N7; exact hret _ _ _ (by assumption) (news_sub N7 fun q hq => .tail _ hq))
end Mine
end
section
open PySem PySem.W PySem.Calls PySem.Spec PyProof.Rows
namespace Mine
theorem kw_X5_1 : True := by
  k_with_none
  k_with "execs cons" => (first | (k_here; k_gentoks) | (refine' execs_one ?_) | (refine' execs_let ?_; intro Cq9))
  k_with "ite" => (first | (k_closed; first | refine ite_pos (by decide +kernel) ?_ | refine ite_neg (by decide +kernel) ?_) | refine ite_pos (by with_reducible assumption) ?_ | refine ite_neg (by with_reducible assumption) ?_ | refine ite_isFalse (by with_reducible assumption) ?_)
  trivial
noncomputable abbrev SL : Str := Str.ofString "/"
noncomputable def baseF (x : Str) : Str := Txt.slice x (some (Txt.rfind x (Str.ofString "/") + 1)) none
noncomputable abbrev headF (x : Str) : Str := Txt.slice x none (some (Txt.rfind x (Str.ofString "/") + 1))
noncomputable def dirF (x : Str) : Str := if ((headF x).length : Int) ≠ 0 then (if (headF x != Txt.mul (Str.ofString "/") ((headF x).length : Int)) = true then Txt.rstripChars (headF x) (Str.ofString "/") else headF x) else headF x
theorem dirF_1 {x : Str} (h1 : ((headF x).length : Int) ≠ 0) (h2 : (headF x != Txt.mul (Str.ofString "/") ((headF x).length : Int)) = true) : dirF x = Txt.rstripChars (headF x) (Str.ofString "/") := by unfold dirF; rw [if_pos h1, if_pos h2]
theorem dirF_2 {x : Str} (h1 : ((headF x).length : Int) ≠ 0) (h2 : (headF x != Txt.mul (Str.ofString "/") ((headF x).length : Int)) = false) : dirF x = headF x := by unfold dirF; rw [if_pos h1, if_neg (by rw [h2]; decide)]
theorem dirF_3 {x : Str} (h1 : ((headF x).length : Int) = 0) : dirF x = headF x := by unfold dirF; rw [if_neg (fun h => h h1)]
theorem kw_X5_2 : True := by
  k_with "call ref" => (k_here; k_dflt (show wpAny _ _ (call (Value.ref 161) [Value.str _ _]) _ _ _); k_dflt (refine' anyE (fspathC _ _ _ _ _ _ _ _ _ _ _ _ _ _ _ _ _ _ _ _ _ _ _ _ _ ?k1q9 ?k2q9 ?k3q9 ?k4q9 ?k5q9 ?kKq9 ?kdq9 ?kuq9 ?_); (case k1q9 => k_asm); (case k2q9 => k_asm); (case k3q9 => k_asm); (case k4q9 => k_asm); (case k5q9 => k_asm); (case kKq9 => first | exact rfl | assumption); (case kdq9 => k_room); (case kuq9 => ktr_units)); intro h'q9 tk'q9 F'q9 N'q9; (try dsimp only); (try k_sweep); walk_say "FSPATH")
  k_with "call ref" => (k_here; k_dflt (show wpAny _ _ (call (Value.ref 175) [Value.str _ _]) _ _ _); k_dflt (refine' anyE (getsepC _ _ _ _ _ _ _ _ _ _ _ _ _ _ _ _ _ _ _ _ _ _ _ _ _ ?k1q9 ?k2q9 ?k3q9 ?k4q9 ?k5q9 ?kKq9 ?kdq9 ?kuq9 ?_); (case k1q9 => k_asm); (case k2q9 => k_asm); (case k3q9 => k_asm); (case k4q9 => k_asm); (case k5q9 => k_asm); (case kKq9 => first | exact rfl | assumption); (case kdq9 => k_room); (case kuq9 => ktr_units)); intro h'q9 tk'q9 t'q9 F'q9 N'q9; (try dsimp only); (try k_sweep); walk_say "GETSEP")
  trivial
set_option maxRecDepth 100000 in
set_option maxHeartbeats 0 in
theorem splitrootC : ∀ (w : World) (p : Program) (loose : List Str) (mean : ExcName → Option Value) (mg mb : Str → Option Value) (x : Str) (t : Tok) (led : List (Addr × Obj)),
   x.length ≤ 10000 →
   (Txt.slice x none (some 1) != Str.ofString "/") = false →
   (Txt.slice x (some 1) (some 2) != Str.ofString "/") = true →
   ∀ (dp un : Nat) (gd : Option (List Code)) (cn : Str) (cs : Scope) (a : Addr) (ccd : Value) (cl : List (Str × Addr)) (outer : List Env) (A₀ : Around) (base h₀ : Heap) (L : Addr) (m : Str → Option Value) (s : Shared) (Q : Value → Shared → Prop),
    Below A₀ base outer h₀ → Fr h₀ L s.heap m → (K w.params).In h₀ → News h₀ L s.heap led → Top p loose mean mg mb h₀ → cs.kind = .function →
     dp + 10 < recursionLimit → un + 100 < cLine →
     (∀ (h' : Heap) (tk' : Nat) (D : Addr) (t1 t2 t3 : Tok), Fr h₀ L h' m → News h₀ L h' ((D, ({ cls := .type "tuple", data := .seq #[.str (Str.ofString "") t1, .str (Str.ofString "/") t2, .str (Txt.slice x (some 1) none) t3] } : Obj)) :: led) → Q (.ref D) { s with heap := h', toks := tk' }) →
     wpAny (model (OpenLaw.prog RR) w) (ktrTop dp un gd cn cs L a ccd cl outer) (call (.ref 189) [.str x t]) Q (fun _ _ => False) s := by
  k_fill
  intro w p loose mean mg mb x t led hx1 h1 h2 dp un gd cn cs a ccd cl outer A₀ base h₀ L m s Q B F X N T hk hd hu hret
  refine wpAny_call ?_
  k_dflt cell_enter
  k_steps
  all_goals exact hret _ _ _ _ _ _ (by assumption) (by assumption)
set_option maxRecDepth 100000 in
set_option maxHeartbeats 0 in
theorem basenameC : ∀ (w : World) (p : Program) (loose : List Str) (mean : ExcName → Option Value) (mg mb : Str → Option Value) (x : Str) (t : Tok) (led : List (Addr × Obj)),
   x.length ≤ 10000 →
   ∀ (dp un : Nat) (gd : Option (List Code)) (cn : Str) (cs : Scope) (a : Addr) (ccd : Value) (cl : List (Str × Addr)) (outer : List Env) (A₀ : Around) (base h₀ : Heap) (L : Addr) (m : Str → Option Value) (s : Shared) (Q : Value → Shared → Prop),
    Below A₀ base outer h₀ → Fr h₀ L s.heap m → (K w.params).In h₀ → News h₀ L s.heap led → Top p loose mean mg mb h₀ → cs.kind = .function →
     dp + 10 < recursionLimit → un + 100 < cLine →
     (∀ (h' : Heap) (tk' : Nat) (t' : Tok), Fr h₀ L h' m → News h₀ L h' led → Q (.str (baseF x) t') { s with heap := h', toks := tk' }) →
     wpAny (model (OpenLaw.prog RR) w) (ktrTop dp un gd cn cs L a ccd cl outer) (call (.ref 196) [.str x t]) Q (fun _ _ => False) s := by
  k_fill
  intro w p loose mean mg mb x t led hx1 dp un gd cn cs a ccd cl outer A₀ base h₀ L m s Q B F X N T hk hd hu hret
  refine wpAny_call ?_
  k_dflt cell_enter
  k_steps
  all_goals exact hret _ _ _ (by assumption) (by assumption)
set_option maxRecDepth 100000 in
set_option maxHeartbeats 0 in
theorem dirnameC : ∀ (w : World) (p : Program) (loose : List Str) (mean : ExcName → Option Value) (mg mb : Str → Option Value) (x : Str) (t : Tok) (led : List (Addr × Obj)),
   x.length ≤ 10000 →
   ∀ (dp un : Nat) (gd : Option (List Code)) (cn : Str) (cs : Scope) (a : Addr) (ccd : Value) (cl : List (Str × Addr)) (outer : List Env) (A₀ : Around) (base h₀ : Heap) (L : Addr) (m : Str → Option Value) (s : Shared) (Q : Value → Shared → Prop),
    Below A₀ base outer h₀ → Fr h₀ L s.heap m → (K w.params).In h₀ → News h₀ L s.heap led → Top p loose mean mg mb h₀ → cs.kind = .function →
     dp + 10 < recursionLimit → un + 100 < cLine →
     (∀ (h' : Heap) (tk' : Nat) (t' : Tok), Fr h₀ L h' m → News h₀ L h' led → Q (.str (dirF x) t') { s with heap := h', toks := tk' }) →
     wpAny (model (OpenLaw.prog RR) w) (ktrTop dp un gd cn cs L a ccd cl outer) (call (.ref 203) [.str x t]) Q (fun _ _ => False) s := by
  k_fill
  intro w p loose mean mg mb x t led hx1 dp un gd cn cs a ccd cl outer A₀ base h₀ L m s Q B F X N T hk hd hu hret
  refine wpAny_call ?_
  k_dflt cell_enter
  k_steps
  all_goals first
    | (rw [dirF_1 (x := x) (by assumption) (by assumption)] at hret; exact hret _ _ _ (by assumption) (by assumption))
    | (rw [dirF_2 (x := x) (by assumption) (by assumption)] at hret; exact hret _ _ _ (by assumption) (by assumption))
    | (rw [dirF_3 (x := x) (by assumption)] at hret; exact hret _ _ _ (by assumption) (by assumption))
end Mine
end
section
open PySem PySem.W PySem.Calls PySem.Spec PyProof.Rows
set_option maxRecDepth 100000
namespace Mine
theorem allLt_mem {d : Addr} : ∀ {l : List (Addr × Obj)}, AllLt d l → ∀ q ∈ l, q.1 < d
  | [], _, _, h => nomatch h
  | p :: r, a, q, h => by
    rcases List.mem_cons.mp h with rfl | h
    · exact a.1
    · exact allLt_mem a.2 q h
section
variable {prog : Program} {w w' : World} {A : Around} {E : Value → Shared → Prop} {s : Shared}
theorem app_list {g : Heap} {L D : Addr} {m : Str → Option Value} {ys : List Value} {c : Nat} {rest : List (Addr × Obj)} {v : Value} {Q : Value → Shared → Prop} (F : Fr g L s.heap m) (N : News g L s.heap ((D, listO ys.toArray c) :: rest)) (hne : ∀ q ∈ rest, q.1 ≠ D) (hsz : ys.length ≤ 100000)
    (q : ∀ h' c', Fr g L h' m → News g L h' ((D, listO (ys ++ [v]).toArray c') :: rest) → Q .none { s with heap := h' }) : wpAny (model prog w) A (call (.builtin "list.append") [.ref D, v]) Q E s := by
  have ho := (N _ (.head _)).1
  have hl : s.heap.IsList D ys.toArray := ⟨_, ho, rfl, _, rfl⟩
  refine wpAny_call_entry slot_list_append hl.typeIs entry_list_append ?_ (args_list_append _ _)
  show wpAny _ _ (updateSeq D (·.push v) >>= fun _ => ret .none) _ _ s
  refine wpAny_bind (wpAny_updateSeq ho rfl (wpAny_pure ⟨.none, rfl, ?_⟩) ?_ ?_)
  · have hSu := Heap.get?_update_self (Obj.mapSeq (·.push v)) ho rfl
    obtain ⟨c', hSu'⟩ : ∃ c', (s.heap.update D (Obj.mapSeq (·.push v))).get? D = some (listO (ys ++ [v]).toArray c') := ⟨_, hSu.trans (by rw [← List.push_toArray]; rfl)⟩
    have k : ∀ b o, D ≠ b → s.heap.get? b = some o → (s.heap.update D (Obj.mapSeq (·.push v))).get? b = some o := fun b o hb e => (Heap.get?_update_other _ _ hb).trans e
    refine q _ c' (fr_one F (N _ (.head _)).2.2 (N _ (.head _)).2.1 k) fun p hp => ?_
    rcases List.mem_cons.mp hp with rfl | hp
    · exact ⟨hSu', (N _ (.head _)).2⟩
    · exact ⟨k _ _ (Ne.symm (hne p hp)) (N p (.tail _ hp)).1, (N p (.tail _ hp)).2⟩
  · show ys.toArray.size ≤ _
    rw [List.size_toArray]
    exact Nat.le_trans hsz (by decide)
  · show (ys.toArray.push v).size ≤ _
    rw [Array.size_push, List.size_toArray]
    exact Nat.le_trans (Nat.succ_le_succ hsz) (by decide)
noncomputable def AccEnd (g : Heap) (L D it : Addr) (oi : Obj) (m : Str → Option Value) (ys : List Value) (rest : List (Addr × Obj)) (s : Shared) (f : Flow) (s' : Shared) : Prop :=
  (f = .next ∨ f = .cont) ∧ ∃ h' tk' k', s' = { s with heap := h', toks := tk' } ∧ Fr g L h' m ∧ News g L h' ((D, listO ys.toArray k') :: (it, oi) :: rest)
theorem for_acc {name : Str} {scope : Scope} {L a l D : Addr} {cd : Value} {x : Str} {px : Pos} {body : List Stmt} {Q : Flow → Shared → Prop} {g₀ : Heap} {m₀ : Str → Option Value} {rest : List (Addr × Obj)} {vs : List Value} {ws : List Str} {c c0 : Nat} (keep : Str → Bool)
    (hst : StrsAre vs ws) (hlen : ws.length ≤ 1000) (hh : A.handled = none) (F : Fr g₀ L s.heap m₀) (N : News g₀ L s.heap ((D, listO #[] c0) :: (l, listO vs.toArray c) :: rest)) (hne : ∀ q ∈ (l, listO vs.toArray c) :: rest, q.1 ≠ D)
    (hk : scope.kind = .function) (hx : (envOf name scope L a cd).kindOf x = some .local)
    (turn : ∀ w t it oi h tk ys k, w ∈ ws → Fr g₀ L h (fun y => if y = x then some (.str w t) else m₀ y) → News g₀ L h ((D, listO ys.toArray k) :: (it, oi) :: (l, listO vs.toArray c) :: rest) → (∀ q ∈ (it, oi) :: (l, listO vs.toArray c) :: rest, q.1 ≠ D) → ys.length ≤ 100000 →
      wpAny (model prog w') A (execs body (envOf name scope L a cd)) (AccEnd g₀ L D it oi (fun y => if y = x then some (.str w t) else m₀ y) (if keep w then ys ++ [.str w t] else ys) ((l, listO vs.toArray c) :: rest) { s with heap := h, toks := tk }) (fun _ _ => False) { s with heap := h, toks := tk })
    (done : ∀ v h tk ys k, StrsAre ys (ws.filter keep) → Fr g₀ L h (fun y => if y = x then v else m₀ y) → News g₀ L h ((D, listO ys.toArray k) :: (l, listO vs.toArray c) :: rest) → Q .next { s with heap := h, toks := tk }) :
    wpAny (model prog w') A (pyIter (.ref l)) (fun it s₂ => codeAny (model prog w') A (.forLoop (.Name x px) it body [] (envOf name scope L a cd)) (fun r s' => match r with | .ok f => Q f s' | .error e => cameBackBy (model prog w') A (envOf name scope L a cd) E e s') s₂) E s := by
  have hvl := strsAre_len hst
  refine for_list (vs := vs) (lo := listO vs.toArray c) (c := c) (fun i g m led => g = g₀ ∧ (∀ y, y ≠ x → m y = m₀ y) ∧ ∃ ys k, StrsAre ys ((ws.take i).filter keep) ∧ led = (D, listO ys.toArray k) :: (l, listO vs.toArray c) :: rest) hh F N (.tail _ (.head _)) rfl rfl
    ⟨rfl, fun _ _ => rfl, [], c0, .nil, rfl⟩ (fun i g m led h => by obtain ⟨_, _, ys, k, _, e⟩ := h; rw [e]; exact .tail _ (.head _)) hk hx ?_ ?_
  · rintro i v g m led it oi h tk hi ⟨rfl, hm, ys, k, hys, rfl⟩ F1 N1 ne hc
    obtain ⟨w, t, hw, rfl⟩ := strs_get hst hi
    have hDit : D ≠ it := ne (D, _) (.head _)
    have hne' : ∀ q ∈ (it, oi) :: (l, listO vs.toArray c) :: rest, q.1 ≠ D := fun q hq => by
      rcases List.mem_cons.mp hq with rfl | hq
      · exact Ne.symm hDit
      · exact hne q hq
    have F2 : Fr g L h (fun y => if y = x then some (.str w t) else m₀ y) := fr_eq F1 (funext fun y => by
      by_cases hy : y = x
      · rw [if_pos hy, if_pos hy]
      · rw [if_neg hy, if_neg hy]; exact hm y hy)
    have N2 : News g L h ((D, listO ys.toArray k) :: (it, oi) :: (l, listO vs.toArray c) :: rest) := news_sub N1 fun q hq => by
      rcases List.mem_cons.mp hq with rfl | hq
      · exact .tail _ (.head _)
      rcases List.mem_cons.mp hq with rfl | hq
      · exact .head _
      · exact .tail _ (.tail _ hq)
    have hyl : ys.length ≤ 100000 := by
      rw [strsAre_len hys]
      refine Nat.le_trans (List.length_filter_le _ _) ?_
      rw [List.length_take]; omega
    refine wpAny_mono (turn w t it oi h tk ys k (List.mem_of_getElem? hw) F2 N2 hne' hyl) (fun f s3 hf => ?_) fun _ _ e => e
    obtain ⟨hf1, h', tk', k', rfl, F3, N3⟩ := hf
    have N4 : News g L h' ((it, oi) :: (D, listO (if keep w then ys ++ [.str w t] else ys).toArray k') :: (l, listO vs.toArray c) :: rest) := news_sub N3 fun q hq => by
      rcases List.mem_cons.mp hq with rfl | hq
      · exact .tail _ (.head _)
      rcases List.mem_cons.mp hq with rfl | hq
      · exact .head _
      · exact .tail _ (.tail _ hq)
    have ne4 : ∀ q ∈ (D, listO (if keep w then ys ++ [.str w t] else ys).toArray k') :: (l, listO vs.toArray c) :: rest, q.1 ≠ it := fun q hq => by
      rcases List.mem_cons.mp hq with rfl | hq
      · exact hDit
      · exact ne q (.tail _ hq)
    have hys' : StrsAre (if keep w then ys ++ [.str w t] else ys) ((ws.take (i + 1)).filter keep) := by
      rw [List.take_add_one, hw]
      cases hkw : keep w with
      | true => simpa [hkw] using strsAre_snoc hys w t
      | false => simpa [hkw] using hys
    have fin : ∃ g' h'' tk'' m' led', ({ s with heap := h', toks := tk' } : Shared) = { s with heap := h'', toks := tk'' } ∧ Fr g' L h'' m' ∧ News g' L h'' ((it, oi) :: led') ∧ (∀ q ∈ led', q.1 ≠ it) ∧ (g' = g ∧ (∀ y, y ≠ x → m' y = m₀ y) ∧ ∃ ys k, StrsAre ys ((ws.take (i + 1)).filter keep) ∧ led' = (D, listO ys.toArray k) :: (l, listO vs.toArray c) :: rest) :=
      ⟨g, h', tk', _, _, rfl, F3, N4, ne4, rfl, fun y hy => if_neg hy, _, _, hys', rfl⟩
    rcases hf1 with rfl | rfl <;> exact fin
  · rintro g m led h tk ⟨rfl, hm, ys, k, hys, rfl⟩ F1 N1
    rw [hvl, List.take_length] at hys
    refine done (m x) h tk ys k hys (fr_eq F1 (funext fun y => ?_)) N1
    by_cases hy : y = x
    · rw [if_pos hy, hy]
    · rw [if_neg hy]; exact hm y hy
end
end Mine
end
section
open PySem PySem.W PySem.Calls PySem.Spec PyProof.Rows
namespace Mine
theorem kw_X6_1 : True := by
  k_with_none
  k_with "execs cons" => (first | (k_here; k_gentoks) | (refine' execs_one ?_) | (refine' execs_let ?_; intro Cq9))
  k_with "ite" => (first | (k_closed; first | refine ite_pos (by decide +kernel) ?_ | refine ite_neg (by decide +kernel) ?_) | refine ite_pos (by with_reducible assumption) ?_ | refine ite_neg (by with_reducible assumption) ?_ | refine ite_isFalse (by with_reducible assumption) ?_)
  trivial
noncomputable def keepC (c : Str) : Bool := ((c.length : Int) != 0) && !(c == Str.ofString ".")
noncomputable abbrev compsF (x : Str) : List Str := Txt.split (Txt.slice x (some 1) none) (Str.ofString "/")
noncomputable def normF (x : Str) : Str := Str.ofString "/" ++ Txt.join (Str.ofString "/") ((compsF x).filter keepC)
structure NOk (x : Str) : Prop where
  h0 : ((x.length : Int) != 0) = true
  hx1 : x.length ≤ 10000
  h1 : (Txt.slice x none (some 1) != Str.ofString "/") = false
  h2 : (Txt.slice x (some 1) (some 2) != Str.ofString "/") = true
  h3 : (compsF x).length ≤ 1000
  h4 : ∀ c ∈ compsF x, (c != Str.ofString "..") = true
  h6 : (Txt.slice x (some 1) none).length ≤ 10000
  h5 : (Txt.join (Str.ofString "/") ((compsF x).filter keepC)).length ≤ 10000
theorem keep_1 {c : Str} (h : (c.length : Int) = 0) : keepC c = false := by unfold keepC; simp [h]
theorem keep_2 {c : Str} (h : (c == Str.ofString ".") = true) : keepC c = false := by unfold keepC; simp [h]
theorem keep_3 {c : Str} (h1 : (c.length : Int) ≠ 0) (h2 : (c == Str.ofString ".") = false) : keepC c = true := by
  have h1' : ((c.length : Int) != 0) = true := by simpa using h1
  unfold keepC; rw [h1', h2]; rfl
theorem kw_X6_2 : True := by
  k_with "call ref" => (k_here; k_dflt (show wpAny _ _ (call (Value.ref 161) [Value.str _ _]) _ _ _); k_dflt (refine' anyE (fspathC _ _ _ _ _ _ _ _ _ _ _ _ _ _ _ _ _ _ _ _ _ _ _ _ _ ?k1q9 ?k2q9 ?k3q9 ?k4q9 ?k5q9 ?kKq9 ?kdq9 ?kuq9 ?_); (case k1q9 => k_asm); (case k2q9 => k_asm); (case k3q9 => k_asm); (case k4q9 => k_asm); (case k5q9 => k_asm); (case kKq9 => first | exact rfl | assumption); (case kdq9 => k_room); (case kuq9 => ktr_units)); intro h'q9 tk'q9 F'q9 N'q9; (try dsimp only); (try k_sweep); walk_say "FSPATH")
  k_with "call ref" => (k_here; k_dflt (show wpAny _ _ (call (Value.ref 175) [Value.str _ _]) _ _ _); k_dflt (refine' anyE (getsepC _ _ _ _ _ _ _ _ _ _ _ _ _ _ _ _ _ _ _ _ _ _ _ _ _ ?k1q9 ?k2q9 ?k3q9 ?k4q9 ?k5q9 ?kKq9 ?kdq9 ?kuq9 ?_); (case k1q9 => k_asm); (case k2q9 => k_asm); (case k3q9 => k_asm); (case k4q9 => k_asm); (case k5q9 => k_asm); (case kKq9 => first | exact rfl | assumption); (case kdq9 => k_room); (case kuq9 => ktr_units)); intro h'q9 tk'q9 t'q9 F'q9 N'q9; (try dsimp only); (try k_sweep); walk_say "GETSEP")
  k_with "call ref" => (k_here; k_dflt (show wpAny _ _ (call (Value.ref 189) [Value.str _ _]) _ _ _); k_dflt (refine' anyE (splitrootC _ _ _ _ _ _ _ _ _ ?h1q9 ?h2q9 ?h3q9 _ _ _ _ _ _ _ _ _ _ _ _ _ _ _ _ ?k1q9 ?k2q9 ?k3q9 ?k4q9 ?k5q9 ?kKq9 ?kdq9 ?kuq9 ?_); (case h1q9 => assumption); (case h2q9 => assumption); (case h3q9 => assumption); (case k1q9 => k_asm); (case k2q9 => k_asm); (case k3q9 => k_asm); (case k4q9 => k_asm); (case k5q9 => k_asm); (case kKq9 => first | exact rfl | assumption); (case kdq9 => k_room); (case kuq9 => ktr_units)); intro h'q9 tk'q9 D'q9 t1'q9 t2'q9 t3'q9 F'q9 N'q9; (try dsimp only); (try k_sweep); walk_say "SPLITROOT")
  k_with "binaryOp Add str str" => (k_here; (with_reducible show wpAny _ _ (binaryOp Operator.Add (Value.str _ _) (Value.str _ _)) _ _ _); k_dflt (refine' SBL.add ?_ ?hszq9; (case hszq9 => ((try simp only [slen]); rw [sizeLine_eq]; omega))); intro t'q9 k'q9 l'q9; clear l'q9)
  k_with "exec For" => (k_here; k_dflt (refine' wpAny_For ?_ ?hsq9; (case hsq9 => intro _; rfl); k_whole))
  k_with "call builtin:list.append" => (k_here; k_dflt (refine' app_list ?k1q9 ?k2q9 ?k3q9 ?k4q9 ?_; (case k1q9 => k_asm); (case k2q9 => assumption); (case k3q9 => assumption); (case k4q9 => assumption); k_whole); intro h'q9 c'q9 F'q9 N'q9; (try dsimp only); (try k_sweep); walk_say "APP")
  trivial
set_option maxRecDepth 100000 in
set_option maxHeartbeats 0 in
theorem normpathC : ∀ (w : World) (p : Program) (loose : List Str) (mean : ExcName → Option Value) (mg mb : Str → Option Value) (x : Str) (t : Tok) (led : List (Addr × Obj)),
   NOk x →
   ∀ (dp un : Nat) (gd : Option (List Code)) (cn : Str) (cs : Scope) (a : Addr) (ccd : Value) (cl : List (Str × Addr)) (outer : List Env) (A₀ : Around) (base h₀ : Heap) (L : Addr) (m : Str → Option Value) (s : Shared) (Q : Value → Shared → Prop),
    Below A₀ base outer h₀ → Fr h₀ L s.heap m → (K w.params).In h₀ → News h₀ L s.heap led → Top p loose mean mg mb h₀ → cs.kind = .function →
     dp + 20 < recursionLimit → un + 200 < cLine →
     (∀ (h' : Heap) (tk' : Nat) (t' : Tok), Fr h₀ L h' m → News h₀ L h' led → Q (.str (normF x) t') { s with heap := h', toks := tk' }) →
     wpAny (model (OpenLaw.prog RR) w) (ktrTop dp un gd cn cs L a ccd cl outer) (call (.ref 210) [.str x t]) Q (fun _ _ => False) s := by
  k_fill
  intro w p loose mean mg mb x t led ok dp un gd cn cs a ccd cl outer A₀ base h₀ L m s Q B F X N T hk hd hu hret
  obtain ⟨h0, hx1, h1, h2, h3, h4, h6, h5⟩ := ok
  refine wpAny_call ?_
  k_dflt cell_enter
  k_steps
  rename Fr _ _ _ _ => F9
  rename News _ _ _ _ => N9
  rename List.map _ _ = Txt.split _ _ => hsp
  rename StrsAre _ _ => hst
  rename (∀ _ ∈ List.map _ _, _) => hle
  rename _ ∧ _ ∧ AllLt _ led => hlt
  rw [hsp] at hst hle
  refine' for_acc (c := 0) (c0 := 0) keepC hst h3 ?hh F9 N9 ?hne ?hk ?hx ?turn ?done
  case hh => with_unfolding_all rfl
  case hne =>
    obtain ⟨a1, a2, a3⟩ := hlt
    intro q hq
    rcases List.mem_cons.mp hq with rfl | hq
    · exact Nat.ne_of_lt a1
    rcases List.mem_cons.mp hq with rfl | hq
    · exact Nat.ne_of_lt a2
    · exact Nat.ne_of_lt (allLt_mem a3 q hq)
  case hk => rfl
  case hx => rfl
  case turn =>
    intro c t it oi h tk ys k hc F8 N8 ne hyl
    clear F9 N9
    have hdd := h4 c hc
    have hcl := hle c hc
    k_steps
    all_goals first
      | (rw [keep_1 (c := c) (by assumption)]; exact ⟨.inr rfl, _, _, _, rfl, by assumption, by assumption⟩)
      | (rw [keep_2 (c := c) (by assumption)]; exact ⟨.inr rfl, _, _, _, rfl, by assumption, by assumption⟩)
      | (rw [keep_3 (c := c) (by assumption) (by assumption)]; exact ⟨.inl rfl, _, _, _, rfl, by assumption, by assumption⟩)
  case done =>
    intro v h tk ys k hys F8 N8
    clear F9 N9
    have hsum : (((compsF x).filter keepC).map (·.length)).sum + ((compsF x).filter keepC).length * 64 ≤ 16777216 := by
      have h1 := sum_len_le (ys := (compsF x).filter keepC) (B := 10000) fun y hy => by
        have e1 := hle y (List.mem_filter.mp hy).1
        omega
      have h2 := List.length_filter_le keepC (compsF x)
      omega
    k_steps
    rename News _ _ _ _ => N7
    refine join_listC (News.isList N7 (.head _)) hys (by decide) hsum ?_
    intro t9 k9
    have z1 : (Str.ofString "/").length = 1 := rfl
    k_steps
    all_goals first
      | (rename News _ _ _ _ => N6; exact hret _ _ _ (by assumption) (news_sub N6 fun q hq => .tail _ (.tail _ (.tail _ hq))))
      | (exfalso; rename _ = (0 : Int) => hz; rw [slen] at hz; omega)
end Mine
end
section
open PySem PySem.W PySem.Calls PySem.Spec PyProof.Rows
namespace Mine
theorem kw_X7_1 : True := by
  k_with_none
  k_with "execs cons" => (first | (k_here; k_gentoks) | (refine' execs_one ?_) | (refine' execs_let ?_; intro Cq9))
  k_with "ite" => (first | (k_closed; first | refine ite_pos (by decide +kernel) ?_ | refine ite_neg (by decide +kernel) ?_) | refine ite_pos (by with_reducible assumption) ?_ | refine ite_neg (by with_reducible assumption) ?_ | refine ite_isFalse (by with_reducible assumption) ?_)
  trivial
noncomputable def n5 : List Str := [Str.ofString "a", Str.ofString "b c", Str.ofString "it's", Str.ofString "#", Str.ofString "-"]
noncomputable def digF (x : Int) (k : Nat) : Nat := (((x.fdiv 3).fdiv ((5 : Int) ^ k)).fmod 5).toNat
noncomputable def namesF (x : Int) : List Str := (List.range (1 + x.fmod 3).toNat).map fun k => n5.getD (digF x k) (Str.ofString "")
theorem range_n (b : Int) : Builtin.Range.rangeSize 0 b 1 = ((b.toNat : Nat) : Int) := by
  unfold Builtin.Range.rangeSize
  rw [if_pos (by decide)]
  split <;> omega
theorem range_small {b : Int} (h0 : 0 ≤ b) (h1 : b ≤ 100) : Builtin.Range.small 0 b 1 = true :=
  small_one (by decide) (by decide) (by have : -(2 ^ 62 : Int) ≤ 0 := by decide
                                        omega) (by have : (100 : Int) < 2 ^ 62 := by decide
                                                   omega)
section
variable {prog : Program} {w : World} {A : Around} {E : Value → Shared → Prop} {s : Shared}
theorem item_led {value slice : PySem.Expr} {l : Addr} {its : Array Value} {n : Nat} {y : Int} {u : Tok} {Q : Value → Shared → Prop} {h₀ : Heap} {L : Addr} {news : List (Addr × Obj)} (N : News h₀ L s.heap news) (hm : (l, ({ cls := .type "list", data := .seq its n } : Obj)) ∈ news)
    (h5 : its.size = 5) (h : Q (its.toList.getD (y.fmod 5).toNat .none) s)
    (hs : subscripted slice false (.ref l) (.int (y.fmod 5) u) = operate [.ref l, .int (y.fmod 5) u] (getItem (.ref l) (.int (y.fmod 5) u)) := by with_unfolding_all rfl) :
    wpAny (model prog w) A (subscriptTail value slice (.ref l) (.int (y.fmod 5) u)) Q E s := by
  have hl : s.heap.IsList l its := ⟨_, (N _ hm).1, rfl, _, rfl⟩
  have h0 : 0 ≤ y.fmod 5 := Int.fmod_nonneg_of_pos _ (by decide)
  have h1 : y.fmod 5 < 5 := Int.fmod_lt_of_pos _ (by decide)
  refine tail_any hl.typeIs slot_list_getitem.lookup (wpAny_getItem_list hl h0 (by omega) (x := its.toList.getD (y.fmod 5).toNat .none) ?_ h) hs
  have hlt : (y.fmod 5).toNat < its.size := by omega
  rw [List.getD_eq_getElem?_getD, Array.getElem?_toList]
  rw [Array.getElem?_eq_getElem hlt]
  rfl
end
theorem names_get {x : Int} {i : Nat} (hi : i < (1 + x.fmod 3).toNat) : (namesF x)[i]? = some (n5.getD (digF x i) (Str.ofString "")) := by
  unfold namesF
  rw [List.getElem?_map, List.getElem?_range hi]
  rfl
theorem names_len {x : Int} : (namesF x).length = (1 + x.fmod 3).toNat := by simp [namesF]
theorem menu_snoc {ys : List Value} {t1 t2 t3 t4 t5 : Tok} {x : Int} {i k : Nat} (hys : StrsAre ys ((namesF x).take i)) (hi : i < (1 + x.fmod 3).toNat) (hk : digF x i = k) :
    StrsAre (ys ++ [[Value.str (Str.ofString "a") t1, .str (Str.ofString "b c") t2, .str (Str.ofString "it's") t3, .str (Str.ofString "#") t4, .str (Str.ofString "-") t5].getD k .none]) ((namesF x).take (i + 1)) := by
  rw [List.take_add_one, names_get hi, hk]
  have h5 : k < 5 := by
    have h0 : 0 ≤ (((x.fdiv 3).fdiv ((5 : Int) ^ i)).fmod 5) := Int.fmod_nonneg_of_pos _ (by decide)
    have h1 : (((x.fdiv 3).fdiv ((5 : Int) ^ i)).fmod 5) < 5 := Int.fmod_lt_of_pos _ (by decide)
    unfold digF at hk
    omega
  rcases lt5c k h5 with rfl | rfl | rfl | rfl | rfl <;> exact strsAre_snoc hys _ _
theorem kw_X7_2 : True := by
  k_with "eval ListComp" => (k_here; k_dflt (refine LCg.ListComp_U (F₀ := by k_asm) (by with_unfolding_all rfl) (by decide) (by rfl) (by decide) (by rfl) ?_))
  k_with "CompSrc" => (k_here; k_dflt (refine' LCg.CompSrc.range ?hhq9 ?k1q9 ?k2q9 ?k3q9 ?k4q9 (range_n _) ?zzq9 ?_; (case hhq9 => with_unfolding_all rfl); (case k1q9 => k_asm); (case k2q9 => k_asm); (case k3q9 => assumption); (case k4q9 => refine range_small ?_ ?_ <;> omega); (case zzq9 => (rw [sizeLine_eq]; omega))))
  k_with "subscriptTail List cons BinOp ref int" => (k_here; k_dflt (refine' item_led ?k1q9 ?k2q9 ?k3q9 ?_ ?k6q9; (case k1q9 => k_asm); (case k2q9 => k_mem); (case k3q9 => rfl); (case k6q9 => with_unfolding_all rfl); k_whole); walk_say "ITEM")
  trivial
set_option maxRecDepth 100000 in
set_option maxHeartbeats 0 in
theorem lawnamesC : ∀ (w : World) (p : Program) (loose : List Str) (mean : ExcName → Option Value) (mg mb : Str → Option Value) (x : Int) (t : Tok) (led : List (Addr × Obj)),
   ∀ (dp un : Nat) (gd : Option (List Code)) (cn : Str) (cs : Scope) (a : Addr) (ccd : Value) (cl : List (Str × Addr)) (outer : List Env) (A₀ : Around) (base h₀ : Heap) (L : Addr) (m : Str → Option Value) (s : Shared) (Q : Value → Shared → Prop),
    Below A₀ base outer h₀ → Fr h₀ L s.heap m → (K w.params).In h₀ → News h₀ L s.heap led → Top p loose mean mg mb h₀ → cs.kind = .function →
     dp + 20 < recursionLimit → un + 200 < cLine →
     (∀ (h' : Heap) (tk' : Nat) (D : Addr) (vs : List Value) (_ : StrsAre vs (namesF x)), Fr h₀ L h' m → News h₀ L h' ((D, listO vs.toArray vs.length) :: led) → Q (.ref D) { s with heap := h', toks := tk' }) →
     wpAny (model (OpenLaw.prog RR) w) (ktrTop dp un gd cn cs L a ccd cl outer) (call (.ref 928) [.int x t]) Q (fun _ _ => False) s := by
  k_fill
  intro w p loose mean mg mb x t led  dp un gd cn cs a ccd cl outer A₀ base h₀ L m s Q B F X N T hk hd hu hret
  refine wpAny_call ?_
  k_dflt (refine' code_defC ?k1 ?k2 ?k3 ?k4 ?k5 ?kA ?kF ?kK ?k6 ?k7 ?k8 ?k9 ?kB ?kD ?_ ?c2 ?c3 ?c4; (case kA => exact rfl); (case kF => exact rfl); (case kK => first | exact rfl | assumption); (case k1 => k_asm); (case k2 => k_asm); (case k3 => k_asm); (case k4 => k_asm); (case k5 => k_asm); (case k6 => k_is); (case k7 => k_is); (case k8 => ktr_room); (case k9 => exact BindsTo.of_eq rfl); (case kB => exact rfl); (case kD => decide +kernel); (case c2 => exact rfl); (case c3 => exact rfl); (case c4 => exact rfl); k_whole; intro g' L' h' tk' cells' FG' F' N' Y' B' X' T' l1; (try k_lt l1); k_cells Y'; (try simp only [List.cons_append, List.nil_append] at N'); (try dsimp only); (try k_lift B'); (try k_fold))
  have hm3 : 0 ≤ x.fmod 3 ∧ x.fmod 3 ≤ 2 := by
    have := Int.fmod_nonneg_of_pos x (b := 3) (by decide)
    have := Int.fmod_lt_of_pos x (b := 3) (by decide)
    omega
  k_steps
  refine comp_S (fun i ys => StrsAre ys ((namesF x).take i)) .nil ?turn ?fin
  case turn =>
    rintro i v ys I oI C oC D m₂ h tk hi ⟨t9, rfl⟩ hys hC hx F8 N8 off ne
    have hd : 0 ≤ (((x.fdiv 3).fdiv ((5 : Int) ^ i)).fmod 5) ∧ (((x.fdiv 3).fdiv ((5 : Int) ^ i)).fmod 5) < 5 := ⟨Int.fmod_nonneg_of_pos _ (by decide), Int.fmod_lt_of_pos _ (by decide)⟩
    have hoff := off
    (try simp only [LCg.Off3, and_true] at off)
    have hi3 : i < 3 := Nat.lt_of_lt_of_le hi (Int.toNat_le.mpr (Int.add_le_add_left hm3.2 1))
    have hz : 0 ≤ ((i : Nat) : Int) ∧ ((i : Nat) : Int) < 3 := ⟨Int.natCast_nonneg i, Int.ofNat_lt.mpr hi3⟩
    have hp5 : (0 : Int) < 5 ^ ((i : Nat) : Int).toNat := Int.pow_pos (by decide)
    have hp6 : (5 : Int) ^ ((i : Nat) : Int).toNat ≤ 25 := by
      show (5 : Int) ^ i ≤ 25
      rcases lt3c i hi3 with rfl | rfl | rfl <;> decide
    rw [Int.zero_add] at hx
    k_steps
    all_goals (rename News _ _ _ _ => N7; exact ⟨_, _, _, rfl, by assumption, news_sub N7 fun q hq => .tail _ hq, hoff, trivial, menu_snoc hys hi rfl, rfl⟩)
  case fin =>
    rintro ys hys
    rw [← names_len, List.take_length] at hys
    k_steps
    all_goals (rename News _ _ _ _ => N7; exact hret _ _ _ _ hys (by assumption) (news_sub N7 fun q hq => (List.mem_cons.mp hq).elim (fun e => e ▸ .head _) fun h => .tail _ (.tail _ h)))
end Mine
end
section
open PySem PySem.W PySem.Calls PySem.Spec PyProof.Rows PySem.Builtin
set_option maxRecDepth 100000
namespace Mine
noncomputable abbrev wobj (a : Addr) : Obj := { cls := .type "method-wrapper", data := .fields #[.builtin "list.__contains__", .ref a] }
theorem contains_look : typeLookup (.type "list") "__contains__" = pure (some (.builtin "list.__contains__")) := by rw [typeLookup_type, builtinLookup_eq_fast]; kernel_rfl
theorem contains_kind : builtinKind "list.__contains__" = some .slot := by decide +kernel
theorem wd_get : typeLookup (.type "wrapper_descriptor") "__get__" = pure (some (.builtin "wrapper_descriptor.__get__")) := by rw [typeLookup_type, builtinLookup_eq_fast]; kernel_rfl
theorem wd_set : typeLookup (.type "wrapper_descriptor") "__set__" = pure none := by rw [typeLookup_type, builtinLookup_eq_fast]; kernel_rfl
theorem wd_del : typeLookup (.type "wrapper_descriptor") "__delete__" = pure none := by rw [typeLookup_type, builtinLookup_eq_fast]; kernel_rfl
theorem entry_wdget : entryFor table "wrapper_descriptor.__get__" = some Builtin.«wrapper_descriptor.__get__» := entryFor_of_tree (by kernel_rfl)
theorem slot_wdget : Slot "wrapper_descriptor" "__get__" "wrapper_descriptor.__get__" :=
  .of (owner := "wrapper_descriptor") (n := "__get__") (by rw [typeLookup_type, builtinLookup_eq_fast]; kernel_rfl) (by decide +kernel) (by decide +kernel) (by decide +kernel)
    (by first | exact .inl (by decide +kernel) | exact .inr (by decide +kernel)) (by rw [isSubtype_type]; kernel_rfl)
theorem args_wdget (a b c : Value) : argsOk "wrapper_descriptor.__get__" ⟨[a, b, c], []⟩ := by unfold argsOk; kernel_rfl
theorem type_contains : typeOf (.builtin "list.__contains__") = pure (.type "wrapper_descriptor") := by show builtinType _ = _; rw [builtinType_eq_fast]; kernel_rfl
section
variable {prog : Program} {w : World} {A : Around} {E : Value → Shared → Prop} {s : Shared}
theorem run_wdget {a : Addr} {xs : Array Value} {k : Nat} {P : PySem.Fin → Shared → Prop} (hx : s.heap.get? a = some (listO xs k)) (h : P (.done (.ret (.ref s.heap.objs.size))) { s with heap := s.heap.push (wobj a) }) :
    wpAny (model prog w) A (Builtin.«wrapper_descriptor.__get__» ⟨[.builtin "list.__contains__", .ref a, .type "list"], []⟩) P E s := by
  have hT : s.TypeIs (.ref a) "list" := ⟨_, hx, rfl⟩
  unfold Builtin.«wrapper_descriptor.__get__»
  refine wpAny_bind (wpAny_of_eq (a := (.builtin "list.__contains__", some (.ref a), some (.type "list"))) (by first | rfl | kernel_rfl) ?_)
  with_unfolding_all refine wpAny_bind (wpAny_bind (wpAny_of_eq (a := (Str.ofString "__contains__", Value.type "list")) (by first | rfl | kernel_rfl) ?_)) 
  dsimp only
  refine wpAny_bind (wpAny_isInstance (T := "list") (b := true) hT (by rw [isSubtype_type]; kernel_rfl) ?_)
  rw [if_neg (by decide)]
  refine wpAny_pure ?_
  exact wpAny_bind (wpAny_newObj_type (wpAny_pure h))
end
theorem meets_wdget (a : Addr) (xs : Array Value) (k : Nat) : Meets (Builtin.«wrapper_descriptor.__get__» ⟨[.builtin "list.__contains__", .ref a, .type "list"], []⟩) (fun _ R s => s.heap.get? a = some (listO xs k) ∧ R (.ok (.ret (.ref s.heap.objs.size))) { s with heap := s.heap.push (wobj a) }) :=
  Meets.of_wp fun prog w A R s hs => run_wdget hs.1 ⟨_, rfl, hs.2⟩
set_option maxHeartbeats 0 in
theorem meets_contains (a : Addr) (xs : Array Value) (k : Nat) (u : Tok) :
    Meets (Builtin.«object.__getattribute__» ⟨[.ref a, .str (Str.ofString "__contains__") u], []⟩) (fun _ R s => s.heap.get? a = some (listO xs k) ∧ R (.ok (.ret (.ref s.heap.objs.size))) { s with heap := s.heap.push (wobj a) }) :=
  Meets.of_wp fun prog w A R s hs => by
    obtain ⟨hp, g, d, tk, os⟩ := s
    obtain ⟨hx, hs⟩ := hs
    have hT : (⟨hp, g, d, tk, os⟩ : Shared).TypeIs (.ref a) "list" := ⟨_, hx, rfl⟩
    have f1 := contains_look
    have f2 := wd_get
    have f3 := wd_set
    have f4 := wd_del
    unfold Builtin.«object.__getattribute__»
    repeat (any_goals (first | assumption | (simp only [contains_kind]) | ((with_reducible show wpAny _ _ (call (Value.builtin "wrapper_descriptor.__get__") _ _) _ _ _); refine call_meets slot_wdget type_contains entry_wdget (args_wdget _ _ _) (meets_wdget a xs k) ⟨hx, ?_⟩) | wp_step))
    exact wpAny_pure ⟨_, rfl, hs⟩
set_option maxHeartbeats 0 in
theorem get_contains {prog : Program} {w : World} {A : Around} {E : Value → Shared → Prop} {s : Shared} {a : Addr} {xs : Array Value} {k : Nat} {Q : Value → Shared → Prop} {h₀ : Heap} {L : Addr} {m : Str → Option Value} {news : List (Addr × Obj)} (F : Fr h₀ L s.heap m) (N : News h₀ L s.heap news) (hm : (a, listO xs k) ∈ news)
    (h : ∀ x h' tk, Fr h₀ L h' m → News h₀ L h' ((x, wobj a) :: news) → (∀ q ∈ news, q.1 < x) → Q (.ref x) { s with heap := h', toks := tk }) :
    wpAny (model prog w) A (getAttr (.ref a) (Str.ofString "__contains__") true) Q E s := by
  have hx := (N _ hm).1
  have hh := fun tk => h s.heap.objs.size _ tk (F.push (wobj a)) (N.push F (wobj a)) fun q hq => Heap.lt_size (N q hq).1
  obtain ⟨hp, g, d, tk, os⟩ := s
  have hT : ∀ tk', (⟨hp, g, d, tk', os⟩ : Shared).TypeIs (.ref a) "list" := fun _ => ⟨_, hx, rfl⟩
  have f3 := PySem.F.slot_list_getattribute.lookup
  have f4 := PySem.F.slot_list_getattribute.bind (.ref a)
  unfold getAttr getAttrBy
  repeat (any_goals (first | assumption | exact hT _ | ((with_reducible show wpAny _ _ (call (Value.builtin "list.__getattribute__") _ _) _ _ _); refine call_meets PySem.F.slot_list_getattribute (hT _) am_entry_list_getattribute (PySem.F.args_list_getattribute_2 _ _) (meets_contains a xs k _) ⟨hx, ?_⟩) | wp_step))
  exact wpAny_pure (hh _)
end Mine
end
section
open PySem PySem.W PySem.Calls PySem.Spec PyProof.Rows PySem.Builtin
set_option maxRecDepth 100000
namespace Mine
theorem ne_of_allLt {d x : Addr} {l : List (Addr × Obj)} (h : AllLt d l) (hx : @LE.le Nat _ d x) : ∀ q ∈ l, q.1 ≠ x := fun q hq => Nat.ne_of_lt (Nat.lt_of_lt_of_le (allLt_mem h q hq) hx)
noncomputable abbrev itObj (l : Addr) (i : Nat) : Obj := { cls := .type "list_iterator", data := .fields #[.ref l, .int (i : Nat) 0] }
theorem itObj_up {h : Heap} {l it : Addr} {i : Nat} (e : h.get? it = some (itObj l i)) : (h.update it (Obj.mapFields (·.setIfInBounds 1 (rawInt ((i : Int) + 1))))).get? it = some (itObj l (i + 1)) := by
  have z := Heap.get?_update_self (Obj.mapFields (·.setIfInBounds 1 (rawInt ((i : Int) + 1)))) e rfl
  rw [z]
  rfl
section
variable {prog : Program} {w : World} {A : Around} {E : Value → Shared → Prop} {s : Shared} {g : Heap} {L : Addr} {m : Str → Option Value} {news rest : List (Addr × Obj)} {l it : Addr} {vs : List Value} {c : Nat}
theorem call_iter {Q : Value → Shared → Prop} (F : Fr g L s.heap m) (N : News g L s.heap news) (hm : (l, listO vs.toArray c) ∈ news)
    (h : ∀ (I : Addr) h', Fr g L h' m → News g L h' ((I, itObj l 0) :: news) → (∀ q ∈ news, q.1 < I) → Q (.ref I) { s with heap := h' }) : wpAny (model prog w) A (call (.builtin "iter") [.ref l]) Q E s := by
  have hl : s.heap.IsList l vs.toArray := ⟨_, (N _ hm).1, rfl, _, rfl⟩
  refine call_function_entry (by decide +kernel) (by decide +kernel) kdk_entry_iter (kdk_args_iter _) ?_
  unfold Builtin.«iter»
  refine wpAny_bind (m := someArgs "iter" 1 2 _) (wpAny_of_eq (a := [Value.ref l]) (by first | rfl | kernel_rfl) ?_)
  show wpAny _ _ (pyIter (.ref l) >>= _) _ _ _
  refine wpAny_bind (wpAny_pyIter_list hl ?_)
  exact wpAny_pure ⟨_, rfl, h _ _ (F.push _) (N.push F _) fun q hq => Heap.lt_size (N q hq).1⟩
theorem call_next {i : Nat} {v : Value} {Q : Value → Shared → Prop} (F : Fr g L s.heap m) (N : News g L s.heap ((it, itObj l i) :: rest)) (hm : (l, listO vs.toArray c) ∈ rest) (hne : ∀ q ∈ rest, q.1 ≠ it) (hv : vs[i]? = some v)
    (h : ∀ h', Fr g L h' m → News g L h' ((it, itObj l (i + 1)) :: rest) → Q v { s with heap := h' }) : wpAny (model prog w) A (call (.builtin "next") [.ref it]) Q E s := by
  have ho := (N _ (.head _)).1
  have hol := (N _ (.tail _ hm)).1
  have hT : s.TypeIs (.ref it) "list_iterator" := ⟨_, ho, rfl⟩
  refine call_function_entry (by decide +kernel) (by decide +kernel) kdk_entry_next (kdk_args_next _) ?_
  unfold Builtin.«next»
  refine wpAny_bind (m := someArgs "next" 1 2 _) (wpAny_of_eq (a := [Value.ref it]) (by first | rfl | kernel_rfl) ?_)
  dsimp only
  refine wpAny_bind (wpAny_specialOf (name := Str.ofString "__next__") hT slot_listiter_next.lookup ?_)
  refine wpAny_ite_split (fun hab => absurd hab (by decide)) (fun _ => ?_)
  refine wpAny_bind (wpAny_callSpecial?_slot (name := Str.ofString "__next__") hT slot_listiter_next (wpAny_call_entry slot_listiter_next hT entry_listiter_next ?_ (args_listiter_next _)))
  show wpAny _ _ (field (.ref it) 0 >>= _) _ _ s
  refine wpAny_bind (wpAny_field ho rfl (x := .ref l) rfl ?_)
  show wpAny _ _ (if (Value.ref l == Value.none) = true then _ else _) _ _ s
  rw [if_neg (show ¬ ((Value.ref l == Value.none) = true) from Bool.false_ne_true)]
  show wpAny _ _ (field (.ref it) 1 >>= _) _ _ s
  refine wpAny_bind (wpAny_field ho rfl (x := .int i 0) rfl ?_)
  show wpAny _ _ (seqItems? (.ref l) >>= _) _ _ s
  refine wpAny_bind (wpAny_seqItems hol rfl ?_)
  have hx : vs.toArray[((i : Nat) : Int).toNat]? = some v := by simpa using hv
  simp only [hx]
  have k : ∀ b o, it ≠ b → s.heap.get? b = some o → (s.heap.update it (Obj.mapFields (·.setIfInBounds 1 (rawInt ((i : Int) + 1))))).get? b = some o := fun b o hb e => (Heap.get?_update_other _ _ hb).trans e
  refine wpAny_bind (wpAny_setField ho rfl (by simp) (wpAny_pure ⟨v, rfl, wpAny_pure ⟨_, rfl, h _ (fr_one F (N _ (.head _)).2.2 (N _ (.head _)).2.1 k) fun q hq => ?_⟩⟩))
  rcases List.mem_cons.mp hq with rfl | hq
  · exact ⟨itObj_up ho, (N _ (.head _)).2⟩
  · exact ⟨k _ _ (Ne.symm (hne q hq)) (N q (.tail _ hq)).1, (N q (.tail _ hq)).2⟩
theorem call_next_end {i : Nat} {Q : Value → Shared → Prop} (hh : A.handled = none) (F : Fr g L s.heap m) (N : News g L s.heap ((it, itObj l i) :: rest)) (hm : (l, listO vs.toArray c) ∈ rest) (hne : ∀ q ∈ rest, q.1 ≠ it) (hv : vs[i]? = none)
    (h : ∀ h1 h' e, Fr g L h1 m → News g L h1 rest → Heap.MadeExc h1 h' e "StopIteration" [] → E (.ref e) { s with heap := h' }) : wpAny (model prog w) A (call (.builtin "next") [.ref it]) Q E s := by
  have ho := (N _ (.head _)).1
  have hol := (N _ (.tail _ hm)).1
  have hT : s.TypeIs (.ref it) "list_iterator" := ⟨_, ho, rfl⟩
  refine call_function_entry (by decide +kernel) (by decide +kernel) kdk_entry_next (kdk_args_next _) ?_
  unfold Builtin.«next»
  refine wpAny_bind (m := someArgs "next" 1 2 _) (wpAny_of_eq (a := [Value.ref it]) (by first | rfl | kernel_rfl) ?_)
  dsimp only
  refine wpAny_bind (wpAny_specialOf (name := Str.ofString "__next__") hT slot_listiter_next.lookup ?_)
  refine wpAny_ite_split (fun hab => absurd hab (by decide)) (fun _ => ?_)
  refine wpAny_bind (wpAny_callSpecial?_slot (name := Str.ofString "__next__") hT slot_listiter_next (wpAny_call_entry slot_listiter_next hT entry_listiter_next ?_ (args_listiter_next _)))
  show wpAny _ _ (field (.ref it) 0 >>= _) _ _ s
  refine wpAny_bind (wpAny_field ho rfl (x := .ref l) rfl ?_)
  show wpAny _ _ (if (Value.ref l == Value.none) = true then _ else _) _ _ s
  rw [if_neg (show ¬ ((Value.ref l == Value.none) = true) from Bool.false_ne_true)]
  show wpAny _ _ (field (.ref it) 1 >>= _) _ _ s
  refine wpAny_bind (wpAny_field ho rfl (x := .int i 0) rfl ?_)
  show wpAny _ _ (seqItems? (.ref l) >>= _) _ _ s
  refine wpAny_bind (wpAny_seqItems hol rfl ?_)
  have hx : vs.toArray[((i : Nat) : Int).toNat]? = none := by simpa using hv
  simp only [hx]
  have k : ∀ b o, it ≠ b → s.heap.get? b = some o → (s.heap.update it (Obj.mapFields (·.setIfInBounds 0 Value.none))).get? b = some o := fun b o hb e => (Heap.get?_update_other _ _ hb).trans e
  refine wpAny_bind (wpAny_rule (wpAny_bind (wpAny_setField ho rfl (by simp) ?_)))
  have F1 := fr_one F (N _ (.head _)).2.2 (N _ (.head _)).2.1 k
  have N1 := news_one (fun q hq => N q (.tail _ hq)) hne k
  generalize (s.heap.update it (Obj.mapFields (·.setIfInBounds 0 Value.none))) = h1 at F1 N1 ⊢
  show wpAny _ _ (newExc (.type "StopIteration") [] >>= _) _ _ _
  refine wpAny_bind ?_
  simp only [newExc, newTuple]
  refine wpAny_bind (wpAny_newObj_type ?_ (by size_fits))
  refine wpAny_bind (m := firstArgMember _ _) (wpAny_of_eq (a := Value.none) (by first | rfl | (simp only [firstArgMember]; rfl)) ?_)
  refine wpAny_newObj_type ?_ (by size_fits)
  simp only [raiseNew]
  refine wpAny_bind (wpAny_handled ?_)
  have hA : A.in1.in1.handled = none := hh
  rw [hA]
  refine wpAny_throw (h h1 _ _ F1 N1 ⟨fun b o e => Heap.get?_push_of_some _ (Heap.get?_push_of_some _ e), Heap.get?_none_of_le (by rw [Heap.size_push]; exact Nat.le_succ _), h1.objs.size, ?_, Heap.get?_none_of_le (Nat.le_refl _), Heap.get?_push_of_some _ (Heap.get?_push_size _ rfl)⟩)
  exact (Heap.get?_push_size _ rfl).trans rfl
theorem bound_check (k : Addr) (y : Value) : checkBoundCall "list.__contains__" ⟨[.ref k, y], []⟩ = pure () := by first | rfl | kernel_rfl
theorem call_w {x k : Addr} {hs : List Value} {ns : List Str} {c2 : Nat} {y : Str} {t : Tok} {Q : Value → Shared → Prop} (N : News g L s.heap news) (hx : (x, wobj k) ∈ news) (hm : (k, listO hs.toArray c2) ∈ news) (hs' : StrsAre hs ns)
    (h : Q (.bool (ns.any (· == y))) s) : wpAny (model prog w) A (call (.ref x) [.str y t]) Q E s := by
  have hox : s.heap.get? x = some (wobj k) := (N _ hx).1
  have hok : s.heap.get? k = some (listO hs.toArray c2) := (N _ hm).1
  have hT : s.TypeIs (.ref k) "list" := ⟨_, hok, rfl⟩
  refine wpAny_call (codeAny_of_tree ?_)
  show wpAny _ A.in1 (callAny (.ref x) ⟨[.str y t], []⟩) _ _ s
  simp only [callAny]
  refine wpAny_bind (wpAny_load hox ?_)
  simp only [show (Value.type "method-wrapper" == Value.type "method" || Value.type "method-wrapper" == Value.type "builtin_function_or_method" || Value.type "method-wrapper" == Value.type "method-wrapper") = true by decide, if_true]
  have e0 : #[Value.builtin "list.__contains__", Value.ref k][0]? = some (Value.builtin "list.__contains__") := rfl
  have e1 : #[Value.builtin "list.__contains__", Value.ref k][1]? = some (Value.ref k) := rfl
  rw [e0, e1]
  dsimp only
  rw [if_pos (show (Value.type "method-wrapper" != Value.type "method") = true by decide)]
  refine wpAny_bind (wpAny_of_eq (a := ()) (bound_check _ _) ?_)
  refine wpAny_pure (a := Fin.again (.builtin "list.__contains__" ⟨[.ref k, .str y t], []⟩)) (And.intro (Code.quiet_builtin _ (by decide +kernel)) ?_)
  refine codeAny_builtin PySem.F.entry_list_contains ?_
  rw [Around.under_plainId (show plainId "list.__contains__" = true by decide +kernel) _]
  refine SeqInW.list_containsW k hs.toArray c2 none #[] (.str y t) (isStrOf y) (fun z hz => eq_isStrOf y t hs' z (by simpa using hz)) prog w A _ s ⟨hok, ?_⟩
  rw [← Array.any_toList, show hs.toArray.toList = hs from rfl, any_isStrOf y hs']
  exact h
end
end Mine
end
section
open PySem PySem.W PySem.Calls PySem.Spec PyProof.Rows
namespace Mine
theorem kw_X9_1 : True := by
  k_with_none
  k_with "ite" => (first | (k_closed; first | refine ite_pos (by decide +kernel) ?_ | refine ite_neg (by decide +kernel) ?_) | refine ite_pos (by with_reducible assumption) ?_ | refine ite_neg (by with_reducible assumption) ?_ | refine ite_isFalse (by with_reducible assumption) ?_)
  trivial
noncomputable abbrev ffObj (d x it : Addr) : Obj := { cls := .ref 77, dict := some d, data := .plain, slots := #[some (.ref x), some (.ref it)] }
noncomputable abbrev ffLed (it ff d x l k : Addr) (vs hs : List Value) (c c2 i : Nat) (rest : List (Addr × Obj)) : List (Addr × Obj) :=
  (it, itObj l i) :: (ff, ffObj d x it) :: (d, dictOf [] 0) :: (x, wobj k) :: (l, listO vs.toArray c) :: (k, listO hs.toArray c2) :: rest
structure FF where
  it : Addr
  ff : Addr
  d : Addr
  x : Addr
  l : Addr
  k : Addr
  vs : List Value
  hs : List Value
  c : Nat
  c2 : Nat
  ws : List Str
  ns : List Str
  rest : List (Addr × Obj)
structure FF.Ok (f : FF) : Prop where
  hvs : StrsAre f.vs f.ws
  hhs : StrsAre f.hs f.ns
  ne : ∀ q ∈ (f.ff, ffObj f.d f.x f.it) :: (f.d, dictOf [] 0) :: (f.x, wobj f.k) :: (f.l, listO f.vs.toArray f.c) :: (f.k, listO f.hs.toArray f.c2) :: f.rest, q.1 ≠ f.it
noncomputable abbrev FF.led (f : FF) (i : Nat) : List (Addr × Obj) := ffLed f.it f.ff f.d f.x f.l f.k f.vs f.hs f.c f.c2 i f.rest
noncomputable def WAt (x k : Addr) (h : Heap) : Prop := h.get? x = some (wobj k)
theorem wAt_of {g h : Heap} {L x k : Addr} {news : List (Addr × Obj)} (N : News g L h news) (hm : (x, wobj k) ∈ news) : WAt x k h := (N _ hm).1
theorem callWith_w {prog : Program} {w : World} {A : Around} {E : Value → Shared → Prop} {s : Shared} {g : Heap} {L x k : Addr} {news : List (Addr × Obj)} {pos : Pos} {first : List Value} {env : Env} {e : PySem.Expr} {rest : List PySem.Expr} {Q : Value → Shared → Prop} (N : News g L s.heap news) (hm : (x, wobj k) ∈ news)
    (h : wpAny (model prog w) A (spliced (backTo pos (starEach (e :: rest) env))) (fun vs s₁ => WAt x k s₁.heap ∧ wpAny (model prog w) A (call (.ref x) (first ++ vs)) Q E s₁) E s)
    (he : starEach (e :: rest) env = (false, eval e env) :: starEach rest env := by rfl) (hplain : (backTo pos (starEach rest env)).any (·.1) = false := by rfl) :
    wpAny (model prog w) A (callWith pos (.ref x) first (backTo pos (starEach (e :: rest) env)) []) Q E s := by
  rw [he] at h ⊢
  refine callWith_of (P := fun h => WAt x k h) (by show ((false || (backTo pos (starEach rest env)).any (·.1)) || false) = false; rw [hplain]; rfl) (fun h X => ⟨.machine, .inr (.inl rfl), ?_⟩) (evalArgs_plain h)
  exact (Looks.ld (part := none) X).andThen .now
noncomputable def nxF : {x : Arguments × List Stmt × Scope // fnAt 4 3 = some x} := ⟨(⟨_, _, _, _, _, _, _⟩, _ :: _ :: [], ⟨_, _, _, _, _⟩), rfl⟩
noncomputable def nxW : {x : PySem.Expr × List Stmt // whOf 4 3 1 = some x} := ⟨(_, _ :: _ :: []), rfl⟩
noncomputable abbrev nxEnv (L : Addr) : Env := envOf (Str.ofString "filterfalse.__next__") nxF.1.2.2 L 73 (.ref 72)
noncomputable abbrev mF (f : FF) (nc : Option Value) : Str → Option Value := fun y => if y = ("item" : Str) then nc else if y = ("func" : Str) then some (.ref f.x) else if y = ("self" : Str) then some (.ref f.ff) else none
noncomputable def FfAt (f : FF) (g : Heap) (L : Addr) (i : Nat) (h : Heap) : Prop := ∃ nc, Fr g L h (mF f nc) ∧ News g L h (f.led i)
theorem kw_X9_2 : True := by
  k_with "And" => ((with_reducible show WAt _ _ _ ∧ _); k_dflt (refine' ⟨wAt_of ?k1q9 ?k2q9, ?_⟩; (case k1q9 => k_asm); (case k2q9 => k_mem)); (try dsimp only [List.nil_append, List.cons_append]))
  k_with "callWith ref" => (k_here; k_dflt (refine' callWith_w ?k1q9 ?k2q9 ?_ ?k3q9 ?k4q9; (case k1q9 => k_asm); (case k2q9 => k_mem); (case k3q9 => rfl); (case k4q9 => rfl); k_whole); walk_say "CWW")
  k_with "call ref" => (k_here; k_dflt (show wpAny _ _ (call (Value.ref _) [Value.str _ _]) _ _ _); k_dflt (refine' call_w ?k1q9 ?k2q9 ?k3q9 ?k4q9 ?_; (case k1q9 => k_asm); (case k2q9 => k_mem); (case k3q9 => k_mem); (case k4q9 => assumption); k_whole); walk_say "CALLW")
  k_with "call builtin:next" => (k_here; k_dflt (refine' call_next ?k1q9 ?k2q9 ?k3q9 ?k4q9 ?k5q9 ?_; (case k1q9 => k_asm); (case k2q9 => k_asm); (case k3q9 => k_mem); (case k4q9 => assumption); (case k5q9 => assumption); k_whole); intro h'q9 F'q9 N'q9; (try dsimp only); (try k_sweep); walk_say "NEXT")
  trivial
set_option maxHeartbeats 0 in
theorem ff_hide (w : World) (p : Program) (loose : List Str) (mean : ExcName → Option Value) (mg mb : Str → Option Value) (f : FF) (ok : f.Ok)
    (dp un : Nat) (gd : Option (List Code)) (outer : List Env) (A₀ : Around) (base h₀ : Heap) (L : Addr) (s : Shared) (P : Flow → Shared → Prop)
    (B : Below A₀ base outer h₀) (X : (K w.params).In h₀) (T : Top p loose mean mg mb h₀) (hd : dp + 20 < recursionLimit) (hu : un + 100 < cLine)
    (i : Nat) (y : Str) (t : Tok) (hv : f.vs[i]? = some (.str y t)) (hn : f.ns.any (· == y) = true) (at_ : FfAt f h₀ L i s.heap)
    (next : ∀ h' tk', FfAt f h₀ L (i + 1) h' → P .next { s with heap := h', toks := tk' }) :
    wpAny (model (OpenLaw.prog RR) w) (ktrTop dp un gd (Str.ofString "filterfalse.__next__") nxF.1.2.2 L 73 (.ref 72) [] outer) (execs nxW.1.2 (nxEnv L)) P (fun _ _ => False) s := by
  revert next at_ X
  k_fill
  intro X at_ next
  obtain ⟨it, ff, d, x, l, k, vs, hs, c, c2, ws, ns, rest⟩ := f
  obtain ⟨hvs, hhs, hne⟩ := ok
  obtain ⟨nc, F, N⟩ := at_
  dsimp only at *
  dsimp only [nxW, nxF, nxEnv] at *
  k_steps
  all_goals (rename Fr _ _ _ _ => F9; rename News _ _ _ _ => N9; refine next _ _ ⟨some (.str y t), fr_eq F9 (funext fun z => ?_), N9⟩; by_cases hz : z = ("item" : Str) <;> simp [mF, hz])
set_option maxHeartbeats 0 in
theorem ff_show (w : World) (p : Program) (loose : List Str) (mean : ExcName → Option Value) (mg mb : Str → Option Value) (f : FF) (ok : f.Ok)
    (dp un : Nat) (gd : Option (List Code)) (outer : List Env) (A₀ : Around) (base h₀ : Heap) (L : Addr) (s : Shared) (P : Flow → Shared → Prop)
    (B : Below A₀ base outer h₀) (X : (K w.params).In h₀) (T : Top p loose mean mg mb h₀) (hd : dp + 20 < recursionLimit) (hu : un + 100 < cLine)
    (i : Nat) (y : Str) (t : Tok) (hv : f.vs[i]? = some (.str y t)) (hn : f.ns.any (· == y) = false) (at_ : FfAt f h₀ L i s.heap)
    (next : ∀ h' tk', FfAt f h₀ L (i + 1) h' → P (.ret (.str y t)) { s with heap := h', toks := tk' }) :
    wpAny (model (OpenLaw.prog RR) w) (ktrTop dp un gd (Str.ofString "filterfalse.__next__") nxF.1.2.2 L 73 (.ref 72) [] outer) (execs nxW.1.2 (nxEnv L)) P (fun _ _ => False) s := by
  revert next at_ X
  k_fill
  intro X at_ next
  obtain ⟨it, ff, d, x, l, k, vs, hs, c, c2, ws, ns, rest⟩ := f
  obtain ⟨hvs, hhs, hne⟩ := ok
  obtain ⟨nc, F, N⟩ := at_
  dsimp only at *
  dsimp only [nxW, nxF, nxEnv] at *
  k_steps
  all_goals (rename Fr _ _ _ _ => F9; rename News _ _ _ _ => N9; refine next _ _ ⟨some (.str y t), fr_eq F9 (funext fun z => ?_), N9⟩; by_cases hz : z = ("item" : Str) <;> simp [mF, hz])
theorem kw_X9_3 : True := by
  k_with "call builtin:next" => (k_here; k_dflt (refine' call_next_end ?khq9 ?k1q9 ?k2q9 ?k3q9 ?k4q9 ?k5q9 ?_; (case khq9 => with_unfolding_all rfl); (case k1q9 => k_asm); (case k2q9 => k_asm); (case k3q9 => k_mem); (case k4q9 => assumption); (case k5q9 => assumption); k_whole); intro h1'q9 h'q9 e'q9 F'q9 N'q9 x'q9; (try dsimp only); walk_say "NEXTEND")
  trivial
set_option maxHeartbeats 0 in
theorem ff_stop (w : World) (p : Program) (loose : List Str) (mean : ExcName → Option Value) (mg mb : Str → Option Value) (f : FF) (ok : f.Ok)
    (dp un : Nat) (gd : Option (List Code)) (outer : List Env) (A₀ : Around) (base h₀ : Heap) (L : Addr) (s : Shared) (P : Flow → Shared → Prop) (E : Value → Shared → Prop)
    (B : Below A₀ base outer h₀) (X : (K w.params).In h₀) (T : Top p loose mean mg mb h₀) (hd : dp + 20 < recursionLimit) (hu : un + 100 < cLine)
    (i : Nat) (hv : f.vs[i]? = none) (at_ : FfAt f h₀ L i s.heap)
    (stop : ∀ h1 h' e tk' nc, Fr h₀ L h1 (mF f nc) → News h₀ L h1 ((f.ff, ffObj f.d f.x f.it) :: (f.d, dictOf [] 0) :: (f.x, wobj f.k) :: (f.l, listO f.vs.toArray f.c) :: (f.k, listO f.hs.toArray f.c2) :: f.rest) → Heap.MadeExc h1 h' e "StopIteration" [] → E (.ref e) { s with heap := h', toks := tk' }) :
    wpAny (model (OpenLaw.prog RR) w) (ktrTop dp un gd (Str.ofString "filterfalse.__next__") nxF.1.2.2 L 73 (.ref 72) [] outer) (execs nxW.1.2 (nxEnv L)) P E s := by
  revert stop at_ X
  k_fill
  intro X at_ stop
  obtain ⟨it, ff, d, x, l, k, vs, hs, c, c2, ws, ns, rest⟩ := f
  obtain ⟨hvs, hhs, hne⟩ := ok
  obtain ⟨nc, F, N⟩ := at_
  dsimp only at *
  dsimp only [nxW, nxF, nxEnv] at *
  k_steps
  all_goals exact stop _ _ _ _ _ (by assumption) (by assumption) (by assumption)
theorem drop_get {ws : List Str} {vs : List Value} {i : Nat} {z : Str} {tl : List Str} (h : StrsAre vs ws) (e : ws.drop i = z :: tl) : ∃ t, vs[i]? = some (.str z t) := by
  have h1 : ws[i]? = some z := by rw [← List.head?_drop, e]; rfl
  have hlt : i < vs.length := by rw [strsAre_len h]; exact (List.getElem?_eq_some_iff.mp h1).1
  obtain ⟨x, t, hx, hv⟩ := strs_get h (List.getElem?_eq_getElem hlt)
  rw [h1] at hx
  cases hx
  exact ⟨t, by rw [List.getElem?_eq_getElem hlt, hv]⟩
theorem drop_next {ws : List Str} {i : Nat} {z : Str} {tl : List Str} (e : ws.drop i = z :: tl) : ws.drop (i + 1) = tl := by
  rw [← List.tail_drop, e]; rfl
theorem nx_test (w : World) (A : Around) (env : Env) (s : Shared) (Q : Bool → Shared → Prop) (E : Value → Shared → Prop) (h : Q true s) :
    wpAny (model (OpenLaw.prog RR) w) A (isTrue nxW.1.1 env (eval nxW.1.1 env)) Q E s := by
  dsimp only [nxW]
  repeat' walk1
  all_goals exact h
theorem ff_to (w : World) (p : Program) (loose : List Str) (mean : ExcName → Option Value) (mg mb : Str → Option Value) (f : FF) (ok : f.Ok)
    (dp un : Nat) (gd : Option (List Code)) (outer : List Env) (A₀ : Around) (base h₀ : Heap) (L : Addr) (Q : Flow → Shared → Prop)
    (B : Below A₀ base outer h₀) (X : (K w.params).In h₀) (T : Top p loose mean mg mb h₀) (hd : dp + 20 < recursionLimit) (hu : un + 100 < cLine) (y : Str) (tl : List Str) (hy : f.ns.any (· == y) = false) :
    ∀ (hid : List Str) (i : Nat) (s : Shared), f.ws.drop i = hid ++ y :: tl → (∀ z ∈ hid, f.ns.any (· == z) = true) → FfAt f h₀ L i s.heap → (∀ h' tk' t', FfAt f h₀ L (i + hid.length + 1) h' → Q (.ret (.str y t')) { s with heap := h', toks := tk' }) →
    WhlRest (OpenLaw.prog RR) w (ktrTop dp un gd (Str.ofString "filterfalse.__next__") nxF.1.2.2 L 73 (.ref 72) [] outer) (fun _ _ => False) (nxEnv L) nxW.1.1 nxW.1.2 [] Q 0 s := by
  intro hid
  induction hid with
  | nil =>
    intro i s e _ a next
    obtain ⟨t, hv⟩ := drop_get ok.hvs e
    refine whl_turn (k := 0) (fun e s h => h.elim) (nx_test _ _ _ _ _ _ (WhlIf.yes rfl ?_))
    exact ff_show w p loose mean mg mb f ok dp un gd outer A₀ base h₀ L s _ B X T hd hu i y t hv hy a fun h' tk' a' => next h' tk' t a'
  | cons z hid ih =>
    intro i s e hh a next
    obtain ⟨t, hv⟩ := drop_get ok.hvs e
    refine whl_turn (k := 0) (fun e s h => h.elim) (nx_test _ _ _ _ _ _ (WhlIf.yes rfl ?_))
    refine ff_hide w p loose mean mg mb f ok dp un gd outer A₀ base h₀ L s _ B X T hd hu i z t hv (hh z (.head _)) a fun h' tk' a' => ?_
    refine ih (i + 1) _ (drop_next e) (fun z' hz => hh z' (.tail _ hz)) a' fun h'' tk'' t' a'' => next h'' tk'' t' ?_
    have e2 : i + (z :: hid).length + 1 = i + 1 + hid.length + 1 := by simp only [List.length_cons]; omega
    rw [e2]; exact a''
theorem ff_out (w : World) (p : Program) (loose : List Str) (mean : ExcName → Option Value) (mg mb : Str → Option Value) (f : FF) (ok : f.Ok)
    (dp un : Nat) (gd : Option (List Code)) (outer : List Env) (A₀ : Around) (base h₀ : Heap) (L : Addr) (Q : Flow → Shared → Prop) (E : Value → Shared → Prop) (g : Array GenState) (d : Drawn) (os : OsState)
    (B : Below A₀ base outer h₀) (X : (K w.params).In h₀) (T : Top p loose mean mg mb h₀) (hd : dp + 20 < recursionLimit) (hu : un + 100 < cLine)
    (hE : PassesOwn (model (OpenLaw.prog RR) w) (ktrTop dp un gd (Str.ofString "filterfalse.__next__") nxF.1.2.2 L 73 (.ref 72) [] outer) (nxEnv L) E)
    (stop : ∀ h1 h' e tk' nc, Fr h₀ L h1 (mF f nc) → News h₀ L h1 ((f.ff, ffObj f.d f.x f.it) :: (f.d, dictOf [] 0) :: (f.x, wobj f.k) :: (f.l, listO f.vs.toArray f.c) :: (f.k, listO f.hs.toArray f.c2) :: f.rest) → Heap.MadeExc h1 h' e "StopIteration" [] → E (.ref e) ⟨h', g, d, tk', os⟩) :
    ∀ (hid : List Str) (i : Nat) (h : Heap) (tk : Nat), f.ws.drop i = hid → (∀ z ∈ hid, f.ns.any (· == z) = true) → FfAt f h₀ L i h →
    WhlRest (OpenLaw.prog RR) w (ktrTop dp un gd (Str.ofString "filterfalse.__next__") nxF.1.2.2 L 73 (.ref 72) [] outer) E (nxEnv L) nxW.1.1 nxW.1.2 [] Q 0 ⟨h, g, d, tk, os⟩ := by
  intro hid
  induction hid with
  | nil =>
    intro i h tk e _ a
    have hv : f.vs[i]? = none := by
      have h1 := List.drop_eq_nil_iff.mp e
      have h2 := strsAre_len ok.hvs
      simp; omega
    refine whl_turn (k := 0) hE (nx_test _ _ _ _ _ _ (WhlIf.yes rfl ?_))
    exact ff_stop w p loose mean mg mb f ok dp un gd outer A₀ base h₀ L _ _ E B X T hd hu i hv a stop
  | cons z hid ih =>
    intro i h tk e hh a
    obtain ⟨t, hv⟩ := drop_get ok.hvs e
    refine whl_turn (k := 0) hE (nx_test _ _ _ _ _ _ (WhlIf.yes rfl ?_))
    refine anyE (ff_hide w p loose mean mg mb f ok dp un gd outer A₀ base h₀ L _ _ B X T hd hu i z t hv (hh z (.head _)) a fun h' tk' a' => ?_)
    exact ih (i + 1) h' tk' (drop_next e) (fun z' hz => hh z' (.tail _ hz)) a'
set_option maxRecDepth 100000 in
set_option maxHeartbeats 0 in
theorem nextFA : ∀ (w : World) (p : Program) (loose : List Str) (mean : ExcName → Option Value) (mg mb : Str → Option Value) (f : FF) (hid : List Str) (y : Str) (tl : List Str) (i : Nat),
   f.Ok → f.ws.drop i = hid ++ y :: tl → (∀ z ∈ hid, f.ns.any (· == z) = true) → f.ns.any (· == y) = false →
   ∀ (dp un : Nat) (gd : Option (List Code)) (cn : Str) (cs : Scope) (a : Addr) (ccd : Value) (cl : List (Str × Addr)) (outer : List Env) (A₀ : Around) (base h₀ : Heap) (L : Addr) (m : Str → Option Value) (s : Shared) (Q : Option Value → Shared → Prop),
    Below A₀ base outer h₀ → Fr h₀ L s.heap m → (K w.params).In h₀ → News h₀ L s.heap (f.led i) → Top p loose mean mg mb h₀ → cs.kind = .function →
     dp + 35 < recursionLimit → un + 300 < cLine →
     (∀ (h' : Heap) (tk' : Nat) (t' : Tok), Fr h₀ L h' m → News h₀ L h' (f.led (i + hid.length + 1)) → Q (some (.str y t')) { s with heap := h', toks := tk' }) →
     wpAny (model (OpenLaw.prog RR) w) (ktrTop dp un gd cn cs L a ccd cl outer) (pyNext (.ref f.ff)) Q (fun _ _ => False) s := by
  k_fill
  intro w p loose mean mg mb f hid y tl i ok hws hhid hy dp un gd cn cs a ccd cl outer A₀ base h₀ L m s Q B F X N T hk hd hu hret
  obtain ⟨it, ff, d, x, l, k, vs, hs, c, c2, ws, ns, rest⟩ := f
  dsimp only [FF.led] at *
  refine' owit_next ?F ?X ?I ?hs ?hf ?_
  case F => k_asm
  case X => k_asm
  case I => k_inst
  case hs => k_is
  case hf => k_is
  refine wpAny_call ?_
  k_dflt cell_enter
  iterate 8 (first | (k_unfold; (try dsimp only)) | (k_end; wrow_close) | walk1 | (dsimp only; walk1) | (leave1; walk_say "STEP leave1"; try dsimp only) | skip)
  k_here
  (with_reducible show wpAny _ _ (exec (Stmt.While _ _ _ _) _) _ _ _)
  refine whl_start 0 ?_
  (rename Fr _ _ _ _ => F9)
  (rename News _ _ _ _ => N9)
  refine' whl_any (ff_to w p loose mean mg mb ⟨it, ff, d, x, l, k, vs, hs, c, c2, ws, ns, rest⟩ ok _ _ _ _ _ _ _ _ _ ?lpb ?lpx ?lpt ?lpd ?lpu y tl hy hid i _ hws hhid ?lpa ?lpz)
  (case lpb => k_asm)
  (case lpx => first | assumption | k_asm)
  (case lpt => k_asm)
  (case lpd => k_room)
  (case lpu => ktr_units)
  case lpa => (refine ⟨none, fr_eq F9 (funext fun z => ?_), N9⟩; by_cases y1 : z = ("item" : Str); (subst y1; rfl); by_cases y2 : z = ("func" : Str); (subst y2; rfl); by_cases y3 : z = ("self" : Str); (subst y3; rfl); (refine Eq.trans (Eq.trans (if_neg y2) (lookup_one y3)) ?_; simp only [mF, y1, y2, y3, if_false]))
  intro h' tk' t' a'
  obtain ⟨nc9, F9, N9⟩ := a'
  (try dsimp only)
  (try k_sweep)
  k_steps
  all_goals exact hret _ _ _ (by assumption) (by assumption)
set_option maxRecDepth 100000 in
set_option maxHeartbeats 0 in
theorem nextFB : ∀ (w : World) (p : Program) (loose : List Str) (mean : ExcName → Option Value) (mg mb : Str → Option Value) (f : FF) (hid : List Str) (i : Nat),
   f.Ok → f.ws.drop i = hid → (∀ z ∈ hid, f.ns.any (· == z) = true) →
   ∀ (dp un : Nat) (gd : Option (List Code)) (cn : Str) (cs : Scope) (a : Addr) (ccd : Value) (outer : List Env) (A₀ : Around) (base h₀ : Heap) (L : Addr) (m : Str → Option Value) (s : Shared) (Q : Option Value → Shared → Prop),
    Below A₀ base outer h₀ → Fr h₀ L s.heap m → (K w.params).In h₀ → News h₀ L s.heap (f.led i) → Top p loose mean mg mb h₀ → (K w.params).In base → Top p loose mean mg mb base → KtsDicts (outer.filterMap (·.frame)) h₀ → cs.kind = .function →
     dp + 35 < recursionLimit → un + 300 < cLine →
     (∀ (g' h' : Heap) (tk' : Nat), KtsTurn (outer.filterMap (·.frame)) h₀ g' → Below A₀ base outer g' → (K w.params).In g' → Top p loose mean mg mb g' → KtsDicts (outer.filterMap (·.frame)) g' → Fr g' L h' m →
        News g' L h' ((f.ff, ffObj f.d f.x f.it) :: (f.d, dictOf [] 0) :: (f.x, wobj f.k) :: (f.l, listO f.vs.toArray f.c) :: (f.k, listO f.hs.toArray f.c2) :: f.rest) → Q none { s with heap := h', toks := tk' }) →
     wpAny (model (OpenLaw.prog RR) w) (ktrTop dp un gd cn cs L a ccd [] outer) (pyNext (.ref f.ff)) Q (fun _ _ => False) s := by
  k_fill
  intro w p loose mean mg mb f hid i ok hws hhid dp un gd cn cs a ccd outer A₀ base h₀ L m s Q B F X N T XB TB D hk hd hu hret
  obtain ⟨it, ff, d, x, l, k, vs, hs, c, c2, ws, ns, rest⟩ := f
  dsimp only [FF.led] at *
  refine' owit_next ?F ?X ?I ?hs ?hf ?_
  case F => k_asm
  case X => k_asm
  case I => k_inst
  case hs => k_is
  case hf => k_is
  refine wpAny_call ?_
  k_dflt cell_enter
  iterate 8 (first | (k_unfold; (try dsimp only)) | (k_end; wrow_close) | walk1 | (dsimp only; walk1) | (leave1; walk_say "STEP leave1"; try dsimp only) | skip)
  k_here
  (with_reducible show wpAny _ _ (exec (Stmt.While _ _ _ _) _) _ _ _)
  refine whl_start 0 ?_
  (rename Fr _ _ _ _ => F9)
  (rename News _ _ _ _ => N9)
  refine' ff_out w p loose mean mg mb ⟨it, ff, d, x, l, k, vs, hs, c, c2, ws, ns, rest⟩ ok _ _ _ _ _ _ _ _ _ _ _ _ _ ?lpb ?lpx ?lpt ?lpd ?lpu ?lpE ?lpS hid i _ _ hws hhid ?lpa
  (case lpb => k_asm)
  (case lpx => first | assumption | k_asm)
  (case lpt => k_asm)
  (case lpd => k_room)
  (case lpu => ktr_units)
  (case lpE => passes_own)
  case lpa => (refine ⟨none, fr_eq F9 (funext fun z => ?_), N9⟩; by_cases y1 : z = ("item" : Str); (subst y1; rfl); by_cases y2 : z = ("func" : Str); (subst y2; rfl); by_cases y3 : z = ("self" : Str); (subst y3; rfl); (refine Eq.trans (Eq.trans (if_neg y2) (lookup_one y3)) ?_; simp only [mF, y1, y2, y3, if_false]))
  case lpS =>
    intro h1 h' e tk' nc F8 N8 M8
    clear F9 N9
    (try dsimp only)
    (try k_sweep)
    k_steps
    all_goals (rename RaisedS _ _ _ _ _ _ _ _ _ => rs9; rename Heap.UpToSlots _ _ => up9; refine' owit_stopS rs9 ?oF ?oB ?oU ?oXB ?oTB ?oD ?oS ?oK; (case oF => assumption); (case oB => assumption); (case oU => assumption); (case oXB => assumption); (case oTB => assumption); (case oD => assumption); (case oS => (rw [isSubtype_type]; kernel_rfl)))
    all_goals intro g9 T9 F9 N9 B9 X9 P9 D9
    all_goals exact hret _ _ _ T9 B9 X9 P9 D9 F9 N9
end Mine
end
section
open PySem PySem.W PySem.Calls PySem.Spec PyProof.Rows
namespace Mine
theorem kw_C2_1 : True := by
  k_with_none
  k_with "execs cons" => (first | (k_here; k_gentoks) | (refine' execs_one ?_) | (refine' execs_let ?_; intro Cq9))
  k_with "ite" => (first | (k_closed; first | refine ite_pos (by decide +kernel) ?_ | refine ite_neg (by decide +kernel) ?_) | refine ite_pos (by with_reducible assumption) ?_ | refine ite_neg (by with_reducible assumption) ?_ | refine ite_isFalse (by with_reducible assumption) ?_)
  trivial
noncomputable def vis (ns : List Str) (z : Str) : Bool := !(ns.any (· == z))
theorem filt_split {p : Str → Bool} {y : Str} {r : List Str} : ∀ {l : List Str}, l.filter p = y :: r → ∃ hid tl, l = hid ++ y :: tl ∧ (∀ z ∈ hid, p z = false) ∧ p y = true ∧ tl.filter p = r
  | [], h => by simp at h
  | z :: l, h => by
    by_cases hz : p z = true
    · rw [List.filter_cons_of_pos hz] at h
      obtain ⟨rfl, rfl⟩ := List.cons.inj h
      exact ⟨[], l, rfl, (fun _ h => nomatch h), hz, rfl⟩
    · rw [List.filter_cons_of_neg hz] at h
      obtain ⟨hid, tl, rfl, h1, h2, h3⟩ := filt_split h
      refine ⟨z :: hid, tl, rfl, fun q hq => ?_, h2, h3⟩
      rcases List.mem_cons.mp hq with rfl | hq
      · simpa using hz
      · exact h1 q hq
theorem filt_nil {p : Str → Bool} {l : List Str} (h : l.filter p = []) : ∀ z ∈ l, p z = false := fun z hz => by
  have := List.filter_eq_nil_iff.mp h z hz
  simpa using this
theorem vis_f {ns : List Str} {z : Str} (h : vis ns z = false) : ns.any (· == z) = true := by unfold vis at h; simpa using h
theorem vis_t {ns : List Str} {z : Str} (h : vis ns z = true) : ns.any (· == z) = false := by unfold vis at h; simpa using h
set_option maxRecDepth 100000 in
set_option maxHeartbeats 0 in
theorem iterF : ∀ (w : World) (p : Program) (loose : List Str) (mean : ExcName → Option Value) (mg mb : Str → Option Value) (lex : Addr) (led : List (Addr × Obj)),
   ∀ (dp un : Nat) (gd : Option (List Code)) (cn : Str) (cs : Scope) (a : Addr) (ccd : Value) (cl : List (Str × Addr)) (outer : List Env) (A₀ : Around) (base h₀ : Heap) (L : Addr) (m : Str → Option Value) (s : Shared) (Q : Value → Shared → Prop),
    Below A₀ base outer h₀ → Fr h₀ L s.heap m → (K w.params).In h₀ → News h₀ L s.heap led → Top p loose mean mg mb h₀ → cs.kind = .function →
     dp + 5 < recursionLimit → un + 50 < cLine →
     (∀ (h' : Heap) (tk' : Nat), Fr h₀ L h' m → News h₀ L h' led → Q (.ref lex) { s with heap := h', toks := tk' }) →
     wpAny (model (OpenLaw.prog RR) w) (ktrTop dp un gd cn cs L a ccd cl outer) (call (.ref 66) [.ref lex]) Q (fun _ _ => False) s := by
  k_fill
  intro w p loose mean mg mb lex led dp un gd cn cs a ccd cl outer A₀ base h₀ L m s Q B F X N T hk hd hu hret
  refine wpAny_call ?_
  k_dflt cell_enter
  k_steps
  all_goals exact hret _ _ (by assumption) (by assumption)
noncomputable abbrev FF.tail (f : FF) : List (Addr × Obj) := (f.ff, ffObj f.d f.x f.it) :: (f.d, dictOf [] 0) :: (f.x, wobj f.k) :: (f.l, listO f.vs.toArray f.c) :: (f.k, listO f.hs.toArray f.c2) :: f.rest
noncomputable def FF.more (f : FF) (q : Addr × Obj) : FF := { f with rest := q :: f.rest }
theorem FF.more_ok {f : FF} (ok : f.Ok) {q : Addr × Obj} (h : q.1 ≠ f.it) : (f.more q).Ok := by
  refine ⟨ok.hvs, ok.hhs, fun r hr => ?_⟩
  have ne := ok.ne
  rcases List.mem_cons.mp hr with rfl | hr
  · exact ne (f.ff, _) (.head _)
  rcases List.mem_cons.mp hr with rfl | hr
  · exact ne (f.d, _) (.tail _ (.head _))
  rcases List.mem_cons.mp hr with rfl | hr
  · exact ne (f.x, _) (.tail _ (.tail _ (.head _)))
  rcases List.mem_cons.mp hr with rfl | hr
  · exact ne (f.l, _) (.tail _ (.tail _ (.tail _ (.head _))))
  rcases List.mem_cons.mp hr with rfl | hr
  · exact ne (f.k, _) (.tail _ (.tail _ (.tail _ (.tail _ (.head _)))))
  rcases List.mem_cons.mp hr with rfl | hr
  · exact h
  · exact ne r (.tail _ (.tail _ (.tail _ (.tail _ (.tail _ hr)))))
theorem led_in {f : FF} {q : Addr × Obj} {i : Nat} : ∀ r ∈ (f.more q).led i, r ∈ q :: f.led i := fun _ h => mv_in (mv_in (mv_in (mv_in (mv_in (mv_in id))))) h
theorem led_of {f : FF} {q : Addr × Obj} {i : Nat} : ∀ r ∈ q :: f.led i, r ∈ (f.more q).led i := fun _ h => mv_of (mv_of (mv_of (mv_of (mv_of (mv_of id))))) h
inductive FJ (w : World) (f : FF) (h₀ : Heap) (L : Addr) (m : Str → Option Value) (S : Addr) (s0 : Shared) (n : Nat) (s' : Shared) : Prop
  | mk (h : Heap) (tk : Nat) (done : List Str) (i : Nat) (us : List Value) (c : Nat) (e : s' = { s0 with heap := h, toks := tk }) (h1 : done ++ (f.ws.drop i).filter (vis f.ns) = f.ws.filter (vis f.ns)) (h2 : ((f.ws.drop i).filter (vis f.ns)).length = n) (h3 : StrsAre us done) (F : Fr h₀ L h m) (N : News h₀ L h ((f.more (S, listO us.toArray c)).led i))
set_option maxRecDepth 100000 in
set_option maxHeartbeats 0 in
theorem fflist : ∀ (w : World) (p : Program) (loose : List Str) (mean : ExcName → Option Value) (mg mb : Str → Option Value) (f : FF),
   f.Ok → f.ws.length ≤ 1000 →
   ∀ (dp un : Nat) (gd : Option (List Code)) (cn : Str) (cs : Scope) (a : Addr) (ccd : Value) (outer : List Env) (A₀ : Around) (base h₀ : Heap) (L : Addr) (m : Str → Option Value) (s : Shared) (Q : Value → Shared → Prop),
    Below A₀ base outer h₀ → Fr h₀ L s.heap m → (K w.params).In h₀ → News h₀ L s.heap (f.led 0) → Top p loose mean mg mb h₀ →
     (K w.params).In base → Top p loose mean mg mb base → KtsDicts (outer.filterMap (·.frame)) h₀ → cs.kind = .function →
     dp + 35 < recursionLimit → un + 310 < cLine →
     (∀ (g' h' : Heap) (tk' : Nat) (S : Addr) (us : List Value) (c : Nat), KtsTurn (outer.filterMap (·.frame)) h₀ g' → Below A₀ base outer g' → (K w.params).In g' → Top p loose mean mg mb g' → KtsDicts (outer.filterMap (·.frame)) g' → Fr g' L h' m →
        News g' L h' ((S, listO us.toArray c) :: f.tail) → StrsAre us (f.ws.filter (vis f.ns)) → Q (.ref S) { s with heap := h', toks := tk' }) →
     wpAny (model (OpenLaw.prog RR) w) (ktrTop dp un gd cn cs L a ccd [] outer) (call (.type "list") [.ref f.ff]) Q (fun _ _ => False) s := by
  k_fill
  intro w p loose mean mg mb f ok hlen dp un gd cn cs a ccd outer A₀ base h₀ L m s Q B F X N T XB TB D hk hd hu hret
  have hLs := F.ns.lt
  have hSL : s.heap.objs.size ≠ L := Nat.ne_of_gt hLs
  have hS0 : h₀.get? s.heap.objs.size = none := Heap.get?_none_of_le (Nat.le_trans F.above (Nat.le_of_lt hLs))
  have hlt : ∀ q ∈ f.led 0, q.1 ≠ s.heap.objs.size := fun q hq => Nat.ne_of_lt (Heap.lt_size (N q hq).1)
  have hlt' : ∀ i, ∀ q ∈ f.led i, q.1 ≠ s.heap.objs.size := fun i q hq => by
    rcases List.mem_cons.mp hq with rfl | hq
    · exact hlt (f.it, itObj f.l 0) (.head _)
    · exact hlt q (.tail _ hq)
  have In : InstAt s.heap f.ff (ffObj f.d f.x f.it) 77 (some (dictOf [] 0)) := ⟨(N _ (.tail _ (.head _))).1, rfl, rfl, (N _ (.tail _ (.tail _ (.head _)))).1⟩
  refine' list_own (f := 66) (nx := .ref 73) (R := EndR w p loose mean mg mb outer A₀ base h₀ L m s.heap.objs.size f.tail (f.ws.filter (vis f.ns)) s)
    (FJ w f h₀ L m s.heap.objs.size s) (f.ws.filter (vis f.ns)).length F X In ?ohs ?ohf ?ohl ?ohn ?ohh ?ohi ?oturn ?ohq
  case ohs => k_is
  case ohf => k_is
  case ohl => k_is
  case ohn => k_is
  case ohh => k_is
  case ohi =>
    intro h' kp hS
    obtain ⟨c, hS⟩ := hS
    have F2 := F.keeps kp
    have N2 := news_cons (N.grown kp) hS hSL hS0
    refine iterF w p loose mean mg mb f.ff _ dp (un + 2) gd cn cs a ccd [] outer A₀ base h₀ L m _ _ B F2 X N2 T hk (by omega) (by omega) fun h3 tk3 F3 N3 => ?_
    refine ⟨rfl, F3, ⟨(N3 _ (.tail _ (.tail _ (.head _)))).1, rfl, rfl, (N3 _ (.tail _ (.tail _ (.tail _ (.head _))))).1⟩, ⟨c, (N3 _ (.head _)).1⟩, ?_⟩
    intro h4 k4 hS4
    obtain ⟨c4, hS4⟩ := hS4
    refine ⟨h4, tk3, [], 0, [], c4, rfl, rfl, rfl, .nil, fr_but F3 hS0 hSL k4, ?_⟩
    have N4 := news_cons (news_but (news_sub N3 fun q hq => List.mem_cons_of_mem _ hq) hlt k4) hS4 hSL hS0
    exact news_sub N4 led_in
  case oturn =>
    rintro n s' ⟨h, tk, done, i, us, c, rfl, hdr, hn, hus, F1, N1⟩
    have hSit : s.heap.objs.size ≠ f.it := fun e => hlt _ (.head _) e.symm
    have okS : (f.more (s.heap.objs.size, listO us.toArray c)).Ok := FF.more_ok ok hSit
    have hl1 : us.length ≤ 1000 := by
      have h1 := strsAre_len hus
      have h2 := congrArg List.length hdr
      have h3 := List.length_filter_le (vis f.ns) f.ws
      rw [List.length_append] at h2
      omega
    cases hrem : (f.ws.drop i).filter (vis f.ns) with
    | nil =>
      rw [hrem, List.append_nil] at hdr
      subst hdr
      exact nextFB w p loose mean mg mb (f.more (s.heap.objs.size, listO us.toArray c)) (f.ws.drop i) i okS rfl (fun z hz => vis_f (filt_nil hrem z hz))
        dp (un + 2) gd cn cs a ccd outer A₀ base h₀ L m _ _ B F1 X N1 T XB TB D hk (by omega) (by omega)
        fun g' h' tk' T9 B9 X9 P9 D9 F9 N9 => ⟨g', h', tk', us, c, rfl, T9, B9, X9, P9, D9, F9, news_sub N9 (fun q hq => mv_of (mv_of (mv_of (mv_of (mv_of id)))) hq), hus⟩
    | cons y r =>
      obtain ⟨hid, tl, hspl, hhid, hy, htl⟩ := filt_split hrem
      exact nextFA w p loose mean mg mb (f.more (s.heap.objs.size, listO us.toArray c)) hid y tl i okS hspl (fun z hz => vis_f (hhid z hz)) (vis_t hy)
        dp (un + 2) gd cn cs a ccd [] outer A₀ base h₀ L m _ _ B F1 X N1 T hk (by omega) (by omega)
        fun h' tk' t' F9 N9 => by
          have N8 := news_sub N9 led_of
          have hS9 : h'.get? s.heap.objs.size = some (listO us.toArray c) := (N8 _ (.head _)).1
          have hd2 : f.ws.drop (i + hid.length + 1) = tl := by
            have e1 := congrArg (List.drop (hid.length + 1)) hspl
            rw [List.drop_drop] at e1
            have e2 : (hid ++ y :: tl).drop (hid.length + 1) = tl := by
              rw [← List.drop_drop, List.drop_left]; rfl
            rw [e2] at e1
            rw [← e1]; congr 1
          refine ⟨us.toArray, c, hS9, by simp; omega, r.length, by rw [← hn, hrem]; exact Nat.lt_succ_self _, ?_⟩
          have k9 : ∀ b o, b ≠ s.heap.objs.size → h'.get? b = some o → (listUps h' s.heap.objs.size (.str y t')).get? b = some o := fun b o hb e => (Heap.get?_update_other _ _ (Ne.symm hb)).trans e
          have hSu := Heap.get?_update_self (Obj.mapSeq (·.push (.str y t'))) hS9 rfl
          obtain ⟨c', hSu'⟩ : ∃ c', (listUps h' s.heap.objs.size (.str y t')).get? s.heap.objs.size = some (listO (us ++ [Value.str y t']).toArray c') := ⟨_, hSu.trans (by rw [← List.push_toArray]; rfl)⟩
          refine ⟨listUps h' s.heap.objs.size (.str y t'), tk', done ++ [y], i + hid.length + 1, us ++ [.str y t'], c', rfl, ?_, ?_, strsAre_snoc hus _ _, fr_but F9 hS0 hSL k9, ?_⟩
          · rw [hd2, htl, ← hdr, hrem]; simp
          · rw [hd2, htl]
          · exact news_sub (news_cons (news_but (news_sub N8 fun q hq => List.mem_cons_of_mem _ hq) (hlt' _) k9) hSu' hSL hS0) led_in
  case ohq =>
    rintro s' ⟨g', h', tk', us, c, rfl, h1, h2, h3, h4, h5, h6, h7, h8⟩
    exact hret g' h' tk' _ us c h1 h2 h3 h4 h5 h6 h7 h8
end Mine
end
section
open PySem PySem.W PySem.Calls PySem.Spec PyProof.Rows
namespace Mine
theorem kw_X8_1 : True := by
  k_with_none
  k_with "execs cons" => (first | (k_here; k_gentoks) | (refine' execs_one ?_) | (refine' execs_let ?_; intro Cq9))
  k_with "ite" => (first | (k_closed; first | refine ite_pos (by decide +kernel) ?_ | refine ite_neg (by decide +kernel) ?_) | refine ite_pos (by with_reducible assumption) ?_ | refine ite_neg (by with_reducible assumption) ?_ | refine ite_isFalse (by with_reducible assumption) ?_)
  k_with "zz k_all" => first | assumption | exact List.forall_mem_nil _ | (refine' List.forall_mem_cons.mpr ⟨?aq9, ?bq9⟩; (case aq9 => k_ne); (case bq9 => k_all)) | ((with_reducible rename _ ∧ _ ∧ AllLt _ _ => hq9q9); exact ne_of_allLt hq9q9.2.2 (by omega))
  k_with "getAttr ref" => (k_here; k_dflt (show wpAny _ _ (getAttr (Value.ref _) (Str.ofString "__contains__") true) _ _ _); k_dflt (refine' get_contains ?k1q9 ?k2q9 ?k3q9 ?_; (case k1q9 => k_asm); (case k2q9 => k_asm); (case k3q9 => k_mem); k_whole); intro x'q9 h'q9 tk'q9 F'q9 N'q9 l1q9; (try dsimp only); (try k_lt l1q9); (try k_sweep); walk_say "GETC")
  k_with "call builtin:iter" => (k_here; k_dflt (refine' call_iter ?k1q9 ?k2q9 ?k3q9 ?_; (case k1q9 => k_asm); (case k2q9 => k_asm); (case k3q9 => k_mem); k_whole); intro I'q9 h'q9 F'q9 N'q9 l1q9; (try dsimp only); (try k_lt l1q9); (try k_sweep); walk_say "ITER")
  trivial
set_option maxRecDepth 100000 in
set_option maxHeartbeats 0 in
theorem filterC : ∀ (w : World) (p : Program) (loose : List Str) (mean : ExcName → Option Value) (mg mb : Str → Option Value) (l k : Addr) (vs hs : List Value) (c c2 : Nat) (ws ns : List Str) (led : List (Addr × Obj)),
   StrsAre vs ws →
   StrsAre hs ns →
   ws.length ≤ 1000 →
   ∀ (dp un : Nat) (gd : Option (List Code)) (cn : Str) (cs : Scope) (a : Addr) (ccd : Value) (cl : List (Str × Addr)) (outer : List Env) (A₀ : Around) (base h₀ : Heap) (L : Addr) (m : Str → Option Value) (s : Shared) (Q : Value → Shared → Prop),
    Below A₀ base outer h₀ → Fr h₀ L s.heap m → (K w.params).In h₀ → News h₀ L s.heap ((l, listO vs.toArray c) :: (k, listO hs.toArray c2) :: led) → Top p loose mean mg mb h₀ →
     (K w.params).In base → Top p loose mean mg mb base → KtsDicts (outer.filterMap (·.frame)) h₀ → cs.kind = .function →
     dp + 40 < recursionLimit → un + 400 < cLine →
     (∀ (g' h' : Heap) (tk' : Nat) (S : Addr) (us : List Value) (c3 : Nat) (_ : StrsAre us (ws.filter (vis ns))), KtsTurn (outer.filterMap (·.frame)) h₀ g' → Below A₀ base outer g' → (K w.params).In g' → Top p loose mean mg mb g' → KtsDicts (outer.filterMap (·.frame)) g' → Fr g' L h' m → News g' L h' ((S, listO us.toArray c3) :: (l, listO vs.toArray c) :: (k, listO hs.toArray c2) :: led) → Q (.ref S) { s with heap := h', toks := tk' }) →
     wpAny (model (OpenLaw.prog RR) w) (ktrTop dp un gd cn cs L a ccd cl outer) (call (.ref 88) [.ref l, .ref k]) Q (fun _ _ => False) s := by
  k_fill
  intro w p loose mean mg mb l k vs hs c c2 ws ns led hvs hhs hlen dp un gd cn cs a ccd cl outer A₀ base h₀ L m s Q B F X N T XB TB D hk hd hu hret
  refine wpAny_call ?_
  k_dflt (refine' code_defT ?k1 ?k2 ?k3 ?k4 ?k5 ?XB ?TB ?D ?T0 ?kA ?kF ?kK ?k6 ?k7 ?k8 ?k9 ?kB ?_ ?c2 ?c3 ?c4 ?c5; (case kA => exact rfl); (case kF => exact rfl); (case kK => assumption); (case k3 => exact X); (case k2 => exact F); (case k1 => exact B); (case XB => exact XB); (case TB => exact TB); (case D => exact D); (case T0 => exact KtsTurn.refl); (case k4 => exact N); (case k5 => exact T); (case k6 => k_is); (case k7 => k_is); (case k8 => ktr_room); (case k9 => first | exact BindsTo.of_eq rfl | exact binds_K (X.keeps F.keep) rfl (by k_is) rfl rfl rfl); (case kB => exact locs rfl); (case c2 => exact rfl); (case c3 => exact rfl); (case c4 => exact rfl); (case c5 => decide); k_whole; intro g' L' h' FG' F' N' B' X' T' D'; (try dsimp only); (try k_lift B'); (try k_fold))
  k_steps
  rename News _ _ _ _ => N9
  rename _ ∧ _ ∧ _ ∧ _ ∧ _ ∧ AllLt _ led => hlt
  refine anyE ?_
  refine' fflist w p loose mean mg mb ⟨_, _, _, _, l, k, vs, hs, c, c2, ws, ns, led⟩ ?oOk hlen _ _ _ _ _ _ _ _ _ _ _ _ _ _ _ ?oB ?oF ?oX ?oN ?oT ?oXB ?oTB ?oD ?oC ?od ?ou ?oR
  case oN => exact N9
  case oB => assumption
  case oF => assumption
  case oX => assumption
  case oT => assumption
  case oXB => assumption
  case oTB => assumption
  case oD => assumption
  case oC => exact rfl
  case od => k_room
  case ou => ktr_units
  case oOk =>
    obtain ⟨a1, a2, a3, a4, a5, a6⟩ := hlt
    refine ⟨hvs, hhs, fun q hq => ?_⟩
    rcases List.mem_cons.mp hq with rfl | hq
    · exact Nat.ne_of_lt a1
    rcases List.mem_cons.mp hq with rfl | hq
    · exact Nat.ne_of_lt a2
    rcases List.mem_cons.mp hq with rfl | hq
    · exact Nat.ne_of_lt a3
    rcases List.mem_cons.mp hq with rfl | hq
    · exact Nat.ne_of_lt a4
    rcases List.mem_cons.mp hq with rfl | hq
    · exact Nat.ne_of_lt a5
    · exact Nat.ne_of_lt (allLt_mem a6 q hq)
  case oR =>
    intro g9 h9 tk9 S9 us9 c9 T9 B9 X9 P9 D9 F9 N7 V9
    (try dsimp only)
    clear N9
    k_steps
    all_goals (rename News _ _ _ _ => N6; exact hret _ _ _ _ _ _ V9 (by assumption) (by assumption) (by assumption) (by assumption) (by assumption) (by assumption) (news_sub N6 fun q hq => (List.mem_cons.mp hq).elim (fun e => e ▸ .head _) fun h => .tail _ (.tail _ (.tail _ (.tail _ h)))))
end Mine
end
section
open PySem PySem.W PySem.Calls PySem.Spec PyProof.Rows
set_option maxRecDepth 100000
namespace Mine
section
variable {prog : Program} {w : World} {A : Around} {E : Value → Shared → Prop} {s : Shared} {h₀ : Heap} {L : Addr} {m : Str → Option Value} {env : Env} {news : List (Addr × Obj)}
noncomputable def PtEnd (h₀ : Heap) (L : Addr) (m : Str → Option Value) (s : Shared) (led : List (Addr × Obj)) (s' : Shared) : Prop := ∃ h' tk', s' = { s with heap := h', toks := tk' } ∧ Fr h₀ L h' m ∧ News h₀ L h' led
inductive PtInv (h₀ : Heap) (L : Addr) (m : Str → Option Value) (J : Nat → List Value → Prop) (I C D l : Addr) (vs : List Value) (news : List (Addr × Obj)) (s : Shared) (n : Nat) (s' : Shared) : Prop
  | mk (i : Nat) (ys : List Value) (oI oC : Obj) (c' : Nat) (m' : Str → Option Value) (h : Heap) (tk : Nat) (e : s' = { s with heap := h, toks := tk }) (hn : n + i = vs.length) (hJ : J i ys) (hys : ys.length ≤ i) (h1 : oI.cls = .type "list_iterator") (h2 : oI.data = .fields #[.ref l, .int (i : Nat) 0]) (hC : LCg.NsObj oC m') (F : Fr h₀ L h m)
      (N : News h₀ L h ((I, oI) :: (C, oC) :: (D, listO ys.toArray c') :: news))
theorem comp_pt {elt iter ct : PySem.Expr} {x x₂ : Str} {px px₂ tp : Pos} {tk0 : Nat} {scope : Scope} {cl : List (Str × Addr)} {pos : Pos} {Q : Value → Shared → Prop} {l : Addr} {vs : List Value} {c : Nat}
    (J : Nat → List Value → Prop) (hh : A.handled = none) (F : Fr h₀ L s.heap m) (N : News h₀ L s.heap news) (hl : (l, listO vs.toArray c) ∈ news) (hlen : vs.length ≤ 100000)
    (hp : ∀ v ∈ vs, ∃ a v₁ v₂ k, v = .ref a ∧ (a, listO #[v₁, v₂] k) ∈ news) (j0 : J 0 [])
    (hclos : closureFor scope env = pure cl) (hcell : ∀ y ∈ scope.names, y.2 ≠ .cell) (hkind : scope.kind = .function) (hnames : ∀ y ∈ scope.names, y.2 = .local → scope.names.lookup y.1 = some .local)
    (hx : scope.names.lookup x = some .local) (hx₂ : scope.names.lookup x₂ = some .local) (hxx : x ≠ x₂) (hs : ∀ x, foldedSetIterable iter env x = pure x)
    (hit : wpAny (model prog w) A (eval iter env) (fun xv s₁ => xv = .ref l ∧ s₁ = s) E s)
    (turn : ∀ i a v₁ v₂ k ys I oI C oC D oD m₂, vs[i]? = some (.ref a) → (a, listO #[v₁, v₂] k) ∈ news → J i ys → LCg.NsObj oC m₂ → m₂ x = some v₁ → m₂ x₂ = some v₂ →
      ∃ (b : Bool) (y : Value), J (i + 1) (if b then ys ++ [y] else ys) ∧
        (∀ h tk, Fr h₀ L h m → News h₀ L h ((I, oI) :: (C, oC) :: (D, oD) :: news) → wpAny (model prog w) A (isTrue ct (compEnvC scope cl C env) (eval ct (compEnvC scope cl C env))) (fun ok s' => ok = b ∧ PtEnd h₀ L m s ((I, oI) :: (C, oC) :: (D, oD) :: news) s') (fun _ _ => False) { s with heap := h, toks := tk }) ∧
        (b = true → ∀ h tk, Fr h₀ L h m → News h₀ L h ((I, oI) :: (C, oC) :: (D, oD) :: news) → wpAny (model prog w) A (eval elt (compEnvC scope cl C env)) (fun v s' => v = y ∧ PtEnd h₀ L m s ((I, oI) :: (C, oC) :: (D, oD) :: news) s') (fun _ _ => False) { s with heap := h, toks := tk }))
    (fin : ∀ D ys c' h tk, J vs.length ys → ys.length ≤ vs.length → Fr h₀ L h m → News h₀ L h ((D, listO ys.toArray c') :: news) → (∀ q ∈ news, q.1 < D) → Q (.ref D) { s with heap := h, toks := tk }) :
    wpAny (model prog w) A (eval (.ListComp elt [⟨.Tuple [.Name x px, .Name x₂ px₂] tk0 tp, iter, [ct], 0⟩] scope pos) env) Q E s := by
  rw [eval_ListComp]
  refine wpAny_comprehension_free (use := none) rfl hs hclos hkind hnames (wpAny_mono hit (fun xv s₁ h₁ => ?_) fun _ _ e => e)
  obtain ⟨rfl, rfl⟩ := h₁
  have hls : s₁.heap.IsList l vs.toArray := ⟨_, (N _ hl).1, rfl, _, rfl⟩
  refine wpAny_pyIter_list hls ?_
  have nI : News h₀ L (s₁.heap.push { cls := .type "list_iterator", data := .fields #[.ref l, .int 0 0] }) ((s₁.heap.objs.size, itObj l 0) :: news) := N.push F _
  have FI := F.push { cls := .type "list_iterator", data := .fields #[.ref l, .int 0 0] }
  have ltI : ∀ q ∈ news, q.1 < s₁.heap.objs.size := fun q hq => Heap.lt_size (N q hq).1
  have hIs : (s₁.heap.push { cls := .type "list_iterator", data := .fields #[.ref l, .int 0 0] }).objs.size = s₁.heap.objs.size + 1 := Heap.size_push ..
  generalize hH1 : s₁.heap.push { cls := .type "list_iterator", data := .fields #[.ref l, .int 0 0] } = H1 at nI FI hIs ⊢
  refine wpAny_newObj_type (s := { s₁ with heap := H1 }) ?_
  dsimp only
  have nD : News h₀ L (H1.push (listO #[] 0)) ((H1.objs.size, listO #[] 0) :: (s₁.heap.objs.size, itObj l 0) :: news) := nI.push FI _
  have FD := FI.push (listO #[] 0)
  have hDs : (H1.push (listO #[] 0)).objs.size = H1.objs.size + 1 := Heap.size_push ..
  show wpAny _ _ _ _ _ { s₁ with heap := H1.push (listO #[] 0) }
  generalize hH2 : H1.push (listO #[] 0) = H2 at nD FD hDs ⊢
  refine wpAny_newFunctionEnv hcell (by intro y hy; simp at hy) (fun h₁ hns₁ hsb₁ => ?_) hkind
  dsimp only at hns₁ hsb₁ ⊢
  have hI : s₁.heap.objs.size < H2.objs.size := by rw [hDs, hIs]; omega
  have hD : H1.objs.size < H2.objs.size := by rw [hDs]; omega
  have hID : s₁.heap.objs.size < H1.objs.size := by rw [hIs]; omega
  have hLC : H2.objs.size ≠ L := Nat.ne_of_gt FD.ns.lt
  have hLD : H1.objs.size ≠ L := Nat.ne_of_gt FI.ns.lt
  have hLI : s₁.heap.objs.size ≠ L := Nat.ne_of_gt F.ns.lt
  have hC0 : h₀.get? H2.objs.size = none := Heap.get?_none_of_le (Nat.le_trans FD.above (Nat.le_of_lt FD.ns.lt))
  have hD0 : h₀.get? H1.objs.size = none := Heap.get?_none_of_le (Nat.le_trans FI.above (Nat.le_of_lt FI.ns.lt))
  have hI0 : h₀.get? s₁.heap.objs.size = none := Heap.get?_none_of_le (Nat.le_trans F.above (Nat.le_of_lt F.ns.lt))
  have old : ∀ b o, H2.get? b = some o → h₁.get? b = some o := fun b o e => hsb₁.extBut b o (Nat.ne_of_lt (Heap.lt_size e)) (Heap.get?_push_of_some _ e)
  obtain ⟨oC0, heC0, hoC0⟩ := LCg.ns_obj hns₁
  have N1 : News h₀ L h₁ ((s₁.heap.objs.size, itObj l 0) :: (H2.objs.size, oC0) :: (H1.objs.size, listO #[] 0) :: news) := fun q hq => by
    rcases List.mem_cons.mp hq with rfl | hq
    · exact ⟨old _ _ (nD _ (.tail _ (.head _))).1, hLI, hI0⟩
    rcases List.mem_cons.mp hq with rfl | hq
    · exact ⟨heC0, hLC, hC0⟩
    rcases List.mem_cons.mp hq with rfl | hq
    · exact ⟨old _ _ (nD _ (.head _)).1, hLD, hD0⟩
    · exact ⟨old _ _ (nD _ (.tail _ (.tail _ hq))).1, (N q hq).2⟩
  have F1 : Fr h₀ L h₁ m := FD.keeps old
  have neI : ∀ q ∈ news, q.1 ≠ s₁.heap.objs.size := fun q hq => Nat.ne_of_lt (ltI q hq)
  have neD : ∀ q ∈ news, q.1 ≠ H1.objs.size := fun q hq => Nat.ne_of_lt (Nat.lt_trans (ltI q hq) hID)
  have neC : ∀ q ∈ news, q.1 ≠ H2.objs.size := fun q hq => Nat.ne_of_lt (Nat.lt_trans (ltI q hq) hI)
  have ltD : ∀ q ∈ news, q.1 < H1.objs.size := fun q hq => Nat.lt_trans (ltI q hq) hID
  have niC : s₁.heap.objs.size ≠ H2.objs.size := Nat.ne_of_lt hI
  have ndC : H1.objs.size ≠ H2.objs.size := Nat.ne_of_lt hD
  have niD : s₁.heap.objs.size ≠ H1.objs.size := Nat.ne_of_lt hID
  clear nI nD FI FD hsb₁ hns₁ old hH1 hH2 hls
  generalize s₁.heap.objs.size = I at *
  generalize H1.objs.size = D at *
  generalize H2.objs.size = C at *
  clear hIs hDs
  have loop : ∀ tk, codeAny (model prog w) A (.compLoop (.ListComp elt [⟨.Tuple [.Name x px, .Name x₂ px₂] tk0 tp, iter, [ct], 0⟩] scope pos) 0 (.ref I) (.ref D) (compEnvC scope cl C env)) (compPost (model prog w) A E none Q (.ref D) C) { s₁ with heap := h₁, toks := tk } := by
    intro tk
    refine codeAny_loop rfl (PtInv h₀ L m J I C D l vs news s₁) (fun n s' hI' => ?_) vs.length ⟨0, [], _, _, _, _, _, _, rfl, by omega, j0, Nat.le_refl _, rfl, rfl, hoC0, F1, N1⟩
    obtain ⟨i, ys, oI, oC, c', m', h, tk, rfl, hn, hJ, hys, ho1, ho2, hoC, F2, N2⟩ := hI'
    show wpAny _ A ((compTurn (.ListComp elt [⟨.Tuple [.Name x px, .Name x₂ px₂] tk0 tp, iter, [ct], 0⟩] scope pos) 0 (.ref I) (.ref D) (compEnvC scope cl C env)).onRaise (fun x => do noteFrame x (compEnvC scope cl C env); theTreesLotGoes x)) _ _ _
    refine wpAny_noted ?_
    rw [compTurn_list]
    refine wpAny_bind (wpAny_standAt (wpAny_bind ?_))
    have hl2 : h.IsList l vs.toArray := ⟨_, (N2 _ (.tail _ (.tail _ (.tail _ hl)))).1, rfl, _, rfl⟩
    have hit2 : h.IsListIter I l i := ⟨oI, (N2 _ (.head _)).1, ho1, ho2⟩
    have nsC : h.Ns C m' := hoC.ns (N2 _ (.tail _ (.head _))).1
    cases n with
    | zero =>
      have hnone : vs.toArray[i]? = none := by simp; omega
      refine wpAny_pyNext_list_end hh hit2 hl2 hnone fun h' ext => wpAny_pure ?_
      have k : ∀ b o, I ≠ b → h.get? b = some o → h'.get? b = some o := fun b o hb e => ext b o (Ne.symm hb) e
      have N3 : News h₀ L h' ((C, oC) :: (D, listO ys.toArray c') :: news) := news_one (fun q hq => N2 q (.tail _ hq)) (fun q hq => by
        rcases List.mem_cons.mp hq with rfl | hq
        · exact Ne.symm niC
        rcases List.mem_cons.mp hq with rfl | hq
        · exact Ne.symm niD
        · exact neI q hq) k
      have F3 := fr_one F2 hI0 hLI k
      refine ⟨m', hoC.ns (N3 _ (.head _)).1, fun h'' hs'' => ?_⟩
      have e : i = vs.length := by omega
      subst e
      exact fin D ys c' h'' tk hJ hys (F3.change hs'' hLC hC0) (fun q hq => ⟨hs''.extBut _ _ (by
        rcases List.mem_cons.mp hq with rfl | hq
        · exact ndC
        · exact neC q hq) (N3 q (.tail _ hq)).1, (N3 q (.tail _ hq)).2⟩) ltD
    | succ n =>
      have hlt : i < vs.length := by omega
      have hx' : vs.toArray[i]? = some vs[i] := by simp [hlt]
      have hv' : vs[i]? = some vs[i] := by simp [hlt]
      obtain ⟨a, v₁, v₂, kk, hva, hma⟩ := hp vs[i] (List.getElem_mem hlt)
      refine wpAny_pyNext_list_item hit2 hl2 hx' fun h3 hit3 same => ?_
      have k : ∀ b o, I ≠ b → h.get? b = some o → h3.get? b = some o := fun b o hb e => (same.2 b (Ne.symm hb)).trans e
      obtain ⟨oI', hoI', hI1, hI2⟩ := id hit3
      have N3 : News h₀ L h3 ((I, oI') :: (C, oC) :: (D, listO ys.toArray c') :: news) := fun q hq => by
        rcases List.mem_cons.mp hq with rfl | hq
        · exact ⟨hoI', (N2 _ (.head _)).2⟩
        · refine ⟨k _ _ ?_ (N2 q (.tail _ hq)).1, (N2 q (.tail _ hq)).2⟩
          rcases List.mem_cons.mp hq with rfl | hq
          · exact niC
          rcases List.mem_cons.mp hq with rfl | hq
          · exact niD
          · exact Ne.symm (neI q hq)
      have F3 := fr_one F2 hI0 hLI k
      rw [hva]
      refine wpAny_bind (wpAny_letOwnedTupleGo_listiter hit3 ?_)
      have hlp : h3.IsList a #[v₁, v₂] := ⟨_, (N3 _ (.tail _ (.tail _ (.tail _ hma)))).1, rfl, _, rfl⟩
      refine wpAny_bind (kun_list F3 N3 hlp hh rfl rfl fun h4 F4 N4 => ?_)
      show wpAny _ _ (assignInOrder [assign (.Name x px) (compEnvC scope cl C env), assign (.Name x₂ px₂) (compEnvC scope cl C env)] [v₁, v₂]) _ _ _
      have side : ((compEnvC scope cl C env).scope.kind == .class || ((compEnvC scope cl C env).scope.kind == .module && (compEnvC scope cl C env).locals != (compEnvC scope cl C env).globals)) = false := by simp [compEnvC, relabel, hkind]
      refine assignInOrder_cons (wpAny_assign_Name (wpAny_storeName_local (lookup_relabel_local hx) (hoC.ns (N4 _ (.tail _ (.head _))).1) (fun h6 hn6 hs6 => ?_) side))
      refine assignInOrder_cons (wpAny_assign_Name (wpAny_storeName_local (lookup_relabel_local hx₂) hn6 (fun h7 hn7 hs7 => ?_) side))
      refine assignInOrder_nil ?_
      have k7 : ∀ b o, b ≠ C → h4.get? b = some o → h7.get? b = some o := fun b o hb e => hs7.extBut b o hb (hs6.extBut b o hb e)
      obtain ⟨oC', heC', hoC'⟩ := LCg.ns_obj hn7
      have F7 : Fr h₀ L h7 m := (F4.change hs6 hLC hC0).change hs7 hLC hC0
      have N7 : News h₀ L h7 ((I, oI') :: (C, oC') :: (D, listO ys.toArray c') :: news) := fun q hq => by
        rcases List.mem_cons.mp hq with rfl | hq
        · exact ⟨k7 _ _ niC (N4 _ (.head _)).1, (N4 _ (.head _)).2⟩
        rcases List.mem_cons.mp hq with rfl | hq
        · exact ⟨heC', hLC, hC0⟩
        rcases List.mem_cons.mp hq with rfl | hq
        · exact ⟨k7 _ _ ndC (N4 _ (.tail _ (.tail _ (.head _)))).1, (N4 _ (.tail _ (.tail _ (.head _)))).2⟩
        · exact ⟨k7 _ _ (neC q hq) (N4 _ (.tail _ (.tail _ (.tail _ hq)))).1, (N4 _ (.tail _ (.tail _ (.tail _ hq)))).2⟩
      obtain ⟨b, y, hJ', t1, t2⟩ := turn i a v₁ v₂ kk ys I oI' C oC' D (listO ys.toArray c') _ (hva ▸ hv') hma hJ hoC' (by simp [hxx]) (by simp)
      refine wpAny_bind (anyE (wpAny_mono (wpAny_tests_one (t1 h7 _ F7 N7)) (fun ok s3 h3 => ?_) fun _ _ e => e))
      obtain ⟨rfl, h8, tk8, rfl, F8, N8⟩ := h3
      cases ok with
      | false =>
        refine wpAny_pure ⟨rfl, n, Nat.lt_succ_self n, i + 1, ys, oI', oC', c', _, h8, tk8, rfl, by omega, hJ', by omega, hI1, hI2, hoC', F8, N8⟩
      | true =>
        refine wpAny_bind (wpAny_bind (anyE (wpAny_mono (t2 rfl h8 tk8 F8 N8) (fun v s4 h4 => ?_) fun _ _ e => e)))
        obtain ⟨rfl, h9, tk9, rfl, F9, N9⟩ := h4
        have N9' : News h₀ L h9 ((D, listO ys.toArray c') :: (I, oI') :: (C, oC') :: news) := news_sub N9 fun q hq => mv_of (mv_of id) hq
        refine wpAny_bind (app_list F9 N9' (fun q hq => by
          rcases List.mem_cons.mp hq with rfl | hq
          · exact niD
          rcases List.mem_cons.mp hq with rfl | hq
          · exact Ne.symm ndC
          · exact neD q hq) (by omega) fun h10 c10 F10 N10 => ?_)
        refine wpAny_pure (wpAny_pure ⟨rfl, n, Nat.lt_succ_self n, i + 1, ys ++ [v], oI', oC', c10, _, h10, _, rfl, by omega, hJ', by simp; omega, hI1, hI2, hoC', F10, news_sub N10 fun q hq => mv_in (mv_in id) hq⟩)
  have hit1 : h₁.IsListIter I l 0 := ⟨_, (N1 _ (.head _)).1, rfl, rfl⟩
  exact codeAny_compStart_list (loop _) (wpAny_pyIter_listiter hit1 (loop _))
end
end Mine
end
section
open PySem PySem.W PySem.Calls PySem.Spec PyProof.Rows
set_option maxRecDepth 100000
namespace Mine
noncomputable def leS (a b : Str) : Bool := !(decide (b.cps.toList < a.cps.toList))
noncomputable def sortF (l : List Str) : List Str := l.mergeSort leS
theorem str_ext {a b : Str} (h : a.cps.toList = b.cps.toList) : a = b := by
  cases a with | mk a => cases b with | mk b => exact congrArg Str.mk (Array.toList_inj.mp h)
theorem leS_trans (a b c : Str) : leS a b → leS b c → leS a c := by
  unfold leS
  simp only [Bool.not_eq_true', decide_eq_false_iff_not]
  intro h1 h2 h3
  exact h1 (by
    by_cases e : b.cps.toList < a.cps.toList
    · exact e
    · have h4 : a.cps.toList ≤ b.cps.toList := e
      have h5 : b.cps.toList ≤ c.cps.toList := h2
      exact absurd h3 (List.le_trans h4 h5))
theorem leS_total (a b : Str) : (leS a b || leS b a) = true := by
  unfold leS
  simp only [Bool.or_eq_true, Bool.not_eq_true', decide_eq_false_iff_not]
  rcases List.le_total a.cps.toList b.cps.toList with h | h
  · exact .inl h
  · exact .inr h
theorem leS_anti {a b : Str} (h1 : leS a b = true) (h2 : leS b a = true) : a = b := by
  unfold leS at h1 h2
  simp only [Bool.not_eq_true', decide_eq_false_iff_not] at h1 h2
  exact str_ext (List.le_antisymm h1 h2)
theorem sorted_unique : ∀ {l l' : List Str}, l.Perm l' → l.Pairwise (fun a b => leS a b = true) → l'.Pairwise (fun a b => leS a b = true) → l = l'
  | [], l', h, _, _ => (List.nil_perm.mp h).symm
  | a :: r, [], h, _, _ => absurd h (by simp)
  | a :: r, b :: r', h, h1, h2 => by
    have hab : a = b := by
      have ha : a ∈ b :: r' := h.mem_iff.mp (List.mem_cons_self ..)
      have hb : b ∈ a :: r := h.mem_iff.mpr (List.mem_cons_self ..)
      rcases List.mem_cons.mp ha with e | ha
      · exact e
      rcases List.mem_cons.mp hb with e | hb
      · exact e.symm
      exact leS_anti (List.rel_of_pairwise_cons h1 hb) (List.rel_of_pairwise_cons h2 ha)
    subst hab
    rw [sorted_unique h.cons_inv (List.pairwise_cons.mp h1).2 (List.pairwise_cons.mp h2).2]
theorem risingS_pw : ∀ {p : Str} {l : List Str}, risingS p l = true → (p :: l).Pairwise (fun a b => leS a b = true)
  | p, [], _ => List.pairwise_singleton ..
  | p, x :: r, h => by
    have h' : (!ltCps x.cps.toList p.cps.toList && risingS x r) = true := h
    rw [Bool.and_eq_true] at h'
    have h2 := risingS_pw h'.2
    have h1 : leS p x = true := by unfold leS; rw [← ltCps_eq]; exact h'.1
    refine List.pairwise_cons.mpr ⟨fun y hy => ?_, h2⟩
    rcases List.mem_cons.mp hy with rfl | hy
    · exact h1
    · exact leS_trans _ _ _ h1 (List.rel_of_pairwise_cons h2 hy)
theorem sortedS_pw : ∀ {l : List Str}, sortedS l = true → l.Pairwise (fun a b => leS a b = true)
  | [], _ => .nil
  | _ :: _, h => risingS_pw h
theorem sortF_pw (l : List Str) : (sortF l).Pairwise (fun a b => leS a b = true) := List.pairwise_mergeSort (fun a b c => leS_trans a b c) leS_total l
theorem sortF_eq {l l' : List Str} (hp : l'.Perm l) (hs : sortedS l' = true) : l' = sortF l :=
  sorted_unique (hp.trans (List.mergeSort_perm l leS).symm) (sortedS_pw hs) (sortF_pw l)
noncomputable abbrev slash : Str := Str.ofString "/"
noncomputable def kids (ps : List (Str × Str)) (here : Str) : List Str := (ps.filter fun p => p.1 == here).map (·.2)
noncomputable def under (here z : Str) : Str := if Txt.endswith here slash then here ++ z else here ++ (slash ++ z)
noncomputable def walkF (ps : List (Str × Str)) (hid : List Str) : Nat → Str → List Str
  | 0, _ => []
  | n + 1, here => (sortF ((kids ps here).filter (vis hid))).flatMap fun z => under here z :: walkF ps hid n (under here z)
noncomputable def WOk (ps : List (Str × Str)) (hid : List Str) : Nat → Str → Prop
  | 0, _ => False
  | n + 1, here => ((here.length : Int) != 0) = true ∧ here.length ≤ 10000 ∧ ((kids ps here).filter (vis hid)).length < 64 ∧ (walkF ps hid (n + 1) here).length ≤ 1000 ∧
      ∀ z ∈ (kids ps here).filter (vis hid), z.length ≤ 10000 ∧ Txt.startswith z slash = false ∧ WOk ps hid n (under here z)
noncomputable def PairsAre (led : List (Addr × Obj)) : List Value → List (Str × Str) → Prop
  | [], [] => True
  | v :: vs, p :: ps => (∃ a t u k, v = .ref a ∧ (a, listO #[.str p.1 t, .str p.2 u] k) ∈ led) ∧ PairsAre led vs ps
  | _, _ => False
theorem pairs_get {led : List (Addr × Obj)} : ∀ {vs : List Value} {ps : List (Str × Str)}, PairsAre led vs ps → ∀ {i : Nat} {v : Value}, vs[i]? = some v → ∃ p a t u k, ps[i]? = some p ∧ v = .ref a ∧ (a, listO #[.str p.1 t, .str p.2 u] k) ∈ led
  | [], [], _, i, v, h => by simp at h
  | v :: vs, p :: ps, h, i, v', hi => by
    cases i with
    | zero =>
      simp only [List.getElem?_cons_zero, Option.some.injEq] at hi
      subst hi
      obtain ⟨a, t, u, k, e, hm⟩ := h.1
      exact ⟨p, a, t, u, k, rfl, e, hm⟩
    | succ i => exact pairs_get h.2 (by simpa using hi)
  | [], _ :: _, h, _, _, _ => h.elim
  | _ :: _, [], h, _, _, _ => h.elim
theorem pairs_len {led : List (Addr × Obj)} : ∀ {vs : List Value} {ps : List (Str × Str)}, PairsAre led vs ps → vs.length = ps.length
  | [], [], _ => rfl
  | _ :: vs, _ :: ps, h => by simp [pairs_len h.2]
  | [], _ :: _, h => h.elim
  | _ :: _, [], h => h.elim
theorem pairs_more {led led' : List (Addr × Obj)} (k : ∀ q ∈ led, q ∈ led') : ∀ {vs : List Value} {ps : List (Str × Str)}, PairsAre led vs ps → PairsAre led' vs ps
  | [], [], _ => trivial
  | _ :: _, _ :: _, h => by
    obtain ⟨a, t, u, c, e, hm⟩ := h.1
    exact ⟨⟨a, t, u, c, e, k _ hm⟩, pairs_more k h.2⟩
  | [], _ :: _, h => h.elim
  | _ :: _, [], h => h.elim
end Mine
end
section
open PySem PySem.W PySem.Calls PySem.Spec PyProof.Rows
set_option maxRecDepth 100000
namespace Mine
theorem kids_snoc {ps : List (Str × Str)} {i : Nat} {q : Str × Str} {here : Str} (h : ps[i]? = some q) : kids (ps.take (i + 1)) here = if q.1 == here then kids (ps.take i) here ++ [q.2] else kids (ps.take i) here := by
  unfold kids
  rw [List.take_add_one, h]
  by_cases e : (q.1 == here) = true
  · simp [e]
  · simp [e]
section
variable {prog : Program} {w : World} {A : Around} {E : Value → Shared → Prop} {s : Shared} {h₀ : Heap} {L : Addr} {m : Str → Option Value} {env : Env} {news : List (Addr × Obj)}
theorem comp_kids {p1 px px₂ tp p3 p4 p5 p6 : Pos} {tk0 : Nat} {scope : Scope} {cl : List (Str × Addr)} {pos : Pos} {Q : Value → Shared → Prop} {l cc : Addr} {oc : Obj} {vs : List Value} {c : Nat} {here : Str} {th : Tok} {ps : List (Str × Str)}
    (hps : PairsAre news vs ps) (hh : A.handled = none) (F : Fr h₀ L s.heap m) (N : News h₀ L s.heap news) (hl : (l, listO vs.toArray c) ∈ news) (hlen : vs.length ≤ 1000)
    (hclos : closureFor scope env = pure cl) (hcell : ∀ y ∈ scope.names, y.2 ≠ .cell) (hkind : scope.kind = .function) (hnames : ∀ y ∈ scope.names, y.2 = .local → scope.names.lookup y.1 = some .local)
    (hx : scope.names.lookup (Str.ofString "one") = some .local) (hx₂ : scope.names.lookup (Str.ofString "two") = some .local) (hs : ∀ x, foldedSetIterable (.Name "pairs" p3) env x = pure x)
    (ho : ∀ C, (compEnvC scope cl C env).kindOf "one" = some .local) (ht : ∀ C, (compEnvC scope cl C env).kindOf "two" = some .local) (hf : ∀ C, (compEnvC scope cl C env).kindOf "here" = some .cell)
    (hcl : cl.lookup (Str.ofString "here") = some cc) (hcm : (cc, oc) ∈ news) (hcd : oc.data = .cell (some (.str here th)))
    (hit : wpAny (model prog w) A (eval (.Name "pairs" p3) env) (fun xv s₁ => xv = .ref l ∧ s₁ = s) E s)
    (fin : ∀ D ys c' h tk, StrsAre ys (kids ps here) → Fr h₀ L h m → News h₀ L h ((D, listO ys.toArray c') :: news) → (∀ q ∈ news, q.1 < D) → Q (.ref D) { s with heap := h, toks := tk }) :
    wpAny (model prog w) A (eval (.ListComp (.Name "two" p1) [⟨.Tuple [.Name "one" px, .Name "two" px₂] tk0 tp, .Name "pairs" p3, [.Compare (.Name "one" p4) [.Eq] [.Name "here" p5] p6], 0⟩] scope pos) env) Q E s := by
  refine comp_pt (l := l) (vs := vs) (c := c) (fun i ys => StrsAre ys (kids (ps.take i) here)) hh F N hl (by omega) ?hp .nil hclos hcell hkind hnames hx hx₂ (by decide) hs hit ?turn ?fin
  case hp =>
    intro v hv
    obtain ⟨i, hi, e⟩ := List.mem_iff_getElem.mp hv
    obtain ⟨q, a, t, u, k, _, e1, e2⟩ := pairs_get hps (i := i) (v := v) (by rw [List.getElem?_eq_getElem hi, e])
    exact ⟨a, _, _, k, e1, e2⟩
  case turn =>
    intro i a v₁ v₂ k ys I oI C oC D oD m₂ hi hm hJ hC hx1 hx2
    obtain ⟨q, a', t, u, k', hq, e1, e2⟩ := pairs_get hps hi
    cases e1
    have ee := ((N _ hm).1).symm.trans (N _ e2).1
    simp only [Option.some.injEq, Obj.mk.injEq, Data.seq.injEq, Array.mk.injEq, List.cons.injEq, and_true, true_and] at ee
    obtain ⟨⟨rfl, rfl⟩, rfl⟩ := ee
    refine ⟨q.1 == here, .str q.2 u, ?_, ?_, ?_⟩
    · rw [kids_snoc hq]
      by_cases e : (q.1 == here) = true
      · simp only [e, if_true]; exact strsAre_snoc hJ _ _
      · simp only [e]; exact hJ
    · intro h tk F1 N1
      refine wpAny_isTrue_Compare1 (ldVarK (hC.ns (N1 _ (.tail _ (.head _))).1) hx1 ?_ (by show scope.kind = _; exact hkind) (ho C) (by decide))
      refine wpAny_Name (wpAny_loadName_cell (by show scope.kind = _; exact hkind) (hf C) hcl ⟨oc, (N1 _ (.tail _ (.tail _ (.tail _ hcm)))).1, hcd⟩ ?_) (by decide)
      refine eq_str ?_
      refine wpAny_truthy_bool ?_
      exact ⟨rfl, h, tk, rfl, F1, N1⟩
    · intro _ h tk F1 N1
      refine ldVarK (hC.ns (N1 _ (.tail _ (.head _))).1) hx2 ?_ (by show scope.kind = _; exact hkind) (ht C) (by decide)
      exact ⟨rfl, h, tk, rfl, F1, N1⟩
  case fin =>
    intro D ys c' h tk hJ _ F1 N1 hlt
    rw [pairs_len hps, List.take_length] at hJ
    exact fin D ys c' h tk hJ F1 N1 hlt
end
end Mine
end
section
open PySem PySem.W PySem.Calls PySem.Spec PyProof.Rows
namespace Mine
theorem kw_Y1c_1 : True := by
  k_with_none
  k_with "ite" => (first | (k_closed; first | refine ite_pos (by decide +kernel) ?_ | refine ite_neg (by decide +kernel) ?_) | refine ite_pos (by with_reducible assumption) ?_ | refine ite_neg (by with_reducible assumption) ?_ | refine ite_isFalse (by with_reducible assumption) ?_)
  trivial
set_option maxRecDepth 100000 in
set_option maxHeartbeats 0 in
theorem joinU : ∀ (w : World) (p : Program) (loose : List Str) (mean : ExcName → Option Value) (mg mb : Str → Option Value) (x y : Str) (tx ty : Tok) (led : List (Addr × Obj)),
   ((x.length : Int) != 0) = true →
   x.length ≤ 10000 →
   y.length ≤ 10000 →
   Txt.startswith y (Str.ofString "/") = false →
   ∀ (dp un : Nat) (gd : Option (List Code)) (cn : Str) (cs : Scope) (a : Addr) (ccd : Value) (cl : List (Str × Addr)) (outer : List Env) (A₀ : Around) (base h₀ : Heap) (L : Addr) (m : Str → Option Value) (s : Shared) (Q : Value → Shared → Prop),
    Below A₀ base outer h₀ → Fr h₀ L s.heap m → (K w.params).In h₀ → News h₀ L s.heap led → Top p loose mean mg mb h₀ → cs.kind = .function →
     dp + 10 < recursionLimit → un + 100 < cLine →
     (∀ (h' : Heap) (tk' : Nat) (t' : Tok), Fr h₀ L h' m → News h₀ L h' led → Q (.str (under x y) t') { s with heap := h', toks := tk' }) →
     wpAny (model (OpenLaw.prog RR) w) (ktrTop dp un gd cn cs L a ccd cl outer) (call (.ref 182) [.str x tx, .str y ty]) Q (fun _ _ => False) s := by
  k_fill
  intro w p loose mean mg mb x y tx ty led hx hx1 hy1 h1 dp un gd cn cs a ccd cl outer A₀ base h₀ L m s Q B F X N T hk hd hu hret
  rcases Bool.eq_false_or_eq_true (Txt.endswith x (Str.ofString "/")) with he | he
  · have e : under x y = x ++ y := by unfold under; rw [if_pos he]
    rw [e] at hret
    exact joinR w p loose mean mg mb x y tx ty led hx hx1 hy1 h1 he dp un gd cn cs a ccd cl outer A₀ base h₀ L m s Q B F X N T hk hd hu hret
  · have e : under x y = x ++ (Str.ofString "/" ++ y) := by unfold under; rw [if_neg (by rw [he]; decide)]
    rw [e] at hret
    exact joinS w p loose mean mg mb x y tx ty led hx hx1 hy1 h1 he dp un gd cn cs a ccd cl outer A₀ base h₀ L m s Q B F X N T hk hd hu hret
theorem add2 {prog : Program} {w : World} {A : Around} {E : Value → Shared → Prop} {s : Shared} {h₀ : Heap} {L a b : Addr} {m : Str → Option Value} {news : List (Addr × Obj)} {vs ws : List Value} {oa ob : Obj} {c c2 : Nat} {Q : Value → Shared → Prop}
    (F : Fr h₀ L s.heap m) (N : News h₀ L s.heap news) (ha : (a, oa) ∈ news) (hb : (b, ob) ∈ news) (ea : oa = listO vs.toArray c) (eb : ob = listO ws.toArray c2) (hz : vs.length + ws.length ≤ 100000)
    (h : ∀ D h', Fr h₀ L h' m → News h₀ L h' ((D, listO (vs ++ ws).toArray 0) :: news) → (∀ p ∈ news, p.1 < D) → Q (.ref D) { s with heap := h' }) : wpAny (model prog w) A (binaryOp .Add (.ref a) (.ref b)) Q E s := by
  subst ea eb
  have hA : s.heap.IsList a vs.toArray := ⟨_, (N _ ha).1, rfl, _, rfl⟩
  have hB : s.heap.IsList b ws.toArray := ⟨_, (N _ hb).1, rfl, _, rfl⟩
  exact add_lists F N hA hB (fun h' F' N' => h _ h' F' N' fun p hp => Heap.lt_size (N p hp).1) (by rw [sizeLine_eq]; omega)
theorem wok_len {ps : List (Str × Str)} {hid : List Str} {n : Nat} {here : Str} (h : WOk ps hid n here) : (walkF ps hid n here).length ≤ 1000 := by
  cases n with
  | zero => exact h.elim
  | succ n => exact h.2.2.2.1
theorem sortF_mem {l : List Str} {x : Str} : x ∈ sortF l ↔ x ∈ l := (List.mergeSort_perm l leS).mem_iff
theorem take_flat {α β : Type} {f : α → List β} {l : List α} {i : Nat} {x : α} (h : l[i]? = some x) : (l.take (i + 1)).flatMap f = (l.take i).flatMap f ++ f x := by
  rw [List.take_add_one, h]; simp
theorem flat_take_len {α β : Type} {f : α → List β} {l : List α} (i : Nat) : ((l.take i).flatMap f).length ≤ (l.flatMap f).length := by
  have := List.take_append_drop i l
  have h : (l.flatMap f).length = ((l.take i).flatMap f).length + ((l.drop i).flatMap f).length := by
    rw [← List.length_append, ← List.flatMap_append, this]
  omega
end Mine
end
section
open PySem PySem.W PySem.Calls PySem.Spec PyProof.Rows
set_option maxRecDepth 100000
namespace Mine
section
variable {prog : Program} {w : World} {A : Around} {E : Value → Shared → Prop} {s : Shared}
end
end Mine
end
section
open PySem PySem.W PySem.Calls PySem.Spec PyProof.Rows
namespace Mine
theorem kw_Y2_1 : True := by
  k_with_none
  k_with "execs cons" => (first | (k_here; k_gentoks) | (refine' execs_one ?_) | (refine' execs_let ?_; intro Cq9))
  k_with "ite" => (first | (k_closed; first | refine ite_pos (by decide +kernel) ?_ | refine ite_neg (by decide +kernel) ?_) | refine ite_pos (by with_reducible assumption) ?_ | refine ite_neg (by with_reducible assumption) ?_ | refine ite_isFalse (by with_reducible assumption) ?_)
  trivial
structure Stop9 (p : Prop) : Prop where
  h : p
theorem kw_Y2_2 : True := by
  k_with "zz mem9" => repeat (first | assumption | exact .head _ | refine List.mem_cons_of_mem _ ?_)
  k_with "zz sub9" => (intro q9q9 hq9q9; repeat (first | exact hq9q9 | refine List.mem_cons_of_mem _ ?_))
  k_with "eval ListComp Name cons" => (k_here; (with_reducible rename PairsAre _ _ _ => hps9q9); k_dflt (refine' comp_kids (pairs_more ?kpq9 hps9q9) ?khq9 ?k1q9 ?k2q9 ?kmq9 ?klq9 ?kcq9 ?c1q9 ?c2q9 ?c3q9 ?c4q9 ?c5q9 ?c6q9 ?c7q9 ?c8q9 ?c9q9 ?d1q9 ?d2q9 ?d3q9 ?itq9 ?_; (case k1q9 => k_asm); (case k2q9 => k_asm); (case kpq9 => (walk_at "zz sub9")); (case khq9 => with_unfolding_all rfl); (case itq9 => (refine' wpAny_Name (wpAny_loadName_local ?q4q9 ?q5q9 (Fr.ns ?q1q9) ?q2q9 ?q3q9) ?q6q9; (case q1q9 => k_asm); (case q2q9 => with_unfolding_all rfl); (case q3q9 => exact ⟨rfl, rfl⟩); (case q4q9 => rfl); (case q5q9 => rfl); (case q6q9 => decide))); (case kmq9 => (walk_at "zz mem9")); (case klq9 => assumption); (case kcq9 => with_unfolding_all rfl); (case c1q9 => decide); (case c2q9 => rfl); (case c3q9 => decide); (case c4q9 => rfl); (case c5q9 => rfl); (case c6q9 => intro _; rfl); (case c7q9 => intro _; rfl); (case c8q9 => intro _; rfl); (case c9q9 => intro _; rfl); (case d1q9 => with_unfolding_all rfl); (case d2q9 => k_mem); (case d3q9 => assumption)); intro D'q9 ys'q9 c'q9 h'q9 tk'q9 hys'q9 F'q9 N'q9 l1q9; (try dsimp only); walk_say "KIDS")
  k_with "call ref" => (k_here; k_dflt (show wpAny _ _ (call (Value.ref 88) [Value.ref _, Value.ref _]) _ _ _); k_dflt (refine' Stop9.h ?_))
  k_with "call builtin:sorted" => (k_here; k_dflt (refine' Stop9.h ?_))
  k_with "exec For Name Call cons nil" => (k_here; k_dflt (refine' wpAny_For ?_ ?hsq9; (case hsq9 => intro _; rfl); k_whole))
  trivial
theorem news_pre {g h : Heap} {L : Addr} {l : List (Addr × Obj)} {a b : Addr × Obj} (N : News g L h l) (ha : a ∈ l) (hb : b ∈ l) : News g L h (a :: b :: l) := fun q hq => by
  rcases List.mem_cons.mp hq with rfl | hq
  · exact N _ ha
  rcases List.mem_cons.mp hq with rfl | hq
  · exact N _ hb
  · exact N _ hq
theorem kw_Y2_3 : True := by
  k_with "call ref" => (k_here; k_dflt (show wpAny _ _ (call (Value.ref 933) [Value.ref _, Value.str _ _, Value.ref _]) _ _ _); k_dflt (refine' Stop9.h ?_))
  k_with "call ref" => (k_here; k_dflt (show wpAny _ _ (call (Value.ref 182) [Value.str _ _, Value.str _ _]) _ _ _); k_dflt (refine' anyE (joinU _ _ _ _ _ _ _ _ _ _ _ ?h1q9 ?h2q9 ?h3q9 ?h4q9 _ _ _ _ _ _ _ _ _ _ _ _ _ _ _ _ ?k1q9 ?k2q9 ?k3q9 ?k4q9 ?k5q9 ?kKq9 ?kdq9 ?kuq9 ?_); (case h1q9 => assumption); (case h2q9 => assumption); (case h3q9 => assumption); (case h4q9 => assumption); (case k1q9 => k_asm); (case k2q9 => k_asm); (case k3q9 => k_asm); (case k4q9 => k_asm); (case k5q9 => k_asm); (case kKq9 => first | exact rfl | assumption); (case kdq9 => k_room); (case kuq9 => ktr_units)); intro h'q9 tk'q9 t'q9 F'q9 N'q9; (try dsimp only); (try k_sweep); walk_say "JOINU")
  k_with "binaryOp Add ref ref" => (k_here; k_dflt (refine' add2 ?k1q9 ?k2q9 ?haq9 ?hbq9 ?eaq9 ?ebq9 ?hzq9 ?_; (case k1q9 => k_asm); (case k2q9 => k_asm); (case haq9 => k_mem); (case hbq9 => k_mem); (case eaq9 => exact rfl); (case ebq9 => exact rfl); (case hzq9 => ((simp only [List.length_append, List.length_cons, List.length_nil]); omega))); intro D'q9 h'q9 F'q9 N'q9 l1q9; (try dsimp only); (try k_lt l1q9); walk_say "ADD2")
  trivial
theorem news_pick {g h : Heap} {L : Addr} {l r : List (Addr × Obj)} {a b c : Addr × Obj} (N : News g L h l) (ha : a ∈ l) (hb : b ∈ l) (hc : c ∈ l) (hr : ∀ q ∈ r, q ∈ l) : News g L h (a :: b :: c :: r) := fun q hq => by
  rcases List.mem_cons.mp hq with rfl | hq
  · exact N _ ha
  rcases List.mem_cons.mp hq with rfl | hq
  · exact N _ hb
  rcases List.mem_cons.mp hq with rfl | hq
  · exact N _ hc
  · exact N _ (hr _ hq)
set_option maxRecDepth 100000 in
set_option maxHeartbeats 0 in
theorem walkC : ∀ (n : Nat) (w : World) (p : Program) (loose : List Str) (mean : ExcName → Option Value) (mg mb : Str → Option Value) (here : Str) (th : Tok) (pl hl : Addr) (vs hs : List Value) (c c2 : Nat) (ps : List (Str × Str)) (hid : List Str) (led : List (Addr × Obj)),
   (pl, listO vs.toArray c) ∈ led → (hl, listO hs.toArray c2) ∈ led → PairsAre led vs ps → StrsAre hs hid → vs.length ≤ 1000 → WOk ps hid n here →
   ∀ (dp un : Nat) (gd : Option (List Code)) (cn : Str) (cs : Scope) (a : Addr) (ccd : Value) (cl : List (Str × Addr)) (outer : List Env) (A₀ : Around) (base h₀ : Heap) (L : Addr) (m : Str → Option Value) (s : Shared) (Q : Value → Shared → Prop),
    Below A₀ base outer h₀ → Fr h₀ L s.heap m → (K w.params).In h₀ → News h₀ L s.heap led → Top p loose mean mg mb h₀ →
     (K w.params).In base → Top p loose mean mg mb base → KtsDicts (outer.filterMap (·.frame)) h₀ → cs.kind = .function →
     dp + (50 + 5 * n) < recursionLimit → un + (500 + 20 * n) < cLine →
     (∀ (g' h' : Heap) (tk' : Nat) (S : Addr) (us : List Value) (c3 : Nat) (_ : StrsAre us (walkF ps hid n here)) (_ : AllLt S led), KtsTurn (outer.filterMap (·.frame)) h₀ g' → Below A₀ base outer g' → (K w.params).In g' → Top p loose mean mg mb g' → KtsDicts (outer.filterMap (·.frame)) g' → Fr g' L h' m → News g' L h' ((S, listO us.toArray c3) :: led) → Q (.ref S) { s with heap := h', toks := tk' }) →
     wpAny (model (OpenLaw.prog RR) w) (ktrTop dp un gd cn cs L a ccd cl outer) (call (.ref 933) [.ref pl, .str here th, .ref hl]) Q (fun _ _ => False) s := by
  k_fill
  intro n
  induction n with
  | zero =>
    intro w p loose mean mg mb here th pl hl vs hs c c2 ps hid led hpl hhl hps hhs hlen hok
    exact hok.elim
  | succ n ih =>
  intro w p loose mean mg mb here th pl hl vs hs c c2 ps hid led hpl hhl hps hhs hlen hok dp un gd cn cs a ccd cl outer A₀ base h₀ L m s Q B F X N T XB TB D hk hd hu hret
  refine wpAny_call ?_
  k_dflt (refine' code_defTC ?k1 ?k2 ?k3 ?k4 ?k5 ?XB ?TB ?D ?T0 ?kA ?kF ?kK ?k6 ?k7 ?k8 ?k9 ?kB ?kD ?_ ?c2 ?c3 ?c4; (case kA => exact rfl); (case kF => exact rfl); (case kK => assumption); (case k3 => exact X); (case k2 => exact F); (case k1 => exact B); (case XB => exact XB); (case TB => exact TB); (case D => exact D); (case T0 => exact KtsTurn.refl); (case k4 => exact N); (case k5 => exact T); (case k6 => k_is); (case k7 => k_is); (case k8 => ktr_room); (case k9 => exact BindsTo.of_eq rfl); (case kB => exact rfl); (case kD => decide +kernel); (case c2 => exact rfl); (case c3 => exact rfl); (case c4 => exact rfl); k_whole; intro g' L' h' tk' cells' FG' F' N' Y' B' X' T' D' l1; (try k_lt l1); k_cells Y'; (try simp only [List.cons_append, List.nil_append] at N'); (try dsimp only); (try k_lift B'); (try k_fold))
  k_steps
  rename StrsAre _ (kids ps here) => hk9
  rename News _ _ _ _ => N9
  rename PairsAre _ _ _ => hps
  obtain ⟨hw1, hw2, hw3, hw4, hw5⟩ := hok
  refine ⟨?_⟩
  refine' anyE (filterC w p loose mean mg mb _ _ _ _ _ _ _ _ _ hk9 hhs ?fl _ _ _ _ _ _ _ _ _ _ _ _ _ _ _ _ ?oB ?oF ?oX (news_pre N9 (.head _) (List.mem_cons_of_mem _ (List.mem_cons_of_mem _ (List.mem_cons_of_mem _ hhl)))) ?oT ?oXB ?oTB ?oD ?oC ?od ?ou ?oR)
  case oB => assumption
  case oF => assumption
  case oX => assumption
  case oT => assumption
  case oXB => assumption
  case oTB => assumption
  case oD => assumption
  case oC => exact rfl
  case od => k_room
  case ou => ktr_units
  case fl =>
    have h1 := pairs_len hps
    have h2 := List.length_filter_le (fun q : Str × Str => q.1 == here) ps
    unfold kids
    rw [List.length_map]
    omega
  case oR =>
    intro g9 h9 tk9 S9 us9 c9 hus T9 B9 X9 P9 D9 F9 N7
    (try dsimp only)
    clear N9
    k_steps
    refine ⟨?_⟩
    have hul : us9.length < 64 := by rw [strsAre_len hus]; exact hw3
    rename News _ _ _ _ => N6
    rename Fr _ _ _ _ => F6
    refine' sorted_N_str F6 N6 (News.isList N6 (.head _)) hus hul ?_
    intro h8 vs8 ss8 e8 F8 N8 hs8 hp8 hso8
    (try dsimp only)
    have hlt8 : ∀ q ∈ led, q.1 < (_ : Nat) := fun q hq => Nat.lt_succ_of_lt (Heap.lt_size (N6 q (by (walk_at "zz mem9"))).1)
    clear N6 F6
    have hss := sortF_eq hp8 hso8
    subst hss
    k_steps
    rename News _ _ _ _ => N4
    rename Fr _ _ _ _ => F4
    obtain ⟨T0, c0, oc, N5, F5, hoc, hT0⟩ : ∃ T0 c0 oc, News g9 L' h8 ((T0, listO ([] : List Value).toArray c0) :: (h9.objs.size + 1, listO vs8.toArray e8) :: (L' + 1, oc) :: led) ∧
        Fr g9 L' h8 (fun y => if y = Str.ofString "told" then some (.ref T0) else if y = Str.ofString "hidden" then some (.ref hl) else if y = Str.ofString "pairs" then some (.ref pl) else none) ∧ oc.data = .cell (some (.str here th)) ∧ AllLt T0 led := by
      refine' ⟨_, _, _, news_pick N4 (.tail _ (.tail _ (.tail _ (.tail _ (.tail _ (.head _)))))) (.head _) (.tail _ (.tail _ (.tail _ (.tail _ (.tail _ (.tail _ (.head _))))))) (fun q hq => .tail _ (.tail _ (.tail _ (.tail _ (.tail _ (.tail _ (.tail _ hq))))))), ?n1, ?n2, ?n3⟩
      case n2 => assumption
      case n3 => (with_reducible rename _ ∧ AllLt _ led => hh4); exact hh4.2
      case n1 =>
        refine fr_eq F4 (funext fun y => ?_)
        with_unfolding_all rfl
    clear N4 F4
    generalize h9.objs.size + 1 = S2 at N5 ⊢
    have hw4' : (((sortF ((kids ps here).filter (vis hid))).flatMap fun z => under here z :: walkF ps hid n (under here z))).length ≤ 1000 := hw4
    refine' for_listE (L := L') (s := { s with heap := h8, toks := tk9 }) (vs := vs8) (lo := listO vs8.toArray e8) (c := e8) (fun i g m' led' => KtsTurn (List.filterMap (fun x => x.frame) (envX cn cs L a ccd cl :: outer)) g' g ∧ Below (ktrTop dp un gd cn cs L a ccd cl outer) base (envX cn cs L a ccd cl :: outer) g ∧ (K w.params).In g ∧ Top p loose mean mg mb g ∧ KtsDicts (List.filterMap (fun x => x.frame) (envX cn cs L a ccd cl :: outer)) g ∧
        ∃ T ts c, (∀ y, y ≠ Str.ofString "name" → m' y = if y = Str.ofString "told" then some (.ref T) else if y = Str.ofString "hidden" then some (.ref hl) else if y = Str.ofString "pairs" then some (.ref pl) else none) ∧
          StrsAre ts (((sortF ((kids ps here).filter (vis hid))).take i).flatMap fun z => under here z :: walkF ps hid n (under here z)) ∧ AllLt T led ∧ led' = (T, listO ts.toArray c) :: (S2, listO vs8.toArray e8) :: (L' + 1, oc) :: led)
      ?hh F5 N5 (.tail _ (.head _)) rfl rfl ⟨T9, B9, X9, P9, D9, T0, [], c0, fun _ _ => rfl, .nil, hT0, rfl⟩ ?keepl ?hk ?hsd ?hx ?turn ?done
    case hh => with_unfolding_all rfl
    case keepl =>
      rintro i g m' led' ⟨_, _, _, _, _, T, ts, c9, _, _, _, rfl⟩
      exact .tail _ (.head _)
    case hk => rfl
    case hsd => rfl
    case hx => rfl
    case turn =>
      rintro i v g m' led' it oi h tk hi ⟨hT, hB, hX, hP, hD, T, ts, c9, hm, hts, hall, rfl⟩ F1 N1 ne hc
      obtain ⟨z, t, hz, rfl⟩ := strs_get hs8 hi
      obtain ⟨hz1, hz2, hz3⟩ := hw5 z (sortF_mem.mp (List.mem_of_getElem? hz))
      have F2 : Fr g L' h (fun y => if y = Str.ofString "name" then some (.str z t) else if y = Str.ofString "told" then some (.ref T) else if y = Str.ofString "hidden" then some (.ref hl) else if y = Str.ofString "pairs" then some (.ref pl) else none) := fr_eq F1 (funext fun y => by
        by_cases hy : y = Str.ofString "name"
        · rw [if_pos hy, if_pos hy]
        · rw [if_neg hy, if_neg hy]; exact hm y hy)
      have htl : ts.length ≤ 1000 := by rw [strsAre_len hts]; exact Nat.le_trans (flat_take_len i) hw4'
      have hul9 := wok_len hz3
      clear F1 F5 N5 T9 B9 X9 P9 D9
      k_steps
      refine ⟨?_⟩
      rename News _ _ _ _ => N4
      rename Fr g _ _ _ => F4
      refine' anyE (ih w p loose mean mg mb (under here z) _ pl hl vs hs c c2 ps hid _ ?m1 ?m2 ?m3 hhs hlen hz3 _ _ _ _ _ _ _ _ _ _ _ _ _ _ _ _ ?oB F4 ?oX N4 ?oT ?oXB ?oTB ?oD ?oC ?od ?ou ?oR)
      case oB => exact hB
      case oX => exact hX
      case oT => exact hP
      case oXB => assumption
      case oTB => assumption
      case oD => exact hD
      case oC => exact rfl
      case od => k_room
      case ou => ktr_units
      case m1 => exact .tail _ (.tail _ (.tail _ (.tail _ (.tail _ (.tail _ hpl)))))
      case m2 => exact .tail _ (.tail _ (.tail _ (.tail _ (.tail _ (.tail _ hhl)))))
      case m3 => exact pairs_more (fun q hq => .tail _ (.tail _ (.tail _ (.tail _ (.tail _ (.tail _ hq)))))) hps
      case oR =>
        intro g6 h6 tk6 S6 us6 c6 hus6 hl6 T6 B6 X6 P6 D6 F6 N6
        have TT := hT.trans T6
        have hue : us6.length ≤ 1000 := by rw [strsAre_len hus6]; exact hul9
        (try dsimp only)
        clear N4 F4 hB hX hP hD hT T6
        k_steps
        rename Fr g6 _ _ _ => F3
        rename News _ _ _ _ => N3
        (with_reducible rename _ ∧ _ ∧ _ ∧ _ ∧ _ ∧ _ ∧ _ ∧ AllLt _ led => hh)
        have N2 := news_pick (r := (L' + 1, oc) :: led) N3 (.tail _ (.tail _ (.tail _ (.tail _ (.head _))))) (.head _) (.tail _ (.tail _ (.tail _ (.tail _ (.tail _ (.tail _ (.head _))))))) (fun q hq => .tail _ (.tail _ (.tail _ (.tail _ (.tail _ (.tail _ (.tail _ hq)))))))
        refine turn_end F3 N2 (fun q hq => ?_) ⟨TT, B6, X6, P6, D6, _, _, _, fun y hy => ?_, ?_, hh.2.2.2.2.2.2.2, rfl⟩
        · rcases List.mem_cons.mp hq with rfl | hq
          · exact Nat.ne_of_gt hh.2.2.2.1
          · exact ne q (.tail _ hq)
        · by_cases ht : y = Str.ofString "told"
          · simp only [if_pos ht]
          · simp only [if_neg ht, if_neg hy]
        · rw [take_flat hz]
          show StrsAre _ (_ ++ ([under here z] ++ walkF ps hid n (under here z)))
          rw [← List.append_assoc]
          exact StrsAre.append' (StrsAre.append' hts (.cons _ _ .nil)) hus6
    case done =>
      rintro g m' led' h tk ⟨hT, hB, hX, hP, hD, T, ts, c9, hm, hts, hall, rfl⟩ F1 N1
      have F2 := fr_at F1 (hm (Str.ofString "told") (by decide))
      clear F1 F5 N5 T9 B9 X9 P9 D9
      rw [strsAre_len hs8, List.take_length] at hts
      k_steps
      all_goals (rename News _ _ _ _ => N6; exact hret _ _ _ _ _ _ hts hall (by assumption) (by assumption) (by assumption) (by assumption) (by assumption) (by assumption) (news_sub N6 fun q hq => (List.mem_cons.mp hq).elim (fun e => e ▸ .head _) fun h => .tail _ (.tail _ (.tail _ h))))
end Mine
end
section
open PySem PySem.W PySem.Calls PySem.Spec PyProof.Rows
set_option maxRecDepth 100000
namespace Mine
noncomputable def lawB : List Stmt := match fnAt 57 1000 with | some (_, b, _) => b | none => []
noncomputable def lawS : Scope := match fnAt 57 1000 with | some (_, _, sc) => sc | none => ⟨.function, [], false, false, []⟩
noncomputable abbrev lawA (L fa : Addr) (cd : Value) : Around := callerA.deeper (envOfC (Str.ofString "law") lawS L fa cd)
noncomputable abbrev lawE (L fa : Addr) (cd : Value) : Env := envOfC (Str.ofString "law") lawS L fa cd
theorem heap_ext0 {g g' h : Heap} {L : Addr} {m : Str → Option Value} {l : List (Addr × Obj)} (T : KtsTurn [] g g') (F : Fr g' L h m) (N : News g' L h l) : Fr g L h m ∧ News g L h l :=
  ⟨⟨F.ns, fun b o e => F.keep b o (T.other b o e (by simp)), T.size ▸ F.above⟩, fun q hq => ⟨(N q hq).1, (N q hq).2.1, by
    cases e : g.get? q.1 with
    | none => rfl
    | some o =>
      have z := (N q hq).2.2
      rw [T.other _ _ e (by simp)] at z
      cases z⟩⟩
/-- the ledger of law's four cells: two, hidden, names, script -/
noncomputable abbrev cellL (L : Addr) (o1 o2 o3 o4 : Obj) : List (Addr × Obj) := [(L + 1 + 1 + 1 + 1, o1), (L + 1 + 1 + 1, o2), (L + 1 + 1, o3), (L + 1, o4)]
noncomputable def tail6 : List Int := [61, 8, 19, 113, 30, 4]
noncomputable def numsF (ns : List Int) : List Int := ns.take 6 ++ tail6
end Mine
end
section
open PySem PySem.W PySem.Calls PySem.Spec PyProof.Rows
set_option maxRecDepth 100000
namespace Mine
noncomputable def seps : List Str := [Str.ofString "/", Str.ofString "/./", Str.ofString "//"]
noncomputable def sepF (x : Int) : Str := seps.getD ((x.fdiv 4).fmod 3).toNat (Str.ofString "")
noncomputable def wordF (x : Int) : Str := Txt.join (sepF x) (namesF x)
section
variable {prog : Program} {w : World} {A : Around} {E : Value → Shared → Prop} {s : Shared}
theorem item3 {value slice : PySem.Expr} {l : Addr} {t1 t2 t3 : Tok} {n : Nat} {y : Int} {u : Tok} {Q : Value → Shared → Prop} {h₀ : Heap} {L : Addr} {news : List (Addr × Obj)} (N : News h₀ L s.heap news) (hm : (l, ({ cls := .type "list", data := .seq #[.str (Str.ofString "/") t1, .str (Str.ofString "/./") t2, .str (Str.ofString "//") t3] n } : Obj)) ∈ news)
    (h : ∀ t, Q (.str (seps.getD (y.fmod 3).toNat (Str.ofString "")) t) s)
    (hs : subscripted slice false (.ref l) (.int (y.fmod 3) u) = operate [.ref l, .int (y.fmod 3) u] (getItem (.ref l) (.int (y.fmod 3) u)) := by with_unfolding_all rfl) :
    wpAny (model prog w) A (subscriptTail value slice (.ref l) (.int (y.fmod 3) u)) Q E s := by
  have hl : s.heap.IsList l #[.str (Str.ofString "/") t1, .str (Str.ofString "/./") t2, .str (Str.ofString "//") t3] := ⟨_, (N _ hm).1, rfl, _, rfl⟩
  have h0 : 0 ≤ y.fmod 3 := Int.fmod_nonneg_of_pos _ (by decide)
  have h1 : y.fmod 3 < 3 := Int.fmod_lt_of_pos _ (by decide)
  obtain ⟨k, hk⟩ : ∃ k : Nat, y.fmod 3 = k := ⟨(y.fmod 3).toNat, by omega⟩
  have hk3 : k = 0 ∨ k = 1 ∨ k = 2 := by omega
  rw [hk] at h hs ⊢
  rcases hk3 with rfl | rfl | rfl
  · exact tail_any hl.typeIs slot_list_getitem.lookup (wpAny_getItem_list hl (by decide) (by decide) (x := .str (Str.ofString "/") t1) rfl (h t1)) hs
  · exact tail_any hl.typeIs slot_list_getitem.lookup (wpAny_getItem_list hl (by decide) (by decide) (x := .str (Str.ofString "/./") t2) rfl (h t2)) hs
  · exact tail_any hl.typeIs slot_list_getitem.lookup (wpAny_getItem_list hl (by decide) (by decide) (x := .str (Str.ofString "//") t3) rfl (h t3)) hs
end
theorem ints_get : ∀ {vs : List Value} {ns : List Int}, IntsAre vs ns → ∀ {i : Nat} {v : Value}, vs[i]? = some v → ∃ x t, ns[i]? = some x ∧ v = .int x t
  | _, _, .nil, i, v, h => by simp at h
  | _, _, .cons n t h, i, v, hi => by
    cases i with
    | zero => simp at hi; exact ⟨n, t, rfl, hi.symm⟩
    | succ i => exact ints_get h (by simpa using hi)
theorem ints_len : ∀ {vs : List Value} {ns : List Int}, IntsAre vs ns → vs.length = ns.length
  | _, _, .nil => rfl
  | _, _, .cons n t h => by simp [ints_len h]
theorem nums_len (ns : List Int) : (numsF ns).length ≤ 12 := by
  unfold numsF tail6
  rw [List.length_append, List.length_take]
  simp only [List.length_cons, List.length_nil]
  omega
theorem map_take {f : Int → Str} {vs : List Value} {ns : List Int} {i : Nat} {x : Int} {t : Tok} {z : Str} (h : StrsAre vs ((ns.take i).map f)) (hx : ns[i]? = some x) (e : z = f x) : StrsAre (vs ++ [.str z t]) ((ns.take (i + 1)).map f) := by
  rw [List.take_add_one, hx, e]
  simpa using strsAre_snoc h (f x) t
theorem names_small {x : Int} : ∀ y ∈ namesF x, y.length ≤ 4 := by
  intro y hy
  obtain ⟨k, _, rfl⟩ := List.mem_map.mp hy
  have h5 : ∀ z ∈ n5, z.length ≤ 4 := by decide +kernel
  rw [List.getD_eq_getElem?_getD]
  cases e : n5[digF x k]? with
  | none => exact Nat.zero_le _
  | some z => exact h5 z (List.mem_of_getElem? e)
theorem names_len3 {x : Int} : (namesF x).length ≤ 3 := by
  rw [names_len]
  have := Int.fmod_lt_of_pos x (b := 3) (by decide)
  omega
theorem sep_small (k : Nat) : (seps.getD k (Str.ofString "")).length ≤ 64 := by
  have h3 : ∀ z ∈ seps, z.length ≤ 64 := by decide +kernel
  rw [List.getD_eq_getElem?_getD]
  cases e : seps[k]? with
  | none => exact Nat.zero_le _
  | some z => exact h3 z (List.mem_of_getElem? e)
end Mine
end
section
open PySem PySem.W PySem.Calls PySem.Spec PyProof.Rows
namespace Mine
theorem kw_Z1c_1 : True := by
  k_with_none
  k_with "ite" => (first | (k_closed; first | refine ite_pos (by decide +kernel) ?_ | refine ite_neg (by decide +kernel) ?_) | refine ite_pos (by with_reducible assumption) ?_ | refine ite_neg (by with_reducible assumption) ?_ | refine ite_isFalse (by with_reducible assumption) ?_)
  trivial
theorem splitK : ∀ (w : World) (p : Program) (loose : List Str) (mean : ExcName → Option Value) (mg mb : Str → Option Value) (line : Str) (t : Tok) (ws : List Str) (led : List (Addr × Obj)),
   TokL line ws → line.length ≤ 1000000 → ws.length ≤ 1000 →
   ∀ (dp un : Nat) (gd : Option (List Code)) (cn : Str) (cs : Scope) (a : Addr) (ccd : Value) (cl : List (Str × Addr)) (h₀ : Heap) (L : Addr) (m : Str → Option Value) (s : Shared) (Q : Value → Shared → Prop),
    Below callerA h₀ [] h₀ → Fr h₀ L s.heap m → (K w.params).In h₀ → News h₀ L s.heap led → Top p loose mean mg mb h₀ → cs.kind = .function →
     dp + 60 < recursionLimit → un + 500 < cLine →
     (∀ (h' : Heap) (tk' : Nat) (S : Addr) (us : List Value) (c3 : Nat), StrsAre us ws → Fr h₀ L h' m → News h₀ L h' ((S, listO us.toArray c3) :: led) → Q (.ref S) { s with heap := h', toks := tk' }) →
     wpAny (model (OpenLaw.prog RR) w) (ktrTop dp un gd cn cs L a ccd cl []) (call (.ref 910) [.str line t]) Q (fun _ _ => False) s := by
  intro w p loose mean mg mb line t ws led htk hb hws dp un gd cn cs a ccd cl h₀ L m s Q B F X N T hk hd hu hret
  exact splitC w p loose mean mg mb line t ws led htk hb hws dp un gd cn cs a ccd cl [] callerA h₀ h₀ L m s Q B F X N T X T ktsDicts_nil hk hd hu fun g' h' tk' S vs c T' B' X' P' D' F' N' hvs => by
    obtain ⟨F2, N2⟩ := heap_ext0 T' F' N'
    exact hret h' tk' S vs c hvs F2 N2
theorem walkK : ∀ (n : Nat) (w : World) (p : Program) (loose : List Str) (mean : ExcName → Option Value) (mg mb : Str → Option Value) (here : Str) (th : Tok) (pl hl : Addr) (vs hs : List Value) (c c2 : Nat) (ps : List (Str × Str)) (hid : List Str) (led : List (Addr × Obj)),
   (pl, listO vs.toArray c) ∈ led → (hl, listO hs.toArray c2) ∈ led → PairsAre led vs ps → StrsAre hs hid → vs.length ≤ 1000 → WOk ps hid n here →
   ∀ (dp un : Nat) (gd : Option (List Code)) (cn : Str) (cs : Scope) (a : Addr) (ccd : Value) (cl : List (Str × Addr)) (h₀ : Heap) (L : Addr) (m : Str → Option Value) (s : Shared) (Q : Value → Shared → Prop),
    Below callerA h₀ [] h₀ → Fr h₀ L s.heap m → (K w.params).In h₀ → News h₀ L s.heap led → Top p loose mean mg mb h₀ → cs.kind = .function →
     dp + (50 + 5 * n) < recursionLimit → un + (500 + 20 * n) < cLine →
     (∀ (h' : Heap) (tk' : Nat) (S : Addr) (us : List Value) (c3 : Nat), StrsAre us (walkF ps hid n here) → Fr h₀ L h' m → News h₀ L h' ((S, listO us.toArray c3) :: led) → Q (.ref S) { s with heap := h', toks := tk' }) →
     wpAny (model (OpenLaw.prog RR) w) (ktrTop dp un gd cn cs L a ccd cl []) (call (.ref 933) [.ref pl, .str here th, .ref hl]) Q (fun _ _ => False) s := by
  intro n w p loose mean mg mb here th pl hl vs hs c c2 ps hid led hpl hhl hps hhs hlen hok dp un gd cn cs a ccd cl h₀ L m s Q B F X N T hk hd hu hret
  exact walkC n w p loose mean mg mb here th pl hl vs hs c c2 ps hid led hpl hhl hps hhs hlen hok dp un gd cn cs a ccd cl [] callerA h₀ h₀ L m s Q B F X N T X T ktsDicts_nil hk hd hu fun g' h' tk' S us c3 hus _ T' B' X' P' D' F' N' => by
    obtain ⟨F2, N2⟩ := heap_ext0 T' F' N'
    exact hret h' tk' S us c3 hus F2 N2
end Mine
end
section
open PySem PySem.W PySem.Calls PySem.Spec PyProof.Rows
namespace Mine
theorem kw_Z2_1 : True := by
  k_with_none
  k_with "execs cons" => (first | (k_here; k_gentoks) | (refine' execs_one ?_) | (refine' execs_let ?_; intro Cq9))
  k_with "ite" => (first | (k_closed; first | refine ite_pos (by decide +kernel) ?_ | refine ite_neg (by decide +kernel) ?_) | refine ite_pos (by with_reducible assumption) ?_ | refine ite_neg (by with_reducible assumption) ?_ | refine ite_isFalse (by with_reducible assumption) ?_)
  k_with "CompSrc" => (k_here; k_dflt (refine LCg.CompSrc.ledger (by with_unfolding_all rfl) (by k_asm) (by k_asm) (by k_mem) ?zzq9 ?_); (case zzq9 => ((try simp only [List.size_toArray]); rw [sizeLine_eq]; omega)))
  k_with "eval ListComp" => (k_here; k_dflt (refine LCg.ListComp_U (F₀ := by k_asm) (by with_unfolding_all rfl) (by decide) (by rfl) (by decide) (by rfl) ?_))
  k_with "subscriptTail List cons BinOp ref int" => (k_here; k_dflt (refine' item3 ?k1q9 ?k2q9 ?_ ?k6q9; (case k1q9 => k_asm); (case k2q9 => k_mem); (case k6q9 => with_unfolding_all rfl); k_whole); intro t'q9; (try dsimp only); walk_say "ITEM3")
  k_with "call ref" => (k_here; k_dflt (show wpAny _ _ (call (Value.ref 928) [Value.int _ _]) _ _ _); k_dflt (refine' anyE (lawnamesC _ _ _ _ _ _ _ _ _ _ _ _ _ _ _ _ _ _ _ _ _ _ _ _ _ ?k1q9 ?k2q9 ?k3q9 ?k4q9 ?k5q9 ?kKq9 ?kdq9 ?kuq9 ?_); (case k1q9 => k_asm); (case k2q9 => k_asm); (case k3q9 => k_asm); (case k4q9 => k_asm); (case k5q9 => k_asm); (case kKq9 => first | exact rfl | assumption); (case kdq9 => k_room); (case kuq9 => ktr_units)); intro h'q9 tk'q9 D'q9 vs'q9 hvs'q9 F'q9 N'q9; (try dsimp only); (try k_sweep); walk_say "NAMES")
  k_with "call ref" => (k_here; k_dflt (show wpAny _ _ (call (Value.ref 923) [Value.ref _]) _ _ _); k_dflt (refine' anyE (lineC _ _ _ _ _ _ _ _ _ _ _ ?h1q9 ?h2q9 ?h3q9 _ _ _ _ _ _ _ _ _ _ _ _ _ _ _ _ ?k1q9 ?k2q9 ?k3q9 ?k4q9 ?k5q9 ?kKq9 ?kdq9 ?kuq9 ?_); (case h1q9 => assumption); (case h2q9 => assumption); (case h3q9 => assumption); (case k1q9 => k_asm); (case k2q9 => k_asm); (case k3q9 => k_asm); (case k4q9 => k_asm); (case k5q9 => k_asm); (case kKq9 => first | exact rfl | assumption); (case kdq9 => k_room); (case kuq9 => ktr_units)); intro h'q9 tk'q9 t'q9 F'q9 N'q9; (try dsimp only); (try k_sweep); walk_say "LAWLINE")
  trivial
set_option maxRecDepth 100000 in
set_option maxHeartbeats 0 in
theorem law1 : ∀ (w : World) (p : Program) (loose : List Str) (mean : ExcName → Option Value) (mg mb : Str → Option Value) (h₀ : Heap) (L fa : Addr) (cd : Value) (rest : List Stmt) (s : Shared) (Q : Flow → Shared → Prop) (E : Value → Shared → Prop) (o1 o2 o3 o4 : Obj) (sl : Addr) (vs : List Value) (ns : List Int),
   (K w.params).In h₀ → Top p loose mean mg mb h₀ → Below callerA h₀ [] h₀ →
   h₀.IsList sl vs.toArray →
   IntsAre vs ns →
   ns.length ≤ 63 →
   o4.data = .cell (some (.ref sl)) →
   Fr h₀ L s.heap (fun y => none) → News h₀ L s.heap (cellL L o1 o2 o3 o4) →
   (∀ (h' : Heap) (tk' : Nat) (nl : Addr) (us : List Value) (c : Nat) (_ : IntsAre us (numsF ns)), Fr h₀ L h' (fun y => if y = Str.ofString "numbers" then some (.ref nl) else none) → News h₀ L h' ((nl, listO us.toArray c) :: cellL L o1 o2 o3 o4) → wpAny (model (OpenLaw.prog RR) w) (lawA L fa cd) (execs rest (lawE L fa cd)) Q E { s with heap := h', toks := tk' }) →
   wpAny (model (OpenLaw.prog RR) w) (lawA L fa cd) (execs ((lawB.drop 0).take 1 ++ rest) (lawE L fa cd)) Q E s := by
  k_fill
  intro w p loose mean mg mb h₀ L fa cd rest s Q E o1 o2 o3 o4 sl vs ns X T B hsl hvs h63 d4 F N hret
  have hS : lawS = ⟨_, _, _, _, _⟩ := rfl
  have hB : lawB = (_ :: _ :: _ :: _ :: _ :: _ :: _ :: _ :: _ :: _ :: _ :: _ :: _ :: _ :: _ :: _ :: []) := rfl
  rw [hB]
  simp only [lawE, lawA, hS] at hret ⊢
  clear hS hB
  show wpAny _ _ (execs (_ :: rest) _) _ _ _
  k_steps
  all_goals (rename News _ _ _ _ => N6; exact hret _ _ _ _ _ (by assumption) (by assumption) (news_sub N6 fun q hq => (List.mem_cons.mp hq).elim (fun e => e ▸ .head _) fun h => .tail _ (.tail _ (.tail _ h))))
set_option maxRecDepth 100000 in
set_option maxHeartbeats 0 in
theorem law2 : ∀ (w : World) (p : Program) (loose : List Str) (mean : ExcName → Option Value) (mg mb : Str → Option Value) (h₀ : Heap) (L fa : Addr) (cd : Value) (rest : List Stmt) (s : Shared) (Q : Flow → Shared → Prop) (E : Value → Shared → Prop) (o1 o2 o3 o4 : Obj) (nl : Addr) (us : List Value) (c : Nat) (ns : List Int),
   (K w.params).In h₀ → Top p loose mean mg mb h₀ → Below callerA h₀ [] h₀ →
   IntsAre us (numsF ns) →
   (∀ x ∈ (numsF ns).map wordF, QOk x) →
   Fr h₀ L s.heap (fun y => if y = Str.ofString "numbers" then some (.ref nl) else none) → News h₀ L s.heap ((nl, listO us.toArray c) :: cellL L o1 o2 o3 o4) →
   (∀ (h' : Heap) (tk' : Nat) (t : Tok), Fr h₀ L h' (fun y => if y = Str.ofString "line" then some (.str (Txt.join (Str.ofString " ") (((numsF ns).map wordF).map quoteF)) t) else if y = Str.ofString "numbers" then some (.ref nl) else none) → News h₀ L h' ((nl, listO us.toArray c) :: cellL L o1 o2 o3 o4) → wpAny (model (OpenLaw.prog RR) w) (lawA L fa cd) (execs rest (lawE L fa cd)) Q E { s with heap := h', toks := tk' }) →
   wpAny (model (OpenLaw.prog RR) w) (lawA L fa cd) (execs ((lawB.drop 1).take 1 ++ rest) (lawE L fa cd)) Q E s := by
  k_fill
  intro w p loose mean mg mb h₀ L fa cd rest s Q E o1 o2 o3 o4 nl us c ns X T B hus hq F N hret
  have hS : lawS = ⟨_, _, _, _, _⟩ := rfl
  have hB : lawB = (_ :: _ :: _ :: _ :: _ :: _ :: _ :: _ :: _ :: _ :: _ :: _ :: _ :: _ :: _ :: _ :: []) := rfl
  rw [hB]
  simp only [lawE, lawA, hS] at hret ⊢
  clear hS hB
  show wpAny _ _ (execs (_ :: rest) _) _ _ _
  have hul := ints_len hus
  have hnl := nums_len ns
  k_steps
  refine comp_S (fun i ys => StrsAre ys (((numsF ns).take i).map wordF)) .nil ?turn ?fin
  case turn =>
    rintro i v ys I oI C oC D m₂ h tk hi hP hys hC hx F8 N8 off ne
    obtain ⟨x, t, hxi, rfl⟩ := ints_get hus (by simpa using hP)
    have hoff := off
    (try simp only [LCg.Off3, and_true] at off)
    k_steps
    rename News _ _ _ _ => N9
    rename StrsAre _ (namesF x) => hnm
    have hsum : ((namesF x).map (·.length)).sum + (namesF x).length * 64 ≤ 16777216 := by
      have h1 := sum_len_le (ys := namesF x) (B := 4) names_small
      have h2 := names_len3 (x := x)
      omega
    refine join_listC (News.isList N9 (.head _)) hnm (sep_small _) hsum ?_
    intro t9 k9
    k_steps
    all_goals (rename News _ _ _ _ => N7; exact ⟨_, _, _, rfl, by assumption, news_sub N7 fun q hq => .tail _ (.tail _ hq), hoff, .inr ⟨_, .head _, rfl, _, rfl⟩, map_take hys hxi rfl, rfl⟩)
  case fin =>
    rintro ys hys
    have hlen : us.toArray.size = (numsF ns).length := by simpa using hul
    rw [hlen, List.take_length] at hys
    have hsz : ys.toArray.size ≤ 100 := by
      have := strsAre_len hys
      rw [List.length_map] at this
      rw [List.size_toArray]
      omega
    k_steps
    all_goals (rename News _ _ _ _ => N6; exact hret _ _ _ (by assumption) (news_sub N6 fun q hq => .tail _ hq))
end Mine
end
section
open PySem PySem.W PySem.Calls PySem.Spec PyProof.Rows
namespace Mine
theorem kw_Z3_1 : True := by
  k_with_none
  k_with "execs cons" => (first | (k_here; k_gentoks) | (refine' execs_one ?_) | (refine' execs_let ?_; intro Cq9))
  k_with "ite" => (first | (k_closed; first | refine ite_pos (by decide +kernel) ?_ | refine ite_neg (by decide +kernel) ?_) | refine ite_pos (by with_reducible assumption) ?_ | refine ite_neg (by with_reducible assumption) ?_ | refine ite_isFalse (by with_reducible assumption) ?_)
  k_with "zz k_ne" => (first | assumption | (refine neN ?_; (try dsimp only); omega))
  k_with "CompSrc" => (k_here; k_dflt (refine LCg.CompSrc.ledger (by with_unfolding_all rfl) (by k_asm) (by k_asm) (by k_mem) ?zzq9 ?_); (case zzq9 => (simp only [List.size_toArray]; rw [strsAre_len (by assumption), sizeLine_eq]; omega)))
  k_with "exec Assign cons ListComp" => (k_here; k_dflt (refine LCg.Assign_ListComp_U (F₀ := by k_asm) (by rfl) (by with_unfolding_all rfl) (by with_unfolding_all rfl) (by decide) (by rfl) (by decide) (by rfl) (by rfl) (by rfl) ?_))
  k_with "eval ListComp" => (k_here; k_dflt (refine LCg.ListComp_U (F₀ := by k_asm) (by with_unfolding_all rfl) (by decide) (by rfl) (by decide) (by rfl) ?_))
  k_with "call ref" => (k_here; k_dflt (show wpAny _ _ (call (Value.ref 182) [Value.str _ _, Value.str _ _]) _ _ _); k_dflt (refine' anyE (joinU _ _ _ _ _ _ _ _ _ _ _  ?h0q9 ?h1q9 ?h2q9 ?h3q9 _ _ _ _ _ _ _ _ _ _ _ _ _ _ _ _ ?k1q9 ?k2q9 ?k3q9 ?k4q9 ?k5q9 ?kKq9 ?kdq9 ?kuq9 ?_); (case h0q9 => assumption); (case h1q9 => assumption); (case h2q9 => assumption); (case h3q9 => assumption); (case k1q9 => k_asm); (case k2q9 => k_asm); (case k3q9 => k_asm); (case k4q9 => k_asm); (case k5q9 => k_asm); (case kKq9 => first | exact rfl | assumption); (case kdq9 => k_room); (case kuq9 => ktr_units)); intro h'q9 tk'q9 t'q9 F'q9 N'q9; (try dsimp only); (try k_sweep); walk_say "JOINU")
  k_with "call ref" => (k_here; k_dflt (show wpAny _ _ (call (Value.ref 210) [Value.str _ _]) _ _ _); k_dflt (refine' anyE (normpathC _ _ _ _ _ _ _ _ _  ?h0q9 _ _ _ _ _ _ _ _ _ _ _ _ _ _ _ _ ?k1q9 ?k2q9 ?k3q9 ?k4q9 ?k5q9 ?kKq9 ?kdq9 ?kuq9 ?_); (case h0q9 => assumption); (case k1q9 => k_asm); (case k2q9 => k_asm); (case k3q9 => k_asm); (case k4q9 => k_asm); (case k5q9 => k_asm); (case kKq9 => first | exact rfl | assumption); (case kdq9 => k_room); (case kuq9 => ktr_units)); intro h'q9 tk'q9 t'q9 F'q9 N'q9; (try dsimp only); (try k_sweep); walk_say "NORM")
  k_with "call ref" => (k_here; k_dflt (show wpAny _ _ (call (Value.ref 910) [Value.str _ _]) _ _ _); k_dflt (refine' anyE (splitK _ _ _ _ _ _ _ _ _ _  ?h0q9 ?h1q9 ?h2q9 _ _ _ _ _ _ _ _ _ _ _ _ _ ?k1q9 ?k2q9 ?k3q9 ?k4q9 ?k5q9 ?kKq9 ?kdq9 ?kuq9 ?_); (case h0q9 => assumption); (case h1q9 => assumption); (case h2q9 => assumption); (case k1q9 => k_asm); (case k2q9 => k_asm); (case k3q9 => k_asm); (case k4q9 => k_asm); (case k5q9 => k_asm); (case kKq9 => first | exact rfl | assumption); (case kdq9 => k_room); (case kuq9 => ktr_units)); intro h'q9 tk'q9 S'q9 us'q9 c3'q9 hus'q9 F'q9 N'q9; (try dsimp only); (try k_sweep); walk_say "SPLITK")
  trivial
set_option maxRecDepth 100000 in
set_option maxHeartbeats 0 in
theorem law3 : ∀ (w : World) (p : Program) (loose : List Str) (mean : ExcName → Option Value) (mg mb : Str → Option Value) (h₀ : Heap) (L fa : Addr) (cd : Value) (rest : List Stmt) (s : Shared) (Q : Flow → Shared → Prop) (E : Value → Shared → Prop) (o1 o2 o3 o4 : Obj) (nl : Addr) (us : List Value) (c : Nat) (line : Str) (t : Tok) (ws : List Str),
   (K w.params).In h₀ → Top p loose mean mg mb h₀ → Below callerA h₀ [] h₀ →
   TokL line ws →
   line.length ≤ 1000000 →
   ws.length ≤ 1000 →
   (∀ z ∈ ws, NOk (under slash z) ∧ z.length ≤ 10000 ∧ Txt.startswith z (Str.ofString "/") = false) →
   Fr h₀ L s.heap (fun y => if y = Str.ofString "line" then some (.str line t) else if y = Str.ofString "numbers" then some (.ref nl) else none) → News h₀ L s.heap ((nl, listO us.toArray c) :: cellL L o1 o2 o3 o4) →
   (∀ (h' : Heap) (tk' : Nat) (D : Addr) (ps : List Value) (c2 : Nat) (_ : StrsAre ps (ws.map fun z => normF (under slash z))), Fr h₀ L h' (fun y => if y = Str.ofString "paths" then some (.ref D) else if y = Str.ofString "line" then some (.str line t) else if y = Str.ofString "numbers" then some (.ref nl) else none) → News h₀ L h' ((D, listO ps.toArray c2) :: (nl, listO us.toArray c) :: cellL L o1 o2 o3 o4) → wpAny (model (OpenLaw.prog RR) w) (lawA L fa cd) (execs rest (lawE L fa cd)) Q E { s with heap := h', toks := tk' }) →
   wpAny (model (OpenLaw.prog RR) w) (lawA L fa cd) (execs ((lawB.drop 2).take 1 ++ rest) (lawE L fa cd)) Q E s := by
  k_fill
  intro w p loose mean mg mb h₀ L fa cd rest s Q E o1 o2 o3 o4 nl us c line t ws X T B htk hll hwl hok F N hret
  have hS : lawS = ⟨_, _, _, _, _⟩ := rfl
  have hB : lawB = (_ :: _ :: _ :: _ :: _ :: _ :: _ :: _ :: _ :: _ :: _ :: _ :: _ :: _ :: _ :: _ :: []) := rfl
  rw [hB]
  simp only [lawE, lawA, hS] at hret ⊢
  clear hS hB
  show wpAny _ _ (execs (_ :: rest) _) _ _ _
  have z0 : (((Str.ofString "/").length : Int) != 0) = true := by decide +kernel
  have z1 : (Str.ofString "/").length ≤ 10000 := by decide +kernel
  k_steps
  rename StrsAre _ ws => hvs
  refine comp_S (fun i ys => StrsAre ys ((ws.take i).map fun z => normF (under slash z))) .nil ?turn ?fin
  case turn =>
    rintro i v ys I oI C oC D m₂ h tk hi hP hys hC hx F8 N8 off ne
    obtain ⟨x, t9, hxi, rfl⟩ := strs_get hvs (by simpa using hP)
    obtain ⟨a1, a2, a3⟩ := hok x (List.mem_of_getElem? hxi)
    have hoff := off
    simp only [LCg.Off3, and_true] at off
    obtain ⟨⟨e1, e2, e3⟩, ⟨e4, e5, e6⟩, ⟨e7, e8, e9⟩, ⟨e10, e11, e12⟩, ⟨e13, e14, e15⟩, e16, e17, e18⟩ := off
    k_steps
    all_goals exact strs_take hys hxi rfl
  case fin =>
    rintro ys hys
    have hlen := strsAre_len hvs
    rw [List.size_toArray, hlen, List.take_length] at hys
    k_steps
    all_goals (rename News _ _ _ _ => N6; exact hret _ _ _ _ _ hys (by assumption) (news_sub N6 fun q hq => (List.mem_cons.mp hq).elim (fun e => e ▸ .head _) fun h => .tail _ (.tail _ h)))
end Mine
end
section
open PySem PySem.W PySem.Calls PySem.Spec PyProof.Rows
set_option maxRecDepth 100000
namespace Mine
section
variable {prog : Program} {w : World} {A : Around} {E : Value → Shared → Prop} {s : Shared} {h₀ : Heap} {L l b : Addr} {news : List (Addr × Obj)} {vs us : List Value} {ws : List Str} {c c2 : Nat} {Q : Value → Shared → Prop} {oa ob : Obj}
theorem strs_at {vs us : List Value} {ws : List Str} (h1 : StrsAre vs ws) (h2 : StrsAre us ws) (j : Nat) (a : j < vs.length) (b : j < us.length) : SeqAt.EqAt A s vs[j] us[j] true := by
  obtain ⟨x, t, hx, e1⟩ := strs_get h1 (List.getElem?_eq_getElem a)
  obtain ⟨y, u, hy, e2⟩ := strs_get h2 (List.getElem?_eq_getElem b)
  rw [hx] at hy
  cases hy
  rw [e1, e2]
  have := SeqAt.EqAt.str_str (A := A) (s := s) x t x u
  rwa [beq_self_eq_true] at this
theorem all_true (n : Nat) : ((List.range n).all fun _ => true) = true := by simp
theorem ne_strs (N : News h₀ L s.heap news) (ha : (l, oa) ∈ news) (hb : (b, ob) ∈ news) (ea : oa = listO vs.toArray c) (eb : ob = listO us.toArray c2) (h1 : StrsAre vs ws) (h2 : StrsAre us ws) (hu : A.units < cLine) (h : Q (.bool false) s) : wpAny (model prog w) A (compareOp .NotEq (.ref l) (.ref b)) Q E s := by
  subst ea eb
  have hl : s.heap.IsList l vs.toArray := ⟨_, (N _ ha).1, rfl, _, rfl⟩
  have hb' : s.heap.IsList b us.toArray := ⟨_, (N _ hb).1, rfl, _, rfl⟩
  have e := strsAre_len h1
  have e2 := strsAre_len h2
  refine SeqAt.RcNeAt.lists (e := fun _ => true) hl hb' (by simp [e, e2]) hu (fun j a b => ?_) prog w E Q ?_
  · exact strs_at h1 h2 j (by simpa using a) (by simpa using b)
  · rw [all_true]; exact h
theorem eq_strs (N : News h₀ L s.heap news) (ha : (l, oa) ∈ news) (hb : (b, ob) ∈ news) (ea : oa = listO vs.toArray c) (eb : ob = listO us.toArray c2) (h1 : StrsAre vs ws) (h2 : StrsAre us ws) (hu : A.units < cLine) (h : Q (.bool true) s) : wpAny (model prog w) A (compareOp .Eq (.ref l) (.ref b)) Q E s := by
  subst ea eb
  have hl : s.heap.IsList l vs.toArray := ⟨_, (N _ ha).1, rfl, _, rfl⟩
  have hb' : s.heap.IsList b us.toArray := ⟨_, (N _ hb).1, rfl, _, rfl⟩
  have e := strsAre_len h1
  have e2 := strsAre_len h2
  refine SeqAt.RcAt.lists (e := fun _ => true) hl hb' (by simp [e, e2]) hu (fun j a b => ?_) prog w E Q ?_
  · exact strs_at h1 h2 j (by simpa using a) (by simpa using b)
  · rw [all_true]; exact h
theorem eq_empty (N : News h₀ L s.heap news) (ha : (l, oa) ∈ news) (hb : (b, ob) ∈ news) (ea : oa = listO vs.toArray c) (eb : ob = listO (List.toArray []) c2) (hu : A.units < cLine) (h : Q (.bool vs.isEmpty) s) : wpAny (model prog w) A (compareOp .Eq (.ref l) (.ref b)) Q E s := by
  subst ea eb
  have hl : s.heap.IsList l vs.toArray := ⟨_, (N _ ha).1, rfl, _, rfl⟩
  have hb' : s.heap.IsList b (List.toArray []) := ⟨_, (N _ hb).1, rfl, _, rfl⟩
  cases vs with
  | nil =>
    refine SeqAt.RcAt.lists (e := fun _ => true) hl hb' rfl hu (fun j a b => ?_) prog w E Q ?_
    · simp at a
    · exact h
  | cons v vs => exact SeqAt.RcAt.lists_lengths hl hb' (by simp) hu prog w E Q h
end
theorem join_small' {x : Int} {sep : Str} (hs : sep.length ≤ 4) : (Txt.join sep (namesF x)).length ≤ 60 := by
  refine len_join_le (n := 14) ?_ hs
  have h1 : ∀ l : List Str, (∀ y ∈ l, y.length ≤ 4) → (l.map (·.length)).sum ≤ 4 * l.length := by
    intro l
    induction l with
    | nil => intro _; exact Nat.le_refl _
    | cons a r ih =>
      intro h
      have h2 := ih fun y hy => h y (.tail _ hy)
      have h3 := h a (.head _)
      simp only [List.map_cons, List.sum_cons, List.length_cons]
      omega
  have h2 := h1 (namesF x) names_small
  have h3 := names_len3 (x := x)
  show ((namesF x).map (·.length)).sum + (namesF x).length ≤ 15
  omega
theorem join_small {x : Int} : (Txt.join (Str.ofString "/") (namesF x)).length ≤ 60 := join_small' (by decide +kernel)
noncomputable def pathF (x : Int) : Str := Str.ofString "/" ++ Txt.join (Str.ofString "/") (namesF x)
end Mine
end
section
open PySem PySem.W PySem.Calls PySem.Spec PyProof.Rows
namespace Mine
theorem kw_Z4_1 : True := by
  k_with_none
  k_with "execs cons" => (first | (k_here; k_gentoks) | (refine' execs_one ?_) | (refine' execs_let ?_; intro Cq9))
  k_with "ite" => (first | (k_closed; first | refine ite_pos (by decide +kernel) ?_ | refine ite_neg (by decide +kernel) ?_) | refine ite_pos (by with_reducible assumption) ?_ | refine ite_neg (by with_reducible assumption) ?_ | refine ite_isFalse (by with_reducible assumption) ?_)
  k_with "CompSrc" => (k_here; k_dflt (refine LCg.CompSrc.ledger (by with_unfolding_all rfl) (by k_asm) (by k_asm) (by k_mem) ?zzq9 ?_); (case zzq9 => ((try simp only [List.size_toArray]); rw [sizeLine_eq]; omega)))
  k_with "eval ListComp" => (k_here; k_dflt (refine LCg.ListComp_U (F₀ := by k_asm) (by with_unfolding_all rfl) (by decide) (by rfl) (by decide) (by rfl) ?_))
  k_with "call ref" => (k_here; k_dflt (show wpAny _ _ (call (Value.ref 928) [Value.int _ _]) _ _ _); k_dflt (refine' anyE (lawnamesC _ _ _ _ _ _ _ _ _ _ _ _ _ _ _ _ _ _ _ _ _ _ _ _ _ ?k1q9 ?k2q9 ?k3q9 ?k4q9 ?k5q9 ?kKq9 ?kdq9 ?kuq9 ?_); (case k1q9 => k_asm); (case k2q9 => k_asm); (case k3q9 => k_asm); (case k4q9 => k_asm); (case k5q9 => k_asm); (case kKq9 => first | exact rfl | assumption); (case kdq9 => k_room); (case kuq9 => ktr_units)); intro h'q9 tk'q9 D'q9 vs'q9 hvs'q9 F'q9 N'q9; (try dsimp only); (try k_sweep); walk_say "NAMES")
  k_with "binaryOp Add str str" => (k_here; (with_reducible show wpAny _ _ (binaryOp Operator.Add (Value.str _ _) (Value.str _ _)) _ _ _); k_dflt (refine' SBL.add ?_ ?hszq9; (case hszq9 => ((try simp only [slen]); rw [sizeLine_eq]; omega))); intro t'q9 k'q9 l'q9; clear l'q9)
  k_with "compareOp NotEq ref ref" => (k_here; k_dflt (refine' ne_strs ?k1q9 ?haq9 ?hbq9 ?eaq9 ?ebq9 ?h1q9 ?h2q9 ?huq9 ?_; (case k1q9 => k_asm); (case haq9 => k_mem); (case hbq9 => k_mem); (case eaq9 => exact rfl); (case ebq9 => exact rfl); (case h1q9 => assumption); (case h2q9 => assumption); (case huq9 => k_units); k_whole); walk_say "NE")
  trivial
set_option maxRecDepth 100000 in
set_option maxHeartbeats 0 in
theorem law4 : ∀ (w : World) (p : Program) (loose : List Str) (mean : ExcName → Option Value) (mg mb : Str → Option Value) (h₀ : Heap) (L fa : Addr) (cd : Value) (rest : List Stmt) (s : Shared) (Q : Flow → Shared → Prop) (E : Value → Shared → Prop) (o1 o2 o3 o4 : Obj) (nl pl : Addr) (us ps : List Value) (c c2 : Nat) (line : Str) (t : Tok) (ns : List Int),
   (K w.params).In h₀ → Top p loose mean mg mb h₀ → Below callerA h₀ [] h₀ →
   IntsAre us (numsF ns) →
   StrsAre ps ((numsF ns).map pathF) →
   Fr h₀ L s.heap (fun y => if y = Str.ofString "paths" then some (.ref pl) else if y = Str.ofString "line" then some (.str line t) else if y = Str.ofString "numbers" then some (.ref nl) else none) → News h₀ L s.heap ((pl, listO ps.toArray c2) :: (nl, listO us.toArray c) :: cellL L o1 o2 o3 o4) →
   (∀ (h' : Heap) (tk' : Nat) , Fr h₀ L h' (fun y => if y = Str.ofString "paths" then some (.ref pl) else if y = Str.ofString "line" then some (.str line t) else if y = Str.ofString "numbers" then some (.ref nl) else none) → News h₀ L h' ((pl, listO ps.toArray c2) :: (nl, listO us.toArray c) :: cellL L o1 o2 o3 o4) → wpAny (model (OpenLaw.prog RR) w) (lawA L fa cd) (execs rest (lawE L fa cd)) Q E { s with heap := h', toks := tk' }) →
   wpAny (model (OpenLaw.prog RR) w) (lawA L fa cd) (execs ((lawB.drop 3).take 1 ++ rest) (lawE L fa cd)) Q E s := by
  k_fill
  intro w p loose mean mg mb h₀ L fa cd rest s Q E o1 o2 o3 o4 nl pl us ps c c2 line t ns X T B hus hps F N hret
  have hS : lawS = ⟨_, _, _, _, _⟩ := rfl
  have hB : lawB = (_ :: _ :: _ :: _ :: _ :: _ :: _ :: _ :: _ :: _ :: _ :: _ :: _ :: _ :: _ :: _ :: []) := rfl
  rw [hB]
  simp only [lawE, lawA, hS] at hret ⊢
  clear hS hB
  show wpAny _ _ (execs (_ :: rest) _) _ _ _
  have hul := ints_len hus
  have hnl := nums_len ns
  k_steps
  refine comp_S (fun i ys => StrsAre ys (((numsF ns).take i).map pathF)) .nil ?turn ?fin
  case turn =>
    rintro i v ys I oI C oC D m₂ h tk hi hP hys hC hx F8 N8 off ne
    obtain ⟨x, t, hxi, rfl⟩ := ints_get hus (by simpa using hP)
    have hoff := off
    (try simp only [LCg.Off3, and_true] at off)
    k_steps
    rename News _ _ _ _ => N9
    rename StrsAre _ (namesF x) => hnm
    have hsum : ((namesF x).map (·.length)).sum + (namesF x).length * 64 ≤ 16777216 := by
      have h1 := sum_len_le (ys := namesF x) (B := 4) names_small
      have h2 := names_len3 (x := x)
      omega
    refine join_listC (News.isList N9 (.head _)) hnm (by decide +kernel) hsum ?_
    intro t9 k9
    have z1 : (Str.ofString "/").length = 1 := rfl
    have z2 := join_small (x := x)
    k_steps
    all_goals (rename News _ _ _ _ => N7; exact ⟨_, _, _, rfl, by assumption, news_sub N7 fun q hq => .tail _ hq, hoff, .inr ⟨_, .tail _ (.head _), rfl, _, rfl⟩, map_take hys hxi rfl, rfl⟩)
  case fin =>
    rintro ys hys
    have hlen : us.toArray.size = (numsF ns).length := by simpa using hul
    rw [hlen, List.take_length] at hys
    k_steps
    all_goals (rename News _ _ _ _ => N6; exact hret _ _ (by assumption) (news_sub N6 fun q hq => .tail _ hq))
end Mine
end
section
open PySem PySem.W PySem.Calls PySem.Spec PyProof.Rows
set_option maxRecDepth 100000
namespace Mine
noncomputable def climbF : Nat → List Str → Str → List Str
  | 0, tr, _ => tr
  | n + 1, tr, q => if (q == Str.ofString "/") = true then tr else if (tr.any (· == q)) = true then tr else climbF n (tr ++ [q]) (dirF q)
noncomputable def ClimbOk : Nat → Str → Prop
  | 0, q => (q == Str.ofString "/") = true
  | n + 1, q => (q == Str.ofString "/") = true ∨ (q.length ≤ 10000 ∧ ClimbOk n (dirF q))
noncomputable def treeF (l : List Str) : List Str := l.foldl (climbF 5) []
theorem climb_1 {n : Nat} {tr : List Str} {q : Str} (h : (q == Str.ofString "/") = true) : climbF n tr q = tr := by
  cases n with
  | zero => rfl
  | succ n => unfold climbF; rw [if_pos h]
theorem climb_2 {n : Nat} {tr : List Str} {q : Str} (h : (tr.any (· == q)) = true) : climbF n tr q = tr := by
  cases n with
  | zero => rfl
  | succ n =>
    unfold climbF
    by_cases e : (q == Str.ofString "/") = true
    · rw [if_pos e]
    · rw [if_neg e, if_pos h]
theorem climb_3 {n : Nat} {tr : List Str} {q : Str} (h1 : (q == Str.ofString "/") = false) (h2 : (tr.any (· == q)) = false) : climbF (n + 1) tr q = climbF n (tr ++ [q]) (dirF q) := by
  show (if _ then _ else if _ then _ else _) = _
  rw [if_neg (by rw [h1]; decide), if_neg (by rw [h2]; decide)]
theorem climb_len : ∀ {n : Nat} {tr : List Str} {q : Str}, (climbF n tr q).length ≤ tr.length + n
  | 0, _, _ => Nat.le_refl _
  | n + 1, tr, q => by
    unfold climbF
    split
    · omega
    · split
      · omega
      · refine Nat.le_trans climb_len ?_
        simp only [List.length_append, List.length_cons, List.length_nil]
        omega
theorem tree_snoc {l : List Str} {i : Nat} {q : Str} (h : l[i]? = some q) : treeF (l.take (i + 1)) = climbF 5 (treeF (l.take i)) q := by
  unfold treeF
  rw [List.take_add_one, h]
  simp
theorem tree_len (l : List Str) : ∀ i, (treeF (l.take i)).length ≤ 5 * i
  | 0 => by simp [treeF]
  | i + 1 => by
    cases h : l[i]? with
    | none =>
      have e : l.take (i + 1) = l.take i := by rw [List.take_add_one, h]; simp
      rw [e]
      have := tree_len l i
      omega
    | some q =>
      rw [tree_snoc h]
      have := tree_len l i
      have := climb_len (n := 5) (tr := treeF (l.take i)) (q := q)
      omega
theorem news_swap {g h : Heap} {L : Addr} {r : List (Addr × Obj)} {a b : Addr × Obj} (N : News g L h (a :: b :: r)) : News g L h (b :: a :: r) := news_sub N fun q hq => by
  rcases List.mem_cons.mp hq with rfl | hq
  · exact .tail _ (.head _)
  rcases List.mem_cons.mp hq with rfl | hq
  · exact .head _
  · exact .tail _ (.tail _ hq)
section
variable {prog : Program} {w : World} {A : Around} {E : Value → Shared → Prop} {s : Shared} {h₀ : Heap} {L l : Addr} {news : List (Addr × Obj)} {vs : List Value} {ws : List Str} {c : Nat} {Q : Value → Shared → Prop} {oa : Obj}
theorem any_strs {vs : List Value} {ws : List Str} {q : Str} (h : StrsAre vs ws) : (vs.toArray.any fun v => match v with | .str y _ => y == q | _ => false) = ws.any (· == q) := by
  rw [List.any_toArray]
  induction h with
  | nil => rfl
  | cons y t h ih => simp only [List.any_cons, ih]
theorem notin_strs {q : Str} {t : Tok} (N : News h₀ L s.heap news) (ha : (l, oa) ∈ news) (ea : oa = listO vs.toArray c) (h1 : StrsAre vs ws) (h : Q (.bool (!(ws.any (· == q)))) s) : wpAny (model prog w) A (compareOp .NotIn (.str q t) (.ref l)) Q E s := by
  subst ea
  have hl : s.heap.IsList l vs.toArray := ⟨_, (N _ ha).1, rfl, _, rfl⟩
  refine SeqAt.notIn_listAt (fun v => match v with | .str y _ => y == q | _ => false) hl (fun y hy => ?_) ?_
  · obtain ⟨x, t, rfl⟩ := h1.all y (by simpa using hy)
    exact SeqAt.EqAt.str_str x t q _
  · rw [any_strs h1]; exact h
theorem in_strs {q : Str} {t : Tok} (N : News h₀ L s.heap news) (ha : (l, oa) ∈ news) (ea : oa = listO vs.toArray c) (h1 : StrsAre vs ws) (h : Q (.bool (ws.any (· == q))) s) : wpAny (model prog w) A (compareOp .In (.str q t) (.ref l)) Q E s := by
  subst ea
  have hl : s.heap.IsList l vs.toArray := ⟨_, (N _ ha).1, rfl, _, rfl⟩
  refine SeqAt.in_listAt (fun v => match v with | .str y _ => y == q | _ => false) hl (fun y hy => ?_) ?_
  · obtain ⟨x, t, rfl⟩ := h1.all y (by simpa using hy)
    exact SeqAt.EqAt.str_str x t q _
  · rw [any_strs h1]; exact h
end
end Mine
end
section
open PySem PySem.W PySem.Calls PySem.Spec PyProof.Rows
namespace Mine
theorem kw_Z5_1 : True := by
  k_with_none
  k_with "execs cons" => (first | (k_here; k_gentoks) | (refine' execs_one ?_) | (refine' execs_let ?_; intro Cq9))
  k_with "ite" => (first | (k_closed; first | refine ite_pos (by decide +kernel) ?_ | refine ite_neg (by decide +kernel) ?_) | refine ite_pos (by with_reducible assumption) ?_ | refine ite_neg (by with_reducible assumption) ?_ | refine ite_isFalse (by with_reducible assumption) ?_)
  k_with "exec For Name Name nil nil" => (k_here; k_dflt (refine' wpAny_For ?_ ?hsq9; (case hsq9 => intro _; rfl); k_whole))
  k_with "exec For Name Name cons nil" => (k_here; k_dflt (refine' wpAny_For ?_ ?hsq9; (case hsq9 => intro _; rfl); k_whole))
  k_with "exec While" => (k_here; k_dflt (refine' wpAny_While (Stop9.h ?_)))
  k_with "compareOp NotIn str ref" => (k_here; k_dflt (refine' notin_strs ?k1q9 ?haq9 ?eaq9 ?h1q9 ?_; (case k1q9 => k_asm); (case haq9 => k_mem); (case eaq9 => exact rfl); (case h1q9 => assumption); k_whole); walk_say "NOTIN")
  k_with "call builtin:list.append" => (k_here; k_dflt (refine' app_list ?k1q9 ?k2q9 ?k3q9 ?k4q9 ?_; (case k1q9 => k_asm); (case k2q9 => assumption); (case k3q9 => assumption); (case k4q9 => assumption); k_whole); intro h'q9 c'q9 F'q9 N'q9; (try dsimp only); (try k_sweep); walk_say "APP")
  k_with "call ref" => (k_here; k_dflt (show wpAny _ _ (call (Value.ref 203) [Value.str _ _]) _ _ _); k_dflt (refine' anyE (dirnameC _ _ _ _ _ _ _ _ _  ?h0q9 _ _ _ _ _ _ _ _ _ _ _ _ _ _ _ _ ?k1q9 ?k2q9 ?k3q9 ?k4q9 ?k5q9 ?kKq9 ?kdq9 ?kuq9 ?_); (case h0q9 => assumption); (case k1q9 => k_asm); (case k2q9 => k_asm); (case k3q9 => k_asm); (case k4q9 => k_asm); (case k5q9 => k_asm); (case kKq9 => first | exact rfl | assumption); (case kdq9 => k_room); (case kuq9 => ktr_units)); intro h'q9 tk'q9 t'q9 F'q9 N'q9; (try dsimp only); (try k_sweep); walk_say "DIRN")
  trivial
theorem fr_set2 {g h : Heap} {L : Addr} {x : Str} {v v' : Option Value} {m : Str → Option Value} (F : Fr g L h (fun y => if y = x then v else if y = x then v' else m y)) : Fr g L h (fun y => if y = x then v else m y) := by
  refine fr_eq F (funext fun y => ?_)
  by_cases hy : y = x
  · rw [if_pos hy, if_pos hy]
  · rw [if_neg hy, if_neg hy, if_neg hy]
inductive ClimbInv (L D it pl nl : Addr) (oi : Obj) (g : Heap) (ws : List Str) (i : Nat) (z line : Str) (t : Tok) (ps us : List Value) (c c2 : Nat) (o1 o2 o3 o4 : Obj) (s : Shared) (n : Nat) (s' : Shared) : Prop
  | mk (h : Heap) (tk : Nat) (q : Str) (t7 : Tok) (tr : List Str) (ts : List Value) (k9 : Nat) (e : s' = { s with heap := h, toks := tk }) (h1 : ClimbOk n q) (h2 : climbF n tr q = climbF 5 (treeF (ws.take i)) z) (h3 : tr.length + n ≤ 1000) (h4 : StrsAre ts tr)
    (F : Fr g L h (fun y => if y = Str.ofString "path" then some (.str q t7) else if y = Str.ofString "tree" then some (.ref D) else if y = Str.ofString "paths" then some (.ref pl) else if y = Str.ofString "line" then some (.str line t) else if y = Str.ofString "numbers" then some (.ref nl) else none))
    (N : News g L h ((D, listO ts.toArray k9) :: (it, oi) :: (pl, listO ps.toArray c2) :: (nl, listO us.toArray c) :: cellL L o1 o2 o3 o4))
set_option maxRecDepth 100000 in
set_option maxHeartbeats 0 in
theorem law5 : ∀ (w : World) (p : Program) (loose : List Str) (mean : ExcName → Option Value) (mg mb : Str → Option Value) (h₀ : Heap) (L fa : Addr) (cd : Value) (rest : List Stmt) (s : Shared) (Q : Flow → Shared → Prop) (E : Value → Shared → Prop) (o1 o2 o3 o4 : Obj) (nl pl : Addr) (us ps : List Value) (c c2 : Nat) (line : Str) (t : Tok) (ws : List Str),
   (K w.params).In h₀ → Top p loose mean mg mb h₀ → Below callerA h₀ [] h₀ →
   StrsAre ps ws →
   ws.length ≤ 100 →
   (∀ z ∈ ws, ClimbOk 5 z) →
   Fr h₀ L s.heap (fun y => if y = Str.ofString "paths" then some (.ref pl) else if y = Str.ofString "line" then some (.str line t) else if y = Str.ofString "numbers" then some (.ref nl) else none) → News h₀ L s.heap ((pl, listO ps.toArray c2) :: (nl, listO us.toArray c) :: cellL L o1 o2 o3 o4) →
   (∀ (h' : Heap) (tk' : Nat) (D : Addr) (ts : List Value) (c3 : Nat) (pv : Option Value) (_ : StrsAre ts (treeF ws)), Fr h₀ L h' (fun y => if y = Str.ofString "path" then pv else if y = Str.ofString "tree" then some (.ref D) else if y = Str.ofString "paths" then some (.ref pl) else if y = Str.ofString "line" then some (.str line t) else if y = Str.ofString "numbers" then some (.ref nl) else none) → News h₀ L h' ((D, listO ts.toArray c3) :: (pl, listO ps.toArray c2) :: (nl, listO us.toArray c) :: cellL L o1 o2 o3 o4) → wpAny (model (OpenLaw.prog RR) w) (lawA L fa cd) (execs rest (lawE L fa cd)) Q E { s with heap := h', toks := tk' }) →
   wpAny (model (OpenLaw.prog RR) w) (lawA L fa cd) (execs ((lawB.drop 4).take 2 ++ rest) (lawE L fa cd)) Q E s := by
  k_fill
  intro w p loose mean mg mb h₀ L fa cd rest s Q E o1 o2 o3 o4 nl pl us ps c c2 line t ws X T B hps hwl hok F N hret
  have hS : lawS = ⟨_, _, _, _, _⟩ := rfl
  have hB : lawB = (_ :: _ :: _ :: _ :: _ :: _ :: _ :: _ :: _ :: _ :: _ :: _ :: _ :: _ :: _ :: _ :: []) := rfl
  rw [hB]
  simp only [lawE, lawA, hS] at hret ⊢
  clear hS hB
  show wpAny _ _ (execs (_ :: _ :: rest) _) _ _ _
  k_steps
  rename News _ _ _ _ => N4
  rename Fr _ _ _ _ => F4
  (with_reducible rename _ ∧ _ ∧ _ ∧ _ ∧ _ ∧ _ => hh)
  obtain ⟨a1, a2, a3, a4, a5, a6⟩ := hh
  have hne : ∀ D : Addr, pl < D → nl < D → L + 1 + 1 + 1 + 1 < D → L + 1 + 1 + 1 < D → L + 1 + 1 < D → L + 1 < D → ∀ q ∈ (pl, listO ps.toArray c2) :: (nl, listO us.toArray c) :: cellL L o1 o2 o3 o4, q.1 ≠ D := by
    intro D b1 b2 b3 b4 b5 b6 q hq
    simp only [cellL, List.mem_cons, List.not_mem_nil, or_false] at hq
    rcases hq with rfl | rfl | rfl | rfl | rfl | rfl
    · exact Nat.ne_of_lt b1
    · exact Nat.ne_of_lt b2
    · exact Nat.ne_of_lt b3
    · exact Nat.ne_of_lt b4
    · exact Nat.ne_of_lt b5
    · exact Nat.ne_of_lt b6
  have hne' := hne _ a1 a2 a3 a4 a5 a6
  obtain ⟨D, c0, N5, F5, hneD⟩ : ∃ D c0, News h₀ L _ ((D, listO ([] : List Value).toArray c0) :: (pl, listO ps.toArray c2) :: (nl, listO us.toArray c) :: cellL L o1 o2 o3 o4) ∧
      Fr h₀ L _ (fun y => if y = Str.ofString "tree" then some (.ref D) else if y = Str.ofString "paths" then some (.ref pl) else if y = Str.ofString "line" then some (.str line t) else if y = Str.ofString "numbers" then some (.ref nl) else none) ∧
      ∀ q ∈ (pl, listO ps.toArray c2) :: (nl, listO us.toArray c) :: cellL L o1 o2 o3 o4, q.1 ≠ D := ⟨_, _, N4, F4, hne'⟩
  clear N4 F4 hne hne' a1 a2 a3 a4 a5 a6
  refine' for_listE (s := Shared.mk _ s.gens s.drawn _ s.os) (L := L) (vs := ps) (lo := listO ps.toArray c2) (c := c2) (fun i g m' led' => g = h₀ ∧ ∃ ts k9, (∀ y, y ≠ Str.ofString "path" → m' y = if y = Str.ofString "tree" then some (.ref D) else if y = Str.ofString "paths" then some (.ref pl) else if y = Str.ofString "line" then some (.str line t) else if y = Str.ofString "numbers" then some (.ref nl) else none) ∧
        StrsAre ts (treeF (ws.take i)) ∧ led' = (D, listO ts.toArray k9) :: (pl, listO ps.toArray c2) :: (nl, listO us.toArray c) :: cellL L o1 o2 o3 o4)
      ?hh F5 N5 (.tail _ (.head _)) rfl rfl ⟨rfl, [], c0, fun _ _ => rfl, .nil, rfl⟩ ?keepl ?hk ?hsd ?hx ?turn ?done
  case hh => with_unfolding_all rfl
  case keepl =>
    rintro i g m' led' ⟨_, ts, c9, _, _, rfl⟩
    exact .tail _ (.head _)
  case hk => rfl
  case hsd => rfl
  case hx => rfl
  case turn =>
    rintro i v g m' led' it oi h tk hi ⟨rfl, ts, c9, hm, hts, rfl⟩ F1 N1 ne hc
    obtain ⟨z, t9, hz, rfl⟩ := strs_get hps hi
    have hlen := strsAre_len hps
    have hi100 : i < ps.length := by
      rcases Nat.lt_or_ge i ps.length with h | h
      · exact h
      · rw [List.getElem?_eq_none h] at hi; cases hi
    have htl := tree_len ws i
    have hcl := hok z (List.mem_of_getElem? hz)
    have F2 : Fr g L h (fun y => if y = Str.ofString "path" then some (.str z t9) else if y = Str.ofString "tree" then some (.ref D) else if y = Str.ofString "paths" then some (.ref pl) else if y = Str.ofString "line" then some (.str line t) else if y = Str.ofString "numbers" then some (.ref nl) else none) := fr_eq F1 (funext fun y => by
      by_cases hy : y = Str.ofString "path"
      · rw [if_pos hy, if_pos hy]
      · rw [if_neg hy, if_neg hy]; exact hm y hy)
    have hne2 : ∀ q ∈ (it, oi) :: (pl, listO ps.toArray c2) :: (nl, listO us.toArray c) :: cellL L o1 o2 o3 o4, q.1 ≠ D := fun q hq => by
      rcases List.mem_cons.mp hq with rfl | hq
      · exact Ne.symm (ne (D, _) (.head _))
      · exact hneD q hq
    have N2 : News g L h ((D, listO ts.toArray c9) :: (it, oi) :: (pl, listO ps.toArray c2) :: (nl, listO us.toArray c) :: cellL L o1 o2 o3 o4) := news_sub N1 fun q hq => by
      rcases List.mem_cons.mp hq with rfl | hq
      · exact .tail _ (.head _)
      rcases List.mem_cons.mp hq with rfl | hq
      · exact .head _
      · exact .tail _ (.tail _ hq)
    have neD : D ≠ it := ne (D, _) (.head _)
    clear F1 N1 F5 N5
    k_steps
    refine ⟨?_⟩
    refine codeAny_whileLoop (ClimbInv L D it pl nl oi g ws i z line t ps us c c2 o1 o2 o3 o4 s) ?wt 5 ⟨h, _, z, t9, _, ts, c9, rfl, hcl, rfl, by omega, hts, F2, N2⟩
    case wt =>
      clear F2 N2 hts hcl
      rintro n s' ⟨h, tk, q, t7, tr, ts, k9, rfl, hcl, hcf, hln, hts, F2, N2⟩
      have htsl : ts.length ≤ 100000 := by rw [strsAre_len hts]; omega
      have ne7 : ∀ q ∈ (D, listO ts.toArray k9) :: (pl, listO ps.toArray c2) :: (nl, listO us.toArray c) :: cellL L o1 o2 o3 o4, q.1 ≠ it := fun q hq => by
        rcases List.mem_cons.mp hq with rfl | hq
        · exact neD
        · exact ne q (.tail _ hq)
      by_cases e1 : (q == Str.ofString "/") = true
      · have e2 : (q != Str.ofString "/") = false := by simp [bne, e1]
        k_steps
        rename News _ _ _ _ => N7
        rename Fr _ _ _ _ => F7
        refine turn_end F7 (news_swap N7) ne7 ⟨rfl, _, _, fun y hy => if_neg hy, ?_, rfl⟩
        rw [tree_snoc hz, ← hcf, climb_1 e1]
        exact hts
      · have e1' : (q == Str.ofString "/") = false := by simpa using e1
        have e2 : (q != Str.ofString "/") = true := by simp [bne, e1']
        by_cases e3 : tr.any (· == q) = true
        · have e4 : (!(tr.any (· == q))) = false := by rw [e3]; rfl
          k_steps
          rename News _ _ _ _ => N7
          rename Fr _ _ _ _ => F7
          refine turn_end F7 (news_swap N7) ne7 ⟨rfl, _, _, fun y hy => if_neg hy, ?_, rfl⟩
          rw [tree_snoc hz, ← hcf, climb_2 e3]
          exact hts
        · have e3' : tr.any (· == q) = false := by cases h9 : tr.any (· == q) with | true => exact absurd h9 e3 | false => rfl
          have e4 : (!(tr.any (· == q))) = true := by rw [e3']; rfl
          cases n with
          | zero => exact absurd hcl e1
          | succ n =>
            obtain ⟨hql, hcl⟩ := hcl.resolve_left e1
            rw [climb_3 e1' e3'] at hcf
            k_steps
            · exact Nat.lt_succ_self n
            · rename Fr _ _ _ _ => F7
              have F8 := fr_set2 F7
              refine ⟨_, _, _, _, _, _, _, rfl, hcl, hcf, ?_, strsAre_snoc hts _ _, F8, by assumption⟩
              simp only [List.length_append, List.length_cons, List.length_nil]; omega
  case done =>
    rintro g m' led' h tk ⟨rfl, ts, c9, hm, hts, rfl⟩ F1 N1
    rw [strsAre_len hps, List.take_length] at hts
    exact hret h tk D ts c9 (m' (Str.ofString "path")) hts (fr_eq F1 (funext fun y => by
      by_cases hy : y = Str.ofString "path"
      · rw [if_pos hy, hy]
      · rw [if_neg hy]; exact hm y hy)) N1
end Mine
end
section
open PySem PySem.W PySem.Calls PySem.Spec PyProof.Rows
set_option maxRecDepth 100000
namespace Mine
noncomputable abbrev cellP (L : Addr) (o1 o2 o3 o4 : Obj) (pw : List (Addr × Obj)) : List (Addr × Obj) := (L + 1 + 1 + 1 + 1, o1) :: (L + 1 + 1 + 1, o2) :: (L + 1 + 1, o3) :: (L + 1, o4) :: pw
noncomputable def pairF (z : Str) : Str × Str := (dirF z, baseF z)
theorem pairs_snoc {led : List (Addr × Obj)} {a : Addr} {p : Str × Str} {t u : Tok} {k : Nat} : ∀ {vs : List Value} {ps : List (Str × Str)}, PairsAre led vs ps → (a, listO #[.str p.1 t, .str p.2 u] k) ∈ led → PairsAre led (vs ++ [.ref a]) (ps ++ [p])
  | [], [], _, h => ⟨⟨a, t, u, k, rfl, h⟩, trivial⟩
  | _ :: _, _ :: _, h, hm => ⟨h.1, pairs_snoc h.2 hm⟩
  | [], _ :: _, h, _ => h.elim
  | _ :: _, [], h, _ => h.elim
theorem comp_new {h₀ : Heap} {L I C D a : Addr} {m : Str → Option Value} {s₁ : Shared} {oI oC oD oa : Obj} {S : List (Addr × Obj) → Prop} {rest : Value → List (Addr × Obj) → Prop} {y : Value} {h' : Heap} {tk : Nat} {nw : List (Addr × Obj)} {P : Prop}
    (F : Fr h₀ L h' m) (N : News h₀ L h' ((a, oa) :: (I, oI) :: (C, oC) :: (D, oD) :: nw)) (hl : I < a ∧ C < a ∧ D < a ∧ P) (off : LCg.Off3 I C D nw) (hS : S ((a, oa) :: nw)) (r : rest y ((a, oa) :: nw)) :
    LCg.CompEnd h₀ L m s₁ I oI C oC D oD S rest y { s₁ with heap := h', toks := tk } :=
  LCg.CompEnd.intro F N ((a, oa) :: nw) (fun q hq => by
    rcases List.mem_cons.mp hq with rfl | hq
    · exact .tail _ (.head _)
    rcases List.mem_cons.mp hq with rfl | hq
    · exact .tail _ (.tail _ (.head _))
    rcases List.mem_cons.mp hq with rfl | hq
    · exact .tail _ (.tail _ (.tail _ (.head _)))
    rcases List.mem_cons.mp hq with rfl | hq
    · exact .head _
    · exact .tail _ (.tail _ (.tail _ (.tail _ hq)))) ⟨⟨Nat.ne_of_gt hl.1, Nat.ne_of_gt hl.2.1, Nat.ne_of_gt hl.2.2.1⟩, off⟩ hS r
theorem ne_cell {h₀ h : Heap} {L a b : Addr} {l : List (Addr × Obj)} {xs : Array Value} {c : Nat} {o : Obj} {v : Option Value} (N : News h₀ L h l) (ha : (a, listO xs c) ∈ l) (hb : (b, o) ∈ l) (hd : o.data = .cell v) : a ≠ b := fun e => by
  have h1 := (N _ ha).1
  have h2 := (N _ hb).1
  dsimp only at h1 h2
  rw [e, h2] at h1
  cases h1
  cases hd
end Mine
end
section
open PySem PySem.W PySem.Calls PySem.Spec PyProof.Rows
namespace Mine
theorem kw_Z6_1 : True := by
  k_with_none
  k_with "execs cons" => (first | (k_here; k_gentoks) | (refine' execs_one ?_) | (refine' execs_let ?_; intro Cq9))
  k_with "ite" => (first | (k_closed; first | refine ite_pos (by decide +kernel) ?_ | refine ite_neg (by decide +kernel) ?_) | refine ite_pos (by with_reducible assumption) ?_ | refine ite_neg (by with_reducible assumption) ?_ | refine ite_isFalse (by with_reducible assumption) ?_)
  k_with "CompSrc" => (k_here; k_dflt (refine LCg.CompSrc.ledger (by with_unfolding_all rfl) (by k_asm) (by k_asm) (by k_mem) ?zzq9 ?_); (case zzq9 => (simp only [List.size_toArray]; rw [strsAre_len (by assumption), sizeLine_eq]; omega)))
  k_with "exec Assign cons ListComp" => (k_here; k_dflt (refine LCg.Assign_ListComp_U (F₀ := by k_asm) (by rfl) (by with_unfolding_all rfl) (by with_unfolding_all rfl) (by decide) (by rfl) (by decide) (by rfl) (by rfl) (by rfl) ?_))
  k_with "call ref" => (k_here; k_dflt (show wpAny _ _ (call (Value.ref 203) [Value.str _ _]) _ _ _); k_dflt (refine' anyE (dirnameC _ _ _ _ _ _ _ _ _  ?h0q9 _ _ _ _ _ _ _ _ _ _ _ _ _ _ _ _ ?k1q9 ?k2q9 ?k3q9 ?k4q9 ?k5q9 ?kKq9 ?kdq9 ?kuq9 ?_); (case h0q9 => assumption); (case k1q9 => k_asm); (case k2q9 => k_asm); (case k3q9 => k_asm); (case k4q9 => k_asm); (case k5q9 => k_asm); (case kKq9 => first | exact rfl | assumption); (case kdq9 => k_room); (case kuq9 => ktr_units)); intro h'q9 tk'q9 t'q9 F'q9 N'q9; (try dsimp only); (try k_sweep); walk_say "DIRN")
  k_with "call ref" => (k_here; k_dflt (show wpAny _ _ (call (Value.ref 196) [Value.str _ _]) _ _ _); k_dflt (refine' anyE (basenameC _ _ _ _ _ _ _ _ _  ?h0q9 _ _ _ _ _ _ _ _ _ _ _ _ _ _ _ _ ?k1q9 ?k2q9 ?k3q9 ?k4q9 ?k5q9 ?kKq9 ?kdq9 ?kuq9 ?_); (case h0q9 => assumption); (case k1q9 => k_asm); (case k2q9 => k_asm); (case k3q9 => k_asm); (case k4q9 => k_asm); (case k5q9 => k_asm); (case kKq9 => first | exact rfl | assumption); (case kdq9 => k_room); (case kuq9 => ktr_units)); intro h'q9 tk'q9 t'q9 F'q9 N'q9; (try dsimp only); (try k_sweep); walk_say "BASEN")
  trivial
set_option maxRecDepth 100000 in
set_option maxHeartbeats 0 in
theorem law6 : ∀ (w : World) (p : Program) (loose : List Str) (mean : ExcName → Option Value) (mg mb : Str → Option Value) (h₀ : Heap) (L fa : Addr) (cd : Value) (rest : List Stmt) (s : Shared) (Q : Flow → Shared → Prop) (E : Value → Shared → Prop) (o1 o2 o3 o4 : Obj) (nl pl tl : Addr) (us ps ts : List Value) (c c2 c3 : Nat) (line : Str) (t : Tok) (pv : Option Value) (tr : List Str),
   (K w.params).In h₀ → Top p loose mean mg mb h₀ → Below callerA h₀ [] h₀ →
   StrsAre ts tr →
   tr.length ≤ 1000 →
   (∀ z ∈ tr, z.length ≤ 10000) →
   Fr h₀ L s.heap (fun y => if y = Str.ofString "path" then pv else if y = Str.ofString "tree" then some (.ref tl) else if y = Str.ofString "paths" then some (.ref pl) else if y = Str.ofString "line" then some (.str line t) else if y = Str.ofString "numbers" then some (.ref nl) else none) → News h₀ L s.heap ((tl, listO ts.toArray c3) :: (pl, listO ps.toArray c2) :: (nl, listO us.toArray c) :: cellL L o1 o2 o3 o4) →
   (∀ (h' : Heap) (tk' : Nat) (D : Addr) (qs : List Value) (c4 : Nat) (pw : List (Addr × Obj)) (_ : ∀ q ∈ pw, L + 1 + 1 + 1 + 1 < q.1) (_ : PairsAre pw qs (tr.map pairF)), Fr h₀ L h' (fun y => if y = Str.ofString "pairs" then some (.ref D) else if y = Str.ofString "path" then pv else if y = Str.ofString "tree" then some (.ref tl) else if y = Str.ofString "paths" then some (.ref pl) else if y = Str.ofString "line" then some (.str line t) else if y = Str.ofString "numbers" then some (.ref nl) else none) → News h₀ L h' ((D, listO qs.toArray c4) :: (tl, listO ts.toArray c3) :: cellP L o1 o2 o3 o4 pw) → wpAny (model (OpenLaw.prog RR) w) (lawA L fa cd) (execs rest (lawE L fa cd)) Q E { s with heap := h', toks := tk' }) →
   wpAny (model (OpenLaw.prog RR) w) (lawA L fa cd) (execs ((lawB.drop 6).take 1 ++ rest) (lawE L fa cd)) Q E s := by
  k_fill
  intro w p loose mean mg mb h₀ L fa cd rest s Q E o1 o2 o3 o4 nl pl tl us ps ts c c2 c3 line t pv tr X T B hts hwl hok F N hret
  have hS : lawS = ⟨_, _, _, _, _⟩ := rfl
  have hB : lawB = (_ :: _ :: _ :: _ :: _ :: _ :: _ :: _ :: _ :: _ :: _ :: _ :: _ :: _ :: _ :: _ :: []) := rfl
  rw [hB]
  simp only [lawE, lawA, hS] at hret ⊢
  clear hS hB
  show wpAny _ _ (execs (_ :: rest) _) _ _ _
  k_steps
  refine comp_J (fun i ys nw => ∃ pw, nw = pw ++ ((tl, listO ts.toArray c3) :: (pl, listO ps.toArray c2) :: (nl, listO us.toArray c) :: cellL L o1 o2 o3 o4) ∧ (∀ q ∈ pw, L + 1 + 1 + 1 + 1 < q.1) ∧ PairsAre pw ys ((tr.take i).map pairF)) ⟨[], rfl, List.forall_mem_nil _, trivial⟩ ?turn ?fin
  case turn =>
    rintro i v ys nw I oI C oC D m₂ h tk hi hP ⟨pw, hnw, hgt, hys⟩ hC hx F8 N8 off ne
    obtain ⟨x, t9, hxi, rfl⟩ := strs_get hts (by simpa using hP)
    have a1 := hok x (List.mem_of_getElem? hxi)
    have hS : (tl, listO ts.toArray c3) ∈ nw := by rw [hnw]; exact List.mem_append_right _ (.head _)
    k_steps
    rename News _ _ _ _ => N7
    rename Fr _ _ _ _ => F7
    (with_reducible rename _ ∧ _ ∧ _ ∧ AllLt _ nw => hl)
    refine comp_new F7 N7 hl off (.inr ⟨_, .tail _ hS, rfl, _, rfl⟩) ⟨_ :: pw, by rw [hnw]; rfl, List.forall_mem_cons.mpr ⟨allLt_mem hl.2.2.2 (L + 1 + 1 + 1 + 1, o1) (by rw [hnw]; exact List.mem_append_right _ (.tail _ (.tail _ (.tail _ (.head _))))), hgt⟩, ?_⟩
    · rw [List.take_add_one, hxi, List.map_append]
      exact pairs_snoc (pairs_more (fun q hq => .tail _ hq) hys) (.head _)
  case fin =>
    rintro ys nw ⟨pw, hnw, hgt, hys⟩
    rw [List.size_toArray, strsAre_len hts, List.take_length] at hys
    k_steps
    rename News _ _ _ _ => N7
    refine hret _ _ _ _ ys.length pw hgt hys (by assumption) (news_sub N7 ?_)
    rw [hnw]
    try dsimp only [cellP, cellL]
    repeat (refine fmc (by (repeat (first | exact List.mem_cons_self | refine List.mem_cons_of_mem _ ?_ | refine List.mem_append_right _ ?_))) ?_)
    intro q hq
    exact List.mem_cons_of_mem _ (List.mem_append_left _ hq)
end Mine
end
section
open PySem PySem.W PySem.Calls PySem.Spec PyProof.Rows
namespace Mine
theorem kw_Z7_1 : True := by
  k_with_none
  k_with "execs cons" => (first | (k_here; k_gentoks) | (refine' execs_one ?_) | (refine' execs_let ?_; intro Cq9))
  k_with "ite" => (first | (k_closed; first | refine ite_pos (by decide +kernel) ?_ | refine ite_neg (by decide +kernel) ?_) | refine ite_pos (by with_reducible assumption) ?_ | refine ite_neg (by with_reducible assumption) ?_ | refine ite_isFalse (by with_reducible assumption) ?_)
  k_with "zz k_all" => first | assumption | exact List.forall_mem_nil _ | (refine' List.forall_mem_cons.mpr ⟨?aq9, ?bq9⟩; (case aq9 => k_ne); (case bq9 => k_all))
  trivial
set_option maxRecDepth 100000 in
set_option maxHeartbeats 0 in
theorem law7 : ∀ (w : World) (p : Program) (loose : List Str) (mean : ExcName → Option Value) (mg mb : Str → Option Value) (h₀ : Heap) (L fa : Addr) (cd : Value) (rest : List Stmt) (s : Shared) (Q : Flow → Shared → Prop) (E : Value → Shared → Prop) (o1 o2 o3 o4 : Obj) (ql tl pl nl : Addr) (qs ts : List Value) (c3 c4 : Nat) (line : Str) (t : Tok) (pv : Option Value) (pw : List (Addr × Obj)),
   (K w.params).In h₀ → Top p loose mean mg mb h₀ → Below callerA h₀ [] h₀ →
   (∀ q ∈ pw, L + 1 + 1 + 1 + 1 < q.1) →
   o3.data = .cell none →
   Fr h₀ L s.heap (fun y => if y = Str.ofString "pairs" then some (.ref ql) else if y = Str.ofString "path" then pv else if y = Str.ofString "tree" then some (.ref tl) else if y = Str.ofString "paths" then some (.ref pl) else if y = Str.ofString "line" then some (.str line t) else if y = Str.ofString "numbers" then some (.ref nl) else none) → News h₀ L s.heap ((ql, listO qs.toArray c4) :: (tl, listO ts.toArray c3) :: cellP L o1 o2 o3 o4 pw) →
   (∀ (h' : Heap) (tk' : Nat) (nm : Addr) (vs : List Value) (c5 : Nat) (o : Obj) (_ : StrsAre vs n5) (_ : o.data = .cell (some (.ref nm))), Fr h₀ L h' (fun y => if y = Str.ofString "pairs" then some (.ref ql) else if y = Str.ofString "path" then pv else if y = Str.ofString "tree" then some (.ref tl) else if y = Str.ofString "paths" then some (.ref pl) else if y = Str.ofString "line" then some (.str line t) else if y = Str.ofString "numbers" then some (.ref nl) else none) → News h₀ L h' ((nm, listO vs.toArray c5) :: (ql, listO qs.toArray c4) :: (tl, listO ts.toArray c3) :: cellP L o1 o2 o o4 pw) → wpAny (model (OpenLaw.prog RR) w) (lawA L fa cd) (execs rest (lawE L fa cd)) Q E { s with heap := h', toks := tk' }) →
   wpAny (model (OpenLaw.prog RR) w) (lawA L fa cd) (execs ((lawB.drop 7).take 1 ++ rest) (lawE L fa cd)) Q E s := by
  k_fill
  intro w p loose mean mg mb h₀ L fa cd rest s Q E o1 o2 o3 o4 ql tl pl nl qs ts c3 c4 line t pv pw X T B hgt d3 F N hret
  have hS : lawS = ⟨_, _, _, _, _⟩ := rfl
  have hB : lawB = (_ :: _ :: _ :: _ :: _ :: _ :: _ :: _ :: _ :: _ :: _ :: _ :: _ :: _ :: _ :: _ :: []) := rfl
  rw [hB]
  simp only [lawE, lawA, hS] at hret ⊢
  clear hS hB
  show wpAny _ _ (execs (_ :: rest) _) _ _ _
  have p2 : ∀ q ∈ pw, q.1 ≠ L + 1 + 1 := fun q hq => Nat.ne_of_gt (Nat.lt_trans (Nat.lt_succ_self _) (Nat.lt_trans (Nat.lt_succ_self _) (hgt q hq)))
  have p3 : ∀ q ∈ pw, q.1 ≠ L + 1 + 1 + 1 := fun q hq => Nat.ne_of_gt (Nat.lt_trans (Nat.lt_succ_self _) (hgt q hq))
  have p4 : ∀ q ∈ pw, q.1 ≠ L + 1 + 1 + 1 + 1 := fun q hq => Nat.ne_of_gt (hgt q hq)
  have n1 : @Ne Nat ql (L + 1 + 1) := ne_cell N (.head _) (.tail _ (.tail _ (.tail _ (.tail _ (.head _))))) d3
  have n2 : @Ne Nat tl (L + 1 + 1) := ne_cell N (.tail _ (.head _)) (.tail _ (.tail _ (.tail _ (.tail _ (.head _))))) d3
  k_steps
  rename News _ _ _ _ => N6
  refine' hret _ _ _ [_, _, _, _, _] _ _ ?ka ?kb ?kc N6
  case ka => exact .cons _ _ (.cons _ _ (.cons _ _ (.cons _ _ (.cons _ _ .nil))))
  case kb => assumption
  case kc => assumption
end Mine
end
section
open PySem PySem.W PySem.Calls PySem.Spec PyProof.Rows
set_option maxRecDepth 100000
namespace Mine
section
variable {prog : Program} {w : World} {A : Around} {s : Shared}
theorem comp_ST {h₀ : Heap} {L : Addr} {m : Str → Option Value} {env : Env} {ct elt : PySem.Expr} {x : Str} {scope : Scope} {cl : List (Str × Addr)} {S : List (Addr × Obj) → Prop} {P : Nat → Value → Prop} {Fin : List Value → List (Addr × Obj) → Prop} {news : List (Addr × Obj)} {n : Nat}
    (J : Nat → List Value → Prop) (j0 : J 0 [])
    (turn : ∀ i v ys I oI C oC D m₂ h tk, i < n → P i v → J i ys → LCg.NsObj oC m₂ → m₂ x = some v → Fr h₀ L h m → News h₀ L h ((I, oI) :: (C, oC) :: (D, LCg.lst ys) :: news) → LCg.Off3 I C D news → ((@Ne Nat I C) ∧ (@Ne Nat I D) ∧ (@Ne Nat C D)) →
      wpAny (model prog w) A (isTrue ct (compEnvC scope cl C env) (eval ct (compEnvC scope cl C env))) (fun ok s' => if ok = true then
        wpAny (model prog w) A (eval elt (compEnvC scope cl C env)) (LCg.CompEnd h₀ L m { s with heap := h, toks := tk } I oI C oC D (LCg.lst ys) S (fun y news' => J (i + 1) (ys ++ [y]) ∧ news' = news)) (fun _ _ => False) s'
        else LCg.CompEnd h₀ L m { s with heap := h, toks := tk } I oI C oC D (LCg.lst ys) S (fun _ news' => J (i + 1) ys ∧ news' = news) Value.none s') (fun _ _ => False) { s with heap := h, toks := tk })
    (fin : ∀ ys, J n ys → Fin ys news) : LCt.CompRestT prog w A h₀ L m env ct elt x scope cl s S P Fin n 0 [] news := by
  have key : ∀ (j i : Nat) (ys : List Value), i + j = n → J i ys → LCt.CompRestT prog w A h₀ L m env ct elt x scope cl s S P Fin j i ys news := by
    intro j
    induction j with
    | zero =>
      intro i ys hi hJ
      have e : i = n := by omega
      subst e
      exact LCt.CompRestT.zero (fin ys hJ)
    | succ j ih =>
      intro i ys hi hJ
      refine LCt.CompRestT.succ ?_
      intro v I oI C oC D m₂ h tk E' hv hC hx F N off ne
      refine anyE (wpAny_mono (turn i v ys I oI C oC D m₂ h tk (by omega) hv hJ hC hx F N off ne) (fun ok s₂ hq => ?_) fun _ _ e => e)
      cases ok with
      | false =>
        obtain ⟨h', tk', nw, e, F', N', off', hS, hj, rfl⟩ := hq
        exact ⟨h', tk', _, e, F', N', off', hS, ih (i + 1) _ (by omega) hj⟩
      | true =>
        refine anyE (wpAny_mono hq (fun y s₃ hq => ?_) fun _ _ e => e)
        obtain ⟨h', tk', nw, e, F', N', off', hS, hj, rfl⟩ := hq
        exact ⟨h', tk', _, e, F', N', off', hS, ih (i + 1) _ (by omega) hj⟩
  exact key n 0 [] (by omega) j0
end
/-- is the k-th name hidden -/
noncomputable def bitF (ns : List Int) (k : Nat) : Bool := ((((ns.take 6).sum + 18).fdiv ((2 : Int) ^ k)).fmod 2 == 1)
noncomputable def hidF (ns : List Int) : List Str := ((List.range 5).filter (bitF ns)).map fun k => n5.getD k (Str.ofString "")
noncomputable def hidT (ns : List Int) (i : Nat) : List Str := ((List.range i).filter (bitF ns)).map fun k => n5.getD k (Str.ofString "")
theorem hid_snoc (ns : List Int) (i : Nat) : hidT ns (i + 1) = if bitF ns i then hidT ns i ++ [n5.getD i (Str.ofString "")] else hidT ns i := by
  unfold hidT
  rw [List.range_succ, List.filter_append, List.map_append]
  by_cases h : bitF ns i = true
  · simp [h]
  · simp [h]
theorem hid_no {ns : List Int} {i : Nat} {ys : List Value} (h : StrsAre ys (hidT ns i)) (hb : (((ns.take 6).sum + 18).fdiv ((2 : Int) ^ i)).fmod 2 ≠ 1) : StrsAre ys (hidT ns (i + 1)) := by
  have e : bitF ns i = false := by unfold bitF; simpa using hb
  rw [hid_snoc, e]; exact h
theorem hid_yes {ns : List Int} {i : Nat} {ys : List Value} {z : Str} {t : Tok} (h : StrsAre ys (hidT ns i)) (hb : (((ns.take 6).sum + 18).fdiv ((2 : Int) ^ i)).fmod 2 = 1) (hz : z = n5.getD i (Str.ofString "")) : StrsAre (ys ++ [.str z t]) (hidT ns (i + 1)) := by
  have e : bitF ns i = true := by unfold bitF; simpa using hb
  rw [hid_snoc, e, hz]; exact strsAre_snoc h _ _
theorem ne_cellM {h₀ h : Heap} {L a b : Addr} {l : List (Addr × Obj)} {xs : Array Value} {c : Nat} {o : Obj} {v : Option Value} (N : News h₀ L h l) (ha : (a, listO xs c) ∈ l) (hb : (b, o) ∈ l) (hd : o.data = .cell v) : @Ne Nat a b := ne_cell N ha hb hd
end Mine
end
section
open PySem PySem.W PySem.Calls PySem.Spec PyProof.Rows
namespace Mine
theorem kw_Z8_1 : True := by
  k_with_none
  k_with "execs cons" => (first | (k_here; k_gentoks) | (refine' execs_one ?_) | (refine' execs_let ?_; intro Cq9))
  k_with "ite" => (first | (k_closed; first | refine ite_pos (by decide +kernel) ?_ | refine ite_neg (by decide +kernel) ?_) | refine ite_pos (by with_reducible assumption) ?_ | refine ite_neg (by with_reducible assumption) ?_ | refine ite_isFalse (by with_reducible assumption) ?_)
  k_with "CompRestT" => (refine' Stop9.h ?_)
  k_with "zz k_all" => first | assumption | exact List.forall_mem_nil _ | (refine' List.forall_mem_cons.mpr ⟨?aq9, ?bq9⟩; (case aq9 => k_ne); (case bq9 => k_all))
  k_with "call ref" => (k_here; k_dflt (show wpAny _ _ (call (Value.ref 923) [Value.ref _]) _ _ _); k_dflt (refine' anyE (lineC _ _ _ _ _ _ _ _ _ _ _ ?h1q9 ?h2q9 ?h3q9 _ _ _ _ _ _ _ _ _ _ _ _ _ _ _ _ ?k1q9 ?k2q9 ?k3q9 ?k4q9 ?k5q9 ?kKq9 ?kdq9 ?kuq9 ?_); (case h1q9 => assumption); (case h2q9 => assumption); (case h3q9 => assumption); (case k1q9 => k_asm); (case k2q9 => k_asm); (case k3q9 => k_asm); (case k4q9 => k_asm); (case k5q9 => k_asm); (case kKq9 => first | exact rfl | assumption); (case kdq9 => k_room); (case kuq9 => ktr_units)); intro h'q9 tk'q9 t'q9 F'q9 N'q9; (try dsimp only); (try k_sweep); walk_say "LAWLINE")
  k_with "call ref" => (k_here; k_dflt (show wpAny _ _ (call (Value.ref 910) [Value.str _ _]) _ _ _); k_dflt (refine' anyE (splitK _ _ _ _ _ _ _ _ _ _  ?h0q9 ?h1q9 ?h2q9 _ _ _ _ _ _ _ _ _ _ _ _ _ ?k1q9 ?k2q9 ?k3q9 ?k4q9 ?k5q9 ?kKq9 ?kdq9 ?kuq9 ?_); (case h0q9 => assumption); (case h1q9 => assumption); (case h2q9 => assumption); (case k1q9 => k_asm); (case k2q9 => k_asm); (case k3q9 => k_asm); (case k4q9 => k_asm); (case k5q9 => k_asm); (case kKq9 => first | exact rfl | assumption); (case kdq9 => k_room); (case kuq9 => ktr_units)); intro h'q9 tk'q9 S'q9 us'q9 c3'q9 hus'q9 F'q9 N'q9; (try dsimp only); (try k_sweep); walk_say "SPLITK")
  k_with "eval ListComp Subscript cons" => (k_here; k_dflt (refine LCt.ListComp_T (F₀ := by k_asm) (by with_unfolding_all rfl) (by decide) (by rfl) (by decide) (by rfl) ?_))
  k_with "eval ListComp" => (k_here; k_dflt (refine LCt.ListComp_T (F₀ := by k_asm) (by with_unfolding_all rfl) (by decide) (by rfl) (by decide) (by rfl) ?_))
  k_with "CompSrcT" => (k_here; k_dflt (refine LCt.CompSrcT.range (by with_unfolding_all rfl) (by k_asm) (by k_asm) (by assumption) (by first | decide | rfl) (n := 5) (by first | rfl | decide) (by first | size_fits | exact Nat.le_of_ble_eq_true rfl) ?_))
  trivial
set_option maxRecDepth 100000 in
set_option maxHeartbeats 0 in
theorem law8 : ∀ (w : World) (p : Program) (loose : List Str) (mean : ExcName → Option Value) (mg mb : Str → Option Value) (h₀ : Heap) (L fa : Addr) (cd : Value) (rest : List Stmt) (s : Shared) (Q : Flow → Shared → Prop) (E : Value → Shared → Prop) (o1 o2 o3 o4 : Obj) (nm ql tl pl nl sl : Addr) (u1 u2 u3 u4 u5 : Tok) (qs ts svs : List Value) (c3 c4 c5 : Nat) (line : Str) (t : Tok) (pv : Option Value) (pw : List (Addr × Obj)) (ns : List Int),
   (K w.params).In h₀ → Top p loose mean mg mb h₀ → Below callerA h₀ [] h₀ →
   (∀ q ∈ pw, L + 1 + 1 + 1 + 1 < q.1) →
   o3.data = .cell (some (.ref nm)) →
   o2.data = .cell none →
   h₀.IsList sl svs.toArray →
   IntsAre svs ns →
   ns.length ≤ 63 →
   o4.data = .cell (some (.ref sl)) →
   (∀ x ∈ hidF ns, QOk x) →
   TokL (Txt.join (Str.ofString " ") ((hidF ns).map quoteF)) (hidF ns) →
   (Txt.join (Str.ofString " ") ((hidF ns).map quoteF)).length ≤ 1000000 →
   Fr h₀ L s.heap (fun y => if y = Str.ofString "pairs" then some (.ref ql) else if y = Str.ofString "path" then pv else if y = Str.ofString "tree" then some (.ref tl) else if y = Str.ofString "paths" then some (.ref pl) else if y = Str.ofString "line" then some (.str line t) else if y = Str.ofString "numbers" then some (.ref nl) else none) → News h₀ L s.heap ((nm, listO #[.str (Str.ofString "a") u1, .str (Str.ofString "b c") u2, .str (Str.ofString "it's") u3, .str (Str.ofString "#") u4, .str (Str.ofString "-") u5] c5) :: (ql, listO qs.toArray c4) :: (tl, listO ts.toArray c3) :: cellP L o1 o2 o3 o4 pw) →
   (∀ (h' : Heap) (tk' : Nat) (hd : Addr) (hs : List Value) (c6 : Nat) (o : Obj) (_ : StrsAre hs (hidF ns)) (_ : o.data = .cell (some (.ref hd))), Fr h₀ L h' (fun y => if y = Str.ofString "pairs" then some (.ref ql) else if y = Str.ofString "path" then pv else if y = Str.ofString "tree" then some (.ref tl) else if y = Str.ofString "paths" then some (.ref pl) else if y = Str.ofString "line" then some (.str line t) else if y = Str.ofString "numbers" then some (.ref nl) else none) → News h₀ L h' ((hd, listO hs.toArray c6) :: (ql, listO qs.toArray c4) :: (tl, listO ts.toArray c3) :: cellP L o1 o o3 o4 pw) → wpAny (model (OpenLaw.prog RR) w) (lawA L fa cd) (execs rest (lawE L fa cd)) Q E { s with heap := h', toks := tk' }) →
   wpAny (model (OpenLaw.prog RR) w) (lawA L fa cd) (execs ((lawB.drop 8).take 1 ++ rest) (lawE L fa cd)) Q E s := by
  k_fill
  intro w p loose mean mg mb h₀ L fa cd rest s Q E o1 o2 o3 o4 nm ql tl pl nl sl u1 u2 u3 u4 u5 qs ts svs c3 c4 c5 line t pv pw ns X T B hgt d3 d2 hsl hsv h63 d4 hq htk hll F N hret
  have hS : lawS = ⟨_, _, _, _, _⟩ := rfl
  have hB : lawB = (_ :: _ :: _ :: _ :: _ :: _ :: _ :: _ :: _ :: _ :: _ :: _ :: _ :: _ :: _ :: _ :: []) := rfl
  rw [hB]
  simp only [lawE, lawA, hS] at hret ⊢
  clear hS hB
  show wpAny _ _ (execs (_ :: rest) _) _ _ _
  have p2 : ∀ q ∈ pw, q.1 ≠ L + 1 + 1 := fun q hq => Nat.ne_of_gt (Nat.lt_trans (Nat.lt_succ_self _) (Nat.lt_trans (Nat.lt_succ_self _) (hgt q hq)))
  have p3 : ∀ q ∈ pw, q.1 ≠ L + 1 + 1 + 1 := fun q hq => Nat.ne_of_gt (Nat.lt_trans (Nat.lt_succ_self _) (hgt q hq))
  have p4 : ∀ q ∈ pw, q.1 ≠ L + 1 + 1 + 1 + 1 := fun q hq => Nat.ne_of_gt (hgt q hq)
  have hhl : (hidF ns).length ≤ 1000 := by
    unfold hidF
    rw [List.length_map]
    exact Nat.le_trans (List.length_filter_le _ _) (by simp)
  k_steps
  refine ⟨?_⟩
  refine comp_ST (fun i ys => StrsAre ys (hidT ns i)) .nil ?turn ?fin
  case turn =>
    rintro i v ys I oI C oC D m₂ h tk hi hP hys hC hx F8 N8 off ne
    obtain ⟨t9, rfl⟩ := hP
    have hoff := off
    (try simp only [LCg.Off3, and_true] at off)
    have hz : 0 ≤ ((i : Nat) : Int) ∧ ((i : Nat) : Int) < 5 := ⟨Int.natCast_nonneg i, Int.ofNat_lt.mpr hi⟩
    rw [Int.zero_add] at hx
    k_steps
    rotate_left 1
    · rename News _ _ _ _ => N7
      exact ⟨_, _, _, rfl, by assumption, news_sub N7 fun q hq => .tail _ hq, hoff, trivial, hid_no hys (by assumption), rfl⟩
    · rename _ = 1 => hb
      have hb' : (((ns.take 6).sum + 18).fdiv ((2 : Int) ^ i)).fmod 2 = 1 := hb
      clear hx hz hb
      rcases lt5c i hi with rfl | rfl | rfl | rfl | rfl
      · rw [show ((0 : Nat) : Int) = 0 from rfl]
        k_steps
        all_goals (rename News _ _ _ _ => N7; exact ⟨_, _, _, rfl, by assumption, news_sub N7 fun q hq => .tail _ hq, hoff, trivial, hid_yes hys hb' rfl, rfl⟩)
      · rw [show ((1 : Nat) : Int) = 1 from rfl]
        k_steps
        all_goals (rename News _ _ _ _ => N7; exact ⟨_, _, _, rfl, by assumption, news_sub N7 fun q hq => .tail _ hq, hoff, trivial, hid_yes hys hb' rfl, rfl⟩)
      · rw [show ((2 : Nat) : Int) = 2 from rfl]
        k_steps
        all_goals (rename News _ _ _ _ => N7; exact ⟨_, _, _, rfl, by assumption, news_sub N7 fun q hq => .tail _ hq, hoff, trivial, hid_yes hys hb' rfl, rfl⟩)
      · rw [show ((3 : Nat) : Int) = 3 from rfl]
        k_steps
        all_goals (rename News _ _ _ _ => N7; exact ⟨_, _, _, rfl, by assumption, news_sub N7 fun q hq => .tail _ hq, hoff, trivial, hid_yes hys hb' rfl, rfl⟩)
      · rw [show ((4 : Nat) : Int) = 4 from rfl]
        k_steps
        all_goals (rename News _ _ _ _ => N7; exact ⟨_, _, _, rfl, by assumption, news_sub N7 fun q hq => .tail _ hq, hoff, trivial, hid_yes hys hb' rfl, rfl⟩)
  case fin =>
    rintro ys hys
    have hsz : ys.toArray.size ≤ 100 := by
      have := strsAre_len hys
      rw [List.size_toArray, this]
      unfold hidT
      rw [List.length_map]
      exact Nat.le_trans (List.length_filter_le _ _) (by simp)
    have hys' : StrsAre ys (hidF ns) := hys
    clear hys
    k_steps
    rename News _ _ _ _ => N7
    have n1 := ne_cellM N7 (.head _) (.tail _ (.tail _ (.tail _ (.tail _ (.tail _ (.tail _ (.head _))))))) d2
    have n2 := ne_cellM N7 (.tail _ (.head _)) (.tail _ (.tail _ (.tail _ (.tail _ (.tail _ (.tail _ (.head _))))))) d2
    have n3 := ne_cellM N7 (.tail _ (.tail _ (.head _))) (.tail _ (.tail _ (.tail _ (.tail _ (.tail _ (.tail _ (.head _))))))) d2
    have n4 := ne_cellM N7 (.tail _ (.tail _ (.tail _ (.head _)))) (.tail _ (.tail _ (.tail _ (.tail _ (.tail _ (.tail _ (.head _))))))) d2
    have n5 := ne_cellM N7 (.tail _ (.tail _ (.tail _ (.tail _ (.head _))))) (.tail _ (.tail _ (.tail _ (.tail _ (.tail _ (.tail _ (.head _))))))) d2
    k_steps
    rename News _ _ _ _ => N6
    exact hret _ _ _ _ _ _ (by assumption) (by assumption) (by assumption) (news_sub N6 fun q hq => (List.mem_cons.mp hq).elim (fun e => e ▸ .head _) fun h => .tail _ (.tail _ (.tail _ h)))
end Mine
end
section
open PySem PySem.W PySem.Calls PySem.Spec PyProof.Rows
set_option maxRecDepth 100000
namespace Mine
/-- a strict total order on the indices below n, and a questioner that answers it -/
structure Ord (n : Nat) (lt : Nat → Nat → Bool) (cmp : Nat → Nat → (Bool → Shared → Prop) → Shared → Prop) (s : Shared) : Prop where
  asym : ∀ i j, i < n → j < n → lt i j = true → lt j i = false
  trans : ∀ i j k, i < n → j < n → k < n → lt i j = true → lt j k = true → lt i k = true
  total : ∀ i j, i < n → j < n → i ≠ j → lt i j = false → lt j i = true
  ask : ∀ i j, i < n → j < n → ∀ (C : Bool → Shared → Prop), C (lt i j) s → cmp i j C s
noncomputable abbrev at_ (p : Array Nat) (k : Nat) : Nat := p.getD k 0
structure IsPerm (n : Nat) (p : Array Nat) : Prop where
  perm : p.toList.Perm (List.range n)
section
variable {n : Nat} {lt : Nat → Nat → Bool} {cmp : Nat → Nat → (Bool → Shared → Prop) → Shared → Prop} {p : Array Nat} {s : Shared}
theorem IsPerm.size (h : IsPerm n p) : p.size = n := by
  have := h.perm.length_eq
  simpa using this
theorem IsPerm.low (h : IsPerm n p) {k : Nat} (hk : k < n) : at_ p k < n := by
  have hs := h.size
  have hk' : k < p.size := by omega
  have hm : p[k] ∈ p.toList := by simp
  have := h.perm.mem_iff.mp hm
  have e : at_ p k = p[k] := by simp [at_, Array.getD, hk']
  rw [e]
  simpa using this
theorem IsPerm.inj (h : IsPerm n p) {k l : Nat} (hk : k < n) (hl : l < n) (hne : k ≠ l) : at_ p k ≠ at_ p l := by
  have hs := h.size
  have hk' : k < p.size := by omega
  have hl' : l < p.size := by omega
  have hnd : p.toList.Nodup := h.perm.nodup_iff.mpr List.nodup_range
  have e1 : at_ p k = p.toList[k]'(by simpa using hk') := by simp [at_, Array.getD, hk']
  have e2 : at_ p l = p.toList[l]'(by simpa using hl') := by simp [at_, Array.getD, hl']
  rw [e1, e2]
  have hpw := List.pairwise_iff_getElem.mp hnd
  rcases Nat.lt_or_gt_of_ne hne with hlt | hlt
  · exact hpw k l (by simpa using hk') (by simpa using hl') hlt
  · exact (hpw l k (by simpa using hl') (by simpa using hk') hlt).symm
noncomputable def Rise (lt : Nat → Nat → Bool) (p : Array Nat) (b : Nat) : Prop := ∀ x y, x < y → y < b → lt (at_ p x) (at_ p y) = true
theorem rise_one : Rise lt p 1 := fun x y h1 h2 => by omega
theorem rise_next (O : Ord n lt cmp s) (hp : IsPerm n p) {m : Nat} (h1 : 1 ≤ m) (hm : m < n) (hr : Rise lt p m) (hl : lt (at_ p (m - 1)) (at_ p m) = true) : Rise lt p (m + 1) := fun x y h2 h3 => by
  by_cases e : y = m
  · subst e
    by_cases e2 : x = y - 1
    · rw [e2]; exact hl
    · exact O.trans _ (at_ p (y - 1)) _ (hp.low (by omega)) (hp.low (by omega)) (hp.low hm) (hr _ _ (by omega) (by omega)) hl
  · exact hr x y h2 (by omega)
theorem asc_spec (O : Ord n lt cmp s) (hp : IsPerm n p) : ∀ (f m : Nat) (Q : Nat → Shared → Prop), 1 ≤ m → m + f ≤ n → Rise lt p m →
    (∀ r, m ≤ r → r ≤ m + f → Rise lt p r → (r < m + f → lt (at_ p r) (at_ p (r - 1)) = true) → Q r s) → (kas_asc p f m).kasWp cmp Q s
  | 0, m, Q, h1, h2, hr, h => h m (Nat.le_refl _) (Nat.le_refl _) hr (fun h => absurd h (Nat.lt_irrefl _))
  | f + 1, m, Q, h1, h2, hr, h => by
    refine O.ask _ _ (hp.low (by omega)) (hp.low (by omega)) _ ?_
    cases hc : lt (p.getD m 0) (p.getD (m - 1) 0) with
    | true =>
      show (if true = true then KasT.ret m else _).kasWp cmp Q s
      rw [if_pos rfl]
      exact h m (Nat.le_refl _) (by omega) hr fun _ => hc
    | false =>
      show (if false = true then KasT.ret m else kas_asc p f (m + 1)).kasWp cmp Q s
      rw [if_neg (by decide)]
      have hl := O.total _ _ (hp.low (k := m) (by omega)) (hp.low (k := m - 1) (by omega)) (hp.inj (by omega) (by omega) (by omega)) hc
      refine asc_spec O hp f (m + 1) Q (by omega) (by omega) (rise_next O hp h1 (by omega) hr hl) fun r a b c d => h r (by omega) (by omega) c fun e => d (by omega)
noncomputable def Fall (lt : Nat → Nat → Bool) (p : Array Nat) (b : Nat) : Prop := ∀ x y, x < y → y < b → lt (at_ p y) (at_ p x) = true
theorem fall_next (O : Ord n lt cmp s) (hp : IsPerm n p) {m : Nat} (h1 : 1 ≤ m) (hm : m < n) (hr : Fall lt p m) (hl : lt (at_ p m) (at_ p (m - 1)) = true) : Fall lt p (m + 1) := fun x y h2 h3 => by
  by_cases e : y = m
  · subst e
    by_cases e2 : x = y - 1
    · rw [e2]; exact hl
    · exact O.trans _ (at_ p (y - 1)) _ (hp.low hm) (hp.low (by omega)) (hp.low (by omega)) hl (hr _ _ (by omega) (by omega))
  · exact hr x y h2 (by omega)
theorem desc_spec (O : Ord n lt cmp s) (hp : IsPerm n p) : ∀ (f m : Nat) (Q : Array Nat × Nat × Nat → Shared → Prop), 1 ≤ m → m + f ≤ n → Fall lt p m →
    (∀ r, m ≤ r → r ≤ m + f → Fall lt p r → Q (p, r, 0) s) → (kas_desc f p m 0).kasWp cmp Q s
  | 0, m, Q, h1, h2, hr, h => h m (Nat.le_refl _) (Nat.le_refl _) hr
  | f + 1, m, Q, h1, h2, hr, h => by
    refine O.ask _ _ (hp.low (by omega)) (hp.low (by omega)) _ ?_
    cases hc : lt (p.getD m 0) (p.getD (m - 1) 0) with
    | true =>
      show (if true = true then (if 0 > 0 then _ else kas_desc f p (m + 1) 0) else _).kasWp cmp Q s
      rw [if_pos rfl, if_neg (by decide)]
      exact desc_spec O hp f (m + 1) Q (by omega) (by omega) (fall_next O hp h1 (by omega) hr hc) fun r a b c => h r (by omega) (by omega) c
    | false =>
      show (if false = true then _ else KasT.ask _ _ _).kasWp cmp Q s
      rw [if_neg (by decide)]
      refine O.ask _ _ (hp.low (by omega)) (hp.low (by omega)) _ ?_
      have hl := O.total _ _ (hp.low (k := m) (by omega)) (hp.low (k := m - 1) (by omega)) (hp.inj (by omega) (by omega) (by omega)) hc
      rw [show lt (p.getD (m - 1) 0) (p.getD m 0) = true from hl]
      show (if true = true then KasT.ret (p, m, 0) else _).kasWp cmp Q s
      rw [if_pos rfl]
      exact h m (Nat.le_refl _) (by omega) hr
theorem at_rev (hp : IsPerm n p) {m : Nat} (hm : m ≤ n) (k : Nat) : at_ (kas_rev p 0 m) k = if k < m then at_ p (m - 1 - k) else at_ p k := by
  have hs := hp.size
  have e := getElem?_mirror_all (xs := p) (i := 0) (j := m) (by omega) k
  show (mirror p 0 m ((m - 0) / 2)).getD k 0 = _
  rw [Array.getD_eq_getD_getElem?, e]
  by_cases h : k < m
  · rw [if_pos ⟨Nat.zero_le _, h⟩, if_pos h, Nat.zero_add, ← Array.getD_eq_getD_getElem?]
  · rw [if_neg (fun z => h z.2), if_neg h, ← Array.getD_eq_getD_getElem?]
theorem rev_perm (hp : IsPerm n p) (m : Nat) : IsPerm n (kas_rev p 0 m) := ⟨(Array.perm_iff_toList_perm.mp (mirror_perm p 0 m _)).trans hp.perm⟩
theorem rev_rise (hp : IsPerm n p) {m : Nat} (hm : m ≤ n) (hf : Fall lt p m) : Rise lt (kas_rev p 0 m) m := fun x y h1 h2 => by
  rw [at_rev hp hm, at_rev hp hm, if_pos (by omega), if_pos h2]
  exact hf _ _ (by omega) (by omega)
theorem tail3_spec (O : Ord n lt cmp s) (hp : IsPerm n p) {m : Nat} {Q : Nat × Array Nat → Shared → Prop} (h1 : 1 ≤ m) (hm : m ≤ n) (hf : Fall lt p m)
    (h : ∀ r p', 1 ≤ r → r ≤ n → IsPerm n p' → Rise lt p' r → Q (r, p') s) : (kas_tail3 m n p).kasWp cmp Q s := by
  unfold kas_tail3
  rw [KasT.kasWp_bind]
  exact asc_spec O (rev_perm hp m) (n - m) m _ h1 (by omega) (rev_rise hp hm hf) fun r a b c _ => h r _ (by omega) (by omega) (rev_perm hp m) c
theorem descPart_spec (O : Ord n lt cmp s) (hp : IsPerm n p) {m : Nat} {Q : Nat × Array Nat → Shared → Prop} (h1 : 1 ≤ m) (hm : m + 1 ≤ n) (hf : Fall lt p (m + 1))
    (h : ∀ r p', 1 ≤ r → r ≤ n → IsPerm n p' → Rise lt p' r → Q (r, p') s) : (kas_descPart m n p).kasWp cmp Q s := by
  unfold kas_descPart
  rw [KasT.kasWp_bind]
  refine desc_spec O hp (n - (m + 1)) (m + 1) _ (by omega) (by omega) hf fun r a b c => ?_
  show (if 0 > 0 then _ else kas_tail3 r n p).kasWp cmp Q s
  rw [if_neg (by decide)]
  exact tail3_spec O hp (by omega) (by omega) c h
theorem count_spec (O : Ord n lt cmp s) (hp : IsPerm n p) {Q : Nat × Array Nat → Shared → Prop} (hn : 2 ≤ n)
    (h : ∀ r p', 1 ≤ r → r ≤ n → IsPerm n p' → Rise lt p' r → Q (r, p') s) : (kas_count n p).kasWp cmp Q s := by
  unfold kas_count
  rw [KasT.kasWp_bind]
  refine asc_spec O hp (n - 1) 1 _ (Nat.le_refl _) (by omega) rise_one fun r a b c d => ?_
  by_cases e : r = n
  · have e' : (r == n) = true := by simpa using e
    rw [if_pos e']
    exact h r p a (by omega) hp c
  · have e' : ¬ (r == n) = true := by simpa using e
    rw [if_neg e']
    by_cases e1 : r > 1
    · rw [if_pos e1]
      refine O.ask _ _ (hp.low (by omega)) (hp.low (by omega)) _ ?_
      rw [show lt (p.getD 0 0) (p.getD (r - 1) 0) = true from c 0 (r - 1) (by omega) (by omega)]
      show (if true = true then KasT.ret (r, p) else _).kasWp cmp Q s
      rw [if_pos rfl]
      exact h r p a (by omega) hp c
    · rw [if_neg e1]
      have e2 : r = 1 := by omega
      subst e2
      refine descPart_spec O hp (Nat.le_refl _) (by omega) (fun x y h1 h2 => ?_) h
      have e3 : x = 0 := by omega
      have e4 : y = 1 := by omega
      subst e3 e4
      exact d (by omega)
theorem place_spec (O : Ord n lt cmp s) (hp : IsPerm n p) {k : Nat} (hk : k < n) (hr : Rise lt p k) : ∀ (f l r : Nat) (Q : Nat → Shared → Prop), r - l ≤ f → l ≤ r → r ≤ k → (∀ x, x < l → lt (at_ p x) (at_ p k) = true) → (∀ x, r ≤ x → x < k → lt (at_ p k) (at_ p x) = true) →
    (∀ m, m ≤ k → (∀ x, x < m → lt (at_ p x) (at_ p k) = true) → (∀ x, m ≤ x → x < k → lt (at_ p k) (at_ p x) = true) → Q m s) → (kas_place p k f l r).kasWp cmp Q s
  | 0, l, r, Q, h1, h2, h3, ha, hb, h => h l (by omega) ha fun x a b => hb x (by omega) b
  | f + 1, l, r, Q, h1, h2, h3, ha, hb, h => by
    show (if l ≥ r then KasT.ret l else KasT.ask _ _ _).kasWp cmp Q s
    by_cases e : l ≥ r
    · rw [if_pos e]
      exact h l (by omega) ha fun x a b => hb x (by omega) b
    · rw [if_neg e]
      refine O.ask _ _ (hp.low hk) (hp.low (by omega)) _ ?_
      cases hc : lt (p.getD k 0) (p.getD ((l + r) / 2) 0) with
      | true =>
        show (if true = true then kas_place p k f l ((l + r) / 2) else _).kasWp cmp Q s
        rw [if_pos rfl]
        refine place_spec O hp hk hr f l ((l + r) / 2) Q (by omega) (by omega) (by omega) ha (fun x a b => ?_) h
        by_cases e2 : x = (l + r) / 2
        · rw [e2]; exact hc
        · exact O.trans _ (at_ p ((l + r) / 2)) _ (hp.low hk) (hp.low (by omega)) (hp.low (by omega)) hc (hr _ _ (by omega) b)
      | false =>
        show (if false = true then _ else kas_place p k f ((l + r) / 2 + 1) r).kasWp cmp Q s
        rw [if_neg (by decide)]
        have hl := O.total _ _ (hp.low (k := k) hk) (hp.low (k := (l + r) / 2) (by omega)) (hp.inj hk (by omega) (by omega)) hc
        refine place_spec O hp hk hr f ((l + r) / 2 + 1) r Q (by omega) (by omega) h3 (fun x a => ?_) hb h
        by_cases e2 : x = (l + r) / 2
        · rw [e2]; exact hl
        · exact O.trans _ (at_ p ((l + r) / 2)) _ (hp.low (by omega)) (hp.low (by omega)) (hp.low hk) (hr _ _ (by omega) (by omega)) hl
theorem at_bubble (hp : IsPerm n p) {k m : Nat} (hk : k < n) (hm : m ≤ k) (j : Nat) : at_ (bubble p k (k - m)) j = if j = m then at_ p k else if m < j ∧ j ≤ k then at_ p (j - 1) else at_ p j := by
  have hs := hp.size
  have e := getElem?_bubble (xs := p) (src := k) (by omega) (k - m) (by omega) j
  have e2 : k - (k - m) = m := by omega
  rw [e2] at e
  show (bubble p k (k - m)).getD j 0 = _
  rw [Array.getD_eq_getD_getElem?, e]
  split
  · rw [← Array.getD_eq_getD_getElem?]
  · split <;> rw [← Array.getD_eq_getD_getElem?]
theorem bubble_ok (hp : IsPerm n p) (k d : Nat) : IsPerm n (bubble p k d) := ⟨(Array.perm_iff_toList_perm.mp (bubble_perm p k d)).trans hp.perm⟩
theorem bin_spec (O : Ord n lt cmp s) : ∀ (f : Nat) (p : Array Nat) (k : Nat) (Q : Array Nat → Shared → Prop), IsPerm n p → k + f = n → Rise lt p k →
    (∀ p', IsPerm n p' → Rise lt p' n → Q p' s) → (kas_bin f p k).kasWp cmp Q s
  | 0, p, k, Q, hp, hk, hr, h => h p hp ((show k = n by omega) ▸ hr)
  | f + 1, p, k, Q, hp, hk, hr, h => by
    unfold kas_bin
    rw [KasT.kasWp_bind]
    refine place_spec O hp (by omega) hr k 0 k _ (by omega) (by omega) (Nat.le_refl _) (fun x a => absurd a (Nat.not_lt_zero _)) (fun x a b => by omega) fun m hm ha hb => ?_
    refine bin_spec O f _ (k + 1) Q (bubble_ok hp k _) (by omega) (fun x y h1 h2 => ?_) h
    rw [at_bubble hp (by omega) hm, at_bubble hp (by omega) hm]
    by_cases ex : x = m
    · rw [if_pos ex, if_neg (by omega), if_pos (by omega)]
      exact hb _ (by omega) (by omega)
    · rw [if_neg ex]
      by_cases ey : y = m
      · rw [if_pos ey, if_neg (by omega)]
        exact ha _ (by omega)
      · rw [if_neg ey]
        by_cases x1 : m < x
        · rw [if_pos (by omega), if_pos (by omega)]
          exact hr _ _ (by omega) (by omega)
        · rw [if_neg (by omega)]
          by_cases y1 : m < y
          · rw [if_pos (by omega)]
            exact hr _ _ (by omega) (by omega)
          · rw [if_neg (by omega)]
            exact hr _ _ (by omega) (by omega)
theorem sort_spec (O : Ord n lt cmp s) {Q : Array Nat → Shared → Prop} (hn : 2 ≤ n) (h : ∀ p', IsPerm n p' → Rise lt p' n → Q p' s) : (kas_sort n).kasWp cmp Q s := by
  unfold kas_sort
  rw [KasT.kasWp_bind]
  refine count_spec O ⟨by simp⟩ hn fun r p' a b hp hr => ?_
  by_cases e : r < n
  · show (if r < n then _ else _ : KasT (Array Nat)).kasWp cmp Q s
    rw [if_pos e]
    have e2 : max r 1 = r := by omega
    rw [e2]
    exact bin_spec O (n - r) p' r Q hp (by omega) hr h
  · show (if r < n then _ else _ : KasT (Array Nat)).kasWp cmp Q s
    rw [if_neg e]
    have e2 : r = n := by omega
    subst e2
    exact h p' hp hr
end
end Mine
end
section
open PySem PySem.W PySem.Calls PySem.Spec PyProof.Rows
set_option maxRecDepth 100000
namespace Mine
noncomputable def ltL : List Str → List Str → Bool
  | [], [] => false
  | [], _ :: _ => true
  | _ :: _, [] => false
  | x :: xs, y :: ys => if (x == y) = true then ltL xs ys else decide (x.cps.toList < y.cps.toList)
theorem ltL_nil (l : List Str) : ltL [] l = decide (0 < l.length) := by cases l <;> rfl
theorem ltL_right {l : List Str} (h : l ≠ []) : ltL l [] = false := by cases l with | nil => exact absurd rfl h | cons => rfl
open PySem.SeqAt PySem.MeetsSeq PySem.MeetsSeq2 PySem.MeetsSeq3 PySem.SeqRoads2
set_option maxHeartbeats 2000000 in
theorem lt_loopAt (l b : Addr) (items items2 : Array Value) (n n2 : Nat) (dd dd2 : Option Addr) (sl sl2 : Array (Option Value)) (ws us : List Str) (h1 : StrsAre items.toList ws) (h2 : StrsAre items2.toList us) (k : Nat) :
    ∀ i : Nat, items.size - i = k → i ≤ items.size → i ≤ items2.size → Meets (Builtin.«list.__eq__.loop» ⟨[.ref l, .ref b, rawInt i, rawInt 0], []⟩)
      (fun A R s => s.heap.get? l = some { cls := .type "list", dict := dd, data := .seq items n, slots := sl } ∧ s.heap.get? b = some { cls := .type "list", dict := dd2, data := .seq items2 n2, slots := sl2 } ∧
        R (.ok (.ret (.bool (ltL (ws.drop i) (us.drop i))))) s) := by
  have e1 : items.size = ws.length := by simpa using strsAre_len h1
  have e2 : items2.size = us.length := by simpa using strsAre_len h2
  induction k with
  | zero =>
    intro i hk hi hi' prog w A R s h
    obtain ⟨hp, g, d, tk, os⟩ := s; obtain ⟨hl, hb, h⟩ := h
    wp_walk using PySem.AutoSeq1.wpAny_loadPart' hl, PySem.AutoSeq1.wpAny_loadPart' hb
    have hi1 : items[((i : Nat) : Int).toNat]? = none := by simp; omega
    rw [hi1]
    wp_walk using PySem.AutoSeq1.wpAny_loadPart' hl, PySem.AutoSeq1.wpAny_loadPart' hb
    show R (.ok (.ret (.bool (decide (items.size < items2.size))))) _
    have d1 : ws.drop i = [] := List.drop_eq_nil_of_le (by omega)
    rw [d1, ltL_nil, List.length_drop] at h
    have e : decide (items.size < items2.size) = decide (0 < us.length - i) := by
      rw [decide_eq_decide]; omega
    rw [e]; exact h
  | succ k ih =>
    intro i hk hi hi' prog w A R s h
    obtain ⟨hp, g, d, tk, os⟩ := s; obtain ⟨hl, hb, h⟩ := h
    wp_walk using PySem.AutoSeq1.wpAny_loadPart' hl, PySem.AutoSeq1.wpAny_loadPart' hb
    have hlt : i < items.size := by omega
    have hi1 : items[((i : Nat) : Int).toNat]? = some items[i] := by simp [hlt]
    obtain ⟨x, t, hx, ex⟩ := strs_get (i := i) (v := items[i]) h1 (by simp [hlt])
    have dx : ws.drop i = x :: ws.drop (i + 1) := by
      have hw : i < ws.length := by omega
      rw [List.drop_eq_getElem_cons hw]
      rw [List.getElem?_eq_getElem hw] at hx
      rw [Option.some.inj hx]
    by_cases hlt2 : i < items2.size
    · have hi2 : items2[((i : Nat) : Int).toNat]? = some items2[i] := by simp [hlt2]
      obtain ⟨y, u, hy, ey⟩ := strs_get (i := i) (v := items2[i]) h2 (by simp [hlt2])
      have dy : us.drop i = y :: us.drop (i + 1) := by
        have hw : i < us.length := by omega
        rw [List.drop_eq_getElem_cons hw]
        rw [List.getElem?_eq_getElem hw] at hy
        rw [Option.some.inj hy]
      have hc : ((i : Int) + 1) = ((i + 1 : Nat) : Int) := by push_cast; rfl
      rw [dx, dy] at h
      rw [hi1, hi2, ex, ey]
      refine wpAny_bind (EqAt.str_str x t y u prog w _ _ ?_)
      cases hb' : x == y with
      | true =>
        have h' : R (.ok (.ret (.bool (ltL (ws.drop (i + 1)) (us.drop (i + 1)))))) { heap := hp, gens := g, drawn := d, toks := tk, os := os } := by
          have e : ltL (x :: ws.drop (i + 1)) (y :: us.drop (i + 1)) = ltL (ws.drop (i + 1)) (us.drop (i + 1)) := by
            show (if (x == y) = true then _ else _) = _
            rw [if_pos hb']
          rw [← e]; exact h
        wp_walk
        rw [hc]
        exact ⟨plainId_quiet plain_eq_loop _, codeAny_builtin entry_eq_loop (by
          rw [Around.under_plainId plain_eq_loop _]
          exact ih (i + 1) (by omega) (by omega) (by omega) prog w A R _ ⟨hl, hb, h'⟩)⟩
      | false =>
        have h' : R (.ok (.ret (.bool (decide (x.cps.toList < y.cps.toList))))) { heap := hp, gens := g, drawn := d, toks := tk, os := os } := by
          have e : ltL (x :: ws.drop (i + 1)) (y :: us.drop (i + 1)) = decide (x.cps.toList < y.cps.toList) := by
            show (if (x == y) = true then _ else _) = _
            rw [if_neg (by rw [hb']; decide)]
          rw [← e]; exact h
        wp_walk using PySem.AutoSeq1.wpAny_loadPart' hl, PySem.AutoSeq1.wpAny_loadPart' hb
        rw [hi1, hi2, ex, ey]
        show wpAny _ _ (do let r ← richCompare CmpOp.Lt (.str x t) (.str y u); ret r) _ _ _
        refine wpAny_bind (show wpAny _ _ (compareOp .Lt (.str x t) (.str y u)) _ _ _ from PyProof.Rows.lt_str ?_)
        exact wpAny_pure h'
    · have hi2 : items2[((i : Nat) : Int).toNat]? = none := by simp; omega
      have d2 : us.drop i = [] := List.drop_eq_nil_of_le (by omega)
      rw [d2, ltL_right (by rw [dx]; exact List.cons_ne_nil _ _)] at h
      rw [hi1, hi2]
      wp_walk using PySem.AutoSeq1.wpAny_loadPart' hl, PySem.AutoSeq1.wpAny_loadPart' hb
      show R (.ok (.ret (.bool (decide (items.size < items2.size))))) _
      have e : decide (items.size < items2.size) = false := by
        rw [decide_eq_false_iff_not]; omega
      rw [e]; exact h
theorem list_ltAt (l b : Addr) (items items2 : Array Value) (n n2 : Nat) (dd dd2 : Option Addr) (sl sl2 : Array (Option Value)) (ws us : List Str) (h1 : StrsAre items.toList ws) (h2 : StrsAre items2.toList us) :
    Meets (Builtin.«list.__lt__» ⟨[.ref l, .ref b], []⟩)
      (fun A R s => s.heap.get? l = some { cls := .type "list", dict := dd, data := .seq items n, slots := sl } ∧ s.heap.get? b = some { cls := .type "list", dict := dd2, data := .seq items2 n2, slots := sl2 } ∧
        R (.ok (.ret (.bool (ltL ws us)))) s) := by
  intro prog w A R s h
  obtain ⟨hp, g, d, tk, os⟩ := s; obtain ⟨hl, hb, h⟩ := h
  have f3 := PySem.AutoSeq1.sub_list_list
  wp_walk using PySem.AutoSeq1.wpAny_loadPart' hl, PySem.AutoSeq1.wpAny_loadPart' hb
  exact ⟨plainId_quiet plain_eq_loop _, codeAny_builtin entry_eq_loop (by
    rw [Around.under_plainId plain_eq_loop _]
    exact lt_loopAt l b items items2 n n2 dd dd2 sl sl2 ws us h1 h2 _ 0 rfl (Nat.zero_le _) (Nat.zero_le _) prog w A R _ ⟨hl, hb, h⟩)⟩
end Mine
end
section
open PySem PySem.W PySem.Calls PySem.Spec PyProof.Rows
set_option maxRecDepth 100000
namespace Mine
section
variable {prog : Program} {w : World} {A : Around} {E : Value → Shared → Prop} {s : Shared}
theorem call_list_lt {a b : Addr} {vs us : List Value} {ws zs : List Str} {Q : Value → Shared → Prop} (ha : s.heap.IsList a vs.toArray) (hb : s.heap.IsList b us.toArray) (h1 : StrsAre vs ws) (h2 : StrsAre us zs)
    (h : Q (.bool (ltL ws zs)) s) : wpAny (model prog w) A (call (.builtin "list.__lt__") [.ref a, .ref b]) Q E s := by
  have hT := ha.typeIs
  obtain ⟨⟨cls, dd, data, sl⟩, ho, hc, n, hd⟩ := id ha
  obtain ⟨⟨cls2, dd2, data2, sl2⟩, ho2, hc2, n2, hd2⟩ := id hb
  simp only at hc hd hc2 hd2
  subst hc hd hc2 hd2
  exact call_meets F.slot_list_lt hT F.entry_list_lt (F.args_list_lt_2 _ _) (list_ltAt a b vs.toArray us.toArray n n2 dd dd2 sl sl2 ws zs (by simpa using h1) (by simpa using h2)) ⟨ho, ho2, h⟩
theorem keyLt_lists {a b : Addr} {vs us : List Value} {ws zs : List Str} {Q : Bool → Shared → Prop} (ha : s.heap.IsList a vs.toArray) (hb : s.heap.IsList b us.toArray) (h1 : StrsAre vs ws) (h2 : StrsAre us zs) (hu : A.units < cLine)
    (h : Q (ltL ws zs) s) : wpAny (model prog w) A (keyLt' oneType' (.ref a) (.ref b)) Q E s := by
  rw [keyLt'_oneType, oneLt'_eq]
  simp only [if_true]
  refine wpAny_bind (wpAny_cRoomFor hu ?_)
  refine wpAny_bind (wpAny_callSpecialIfBound?_slot ha.typeIs F.slot_list_lt (call_list_lt ha hb h1 h2 ?_))
  exact wpAny_truthy_bool h
end
end Mine
end
section
open PySem PySem.W PySem.Calls PySem.Spec PyProof.Rows
set_option maxRecDepth 100000
namespace Mine
theorem ltL_irrefl : ∀ l : List Str, ltL l l = false
  | [] => rfl
  | x :: xs => by
    show (if (x == x) = true then _ else _) = _
    rw [if_pos (by simp)]
    exact ltL_irrefl xs
theorem ltL_asym : ∀ {a b : List Str}, ltL a b = true → ltL b a = false
  | [], [], h => by cases h
  | [], _ :: _, _ => rfl
  | _ :: _, [], h => by cases h
  | x :: xs, y :: ys, h => by
    show (if (y == x) = true then _ else _) = _
    by_cases e : x = y
    · subst e
      have h' : ltL xs ys = true := by
        have : ltL (x :: xs) (x :: ys) = ltL xs ys := by show (if (x == x) = true then _ else _) = _; rw [if_pos (by simp)]
        rw [← this]; exact h
      rw [if_pos (by simp)]
      exact ltL_asym h'
    · have h' : decide (x.cps.toList < y.cps.toList) = true := by
        have : ltL (x :: xs) (y :: ys) = decide (x.cps.toList < y.cps.toList) := by show (if (x == y) = true then _ else _) = _; rw [if_neg (by simpa using e)]
        rw [← this]; exact h
      rw [if_neg (by simpa using fun z => e z.symm)]
      rw [decide_eq_false_iff_not]
      rw [decide_eq_true_eq] at h'
      exact List.lt_asymm h'
theorem ltL_total : ∀ {a b : List Str}, a ≠ b → ltL a b = false → ltL b a = true
  | [], [], h, _ => absurd rfl h
  | [], _ :: _, _, h => by cases h
  | _ :: _, [], _, _ => rfl
  | x :: xs, y :: ys, hne, h => by
    show (if (y == x) = true then _ else _) = _
    by_cases e : x = y
    · subst e
      have h' : ltL xs ys = false := by
        have : ltL (x :: xs) (x :: ys) = ltL xs ys := by show (if (x == x) = true then _ else _) = _; rw [if_pos (by simp)]
        rw [← this]; exact h
      rw [if_pos (by simp)]
      exact ltL_total (fun z => hne (by rw [z])) h'
    · have h' : decide (x.cps.toList < y.cps.toList) = false := by
        have : ltL (x :: xs) (y :: ys) = decide (x.cps.toList < y.cps.toList) := by show (if (x == y) = true then _ else _) = _; rw [if_neg (by simpa using e)]
        rw [← this]; exact h
      rw [if_neg (by simpa using fun z => e z.symm)]
      rw [decide_eq_false_iff_not] at h'
      rw [decide_eq_true_eq]
      have h2 : y.cps.toList ≤ x.cps.toList := h'
      rcases List.le_iff_lt_or_eq.mp h2 with h3 | h3
      · exact h3
      · exact absurd (str_ext h3.symm) e
theorem ltL_trans : ∀ {a b c : List Str}, ltL a b = true → ltL b c = true → ltL a c = true
  | [], _, [], h1, h2 => by
    rename_i b
    cases b with
    | nil => cases h1
    | cons => cases h2
  | [], _, _ :: _, _, _ => rfl
  | _ :: _, [], _, h1, _ => by cases h1
  | _ :: _, _ :: _, [], _, h2 => by cases h2
  | x :: xs, y :: ys, z :: zs, h1, h2 => by
    have g : ∀ (x y : Str) (xs ys : List Str), ltL (x :: xs) (y :: ys) = if (x == y) = true then ltL xs ys else decide (x.cps.toList < y.cps.toList) := fun _ _ _ _ => rfl
    rw [g] at h1 h2 ⊢
    by_cases e1 : x = y
    · subst e1
      rw [if_pos (by simp)] at h1
      by_cases e2 : x = z
      · subst e2
        rw [if_pos (by simp)] at h2 ⊢
        exact ltL_trans h1 h2
      · rw [if_neg (by simpa using e2)] at h2 ⊢
        exact h2
    · rw [if_neg (by simpa using e1), decide_eq_true_eq] at h1
      by_cases e2 : y = z
      · subst e2
        rw [if_neg (by simpa using e1), decide_eq_true_eq]
        exact h1
      · rw [if_neg (by simpa using e2), decide_eq_true_eq] at h2
        have h3 := List.lt_trans h1 h2
        by_cases e3 : x = z
        · subst e3
          exact absurd h3 (List.lt_irrefl _)
        · rw [if_neg (by simpa using e3), decide_eq_true_eq]
          exact h3
end Mine
end
section
open PySem PySem.W PySem.Calls PySem.Spec PyProof.Rows
set_option maxRecDepth 100000
namespace Mine
/-- a list of refs to lists of strs -/
noncomputable def RowsAre (led : List (Addr × Obj)) : List Value → List (List Str) → Prop
  | [], [] => True
  | v :: vs, r :: rs => (∃ a us k, v = .ref a ∧ (a, listO us.toArray k) ∈ led ∧ StrsAre us r) ∧ RowsAre led vs rs
  | _, _ => False
theorem rows_get {led : List (Addr × Obj)} : ∀ {vs : List Value} {rs : List (List Str)}, RowsAre led vs rs → ∀ {i : Nat} {v : Value}, vs[i]? = some v → ∃ r a us k, rs[i]? = some r ∧ v = .ref a ∧ (a, listO us.toArray k) ∈ led ∧ StrsAre us r
  | [], [], _, i, v, h => by simp at h
  | v :: vs, r :: rs, h, i, v', hi => by
    cases i with
    | zero =>
      simp only [List.getElem?_cons_zero, Option.some.injEq] at hi
      subst hi
      obtain ⟨a, us, k, e, hm, hs⟩ := h.1
      exact ⟨r, a, us, k, rfl, e, hm, hs⟩
    | succ i => exact rows_get h.2 (by simpa using hi)
  | [], _ :: _, h, _, _, _ => h.elim
  | _ :: _, [], h, _, _, _ => h.elim
theorem rows_len {led : List (Addr × Obj)} : ∀ {vs : List Value} {rs : List (List Str)}, RowsAre led vs rs → vs.length = rs.length
  | [], [], _ => rfl
  | _ :: vs, _ :: rs, h => by simp [rows_len h.2]
  | [], _ :: _, h => h.elim
  | _ :: _, [], h => h.elim
theorem rows_more {led led' : List (Addr × Obj)} (k : ∀ q ∈ led, q ∈ led') : ∀ {vs : List Value} {rs : List (List Str)}, RowsAre led vs rs → RowsAre led' vs rs
  | [], [], _ => trivial
  | _ :: _, _ :: _, h => by
    obtain ⟨a, us, c, e, hm, hs⟩ := h.1
    exact ⟨⟨a, us, c, e, k _ hm, hs⟩, rows_more k h.2⟩
  | [], _ :: _, h => h.elim
  | _ :: _, [], h => h.elim
theorem rows_snoc {led : List (Addr × Obj)} {a : Addr} {us : List Value} {r : List Str} {k : Nat} : ∀ {vs : List Value} {rs : List (List Str)}, RowsAre led vs rs → (a, listO us.toArray k) ∈ led → StrsAre us r → RowsAre led (vs ++ [.ref a]) (rs ++ [r])
  | [], [], _, h, hs => ⟨⟨a, us, k, rfl, h, hs⟩, trivial⟩
  | _ :: _, _ :: _, h, hm, hs => ⟨h.1, rows_snoc h.2 hm hs⟩
  | [], _ :: _, h, _, _ => h.elim
  | _ :: _, [], h, _, _ => h.elim
end Mine
end
section
open PySem PySem.W PySem.Calls PySem.Spec PyProof.Rows
set_option maxRecDepth 100000
namespace Mine
noncomputable def rowAt (rs : List (List Str)) (i : Nat) : List Str := rs.getD i []
theorem rows_perm {led : List (Addr × Obj)} {vs : List Value} {rs : List (List Str)} (h : RowsAre led vs rs) : ∀ (l : List Nat), (∀ i ∈ l, i < vs.length) → RowsAre led (l.map fun i => vs.getD i Value.none) (l.map (rowAt rs))
  | [], _ => trivial
  | i :: l, hl => by
    have hi := hl i (.head _)
    have hv : vs[i]? = some (vs.getD i Value.none) := by rw [List.getD_eq_getElem?_getD, List.getElem?_eq_getElem hi]; rfl
    obtain ⟨r, a, us, k, hr, e, hm, hs⟩ := rows_get h hv
    have e2 : rowAt rs i = r := by unfold rowAt; rw [List.getD_eq_getElem?_getD, hr]; rfl
    exact ⟨⟨a, us, k, e, hm, by rw [e2]; exact hs⟩, rows_perm h l fun j hj => hl j (.tail _ hj)⟩
section
variable {prog : Program} {w : World} {A : Around} {E : Value → Shared → Prop} {s : Shared} {h₀ : Heap} {L l : Addr} {m : Str → Option Value} {news : List (Addr × Obj)} {vs : List Value} {rs : List (List Str)} {c : Nat} {Q : Value → Shared → Prop} {led : List (Addr × Obj)}
theorem sorted_rows (F : Fr h₀ L s.heap m) (N : News h₀ L s.heap news) (hm : (l, listO vs.toArray c) ∈ news) (hr : RowsAre led vs rs) (hsub : ∀ q ∈ led, q ∈ news) (h2 : 2 ≤ vs.length) (h64 : vs.length < 64) (hnd : rs.Nodup) (hu : A.in1.in1.units < cLine)
    (h : ∀ D h' vs' rs' c', Fr h₀ L h' m → News h₀ L h' ((D, listO (List.toArray vs') c') :: news) → (∀ q ∈ news, q.1 < D) → RowsAre led vs' rs' → rs'.Perm rs → rs'.Pairwise (fun a b => ltL a b = true) → Q (.ref D) { s with heap := h' }) :
    wpAny (model prog w) A (call (.builtin "sorted") [.ref l]) Q E s := by
  have hlen := rows_len hr
  refine kas_sorted (T := .type "list") F N ⟨_, (N _ hm).1, rfl, _, rfl⟩ h2 h64 (fun h' F' N' v hv => ?_) (by decide) fun D e1 h' F' N' hlt => ?_
  · obtain ⟨i, hi, e⟩ := List.mem_iff_getElem.mp hv
    obtain ⟨r, a, us, k, _, rfl, hma, _⟩ := rows_get hr (i := i) (v := v) (by rw [List.getElem?_eq_getElem hi, e])
    intro A Q E s hk hq
    exact wpAny_typeOf (T := "list") ⟨_, hk _ _ (N' _ (hsub _ hma)).1, rfl⟩ hq
  · refine sort_spec (lt := fun i j => ltL (rowAt rs i) (rowAt rs j)) ⟨fun i j _ _ => ltL_asym, fun i j k _ _ _ => ltL_trans, fun i j hi hj hne => ltL_total (fun e => hne ?_), fun i j hi hj C hC => ?_⟩ h2 fun p hp hrise => ?_
    · have e1 : rs[i]? = some (rowAt rs i) := by unfold rowAt; rw [List.getD_eq_getElem?_getD, List.getElem?_eq_getElem (by omega)]; rfl
      have e2 : rs[j]? = some (rowAt rs j) := by unfold rowAt; rw [List.getD_eq_getElem?_getD, List.getElem?_eq_getElem (by omega)]; rfl
      have hpw := List.pairwise_iff_getElem.mp hnd
      rw [List.getElem?_eq_getElem (by omega)] at e1 e2
      rcases Nat.lt_trichotomy i j with h1 | h1 | h1
      · exact absurd ((Option.some.inj e1).trans (e.trans (Option.some.inj e2).symm)) (hpw i j _ _ h1)
      · exact h1
      · exact absurd ((Option.some.inj e2).trans (e.symm.trans (Option.some.inj e1).symm)) (hpw j i _ _ h1)
    · have hvi : vs[i]? = some (vs.getD i Value.none) := by rw [List.getD_eq_getElem?_getD, List.getElem?_eq_getElem hi]; rfl
      have hvj : vs[j]? = some (vs.getD j Value.none) := by rw [List.getD_eq_getElem?_getD, List.getElem?_eq_getElem hj]; rfl
      obtain ⟨r, a, us, k, hri, e, hma, hs⟩ := rows_get hr hvi
      obtain ⟨r2, a2, us2, k2, hrj, e', hma2, hs2⟩ := rows_get hr hvj
      have ei : rowAt rs i = r := by unfold rowAt; rw [List.getD_eq_getElem?_getD, hri]; rfl
      have ej : rowAt rs j = r2 := by unfold rowAt; rw [List.getD_eq_getElem?_getD, hrj]; rfl
      show wpAny _ _ (keyLt' oneType' (vs.getD i Value.none) (vs.getD j Value.none)) C _ _
      rw [e, e']
      refine keyLt_lists ⟨_, (N' _ (.tail _ (hsub _ hma))).1, rfl, _, rfl⟩ ⟨_, (N' _ (.tail _ (hsub _ hma2))).1, rfl, _, rfl⟩ hs hs2 hu ?_
      rw [← ei, ← ej]; exact hC
    · refine KasFin.intro (news := (D, seqObj "list" #[] e1) :: news) (g := fun o => (D, o) :: news) F' N' (UpdF.head fun q hq => Nat.ne_of_lt (hlt q hq)) fun h3 c3 F3 N3 => ?_
      have hin : ∀ i ∈ p.toList, i < vs.length := fun i hi => by
        have := hp.perm.mem_iff.mp hi
        simpa using this
      refine h D h3 _ (p.toList.map (rowAt rs)) c3 F3 N3 hlt (rows_perm hr _ hin) ?_ ?_
      · have h1 := hp.perm.map (rowAt rs)
        have e : (List.range vs.length).map (rowAt rs) = rs := by
          rw [hlen]
          refine List.ext_getElem (by simp) fun i h1 h2 => ?_
          simp [rowAt, List.getD_eq_getElem?_getD, List.getElem?_eq_getElem h2]
        rwa [e] at h1
      · rw [List.pairwise_map, List.pairwise_iff_getElem]
        intro i j hi hj hij
        have hs := hp.size
        have := hrise i j hij (by simpa [hs] using hj)
        simpa [at_, Array.getD, show i < p.size by simpa using hi, show j < p.size by simpa using hj] using this
end
end Mine
end
section
open PySem PySem.W PySem.Calls PySem.Spec PyProof.Rows
set_option maxRecDepth 100000
namespace Mine
noncomputable def rowF (z : Str) : List Str := (Txt.split z (Str.ofString "/")).drop 1
theorem strs_slice1 {vs : List Value} {ws : List Str} (h : StrsAre vs ws) (h1 : 1 ≤ ws.length) : ∃ us : List Value, slicePick vs.toArray (some 1) none none = us.toArray ∧ StrsAre us (ws.drop 1) := by
  refine ⟨vs.drop 1, ?_, StrsAre.drop' h 1⟩
  have e := slicePick_from vs.toArray 1 (by rw [List.size_toArray, strsAre_len h]; exact h1)
  rw [show ((1 : Nat) : Int) = 1 from rfl] at e
  rw [e]
theorem news_two {h₀ h : Heap} {L a b : Addr} {oa ob : Obj} {l : List (Addr × Obj)} (N : News h₀ L h ((a, oa) :: (b, ob) :: l)) : News h₀ L h ((a, oa) :: l) := news_sub N fun q hq => (List.mem_cons.mp hq).elim (fun e => e ▸ .head _) fun h => .tail _ (.tail _ h)
end Mine
end
section
open PySem PySem.W PySem.Calls PySem.Spec PyProof.Rows
namespace Mine
theorem kw_Z9_1 : True := by
  k_with_none
  k_with "execs cons" => (first | (k_here; k_gentoks) | (refine' execs_one ?_) | (refine' execs_let ?_; intro Cq9))
  k_with "ite" => (first | (k_closed; first | refine ite_pos (by decide +kernel) ?_ | refine ite_neg (by decide +kernel) ?_) | refine ite_pos (by with_reducible assumption) ?_ | refine ite_neg (by with_reducible assumption) ?_ | refine ite_isFalse (by with_reducible assumption) ?_)
  k_with "CompSrc" => (k_here; k_dflt (refine LCg.CompSrc.ledger (by with_unfolding_all rfl) (by k_asm) (by k_asm) (by k_mem) ?zzq9 ?_); (case zzq9 => (simp only [List.size_toArray]; rw [strsAre_len (by assumption), sizeLine_eq]; omega)))
  k_with "eval ListComp" => (k_here; k_dflt (refine LCg.ListComp_U (F₀ := by k_asm) (by with_unfolding_all rfl) (by decide) (by rfl) (by decide) (by rfl) ?_))
  k_with "call ref" => (k_here; k_dflt (show wpAny _ _ (call (Value.ref 189) [Value.str _ _]) _ _ _); k_dflt (refine' anyE (splitrootC _ _ _ _ _ _ _ _ _ ?h1q9 ?h2q9 ?h3q9 _ _ _ _ _ _ _ _ _ _ _ _ _ _ _ _ ?k1q9 ?k2q9 ?k3q9 ?k4q9 ?k5q9 ?kKq9 ?kdq9 ?kuq9 ?_); (case h1q9 => assumption); (case h2q9 => assumption); (case h3q9 => assumption); (case k1q9 => k_asm); (case k2q9 => k_asm); (case k3q9 => k_asm); (case k4q9 => k_asm); (case k5q9 => k_asm); (case kKq9 => first | exact rfl | assumption); (case kdq9 => k_room); (case kuq9 => ktr_units)); intro h'q9 tk'q9 D'q9 t1'q9 t2'q9 t3'q9 F'q9 N'q9; (try dsimp only); (try k_sweep); walk_say "SPLITROOT")
  k_with "call builtin:sorted" => (k_here; k_dflt (refine' Stop9.h ?_))
  trivial
set_option maxRecDepth 100000 in
set_option maxHeartbeats 0 in
theorem law9 : ∀ (w : World) (p : Program) (loose : List Str) (mean : ExcName → Option Value) (mg mb : Str → Option Value) (h₀ : Heap) (L fa : Addr) (cd : Value) (rest : List Stmt) (s : Shared) (Q : Flow → Shared → Prop) (E : Value → Shared → Prop) (o1 o2 o3 o4 : Obj) (hd ql tl pl nl : Addr) (hs qs ts : List Value) (c3 c4 c6 : Nat) (line : Str) (t : Tok) (pv : Option Value) (pw : List (Addr × Obj)) (tr : List Str),
   (K w.params).In h₀ → Top p loose mean mg mb h₀ → Below callerA h₀ [] h₀ →
   StrsAre ts tr →
   tr.length < 64 →
   2 ≤ tr.length →
   (tr.map rowF).Nodup →
   (∀ z ∈ tr, z.length ≤ 10000) →
   (∀ z ∈ tr, 1 ≤ (Txt.split z (Str.ofString "/")).length) →
   Fr h₀ L s.heap (fun y => if y = Str.ofString "pairs" then some (.ref ql) else if y = Str.ofString "path" then pv else if y = Str.ofString "tree" then some (.ref tl) else if y = Str.ofString "paths" then some (.ref pl) else if y = Str.ofString "line" then some (.str line t) else if y = Str.ofString "numbers" then some (.ref nl) else none) → News h₀ L s.heap ((hd, listO hs.toArray c6) :: (ql, listO qs.toArray c4) :: (tl, listO ts.toArray c3) :: cellP L o1 o2 o3 o4 pw) →
   (∀ (h' : Heap) (tk' : Nat) (D : Addr) (ros : List Value) (c7 : Nat) (pw2 : List (Addr × Obj)) (rs : List (List Str)) (_ : ∀ q ∈ pw2, L + 1 + 1 + 1 + 1 < q.1) (_ : RowsAre pw2 ros rs) (_ : rs.Perm (tr.map rowF)) (_ : rs.Pairwise (fun a b => ltL a b = true)), Fr h₀ L h' (fun y => if y = Str.ofString "rows" then some (.ref D) else if y = Str.ofString "pairs" then some (.ref ql) else if y = Str.ofString "path" then pv else if y = Str.ofString "tree" then some (.ref tl) else if y = Str.ofString "paths" then some (.ref pl) else if y = Str.ofString "line" then some (.str line t) else if y = Str.ofString "numbers" then some (.ref nl) else none) → News h₀ L h' ((D, listO ros.toArray c7) :: (hd, listO hs.toArray c6) :: (ql, listO qs.toArray c4) :: cellP L o1 o2 o3 o4 (pw2 ++ pw)) → wpAny (model (OpenLaw.prog RR) w) (lawA L fa cd) (execs rest (lawE L fa cd)) Q E { s with heap := h', toks := tk' }) →
   wpAny (model (OpenLaw.prog RR) w) (lawA L fa cd) (execs ((lawB.drop 9).take 1 ++ rest) (lawE L fa cd)) Q E s := by
  k_fill
  intro w p loose mean mg mb h₀ L fa cd rest s Q E o1 o2 o3 o4 hd ql tl pl nl hs qs ts c3 c4 c6 line t pv pw tr X T B hts h64 h2 hnd hzl hsl F N hret
  have hS : lawS = ⟨_, _, _, _, _⟩ := rfl
  have hB : lawB = (_ :: _ :: _ :: _ :: _ :: _ :: _ :: _ :: _ :: _ :: _ :: _ :: _ :: _ :: _ :: _ :: []) := rfl
  rw [hB]
  simp only [lawE, lawA, hS] at hret ⊢
  clear hS hB
  show wpAny _ _ (execs (_ :: rest) _) _ _ _
  k_steps
  refine comp_J (fun i ys nw => ∃ pw2, nw = pw2 ++ ((hd, listO hs.toArray c6) :: (ql, listO qs.toArray c4) :: (tl, listO ts.toArray c3) :: cellP L o1 o2 o3 o4 pw) ∧ (∀ q ∈ pw2, L + 1 + 1 + 1 + 1 < q.1) ∧ RowsAre pw2 ys ((tr.take i).map rowF)) ⟨[], rfl, List.forall_mem_nil _, trivial⟩ ?turn ?fin
  case turn =>
    rintro i v ys nw I oI C oC D m₂ h tk hi hP ⟨pw2, hnw, hgt, hys⟩ hC hx F8 N8 off ne
    obtain ⟨x, t9, hxi, rfl⟩ := strs_get hts (by simpa using hP)
    have a1 := hzl x (List.mem_of_getElem? hxi)
    have hS : (tl, listO ts.toArray c3) ∈ nw := by rw [hnw]; exact List.mem_append_right _ (.tail _ (.tail _ (.head _)))
    k_steps
    rename List.map _ _ = Txt.split _ _ => hsp
    rename StrsAre (strValues _) _ => hst
    rename News _ _ _ _ => N7
    rename News _ _ _ (_ :: (I, oI) :: _) => N6
    rename Fr _ _ _ _ => F7
    rw [hsp] at hst
    obtain ⟨us9, eu, hus⟩ := strs_slice1 hst (hsl x (List.mem_of_getElem? hxi))
    rw [eu] at N7
    have hlI := Heap.lt_size (N6 (I, oI) (.tail _ (.head _))).1
    have hlC := Heap.lt_size (N6 (C, oC) (.tail _ (.tail _ (.head _)))).1
    have hlD := Heap.lt_size (N6 (D, _) (.tail _ (.tail _ (.tail _ (.head _))))).1
    have hM : (L + 1 + 1 + 1 + 1, o1) ∈ nw := by rw [hnw]; exact List.mem_append_right _ (.tail _ (.tail _ (.tail _ (.head _))))
    have hl1 := Heap.lt_size (N6 _ (.tail _ (.tail _ (.tail _ (.tail _ hM))))).1
    refine comp_new (P := True) F7 (news_two N7) ⟨Nat.lt_succ_of_lt hlI, Nat.lt_succ_of_lt hlC, Nat.lt_succ_of_lt hlD, trivial⟩ off (.inr ⟨_, .tail _ hS, rfl, _, rfl⟩) ⟨_ :: pw2, by rw [hnw]; rfl, List.forall_mem_cons.mpr ⟨Nat.lt_succ_of_lt hl1, hgt⟩, ?_⟩
    rw [List.take_add_one, hxi, List.map_append]
    exact rows_snoc (rows_more (fun q hq => .tail _ hq) hys) (.head _) hus
  case fin =>
    rintro ys nw ⟨pw2, hnw, hgt, hys⟩
    rw [List.size_toArray, strsAre_len hts, List.take_length] at hys
    have hyl := rows_len hys
    rw [List.length_map] at hyl
    k_steps
    refine ⟨?_⟩
    rename News _ _ _ _ => N6
    rename Fr _ _ _ _ => F6
    refine sorted_rows F6 N6 (.head _) hys (fun q hq => .tail _ (by rw [hnw]; exact List.mem_append_left _ hq)) (by rw [hyl]; exact h2) (by rw [hyl]; exact h64) hnd (by ktr_units) fun D h7 vs rs c7 F7 N7 hlt hrs hpm hst => ?_
    clear N6 F6
    k_steps
    rename News _ _ _ _ => N8
    refine hret _ _ D vs c7 pw2 rs hgt hrs hpm hst (by assumption) (news_sub N8 ?_)
    rw [hnw]
    try dsimp only [cellP, cellL]
    repeat (refine fmc (by (repeat (first | exact List.mem_cons_self | refine List.mem_cons_of_mem _ ?_ | refine List.mem_append_right _ ?_))) ?_)
    intro q hq
    exact List.mem_cons_of_mem _ (List.mem_cons_of_mem _ ((List.mem_append.mp hq).elim (fun h => List.mem_append_left _ h) fun h => List.mem_append_right _ (by repeat (first | (with_reducible exact h) | refine List.mem_cons_of_mem _ ?_))))
end Mine
end
section
open PySem PySem.W PySem.Calls PySem.Spec PyProof.Rows
namespace Mine
theorem kw_Z10_1 : True := by
  k_with_none
  k_with "execs cons" => (first | (k_here; k_gentoks) | (refine' execs_one ?_) | (refine' execs_let ?_; intro Cq9))
  k_with "ite" => (first | (k_closed; first | refine ite_pos (by decide +kernel) ?_ | refine ite_neg (by decide +kernel) ?_) | refine ite_pos (by with_reducible assumption) ?_ | refine ite_neg (by with_reducible assumption) ?_ | refine ite_isFalse (by with_reducible assumption) ?_)
  k_with "zz k_all" => first | assumption | exact List.forall_mem_nil _ | (refine' List.forall_mem_cons.mpr ⟨?aq9, ?bq9⟩; (case aq9 => k_ne); (case bq9 => k_all))
  k_with "call ref" => (k_here; k_dflt (show wpAny _ _ (call (Value.ref 933) [Value.ref _, Value.str _ _, Value.ref _]) _ _ _); k_dflt (refine' anyE (walkK 5 _ _ _ _ _ _ _ _ _ _ _ _ _ _ _ _ _ ?h1q9 ?h2q9 ?h3q9 ?h4q9 ?h5q9 ?h6q9 _ _ _ _ _ _ _ _ _ _ _ _ _ ?k1q9 ?k2q9 ?k3q9 ?k4q9 ?k5q9 ?kKq9 ?kdq9 ?kuq9 ?_); (case k1q9 => k_asm); (case k2q9 => k_asm); (case k3q9 => k_asm); (case k4q9 => k_asm); (case k5q9 => k_asm); (case kKq9 => first | exact rfl | assumption); (case h1q9 => k_mem); (case h2q9 => k_mem); (case h4q9 => assumption); (case h6q9 => assumption); (case h5q9 => assumption); (case h3q9 => (refine' pairs_more ?_ (by assumption); intro qq9 hqq9; (repeat' (first | exact hqq9 | refine List.Mem.tail _ ?_)))); (case kdq9 => k_room); (case kuq9 => ktr_units)); intro h'q9 tk'q9 S'q9 us'q9 c3'q9 hus'q9 F'q9 N'q9; (try dsimp only); (try k_sweep); walk_say "WALKK")
  trivial
set_option maxRecDepth 100000 in
set_option maxHeartbeats 0 in
theorem law10 : ∀ (w : World) (p : Program) (loose : List Str) (mean : ExcName → Option Value) (mg mb : Str → Option Value) (h₀ : Heap) (L fa : Addr) (cd : Value) (rest : List Stmt) (s : Shared) (Q : Flow → Shared → Prop) (E : Value → Shared → Prop) (o1 o2 o3 o4 : Obj) (rl hd ql tl pl nl : Addr) (ros hs qs : List Value) (c4 c6 c7 : Nat) (line : Str) (t : Tok) (pv : Option Value) (pw : List (Addr × Obj)) (ps : List (Str × Str)) (hid : List Str),
   (K w.params).In h₀ → Top p loose mean mg mb h₀ → Below callerA h₀ [] h₀ →
   o2.data = .cell (some (.ref hd)) →
   StrsAre hs hid →
   PairsAre pw qs ps →
   qs.length ≤ 1000 →
   WOk ps hid 5 (Str.ofString "/") →
   Fr h₀ L s.heap (fun y => if y = Str.ofString "rows" then some (.ref rl) else if y = Str.ofString "pairs" then some (.ref ql) else if y = Str.ofString "path" then pv else if y = Str.ofString "tree" then some (.ref tl) else if y = Str.ofString "paths" then some (.ref pl) else if y = Str.ofString "line" then some (.str line t) else if y = Str.ofString "numbers" then some (.ref nl) else none) → News h₀ L s.heap ((rl, listO ros.toArray c7) :: (hd, listO hs.toArray c6) :: (ql, listO qs.toArray c4) :: cellP L o1 o2 o3 o4 pw) →
   (∀ (h' : Heap) (tk' : Nat) (D : Addr) (ds : List Value) (c8 : Nat) (_ : StrsAre ds (walkF ps hid 5 (Str.ofString "/"))), Fr h₀ L h' (fun y => if y = Str.ofString "told" then some (.ref D) else if y = Str.ofString "rows" then some (.ref rl) else if y = Str.ofString "pairs" then some (.ref ql) else if y = Str.ofString "path" then pv else if y = Str.ofString "tree" then some (.ref tl) else if y = Str.ofString "paths" then some (.ref pl) else if y = Str.ofString "line" then some (.str line t) else if y = Str.ofString "numbers" then some (.ref nl) else none) → News h₀ L h' ((D, listO ds.toArray c8) :: (rl, listO ros.toArray c7) :: (hd, listO hs.toArray c6) :: (ql, listO qs.toArray c4) :: cellP L o1 o2 o3 o4 pw) → wpAny (model (OpenLaw.prog RR) w) (lawA L fa cd) (execs rest (lawE L fa cd)) Q E { s with heap := h', toks := tk' }) →
   wpAny (model (OpenLaw.prog RR) w) (lawA L fa cd) (execs ((lawB.drop 10).take 1 ++ rest) (lawE L fa cd)) Q E s := by
  k_fill
  intro w p loose mean mg mb h₀ L fa cd rest s Q E o1 o2 o3 o4 rl hd ql tl pl nl ros hs qs c4 c6 c7 line t pv pw ps hid X T B d2 hhs hps hql hok F N hret
  have hS : lawS = ⟨_, _, _, _, _⟩ := rfl
  have hB : lawB = (_ :: _ :: _ :: _ :: _ :: _ :: _ :: _ :: _ :: _ :: _ :: _ :: _ :: _ :: _ :: _ :: []) := rfl
  rw [hB]
  simp only [lawE, lawA, hS] at hret ⊢
  clear hS hB
  show wpAny _ _ (execs (_ :: rest) _) _ _ _
  k_steps
  rename News _ _ _ _ => N6
  exact hret _ _ _ _ _ (by assumption) (by assumption) N6
end Mine
end
section
open PySem PySem.W PySem.Calls PySem.Spec PyProof.Rows
set_option maxRecDepth 100000
namespace Mine
noncomputable def rowJ (r : List Str) : Str := Str.ofString "/" ++ Txt.join (Str.ofString "/") r
noncomputable def rowsH (hid : List Str) (rs : List (List Str)) : List (List Str) := rs.filter fun r => (r.filter fun z => hid.any (· == z)).isEmpty
noncomputable def toldF (hid : List Str) (rs : List (List Str)) : List Str := (rowsH hid rs).map rowJ
theorem told_no {hid : List Str} {rs : List (List Str)} {i : Nat} {r : List Str} {ys : List Value} (h : StrsAre ys (toldF hid (rs.take i))) (hr : rs[i]? = some r) (e : (r.filter fun z => hid.any (· == z)).isEmpty = false) : StrsAre ys (toldF hid (rs.take (i + 1))) := by
  have z : toldF hid (rs.take (i + 1)) = toldF hid (rs.take i) := by
    unfold toldF rowsH
    rw [List.take_add_one, hr]
    simp [List.filter_append, e]
  rw [z]; exact h
theorem told_yes {hid : List Str} {rs : List (List Str)} {i : Nat} {r : List Str} {ys : List Value} {z : Str} {t : Tok} (h : StrsAre ys (toldF hid (rs.take i))) (hr : rs[i]? = some r) (e : (r.filter fun z => hid.any (· == z)).isEmpty = true) (hz : z = rowJ r) : StrsAre (ys ++ [.str z t]) (toldF hid (rs.take (i + 1))) := by
  have q : toldF hid (rs.take (i + 1)) = toldF hid (rs.take i) ++ [rowJ r] := by
    unfold toldF rowsH
    rw [List.take_add_one, hr]
    simp [List.filter_append, e]
  rw [q, hz]; exact strsAre_snoc h _ _
theorem filt_no {f : Str → Bool} {l : List Str} {i : Nat} {x : Str} {ys : List Value} (h : StrsAre ys ((l.take i).filter f)) (hx : l[i]? = some x) (e : f x = false) : StrsAre ys ((l.take (i + 1)).filter f) := by
  rw [List.take_add_one, hx]
  simpa [List.filter_append, e] using h
theorem filt_yes {f : Str → Bool} {l : List Str} {i : Nat} {x : Str} {t : Tok} {ys : List Value} (h : StrsAre ys ((l.take i).filter f)) (hx : l[i]? = some x) (e : f x = true) : StrsAre (ys ++ [.str x t]) ((l.take (i + 1)).filter f) := by
  rw [List.take_add_one, hx]
  simpa [List.filter_append, e] using strsAre_snoc h x t
theorem strs_isEmpty {vs : List Value} {ws : List Str} (h : StrsAre vs ws) : vs.isEmpty = ws.isEmpty := by cases h <;> rfl
theorem row_len {r : List Str} (h : (r.map (·.length)).sum + r.length * 64 ≤ 10000) : (Txt.join (Str.ofString "/") r).length ≤ 50000 := by
  refine Nat.le_trans (len_join_le (n := 10000) ?_ (by decide +kernel)) (by decide)
  show (r.map (·.length)).sum + r.length ≤ 10001
  omega
end Mine
end
section
open PySem PySem.W PySem.Calls PySem.Spec PyProof.Rows
namespace Mine
theorem kw_Z11_1 : True := by
  k_with_none
  k_with "execs cons" => (first | (k_here; k_gentoks) | (refine' execs_one ?_) | (refine' execs_let ?_; intro Cq9))
  k_with "ite" => (first | (k_closed; first | refine ite_pos (by decide +kernel) ?_ | refine ite_neg (by decide +kernel) ?_) | refine ite_pos (by with_reducible assumption) ?_ | refine ite_neg (by with_reducible assumption) ?_ | refine ite_isFalse (by with_reducible assumption) ?_)
  k_with "zz k_all" => first | assumption | exact List.forall_mem_nil _ | (refine' List.forall_mem_cons.mpr ⟨?aq9, ?bq9⟩; (case aq9 => k_ne); (case bq9 => k_all))
  k_with "eval ListComp Subscript cons" => (k_here; k_dflt (refine LCt.ListComp_T (F₀ := by k_asm) (by with_unfolding_all rfl) (by decide) (by rfl) (by decide) (by rfl) ?_))
  k_with "eval ListComp" => (k_here; k_dflt (refine LCt.ListComp_T (F₀ := by k_asm) (by with_unfolding_all rfl) (by decide) (by rfl) (by decide) (by rfl) ?_))
  k_with "CompSrcT" => (refine' Stop9.h ?_)
  k_with "CompRestT" => (refine' Stop9.h ?_)
  k_with "compareOp In str ref" => (k_here; k_dflt (refine' in_strs ?k1q9 ?haq9 ?eaq9 ?h1q9 ?_; (case k1q9 => k_asm); (case haq9 => k_mem); (case eaq9 => exact rfl); (case h1q9 => assumption); k_whole); walk_say "IN")
  k_with "compareOp Eq ref ref" => (refine' Stop9.h ?_)
  k_with "binaryOp Add str str" => (k_here; (with_reducible show wpAny _ _ (binaryOp Operator.Add (Value.str _ _) (Value.str _ _)) _ _ _); k_dflt (refine' SBL.add ?_ ?hszq9; (case hszq9 => ((try simp only [slen]); rw [sizeLine_eq]; omega))); intro t'q9 k'q9 l'q9; clear l'q9)
  k_with "compareOp NotEq ref ref" => (k_here; k_dflt (refine' ne_strs ?k1q9 ?haq9 ?hbq9 ?eaq9 ?ebq9 ?h1q9 ?h2q9 ?huq9 ?_; (case k1q9 => k_asm); (case haq9 => k_mem); (case hbq9 => k_mem); (case eaq9 => exact rfl); (case ebq9 => exact rfl); (case h1q9 => assumption); (case h2q9 => assumption); (case huq9 => k_units); k_whole); walk_say "NE")
  trivial
set_option maxRecDepth 100000 in
set_option maxHeartbeats 0 in
theorem law11 : ∀ (w : World) (p : Program) (loose : List Str) (mean : ExcName → Option Value) (mg mb : Str → Option Value) (h₀ : Heap) (L fa : Addr) (cd : Value) (rest : List Stmt) (s : Shared) (Q : Flow → Shared → Prop) (E : Value → Shared → Prop) (o1 o2 o3 o4 : Obj) (rl hd ql tl pl nl dl : Addr) (ros hs qs ds : List Value) (c4 c6 c7 c8 : Nat) (line : Str) (t : Tok) (pv : Option Value) (pw : List (Addr × Obj)) (rs : List (List Str)) (hid : List Str),
   (K w.params).In h₀ → Top p loose mean mg mb h₀ → Below callerA h₀ [] h₀ →
   o2.data = .cell (some (.ref hd)) →
   StrsAre hs hid →
   RowsAre pw ros rs →
   ros.length ≤ 1000 →
   (∀ r ∈ rs, r.length ≤ 1000 ∧ (r.map (·.length)).sum + r.length * 64 ≤ 10000) →
   StrsAre ds (toldF hid rs) →
   Fr h₀ L s.heap (fun y => if y = Str.ofString "told" then some (.ref dl) else if y = Str.ofString "rows" then some (.ref rl) else if y = Str.ofString "pairs" then some (.ref ql) else if y = Str.ofString "path" then pv else if y = Str.ofString "tree" then some (.ref tl) else if y = Str.ofString "paths" then some (.ref pl) else if y = Str.ofString "line" then some (.str line t) else if y = Str.ofString "numbers" then some (.ref nl) else none) → News h₀ L s.heap ((dl, listO ds.toArray c8) :: (rl, listO ros.toArray c7) :: (hd, listO hs.toArray c6) :: (ql, listO qs.toArray c4) :: cellP L o1 o2 o3 o4 pw) →
   (∀ (h' : Heap) (tk' : Nat) , Fr h₀ L h' (fun y => if y = Str.ofString "told" then some (.ref dl) else if y = Str.ofString "rows" then some (.ref rl) else if y = Str.ofString "pairs" then some (.ref ql) else if y = Str.ofString "path" then pv else if y = Str.ofString "tree" then some (.ref tl) else if y = Str.ofString "paths" then some (.ref pl) else if y = Str.ofString "line" then some (.str line t) else if y = Str.ofString "numbers" then some (.ref nl) else none) → News h₀ L h' ((dl, listO ds.toArray c8) :: (rl, listO ros.toArray c7) :: (hd, listO hs.toArray c6) :: (ql, listO qs.toArray c4) :: cellP L o1 o2 o3 o4 pw) → wpAny (model (OpenLaw.prog RR) w) (lawA L fa cd) (execs rest (lawE L fa cd)) Q E { s with heap := h', toks := tk' }) →
   wpAny (model (OpenLaw.prog RR) w) (lawA L fa cd) (execs ((lawB.drop 11).take 1 ++ rest) (lawE L fa cd)) Q E s := by
  k_fill
  intro w p loose mean mg mb h₀ L fa cd rest s Q E o1 o2 o3 o4 rl hd ql tl pl nl dl ros hs qs ds c4 c6 c7 c8 line t pv pw rs hid X T B d2 hhs hrs hrl hrb hds F N hret
  have hS : lawS = ⟨_, _, _, _, _⟩ := rfl
  have hB : lawB = (_ :: _ :: _ :: _ :: _ :: _ :: _ :: _ :: _ :: _ :: _ :: _ :: _ :: _ :: _ :: _ :: []) := rfl
  rw [hB]
  simp only [lawE, lawA, hS] at hret ⊢
  clear hS hB
  show wpAny _ _ (execs (_ :: rest) _) _ _ _
  have hrlen := rows_len hrs
  k_steps
  refine ⟨?_⟩
  refine LCt.CompSrcT.ledger (by with_unfolding_all rfl) (by k_asm) (by k_asm) (.tail _ (.head _)) (by (simp only [List.size_toArray]; rw [sizeLine_eq]; omega)) ?_
  intro g
  refine comp_ST (fun i ys => StrsAre ys (toldF hid (rs.take i))) .nil ?turn ?fin
  case turn =>
    rintro i v ys I oI C oC D m₂ h tk hi hP hys hC hx F8 N8 off ne
    obtain ⟨r, ra, us, k5, hri, rfl, hma, hus⟩ := rows_get hrs (by simpa using hP)
    obtain ⟨b1, b2⟩ := hrb r (List.mem_of_getElem? hri)
    have hul := strsAre_len hus
    have hoff := off
    (try simp only [LCg.Off3, and_true] at off)
    k_steps
    refine ⟨?_⟩
    refine LCt.CompSrcT.ledger (by with_unfolding_all rfl) (by k_asm) (by k_asm) (ax := ra) (its := us.toArray) (k := k5) (by (repeat' (first | exact hma | refine List.Mem.tail _ ?_))) (by (simp only [List.size_toArray]; rw [sizeLine_eq]; omega)) ?_
    intro g2
    refine comp_ST (fun i ys => StrsAre ys ((r.take i).filter fun z => hid.any (· == z))) .nil ?turn2 ?fin2
    case turn2 =>
      rintro i2 v2 ys2 I2 oI2 C2 oC2 D2 m₃ h2 tk2 hi2 hP2 hys2 hC2 hx2 F9 N9 off2 ne2
      obtain ⟨z, t9, hzi, rfl⟩ := strs_get hus (by simpa using hP2)
      have hoff2 := off2
      (try simp only [LCg.Off3, and_true] at off2)
      cases hz : hid.any (· == z)
      · k_steps
        rename News _ _ _ _ => N7
        rename Fr _ _ _ _ => F7
        exact ⟨_, _, _, rfl, F7, N7, hoff2, .inr ⟨_, by (repeat' (first | exact hma | refine List.Mem.tail _ ?_)), rfl, _, rfl⟩, filt_no hys2 hzi hz, rfl⟩
      · k_steps
        rename News _ _ _ _ => N7
        rename Fr _ _ _ _ => F7
        exact ⟨_, _, _, rfl, F7, N7, hoff2, .inr ⟨_, by (repeat' (first | exact hma | refine List.Mem.tail _ ?_)), rfl, _, rfl⟩, filt_yes hys2 hzi hz, rfl⟩
    case fin2 =>
      rintro zs hzs
      rw [List.size_toArray, hul, List.take_length] at hzs
      k_steps
      refine ⟨?_⟩
      rename News _ _ _ _ => N9
      refine eq_empty N9 (.tail _ (.head _)) (.head _) rfl rfl (by k_units) ?_
      rw [strs_isEmpty hzs]
      cases hb : (r.filter fun z => hid.any (· == z)).isEmpty
      · k_steps
        rename News _ _ _ _ => N7
        rename Fr _ _ _ _ => F7
        exact ⟨_, _, _, rfl, F7, news_sub N7 fun q hq => .tail _ (.tail _ hq), hoff, .inr ⟨_, .tail _ (.head _), rfl, _, rfl⟩, told_no hys hri hb, rfl⟩
      · k_steps
        rename News _ _ _ _ => N7
        have hlist : (ra, listO us.toArray k5) ∈ (dl, listO ds.toArray c8) :: (rl, listO ros.toArray c7) :: (hd, listO hs.toArray c6) :: (ql, listO qs.toArray c4) :: cellP L o1 o2 o3 o4 pw := by
          repeat' (first | exact hma | refine List.Mem.tail _ ?_)
        refine join_listC (News.isList N7 (.tail _ (.tail _ (.tail _ (.tail _ (.tail _ hlist)))))) hus (by decide +kernel) (by omega) ?_
        intro t9 k9
        have z1 : (Str.ofString "/").length = 1 := rfl
        have z2 := row_len b2
        k_steps
        rename News _ _ _ _ => N8
        rename Fr _ _ _ _ => F8
        exact ⟨_, _, _, rfl, F8, news_sub N8 fun q hq => .tail _ (.tail _ hq), hoff, .inr ⟨_, .tail _ (.head _), rfl, _, rfl⟩, told_yes hys hri hb rfl, rfl⟩
  case fin =>
    rintro ys hys
    rw [List.size_toArray, hrlen, List.take_length] at hys
    k_steps
    all_goals (rename News _ _ _ _ => N6; exact hret _ _ (by assumption) (news_sub N6 fun q hq => .tail _ hq))
end Mine
end
section
open PySem PySem.W PySem.Calls PySem.Spec PyProof.Rows
set_option maxRecDepth 100000
namespace Mine
theorem ne_cellQ {h₀ h : Heap} {L a b : Addr} {l : List (Addr × Obj)} {xs : Array Value} {c : Nat} {oa o : Obj} {v : Option Value} (N : News h₀ L h l) (ha : (a, oa) ∈ l) (hb : (b, o) ∈ l) (hda : oa.data = .seq xs c) (hd : o.data = .cell v) : @Ne Nat a b := fun e => by
  have h1 := (N _ ha).1
  have h2 := (N _ hb).1
  dsimp only at h1 h2
  rw [e, h2] at h1
  cases h1
  rw [hd] at hda
  cases hda
theorem pick12 {α : Type} {a b c d e : α} {l : List α} : ∀ q ∈ d :: b :: l, q ∈ a :: b :: c :: d :: e :: l :=
  fmc (.tail _ (.tail _ (.tail _ (.head _)))) (fmc (.tail _ (.head _)) fun _ h => .tail _ (.tail _ (.tail _ (.tail _ (.tail _ h)))))
section
variable {prog : Program} {w : World} {A : Around} {E : Value → Shared → Prop} {s : Shared} {h₀ : Heap} {L l : Addr} {m : Str → Option Value} {news : List (Addr × Obj)} {value slice : PySem.Expr} {vs : List Value} {ws : List Str} {c : Nat} {Q : Value → Shared → Prop} {x : Int} {k : Nat} {t : Tok}
theorem slice_upS (F : Fr h₀ L s.heap m) (N : News h₀ L s.heap news) (hl : (l, listO vs.toArray c) ∈ news) (hv : StrsAre vs ws) (hx : x = k) (hz : vs.length ≤ 100000)
    (h : ∀ D h' us, Fr h₀ L h' m → News h₀ L h' ((D, listO (List.toArray us) 0) :: news) → (∀ p ∈ news, p.1 < D) → StrsAre us (ws.take k) → Q (.ref D) { s with heap := h' })
    (hs : subscripted slice false (.ref l) (.ref s.heap.objs.size) = operate [.ref s.heap.objs.size, .ref l] (getItem (.ref l) (.ref s.heap.objs.size))) (ht : ∀ r, letTemporaryGo value (.ref l) r = pure ()) :
    wpAny (model prog w) A (subscriptTail value slice (.ref l) (.ref s.heap.objs.size)) Q E { s with heap := s.heap.push { cls := .type "slice", data := .fields #[.none, .int x t, .none] } } := by
  subst hx
  refine kmk_slice F N (News.isList N hl) IsPart.none (IsPart.int _ _) (fun D h' F' N' l1 => h D h' (vs.take k) F' ?_ l1 (StrsAre.take' hv k)) hs ht (by rw [List.size_toArray, sizeLine_eq]; omega)
  rw [slicePick_upto'] at N'
  exact N'
theorem slice_fromS (F : Fr h₀ L s.heap m) (N : News h₀ L s.heap news) (hl : (l, listO vs.toArray c) ∈ news) (hv : StrsAre vs ws) (hx : x = k) (hz : vs.length ≤ 100000)
    (h : ∀ D h' us, Fr h₀ L h' m → News h₀ L h' ((D, listO (List.toArray us) 0) :: news) → (∀ p ∈ news, p.1 < D) → StrsAre us (ws.drop k) → Q (.ref D) { s with heap := h' })
    (hs : subscripted slice false (.ref l) (.ref s.heap.objs.size) = operate [.ref s.heap.objs.size, .ref l] (getItem (.ref l) (.ref s.heap.objs.size))) (ht : ∀ r, letTemporaryGo value (.ref l) r = pure ()) :
    wpAny (model prog w) A (subscriptTail value slice (.ref l) (.ref s.heap.objs.size)) Q E { s with heap := s.heap.push { cls := .type "slice", data := .fields #[.int x t, .none, .none] } } := by
  subst hx
  refine kmk_slice F N (News.isList N hl) (IsPart.int _ _) IsPart.none (fun D h' F' N' l1 => h D h' (vs.drop k) F' ?_ l1 (StrsAre.drop' hv k)) hs ht (by rw [List.size_toArray, sizeLine_eq]; omega)
  rw [slicePick_from'] at N'
  exact N'
end
end Mine
end
section
open PySem PySem.W PySem.Calls PySem.Spec PyProof.Rows
namespace Mine
theorem kw_Z12_1 : True := by
  k_with_none
  k_with "execs cons" => (first | (k_here; k_gentoks) | (refine' execs_one ?_) | (refine' execs_let ?_; intro Cq9))
  k_with "ite" => (first | (k_closed; first | refine ite_pos (by decide +kernel) ?_ | refine ite_neg (by decide +kernel) ?_) | refine ite_pos (by with_reducible assumption) ?_ | refine ite_neg (by with_reducible assumption) ?_ | refine ite_isFalse (by with_reducible assumption) ?_)
  k_with "zz k_all" => first | assumption | exact List.forall_mem_nil _ | (refine' List.forall_mem_cons.mpr ⟨?aq9, ?bq9⟩; (case aq9 => k_ne); (case bq9 => k_all))
  k_with "call ref" => (k_here; k_dflt (show wpAny _ _ (call (Value.ref 933) [Value.ref _, Value.str _ _, Value.ref _]) _ _ _); k_dflt (refine' anyE (walkK 5 _ _ _ _ _ _ _ _ _ _ _ _ _ _ _ _ _ ?h1q9 ?h2q9 ?h3q9 ?h4q9 ?h5q9 ?h6q9 _ _ _ _ _ _ _ _ _ _ _ _ _ ?k1q9 ?k2q9 ?k3q9 ?k4q9 ?k5q9 ?kKq9 ?kdq9 ?kuq9 ?_); (case k1q9 => k_asm); (case k2q9 => k_asm); (case k3q9 => k_asm); (case k4q9 => k_asm); (case k5q9 => k_asm); (case kKq9 => first | exact rfl | assumption); (case h1q9 => k_mem); (case h2q9 => k_mem); (case h4q9 => assumption); (case h6q9 => assumption); (case h5q9 => assumption); (case h3q9 => (refine' pairs_more ?_ (by assumption); intro qq9 hqq9; (repeat' (first | exact hqq9 | refine List.Mem.tail _ ?_)))); (case kdq9 => k_room); (case kuq9 => ktr_units)); intro h'q9 tk'q9 S'q9 us'q9 c3'q9 hus'q9 F'q9 N'q9; (try dsimp only); (try k_sweep); walk_say "WALKK")
  k_with "subscriptTail Name Slice ref ref" => (k_here; k_dflt (refine' slice_upS ?Fq9 ?Nq9 ?lq9 ?vq9 ?xq9 ?zzq9 ?_ ?sq9 ?tq9; (case Fq9 => k_asm); (case Nq9 => k_asm); (case lq9 => k_mem); (case vq9 => assumption); (case xq9 => assumption); (case zzq9 => omega); (case sq9 => with_unfolding_all rfl); (case tq9 => kmk_pure)); intro D'q9 h'q9 us'q9 F'q9 N'q9 l1q9 hus'q9; (try k_lt l1q9); (try k_sweep); walk_say "UPS")
  k_with "subscriptTail Name Slice ref ref" => (k_here; k_dflt (refine' slice_fromS ?Fq9 ?Nq9 ?lq9 ?vq9 ?xq9 ?zzq9 ?_ ?sq9 ?tq9; (case Fq9 => k_asm); (case Nq9 => k_asm); (case lq9 => k_mem); (case vq9 => assumption); (case xq9 => assumption); (case zzq9 => omega); (case sq9 => with_unfolding_all rfl); (case tq9 => kmk_pure)); intro D'q9 h'q9 us'q9 F'q9 N'q9 l1q9 hus'q9; (try k_lt l1q9); (try k_sweep); walk_say "FROMS")
  trivial
set_option maxRecDepth 100000 in
set_option maxHeartbeats 0 in
theorem law12 : ∀ (w : World) (p : Program) (loose : List Str) (mean : ExcName → Option Value) (mg mb : Str → Option Value) (h₀ : Heap) (L fa : Addr) (cd : Value) (rest : List Stmt) (s : Shared) (Q : Flow → Shared → Prop) (E : Value → Shared → Prop) (o1 o2 o3 o4 : Obj) (rl hd ql tl pl nl dl : Addr) (ros hs qs ds : List Value) (c4 c6 c7 c8 : Nat) (line : Str) (t : Tok) (pv : Option Value) (pw : List (Addr × Obj)) (rs : List (List Str)) (hid : List Str) (ps : List (Str × Str)),
   (K w.params).In h₀ → Top p loose mean mg mb h₀ → Below callerA h₀ [] h₀ →
   (∀ q ∈ pw, L + 1 + 1 + 1 + 1 < q.1) →
   o1.data = .cell none →
   o2.data = .cell (some (.ref hd)) →
   StrsAre hs hid →
   hid.length ≤ 100 →
   PairsAre pw qs ps →
   qs.length ≤ 1000 →
   WOk ps (hid.take (hid.length / 2)) 5 (Str.ofString "/") →
   WOk ps (hid.drop (hid.length / 2)) 5 (Str.ofString "/") →
   Fr h₀ L s.heap (fun y => if y = Str.ofString "told" then some (.ref dl) else if y = Str.ofString "rows" then some (.ref rl) else if y = Str.ofString "pairs" then some (.ref ql) else if y = Str.ofString "path" then pv else if y = Str.ofString "tree" then some (.ref tl) else if y = Str.ofString "paths" then some (.ref pl) else if y = Str.ofString "line" then some (.str line t) else if y = Str.ofString "numbers" then some (.ref nl) else none) → News h₀ L s.heap ((dl, listO ds.toArray c8) :: (rl, listO ros.toArray c7) :: (hd, listO hs.toArray c6) :: (ql, listO qs.toArray c4) :: cellP L o1 o2 o3 o4 pw) →
   (∀ (h' : Heap) (tk' : Nat) (a1 a2 : Addr) (ones twos : List Value) (c9 c10 : Nat) (o : Obj) (hf : Value) (_ : StrsAre ones (walkF ps (hid.take (hid.length / 2)) 5 (Str.ofString "/"))) (_ : StrsAre twos (walkF ps (hid.drop (hid.length / 2)) 5 (Str.ofString "/"))) (_ : o.data = .cell (some (.ref a2))), Fr h₀ L h' (fun y => if y = Str.ofString "one" then some (.ref a1) else if y = Str.ofString "half" then some hf else if y = Str.ofString "told" then some (.ref dl) else if y = Str.ofString "rows" then some (.ref rl) else if y = Str.ofString "pairs" then some (.ref ql) else if y = Str.ofString "path" then pv else if y = Str.ofString "tree" then some (.ref tl) else if y = Str.ofString "paths" then some (.ref pl) else if y = Str.ofString "line" then some (.str line t) else if y = Str.ofString "numbers" then some (.ref nl) else none) → News h₀ L h' ((a1, listO ones.toArray c9) :: (a2, listO twos.toArray c10) :: (dl, listO ds.toArray c8) :: (rl, listO ros.toArray c7) :: (hd, listO hs.toArray c6) :: (ql, listO qs.toArray c4) :: cellP L o o2 o3 o4 pw) → wpAny (model (OpenLaw.prog RR) w) (lawA L fa cd) (execs rest (lawE L fa cd)) Q E { s with heap := h', toks := tk' }) →
   wpAny (model (OpenLaw.prog RR) w) (lawA L fa cd) (execs ((lawB.drop 12).take 2 ++ rest) (lawE L fa cd)) Q E s := by
  k_fill
  intro w p loose mean mg mb h₀ L fa cd rest s Q E o1 o2 o3 o4 rl hd ql tl pl nl dl ros hs qs ds c4 c6 c7 c8 line t pv pw rs hid ps X T B hgt d1 d2 hhs hh100 hps hql hok1 hok2 F N hret
  have hS : lawS = ⟨_, _, _, _, _⟩ := rfl
  have hB : lawB = (_ :: _ :: _ :: _ :: _ :: _ :: _ :: _ :: _ :: _ :: _ :: _ :: _ :: _ :: _ :: _ :: []) := rfl
  rw [hB]
  simp only [lawE, lawA, hS] at hret ⊢
  clear hS hB
  show wpAny _ _ (execs (_ :: _ :: rest) _) _ _ _
  have hhl := strsAre_len hhs
  have hx2 : ((hid.length : Int)).fdiv 2 = ((hid.length / 2 : Nat) : Int) := by rw [Int.fdiv_eq_ediv_of_nonneg _ (by decide)]; rfl
  have p4 : ∀ q ∈ pw, q.1 ≠ L + 1 + 1 + 1 + 1 := fun q hq => Nat.ne_of_gt (hgt q hq)
  k_steps
  rename News _ _ _ _ => N7
  have n0 := ne_cellQ N7 (.head _) (.tail _ (.tail _ (.tail _ (.tail _ (.tail _ (.tail _ (.tail _ (.tail _ (.tail _ (.head _)))))))))) rfl d1
  have n1 := ne_cellQ N7 (.tail _ (.head _)) (.tail _ (.tail _ (.tail _ (.tail _ (.tail _ (.tail _ (.tail _ (.tail _ (.tail _ (.head _)))))))))) rfl d1
  have n2 := ne_cellQ N7 (.tail _ (.tail _ (.head _))) (.tail _ (.tail _ (.tail _ (.tail _ (.tail _ (.tail _ (.tail _ (.tail _ (.tail _ (.head _)))))))))) rfl d1
  have n3 := ne_cellQ N7 (.tail _ (.tail _ (.tail _ (.head _)))) (.tail _ (.tail _ (.tail _ (.tail _ (.tail _ (.tail _ (.tail _ (.tail _ (.tail _ (.head _)))))))))) rfl d1
  have n4 := ne_cellQ N7 (.tail _ (.tail _ (.tail _ (.tail _ (.head _))))) (.tail _ (.tail _ (.tail _ (.tail _ (.tail _ (.tail _ (.tail _ (.tail _ (.tail _ (.head _)))))))))) rfl d1
  have n5 := ne_cellQ N7 (.tail _ (.tail _ (.tail _ (.tail _ (.tail _ (.head _)))))) (.tail _ (.tail _ (.tail _ (.tail _ (.tail _ (.tail _ (.tail _ (.tail _ (.tail _ (.head _)))))))))) rfl d1
  have n6 := ne_cellQ N7 (.tail _ (.tail _ (.tail _ (.tail _ (.tail _ (.tail _ (.head _))))))) (.tail _ (.tail _ (.tail _ (.tail _ (.tail _ (.tail _ (.tail _ (.tail _ (.tail _ (.head _)))))))))) rfl d1
  have n7 := ne_cellQ N7 (.tail _ (.tail _ (.tail _ (.tail _ (.tail _ (.tail _ (.tail _ (.head _)))))))) (.tail _ (.tail _ (.tail _ (.tail _ (.tail _ (.tail _ (.tail _ (.tail _ (.tail _ (.head _)))))))))) rfl d1
  have n8 := ne_cellQ N7 (.tail _ (.tail _ (.tail _ (.tail _ (.tail _ (.tail _ (.tail _ (.tail _ (.head _))))))))) (.tail _ (.tail _ (.tail _ (.tail _ (.tail _ (.tail _ (.tail _ (.tail _ (.tail _ (.head _)))))))))) rfl d1
  k_steps
  rename News _ _ _ _ => N6
  exact hret _ _ _ _ _ _ _ _ _ _ (by assumption) (by assumption) (by assumption) (by assumption) (news_sub N6 pick12)
end Mine
end
section
open PySem PySem.W PySem.Calls PySem.Spec PyProof.Rows
set_option maxRecDepth 100000
namespace Mine
theorem walkN : ∀ (n : Nat) (w : World) (p : Program) (loose : List Str) (mean : ExcName → Option Value) (mg mb : Str → Option Value) (here : Str) (th : Tok) (pl hl : Addr) (vs : List Value) (c c2 : Nat) (ps : List (Str × Str)) (led : List (Addr × Obj)),
   (pl, listO vs.toArray c) ∈ led → (hl, listO #[] c2) ∈ led → PairsAre led vs ps → vs.length ≤ 1000 → WOk ps [] n here →
   ∀ (dp un : Nat) (gd : Option (List Code)) (cn : Str) (cs : Scope) (a : Addr) (ccd : Value) (cl : List (Str × Addr)) (h₀ : Heap) (L : Addr) (m : Str → Option Value) (s : Shared) (Q : Value → Shared → Prop),
    Below callerA h₀ [] h₀ → Fr h₀ L s.heap m → (K w.params).In h₀ → News h₀ L s.heap led → Top p loose mean mg mb h₀ → cs.kind = .function →
     dp + (50 + 5 * n) < recursionLimit → un + (500 + 20 * n) < cLine →
     (∀ (h' : Heap) (tk' : Nat) (S : Addr) (us : List Value) (c3 : Nat), StrsAre us (walkF ps [] n here) → Fr h₀ L h' m → News h₀ L h' ((S, listO us.toArray c3) :: led) → Q (.ref S) { s with heap := h', toks := tk' }) →
     wpAny (model (OpenLaw.prog RR) w) (ktrTop dp un gd cn cs L a ccd cl []) (call (.ref 933) [.ref pl, .str here th, .ref hl]) Q (fun _ _ => False) s := by
  intro n w p loose mean mg mb here th pl hl vs c c2 ps led hpl hhl hps hlen hok
  exact walkK n w p loose mean mg mb here th pl hl vs [] c c2 ps [] led hpl hhl hps .nil hlen hok
theorem rowsJ_take {rs : List (List Str)} {i : Nat} {r : List Str} {ys : List Value} {z : Str} {t : Tok} (h : StrsAre ys ((rs.take i).map rowJ)) (hr : rs[i]? = some r) (hz : z = rowJ r) : StrsAre (ys ++ [.str z t]) ((rs.take (i + 1)).map rowJ) := by
  rw [List.take_add_one, hr, hz]
  simpa using strsAre_snoc h (rowJ r) t
end Mine
end
section
open PySem PySem.W PySem.Calls PySem.Spec PyProof.Rows
namespace Mine
theorem kw_Z14_1 : True := by
  k_with_none
  k_with "execs cons" => (first | (k_here; k_gentoks) | (refine' execs_one ?_) | (refine' execs_let ?_; intro Cq9))
  k_with "ite" => (first | (k_closed; first | refine ite_pos (by decide +kernel) ?_ | refine ite_neg (by decide +kernel) ?_) | refine ite_pos (by with_reducible assumption) ?_ | refine ite_neg (by with_reducible assumption) ?_ | refine ite_isFalse (by with_reducible assumption) ?_)
  k_with "zz k_all" => first | assumption | exact List.forall_mem_nil _ | (refine' List.forall_mem_cons.mpr ⟨?aq9, ?bq9⟩; (case aq9 => k_ne); (case bq9 => k_all))
  k_with "eval ListComp" => (k_here; k_dflt (refine LCg.ListComp_U (F₀ := by k_asm) (by with_unfolding_all rfl) (by decide) (by rfl) (by decide) (by rfl) ?_))
  k_with "eval ListComp Subscript cons" => (k_here; k_dflt (refine LCt.ListComp_T (F₀ := by k_asm) (by with_unfolding_all rfl) (by decide) (by rfl) (by decide) (by rfl) ?_))
  k_with "eval ListComp" => (k_here; k_dflt (refine LCt.ListComp_T (F₀ := by k_asm) (by with_unfolding_all rfl) (by decide) (by rfl) (by decide) (by rfl) ?_))
  k_with "eval ListComp BinOp cons" => (k_here; k_dflt (refine LCg.ListComp_U (F₀ := by k_asm) (by with_unfolding_all rfl) (by decide) (by rfl) (by decide) (by rfl) ?_))
  k_with "eval ListComp BinOp" => (k_here; k_dflt (refine LCg.ListComp_U (F₀ := by k_asm) (by with_unfolding_all rfl) (by decide) (by rfl) (by decide) (by rfl) ?_))
  k_with "CompSrcT" => (refine' Stop9.h ?_)
  k_with "CompRestT" => (refine' Stop9.h ?_)
  k_with "CompSrc" => (k_here; k_dflt (refine LCg.CompSrc.ledger (by with_unfolding_all rfl) (by k_asm) (by k_asm) (by k_mem) ?zzq9 ?_); (case zzq9 => (simp only [List.size_toArray]; rw [sizeLine_eq]; omega)))
  k_with "compareOp In str ref" => (k_here; k_dflt (refine' in_strs ?k1q9 ?haq9 ?eaq9 ?h1q9 ?_; (case k1q9 => k_asm); (case haq9 => k_mem); (case eaq9 => exact rfl); (case h1q9 => assumption); k_whole); walk_say "IN")
  k_with "binaryOp Add str str" => (k_here; (with_reducible show wpAny _ _ (binaryOp Operator.Add (Value.str _ _) (Value.str _ _)) _ _ _); k_dflt (refine' SBL.add ?_ ?hszq9; (case hszq9 => ((try simp only [slen]); rw [sizeLine_eq]; omega))); intro t'q9 k'q9 l'q9; clear l'q9)
  k_with "compareOp NotEq ref ref" => (k_here; k_dflt (refine' ne_strs ?k1q9 ?haq9 ?hbq9 ?eaq9 ?ebq9 ?h1q9 ?h2q9 ?huq9 ?_; (case k1q9 => k_asm); (case haq9 => k_mem); (case hbq9 => k_mem); (case eaq9 => exact rfl); (case ebq9 => exact rfl); (case h1q9 => assumption); (case h2q9 => assumption); (case huq9 => k_units); k_whole); walk_say "NE")
  k_with "call ref" => (k_here; k_dflt (show wpAny _ _ (call (Value.ref 933) [Value.ref _, Value.str _ _, Value.ref _]) _ _ _); k_dflt (refine' anyE (walkN 5 _ _ _ _ _ _ _ _ _ _ _ _ _ _ _ ?h1q9 ?h2q9 ?h3q9 ?h5q9 ?h6q9 _ _ _ _ _ _ _ _ _ _ _ _ _ ?k1q9 ?k2q9 ?k3q9 ?k4q9 ?k5q9 ?kKq9 ?kdq9 ?kuq9 ?_); (case k1q9 => k_asm); (case k2q9 => k_asm); (case k3q9 => k_asm); (case k4q9 => k_asm); (case k5q9 => k_asm); (case kKq9 => first | exact rfl | assumption); (case h1q9 => k_mem); (case h2q9 => k_mem); (case h6q9 => assumption); (case h5q9 => assumption); (case h3q9 => (refine' pairs_more ?_ (by assumption); intro qq9 hqq9; (repeat' (first | exact hqq9 | refine List.Mem.tail _ ?_)))); (case kdq9 => k_room); (case kuq9 => ktr_units)); intro h'q9 tk'q9 S'q9 us'q9 c3'q9 hus'q9 F'q9 N'q9; (try dsimp only); (try k_sweep); walk_say "WALKN")
  trivial
set_option maxRecDepth 100000 in
set_option maxHeartbeats 0 in
theorem law14 : ∀ (w : World) (p : Program) (loose : List Str) (mean : ExcName → Option Value) (mg mb : Str → Option Value) (h₀ : Heap) (L fa : Addr) (cd : Value) (rest : List Stmt) (s : Shared) (Q : Flow → Shared → Prop) (E : Value → Shared → Prop) (o1 o2 o3 o4 : Obj) (rl hd ql tl pl nl dl : Addr) (ros hs qs ds : List Value) (c4 c6 c7 c8 : Nat) (line : Str) (t : Tok) (pv : Option Value) (pw : List (Addr × Obj)) (rs : List (List Str)) (hid : List Str) (a1 a2 : Addr) (ones twos : List Value) (c9 c10 : Nat) (hf : Value) (w1 w2 : List Str) (ps : List (Str × Str)),
   (K w.params).In h₀ → Top p loose mean mg mb h₀ → Below callerA h₀ [] h₀ →
   o1.data = .cell (some (.ref a2)) →
   StrsAre ones w1 →
   StrsAre twos w2 →
   w1.length ≤ 1000 →
   StrsAre ds (w1.filter fun z => w2.any (· == z)) →
   RowsAre pw ros rs →
   ros.length ≤ 1000 →
   (∀ r ∈ rs, r.length ≤ 1000 ∧ (r.map (·.length)).sum + r.length * 64 ≤ 10000) →
   PairsAre pw qs ps →
   qs.length ≤ 1000 →
   WOk ps [] 5 (Str.ofString "/") →
   walkF ps [] 5 (Str.ofString "/") = rs.map rowJ →
   Fr h₀ L s.heap (fun y => if y = Str.ofString "one" then some (.ref a1) else if y = Str.ofString "half" then some hf else if y = Str.ofString "told" then some (.ref dl) else if y = Str.ofString "rows" then some (.ref rl) else if y = Str.ofString "pairs" then some (.ref ql) else if y = Str.ofString "path" then pv else if y = Str.ofString "tree" then some (.ref tl) else if y = Str.ofString "paths" then some (.ref pl) else if y = Str.ofString "line" then some (.str line t) else if y = Str.ofString "numbers" then some (.ref nl) else none) → News h₀ L s.heap ((a1, listO ones.toArray c9) :: (a2, listO twos.toArray c10) :: (dl, listO ds.toArray c8) :: (rl, listO ros.toArray c7) :: (hd, listO hs.toArray c6) :: (ql, listO qs.toArray c4) :: cellP L o1 o2 o3 o4 pw) →
   (∀ (h' : Heap) (tk' : Nat) , Fr h₀ L h' (fun y => if y = Str.ofString "one" then some (.ref a1) else if y = Str.ofString "half" then some hf else if y = Str.ofString "told" then some (.ref dl) else if y = Str.ofString "rows" then some (.ref rl) else if y = Str.ofString "pairs" then some (.ref ql) else if y = Str.ofString "path" then pv else if y = Str.ofString "tree" then some (.ref tl) else if y = Str.ofString "paths" then some (.ref pl) else if y = Str.ofString "line" then some (.str line t) else if y = Str.ofString "numbers" then some (.ref nl) else none) → News h₀ L h' ((a1, listO ones.toArray c9) :: (a2, listO twos.toArray c10) :: (dl, listO ds.toArray c8) :: (rl, listO ros.toArray c7) :: (hd, listO hs.toArray c6) :: (ql, listO qs.toArray c4) :: cellP L o1 o2 o3 o4 pw) → wpAny (model (OpenLaw.prog RR) w) (lawA L fa cd) (execs rest (lawE L fa cd)) Q E { s with heap := h', toks := tk' }) →
   wpAny (model (OpenLaw.prog RR) w) (lawA L fa cd) (execs ((lawB.drop 14).take 1 ++ rest) (lawE L fa cd)) Q E s := by
  k_fill
  intro w p loose mean mg mb h₀ L fa cd rest s Q E o1 o2 o3 o4 rl hd ql tl pl nl dl ros hs qs ds c4 c6 c7 c8 line t pv pw rs hid a1 a2 ones twos c9 c10 hf w1 w2 ps X T B d1 hw1 hw2 hl1 hds hrs hrl hrb hps hql hok heq F N hret
  have hS : lawS = ⟨_, _, _, _, _⟩ := rfl
  have hB : lawB = (_ :: _ :: _ :: _ :: _ :: _ :: _ :: _ :: _ :: _ :: _ :: _ :: _ :: _ :: _ :: _ :: []) := rfl
  rw [hB]
  simp only [lawE, lawA, hS] at hret ⊢
  clear hS hB
  show wpAny _ _ (execs (_ :: rest) _) _ _ _
  have hrlen := rows_len hrs
  have hol := strsAre_len hw1
  have hnil : StrsAre [] [] := .nil
  k_steps
  refine ⟨?_⟩
  refine LCt.CompSrcT.ledger (by with_unfolding_all rfl) (by k_asm) (by k_asm) (.head _) (by (simp only [List.size_toArray]; rw [sizeLine_eq]; omega)) ?_
  intro g
  refine comp_ST (fun i ys => StrsAre ys ((w1.take i).filter fun z => w2.any (· == z))) .nil ?turn ?fin
  case turn =>
    rintro i v ys I oI C oC D m₂ h tk hi hP hys hC hx F8 N8 off ne
    obtain ⟨z, t9, hzi, rfl⟩ := strs_get hw1 (by simpa using hP)
    have hoff := off
    (try simp only [LCg.Off3, and_true] at off)
    cases hz : w2.any (· == z)
    · k_steps
      rename News _ _ _ _ => N7
      rename Fr _ _ _ _ => F7
      exact ⟨_, _, _, rfl, F7, N7, hoff, .inr ⟨_, .head _, rfl, _, rfl⟩, filt_no hys hzi hz, rfl⟩
    · k_steps
      rename News _ _ _ _ => N7
      rename Fr _ _ _ _ => F7
      exact ⟨_, _, _, rfl, F7, N7, hoff, .inr ⟨_, .head _, rfl, _, rfl⟩, filt_yes hys hzi hz, rfl⟩
  case fin =>
    rintro ys hys
    rw [List.size_toArray, hol, List.take_length] at hys
    k_steps
    refine comp_S (fun i ys => StrsAre ys ((rs.take i).map rowJ)) .nil ?turn3 ?fin3
    case turn3 =>
      rintro i v ys3 I oI C oC D m₂ h tk hi hP hys3 hC hx F8 N8 off ne
      obtain ⟨r, ra, us, k5, hri, rfl, hma, hus⟩ := rows_get hrs (by simpa using hP)
      obtain ⟨b1, b2⟩ := hrb r (List.mem_of_getElem? hri)
      have hoff := off
      (try simp only [LCg.Off3, and_true] at off)
      k_steps
      rename News _ _ _ _ => N7
      refine join_listC (News.isList N7 (by (repeat' (first | exact hma | refine List.Mem.tail _ ?_)))) hus (by decide +kernel) (by omega) ?_
      intro t9 k9
      have z1 : (Str.ofString "/").length = 1 := rfl
      have z2 := row_len b2
      k_steps
      rename News _ _ _ _ => N8
      rename Fr _ _ _ _ => F8
      exact ⟨_, _, _, rfl, F8, N8, hoff, .inr ⟨_, .tail _ (.tail _ (.tail _ (.tail _ (.tail _ (.tail _ (.head _)))))), rfl, _, rfl⟩, rowsJ_take hys3 hri rfl, rfl⟩
    case fin3 =>
      rintro ys3 hys3
      rw [List.size_toArray, hrlen, List.take_length, ← heq] at hys3
      k_steps
      rename News _ _ _ _ => N6
      exact hret _ _ (by assumption) (news_sub N6 fun q hq => .tail _ (.tail _ (.tail _ (.tail _ (hq)))))
end Mine
end
section
open PySem PySem.W PySem.Calls PySem.Spec PyProof.Rows
namespace Mine
theorem kw_Z15_1 : True := by
  k_with_none
  k_with "execs cons" => (first | (k_here; k_gentoks) | (refine' execs_one ?_) | (refine' execs_let ?_; intro Cq9))
  k_with "ite" => (first | (k_closed; first | refine ite_pos (by decide +kernel) ?_ | refine ite_neg (by decide +kernel) ?_) | refine ite_pos (by with_reducible assumption) ?_ | refine ite_neg (by with_reducible assumption) ?_ | refine ite_isFalse (by with_reducible assumption) ?_)
  k_with "zz k_all" => first | assumption | exact List.forall_mem_nil _ | (refine' List.forall_mem_cons.mpr ⟨?aq9, ?bq9⟩; (case aq9 => k_ne); (case bq9 => k_all))
  k_with "call ref" => (k_here; k_dflt (show wpAny _ _ (call (Value.ref 923) [Value.ref _]) _ _ _); k_dflt (refine' anyE (lineC _ _ _ _ _ _ _ _ _ _ _ ?h1q9 ?h2q9 ?h3q9 _ _ _ _ _ _ _ _ _ _ _ _ _ _ _ _ ?k1q9 ?k2q9 ?k3q9 ?k4q9 ?k5q9 ?kKq9 ?kdq9 ?kuq9 ?_); (case h1q9 => assumption); (case h2q9 => assumption); (case h3q9 => assumption); (case k1q9 => k_asm); (case k2q9 => k_asm); (case k3q9 => k_asm); (case k4q9 => k_asm); (case k5q9 => k_asm); (case kKq9 => first | exact rfl | assumption); (case kdq9 => k_room); (case kuq9 => ktr_units)); intro h'q9 tk'q9 t'q9 F'q9 N'q9; (try dsimp only); (try k_sweep); walk_say "LAWLINE")
  k_with "call ref" => (k_here; k_dflt (show wpAny _ _ (call (Value.ref 910) [Value.str _ _]) _ _ _); k_dflt (refine' anyE (splitK _ _ _ _ _ _ _ _ _ _  ?h0q9 ?h1q9 ?h2q9 _ _ _ _ _ _ _ _ _ _ _ _ _ ?k1q9 ?k2q9 ?k3q9 ?k4q9 ?k5q9 ?kKq9 ?kdq9 ?kuq9 ?_); (case h0q9 => assumption); (case h1q9 => assumption); (case h2q9 => assumption); (case k1q9 => k_asm); (case k2q9 => k_asm); (case k3q9 => k_asm); (case k4q9 => k_asm); (case k5q9 => k_asm); (case kKq9 => first | exact rfl | assumption); (case kdq9 => k_room); (case kuq9 => ktr_units)); intro h'q9 tk'q9 S'q9 us'q9 c3'q9 hus'q9 F'q9 N'q9; (try dsimp only); (try k_sweep); walk_say "SPLITK")
  k_with "compareOp Eq ref ref" => (k_here; k_dflt (refine' eq_strs ?k1q9 ?haq9 ?hbq9 ?eaq9 ?ebq9 ?h1q9 ?h2q9 ?huq9 ?_; (case k1q9 => k_asm); (case haq9 => k_mem); (case hbq9 => k_mem); (case eaq9 => exact rfl); (case ebq9 => exact rfl); (case h1q9 => assumption); (case h2q9 => assumption); (case huq9 => k_units); k_whole); walk_say "EQ")
  trivial
set_option maxRecDepth 100000 in
set_option maxHeartbeats 0 in
theorem law15 : ∀ (w : World) (p : Program) (loose : List Str) (mean : ExcName → Option Value) (mg mb : Str → Option Value) (h₀ : Heap) (L fa : Addr) (cd : Value) (rest : List Stmt) (s : Shared) (Q : Flow → Shared → Prop) (E : Value → Shared → Prop) (o1 o2 o3 o4 : Obj) (rl hd ql tl pl nl dl : Addr) (ros hs qs ds : List Value) (c4 c6 c7 c8 : Nat) (line : Str) (t : Tok) (pv : Option Value) (pw : List (Addr × Obj)) (rs : List (List Str)) (hid : List Str) (a1 a2 : Addr) (ones twos : List Value) (c9 c10 : Nat) (hf : Value) (w1 w2 : List Str) (ps : List (Str × Str)) (tw : List Str),
   (K w.params).In h₀ → Top p loose mean mg mb h₀ → Below callerA h₀ [] h₀ →
   StrsAre ds tw →
   (∀ x ∈ tw, QOk x) →
   TokL (Txt.join (Str.ofString " ") (tw.map quoteF)) tw →
   (Txt.join (Str.ofString " ") (tw.map quoteF)).length ≤ 1000000 →
   tw.length ≤ 100 →
   Fr h₀ L s.heap (fun y => if y = Str.ofString "one" then some (.ref a1) else if y = Str.ofString "half" then some hf else if y = Str.ofString "told" then some (.ref dl) else if y = Str.ofString "rows" then some (.ref rl) else if y = Str.ofString "pairs" then some (.ref ql) else if y = Str.ofString "path" then pv else if y = Str.ofString "tree" then some (.ref tl) else if y = Str.ofString "paths" then some (.ref pl) else if y = Str.ofString "line" then some (.str line t) else if y = Str.ofString "numbers" then some (.ref nl) else none) → News h₀ L s.heap [(dl, listO ds.toArray c8)] →
   (∀ (h' : Heap) (tk' : Nat) , Fr h₀ L h' (fun y => if y = Str.ofString "one" then some (.ref a1) else if y = Str.ofString "half" then some hf else if y = Str.ofString "told" then some (.ref dl) else if y = Str.ofString "rows" then some (.ref rl) else if y = Str.ofString "pairs" then some (.ref ql) else if y = Str.ofString "path" then pv else if y = Str.ofString "tree" then some (.ref tl) else if y = Str.ofString "paths" then some (.ref pl) else if y = Str.ofString "line" then some (.str line t) else if y = Str.ofString "numbers" then some (.ref nl) else none) → News h₀ L h' [(dl, listO ds.toArray c8)] → Q (.ret (.bool true)) { s with heap := h', toks := tk' }) →
   wpAny (model (OpenLaw.prog RR) w) (lawA L fa cd) (execs ((lawB.drop 15).take 1 ++ rest) (lawE L fa cd)) Q E s := by
  k_fill
  intro w p loose mean mg mb h₀ L fa cd rest s Q E o1 o2 o3 o4 rl hd ql tl pl nl dl ros hs qs ds c4 c6 c7 c8 line t pv pw rs hid a1 a2 ones twos c9 c10 hf w1 w2 ps tw X T B hds hq htk hll hwl F N hret
  have hS : lawS = ⟨_, _, _, _, _⟩ := rfl
  have hB : lawB = (_ :: _ :: _ :: _ :: _ :: _ :: _ :: _ :: _ :: _ :: _ :: _ :: _ :: _ :: _ :: _ :: []) := rfl
  rw [hB]
  simp only [lawE, lawA, hS] at hret ⊢
  clear hS hB
  show wpAny _ _ (execs (_ :: rest) _) _ _ _
  have hsz : ds.toArray.size ≤ 100 := by
    have := strsAre_len hds
    rw [List.size_toArray]
    omega
  have hwl2 : tw.length ≤ 1000 := by omega
  k_steps
  rename News _ _ _ _ => N6
  exact hret _ _ (by assumption) (news_sub N6 fun q hq => .tail _ hq)
end Mine
end
section
open PySem PySem.W PySem.Calls PySem.Spec PyProof.Rows
set_option maxRecDepth 100000
namespace Mine
noncomputable abbrev sl1 : Str := Str.ofString "/"
noncomputable abbrev jn (ws : List Str) : Str := Txt.join (Str.ofString " ") (ws.map quoteF)
noncomputable def treeN (ns : List Int) : List Str := treeF ((numsF ns).map pathF)
noncomputable def pairsN (ns : List Int) : List (Str × Str) := (treeN ns).map pairF
noncomputable def toldN (ns : List Int) : List Str := walkF (pairsN ns) (hidF ns) 5 sl1
/-- what the plain law has to show -/
structure Plain (ns : List Int) : Prop where
  a1 : ∀ x ∈ (numsF ns).map wordF, QOk x
  a2 : TokL (jn ((numsF ns).map wordF)) ((numsF ns).map wordF)
  a3 : (jn ((numsF ns).map wordF)).length ≤ 1000000
  a4 : ∀ z ∈ (numsF ns).map wordF, NOk (under slash z) ∧ z.length ≤ 10000 ∧ Txt.startswith z sl1 = false
  a5 : (((numsF ns).map wordF).map fun z => normF (under slash z)) = (numsF ns).map pathF
  a6 : ∀ z ∈ (numsF ns).map pathF, ClimbOk 5 z
  t1 : (treeN ns).length < 64
  t2 : 2 ≤ (treeN ns).length
  t3 : ((treeN ns).map rowF).Nodup
  t4 : ∀ z ∈ treeN ns, z.length ≤ 10000
  t5 : ∀ z ∈ treeN ns, 1 ≤ (Txt.split z sl1).length
  h1 : ∀ x ∈ hidF ns, QOk x
  h2 : TokL (jn (hidF ns)) (hidF ns)
  h3 : (jn (hidF ns)).length ≤ 1000000
  w1 : WOk (pairsN ns) (hidF ns) 5 sl1
  w2 : WOk (pairsN ns) ((hidF ns).take ((hidF ns).length / 2)) 5 sl1
  w3 : WOk (pairsN ns) ((hidF ns).drop ((hidF ns).length / 2)) 5 sl1
  w4 : WOk (pairsN ns) [] 5 sl1
  r1 : ∀ r ∈ (treeN ns).map rowF, r.length ≤ 1000 ∧ (r.map (·.length)).sum + r.length * 64 ≤ 10000
  r2 : ∀ rs : List (List Str), rs.Perm ((treeN ns).map rowF) → rs.Pairwise (fun a b => ltL a b = true) → toldN ns = toldF (hidF ns) rs ∧ walkF (pairsN ns) [] 5 sl1 = rs.map rowJ
  r3 : toldN ns = (walkF (pairsN ns) ((hidF ns).take ((hidF ns).length / 2)) 5 sl1).filter fun z => (walkF (pairsN ns) ((hidF ns).drop ((hidF ns).length / 2)) 5 sl1).any (· == z)
  r4 : (walkF (pairsN ns) ((hidF ns).take ((hidF ns).length / 2)) 5 sl1).length ≤ 1000
  s1 : ∀ x ∈ toldN ns, QOk x
  s2 : TokL (jn (toldN ns)) (toldN ns)
  s3 : (jn (toldN ns)).length ≤ 1000000
  s4 : (toldN ns).length ≤ 100
theorem cutB (i n : Nat) : lawB.drop i = (lawB.drop i).take n ++ lawB.drop (i + n) := by
  have := (List.take_append_drop n (lawB.drop i)).symm
  rwa [List.drop_drop] at this
theorem strs_n5 {vs : List Value} (h : StrsAre vs n5) : ∃ u1 u2 u3 u4 u5, vs = [.str (Str.ofString "a") u1, .str (Str.ofString "b c") u2, .str (Str.ofString "it's") u3, .str (Str.ofString "#") u4, .str (Str.ofString "-") u5] := by
  have e : n5 = [Str.ofString "a", Str.ofString "b c", Str.ofString "it's", Str.ofString "#", Str.ofString "-"] := rfl
  rw [e] at h
  cases h with | cons _ u1 h => cases h with | cons _ u2 h => cases h with | cons _ u3 h => cases h with | cons _ u4 h => cases h with | cons _ u5 h => cases h with | nil => exact ⟨_, _, _, _, _, rfl⟩
theorem lawRun (w : World) (p : Program) (loose : List Str) (mean : ExcName → Option Value) (mg mb : Str → Option Value) (h₀ : Heap) (L fa : Addr) (cd : Value) (s : Shared) (Q : Flow → Shared → Prop) (E : Value → Shared → Prop) (o1 o2 o3 o4 : Obj) (sl : Addr) (vs : List Value) (ns : List Int)
    (X : (K w.params).In h₀) (T : Top p loose mean mg mb h₀) (B : Below callerA h₀ [] h₀) (hsl : h₀.IsList sl vs.toArray) (hvs : IntsAre vs ns) (h63 : ns.length ≤ 63)
    (d1 : o1.data = .cell none) (d2 : o2.data = .cell none) (d3 : o3.data = .cell none) (d4 : o4.data = .cell (some (.ref sl))) (P : Plain ns)
    (F : Fr h₀ L s.heap (fun _ => none)) (N : News h₀ L s.heap (cellL L o1 o2 o3 o4))
    (hret : ∀ (h' : Heap) (tk' : Nat) (m' : Str → Option Value), Fr h₀ L h' m' → Q (.ret (.bool true)) { s with heap := h', toks := tk' }) :
    wpAny (model (OpenLaw.prog RR) w) (lawA L fa cd) (execs lawB (lawE L fa cd)) Q E s := by
  have c0 : lawB = (lawB.drop 0).take 1 ++ lawB.drop 1 := cutB 0 1
  have hnl := nums_len ns
  have hh5 : (hidF ns).length ≤ 5 := by
    unfold hidF
    rw [List.length_map]
    exact Nat.le_trans (List.length_filter_le _ _) (by simp)
  rw [c0]
  refine law1 w p loose mean mg mb h₀ L fa cd _ s Q E o1 o2 o3 o4 sl vs ns X T B hsl hvs h63 d4 F N ?_
  intro ha ta nl us c hus Fa Na
  rw [cutB 1 1]
  refine law2 w p loose mean mg mb h₀ L fa cd _ _ Q E o1 o2 o3 o4 nl us c ns X T B hus P.a1 Fa Na ?_
  intro hb tb t Fb Nb
  rw [cutB 2 1]
  refine law3 w p loose mean mg mb h₀ L fa cd _ _ Q E o1 o2 o3 o4 nl us c _ t _ X T B P.a2 P.a3 (by rw [List.length_map]; omega) P.a4 Fb Nb ?_
  intro hc tc pl pvs c2 hps Fc Nc
  rw [P.a5] at hps
  rw [cutB 3 1]
  refine law4 w p loose mean mg mb h₀ L fa cd _ _ Q E o1 o2 o3 o4 nl pl us pvs c c2 _ t ns X T B hus hps Fc Nc ?_
  intro hd td Fd Nd
  rw [cutB 4 2]
  refine law5 w p loose mean mg mb h₀ L fa cd _ _ Q E o1 o2 o3 o4 nl pl us pvs c c2 _ t _ X T B hps (by rw [List.length_map]; omega) P.a6 Fd Nd ?_
  intro he te tl ts c3 pv hts Fe Ne
  rw [cutB 6 1]
  refine law6 w p loose mean mg mb h₀ L fa cd _ _ Q E o1 o2 o3 o4 nl pl tl us pvs ts c c2 c3 _ t pv _ X T B hts (Nat.le_of_lt (Nat.lt_of_lt_of_le P.t1 (by decide))) P.t4 Fe Ne ?_
  intro hf tf ql qs c4 pw hgt hpw Ff Nf
  have hql : qs.length ≤ 1000 := by
    rw [pairs_len hpw, List.length_map]
    exact Nat.le_of_lt (Nat.lt_of_lt_of_le P.t1 (by decide))
  rw [cutB 7 1]
  refine law7 w p loose mean mg mb h₀ L fa cd _ _ Q E o1 o2 o3 o4 ql tl pl nl qs ts c3 c4 _ t pv pw X T B hgt d3 Ff Nf ?_
  intro hg tg nm vs5 c5 o3' hv5 d3' Fg Ng
  obtain ⟨u1, u2, u3, u4, u5, rfl⟩ := strs_n5 hv5
  rw [cutB 8 1]
  refine law8 w p loose mean mg mb h₀ L fa cd _ _ Q E o1 o2 o3' o4 nm ql tl pl nl sl u1 u2 u3 u4 u5 qs ts vs c3 c4 c5 _ t pv pw ns X T B hgt d3' d2 hsl hvs h63 d4 P.h1 P.h2 P.h3 Fg Ng ?_
  intro hh th hda hs c6 o2' hhs d2' Fh Nh
  rw [cutB 9 1]
  refine law9 w p loose mean mg mb h₀ L fa cd _ _ Q E o1 o2' o3' o4 hda ql tl pl nl hs qs ts c3 c4 c6 _ t pv pw _ X T B hts P.t1 P.t2 P.t3 P.t4 P.t5 Fh Nh ?_
  intro hi ti rl ros c7 pw2 rs hgt2 hrs hperm hrise Fi Ni
  obtain ⟨er1, er2⟩ := P.r2 rs hperm hrise
  have hgt' : ∀ q ∈ pw2 ++ pw, L + 1 + 1 + 1 + 1 < q.1 := fun q hq => (List.mem_append.mp hq).elim (hgt2 q) (hgt q)
  have hpw' : PairsAre (pw2 ++ pw) qs (pairsN ns) := pairs_more (fun q hq => List.mem_append_right _ hq) hpw
  have hrs' : RowsAre (pw2 ++ pw) ros rs := rows_more (fun q hq => List.mem_append_left _ hq) hrs
  have hrl : ros.length ≤ 1000 := by
    rw [rows_len hrs, hperm.length_eq, List.length_map]
    exact Nat.le_of_lt (Nat.lt_of_lt_of_le P.t1 (by decide))
  have hrb : ∀ r ∈ rs, r.length ≤ 1000 ∧ (r.map (·.length)).sum + r.length * 64 ≤ 10000 := fun r hr => P.r1 r (hperm.mem_iff.mp hr)
  rw [cutB 10 1]
  refine law10 w p loose mean mg mb h₀ L fa cd _ _ Q E o1 o2' o3' o4 rl hda ql tl pl nl ros hs qs c4 c6 c7 _ t pv (pw2 ++ pw) (pairsN ns) (hidF ns) X T B d2' hhs hpw' hql P.w1 Fi Ni ?_
  intro hj tj dl ds c8 hds Fj Nj
  rw [cutB 11 1]
  refine law11 w p loose mean mg mb h₀ L fa cd _ _ Q E o1 o2' o3' o4 rl hda ql tl pl nl dl ros hs qs ds c4 c6 c7 c8 _ t pv (pw2 ++ pw) rs (hidF ns) X T B d2' hhs hrs' hrl hrb (er1 ▸ hds) Fj Nj ?_
  intro hk tk Fk Nk
  rw [cutB 12 2]
  refine law12 w p loose mean mg mb h₀ L fa cd _ _ Q E o1 o2' o3' o4 rl hda ql tl pl nl dl ros hs qs ds c4 c6 c7 c8 _ t pv (pw2 ++ pw) rs (hidF ns) (pairsN ns) X T B hgt' d1 d2' hhs (Nat.le_trans hh5 (by decide)) hpw' hql P.w2 P.w3 Fk Nk ?_
  intro hl tll a1 a2 ones twos c9 c10 o1' hfv h1 h2 d1' Fl Nl
  rw [cutB 14 1]
  refine law14 w p loose mean mg mb h₀ L fa cd _ _ Q E o1' o2' o3' o4 rl hda ql tl pl nl dl ros hs qs ds c4 c6 c7 c8 _ t pv (pw2 ++ pw) rs (hidF ns) a1 a2 ones twos c9 c10 hfv _ _ (pairsN ns) X T B d1' h1 h2 P.r4 (P.r3 ▸ hds) hrs' hrl hrb hpw' hql P.w4 er2 Fl Nl ?_
  intro hm tm Fm Nm
  rw [cutB 15 1]
  refine law15 w p loose mean mg mb h₀ L fa cd _ _ Q E o1' o2' o3' o4 rl hda ql tl pl nl dl ros hs qs ds c4 c6 c7 c8 _ t pv (pw2 ++ pw) rs (hidF ns) a1 a2 ones twos c9 c10 hfv [] [] (pairsN ns) _ X T B hds P.s1 P.s2 P.s3 P.s4 Fm (news_sub Nm fun q hq => ?_) ?_
  · rw [List.mem_singleton.mp hq]
    exact .tail _ (.tail _ (.head _))
  intro hn tn Fn _
  exact hret _ _ _ Fn
end Mine
end
end
section
open PySem PySem.W PySem.Calls PyProof.Rows
set_option maxRecDepth 100000
namespace Mine
noncomputable def en (P : Params) (s : String) (t : Tok) (v : Value) : DictEntry := ⟨PyData.keyHash P (Str.ofString s), .str (Str.ofString s) t, v⟩
noncomputable def mkG (c : Value) (d : Option Addr) (i j : Nat) (name qual : Str) (gl : Addr) (clo : List (Str × Addr)) (bt : Addr) (dV kV doc pm : Value) (an : Option Addr) (cdv ct : Value) (sl : Array (Option Value)) : Obj := match fnAt i j with
  | some (ps, b, sc) => ⟨c, d, .func { name, qualname := qual, params := ps, body := .stmts b, scope := sc, globals := gl, closure := clo, defaults := dV, kwdefaults := kV, doc, pyModule := pm, annotations := an, code := cdv, closureTuple := ct, builtins := bt }, sl⟩
  | none => ⟨c, d, .freed, sl⟩
noncomputable def insL : List Obj → Nat → BT → BT
  | [], _, t => t
  | o :: l, n, t => insL l (n + 1) (t.ins n o)
noncomputable def o0 (P : Params) : Obj := ⟨.type "dict", none, .dict #[en P "__name__" 1 (.str "builtins" 160), en P "__doc__" 2 (.builtin "builtins.__doc__:str#opaque"), en P "__package__" 3 (.builtin "builtins.__package__:str#opaque"), en P "__loader__" 4 (.builtin "builtins.__loader__:shared#opaque"), en P "__spec__" 5 (.builtin "builtins.__spec__#opaque"), en P "__build_class__" 6 (.builtin "__build_class__"), en P "__import__" 7 (.builtin "__import__"), en P "abs" 8 (.builtin "abs"), en P "all" 9 (.builtin "all"), en P "any" 10 (.builtin "any"), en P "ascii" 11 (.builtin "ascii"), en P "bin" 12 (.builtin "bin"), en P "breakpoint" 13 (.builtin "breakpoint"), en P "callable" 14 (.builtin "callable"), en P "chr" 15 (.builtin "chr"), en P "compile" 16 (.builtin "compile"), en P "delattr" 17 (.builtin "delattr"), en P "dir" 18 (.builtin "dir"), en P "divmod" 19 (.builtin "divmod"), en P "eval" 20 (.builtin "eval"), en P "exec" 21 (.builtin "exec"), en P "format" 22 (.builtin "format"), en P "getattr" 23 (.builtin "getattr"), en P "globals" 24 (.builtin "globals"), en P "hasattr" 25 (.builtin "hasattr"), en P "hash" 26 (.builtin "hash"), en P "hex" 27 (.builtin "hex"), en P "id" 28 (.builtin "id"), en P "input" 29 (.builtin "input"), en P "isinstance" 30 (.builtin "isinstance"), en P "issubclass" 31 (.builtin "issubclass"), en P "iter" 32 (.builtin "iter"), en P "aiter" 33 (.builtin "aiter"), en P "len" 34 (.builtin "len"), en P "locals" 35 (.builtin "locals"), en P "max" 36 (.builtin "max"), en P "min" 37 (.builtin "min"), en P "next" 38 (.builtin "next"), en P "anext" 39 (.builtin "anext"), en P "oct" 40 (.builtin "oct"), en P "ord" 41 (.builtin "ord"), en P "pow" 42 (.builtin "pow"), en P "print" 43 (.builtin "print"), en P "repr" 44 (.builtin "repr"), en P "round" 45 (.builtin "round"), en P "setattr" 46 (.builtin "setattr"), en P "sorted" 47 (.builtin "sorted"), en P "sum" 48 (.builtin "sum"), en P "vars" 49 (.builtin "vars"), en P "None" 50 (.none), en P "Ellipsis" 51 (.ellipsis), en P "NotImplemented" 52 (.notImplemented), en P "False" 53 (.bool false), en P "True" 54 (.bool true), en P "bool" 55 (.type "bool"), en P "memoryview" 56 (.type "memoryview"), en P "bytearray" 57 (.type "bytearray"), en P "bytes" 58 (.type "bytes"), en P "classmethod" 59 (.type "classmethod"), en P "complex" 60 (.type "complex"), en P "dict" 61 (.type "dict"), en P "enumerate" 62 (.type "enumerate"), en P "filter" 63 (.type "filter"), en P "float" 64 (.type "float"), en P "frozenset" 65 (.type "frozenset"), en P "property" 66 (.type "property"), en P "int" 67 (.type "int"), en P "list" 68 (.type "list"), en P "map" 69 (.type "map"), en P "object" 70 (.type "object"), en P "range" 71 (.type "range"), en P "reversed" 72 (.type "reversed"), en P "set" 73 (.type "set"), en P "slice" 74 (.type "slice"), en P "staticmethod" 75 (.type "staticmethod"), en P "str" 76 (.type "str"), en P "super" 77 (.type "super"), en P "tuple" 78 (.type "tuple"), en P "type" 79 (.type "type"), en P "zip" 80 (.type "zip"), en P "__debug__" 81 (.bool true), en P "BaseException" 82 (.type "BaseException"), en P "BaseExceptionGroup" 83 (.type "BaseExceptionGroup"), en P "Exception" 84 (.type "Exception"), en P "GeneratorExit" 85 (.type "GeneratorExit"), en P "KeyboardInterrupt" 86 (.type "KeyboardInterrupt"), en P "SystemExit" 87 (.type "SystemExit"), en P "ArithmeticError" 88 (.type "ArithmeticError"), en P "AssertionError" 89 (.type "AssertionError"), en P "AttributeError" 90 (.type "AttributeError"), en P "BufferError" 91 (.type "BufferError"), en P "EOFError" 92 (.type "EOFError"), en P "ImportError" 93 (.type "ImportError"), en P "LookupError" 94 (.type "LookupError"), en P "MemoryError" 95 (.type "MemoryError"), en P "NameError" 96 (.type "NameError"), en P "OSError" 97 (.type "OSError"), en P "ReferenceError" 98 (.type "ReferenceError"), en P "RuntimeError" 99 (.type "RuntimeError"), en P "StopAsyncIteration" 100 (.type "StopAsyncIteration"), en P "StopIteration" 101 (.type "StopIteration"), en P "SyntaxError" 102 (.type "SyntaxError"), en P "SystemError" 103 (.type "SystemError"), en P "TypeError" 104 (.type "TypeError"), en P "ValueError" 105 (.type "ValueError"), en P "Warning" 106 (.type "Warning"), en P "FloatingPointError" 107 (.type "FloatingPointError"), en P "OverflowError" 108 (.type "OverflowError"), en P "ZeroDivisionError" 109 (.type "ZeroDivisionError"), en P "BytesWarning" 110 (.type "BytesWarning"), en P "DeprecationWarning" 111 (.type "DeprecationWarning"), en P "EncodingWarning" 112 (.type "EncodingWarning"), en P "FutureWarning" 113 (.type "FutureWarning"), en P "ImportWarning" 114 (.type "ImportWarning"), en P "PendingDeprecationWarning" 115 (.type "PendingDeprecationWarning"), en P "ResourceWarning" 116 (.type "ResourceWarning"), en P "RuntimeWarning" 117 (.type "RuntimeWarning"), en P "SyntaxWarning" 118 (.type "SyntaxWarning"), en P "UnicodeWarning" 119 (.type "UnicodeWarning"), en P "UserWarning" 120 (.type "UserWarning"), en P "BlockingIOError" 121 (.type "BlockingIOError"), en P "ChildProcessError" 122 (.type "ChildProcessError"), en P "ConnectionError" 123 (.type "ConnectionError"), en P "FileExistsError" 124 (.type "FileExistsError"), en P "FileNotFoundError" 125 (.type "FileNotFoundError"), en P "InterruptedError" 126 (.type "InterruptedError"), en P "IsADirectoryError" 127 (.type "IsADirectoryError"), en P "NotADirectoryError" 128 (.type "NotADirectoryError"), en P "PermissionError" 129 (.type "PermissionError"), en P "ProcessLookupError" 130 (.type "ProcessLookupError"), en P "TimeoutError" 131 (.type "TimeoutError"), en P "IndentationError" 132 (.type "IndentationError"), en P "_IncompleteInputError" 133 (.type "_IncompleteInputError"), en P "IndexError" 134 (.type "IndexError"), en P "KeyError" 135 (.type "KeyError"), en P "ModuleNotFoundError" 136 (.type "ModuleNotFoundError"), en P "NotImplementedError" 137 (.type "NotImplementedError"), en P "PythonFinalizationError" 138 (.type "PythonFinalizationError"), en P "RecursionError" 139 (.type "RecursionError"), en P "UnboundLocalError" 140 (.type "UnboundLocalError"), en P "UnicodeError" 141 (.type "UnicodeError"), en P "BrokenPipeError" 142 (.type "BrokenPipeError"), en P "ConnectionAbortedError" 143 (.type "ConnectionAbortedError"), en P "ConnectionRefusedError" 144 (.type "ConnectionRefusedError"), en P "ConnectionResetError" 145 (.type "ConnectionResetError"), en P "TabError" 146 (.type "TabError"), en P "UnicodeDecodeError" 147 (.type "UnicodeDecodeError"), en P "UnicodeEncodeError" 148 (.type "UnicodeEncodeError"), en P "UnicodeTranslateError" 149 (.type "UnicodeTranslateError"), en P "ExceptionGroup" 150 (.type "ExceptionGroup"), en P "EnvironmentError" 151 (.type "OSError"), en P "IOError" 152 (.type "OSError"), en P "open" 153 (.builtin "open"), en P "quit" 154 (.builtin "builtins.quit#opaque"), en P "exit" 155 (.builtin "builtins.exit#opaque"), en P "copyright" 156 (.builtin "builtins.copyright#opaque"), en P "credits" 157 (.builtin "builtins.credits#opaque"), en P "license" 158 (.builtin "builtins.license#opaque"), en P "help" 159 (.builtin "builtins.help#opaque")] 159, #[]⟩
noncomputable def o1 (P : Params) : Obj := ⟨.type "dict", none, .dict #[en P "builtins" 162 (.ref 4), en P "__main__" 163 (.ref 5), en P "_sre" 244 (.ref 12), en P "_collections" 292 (.ref 30)] 4, #[]⟩
noncomputable def o2 (P : Params) : Obj := ⟨.none, none, .dict #[en P "\x69mport.loaded._sre" 183 (.bool true), en P "class._frozen_importlib.BuiltinImporter" 185 (.ref 14), en P "watched.\x69mport" 206 (.ref 18), en P "class._frozen_importlib.ModuleSpec" 216 (.ref 22), en P "sys.modules.booked-epoch" 245 (.int (4) 0), en P "\x69mport.later-laid._sre" 270 (.bool true), en P "watched.library" 272 (.ref 27), en P "watched.library-objects" 0 (.str (Str.mk #[12, 30]) 0), en P "watched.library-deep._sre" 273 (.str (Str.mk #[4, 0, 0, 11, 4, 0, 0, 11, 4, 0, 0, 3, 4, 0, 0, 11, 8, 4, 100, 105, 99, 116, 2]) 0), en P "\x69mport.loaded._collections" 280 (.bool true), en P "sys.modules.landed._collections" 294 (.bool true), en P "\x69mport.later-laid._collections" 309 (.bool true), en P "watched.library-deep._collections" 311 (.str (Str.mk #[4, 0, 0, 29, 4, 0, 0, 29, 4, 0, 0, 3, 4, 0, 0, 29, 8, 4, 100, 105, 99, 116, 2]) 0)] 13, #[]⟩
noncomputable def o3 (P : Params) : Obj := ⟨.type "dict", none, .dict #[en P "__name__" 165 (.str "__main__" 164), en P "__doc__" 166 (.none), en P "__package__" 167 (.none), en P "__loader__" 168 (.builtin "__main__.__loader__#opaque"), en P "__spec__" 169 (.none), en P "__annotations__" 170 (.ref 6), en P "__builtins__" 171 (.ref 4), en P "__file__" 173 (.str "/claim/cut.py" 172), en P "__cached__" 174 (.none), en P "_sre" 275 (.ref 12), en P "deque" 317 (.type "collections.deque")] 11, #[]⟩
noncomputable def o4 (P : Params) : Obj := ⟨.type "module", (some 0), .plain, #[]⟩
noncomputable def o5 (P : Params) : Obj := ⟨.type "module", (some 3), .plain, #[]⟩
noncomputable def o6 (P : Params) : Obj := ⟨.type "dict", none, .dict #[] 0, #[]⟩
noncomputable def o7 (P : Params) : Obj := ⟨.type "tuple", none, .seq #[] 0, #[]⟩
noncomputable def o8 (P : Params) : Obj := ⟨.none, none, .fields #[], #[]⟩
noncomputable def o9 (P : Params) : Obj := ⟨.type "code", none, .fields #[.str "<module>" 176, .str "<module>" 177, .str "/claim/cut.py" 178, .int (1) 0, .int (0) 0, .int (0) 0, .int (0) 0, .int (0) 0, .ref 7, .bool false, .int (175) 0, .ref 8, .none, .none, .none, .none, .int (179) 0, .int (1) 0, .str "/claim/cut.py" 180], #[]⟩
noncomputable def o10 (P : Params) : Obj := ⟨.type "frame", none, .plain, #[some (.ref 9), some (.ref 3), some (.ref 3), none, some (.str "__main__" 164), none, some (.ref 0)]⟩
noncomputable def o11 (P : Params) : Obj := ⟨.type "dict", none, .dict #[en P "__name__" 247 (.str "_sre" 246), en P "__doc__" 248 (.none), en P "__package__" 250 (.str "" 249), en P "__loader__" 251 (.builtin "off-the-table:_sre.__loader__:shared#opaque"), en P "__spec__" 252 (.builtin "off-the-table:_sre.__spec__:shared#opaque"), en P "compile" 253 (.builtin "_sre.compile"), en P "template" 254 (.builtin "off-the-table:_sre.template:shared#opaque"), en P "getcodesize" 255 (.builtin "off-the-table:_sre.getcodesize:shared#opaque"), en P "ascii_iscased" 256 (.builtin "off-the-table:_sre.ascii_iscased:shared#opaque"), en P "unicode_iscased" 257 (.builtin "off-the-table:_sre.unicode_iscased:shared#opaque"), en P "ascii_tolower" 258 (.builtin "off-the-table:_sre.ascii_tolower:shared#opaque"), en P "unicode_tolower" 259 (.builtin "off-the-table:_sre.unicode_tolower:shared#opaque"), en P "MAGIC" 261 (.int (20230612) 260), en P "CODESIZE" 263 (.int (4) 262), en P "MAXREPEAT" 265 (.int (4294967295) 264), en P "MAXGROUPS" 267 (.int (1073741823) 266), en P "copyright" 269 (.str " SRE 2.2.2 Copyright (c) 1997-2002 by Secret Labs AB " 268)] 17, #[]⟩
noncomputable def o12 (P : Params) : Obj := ⟨.type "module", (some 11), .plain, #[]⟩
noncomputable def o13 (P : Params) : Obj := ⟨.type "dict", none, .dict #[en P "__module__" 189 (.str "_frozen_importlib" 186), en P "__firstlineno__" 190 (.int (971) 187), en P "__doc__" 191 (.builtin "_frozen_importlib.BuiltinImporter.__doc__:str#opaque"), en P "_ORIGIN" 192 (.str "built-in" 188), en P "find_spec" 193 (.builtin "_frozen_importlib.BuiltinImporter.find_spec#opaque"), en P "create_module" 194 (.builtin "_frozen_importlib.BuiltinImporter.create_module#opaque"), en P "exec_module" 195 (.builtin "_frozen_importlib.BuiltinImporter.exec_module#opaque"), en P "get_code" 196 (.builtin "_frozen_importlib.BuiltinImporter.get_code#opaque"), en P "get_source" 197 (.builtin "_frozen_importlib.BuiltinImporter.get_source#opaque"), en P "is_package" 198 (.builtin "_frozen_importlib.BuiltinImporter.is_package#opaque"), en P "load_module" 199 (.builtin "_frozen_importlib.BuiltinImporter.load_module#opaque"), en P "__static_attributes__" 200 (.ref 15), en P "__dict__" 202 (.ref 16), en P "__weakref__" 204 (.ref 17)] 14, #[]⟩
noncomputable def o14 (P : Params) : Obj := ⟨.type "type", none, .cls ⟨"BuiltinImporter", [.type "object"], [.ref 14, .type "object"], 13, "BuiltinImporter", true, [], [], false, none, false⟩, #[]⟩
noncomputable def o15 (P : Params) : Obj := ⟨.type "tuple", none, .seq #[] 0, #[]⟩
noncomputable def o16 (P : Params) : Obj := ⟨.type "getset_descriptor", none, .fields #[.str "__dict__" 201, .ref 14, .builtin "function.__dict__", .builtin "function.__dict__#set"], #[]⟩
noncomputable def o17 (P : Params) : Obj := ⟨.type "getset_descriptor", none, .fields #[.str "__weakref__" 203, .ref 14, .builtin "ExceptionGroup.__weakref__", .none], #[]⟩
noncomputable def o18 (P : Params) : Obj := ⟨.none, none, .seq #[.int (13) 0, .str (Str.mk #[6, 189, 10, 95, 95, 109, 111, 100, 117, 108, 101, 95, 95, 6, 186, 17, 95, 102, 114, 111, 122, 101, 110, 95, 105, 109, 112, 111, 114, 116, 108, 105, 98, 6, 190, 15, 95, 95, 102, 105, 114, 115, 116, 108, 105, 110, 101, 110, 111, 95, 95, 4, 187, 0, 971, 6, 191, 7, 95, 95, 100, 111, 99, 95, 95, 9, 52, 95, 102, 114, 111, 122, 101, 110, 95, 105, 109, 112, 111, 114, 116, 108, 105, 98, 46, 66, 117, 105, 108, 116, 105, 110, 73, 109, 112, 111, 114, 116, 101, 114, 46, 95, 95, 100, 111, 99, 95, 95, 58, 115, 116, 114, 35, 111, 112, 97, 113, 117, 101, 6, 192, 7, 95, 79, 82, 73, 71, 73, 78, 6, 188, 8, 98, 117, 105, 108, 116, 45, 105, 110, 6, 193, 9, 102, 105, 110, 100, 95, 115, 112, 101, 99, 9, 50, 95, 102, 114, 111, 122, 101, 110, 95, 105, 109, 112, 111, 114, 116, 108, 105, 98, 46, 66, 117, 105, 108, 116, 105, 110, 73, 109, 112, 111, 114, 116, 101, 114, 46, 102, 105, 110, 100, 95, 115, 112, 101, 99, 35, 111, 112, 97, 113, 117, 101, 6, 194, 13, 99, 114, 101, 97, 116, 101, 95, 109, 111, 100, 117, 108, 101, 9, 54, 95, 102, 114, 111, 122, 101, 110, 95, 105, 109, 112, 111, 114, 116, 108, 105, 98, 46, 66, 117, 105, 108, 116, 105, 110, 73, 109, 112, 111, 114, 116, 101, 114, 46, 99, 114, 101, 97, 116, 101, 95, 109, 111, 100, 117, 108, 101, 35, 111, 112, 97, 113, 117, 101, 6, 195, 11, 101, 120, 101, 99, 95, 109, 111, 100, 117, 108, 101, 9, 52, 95, 102, 114, 111, 122, 101, 110, 95, 105, 109, 112, 111, 114, 116, 108, 105, 98, 46, 66, 117, 105, 108, 116, 105, 110, 73, 109, 112, 111, 114, 116, 101, 114, 46, 101, 120, 101, 99, 95, 109, 111, 100, 117, 108, 101, 35, 111, 112, 97, 113, 117, 101, 6, 196, 8, 103, 101, 116, 95, 99, 111, 100, 101, 9, 49, 95, 102, 114, 111, 122, 101, 110, 95, 105, 109, 112, 111, 114, 116, 108, 105, 98, 46, 66, 117, 105, 108, 116, 105, 110, 73, 109, 112, 111, 114, 116, 101, 114, 46, 103, 101, 116, 95, 99, 111, 100, 101, 35, 111, 112, 97, 113, 117, 101, 6, 197, 10, 103, 101, 116, 95, 115, 111, 117, 114, 99, 101, 9, 51, 95, 102, 114, 111, 122, 101, 110, 95, 105, 109, 112, 111, 114, 116, 108, 105, 98, 46, 66, 117, 105, 108, 116, 105, 110, 73, 109, 112, 111, 114, 116, 101, 114, 46, 103, 101, 116, 95, 115, 111, 117, 114, 99, 101, 35, 111, 112, 97, 113, 117, 101, 6, 198, 10, 105, 115, 95, 112, 97, 99, 107, 97, 103, 101, 9, 51, 95, 102, 114, 111, 122, 101, 110, 95, 105, 109, 112, 111, 114, 116, 108, 105, 98, 46, 66, 117, 105, 108, 116, 105, 110, 73, 109, 112, 111, 114, 116, 101, 114, 46, 105, 115, 95, 112, 97, 99, 107, 97, 103, 101, 35, 111, 112, 97, 113, 117, 101, 6, 199, 11, 108, 111, 97, 100, 95, 109, 111, 100, 117, 108, 101, 9, 52, 95, 102, 114, 111, 122, 101, 110, 95, 105, 109, 112, 111, 114, 116, 108, 105, 98, 46, 66, 117, 105, 108, 116, 105, 110, 73, 109, 112, 111, 114, 116, 101, 114, 46, 108, 111, 97, 100, 95, 109, 111, 100, 117, 108, 101, 35, 111, 112, 97, 113, 117, 101, 6, 200, 21, 95, 95, 115, 116, 97, 116, 105, 99, 95, 97, 116, 116, 114, 105, 98, 117, 116, 101, 115, 95, 95, 4, 0, 0, 15, 6, 202, 8, 95, 95, 100, 105, 99, 116, 95, 95, 4, 0, 0, 16, 6, 204, 11, 95, 95, 119, 101, 97, 107, 114, 101, 102, 95, 95, 4, 0, 0, 17]) 0, .bool true, .bool true, .str "" 205, .int (21) 0, .str (Str.mk #[6, 227, 10, 95, 95, 109, 111, 100, 117, 108, 101, 95, 95, 6, 217, 17, 95, 102, 114, 111, 122, 101, 110, 95, 105, 109, 112, 111, 114, 116, 108, 105, 98, 6, 228, 15, 95, 95, 102, 105, 114, 115, 116, 108, 105, 110, 101, 110, 111, 95, 95, 4, 218, 0, 562, 6, 229, 7, 95, 95, 100, 111, 99, 95, 95, 9, 47, 95, 102, 114, 111, 122, 101, 110, 95, 105, 109, 112, 111, 114, 116, 108, 105, 98, 46, 77, 111, 100, 117, 108, 101, 83, 112, 101, 99, 46, 95, 95, 100, 111, 99, 95, 95, 58, 115, 116, 114, 35, 111, 112, 97, 113, 117, 101, 6, 230, 8, 95, 95, 105, 110, 105, 116, 95, 95, 9, 44, 95, 102, 114, 111, 122, 101, 110, 95, 105, 109, 112, 111, 114, 116, 108, 105, 98, 46, 77, 111, 100, 117, 108, 101, 83, 112, 101, 99, 46, 95, 95, 105, 110, 105, 116, 95, 95, 35, 111, 112, 97, 113, 117, 101, 6, 231, 8, 95, 95, 114, 101, 112, 114, 95, 95, 9, 44, 95, 102, 114, 111, 122, 101, 110, 95, 105, 109, 112, 111, 114, 116, 108, 105, 98, 46, 77, 111, 100, 117, 108, 101, 83, 112, 101, 99, 46, 95, 95, 114, 101, 112, 114, 95, 95, 35, 111, 112, 97, 113, 117, 101, 6, 232, 6, 95, 95, 101, 113, 95, 95, 9, 42, 95, 102, 114, 111, 122, 101, 110, 95, 105, 109, 112, 111, 114, 116, 108, 105, 98, 46, 77, 111, 100, 117, 108, 101, 83, 112, 101, 99, 46, 95, 95, 101, 113, 95, 95, 35, 111, 112, 97, 113, 117, 101, 6, 233, 6, 99, 97, 99, 104, 101, 100, 9, 42, 95, 102, 114, 111, 122, 101, 110, 95, 105, 109, 112, 111, 114, 116, 108, 105, 98, 46, 77, 111, 100, 117, 108, 101, 83, 112, 101, 99, 46, 99, 97, 99, 104, 101, 100, 35, 111, 112, 97, 113, 117, 101, 6, 234, 6, 112, 97, 114, 101, 110, 116, 9, 42, 95, 102, 114, 111, 122, 101, 110, 95, 105, 109, 112, 111, 114, 116, 108, 105, 98, 46, 77, 111, 100, 117, 108, 101, 83, 112, 101, 99, 46, 112, 97, 114, 101, 110, 116, 35, 111, 112, 97, 113, 117, 101, 6, 235, 12, 104, 97, 115, 95, 108, 111, 99, 97, 116, 105, 111, 110, 9, 48, 95, 102, 114, 111, 122, 101, 110, 95, 105, 109, 112, 111, 114, 116, 108, 105, 98, 46, 77, 111, 100, 117, 108, 101, 83, 112, 101, 99, 46, 104, 97, 115, 95, 108, 111, 99, 97, 116, 105, 111, 110, 35, 111, 112, 97, 113, 117, 101, 6, 236, 21, 95, 95, 115, 116, 97, 116, 105, 99, 95, 97, 116, 116, 114, 105, 98, 117, 116, 101, 115, 95, 95, 4, 0, 0, 23, 6, 238, 8, 95, 95, 100, 105, 99, 116, 95, 95, 4, 0, 0, 24, 6, 240, 11, 95, 95, 119, 101, 97, 107, 114, 101, 102, 95, 95, 4, 0, 0, 25, 6, 241, 8, 95, 95, 104, 97, 115, 104, 95, 95, 0]) 0, .bool true, .bool true, .str "" 242] 1, #[]⟩
noncomputable def o19 (P : Params) : Obj := ⟨.type "list", none, .seq #[] 0, #[]⟩
noncomputable def o20 (P : Params) : Obj := ⟨.type "dict", none, .dict #[en P "name" 208 (.str "_sre" 207), en P "loader" 209 (.ref 14), en P "origin" 210 (.str "built-in" 184), en P "loader_state" 211 (.none), en P "submodule_search_locations" 212 (.none), en P "_uninitialized_submodules" 213 (.ref 19), en P "_set_fileattr" 214 (.bool false), en P "_cached" 215 (.none), en P "_initializing" 243 (.bool false)] 9, #[]⟩
noncomputable def o21 (P : Params) : Obj := ⟨.type "dict", none, .dict #[en P "__module__" 227 (.str "_frozen_importlib" 217), en P "__firstlineno__" 228 (.int (562) 218), en P "__doc__" 229 (.builtin "_frozen_importlib.ModuleSpec.__doc__:str#opaque"), en P "__init__" 230 (.builtin "_frozen_importlib.ModuleSpec.__init__#opaque"), en P "__repr__" 231 (.builtin "_frozen_importlib.ModuleSpec.__repr__#opaque"), en P "__eq__" 232 (.builtin "_frozen_importlib.ModuleSpec.__eq__#opaque"), en P "cached" 233 (.builtin "_frozen_importlib.ModuleSpec.cached#opaque"), en P "parent" 234 (.builtin "_frozen_importlib.ModuleSpec.parent#opaque"), en P "has_location" 235 (.builtin "_frozen_importlib.ModuleSpec.has_location#opaque"), en P "__static_attributes__" 236 (.ref 23), en P "__dict__" 238 (.ref 24), en P "__weakref__" 240 (.ref 25), en P "__hash__" 241 (.none)] 13, #[]⟩
noncomputable def o22 (P : Params) : Obj := ⟨.type "type", none, .cls ⟨"ModuleSpec", [.type "object"], [.ref 22, .type "object"], 21, "ModuleSpec", true, [], [], false, none, false⟩, #[]⟩
noncomputable def o23 (P : Params) : Obj := ⟨.type "tuple", none, .seq #[.str "_cached" 219, .str "_set_fileattr" 220, .str "_uninitialized_submodules" 221, .str "loader" 222, .str "loader_state" 223, .str "name" 224, .str "origin" 225, .str "submodule_search_locations" 226] 0, #[]⟩
noncomputable def o24 (P : Params) : Obj := ⟨.type "getset_descriptor", none, .fields #[.str "__dict__" 237, .ref 22, .builtin "function.__dict__", .builtin "function.__dict__#set"], #[]⟩
noncomputable def o25 (P : Params) : Obj := ⟨.type "getset_descriptor", none, .fields #[.str "__weakref__" 239, .ref 22, .builtin "ExceptionGroup.__weakref__", .none], #[]⟩
noncomputable def o26 (P : Params) : Obj := ⟨.ref 22, (some 20), .plain, #[]⟩
noncomputable def o27 (P : Params) : Obj := ⟨.none, none, .seq #[.int (11) 0, .str (Str.mk #[6, 247, 8, 95, 95, 110, 97, 109, 101, 95, 95, 6, 246, 4, 95, 115, 114, 101, 6, 248, 7, 95, 95, 100, 111, 99, 95, 95, 0, 6, 250, 11, 95, 95, 112, 97, 99, 107, 97, 103, 101, 95, 95, 6, 249, 0, 6, 251, 10, 95, 95, 108, 111, 97, 100, 101, 114, 95, 95, 4, 0, 0, 14, 6, 252, 8, 95, 95, 115, 112, 101, 99, 95, 95, 4, 0, 0, 26, 6, 253, 7, 99, 111, 109, 112, 105, 108, 101, 9, 12, 95, 115, 114, 101, 46, 99, 111, 109, 112, 105, 108, 101, 6, 254, 8, 116, 101, 109, 112, 108, 97, 116, 101, 9, 13, 95, 115, 114, 101, 46, 116, 101, 109, 112, 108, 97, 116, 101, 6, 255, 11, 103, 101, 116, 99, 111, 100, 101, 115, 105, 122, 101, 9, 16, 95, 115, 114, 101, 46, 103, 101, 116, 99, 111, 100, 101, 115, 105, 122, 101, 6, 256, 13, 97, 115, 99, 105, 105, 95, 105, 115, 99, 97, 115, 101, 100, 9, 18, 95, 115, 114, 101, 46, 97, 115, 99, 105, 105, 95, 105, 115, 99, 97, 115, 101, 100, 6, 257, 15, 117, 110, 105, 99, 111, 100, 101, 95, 105, 115, 99, 97, 115, 101, 100, 9, 20, 95, 115, 114, 101, 46, 117, 110, 105, 99, 111, 100, 101, 95, 105, 115, 99, 97, 115, 101, 100, 6, 258, 13, 97, 115, 99, 105, 105, 95, 116, 111, 108, 111, 119, 101, 114, 9, 18, 95, 115, 114, 101, 46, 97, 115, 99, 105, 105, 95, 116, 111, 108, 111, 119, 101, 114, 6, 259, 15, 117, 110, 105, 99, 111, 100, 101, 95, 116, 111, 108, 111, 119, 101, 114, 9, 20, 95, 115, 114, 101, 46, 117, 110, 105, 99, 111, 100, 101, 95, 116, 111, 108, 111, 119, 101, 114, 6, 261, 5, 77, 65, 71, 73, 67, 4, 260, 0, 20230612, 6, 263, 8, 67, 79, 68, 69, 83, 73, 90, 69, 4, 262, 0, 4, 6, 265, 9, 77, 65, 88, 82, 69, 80, 69, 65, 84, 4, 264, 0, 4294967295, 6, 267, 9, 77, 65, 88, 71, 82, 79, 85, 80, 83, 4, 266, 0, 1073741823, 6, 269, 9, 99, 111, 112, 121, 114, 105, 103, 104, 116, 6, 268, 53, 32, 83, 82, 69, 32, 50, 46, 50, 46, 50, 32, 67, 111, 112, 121, 114, 105, 103, 104, 116, 32, 40, 99, 41, 32, 49, 57, 57, 55, 45, 50, 48, 48, 50, 32, 98, 121, 32, 83, 101, 99, 114, 101, 116, 32, 76, 97, 98, 115, 32, 65, 66, 32]) 0, .bool true, .bool false, .str "_sre" 271, .int (29) 0, .str (Str.mk #[6, 296, 8, 95, 95, 110, 97, 109, 101, 95, 95, 6, 295, 12, 95, 99, 111, 108, 108, 101, 99, 116, 105, 111, 110, 115, 6, 297, 7, 95, 95, 100, 111, 99, 95, 95, 9, 31, 95, 99, 111, 108, 108, 101, 99, 116, 105, 111, 110, 115, 46, 95, 95, 100, 111, 99, 95, 95, 58, 115, 116, 114, 35, 111, 112, 97, 113, 117, 101, 6, 299, 11, 95, 95, 112, 97, 99, 107, 97, 103, 101, 95, 95, 6, 298, 0, 6, 300, 10, 95, 95, 108, 111, 97, 100, 101, 114, 95, 95, 4, 0, 0, 14, 6, 301, 8, 95, 95, 115, 112, 101, 99, 95, 95, 4, 0, 0, 33, 6, 302, 15, 95, 99, 111, 117, 110, 116, 95, 101, 108, 101, 109, 101, 110, 116, 115, 9, 28, 95, 99, 111, 108, 108, 101, 99, 116, 105, 111, 110, 115, 46, 95, 99, 111, 117, 110, 116, 95, 101, 108, 101, 109, 101, 110, 116, 115, 6, 303, 5, 100, 101, 113, 117, 101, 8, 17, 99, 111, 108, 108, 101, 99, 116, 105, 111, 110, 115, 46, 100, 101, 113, 117, 101, 6, 304, 11, 100, 101, 102, 97, 117, 108, 116, 100, 105, 99, 116, 8, 23, 99, 111, 108, 108, 101, 99, 116, 105, 111, 110, 115, 46, 100, 101, 102, 97, 117, 108, 116, 100, 105, 99, 116, 6, 305, 15, 95, 100, 101, 113, 117, 101, 95, 105, 116, 101, 114, 97, 116, 111, 114, 8, 27, 99, 111, 108, 108, 101, 99, 116, 105, 111, 110, 115, 46, 95, 100, 101, 113, 117, 101, 95, 105, 116, 101, 114, 97, 116, 111, 114, 6, 306, 23, 95, 100, 101, 113, 117, 101, 95, 114, 101, 118, 101, 114, 115, 101, 95, 105, 116, 101, 114, 97, 116, 111, 114, 8, 35, 99, 111, 108, 108, 101, 99, 116, 105, 111, 110, 115, 46, 95, 100, 101, 113, 117, 101, 95, 114, 101, 118, 101, 114, 115, 101, 95, 105, 116, 101, 114, 97, 116, 111, 114, 6, 307, 12, 95, 116, 117, 112, 108, 101, 103, 101, 116, 116, 101, 114, 8, 24, 99, 111, 108, 108, 101, 99, 116, 105, 111, 110, 115, 46, 95, 116, 117, 112, 108, 101, 103, 101, 116, 116, 101, 114, 6, 308, 11, 79, 114, 100, 101, 114, 101, 100, 68, 105, 99, 116, 8, 23, 99, 111, 108, 108, 101, 99, 116, 105, 111, 110, 115, 46, 79, 114, 100, 101, 114, 101, 100, 68, 105, 99, 116]) 0, .bool true, .bool false, .str "_collections" 310] 1, #[]⟩
noncomputable def o28 (P : Params) : Obj := ⟨.type "tuple", none, .seq #[.str "deque" 277] 0, #[]⟩
noncomputable def o29 (P : Params) : Obj := ⟨.type "dict", none, .dict #[en P "__name__" 296 (.str "_collections" 295), en P "__doc__" 297 (.builtin "off-the-table:_collections.__doc__:shared#opaque"), en P "__package__" 299 (.str "" 298), en P "__loader__" 300 (.builtin "off-the-table:_collections.__loader__:shared#opaque"), en P "__spec__" 301 (.builtin "off-the-table:_collections.__spec__:shared#opaque"), en P "_count_elements" 302 (.builtin "_collections._count_elements"), en P "deque" 303 (.type "collections.deque"), en P "defaultdict" 304 (.type "collections.defaultdict"), en P "_deque_iterator" 305 (.builtin "off-the-table:_collections._deque_iterator:shared#opaque"), en P "_deque_reverse_iterator" 306 (.builtin "off-the-table:_collections._deque_reverse_iterator:shared#opaque"), en P "_tuplegetter" 307 (.type "collections._tuplegetter"), en P "OrderedDict" 308 (.type "collections.OrderedDict")] 12, #[]⟩
noncomputable def o30 (P : Params) : Obj := ⟨.type "module", (some 29), .plain, #[]⟩
noncomputable def o31 (P : Params) : Obj := ⟨.type "list", none, .seq #[] 0, #[]⟩
noncomputable def o32 (P : Params) : Obj := ⟨.type "dict", none, .dict #[en P "name" 283 (.str "_collections" 282), en P "loader" 284 (.ref 14), en P "origin" 285 (.str "built-in" 281), en P "loader_state" 286 (.none), en P "submodule_search_locations" 287 (.none), en P "_uninitialized_submodules" 288 (.ref 31), en P "_set_fileattr" 289 (.bool false), en P "_cached" 290 (.none), en P "_initializing" 291 (.bool false)] 9, #[]⟩
noncomputable def o33 (P : Params) : Obj := ⟨.ref 22, (some 32), .plain, #[]⟩
noncomputable def L0 (P : Params) : List Obj := [o0 P, o1 P, o2 P, o3 P, o4 P, o5 P, o6 P, o7 P, o8 P, o9 P, o10 P, o11 P, o12 P, o13 P, o14 P, o15 P, o16 P, o17 P, o18 P, o19 P, o20 P, o21 P, o22 P, o23 P, o24 P, o25 P, o26 P, o27 P, o28 P, o29 P, o30 P, o31 P, o32 P, o33 P]
noncomputable def T0 (P : Params) : BT := insL (L0 P) 0 .nil
noncomputable def S0 (w : World) (os : OsState) : SharedT := ⟨T0 w.params, 34, {}, #[], {}, 318, os⟩
noncomputable def p0 : Pos := ⟨0, 0, 0, 0⟩
noncomputable def o34 (P : Params) : Obj := ⟨.type "tuple", none, .seq #[] 0, #[]⟩
noncomputable def o35 (P : Params) : Obj := ⟨.none, none, .fields #[], #[]⟩
noncomputable def o36 (P : Params) : Obj := ⟨.type "code", none, .fields #[.str "<module>" 319, .str "<module>" 320, .str "/claim/cut.py" 321, .int (1) 0, .int (0) 0, .int (0) 0, .int (0) 0, .int (0) 0, .ref 34, .bool false, .int (318) 0, .ref 35, .none, .none, .none, .none, .int (322) 0, .int (1) 0, .str "/claim/cut.py" 323], #[]⟩
noncomputable def o37 (P : Params) : Obj := ⟨.type "frame", none, .plain, #[some (.ref 36), some (.ref 3), some (.ref 3), none, some (.str "__main__" 164), none, some (.ref 0)]⟩
noncomputable def T1 (P : Params) : BT := insL [o34 P, o35 P, o36 P, o37 P] 34 (T0 P)
noncomputable def S1 (w : World) (os : OsState) : SharedT := ⟨T1 w.params, 38, {}, #[], {}, 324, os⟩
noncomputable def p1 : Pos := ⟨0, 0, 0, 0⟩
noncomputable def o2_2 (P : Params) : Obj := ⟨.none, none, .dict #[en P "\x69mport.loaded._sre" 183 (.bool true), en P "class._frozen_importlib.BuiltinImporter" 185 (.ref 14), en P "watched.\x69mport" 206 (.ref 18), en P "class._frozen_importlib.ModuleSpec" 216 (.ref 22), en P "sys.modules.booked-epoch" 245 (.int (4) 0), en P "\x69mport.later-laid._sre" 270 (.bool true), en P "watched.library" 272 (.ref 27), en P "watched.library-objects" 0 (.str (Str.mk #[12, 30]) 0), en P "watched.library-deep._sre" 273 (.str (Str.mk #[4, 0, 0, 11, 4, 0, 0, 11, 4, 0, 0, 3, 4, 0, 0, 11, 8, 4, 100, 105, 99, 116, 2]) 0), en P "\x69mport.loaded._collections" 280 (.bool true), en P "sys.modules.landed._collections" 294 (.bool true), en P "\x69mport.later-laid._collections" 309 (.bool true), en P "watched.library-deep._collections" 311 (.str (Str.mk #[4, 0, 0, 29, 4, 0, 0, 29, 4, 0, 0, 3, 4, 0, 0, 29, 8, 4, 100, 105, 99, 116, 2]) 0), en P "type.__subclasses__.OSError.0" 647 (.int (239) 0), en P "type.__subclasses__.OSError.n" 648 (.int (1) 0)] 15, #[]⟩
noncomputable def o3_2 (P : Params) : Obj := ⟨.type "dict", none, .dict #[en P "__name__" 165 (.str "io" 611), en P "__doc__" 166 (.none), en P "__package__" 167 (.none), en P "__loader__" 168 (.builtin "__main__.__loader__#opaque"), en P "__spec__" 169 (.none), en P "__annotations__" 170 (.ref 6), en P "__builtins__" 171 (.ref 4), en P "__file__" 173 (.str "/claim/cut.py" 172), en P "__cached__" 174 (.none), en P "_sre" 275 (.ref 12), en P "deque" 317 (.type "collections.deque"), en P "_wall" 330 (.ref 44), en P "filterfalse" 382 (.ref 77), en P "_filter" 392 (.ref 88), en P "_plain_name" 403 (.ref 95), en P "ABCMeta" 429 (.ref 112), en P "_ABCLike" 472 (.ref 145), en P "_abc_plain_meta" 479 (.ref 154), en P "fspath" 491 (.ref 161), en P "_check_arg_types" 504 (.ref 168), en P "check_arg_types_genericpath" 505 (.ref 168), en P "_get_sep" 514 (.ref 175), en P "join" 525 (.ref 182), en P "join_posixpath" 526 (.ref 182), en P "splitroot" 535 (.ref 189), en P "basename" 544 (.ref 196), en P "dirname" 554 (.ref 203), en P "dirname_posixpath" 555 (.ref 203), en P "normpath" 570 (.ref 210), en P "_twin_re_1" 610 (.ref 215), en P "_whence" 620 (.ref 222), en P "_index" 628 (.ref 229), en P "UnsupportedOperation" 650 (.ref 239), en P "IOBase" 682 (.ref 259), en P "BufferedIOBase" 700 (.ref 274), en P "TextIOBase" 718 (.ref 286)] 36, #[]⟩
noncomputable def o35_2 (P : Params) : Obj := ⟨.none, none, .fields #[.int (3) 0, .int (0) 0, .ref 43, .int (7) 0, .int (0) 0, .ref 50, .int (27) 0, .int (0) 0, .ref 87, .int (30) 0, .int (0) 0, .ref 94, .int (36) 0, .int (0) 0, .ref 101, .int (41) 0, .int (0) 0, .ref 120, .int (56) 0, .int (0) 0, .ref 153, .int (60) 0, .int (0) 0, .ref 160, .int (77) 0, .int (0) 0, .ref 167, .int (90) 0, .int (0) 0, .ref 174, .int (95) 0, .int (0) 0, .ref 181, .int (113) 0, .int (0) 0, .ref 188, .int (127) 0, .int (0) 0, .ref 195, .int (132) 0, .int (0) 0, .ref 202, .int (141) 0, .int (0) 0, .ref 209, .int (168) 0, .int (0) 0, .ref 221, .int (173) 0, .int (0) 0, .ref 228, .int (180) 0, .int (0) 0, .ref 235, .int (182) 0, .int (0) 0, .ref 248, .int (189) 0, .int (0) 0, .ref 270, .int (191) 0, .int (0) 0, .ref 282], #[]⟩
noncomputable def o38 (P : Params) : Obj := ⟨.type "tuple", none, .seq #[] 0, #[]⟩
noncomputable def o39 (P : Params) : Obj := ⟨.none, none, .fields #[], #[]⟩
noncomputable def o40 (P : Params) : Obj := ⟨.type "tuple", none, .seq #[.str "k" 327] 0, #[]⟩
noncomputable def o41 (P : Params) : Obj := ⟨.type "tuple", none, .seq #[] 0, #[]⟩
noncomputable def o42 (P : Params) : Obj := mkG (.none) none 2 1000 "_wall" "_wall" 0 [] 0 (.none) (.none) (.none) (.none) none (.none) (.none) #[]
noncomputable def o43 (P : Params) : Obj := ⟨.type "code", none, .fields #[.str "_wall" 324, .str "_wall" 325, .str "/claim/cut.py" 326, .int (3) 0, .int (1) 0, .int (0) 0, .int (0) 0, .int (3) 0, .ref 38, .bool true, .int (318) 0, .ref 39, .none, .ref 40, .ref 41, .ref 42, .int (328) 0, .int (3) 0, .str "/claim/cut.py" 329], #[]⟩
noncomputable def o44 (P : Params) : Obj := mkG (.type "function") none 2 1000 "_wall" "_wall" 3 [] 0 (.none) (.none) (.none) (.str "__main__" 164) none (.ref 43) (.none) #[]
noncomputable def o45 (P : Params) : Obj := ⟨.type "tuple", none, .seq #[] 0, #[]⟩
noncomputable def o46 (P : Params) : Obj := ⟨.type "builtin_function_or_method", none, .fields #[.builtin "type.__prepare__", .type "type"], #[]⟩
noncomputable def o47 (P : Params) : Obj := ⟨.type "dict", none, .dict #[en P "__module__" 340 (.str "itertools" 331), en P "__qualname__" 342 (.str "filterfalse" 341), en P "__firstlineno__" 344 (.int (7) 343), en P "__slots__" 347 (.ref 52), en P "__init__" 356 (.ref 59), en P "__iter__" 363 (.ref 66), en P "__next__" 372 (.ref 73), en P "__static_attributes__" 375 (.ref 74)] 8, #[]⟩
noncomputable def o48 (P : Params) : Obj := ⟨.type "tuple", none, .seq #[] 0, #[]⟩
noncomputable def o49 (P : Params) : Obj := ⟨.none, none, .fields #[.int (10) 0, .int (4) 0, .ref 58, .int (14) 0, .int (4) 0, .ref 65, .int (17) 0, .int (4) 0, .ref 72], #[]⟩
noncomputable def o50 (P : Params) : Obj := ⟨.type "code", none, .fields #[.str "filterfalse" 335, .str "filterfalse" 336, .str "/claim/cut.py" 337, .int (7) 0, .int (0) 0, .int (0) 0, .int (0) 0, .int (0) 0, .ref 48, .bool false, .int (318) 0, .ref 49, .none, .none, .none, .none, .int (338) 0, .int (7) 0, .str "/claim/cut.py" 339], #[]⟩
noncomputable def o51 (P : Params) : Obj := ⟨.type "frame", none, .plain, #[some (.ref 50), some (.ref 3), some (.ref 47), none, some (.str "itertools" 331), none, some (.ref 0)]⟩
noncomputable def o52 (P : Params) : Obj := ⟨.type "tuple", none, .seq #[.str "_it" 345, .str "_func" 346] 0, #[]⟩
noncomputable def o53 (P : Params) : Obj := ⟨.type "tuple", none, .seq #[] 0, #[]⟩
noncomputable def o54 (P : Params) : Obj := ⟨.none, none, .fields #[], #[]⟩
noncomputable def o55 (P : Params) : Obj := ⟨.type "tuple", none, .seq #[.str "self" 351, .str "function" 352, .str "iterable" 353] 0, #[]⟩
noncomputable def o56 (P : Params) : Obj := ⟨.type "tuple", none, .seq #[] 0, #[]⟩
noncomputable def o57 (P : Params) : Obj := mkG (.none) none 4 1 "__init__" "filterfalse.__init__" 0 [] 0 (.none) (.none) (.none) (.none) none (.none) (.none) #[]
noncomputable def o58 (P : Params) : Obj := ⟨.type "code", none, .fields #[.str "__init__" 348, .str "filterfalse.__init__" 349, .str "/claim/cut.py" 350, .int (10) 0, .int (3) 0, .int (3) 0, .int (0) 0, .int (3) 0, .ref 53, .bool true, .int (318) 0, .ref 54, .none, .ref 55, .ref 56, .ref 57, .int (354) 0, .int (10) 0, .str "/claim/cut.py" 355], #[]⟩
noncomputable def o59 (P : Params) : Obj := mkG (.type "function") none 4 1 "__init__" "filterfalse.__init__" 3 [] 0 (.none) (.none) (.none) (.str "itertools" 331) none (.ref 58) (.none) #[]
noncomputable def o60 (P : Params) : Obj := ⟨.type "tuple", none, .seq #[] 0, #[]⟩
noncomputable def o61 (P : Params) : Obj := ⟨.none, none, .fields #[], #[]⟩
noncomputable def o62 (P : Params) : Obj := ⟨.type "tuple", none, .seq #[.str "self" 360] 0, #[]⟩
noncomputable def o63 (P : Params) : Obj := ⟨.type "tuple", none, .seq #[] 0, #[]⟩
noncomputable def o64 (P : Params) : Obj := mkG (.none) none 4 2 "__iter__" "filterfalse.__iter__" 0 [] 0 (.none) (.none) (.none) (.none) none (.none) (.none) #[]
noncomputable def o65 (P : Params) : Obj := ⟨.type "code", none, .fields #[.str "__iter__" 357, .str "filterfalse.__iter__" 358, .str "/claim/cut.py" 359, .int (14) 0, .int (1) 0, .int (0) 0, .int (0) 0, .int (3) 0, .ref 60, .bool true, .int (318) 0, .ref 61, .none, .ref 62, .ref 63, .ref 64, .int (361) 0, .int (14) 0, .str "/claim/cut.py" 362], #[]⟩
noncomputable def o66 (P : Params) : Obj := mkG (.type "function") none 4 2 "__iter__" "filterfalse.__iter__" 3 [] 0 (.none) (.none) (.none) (.str "itertools" 331) none (.ref 65) (.none) #[]
noncomputable def o67 (P : Params) : Obj := ⟨.type "tuple", none, .seq #[] 0, #[]⟩
noncomputable def o68 (P : Params) : Obj := ⟨.none, none, .fields #[], #[]⟩
noncomputable def o69 (P : Params) : Obj := ⟨.type "tuple", none, .seq #[.str "self" 367, .str "func" 368, .str "item" 369] 0, #[]⟩
noncomputable def o70 (P : Params) : Obj := ⟨.type "tuple", none, .seq #[] 0, #[]⟩
noncomputable def o71 (P : Params) : Obj := mkG (.none) none 4 3 "__next__" "filterfalse.__next__" 0 [] 0 (.none) (.none) (.none) (.none) none (.none) (.none) #[]
noncomputable def o72 (P : Params) : Obj := ⟨.type "code", none, .fields #[.str "__next__" 364, .str "filterfalse.__next__" 365, .str "/claim/cut.py" 366, .int (17) 0, .int (1) 0, .int (0) 0, .int (0) 0, .int (3) 0, .ref 67, .bool true, .int (318) 0, .ref 68, .none, .ref 69, .ref 70, .ref 71, .int (370) 0, .int (17) 0, .str "/claim/cut.py" 371], #[]⟩
noncomputable def o73 (P : Params) : Obj := mkG (.type "function") none 4 3 "__next__" "filterfalse.__next__" 3 [] 0 (.none) (.none) (.none) (.str "itertools" 331) none (.ref 72) (.none) #[]
noncomputable def o74 (P : Params) : Obj := ⟨.type "tuple", none, .seq #[.str "_func" 373, .str "_it" 374] 0, #[]⟩
noncomputable def o75 (P : Params) : Obj := ⟨.type "list", none, .seq #[.str "_it" 345, .str "_func" 346] 1, #[]⟩
noncomputable def o76 (P : Params) : Obj := ⟨.type "dict", none, .dict #[en P "__module__" 340 (.str "itertools" 331), en P "__firstlineno__" 344 (.int (7) 343), en P "__slots__" 347 (.ref 52), en P "__init__" 356 (.ref 59), en P "__iter__" 363 (.ref 66), en P "__next__" 372 (.ref 73), en P "__static_attributes__" 375 (.ref 74), en P "_func" 377 (.ref 78), en P "_it" 379 (.ref 79), en P "__doc__" 380 (.none)] 4, #[]⟩
noncomputable def o77 (P : Params) : Obj := ⟨.type "type", none, .cls ⟨"filterfalse", [.type "object"], [.ref 77, .type "object"], 76, "filterfalse", false, ["_func", "_it"], [], false, none, false⟩, #[none, none, some (.str "filterfalse" 333), some (.str "filterfalse" 341), some (.builtin "object.__new__"), some (.bool false)]⟩
noncomputable def o78 (P : Params) : Obj := ⟨.type "member_descriptor", none, .fields #[.str "_func" 376, .ref 77, .builtin "proto.slot", .builtin "proto.slot#set", .int (1) 0], #[]⟩
noncomputable def o79 (P : Params) : Obj := ⟨.type "member_descriptor", none, .fields #[.str "_it" 378, .ref 77, .builtin "proto.slot", .builtin "proto.slot#set", .int (0) 0], #[]⟩
noncomputable def o80 (P : Params) : Obj := ⟨.type "super", none, .fields #[.ref 77, .ref 77, .ref 77], #[]⟩
noncomputable def o81 (P : Params) : Obj := ⟨.type "builtin_function_or_method", none, .fields #[.builtin "object.__init_subclass__", .ref 77], #[]⟩
noncomputable def o82 (P : Params) : Obj := ⟨.type "tuple", none, .seq #[] 0, #[]⟩
noncomputable def o83 (P : Params) : Obj := ⟨.none, none, .fields #[], #[]⟩
noncomputable def o84 (P : Params) : Obj := ⟨.type "tuple", none, .seq #[.str "flist" 388, .str "skip" 389] 0, #[]⟩
noncomputable def o85 (P : Params) : Obj := ⟨.type "tuple", none, .seq #[] 0, #[]⟩
noncomputable def o86 (P : Params) : Obj := mkG (.none) none 6 1000 "_filter" "_filter" 0 [] 0 (.none) (.none) (.none) (.none) none (.none) (.none) #[]
noncomputable def o87 (P : Params) : Obj := ⟨.type "code", none, .fields #[.str "_filter" 385, .str "_filter" 386, .str "/claim/cut.py" 387, .int (27) 0, .int (2) 0, .int (0) 0, .int (0) 0, .int (3) 0, .ref 82, .bool true, .int (318) 0, .ref 83, .none, .ref 84, .ref 85, .ref 86, .int (390) 0, .int (27) 0, .str "/claim/cut.py" 391], #[]⟩
noncomputable def o88 (P : Params) : Obj := mkG (.type "function") none 6 1000 "_filter" "_filter" 3 [] 0 (.none) (.none) (.none) (.str "cpy313.filecmp" 383) none (.ref 87) (.none) #[]
noncomputable def o89 (P : Params) : Obj := ⟨.type "tuple", none, .seq #[] 0, #[]⟩
noncomputable def o90 (P : Params) : Obj := ⟨.none, none, .fields #[], #[]⟩
noncomputable def o91 (P : Params) : Obj := ⟨.type "tuple", none, .seq #[.str "x" 398, .str "what" 399, .str "kind" 400] 0, #[]⟩
noncomputable def o92 (P : Params) : Obj := ⟨.type "tuple", none, .seq #[] 0, #[]⟩
noncomputable def o93 (P : Params) : Obj := mkG (.none) none 8 1000 "_plain_name" "_plain_name" 0 [] 0 (.none) (.none) (.none) (.none) none (.none) (.none) #[]
noncomputable def o94 (P : Params) : Obj := ⟨.type "code", none, .fields #[.str "_plain_name" 395, .str "_plain_name" 396, .str "/claim/cut.py" 397, .int (30) 0, .int (2) 0, .int (0) 0, .int (0) 0, .int (3) 0, .ref 89, .bool true, .int (318) 0, .ref 90, .none, .ref 91, .ref 92, .ref 93, .int (401) 0, .int (30) 0, .str "/claim/cut.py" 402], #[]⟩
noncomputable def o95 (P : Params) : Obj := mkG (.type "function") none 8 1000 "_plain_name" "_plain_name" 3 [] 0 (.none) (.none) (.none) (.str "os" 393) none (.ref 94) (.none) #[]
noncomputable def o96 (P : Params) : Obj := ⟨.type "tuple", none, .seq #[.type "type"] 0, #[]⟩
noncomputable def o97 (P : Params) : Obj := ⟨.type "builtin_function_or_method", none, .fields #[.builtin "type.__prepare__", .type "type"], #[]⟩
noncomputable def o98 (P : Params) : Obj := ⟨.type "dict", none, .dict #[en P "__module__" 413 (.str "abc" 404), en P "__qualname__" 415 (.str "ABCMeta" 414), en P "__firstlineno__" 417 (.int (36) 416), en P "register" 425 (.ref 109), en P "__static_attributes__" 426 (.ref 110)] 5, #[]⟩
noncomputable def o99 (P : Params) : Obj := ⟨.type "tuple", none, .seq #[] 0, #[]⟩
noncomputable def o100 (P : Params) : Obj := ⟨.none, none, .fields #[.int (38) 0, .int (4) 0, .ref 108], #[]⟩
noncomputable def o101 (P : Params) : Obj := ⟨.type "code", none, .fields #[.str "ABCMeta" 408, .str "ABCMeta" 409, .str "/claim/cut.py" 410, .int (36) 0, .int (0) 0, .int (0) 0, .int (0) 0, .int (0) 0, .ref 99, .bool false, .int (318) 0, .ref 100, .none, .none, .none, .none, .int (411) 0, .int (36) 0, .str "/claim/cut.py" 412], #[]⟩
noncomputable def o102 (P : Params) : Obj := ⟨.type "frame", none, .plain, #[some (.ref 101), some (.ref 3), some (.ref 98), none, some (.str "abc" 404), none, some (.ref 0)]⟩
noncomputable def o103 (P : Params) : Obj := ⟨.type "tuple", none, .seq #[] 0, #[]⟩
noncomputable def o104 (P : Params) : Obj := ⟨.none, none, .fields #[], #[]⟩
noncomputable def o105 (P : Params) : Obj := ⟨.type "tuple", none, .seq #[.str "cls" 421, .str "subclass" 422] 0, #[]⟩
noncomputable def o106 (P : Params) : Obj := ⟨.type "tuple", none, .seq #[] 0, #[]⟩
noncomputable def o107 (P : Params) : Obj := mkG (.none) none 10 0 "register" "ABCMeta.register" 0 [] 0 (.none) (.none) (.none) (.none) none (.none) (.none) #[]
noncomputable def o108 (P : Params) : Obj := ⟨.type "code", none, .fields #[.str "register" 418, .str "ABCMeta.register" 419, .str "/claim/cut.py" 420, .int (38) 0, .int (2) 0, .int (0) 0, .int (0) 0, .int (3) 0, .ref 103, .bool true, .int (318) 0, .ref 104, .none, .ref 105, .ref 106, .ref 107, .int (423) 0, .int (38) 0, .str "/claim/cut.py" 424], #[]⟩
noncomputable def o109 (P : Params) : Obj := mkG (.type "function") none 10 0 "register" "ABCMeta.register" 3 [] 0 (.none) (.none) (.none) (.str "abc" 404) none (.ref 108) (.none) #[]
noncomputable def o110 (P : Params) : Obj := ⟨.type "tuple", none, .seq #[] 0, #[]⟩
noncomputable def o111 (P : Params) : Obj := ⟨.type "dict", none, .dict #[en P "__module__" 413 (.str "abc" 404), en P "__firstlineno__" 417 (.int (36) 416), en P "register" 425 (.ref 109), en P "__static_attributes__" 426 (.ref 110), en P "__doc__" 427 (.none)] 2, #[]⟩
noncomputable def o112 (P : Params) : Obj := ⟨.type "type", none, .cls ⟨"ABCMeta", [.type "type"], [.ref 112, .type "type", .type "object"], 111, "ABCMeta", true, [], [.ref 145], false, none, false⟩, #[some (.ref 96), none, some (.str "ABCMeta" 406), some (.str "ABCMeta" 414), some (.builtin "type.__new__"), some (.bool true)]⟩
noncomputable def o113 (P : Params) : Obj := ⟨.type "super", none, .fields #[.ref 112, .ref 112, .ref 112], #[]⟩
noncomputable def o114 (P : Params) : Obj := ⟨.type "builtin_function_or_method", none, .fields #[.builtin "object.__init_subclass__", .ref 112], #[]⟩
noncomputable def o115 (P : Params) : Obj := ⟨.type "tuple", none, .seq #[.ref 112] 0, #[]⟩
noncomputable def o116 (P : Params) : Obj := ⟨.type "builtin_function_or_method", none, .fields #[.builtin "type.__prepare__", .type "type"], #[]⟩
noncomputable def o117 (P : Params) : Obj := ⟨.type "dict", none, .dict #[en P "__module__" 439 (.str "collections.abc" 430), en P "__qualname__" 441 (.str "_ABCLike" 440), en P "__firstlineno__" 443 (.int (41) 442), en P "__instancecheck__" 452 (.ref 128), en P "__subclasscheck__" 460 (.ref 135), en P "register" 468 (.ref 142), en P "__static_attributes__" 469 (.ref 143)] 7, #[]⟩
noncomputable def o118 (P : Params) : Obj := ⟨.type "tuple", none, .seq #[] 0, #[]⟩
noncomputable def o119 (P : Params) : Obj := ⟨.none, none, .fields #[.int (43) 0, .int (4) 0, .ref 127, .int (49) 0, .int (4) 0, .ref 134, .int (54) 0, .int (4) 0, .ref 141], #[]⟩
noncomputable def o120 (P : Params) : Obj := ⟨.type "code", none, .fields #[.str "_ABCLike" 434, .str "_ABCLike" 435, .str "/claim/cut.py" 436, .int (41) 0, .int (0) 0, .int (0) 0, .int (0) 0, .int (0) 0, .ref 118, .bool false, .int (318) 0, .ref 119, .none, .none, .none, .none, .int (437) 0, .int (41) 0, .str "/claim/cut.py" 438], #[]⟩
noncomputable def o121 (P : Params) : Obj := ⟨.type "frame", none, .plain, #[some (.ref 120), some (.ref 3), some (.ref 117), none, some (.str "collections.abc" 430), none, some (.ref 0)]⟩
noncomputable def o122 (P : Params) : Obj := ⟨.type "tuple", none, .seq #[] 0, #[]⟩
noncomputable def o123 (P : Params) : Obj := ⟨.none, none, .fields #[], #[]⟩
noncomputable def o124 (P : Params) : Obj := ⟨.type "tuple", none, .seq #[.str "cls" 447, .str "\x69nstance" 448, .str "C" 449] 0, #[]⟩
noncomputable def o125 (P : Params) : Obj := ⟨.type "tuple", none, .seq #[] 0, #[]⟩
noncomputable def o126 (P : Params) : Obj := mkG (.none) none 12 0 "__instancecheck__" "_ABCLike.__instancecheck__" 0 [] 0 (.none) (.none) (.none) (.none) none (.none) (.none) #[]
noncomputable def o127 (P : Params) : Obj := ⟨.type "code", none, .fields #[.str "__instancecheck__" 444, .str "_ABCLike.__instancecheck__" 445, .str "/claim/cut.py" 446, .int (43) 0, .int (2) 0, .int (0) 0, .int (0) 0, .int (3) 0, .ref 122, .bool true, .int (318) 0, .ref 123, .none, .ref 124, .ref 125, .ref 126, .int (450) 0, .int (43) 0, .str "/claim/cut.py" 451], #[]⟩
noncomputable def o128 (P : Params) : Obj := mkG (.type "function") none 12 0 "__instancecheck__" "_ABCLike.__instancecheck__" 3 [] 0 (.none) (.none) (.none) (.str "collections.abc" 430) none (.ref 127) (.none) #[]
noncomputable def o129 (P : Params) : Obj := ⟨.type "tuple", none, .seq #[] 0, #[]⟩
noncomputable def o130 (P : Params) : Obj := ⟨.none, none, .fields #[], #[]⟩
noncomputable def o131 (P : Params) : Obj := ⟨.type "tuple", none, .seq #[.str "cls" 456, .str "C" 457] 0, #[]⟩
noncomputable def o132 (P : Params) : Obj := ⟨.type "tuple", none, .seq #[] 0, #[]⟩
noncomputable def o133 (P : Params) : Obj := mkG (.none) none 12 1 "__subclasscheck__" "_ABCLike.__subclasscheck__" 0 [] 0 (.none) (.none) (.none) (.none) none (.none) (.none) #[]
noncomputable def o134 (P : Params) : Obj := ⟨.type "code", none, .fields #[.str "__subclasscheck__" 453, .str "_ABCLike.__subclasscheck__" 454, .str "/claim/cut.py" 455, .int (49) 0, .int (2) 0, .int (0) 0, .int (0) 0, .int (3) 0, .ref 129, .bool true, .int (318) 0, .ref 130, .none, .ref 131, .ref 132, .ref 133, .int (458) 0, .int (49) 0, .str "/claim/cut.py" 459], #[]⟩
noncomputable def o135 (P : Params) : Obj := mkG (.type "function") none 12 1 "__subclasscheck__" "_ABCLike.__subclasscheck__" 3 [] 0 (.none) (.none) (.none) (.str "collections.abc" 430) none (.ref 134) (.none) #[]
noncomputable def o136 (P : Params) : Obj := ⟨.type "tuple", none, .seq #[] 0, #[]⟩
noncomputable def o137 (P : Params) : Obj := ⟨.none, none, .fields #[], #[]⟩
noncomputable def o138 (P : Params) : Obj := ⟨.type "tuple", none, .seq #[.str "cls" 464, .str "subclass" 465] 0, #[]⟩
noncomputable def o139 (P : Params) : Obj := ⟨.type "tuple", none, .seq #[] 0, #[]⟩
noncomputable def o140 (P : Params) : Obj := mkG (.none) none 12 2 "register" "_ABCLike.register" 0 [] 0 (.none) (.none) (.none) (.none) none (.none) (.none) #[]
noncomputable def o141 (P : Params) : Obj := ⟨.type "code", none, .fields #[.str "register" 461, .str "_ABCLike.register" 462, .str "/claim/cut.py" 463, .int (54) 0, .int (2) 0, .int (0) 0, .int (0) 0, .int (3) 0, .ref 136, .bool true, .int (318) 0, .ref 137, .none, .ref 138, .ref 139, .ref 140, .int (466) 0, .int (54) 0, .str "/claim/cut.py" 467], #[]⟩
noncomputable def o142 (P : Params) : Obj := mkG (.type "function") none 12 2 "register" "_ABCLike.register" 3 [] 0 (.none) (.none) (.none) (.str "collections.abc" 430) none (.ref 141) (.none) #[]
noncomputable def o143 (P : Params) : Obj := ⟨.type "tuple", none, .seq #[] 0, #[]⟩
noncomputable def o144 (P : Params) : Obj := ⟨.type "dict", none, .dict #[en P "__module__" 439 (.str "collections.abc" 430), en P "__firstlineno__" 443 (.int (41) 442), en P "__instancecheck__" 452 (.ref 128), en P "__subclasscheck__" 460 (.ref 135), en P "register" 468 (.ref 142), en P "__static_attributes__" 469 (.ref 143), en P "__doc__" 470 (.none)] 2, #[]⟩
noncomputable def o145 (P : Params) : Obj := ⟨.type "type", none, .cls ⟨"_ABCLike", [.ref 112], [.ref 145, .ref 112, .type "type", .type "object"], 144, "_ABCLike", true, [], [], false, none, false⟩, #[some (.ref 115), none, some (.str "_ABCLike" 432), some (.str "_ABCLike" 440), some (.builtin "type.__new__"), some (.bool true)]⟩
noncomputable def o146 (P : Params) : Obj := ⟨.type "super", none, .fields #[.ref 145, .ref 145, .ref 145], #[]⟩
noncomputable def o147 (P : Params) : Obj := ⟨.type "builtin_function_or_method", none, .fields #[.builtin "object.__init_subclass__", .ref 145], #[]⟩
noncomputable def o148 (P : Params) : Obj := ⟨.type "tuple", none, .seq #[] 0, #[]⟩
noncomputable def o149 (P : Params) : Obj := ⟨.none, none, .fields #[], #[]⟩
noncomputable def o150 (P : Params) : Obj := ⟨.type "tuple", none, .seq #[.str "C" 476] 0, #[]⟩
noncomputable def o151 (P : Params) : Obj := ⟨.type "tuple", none, .seq #[] 0, #[]⟩
noncomputable def o152 (P : Params) : Obj := mkG (.none) none 13 1000 "_abc_plain_meta" "_abc_plain_meta" 0 [] 0 (.none) (.none) (.none) (.none) none (.none) (.none) #[]
noncomputable def o153 (P : Params) : Obj := ⟨.type "code", none, .fields #[.str "_abc_plain_meta" 473, .str "_abc_plain_meta" 474, .str "/claim/cut.py" 475, .int (56) 0, .int (1) 0, .int (0) 0, .int (0) 0, .int (3) 0, .ref 148, .bool true, .int (318) 0, .ref 149, .none, .ref 150, .ref 151, .ref 152, .int (477) 0, .int (56) 0, .str "/claim/cut.py" 478], #[]⟩
noncomputable def o154 (P : Params) : Obj := mkG (.type "function") none 13 1000 "_abc_plain_meta" "_abc_plain_meta" 3 [] 0 (.none) (.none) (.none) (.str "collections.abc" 430) none (.ref 153) (.none) #[]
noncomputable def o155 (P : Params) : Obj := ⟨.type "tuple", none, .seq #[] 0, #[]⟩
noncomputable def o156 (P : Params) : Obj := ⟨.none, none, .fields #[], #[]⟩
noncomputable def o157 (P : Params) : Obj := ⟨.type "tuple", none, .seq #[.str "path" 485, .str "kind" 486, .str "hook" 487, .str "given" 488] 0, #[]⟩
noncomputable def o158 (P : Params) : Obj := ⟨.type "tuple", none, .seq #[] 0, #[]⟩
noncomputable def o159 (P : Params) : Obj := mkG (.none) none 15 1000 "fspath" "fspath" 0 [] 0 (.none) (.none) (.none) (.none) none (.none) (.none) #[]
noncomputable def o160 (P : Params) : Obj := ⟨.type "code", none, .fields #[.str "fspath" 482, .str "fspath" 483, .str "/claim/cut.py" 484, .int (60) 0, .int (1) 0, .int (0) 0, .int (0) 0, .int (3) 0, .ref 155, .bool true, .int (318) 0, .ref 156, .none, .ref 157, .ref 158, .ref 159, .int (489) 0, .int (60) 0, .str "/claim/cut.py" 490], #[]⟩
noncomputable def o161 (P : Params) : Obj := mkG (.type "function") none 15 1000 "fspath" "fspath" 3 [] 0 (.none) (.none) (.none) (.str "os" 480) none (.ref 160) (.none) #[]
noncomputable def o162 (P : Params) : Obj := ⟨.type "tuple", none, .seq #[] 0, #[]⟩
noncomputable def o163 (P : Params) : Obj := ⟨.none, none, .fields #[], #[]⟩
noncomputable def o164 (P : Params) : Obj := ⟨.type "tuple", none, .seq #[.str "funcname" 497, .str "args" 498, .str "hasstr" 499, .str "hasbytes" 500, .str "s" 501] 0, #[]⟩
noncomputable def o165 (P : Params) : Obj := ⟨.type "tuple", none, .seq #[] 0, #[]⟩
noncomputable def o166 (P : Params) : Obj := mkG (.none) none 17 1000 "_check_arg_types" "_check_arg_types" 0 [] 0 (.none) (.none) (.none) (.none) none (.none) (.none) #[]
noncomputable def o167 (P : Params) : Obj := ⟨.type "code", none, .fields #[.str "_check_arg_types" 494, .str "_check_arg_types" 495, .str "/claim/cut.py" 496, .int (77) 0, .int (1) 0, .int (0) 0, .int (0) 0, .int (7) 0, .ref 162, .bool true, .int (318) 0, .ref 163, .none, .ref 164, .ref 165, .ref 166, .int (502) 0, .int (77) 0, .str "/claim/cut.py" 503], #[]⟩
noncomputable def o168 (P : Params) : Obj := mkG (.type "function") none 17 1000 "_check_arg_types" "_check_arg_types" 3 [] 0 (.none) (.none) (.none) (.str "cpy313.genericpath" 492) none (.ref 167) (.none) #[]
noncomputable def o169 (P : Params) : Obj := ⟨.type "tuple", none, .seq #[] 0, #[]⟩
noncomputable def o170 (P : Params) : Obj := ⟨.none, none, .fields #[], #[]⟩
noncomputable def o171 (P : Params) : Obj := ⟨.type "tuple", none, .seq #[.str "path" 511] 0, #[]⟩
noncomputable def o172 (P : Params) : Obj := ⟨.type "tuple", none, .seq #[] 0, #[]⟩
noncomputable def o173 (P : Params) : Obj := mkG (.none) none 20 1000 "_get_sep" "_get_sep" 0 [] 0 (.none) (.none) (.none) (.none) none (.none) (.none) #[]
noncomputable def o174 (P : Params) : Obj := ⟨.type "code", none, .fields #[.str "_get_sep" 508, .str "_get_sep" 509, .str "/claim/cut.py" 510, .int (90) 0, .int (1) 0, .int (0) 0, .int (0) 0, .int (3) 0, .ref 169, .bool true, .int (318) 0, .ref 170, .none, .ref 171, .ref 172, .ref 173, .int (512) 0, .int (90) 0, .str "/claim/cut.py" 513], #[]⟩
noncomputable def o175 (P : Params) : Obj := mkG (.type "function") none 20 1000 "_get_sep" "_get_sep" 3 [] 0 (.none) (.none) (.none) (.str "cpy313.posixpath" 506) none (.ref 174) (.none) #[]
noncomputable def o176 (P : Params) : Obj := ⟨.type "tuple", none, .seq #[] 0, #[]⟩
noncomputable def o177 (P : Params) : Obj := ⟨.none, none, .fields #[], #[]⟩
noncomputable def o178 (P : Params) : Obj := ⟨.type "tuple", none, .seq #[.str "a" 518, .str "p" 519, .str "sep" 520, .str "path" 521, .str "b" 522] 0, #[]⟩
noncomputable def o179 (P : Params) : Obj := ⟨.type "tuple", none, .seq #[] 0, #[]⟩
noncomputable def o180 (P : Params) : Obj := mkG (.none) none 21 1000 "join" "join" 0 [] 0 (.none) (.none) (.none) (.none) none (.none) (.none) #[]
noncomputable def o181 (P : Params) : Obj := ⟨.type "code", none, .fields #[.str "join" 515, .str "join" 516, .str "/claim/cut.py" 517, .int (95) 0, .int (1) 0, .int (0) 0, .int (0) 0, .int (7) 0, .ref 176, .bool true, .int (318) 0, .ref 177, .none, .ref 178, .ref 179, .ref 180, .int (523) 0, .int (95) 0, .str "/claim/cut.py" 524], #[]⟩
noncomputable def o182 (P : Params) : Obj := mkG (.type "function") none 21 1000 "join" "join" 3 [] 0 (.none) (.none) (.none) (.str "cpy313.posixpath" 506) none (.ref 181) (.none) #[]
noncomputable def o183 (P : Params) : Obj := ⟨.type "tuple", none, .seq #[] 0, #[]⟩
noncomputable def o184 (P : Params) : Obj := ⟨.none, none, .fields #[], #[]⟩
noncomputable def o185 (P : Params) : Obj := ⟨.type "tuple", none, .seq #[.str "p" 530, .str "sep" 531, .str "empty" 532] 0, #[]⟩
noncomputable def o186 (P : Params) : Obj := ⟨.type "tuple", none, .seq #[] 0, #[]⟩
noncomputable def o187 (P : Params) : Obj := mkG (.none) none 23 1000 "splitroot" "splitroot" 0 [] 0 (.none) (.none) (.none) (.none) none (.none) (.none) #[]
noncomputable def o188 (P : Params) : Obj := ⟨.type "code", none, .fields #[.str "splitroot" 527, .str "splitroot" 528, .str "/claim/cut.py" 529, .int (113) 0, .int (1) 0, .int (0) 0, .int (0) 0, .int (3) 0, .ref 183, .bool true, .int (318) 0, .ref 184, .none, .ref 185, .ref 186, .ref 187, .int (533) 0, .int (113) 0, .str "/claim/cut.py" 534], #[]⟩
noncomputable def o189 (P : Params) : Obj := mkG (.type "function") none 23 1000 "splitroot" "splitroot" 3 [] 0 (.none) (.none) (.none) (.str "cpy313.posixpath" 506) none (.ref 188) (.none) #[]
noncomputable def o190 (P : Params) : Obj := ⟨.type "tuple", none, .seq #[] 0, #[]⟩
noncomputable def o191 (P : Params) : Obj := ⟨.none, none, .fields #[], #[]⟩
noncomputable def o192 (P : Params) : Obj := ⟨.type "tuple", none, .seq #[.str "p" 539, .str "sep" 540, .str "i" 541] 0, #[]⟩
noncomputable def o193 (P : Params) : Obj := ⟨.type "tuple", none, .seq #[] 0, #[]⟩
noncomputable def o194 (P : Params) : Obj := mkG (.none) none 24 1000 "basename" "basename" 0 [] 0 (.none) (.none) (.none) (.none) none (.none) (.none) #[]
noncomputable def o195 (P : Params) : Obj := ⟨.type "code", none, .fields #[.str "basename" 536, .str "basename" 537, .str "/claim/cut.py" 538, .int (127) 0, .int (1) 0, .int (0) 0, .int (0) 0, .int (3) 0, .ref 190, .bool true, .int (318) 0, .ref 191, .none, .ref 192, .ref 193, .ref 194, .int (542) 0, .int (127) 0, .str "/claim/cut.py" 543], #[]⟩
noncomputable def o196 (P : Params) : Obj := mkG (.type "function") none 24 1000 "basename" "basename" 3 [] 0 (.none) (.none) (.none) (.str "cpy313.posixpath" 506) none (.ref 195) (.none) #[]
noncomputable def o197 (P : Params) : Obj := ⟨.type "tuple", none, .seq #[] 0, #[]⟩
noncomputable def o198 (P : Params) : Obj := ⟨.none, none, .fields #[], #[]⟩
noncomputable def o199 (P : Params) : Obj := ⟨.type "tuple", none, .seq #[.str "p" 548, .str "sep" 549, .str "i" 550, .str "head" 551] 0, #[]⟩
noncomputable def o200 (P : Params) : Obj := ⟨.type "tuple", none, .seq #[] 0, #[]⟩
noncomputable def o201 (P : Params) : Obj := mkG (.none) none 25 1000 "dirname" "dirname" 0 [] 0 (.none) (.none) (.none) (.none) none (.none) (.none) #[]
noncomputable def o202 (P : Params) : Obj := ⟨.type "code", none, .fields #[.str "dirname" 545, .str "dirname" 546, .str "/claim/cut.py" 547, .int (132) 0, .int (1) 0, .int (0) 0, .int (0) 0, .int (3) 0, .ref 197, .bool true, .int (318) 0, .ref 198, .none, .ref 199, .ref 200, .ref 201, .int (552) 0, .int (132) 0, .str "/claim/cut.py" 553], #[]⟩
noncomputable def o203 (P : Params) : Obj := mkG (.type "function") none 25 1000 "dirname" "dirname" 3 [] 0 (.none) (.none) (.none) (.str "cpy313.posixpath" 506) none (.ref 202) (.none) #[]
noncomputable def o204 (P : Params) : Obj := ⟨.type "tuple", none, .seq #[] 0, #[]⟩
noncomputable def o205 (P : Params) : Obj := ⟨.none, none, .fields #[], #[]⟩
noncomputable def o206 (P : Params) : Obj := ⟨.type "tuple", none, .seq #[.str "path" 559, .str "sep" 560, .str "dot" 561, .str "dotdot" 562, .str "_" 563, .str "initial_slashes" 564, .str "comps" 565, .str "new_comps" 566, .str "comp" 567] 0, #[]⟩
noncomputable def o207 (P : Params) : Obj := ⟨.type "tuple", none, .seq #[] 0, #[]⟩
noncomputable def o208 (P : Params) : Obj := mkG (.none) none 27 1000 "normpath" "normpath" 0 [] 0 (.none) (.none) (.none) (.none) none (.none) (.none) #[]
noncomputable def o209 (P : Params) : Obj := ⟨.type "code", none, .fields #[.str "normpath" 556, .str "normpath" 557, .str "/claim/cut.py" 558, .int (141) 0, .int (1) 0, .int (0) 0, .int (0) 0, .int (3) 0, .ref 204, .bool true, .int (318) 0, .ref 205, .none, .ref 206, .ref 207, .ref 208, .int (568) 0, .int (141) 0, .str "/claim/cut.py" 569], #[]⟩
noncomputable def o210 (P : Params) : Obj := mkG (.type "function") none 27 1000 "normpath" "normpath" 3 [] 0 (.none) (.none) (.none) (.str "cpy313.posixpath" 506) none (.ref 209) (.none) #[]
noncomputable def o211 (P : Params) : Obj := ⟨.type "list", none, .seq #[.int (14) 574, .int (17) 575, .int (4) 576, .int (1) 577, .int (1) 578, .int (21) 579, .int (9) 580, .int (0) 581, .int (604043296) 582, .int (1) 583, .int (0) 584, .int (0) 585, .int (0) 586, .int (0) 587, .int (0) 588, .int (8) 589, .int (4) 590, .int (0) 591, .int (13) 592, .int (14) 593, .int (21) 594, .int (9) 595, .int (0) 596, .int (604043296) 597, .int (1) 598, .int (0) 599, .int (0) 600, .int (0) 601, .int (0) 602, .int (0) 603, .int (8) 604, .int (4) 605, .int (0) 606, .int (1) 607] 0, #[]⟩
noncomputable def o212 (P : Params) : Obj := ⟨.type "dict", none, .dict #[] 0, #[]⟩
noncomputable def o213 (P : Params) : Obj := ⟨.type "tuple", none, .seq #[.none] 0, #[]⟩
noncomputable def o214 (P : Params) : Obj := ⟨.type "tuple", none, .seq #[.int (14) 0, .int (17) 0, .int (4) 0, .int (1) 0, .int (1) 0, .int (21) 0, .int (9) 0, .int (0) 0, .int (604043296) 0, .int (1) 0, .int (0) 0, .int (0) 0, .int (0) 0, .int (0) 0, .int (0) 0, .int (8) 0, .int (4) 0, .int (0) 0, .int (13) 0, .int (14) 0, .int (21) 0, .int (9) 0, .int (0) 0, .int (604043296) 0, .int (1) 0, .int (0) 0, .int (0) 0, .int (0) 0, .int (0) 0, .int (0) 0, .int (8) 0, .int (4) 0, .int (0) 0, .int (1) 0] 0, #[]⟩
noncomputable def o215 (P : Params) : Obj := ⟨.type "re.Pattern", none, .fields #[.str "[^\\w@%+=:,./-]" 572, .int (256) 609, .int (0) 0, .none, .none, .ref 214, .int (0) 0], #[]⟩
noncomputable def o216 (P : Params) : Obj := ⟨.type "tuple", none, .seq #[] 0, #[]⟩
noncomputable def o217 (P : Params) : Obj := ⟨.none, none, .fields #[], #[]⟩
noncomputable def o218 (P : Params) : Obj := ⟨.type "tuple", none, .seq #[.str "n" 616, .str "what" 617] 0, #[]⟩
noncomputable def o219 (P : Params) : Obj := ⟨.type "tuple", none, .seq #[] 0, #[]⟩
noncomputable def o220 (P : Params) : Obj := mkG (.none) none 30 1000 "_whence" "_whence" 0 [] 0 (.none) (.none) (.none) (.none) none (.none) (.none) #[]
noncomputable def o221 (P : Params) : Obj := ⟨.type "code", none, .fields #[.str "_whence" 613, .str "_whence" 614, .str "/claim/cut.py" 615, .int (168) 0, .int (2) 0, .int (0) 0, .int (0) 0, .int (3) 0, .ref 216, .bool true, .int (318) 0, .ref 217, .none, .ref 218, .ref 219, .ref 220, .int (618) 0, .int (168) 0, .str "/claim/cut.py" 619], #[]⟩
noncomputable def o222 (P : Params) : Obj := mkG (.type "function") none 30 1000 "_whence" "_whence" 3 [] 0 (.none) (.none) (.none) (.str "io" 611) none (.ref 221) (.none) #[]
noncomputable def o223 (P : Params) : Obj := ⟨.type "tuple", none, .seq #[] 0, #[]⟩
noncomputable def o224 (P : Params) : Obj := ⟨.none, none, .fields #[], #[]⟩
noncomputable def o225 (P : Params) : Obj := ⟨.type "tuple", none, .seq #[.str "n" 624, .str "what" 625] 0, #[]⟩
noncomputable def o226 (P : Params) : Obj := ⟨.type "tuple", none, .seq #[] 0, #[]⟩
noncomputable def o227 (P : Params) : Obj := mkG (.none) none 31 1000 "_index" "_index" 0 [] 0 (.none) (.none) (.none) (.none) none (.none) (.none) #[]
noncomputable def o228 (P : Params) : Obj := ⟨.type "code", none, .fields #[.str "_index" 621, .str "_index" 622, .str "/claim/cut.py" 623, .int (173) 0, .int (2) 0, .int (0) 0, .int (0) 0, .int (3) 0, .ref 223, .bool true, .int (318) 0, .ref 224, .none, .ref 225, .ref 226, .ref 227, .int (626) 0, .int (173) 0, .str "/claim/cut.py" 627], #[]⟩
noncomputable def o229 (P : Params) : Obj := mkG (.type "function") none 31 1000 "_index" "_index" 3 [] 0 (.none) (.none) (.none) (.str "io" 611) none (.ref 228) (.none) #[]
noncomputable def o230 (P : Params) : Obj := ⟨.type "tuple", none, .seq #[.type "OSError", .type "ValueError"] 0, #[]⟩
noncomputable def o231 (P : Params) : Obj := ⟨.type "builtin_function_or_method", none, .fields #[.builtin "type.__prepare__", .type "type"], #[]⟩
noncomputable def o232 (P : Params) : Obj := ⟨.type "dict", none, .dict #[en P "__module__" 636 (.str "io" 641), en P "__qualname__" 638 (.str "UnsupportedOperation" 637), en P "__firstlineno__" 640 (.int (180) 639), en P "__static_attributes__" 643 (.ref 237)] 4, #[]⟩
noncomputable def o233 (P : Params) : Obj := ⟨.type "tuple", none, .seq #[] 0, #[]⟩
noncomputable def o234 (P : Params) : Obj := ⟨.none, none, .fields #[], #[]⟩
noncomputable def o235 (P : Params) : Obj := ⟨.type "code", none, .fields #[.str "UnsupportedOperation" 631, .str "UnsupportedOperation" 632, .str "/claim/cut.py" 633, .int (180) 0, .int (0) 0, .int (0) 0, .int (0) 0, .int (0) 0, .ref 233, .bool false, .int (318) 0, .ref 234, .none, .none, .none, .none, .int (634) 0, .int (180) 0, .str "/claim/cut.py" 635], #[]⟩
noncomputable def o236 (P : Params) : Obj := ⟨.type "frame", none, .plain, #[some (.ref 235), some (.ref 3), some (.ref 232), none, some (.str "io" 611), none, some (.ref 0)]⟩
noncomputable def o237 (P : Params) : Obj := ⟨.type "tuple", none, .seq #[] 0, #[]⟩
noncomputable def o238 (P : Params) : Obj := ⟨.type "dict", none, .dict #[en P "__module__" 636 (.str "io" 641), en P "__firstlineno__" 640 (.int (180) 639), en P "__static_attributes__" 643 (.ref 237), en P "__weakref__" 645 (.ref 240), en P "__doc__" 646 (.none)] 3, #[]⟩
noncomputable def o239 (P : Params) : Obj := ⟨.type "type", none, .cls ⟨"UnsupportedOperation", [.type "OSError", .type "ValueError"], [.ref 239, .type "OSError", .type "ValueError", .type "Exception", .type "BaseException", .type "object"], 238, "UnsupportedOperation", true, [], [], false, none, false⟩, #[some (.ref 230), none, some (.str "UnsupportedOperation" 629), some (.str "UnsupportedOperation" 637), some (.builtin "OSError.__new__"), some (.bool true)]⟩
noncomputable def o240 (P : Params) : Obj := ⟨.type "getset_descriptor", none, .fields #[.str "__weakref__" 644, .ref 239, .builtin "ExceptionGroup.__weakref__", .none], #[]⟩
noncomputable def o241 (P : Params) : Obj := ⟨.type "super", none, .fields #[.ref 239, .ref 239, .ref 239], #[]⟩
noncomputable def o242 (P : Params) : Obj := ⟨.type "builtin_function_or_method", none, .fields #[.builtin "object.__init_subclass__", .ref 239], #[]⟩
noncomputable def o243 (P : Params) : Obj := ⟨.type "tuple", none, .seq #[] 0, #[]⟩
noncomputable def o244 (P : Params) : Obj := ⟨.type "builtin_function_or_method", none, .fields #[.builtin "type.__prepare__", .type "type"], #[]⟩
noncomputable def o245 (P : Params) : Obj := ⟨.type "dict", none, .dict #[en P "__module__" 658 (.str "io" 663), en P "__qualname__" 660 (.str "IOBase" 659), en P "__firstlineno__" 662 (.int (182) 661), en P "__new__" 673 (.ref 256), en P "__static_attributes__" 674 (.ref 257)] 5, #[]⟩
noncomputable def o246 (P : Params) : Obj := ⟨.type "tuple", none, .seq #[] 0, #[]⟩
noncomputable def o247 (P : Params) : Obj := ⟨.none, none, .fields #[.int (185) 0, .int (4) 0, .ref 255], #[]⟩
noncomputable def o248 (P : Params) : Obj := ⟨.type "code", none, .fields #[.str "IOBase" 653, .str "IOBase" 654, .str "/claim/cut.py" 655, .int (182) 0, .int (0) 0, .int (0) 0, .int (0) 0, .int (0) 0, .ref 246, .bool false, .int (318) 0, .ref 247, .none, .none, .none, .none, .int (656) 0, .int (182) 0, .str "/claim/cut.py" 657], #[]⟩
noncomputable def o249 (P : Params) : Obj := ⟨.type "frame", none, .plain, #[some (.ref 248), some (.ref 3), some (.ref 245), none, some (.str "io" 611), none, some (.ref 0)]⟩
noncomputable def o250 (P : Params) : Obj := ⟨.type "tuple", none, .seq #[] 0, #[]⟩
noncomputable def o251 (P : Params) : Obj := ⟨.none, none, .fields #[], #[]⟩
noncomputable def o252 (P : Params) : Obj := ⟨.type "tuple", none, .seq #[.str "cls" 668, .str "args" 669, .str "kwargs" 670] 0, #[]⟩
noncomputable def o253 (P : Params) : Obj := ⟨.type "tuple", none, .seq #[] 0, #[]⟩
noncomputable def o254 (P : Params) : Obj := mkG (.none) none 33 1 "__new__" "IOBase.__new__" 0 [] 0 (.none) (.none) (.none) (.none) none (.none) (.none) #[]
noncomputable def o255 (P : Params) : Obj := ⟨.type "code", none, .fields #[.str "__new__" 665, .str "IOBase.__new__" 666, .str "/claim/cut.py" 667, .int (185) 0, .int (1) 0, .int (1) 0, .int (0) 0, .int (15) 0, .ref 250, .bool true, .int (318) 0, .ref 251, .none, .ref 252, .ref 253, .ref 254, .int (671) 0, .int (185) 0, .str "/claim/cut.py" 672], #[]⟩
noncomputable def o256 (P : Params) : Obj := mkG (.type "function") none 33 1 "__new__" "IOBase.__new__" 3 [] 0 (.none) (.none) (.none) (.str "io" 611) none (.ref 255) (.none) #[]
noncomputable def o257 (P : Params) : Obj := ⟨.type "tuple", none, .seq #[] 0, #[]⟩
noncomputable def o258 (P : Params) : Obj := ⟨.type "dict", none, .dict #[en P "__module__" 658 (.str "io" 663), en P "__firstlineno__" 662 (.int (182) 661), en P "__new__" 673 (.ref 260), en P "__static_attributes__" 674 (.ref 257), en P "__dict__" 677 (.ref 261), en P "__weakref__" 679 (.ref 262), en P "__doc__" 680 (.none)] 4, #[]⟩
noncomputable def o259 (P : Params) : Obj := ⟨.type "type", none, .cls ⟨"IOBase", [.type "object"], [.ref 259, .type "object"], 258, "IOBase", true, [], [.ref 274, .ref 286], false, none, false⟩, #[none, none, some (.str "IOBase" 651), some (.str "IOBase" 659), some (.none), some (.bool true)]⟩
noncomputable def o260 (P : Params) : Obj := ⟨.type "staticmethod", none, .fields #[.ref 256], #[]⟩
noncomputable def o261 (P : Params) : Obj := ⟨.type "getset_descriptor", none, .fields #[.str "__dict__" 676, .ref 259, .builtin "function.__dict__", .builtin "function.__dict__#set"], #[]⟩
noncomputable def o262 (P : Params) : Obj := ⟨.type "getset_descriptor", none, .fields #[.str "__weakref__" 678, .ref 259, .builtin "ExceptionGroup.__weakref__", .none], #[]⟩
noncomputable def o263 (P : Params) : Obj := ⟨.type "super", none, .fields #[.ref 259, .ref 259, .ref 259], #[]⟩
noncomputable def o264 (P : Params) : Obj := ⟨.type "builtin_function_or_method", none, .fields #[.builtin "object.__init_subclass__", .ref 259], #[]⟩
noncomputable def o265 (P : Params) : Obj := ⟨.type "tuple", none, .seq #[.ref 259] 0, #[]⟩
noncomputable def o266 (P : Params) : Obj := ⟨.type "builtin_function_or_method", none, .fields #[.builtin "type.__prepare__", .type "type"], #[]⟩
noncomputable def o267 (P : Params) : Obj := ⟨.type "dict", none, .dict #[en P "__module__" 690 (.str "io" 695), en P "__qualname__" 692 (.str "BufferedIOBase" 691), en P "__firstlineno__" 694 (.int (189) 693), en P "__static_attributes__" 697 (.ref 272)] 4, #[]⟩
noncomputable def o268 (P : Params) : Obj := ⟨.type "tuple", none, .seq #[] 0, #[]⟩
noncomputable def o269 (P : Params) : Obj := ⟨.none, none, .fields #[], #[]⟩
noncomputable def o270 (P : Params) : Obj := ⟨.type "code", none, .fields #[.str "BufferedIOBase" 685, .str "BufferedIOBase" 686, .str "/claim/cut.py" 687, .int (189) 0, .int (0) 0, .int (0) 0, .int (0) 0, .int (0) 0, .ref 268, .bool false, .int (318) 0, .ref 269, .none, .none, .none, .none, .int (688) 0, .int (189) 0, .str "/claim/cut.py" 689], #[]⟩
noncomputable def o271 (P : Params) : Obj := ⟨.type "frame", none, .plain, #[some (.ref 270), some (.ref 3), some (.ref 267), none, some (.str "io" 611), none, some (.ref 0)]⟩
noncomputable def o272 (P : Params) : Obj := ⟨.type "tuple", none, .seq #[] 0, #[]⟩
noncomputable def o273 (P : Params) : Obj := ⟨.type "dict", none, .dict #[en P "__module__" 690 (.str "io" 695), en P "__firstlineno__" 694 (.int (189) 693), en P "__static_attributes__" 697 (.ref 272), en P "__doc__" 698 (.none)] 2, #[]⟩
noncomputable def o274 (P : Params) : Obj := ⟨.type "type", none, .cls ⟨"BufferedIOBase", [.ref 259], [.ref 274, .ref 259, .type "object"], 273, "BufferedIOBase", true, [], [], false, none, false⟩, #[some (.ref 265), none, some (.str "BufferedIOBase" 683), some (.str "BufferedIOBase" 691), some (.none), some (.bool true)]⟩
noncomputable def o275 (P : Params) : Obj := ⟨.type "super", none, .fields #[.ref 274, .ref 274, .ref 274], #[]⟩
noncomputable def o276 (P : Params) : Obj := ⟨.type "builtin_function_or_method", none, .fields #[.builtin "object.__init_subclass__", .ref 274], #[]⟩
noncomputable def o277 (P : Params) : Obj := ⟨.type "tuple", none, .seq #[.ref 259] 0, #[]⟩
noncomputable def o278 (P : Params) : Obj := ⟨.type "builtin_function_or_method", none, .fields #[.builtin "type.__prepare__", .type "type"], #[]⟩
noncomputable def o279 (P : Params) : Obj := ⟨.type "dict", none, .dict #[en P "__module__" 708 (.str "io" 713), en P "__qualname__" 710 (.str "TextIOBase" 709), en P "__firstlineno__" 712 (.int (191) 711), en P "__static_attributes__" 715 (.ref 284)] 4, #[]⟩
noncomputable def o280 (P : Params) : Obj := ⟨.type "tuple", none, .seq #[] 0, #[]⟩
noncomputable def o281 (P : Params) : Obj := ⟨.none, none, .fields #[], #[]⟩
noncomputable def o282 (P : Params) : Obj := ⟨.type "code", none, .fields #[.str "TextIOBase" 703, .str "TextIOBase" 704, .str "/claim/cut.py" 705, .int (191) 0, .int (0) 0, .int (0) 0, .int (0) 0, .int (0) 0, .ref 280, .bool false, .int (318) 0, .ref 281, .none, .none, .none, .none, .int (706) 0, .int (191) 0, .str "/claim/cut.py" 707], #[]⟩
noncomputable def o283 (P : Params) : Obj := ⟨.type "frame", none, .plain, #[some (.ref 282), some (.ref 3), some (.ref 279), none, some (.str "io" 611), none, some (.ref 0)]⟩
noncomputable def o284 (P : Params) : Obj := ⟨.type "tuple", none, .seq #[] 0, #[]⟩
noncomputable def o285 (P : Params) : Obj := ⟨.type "dict", none, .dict #[en P "__module__" 708 (.str "io" 713), en P "__firstlineno__" 712 (.int (191) 711), en P "__static_attributes__" 715 (.ref 284), en P "__doc__" 716 (.none)] 2, #[]⟩
noncomputable def o286 (P : Params) : Obj := ⟨.type "type", none, .cls ⟨"TextIOBase", [.ref 259], [.ref 286, .ref 259, .type "object"], 285, "TextIOBase", true, [], [], false, none, false⟩, #[some (.ref 277), none, some (.str "TextIOBase" 701), some (.str "TextIOBase" 709), some (.none), some (.bool true)]⟩
noncomputable def o287 (P : Params) : Obj := ⟨.type "super", none, .fields #[.ref 286, .ref 286, .ref 286], #[]⟩
noncomputable def o288 (P : Params) : Obj := ⟨.type "builtin_function_or_method", none, .fields #[.builtin "object.__init_subclass__", .ref 286], #[]⟩
noncomputable def T2 (P : Params) : BT := insL [o38 P, o39 P, o40 P, o41 P, o42 P, o43 P, o44 P, o45 P, o46 P, o47 P, o48 P, o49 P, o50 P, o51 P, o52 P, o53 P, o54 P, o55 P, o56 P, o57 P, o58 P, o59 P, o60 P, o61 P, o62 P, o63 P, o64 P, o65 P, o66 P, o67 P, o68 P, o69 P, o70 P, o71 P, o72 P, o73 P, o74 P, o75 P, o76 P, o77 P, o78 P, o79 P, o80 P, o81 P, o82 P, o83 P, o84 P, o85 P, o86 P, o87 P, o88 P, o89 P, o90 P, o91 P, o92 P, o93 P, o94 P, o95 P, o96 P, o97 P, o98 P, o99 P, o100 P, o101 P, o102 P, o103 P, o104 P, o105 P, o106 P, o107 P, o108 P, o109 P, o110 P, o111 P, o112 P, o113 P, o114 P, o115 P, o116 P, o117 P, o118 P, o119 P, o120 P, o121 P, o122 P, o123 P, o124 P, o125 P, o126 P, o127 P, o128 P, o129 P, o130 P, o131 P, o132 P, o133 P, o134 P, o135 P, o136 P, o137 P, o138 P, o139 P, o140 P, o141 P, o142 P, o143 P, o144 P, o145 P, o146 P, o147 P, o148 P, o149 P, o150 P, o151 P, o152 P, o153 P, o154 P, o155 P, o156 P, o157 P, o158 P, o159 P, o160 P, o161 P, o162 P, o163 P, o164 P, o165 P, o166 P, o167 P, o168 P, o169 P, o170 P, o171 P, o172 P, o173 P, o174 P, o175 P, o176 P, o177 P, o178 P, o179 P, o180 P, o181 P, o182 P, o183 P, o184 P, o185 P, o186 P, o187 P, o188 P, o189 P, o190 P, o191 P, o192 P, o193 P, o194 P, o195 P, o196 P, o197 P, o198 P, o199 P, o200 P, o201 P, o202 P, o203 P, o204 P, o205 P, o206 P, o207 P, o208 P, o209 P, o210 P, o211 P, o212 P, o213 P, o214 P, o215 P, o216 P, o217 P, o218 P, o219 P, o220 P, o221 P, o222 P, o223 P, o224 P, o225 P, o226 P, o227 P, o228 P, o229 P, o230 P, o231 P, o232 P, o233 P, o234 P, o235 P, o236 P, o237 P, o238 P, o239 P, o240 P, o241 P, o242 P, o243 P, o244 P, o245 P, o246 P, o247 P, o248 P, o249 P, o250 P, o251 P, o252 P, o253 P, o254 P, o255 P, o256 P, o257 P, o258 P, o259 P, o260 P, o261 P, o262 P, o263 P, o264 P, o265 P, o266 P, o267 P, o268 P, o269 P, o270 P, o271 P, o272 P, o273 P, o274 P, o275 P, o276 P, o277 P, o278 P, o279 P, o280 P, o281 P, o282 P, o283 P, o284 P, o285 P, o286 P, o287 P, o288 P] 38 ((((T1 P).set 2 (fun _ => o2_2 P)).set 3 (fun _ => o3_2 P)).set 35 (fun _ => o35_2 P))
noncomputable def S2 (w : World) (os : OsState) : SharedT := ⟨T2 w.params, 289, {}, #[], {}, 719, os⟩
noncomputable def p2 : Pos := ⟨191, 0, 192, 21⟩
noncomputable def o3_3 (P : Params) : Obj := ⟨.type "dict", none, .dict #[en P "__name__" 165 (.str "io" 611), en P "__doc__" 166 (.none), en P "__package__" 167 (.none), en P "__loader__" 168 (.builtin "__main__.__loader__#opaque"), en P "__spec__" 169 (.none), en P "__annotations__" 170 (.ref 6), en P "__builtins__" 171 (.ref 4), en P "__file__" 173 (.str "/claim/cut.py" 172), en P "__cached__" 174 (.none), en P "_sre" 275 (.ref 12), en P "deque" 317 (.type "collections.deque"), en P "_wall" 330 (.ref 44), en P "filterfalse" 382 (.ref 77), en P "_filter" 392 (.ref 88), en P "_plain_name" 403 (.ref 95), en P "ABCMeta" 429 (.ref 112), en P "_ABCLike" 472 (.ref 145), en P "_abc_plain_meta" 479 (.ref 154), en P "fspath" 491 (.ref 161), en P "_check_arg_types" 504 (.ref 168), en P "check_arg_types_genericpath" 505 (.ref 168), en P "_get_sep" 514 (.ref 175), en P "join" 525 (.ref 182), en P "join_posixpath" 526 (.ref 182), en P "splitroot" 535 (.ref 189), en P "basename" 544 (.ref 196), en P "dirname" 554 (.ref 203), en P "dirname_posixpath" 555 (.ref 203), en P "normpath" 570 (.ref 210), en P "_twin_re_1" 610 (.ref 215), en P "_whence" 620 (.ref 222), en P "_index" 628 (.ref 229), en P "UnsupportedOperation" 650 (.ref 239), en P "IOBase" 682 (.ref 259), en P "BufferedIOBase" 700 (.ref 274), en P "TextIOBase" 718 (.ref 286), en P "BytesIO" 980 (.ref 516), en P "StringIO" 1267 (.ref 763)] 38, #[]⟩
noncomputable def o35_3 (P : Params) : Obj := ⟨.none, none, .fields #[.int (3) 0, .int (0) 0, .ref 43, .int (7) 0, .int (0) 0, .ref 50, .int (27) 0, .int (0) 0, .ref 87, .int (30) 0, .int (0) 0, .ref 94, .int (36) 0, .int (0) 0, .ref 101, .int (41) 0, .int (0) 0, .ref 120, .int (56) 0, .int (0) 0, .ref 153, .int (60) 0, .int (0) 0, .ref 160, .int (77) 0, .int (0) 0, .ref 167, .int (90) 0, .int (0) 0, .ref 174, .int (95) 0, .int (0) 0, .ref 181, .int (113) 0, .int (0) 0, .ref 188, .int (127) 0, .int (0) 0, .ref 195, .int (132) 0, .int (0) 0, .ref 202, .int (141) 0, .int (0) 0, .ref 209, .int (168) 0, .int (0) 0, .ref 221, .int (173) 0, .int (0) 0, .ref 228, .int (180) 0, .int (0) 0, .ref 235, .int (182) 0, .int (0) 0, .ref 248, .int (189) 0, .int (0) 0, .ref 270, .int (191) 0, .int (0) 0, .ref 282, .int (193) 0, .int (0) 0, .ref 294, .int (363) 0, .int (0) 0, .ref 524], #[]⟩
noncomputable def o274_3 (P : Params) : Obj := ⟨.type "type", none, .cls ⟨"BufferedIOBase", [.ref 259], [.ref 274, .ref 259, .type "object"], 273, "BufferedIOBase", true, [], [.ref 516], false, none, false⟩, #[some (.ref 265), none, some (.str "BufferedIOBase" 683), some (.str "BufferedIOBase" 691), some (.none), some (.bool true)]⟩
noncomputable def o286_3 (P : Params) : Obj := ⟨.type "type", none, .cls ⟨"TextIOBase", [.ref 259], [.ref 286, .ref 259, .type "object"], 285, "TextIOBase", true, [], [.ref 763], false, none, false⟩, #[some (.ref 277), none, some (.str "TextIOBase" 701), some (.str "TextIOBase" 709), some (.none), some (.bool true)]⟩
noncomputable def o289 (P : Params) : Obj := ⟨.type "tuple", none, .seq #[.ref 274] 0, #[]⟩
noncomputable def o290 (P : Params) : Obj := ⟨.type "builtin_function_or_method", none, .fields #[.builtin "type.__prepare__", .type "type"], #[]⟩
noncomputable def o291 (P : Params) : Obj := ⟨.type "dict", none, .dict #[en P "__module__" 726 (.str "_io" 731), en P "__qualname__" 728 (.str "BytesIO" 727), en P "__firstlineno__" 730 (.int (193) 729), en P "__init__" 740 (.ref 303), en P "_BytesIO__check" 747 (.ref 310), en P "_BytesIO__line" 758 (.ref 317), en P "closed" 766 (.ref 325), en P "close" 773 (.ref 332), en P "__enter__" 780 (.ref 339), en P "__exit__" 788 (.ref 346), en P "readable" 795 (.ref 353), en P "writable" 802 (.ref 360), en P "seekable" 809 (.ref 367), en P "isatty" 816 (.ref 374), en P "flush" 823 (.ref 381), en P "fileno" 830 (.ref 388), en P "detach" 837 (.ref 395), en P "getvalue" 844 (.ref 402), en P "getbuffer" 851 (.ref 409), en P "tell" 858 (.ref 416), en P "seek" 868 (.ref 424), en P "truncate" 876 (.ref 432), en P "read" 888 (.ref 440), en P "read1" 898 (.ref 448), en P "readinto" 908 (.ref 455), en P "readinto1" 916 (.ref 462), en P "readline" 926 (.ref 470), en P "readlines" 934 (.ref 478), en P "__iter__" 941 (.ref 485), en P "__next__" 949 (.ref 492), en P "write" 959 (.ref 499), en P "writelines" 967 (.ref 506), en P "__repr__" 974 (.ref 513), en P "__static_attributes__" 977 (.ref 514)] 34, #[]⟩
noncomputable def o292 (P : Params) : Obj := ⟨.type "tuple", none, .seq #[] 0, #[]⟩
noncomputable def o293 (P : Params) : Obj := ⟨.none, none, .fields #[.int (196) 0, .int (4) 0, .ref 302, .int (202) 0, .int (4) 0, .ref 309, .int (206) 0, .int (4) 0, .ref 316, .int (220) 0, .int (4) 0, .ref 323, .int (223) 0, .int (4) 0, .ref 331, .int (226) 0, .int (4) 0, .ref 338, .int (230) 0, .int (4) 0, .ref 345, .int (233) 0, .int (4) 0, .ref 352, .int (237) 0, .int (4) 0, .ref 359, .int (241) 0, .int (4) 0, .ref 366, .int (245) 0, .int (4) 0, .ref 373, .int (249) 0, .int (4) 0, .ref 380, .int (252) 0, .int (4) 0, .ref 387, .int (255) 0, .int (4) 0, .ref 394, .int (258) 0, .int (4) 0, .ref 401, .int (261) 0, .int (4) 0, .ref 408, .int (264) 0, .int (4) 0, .ref 415, .int (268) 0, .int (4) 0, .ref 423, .int (285) 0, .int (4) 0, .ref 431, .int (288) 0, .int (4) 0, .ref 439, .int (302) 0, .int (4) 0, .ref 447, .int (305) 0, .int (4) 0, .ref 454, .int (319) 0, .int (4) 0, .ref 461, .int (322) 0, .int (4) 0, .ref 469, .int (329) 0, .int (4) 0, .ref 477, .int (332) 0, .int (4) 0, .ref 484, .int (335) 0, .int (4) 0, .ref 491, .int (342) 0, .int (4) 0, .ref 498, .int (358) 0, .int (4) 0, .ref 505, .int (361) 0, .int (4) 0, .ref 512], #[]⟩
noncomputable def o294 (P : Params) : Obj := ⟨.type "code", none, .fields #[.str "BytesIO" 721, .str "BytesIO" 722, .str "/claim/cut.py" 723, .int (193) 0, .int (0) 0, .int (0) 0, .int (0) 0, .int (0) 0, .ref 292, .bool false, .int (318) 0, .ref 293, .none, .none, .none, .none, .int (724) 0, .int (193) 0, .str "/claim/cut.py" 725], #[]⟩
noncomputable def o295 (P : Params) : Obj := ⟨.type "frame", none, .plain, #[some (.ref 294), some (.ref 3), some (.ref 291), none, some (.str "io" 611), none, some (.ref 0)]⟩
noncomputable def o296 (P : Params) : Obj := ⟨.type "tuple", none, .seq #[.none] 0, #[]⟩
noncomputable def o297 (P : Params) : Obj := ⟨.type "tuple", none, .seq #[] 0, #[]⟩
noncomputable def o298 (P : Params) : Obj := ⟨.none, none, .fields #[], #[]⟩
noncomputable def o299 (P : Params) : Obj := ⟨.type "tuple", none, .seq #[.str "self" 736, .str "initial_bytes" 737] 0, #[]⟩
noncomputable def o300 (P : Params) : Obj := ⟨.type "tuple", none, .seq #[] 0, #[]⟩
noncomputable def o301 (P : Params) : Obj := mkG (.none) none 36 1 "__init__" "BytesIO.__init__" 0 [] 0 (.none) (.none) (.none) (.none) none (.none) (.none) #[]
noncomputable def o302 (P : Params) : Obj := ⟨.type "code", none, .fields #[.str "__init__" 733, .str "BytesIO.__init__" 734, .str "/claim/cut.py" 735, .int (196) 0, .int (2) 0, .int (0) 0, .int (0) 0, .int (3) 0, .ref 297, .bool true, .int (318) 0, .ref 298, .none, .ref 299, .ref 300, .ref 301, .int (738) 0, .int (196) 0, .str "/claim/cut.py" 739], #[]⟩
noncomputable def o303 (P : Params) : Obj := mkG (.type "function") none 36 1 "__init__" "BytesIO.__init__" 3 [] 0 (.ref 296) (.none) (.none) (.str "io" 611) none (.ref 302) (.none) #[]
noncomputable def o304 (P : Params) : Obj := ⟨.type "tuple", none, .seq #[] 0, #[]⟩
noncomputable def o305 (P : Params) : Obj := ⟨.none, none, .fields #[], #[]⟩
noncomputable def o306 (P : Params) : Obj := ⟨.type "tuple", none, .seq #[.str "self" 744] 0, #[]⟩
noncomputable def o307 (P : Params) : Obj := ⟨.type "tuple", none, .seq #[] 0, #[]⟩
noncomputable def o308 (P : Params) : Obj := mkG (.none) none 36 2 "__check" "BytesIO.__check" 0 [] 0 (.none) (.none) (.none) (.none) none (.none) (.none) #[]
noncomputable def o309 (P : Params) : Obj := ⟨.type "code", none, .fields #[.str "__check" 741, .str "BytesIO.__check" 742, .str "/claim/cut.py" 743, .int (202) 0, .int (1) 0, .int (0) 0, .int (0) 0, .int (3) 0, .ref 304, .bool true, .int (318) 0, .ref 305, .none, .ref 306, .ref 307, .ref 308, .int (745) 0, .int (202) 0, .str "/claim/cut.py" 746], #[]⟩
noncomputable def o310 (P : Params) : Obj := mkG (.type "function") none 36 2 "__check" "BytesIO.__check" 3 [] 0 (.none) (.none) (.none) (.str "io" 611) none (.ref 309) (.none) #[]
noncomputable def o311 (P : Params) : Obj := ⟨.type "tuple", none, .seq #[] 0, #[]⟩
noncomputable def o312 (P : Params) : Obj := ⟨.none, none, .fields #[], #[]⟩
noncomputable def o313 (P : Params) : Obj := ⟨.type "tuple", none, .seq #[.str "self" 751, .str "limit" 752, .str "start" 753, .str "stop" 754, .str "i" 755] 0, #[]⟩
noncomputable def o314 (P : Params) : Obj := ⟨.type "tuple", none, .seq #[] 0, #[]⟩
noncomputable def o315 (P : Params) : Obj := mkG (.none) none 36 3 "__line" "BytesIO.__line" 0 [] 0 (.none) (.none) (.none) (.none) none (.none) (.none) #[]
noncomputable def o316 (P : Params) : Obj := ⟨.type "code", none, .fields #[.str "__line" 748, .str "BytesIO.__line" 749, .str "/claim/cut.py" 750, .int (206) 0, .int (2) 0, .int (0) 0, .int (0) 0, .int (3) 0, .ref 311, .bool true, .int (318) 0, .ref 312, .none, .ref 313, .ref 314, .ref 315, .int (756) 0, .int (206) 0, .str "/claim/cut.py" 757], #[]⟩
noncomputable def o317 (P : Params) : Obj := mkG (.type "function") none 36 3 "__line" "BytesIO.__line" 3 [] 0 (.none) (.none) (.none) (.str "io" 611) none (.ref 316) (.none) #[]
noncomputable def o318 (P : Params) : Obj := ⟨.type "tuple", none, .seq #[] 0, #[]⟩
noncomputable def o319 (P : Params) : Obj := ⟨.none, none, .fields #[], #[]⟩
noncomputable def o320 (P : Params) : Obj := ⟨.type "tuple", none, .seq #[.str "self" 762] 0, #[]⟩
noncomputable def o321 (P : Params) : Obj := ⟨.type "tuple", none, .seq #[] 0, #[]⟩
noncomputable def o322 (P : Params) : Obj := mkG (.none) none 36 4 "closed" "BytesIO.closed" 0 [] 0 (.none) (.none) (.none) (.none) none (.none) (.none) #[]
noncomputable def o323 (P : Params) : Obj := ⟨.type "code", none, .fields #[.str "closed" 759, .str "BytesIO.closed" 760, .str "/claim/cut.py" 761, .int (219) 0, .int (1) 0, .int (0) 0, .int (0) 0, .int (3) 0, .ref 318, .bool true, .int (318) 0, .ref 319, .none, .ref 320, .ref 321, .ref 322, .int (763) 0, .int (219) 0, .str "/claim/cut.py" 764], #[]⟩
noncomputable def o324 (P : Params) : Obj := mkG (.type "function") none 36 4 "closed" "BytesIO.closed" 3 [] 0 (.none) (.none) (.none) (.str "io" 611) none (.ref 323) (.none) #[]
noncomputable def o325 (P : Params) : Obj := ⟨.type "property", none, .fields #[.ref 324, .none, .none, .none, .str "closed" 766, .bool false], #[]⟩
noncomputable def o326 (P : Params) : Obj := ⟨.type "tuple", none, .seq #[] 0, #[]⟩
noncomputable def o327 (P : Params) : Obj := ⟨.none, none, .fields #[], #[]⟩
noncomputable def o328 (P : Params) : Obj := ⟨.type "tuple", none, .seq #[.str "self" 770] 0, #[]⟩
noncomputable def o329 (P : Params) : Obj := ⟨.type "tuple", none, .seq #[] 0, #[]⟩
noncomputable def o330 (P : Params) : Obj := mkG (.none) none 36 5 "close" "BytesIO.close" 0 [] 0 (.none) (.none) (.none) (.none) none (.none) (.none) #[]
noncomputable def o331 (P : Params) : Obj := ⟨.type "code", none, .fields #[.str "close" 767, .str "BytesIO.close" 768, .str "/claim/cut.py" 769, .int (223) 0, .int (1) 0, .int (0) 0, .int (0) 0, .int (3) 0, .ref 326, .bool true, .int (318) 0, .ref 327, .none, .ref 328, .ref 329, .ref 330, .int (771) 0, .int (223) 0, .str "/claim/cut.py" 772], #[]⟩
noncomputable def o332 (P : Params) : Obj := mkG (.type "function") none 36 5 "close" "BytesIO.close" 3 [] 0 (.none) (.none) (.none) (.str "io" 611) none (.ref 331) (.none) #[]
noncomputable def o333 (P : Params) : Obj := ⟨.type "tuple", none, .seq #[] 0, #[]⟩
noncomputable def o334 (P : Params) : Obj := ⟨.none, none, .fields #[], #[]⟩
noncomputable def o335 (P : Params) : Obj := ⟨.type "tuple", none, .seq #[.str "self" 777] 0, #[]⟩
noncomputable def o336 (P : Params) : Obj := ⟨.type "tuple", none, .seq #[] 0, #[]⟩
noncomputable def o337 (P : Params) : Obj := mkG (.none) none 36 6 "__enter__" "BytesIO.__enter__" 0 [] 0 (.none) (.none) (.none) (.none) none (.none) (.none) #[]
noncomputable def o338 (P : Params) : Obj := ⟨.type "code", none, .fields #[.str "__enter__" 774, .str "BytesIO.__enter__" 775, .str "/claim/cut.py" 776, .int (226) 0, .int (1) 0, .int (0) 0, .int (0) 0, .int (3) 0, .ref 333, .bool true, .int (318) 0, .ref 334, .none, .ref 335, .ref 336, .ref 337, .int (778) 0, .int (226) 0, .str "/claim/cut.py" 779], #[]⟩
noncomputable def o339 (P : Params) : Obj := mkG (.type "function") none 36 6 "__enter__" "BytesIO.__enter__" 3 [] 0 (.none) (.none) (.none) (.str "io" 611) none (.ref 338) (.none) #[]
noncomputable def o340 (P : Params) : Obj := ⟨.type "tuple", none, .seq #[] 0, #[]⟩
noncomputable def o341 (P : Params) : Obj := ⟨.none, none, .fields #[], #[]⟩
noncomputable def o342 (P : Params) : Obj := ⟨.type "tuple", none, .seq #[.str "self" 784, .str "args" 785] 0, #[]⟩
noncomputable def o343 (P : Params) : Obj := ⟨.type "tuple", none, .seq #[] 0, #[]⟩
noncomputable def o344 (P : Params) : Obj := mkG (.none) none 36 7 "__exit__" "BytesIO.__exit__" 0 [] 0 (.none) (.none) (.none) (.none) none (.none) (.none) #[]
noncomputable def o345 (P : Params) : Obj := ⟨.type "code", none, .fields #[.str "__exit__" 781, .str "BytesIO.__exit__" 782, .str "/claim/cut.py" 783, .int (230) 0, .int (1) 0, .int (0) 0, .int (0) 0, .int (7) 0, .ref 340, .bool true, .int (318) 0, .ref 341, .none, .ref 342, .ref 343, .ref 344, .int (786) 0, .int (230) 0, .str "/claim/cut.py" 787], #[]⟩
noncomputable def o346 (P : Params) : Obj := mkG (.type "function") none 36 7 "__exit__" "BytesIO.__exit__" 3 [] 0 (.none) (.none) (.none) (.str "io" 611) none (.ref 345) (.none) #[]
noncomputable def o347 (P : Params) : Obj := ⟨.type "tuple", none, .seq #[] 0, #[]⟩
noncomputable def o348 (P : Params) : Obj := ⟨.none, none, .fields #[], #[]⟩
noncomputable def o349 (P : Params) : Obj := ⟨.type "tuple", none, .seq #[.str "self" 792] 0, #[]⟩
noncomputable def o350 (P : Params) : Obj := ⟨.type "tuple", none, .seq #[] 0, #[]⟩
noncomputable def o351 (P : Params) : Obj := mkG (.none) none 36 8 "readable" "BytesIO.readable" 0 [] 0 (.none) (.none) (.none) (.none) none (.none) (.none) #[]
noncomputable def o352 (P : Params) : Obj := ⟨.type "code", none, .fields #[.str "readable" 789, .str "BytesIO.readable" 790, .str "/claim/cut.py" 791, .int (233) 0, .int (1) 0, .int (0) 0, .int (0) 0, .int (3) 0, .ref 347, .bool true, .int (318) 0, .ref 348, .none, .ref 349, .ref 350, .ref 351, .int (793) 0, .int (233) 0, .str "/claim/cut.py" 794], #[]⟩
noncomputable def o353 (P : Params) : Obj := mkG (.type "function") none 36 8 "readable" "BytesIO.readable" 3 [] 0 (.none) (.none) (.none) (.str "io" 611) none (.ref 352) (.none) #[]
noncomputable def o354 (P : Params) : Obj := ⟨.type "tuple", none, .seq #[] 0, #[]⟩
noncomputable def o355 (P : Params) : Obj := ⟨.none, none, .fields #[], #[]⟩
noncomputable def o356 (P : Params) : Obj := ⟨.type "tuple", none, .seq #[.str "self" 799] 0, #[]⟩
noncomputable def o357 (P : Params) : Obj := ⟨.type "tuple", none, .seq #[] 0, #[]⟩
noncomputable def o358 (P : Params) : Obj := mkG (.none) none 36 9 "writable" "BytesIO.writable" 0 [] 0 (.none) (.none) (.none) (.none) none (.none) (.none) #[]
noncomputable def o359 (P : Params) : Obj := ⟨.type "code", none, .fields #[.str "writable" 796, .str "BytesIO.writable" 797, .str "/claim/cut.py" 798, .int (237) 0, .int (1) 0, .int (0) 0, .int (0) 0, .int (3) 0, .ref 354, .bool true, .int (318) 0, .ref 355, .none, .ref 356, .ref 357, .ref 358, .int (800) 0, .int (237) 0, .str "/claim/cut.py" 801], #[]⟩
noncomputable def o360 (P : Params) : Obj := mkG (.type "function") none 36 9 "writable" "BytesIO.writable" 3 [] 0 (.none) (.none) (.none) (.str "io" 611) none (.ref 359) (.none) #[]
noncomputable def o361 (P : Params) : Obj := ⟨.type "tuple", none, .seq #[] 0, #[]⟩
noncomputable def o362 (P : Params) : Obj := ⟨.none, none, .fields #[], #[]⟩
noncomputable def o363 (P : Params) : Obj := ⟨.type "tuple", none, .seq #[.str "self" 806] 0, #[]⟩
noncomputable def o364 (P : Params) : Obj := ⟨.type "tuple", none, .seq #[] 0, #[]⟩
noncomputable def o365 (P : Params) : Obj := mkG (.none) none 36 10 "seekable" "BytesIO.seekable" 0 [] 0 (.none) (.none) (.none) (.none) none (.none) (.none) #[]
noncomputable def o366 (P : Params) : Obj := ⟨.type "code", none, .fields #[.str "seekable" 803, .str "BytesIO.seekable" 804, .str "/claim/cut.py" 805, .int (241) 0, .int (1) 0, .int (0) 0, .int (0) 0, .int (3) 0, .ref 361, .bool true, .int (318) 0, .ref 362, .none, .ref 363, .ref 364, .ref 365, .int (807) 0, .int (241) 0, .str "/claim/cut.py" 808], #[]⟩
noncomputable def o367 (P : Params) : Obj := mkG (.type "function") none 36 10 "seekable" "BytesIO.seekable" 3 [] 0 (.none) (.none) (.none) (.str "io" 611) none (.ref 366) (.none) #[]
noncomputable def o368 (P : Params) : Obj := ⟨.type "tuple", none, .seq #[] 0, #[]⟩
noncomputable def o369 (P : Params) : Obj := ⟨.none, none, .fields #[], #[]⟩
noncomputable def o370 (P : Params) : Obj := ⟨.type "tuple", none, .seq #[.str "self" 813] 0, #[]⟩
noncomputable def o371 (P : Params) : Obj := ⟨.type "tuple", none, .seq #[] 0, #[]⟩
noncomputable def o372 (P : Params) : Obj := mkG (.none) none 36 11 "isatty" "BytesIO.isatty" 0 [] 0 (.none) (.none) (.none) (.none) none (.none) (.none) #[]
noncomputable def o373 (P : Params) : Obj := ⟨.type "code", none, .fields #[.str "isatty" 810, .str "BytesIO.isatty" 811, .str "/claim/cut.py" 812, .int (245) 0, .int (1) 0, .int (0) 0, .int (0) 0, .int (3) 0, .ref 368, .bool true, .int (318) 0, .ref 369, .none, .ref 370, .ref 371, .ref 372, .int (814) 0, .int (245) 0, .str "/claim/cut.py" 815], #[]⟩
noncomputable def o374 (P : Params) : Obj := mkG (.type "function") none 36 11 "isatty" "BytesIO.isatty" 3 [] 0 (.none) (.none) (.none) (.str "io" 611) none (.ref 373) (.none) #[]
noncomputable def o375 (P : Params) : Obj := ⟨.type "tuple", none, .seq #[] 0, #[]⟩
noncomputable def o376 (P : Params) : Obj := ⟨.none, none, .fields #[], #[]⟩
noncomputable def o377 (P : Params) : Obj := ⟨.type "tuple", none, .seq #[.str "self" 820] 0, #[]⟩
noncomputable def o378 (P : Params) : Obj := ⟨.type "tuple", none, .seq #[] 0, #[]⟩
noncomputable def o379 (P : Params) : Obj := mkG (.none) none 36 12 "flush" "BytesIO.flush" 0 [] 0 (.none) (.none) (.none) (.none) none (.none) (.none) #[]
noncomputable def o380 (P : Params) : Obj := ⟨.type "code", none, .fields #[.str "flush" 817, .str "BytesIO.flush" 818, .str "/claim/cut.py" 819, .int (249) 0, .int (1) 0, .int (0) 0, .int (0) 0, .int (3) 0, .ref 375, .bool true, .int (318) 0, .ref 376, .none, .ref 377, .ref 378, .ref 379, .int (821) 0, .int (249) 0, .str "/claim/cut.py" 822], #[]⟩
noncomputable def o381 (P : Params) : Obj := mkG (.type "function") none 36 12 "flush" "BytesIO.flush" 3 [] 0 (.none) (.none) (.none) (.str "io" 611) none (.ref 380) (.none) #[]
noncomputable def o382 (P : Params) : Obj := ⟨.type "tuple", none, .seq #[] 0, #[]⟩
noncomputable def o383 (P : Params) : Obj := ⟨.none, none, .fields #[], #[]⟩
noncomputable def o384 (P : Params) : Obj := ⟨.type "tuple", none, .seq #[.str "self" 827] 0, #[]⟩
noncomputable def o385 (P : Params) : Obj := ⟨.type "tuple", none, .seq #[] 0, #[]⟩
noncomputable def o386 (P : Params) : Obj := mkG (.none) none 36 13 "fileno" "BytesIO.fileno" 0 [] 0 (.none) (.none) (.none) (.none) none (.none) (.none) #[]
noncomputable def o387 (P : Params) : Obj := ⟨.type "code", none, .fields #[.str "fileno" 824, .str "BytesIO.fileno" 825, .str "/claim/cut.py" 826, .int (252) 0, .int (1) 0, .int (0) 0, .int (0) 0, .int (3) 0, .ref 382, .bool true, .int (318) 0, .ref 383, .none, .ref 384, .ref 385, .ref 386, .int (828) 0, .int (252) 0, .str "/claim/cut.py" 829], #[]⟩
noncomputable def o388 (P : Params) : Obj := mkG (.type "function") none 36 13 "fileno" "BytesIO.fileno" 3 [] 0 (.none) (.none) (.none) (.str "io" 611) none (.ref 387) (.none) #[]
noncomputable def o389 (P : Params) : Obj := ⟨.type "tuple", none, .seq #[] 0, #[]⟩
noncomputable def o390 (P : Params) : Obj := ⟨.none, none, .fields #[], #[]⟩
noncomputable def o391 (P : Params) : Obj := ⟨.type "tuple", none, .seq #[.str "self" 834] 0, #[]⟩
noncomputable def o392 (P : Params) : Obj := ⟨.type "tuple", none, .seq #[] 0, #[]⟩
noncomputable def o393 (P : Params) : Obj := mkG (.none) none 36 14 "detach" "BytesIO.detach" 0 [] 0 (.none) (.none) (.none) (.none) none (.none) (.none) #[]
noncomputable def o394 (P : Params) : Obj := ⟨.type "code", none, .fields #[.str "detach" 831, .str "BytesIO.detach" 832, .str "/claim/cut.py" 833, .int (255) 0, .int (1) 0, .int (0) 0, .int (0) 0, .int (3) 0, .ref 389, .bool true, .int (318) 0, .ref 390, .none, .ref 391, .ref 392, .ref 393, .int (835) 0, .int (255) 0, .str "/claim/cut.py" 836], #[]⟩
noncomputable def o395 (P : Params) : Obj := mkG (.type "function") none 36 14 "detach" "BytesIO.detach" 3 [] 0 (.none) (.none) (.none) (.str "io" 611) none (.ref 394) (.none) #[]
noncomputable def o396 (P : Params) : Obj := ⟨.type "tuple", none, .seq #[] 0, #[]⟩
noncomputable def o397 (P : Params) : Obj := ⟨.none, none, .fields #[], #[]⟩
noncomputable def o398 (P : Params) : Obj := ⟨.type "tuple", none, .seq #[.str "self" 841] 0, #[]⟩
noncomputable def o399 (P : Params) : Obj := ⟨.type "tuple", none, .seq #[] 0, #[]⟩
noncomputable def o400 (P : Params) : Obj := mkG (.none) none 36 15 "getvalue" "BytesIO.getvalue" 0 [] 0 (.none) (.none) (.none) (.none) none (.none) (.none) #[]
noncomputable def o401 (P : Params) : Obj := ⟨.type "code", none, .fields #[.str "getvalue" 838, .str "BytesIO.getvalue" 839, .str "/claim/cut.py" 840, .int (258) 0, .int (1) 0, .int (0) 0, .int (0) 0, .int (3) 0, .ref 396, .bool true, .int (318) 0, .ref 397, .none, .ref 398, .ref 399, .ref 400, .int (842) 0, .int (258) 0, .str "/claim/cut.py" 843], #[]⟩
noncomputable def o402 (P : Params) : Obj := mkG (.type "function") none 36 15 "getvalue" "BytesIO.getvalue" 3 [] 0 (.none) (.none) (.none) (.str "io" 611) none (.ref 401) (.none) #[]
noncomputable def o403 (P : Params) : Obj := ⟨.type "tuple", none, .seq #[] 0, #[]⟩
noncomputable def o404 (P : Params) : Obj := ⟨.none, none, .fields #[], #[]⟩
noncomputable def o405 (P : Params) : Obj := ⟨.type "tuple", none, .seq #[.str "self" 848] 0, #[]⟩
noncomputable def o406 (P : Params) : Obj := ⟨.type "tuple", none, .seq #[] 0, #[]⟩
noncomputable def o407 (P : Params) : Obj := mkG (.none) none 36 16 "getbuffer" "BytesIO.getbuffer" 0 [] 0 (.none) (.none) (.none) (.none) none (.none) (.none) #[]
noncomputable def o408 (P : Params) : Obj := ⟨.type "code", none, .fields #[.str "getbuffer" 845, .str "BytesIO.getbuffer" 846, .str "/claim/cut.py" 847, .int (261) 0, .int (1) 0, .int (0) 0, .int (0) 0, .int (3) 0, .ref 403, .bool true, .int (318) 0, .ref 404, .none, .ref 405, .ref 406, .ref 407, .int (849) 0, .int (261) 0, .str "/claim/cut.py" 850], #[]⟩
noncomputable def o409 (P : Params) : Obj := mkG (.type "function") none 36 16 "getbuffer" "BytesIO.getbuffer" 3 [] 0 (.none) (.none) (.none) (.str "io" 611) none (.ref 408) (.none) #[]
noncomputable def o410 (P : Params) : Obj := ⟨.type "tuple", none, .seq #[] 0, #[]⟩
noncomputable def o411 (P : Params) : Obj := ⟨.none, none, .fields #[], #[]⟩
noncomputable def o412 (P : Params) : Obj := ⟨.type "tuple", none, .seq #[.str "self" 855] 0, #[]⟩
noncomputable def o413 (P : Params) : Obj := ⟨.type "tuple", none, .seq #[] 0, #[]⟩
noncomputable def o414 (P : Params) : Obj := mkG (.none) none 36 17 "tell" "BytesIO.tell" 0 [] 0 (.none) (.none) (.none) (.none) none (.none) (.none) #[]
noncomputable def o415 (P : Params) : Obj := ⟨.type "code", none, .fields #[.str "tell" 852, .str "BytesIO.tell" 853, .str "/claim/cut.py" 854, .int (264) 0, .int (1) 0, .int (0) 0, .int (0) 0, .int (3) 0, .ref 410, .bool true, .int (318) 0, .ref 411, .none, .ref 412, .ref 413, .ref 414, .int (856) 0, .int (264) 0, .str "/claim/cut.py" 857], #[]⟩
noncomputable def o416 (P : Params) : Obj := mkG (.type "function") none 36 17 "tell" "BytesIO.tell" 3 [] 0 (.none) (.none) (.none) (.str "io" 611) none (.ref 415) (.none) #[]
noncomputable def o417 (P : Params) : Obj := ⟨.type "tuple", none, .seq #[.int (0) 859] 0, #[]⟩
noncomputable def o418 (P : Params) : Obj := ⟨.type "tuple", none, .seq #[] 0, #[]⟩
noncomputable def o419 (P : Params) : Obj := ⟨.none, none, .fields #[], #[]⟩
noncomputable def o420 (P : Params) : Obj := ⟨.type "tuple", none, .seq #[.str "self" 863, .str "pos" 864, .str "whence" 865] 0, #[]⟩
noncomputable def o421 (P : Params) : Obj := ⟨.type "tuple", none, .seq #[] 0, #[]⟩
noncomputable def o422 (P : Params) : Obj := mkG (.none) none 36 18 "seek" "BytesIO.seek" 0 [] 0 (.none) (.none) (.none) (.none) none (.none) (.none) #[]
noncomputable def o423 (P : Params) : Obj := ⟨.type "code", none, .fields #[.str "seek" 860, .str "BytesIO.seek" 861, .str "/claim/cut.py" 862, .int (268) 0, .int (3) 0, .int (3) 0, .int (0) 0, .int (3) 0, .ref 418, .bool true, .int (318) 0, .ref 419, .none, .ref 420, .ref 421, .ref 422, .int (866) 0, .int (268) 0, .str "/claim/cut.py" 867], #[]⟩
noncomputable def o424 (P : Params) : Obj := mkG (.type "function") none 36 18 "seek" "BytesIO.seek" 3 [] 0 (.ref 417) (.none) (.none) (.str "io" 611) none (.ref 423) (.none) #[]
noncomputable def o425 (P : Params) : Obj := ⟨.type "tuple", none, .seq #[.none] 0, #[]⟩
noncomputable def o426 (P : Params) : Obj := ⟨.type "tuple", none, .seq #[] 0, #[]⟩
noncomputable def o427 (P : Params) : Obj := ⟨.none, none, .fields #[], #[]⟩
noncomputable def o428 (P : Params) : Obj := ⟨.type "tuple", none, .seq #[.str "self" 872, .str "size" 873] 0, #[]⟩
noncomputable def o429 (P : Params) : Obj := ⟨.type "tuple", none, .seq #[] 0, #[]⟩
noncomputable def o430 (P : Params) : Obj := mkG (.none) none 36 19 "truncate" "BytesIO.truncate" 0 [] 0 (.none) (.none) (.none) (.none) none (.none) (.none) #[]
noncomputable def o431 (P : Params) : Obj := ⟨.type "code", none, .fields #[.str "truncate" 869, .str "BytesIO.truncate" 870, .str "/claim/cut.py" 871, .int (285) 0, .int (2) 0, .int (2) 0, .int (0) 0, .int (3) 0, .ref 426, .bool true, .int (318) 0, .ref 427, .none, .ref 428, .ref 429, .ref 430, .int (874) 0, .int (285) 0, .str "/claim/cut.py" 875], #[]⟩
noncomputable def o432 (P : Params) : Obj := mkG (.type "function") none 36 19 "truncate" "BytesIO.truncate" 3 [] 0 (.ref 425) (.none) (.none) (.str "io" 611) none (.ref 431) (.none) #[]
noncomputable def o433 (P : Params) : Obj := ⟨.type "tuple", none, .seq #[.int (-1) 878] 0, #[]⟩
noncomputable def o434 (P : Params) : Obj := ⟨.type "tuple", none, .seq #[] 0, #[]⟩
noncomputable def o435 (P : Params) : Obj := ⟨.none, none, .fields #[], #[]⟩
noncomputable def o436 (P : Params) : Obj := ⟨.type "tuple", none, .seq #[.str "self" 882, .str "size" 883, .str "start" 884, .str "stop" 885] 0, #[]⟩
noncomputable def o437 (P : Params) : Obj := ⟨.type "tuple", none, .seq #[] 0, #[]⟩
noncomputable def o438 (P : Params) : Obj := mkG (.none) none 36 20 "read" "BytesIO.read" 0 [] 0 (.none) (.none) (.none) (.none) none (.none) (.none) #[]
noncomputable def o439 (P : Params) : Obj := ⟨.type "code", none, .fields #[.str "read" 879, .str "BytesIO.read" 880, .str "/claim/cut.py" 881, .int (288) 0, .int (2) 0, .int (2) 0, .int (0) 0, .int (3) 0, .ref 434, .bool true, .int (318) 0, .ref 435, .none, .ref 436, .ref 437, .ref 438, .int (886) 0, .int (288) 0, .str "/claim/cut.py" 887], #[]⟩
noncomputable def o440 (P : Params) : Obj := mkG (.type "function") none 36 20 "read" "BytesIO.read" 3 [] 0 (.ref 433) (.none) (.none) (.str "io" 611) none (.ref 439) (.none) #[]
noncomputable def o441 (P : Params) : Obj := ⟨.type "tuple", none, .seq #[.int (-1) 890] 0, #[]⟩
noncomputable def o442 (P : Params) : Obj := ⟨.type "tuple", none, .seq #[] 0, #[]⟩
noncomputable def o443 (P : Params) : Obj := ⟨.none, none, .fields #[], #[]⟩
noncomputable def o444 (P : Params) : Obj := ⟨.type "tuple", none, .seq #[.str "self" 894, .str "size" 895] 0, #[]⟩
noncomputable def o445 (P : Params) : Obj := ⟨.type "tuple", none, .seq #[] 0, #[]⟩
noncomputable def o446 (P : Params) : Obj := mkG (.none) none 36 21 "read1" "BytesIO.read1" 0 [] 0 (.none) (.none) (.none) (.none) none (.none) (.none) #[]
noncomputable def o447 (P : Params) : Obj := ⟨.type "code", none, .fields #[.str "read1" 891, .str "BytesIO.read1" 892, .str "/claim/cut.py" 893, .int (302) 0, .int (2) 0, .int (2) 0, .int (0) 0, .int (3) 0, .ref 442, .bool true, .int (318) 0, .ref 443, .none, .ref 444, .ref 445, .ref 446, .int (896) 0, .int (302) 0, .str "/claim/cut.py" 897], #[]⟩
noncomputable def o448 (P : Params) : Obj := mkG (.type "function") none 36 21 "read1" "BytesIO.read1" 3 [] 0 (.ref 441) (.none) (.none) (.str "io" 611) none (.ref 447) (.none) #[]
noncomputable def o449 (P : Params) : Obj := ⟨.type "tuple", none, .seq #[] 0, #[]⟩
noncomputable def o450 (P : Params) : Obj := ⟨.none, none, .fields #[], #[]⟩
noncomputable def o451 (P : Params) : Obj := ⟨.type "tuple", none, .seq #[.str "self" 902, .str "buffer" 903, .str "start" 904, .str "n" 905] 0, #[]⟩
noncomputable def o452 (P : Params) : Obj := ⟨.type "tuple", none, .seq #[] 0, #[]⟩
noncomputable def o453 (P : Params) : Obj := mkG (.none) none 36 22 "readinto" "BytesIO.readinto" 0 [] 0 (.none) (.none) (.none) (.none) none (.none) (.none) #[]
noncomputable def o454 (P : Params) : Obj := ⟨.type "code", none, .fields #[.str "readinto" 899, .str "BytesIO.readinto" 900, .str "/claim/cut.py" 901, .int (305) 0, .int (2) 0, .int (2) 0, .int (0) 0, .int (3) 0, .ref 449, .bool true, .int (318) 0, .ref 450, .none, .ref 451, .ref 452, .ref 453, .int (906) 0, .int (305) 0, .str "/claim/cut.py" 907], #[]⟩
noncomputable def o455 (P : Params) : Obj := mkG (.type "function") none 36 22 "readinto" "BytesIO.readinto" 3 [] 0 (.none) (.none) (.none) (.str "io" 611) none (.ref 454) (.none) #[]
noncomputable def o456 (P : Params) : Obj := ⟨.type "tuple", none, .seq #[] 0, #[]⟩
noncomputable def o457 (P : Params) : Obj := ⟨.none, none, .fields #[], #[]⟩
noncomputable def o458 (P : Params) : Obj := ⟨.type "tuple", none, .seq #[.str "self" 912, .str "buffer" 913] 0, #[]⟩
noncomputable def o459 (P : Params) : Obj := ⟨.type "tuple", none, .seq #[] 0, #[]⟩
noncomputable def o460 (P : Params) : Obj := mkG (.none) none 36 23 "readinto1" "BytesIO.readinto1" 0 [] 0 (.none) (.none) (.none) (.none) none (.none) (.none) #[]
noncomputable def o461 (P : Params) : Obj := ⟨.type "code", none, .fields #[.str "readinto1" 909, .str "BytesIO.readinto1" 910, .str "/claim/cut.py" 911, .int (319) 0, .int (2) 0, .int (2) 0, .int (0) 0, .int (3) 0, .ref 456, .bool true, .int (318) 0, .ref 457, .none, .ref 458, .ref 459, .ref 460, .int (914) 0, .int (319) 0, .str "/claim/cut.py" 915], #[]⟩
noncomputable def o462 (P : Params) : Obj := mkG (.type "function") none 36 23 "readinto1" "BytesIO.readinto1" 3 [] 0 (.none) (.none) (.none) (.str "io" 611) none (.ref 461) (.none) #[]
noncomputable def o463 (P : Params) : Obj := ⟨.type "tuple", none, .seq #[.int (-1) 918] 0, #[]⟩
noncomputable def o464 (P : Params) : Obj := ⟨.type "tuple", none, .seq #[] 0, #[]⟩
noncomputable def o465 (P : Params) : Obj := ⟨.none, none, .fields #[], #[]⟩
noncomputable def o466 (P : Params) : Obj := ⟨.type "tuple", none, .seq #[.str "self" 922, .str "size" 923] 0, #[]⟩
noncomputable def o467 (P : Params) : Obj := ⟨.type "tuple", none, .seq #[] 0, #[]⟩
noncomputable def o468 (P : Params) : Obj := mkG (.none) none 36 24 "readline" "BytesIO.readline" 0 [] 0 (.none) (.none) (.none) (.none) none (.none) (.none) #[]
noncomputable def o469 (P : Params) : Obj := ⟨.type "code", none, .fields #[.str "readline" 919, .str "BytesIO.readline" 920, .str "/claim/cut.py" 921, .int (322) 0, .int (2) 0, .int (2) 0, .int (0) 0, .int (3) 0, .ref 464, .bool true, .int (318) 0, .ref 465, .none, .ref 466, .ref 467, .ref 468, .int (924) 0, .int (322) 0, .str "/claim/cut.py" 925], #[]⟩
noncomputable def o470 (P : Params) : Obj := mkG (.type "function") none 36 24 "readline" "BytesIO.readline" 3 [] 0 (.ref 463) (.none) (.none) (.str "io" 611) none (.ref 469) (.none) #[]
noncomputable def o471 (P : Params) : Obj := ⟨.type "tuple", none, .seq #[.none] 0, #[]⟩
noncomputable def o472 (P : Params) : Obj := ⟨.type "tuple", none, .seq #[] 0, #[]⟩
noncomputable def o473 (P : Params) : Obj := ⟨.none, none, .fields #[], #[]⟩
noncomputable def o474 (P : Params) : Obj := ⟨.type "tuple", none, .seq #[.str "self" 930, .str "size" 931] 0, #[]⟩
noncomputable def o475 (P : Params) : Obj := ⟨.type "tuple", none, .seq #[] 0, #[]⟩
noncomputable def o476 (P : Params) : Obj := mkG (.none) none 36 25 "readlines" "BytesIO.readlines" 0 [] 0 (.none) (.none) (.none) (.none) none (.none) (.none) #[]
noncomputable def o477 (P : Params) : Obj := ⟨.type "code", none, .fields #[.str "readlines" 927, .str "BytesIO.readlines" 928, .str "/claim/cut.py" 929, .int (329) 0, .int (2) 0, .int (2) 0, .int (0) 0, .int (3) 0, .ref 472, .bool true, .int (318) 0, .ref 473, .none, .ref 474, .ref 475, .ref 476, .int (932) 0, .int (329) 0, .str "/claim/cut.py" 933], #[]⟩
noncomputable def o478 (P : Params) : Obj := mkG (.type "function") none 36 25 "readlines" "BytesIO.readlines" 3 [] 0 (.ref 471) (.none) (.none) (.str "io" 611) none (.ref 477) (.none) #[]
noncomputable def o479 (P : Params) : Obj := ⟨.type "tuple", none, .seq #[] 0, #[]⟩
noncomputable def o480 (P : Params) : Obj := ⟨.none, none, .fields #[], #[]⟩
noncomputable def o481 (P : Params) : Obj := ⟨.type "tuple", none, .seq #[.str "self" 938] 0, #[]⟩
noncomputable def o482 (P : Params) : Obj := ⟨.type "tuple", none, .seq #[] 0, #[]⟩
noncomputable def o483 (P : Params) : Obj := mkG (.none) none 36 26 "__iter__" "BytesIO.__iter__" 0 [] 0 (.none) (.none) (.none) (.none) none (.none) (.none) #[]
noncomputable def o484 (P : Params) : Obj := ⟨.type "code", none, .fields #[.str "__iter__" 935, .str "BytesIO.__iter__" 936, .str "/claim/cut.py" 937, .int (332) 0, .int (1) 0, .int (0) 0, .int (0) 0, .int (3) 0, .ref 479, .bool true, .int (318) 0, .ref 480, .none, .ref 481, .ref 482, .ref 483, .int (939) 0, .int (332) 0, .str "/claim/cut.py" 940], #[]⟩
noncomputable def o485 (P : Params) : Obj := mkG (.type "function") none 36 26 "__iter__" "BytesIO.__iter__" 3 [] 0 (.none) (.none) (.none) (.str "io" 611) none (.ref 484) (.none) #[]
noncomputable def o486 (P : Params) : Obj := ⟨.type "tuple", none, .seq #[] 0, #[]⟩
noncomputable def o487 (P : Params) : Obj := ⟨.none, none, .fields #[], #[]⟩
noncomputable def o488 (P : Params) : Obj := ⟨.type "tuple", none, .seq #[.str "self" 945, .str "line" 946] 0, #[]⟩
noncomputable def o489 (P : Params) : Obj := ⟨.type "tuple", none, .seq #[] 0, #[]⟩
noncomputable def o490 (P : Params) : Obj := mkG (.none) none 36 27 "__next__" "BytesIO.__next__" 0 [] 0 (.none) (.none) (.none) (.none) none (.none) (.none) #[]
noncomputable def o491 (P : Params) : Obj := ⟨.type "code", none, .fields #[.str "__next__" 942, .str "BytesIO.__next__" 943, .str "/claim/cut.py" 944, .int (335) 0, .int (1) 0, .int (0) 0, .int (0) 0, .int (3) 0, .ref 486, .bool true, .int (318) 0, .ref 487, .none, .ref 488, .ref 489, .ref 490, .int (947) 0, .int (335) 0, .str "/claim/cut.py" 948], #[]⟩
noncomputable def o492 (P : Params) : Obj := mkG (.type "function") none 36 27 "__next__" "BytesIO.__next__" 3 [] 0 (.none) (.none) (.none) (.str "io" 611) none (.ref 491) (.none) #[]
noncomputable def o493 (P : Params) : Obj := ⟨.type "tuple", none, .seq #[] 0, #[]⟩
noncomputable def o494 (P : Params) : Obj := ⟨.none, none, .fields #[], #[]⟩
noncomputable def o495 (P : Params) : Obj := ⟨.type "tuple", none, .seq #[.str "self" 953, .str "b" 954, .str "n" 955, .str "start" 956] 0, #[]⟩
noncomputable def o496 (P : Params) : Obj := ⟨.type "tuple", none, .seq #[] 0, #[]⟩
noncomputable def o497 (P : Params) : Obj := mkG (.none) none 36 28 "write" "BytesIO.write" 0 [] 0 (.none) (.none) (.none) (.none) none (.none) (.none) #[]
noncomputable def o498 (P : Params) : Obj := ⟨.type "code", none, .fields #[.str "write" 950, .str "BytesIO.write" 951, .str "/claim/cut.py" 952, .int (342) 0, .int (2) 0, .int (2) 0, .int (0) 0, .int (3) 0, .ref 493, .bool true, .int (318) 0, .ref 494, .none, .ref 495, .ref 496, .ref 497, .int (957) 0, .int (342) 0, .str "/claim/cut.py" 958], #[]⟩
noncomputable def o499 (P : Params) : Obj := mkG (.type "function") none 36 28 "write" "BytesIO.write" 3 [] 0 (.none) (.none) (.none) (.str "io" 611) none (.ref 498) (.none) #[]
noncomputable def o500 (P : Params) : Obj := ⟨.type "tuple", none, .seq #[] 0, #[]⟩
noncomputable def o501 (P : Params) : Obj := ⟨.none, none, .fields #[], #[]⟩
noncomputable def o502 (P : Params) : Obj := ⟨.type "tuple", none, .seq #[.str "self" 963, .str "lines" 964] 0, #[]⟩
noncomputable def o503 (P : Params) : Obj := ⟨.type "tuple", none, .seq #[] 0, #[]⟩
noncomputable def o504 (P : Params) : Obj := mkG (.none) none 36 29 "writelines" "BytesIO.writelines" 0 [] 0 (.none) (.none) (.none) (.none) none (.none) (.none) #[]
noncomputable def o505 (P : Params) : Obj := ⟨.type "code", none, .fields #[.str "writelines" 960, .str "BytesIO.writelines" 961, .str "/claim/cut.py" 962, .int (358) 0, .int (2) 0, .int (2) 0, .int (0) 0, .int (3) 0, .ref 500, .bool true, .int (318) 0, .ref 501, .none, .ref 502, .ref 503, .ref 504, .int (965) 0, .int (358) 0, .str "/claim/cut.py" 966], #[]⟩
noncomputable def o506 (P : Params) : Obj := mkG (.type "function") none 36 29 "writelines" "BytesIO.writelines" 3 [] 0 (.none) (.none) (.none) (.str "io" 611) none (.ref 505) (.none) #[]
noncomputable def o507 (P : Params) : Obj := ⟨.type "tuple", none, .seq #[] 0, #[]⟩
noncomputable def o508 (P : Params) : Obj := ⟨.none, none, .fields #[], #[]⟩
noncomputable def o509 (P : Params) : Obj := ⟨.type "tuple", none, .seq #[.str "self" 971] 0, #[]⟩
noncomputable def o510 (P : Params) : Obj := ⟨.type "tuple", none, .seq #[] 0, #[]⟩
noncomputable def o511 (P : Params) : Obj := mkG (.none) none 36 30 "__repr__" "BytesIO.__repr__" 0 [] 0 (.none) (.none) (.none) (.none) none (.none) (.none) #[]
noncomputable def o512 (P : Params) : Obj := ⟨.type "code", none, .fields #[.str "__repr__" 968, .str "BytesIO.__repr__" 969, .str "/claim/cut.py" 970, .int (361) 0, .int (1) 0, .int (0) 0, .int (0) 0, .int (3) 0, .ref 507, .bool true, .int (318) 0, .ref 508, .none, .ref 509, .ref 510, .ref 511, .int (972) 0, .int (361) 0, .str "/claim/cut.py" 973], #[]⟩
noncomputable def o513 (P : Params) : Obj := mkG (.type "function") none 36 30 "__repr__" "BytesIO.__repr__" 3 [] 0 (.none) (.none) (.none) (.str "io" 611) none (.ref 512) (.none) #[]
noncomputable def o514 (P : Params) : Obj := ⟨.type "tuple", none, .seq #[.str "__buf" 975, .str "__pos" 976] 0, #[]⟩
noncomputable def o515 (P : Params) : Obj := ⟨.type "dict", none, .dict #[en P "__module__" 726 (.str "_io" 731), en P "__firstlineno__" 730 (.int (193) 729), en P "__init__" 740 (.ref 303), en P "_BytesIO__check" 747 (.ref 310), en P "_BytesIO__line" 758 (.ref 317), en P "closed" 766 (.ref 325), en P "close" 773 (.ref 332), en P "__enter__" 780 (.ref 339), en P "__exit__" 788 (.ref 346), en P "readable" 795 (.ref 353), en P "writable" 802 (.ref 360), en P "seekable" 809 (.ref 367), en P "isatty" 816 (.ref 374), en P "flush" 823 (.ref 381), en P "fileno" 830 (.ref 388), en P "detach" 837 (.ref 395), en P "getvalue" 844 (.ref 402), en P "getbuffer" 851 (.ref 409), en P "tell" 858 (.ref 416), en P "seek" 868 (.ref 424), en P "truncate" 876 (.ref 432), en P "read" 888 (.ref 440), en P "read1" 898 (.ref 448), en P "readinto" 908 (.ref 455), en P "readinto1" 916 (.ref 462), en P "readline" 926 (.ref 470), en P "readlines" 934 (.ref 478), en P "__iter__" 941 (.ref 485), en P "__next__" 949 (.ref 492), en P "write" 959 (.ref 499), en P "writelines" 967 (.ref 506), en P "__repr__" 974 (.ref 513), en P "__static_attributes__" 977 (.ref 514), en P "__doc__" 978 (.none)] 2, #[]⟩
noncomputable def o516 (P : Params) : Obj := ⟨.type "type", none, .cls ⟨"BytesIO", [.ref 274], [.ref 516, .ref 274, .ref 259, .type "object"], 515, "BytesIO", true, [], [], false, none, false⟩, #[some (.ref 289), none, some (.str "BytesIO" 719), some (.str "BytesIO" 727), some (.none), some (.bool true)]⟩
noncomputable def o517 (P : Params) : Obj := ⟨.type "super", none, .fields #[.ref 516, .ref 516, .ref 516], #[]⟩
noncomputable def o518 (P : Params) : Obj := ⟨.type "builtin_function_or_method", none, .fields #[.builtin "object.__init_subclass__", .ref 516], #[]⟩
noncomputable def o519 (P : Params) : Obj := ⟨.type "tuple", none, .seq #[.ref 286] 0, #[]⟩
noncomputable def o520 (P : Params) : Obj := ⟨.type "builtin_function_or_method", none, .fields #[.builtin "type.__prepare__", .type "type"], #[]⟩
noncomputable def o521 (P : Params) : Obj := ⟨.type "dict", none, .dict #[en P "__module__" 988 (.str "_io" 993), en P "__qualname__" 990 (.str "StringIO" 989), en P "__firstlineno__" 992 (.int (363) 991), en P "__init__" 1005 (.ref 533), en P "_StringIO__translated" 1014 (.ref 540), en P "_StringIO__check" 1021 (.ref 547), en P "_StringIO__check_dot" 1028 (.ref 554), en P "_StringIO__line" 1043 (.ref 561), en P "closed" 1051 (.ref 569), en P "line_buffering" 1059 (.ref 577), en P "newlines" 1067 (.ref 585), en P "encoding" 1075 (.ref 593), en P "errors" 1083 (.ref 601), en P "close" 1090 (.ref 608), en P "__enter__" 1097 (.ref 615), en P "__exit__" 1105 (.ref 622), en P "readable" 1112 (.ref 629), en P "writable" 1119 (.ref 636), en P "seekable" 1126 (.ref 643), en P "isatty" 1133 (.ref 650), en P "flush" 1140 (.ref 657), en P "fileno" 1147 (.ref 664), en P "detach" 1154 (.ref 671), en P "getvalue" 1161 (.ref 678), en P "tell" 1168 (.ref 685), en P "seek" 1178 (.ref 693), en P "truncate" 1186 (.ref 701), en P "read" 1198 (.ref 709), en P "readline" 1208 (.ref 717), en P "readlines" 1218 (.ref 725), en P "__iter__" 1225 (.ref 732), en P "__next__" 1233 (.ref 739), en P "write" 1245 (.ref 746), en P "writelines" 1253 (.ref 753), en P "__repr__" 1260 (.ref 760), en P "__static_attributes__" 1264 (.ref 761)] 36, #[]⟩
noncomputable def o522 (P : Params) : Obj := ⟨.type "tuple", none, .seq #[] 0, #[]⟩
noncomputable def o523 (P : Params) : Obj := ⟨.none, none, .fields #[.int (366) 0, .int (4) 0, .ref 532, .int (379) 0, .int (4) 0, .ref 539, .int (387) 0, .int (4) 0, .ref 546, .int (391) 0, .int (4) 0, .ref 553, .int (395) 0, .int (4) 0, .ref 560, .int (428) 0, .int (4) 0, .ref 567, .int (432) 0, .int (4) 0, .ref 575, .int (436) 0, .int (4) 0, .ref 583, .int (440) 0, .int (4) 0, .ref 591, .int (444) 0, .int (4) 0, .ref 599, .int (447) 0, .int (4) 0, .ref 607, .int (450) 0, .int (4) 0, .ref 614, .int (454) 0, .int (4) 0, .ref 621, .int (457) 0, .int (4) 0, .ref 628, .int (461) 0, .int (4) 0, .ref 635, .int (465) 0, .int (4) 0, .ref 642, .int (469) 0, .int (4) 0, .ref 649, .int (473) 0, .int (4) 0, .ref 656, .int (476) 0, .int (4) 0, .ref 663, .int (479) 0, .int (4) 0, .ref 670, .int (482) 0, .int (4) 0, .ref 677, .int (485) 0, .int (4) 0, .ref 684, .int (489) 0, .int (4) 0, .ref 692, .int (506) 0, .int (4) 0, .ref 700, .int (509) 0, .int (4) 0, .ref 708, .int (523) 0, .int (4) 0, .ref 716, .int (530) 0, .int (4) 0, .ref 724, .int (533) 0, .int (4) 0, .ref 731, .int (537) 0, .int (4) 0, .ref 738, .int (544) 0, .int (4) 0, .ref 745, .int (563) 0, .int (4) 0, .ref 752, .int (566) 0, .int (4) 0, .ref 759], #[]⟩
noncomputable def o524 (P : Params) : Obj := ⟨.type "code", none, .fields #[.str "StringIO" 983, .str "StringIO" 984, .str "/claim/cut.py" 985, .int (363) 0, .int (0) 0, .int (0) 0, .int (0) 0, .int (0) 0, .ref 522, .bool false, .int (318) 0, .ref 523, .none, .none, .none, .none, .int (986) 0, .int (363) 0, .str "/claim/cut.py" 987], #[]⟩
noncomputable def o525 (P : Params) : Obj := ⟨.type "frame", none, .plain, #[some (.ref 524), some (.ref 3), some (.ref 521), none, some (.str "io" 611), none, some (.ref 0)]⟩
noncomputable def o526 (P : Params) : Obj := ⟨.type "tuple", none, .seq #[.str "" 995, .str (Str.mk #[10]) 996] 0, #[]⟩
noncomputable def o527 (P : Params) : Obj := ⟨.type "tuple", none, .seq #[] 0, #[]⟩
noncomputable def o528 (P : Params) : Obj := ⟨.none, none, .fields #[], #[]⟩
noncomputable def o529 (P : Params) : Obj := ⟨.type "tuple", none, .seq #[.str "self" 1000, .str "initial_value" 1001, .str "newline" 1002] 0, #[]⟩
noncomputable def o530 (P : Params) : Obj := ⟨.type "tuple", none, .seq #[] 0, #[]⟩
noncomputable def o531 (P : Params) : Obj := mkG (.none) none 37 1 "__init__" "StringIO.__init__" 0 [] 0 (.none) (.none) (.none) (.none) none (.none) (.none) #[]
noncomputable def o532 (P : Params) : Obj := ⟨.type "code", none, .fields #[.str "__init__" 997, .str "StringIO.__init__" 998, .str "/claim/cut.py" 999, .int (366) 0, .int (3) 0, .int (0) 0, .int (0) 0, .int (3) 0, .ref 527, .bool true, .int (318) 0, .ref 528, .none, .ref 529, .ref 530, .ref 531, .int (1003) 0, .int (366) 0, .str "/claim/cut.py" 1004], #[]⟩
noncomputable def o533 (P : Params) : Obj := mkG (.type "function") none 37 1 "__init__" "StringIO.__init__" 3 [] 0 (.ref 526) (.none) (.none) (.str "io" 611) none (.ref 532) (.none) #[]
noncomputable def o534 (P : Params) : Obj := ⟨.type "tuple", none, .seq #[] 0, #[]⟩
noncomputable def o535 (P : Params) : Obj := ⟨.none, none, .fields #[], #[]⟩
noncomputable def o536 (P : Params) : Obj := ⟨.type "tuple", none, .seq #[.str "self" 1009, .str "s" 1010, .str "newline" 1011] 0, #[]⟩
noncomputable def o537 (P : Params) : Obj := ⟨.type "tuple", none, .seq #[] 0, #[]⟩
noncomputable def o538 (P : Params) : Obj := mkG (.none) none 37 2 "__translated" "StringIO.__translated" 0 [] 0 (.none) (.none) (.none) (.none) none (.none) (.none) #[]
noncomputable def o539 (P : Params) : Obj := ⟨.type "code", none, .fields #[.str "__translated" 1006, .str "StringIO.__translated" 1007, .str "/claim/cut.py" 1008, .int (379) 0, .int (2) 0, .int (0) 0, .int (0) 0, .int (3) 0, .ref 534, .bool true, .int (318) 0, .ref 535, .none, .ref 536, .ref 537, .ref 538, .int (1012) 0, .int (379) 0, .str "/claim/cut.py" 1013], #[]⟩
noncomputable def o540 (P : Params) : Obj := mkG (.type "function") none 37 2 "__translated" "StringIO.__translated" 3 [] 0 (.none) (.none) (.none) (.str "io" 611) none (.ref 539) (.none) #[]
noncomputable def o541 (P : Params) : Obj := ⟨.type "tuple", none, .seq #[] 0, #[]⟩
noncomputable def o542 (P : Params) : Obj := ⟨.none, none, .fields #[], #[]⟩
noncomputable def o543 (P : Params) : Obj := ⟨.type "tuple", none, .seq #[.str "self" 1018] 0, #[]⟩
noncomputable def o544 (P : Params) : Obj := ⟨.type "tuple", none, .seq #[] 0, #[]⟩
noncomputable def o545 (P : Params) : Obj := mkG (.none) none 37 3 "__check" "StringIO.__check" 0 [] 0 (.none) (.none) (.none) (.none) none (.none) (.none) #[]
noncomputable def o546 (P : Params) : Obj := ⟨.type "code", none, .fields #[.str "__check" 1015, .str "StringIO.__check" 1016, .str "/claim/cut.py" 1017, .int (387) 0, .int (1) 0, .int (0) 0, .int (0) 0, .int (3) 0, .ref 541, .bool true, .int (318) 0, .ref 542, .none, .ref 543, .ref 544, .ref 545, .int (1019) 0, .int (387) 0, .str "/claim/cut.py" 1020], #[]⟩
noncomputable def o547 (P : Params) : Obj := mkG (.type "function") none 37 3 "__check" "StringIO.__check" 3 [] 0 (.none) (.none) (.none) (.str "io" 611) none (.ref 546) (.none) #[]
noncomputable def o548 (P : Params) : Obj := ⟨.type "tuple", none, .seq #[] 0, #[]⟩
noncomputable def o549 (P : Params) : Obj := ⟨.none, none, .fields #[], #[]⟩
noncomputable def o550 (P : Params) : Obj := ⟨.type "tuple", none, .seq #[.str "self" 1025] 0, #[]⟩
noncomputable def o551 (P : Params) : Obj := ⟨.type "tuple", none, .seq #[] 0, #[]⟩
noncomputable def o552 (P : Params) : Obj := mkG (.none) none 37 4 "__check_dot" "StringIO.__check_dot" 0 [] 0 (.none) (.none) (.none) (.none) none (.none) (.none) #[]
noncomputable def o553 (P : Params) : Obj := ⟨.type "code", none, .fields #[.str "__check_dot" 1022, .str "StringIO.__check_dot" 1023, .str "/claim/cut.py" 1024, .int (391) 0, .int (1) 0, .int (0) 0, .int (0) 0, .int (3) 0, .ref 548, .bool true, .int (318) 0, .ref 549, .none, .ref 550, .ref 551, .ref 552, .int (1026) 0, .int (391) 0, .str "/claim/cut.py" 1027], #[]⟩
noncomputable def o554 (P : Params) : Obj := mkG (.type "function") none 37 4 "__check_dot" "StringIO.__check_dot" 3 [] 0 (.none) (.none) (.none) (.str "io" 611) none (.ref 553) (.none) #[]
noncomputable def o555 (P : Params) : Obj := ⟨.type "tuple", none, .seq #[] 0, #[]⟩
noncomputable def o556 (P : Params) : Obj := ⟨.none, none, .fields #[], #[]⟩
noncomputable def o557 (P : Params) : Obj := ⟨.type "tuple", none, .seq #[.str "self" 1032, .str "limit" 1033, .str "start" 1034, .str "stop" 1035, .str "cut" 1036, .str "newline" 1037, .str "i" 1038, .str "j" 1039, .str "end" 1040] 0, #[]⟩
noncomputable def o558 (P : Params) : Obj := ⟨.type "tuple", none, .seq #[] 0, #[]⟩
noncomputable def o559 (P : Params) : Obj := mkG (.none) none 37 5 "__line" "StringIO.__line" 0 [] 0 (.none) (.none) (.none) (.none) none (.none) (.none) #[]
noncomputable def o560 (P : Params) : Obj := ⟨.type "code", none, .fields #[.str "__line" 1029, .str "StringIO.__line" 1030, .str "/claim/cut.py" 1031, .int (395) 0, .int (2) 0, .int (0) 0, .int (0) 0, .int (3) 0, .ref 555, .bool true, .int (318) 0, .ref 556, .none, .ref 557, .ref 558, .ref 559, .int (1041) 0, .int (395) 0, .str "/claim/cut.py" 1042], #[]⟩
noncomputable def o561 (P : Params) : Obj := mkG (.type "function") none 37 5 "__line" "StringIO.__line" 3 [] 0 (.none) (.none) (.none) (.str "io" 611) none (.ref 560) (.none) #[]
noncomputable def o562 (P : Params) : Obj := ⟨.type "tuple", none, .seq #[] 0, #[]⟩
noncomputable def o563 (P : Params) : Obj := ⟨.none, none, .fields #[], #[]⟩
noncomputable def o564 (P : Params) : Obj := ⟨.type "tuple", none, .seq #[.str "self" 1047] 0, #[]⟩
noncomputable def o565 (P : Params) : Obj := ⟨.type "tuple", none, .seq #[] 0, #[]⟩
noncomputable def o566 (P : Params) : Obj := mkG (.none) none 37 6 "closed" "StringIO.closed" 0 [] 0 (.none) (.none) (.none) (.none) none (.none) (.none) #[]
noncomputable def o567 (P : Params) : Obj := ⟨.type "code", none, .fields #[.str "closed" 1044, .str "StringIO.closed" 1045, .str "/claim/cut.py" 1046, .int (427) 0, .int (1) 0, .int (0) 0, .int (0) 0, .int (3) 0, .ref 562, .bool true, .int (318) 0, .ref 563, .none, .ref 564, .ref 565, .ref 566, .int (1048) 0, .int (427) 0, .str "/claim/cut.py" 1049], #[]⟩
noncomputable def o568 (P : Params) : Obj := mkG (.type "function") none 37 6 "closed" "StringIO.closed" 3 [] 0 (.none) (.none) (.none) (.str "io" 611) none (.ref 567) (.none) #[]
noncomputable def o569 (P : Params) : Obj := ⟨.type "property", none, .fields #[.ref 568, .none, .none, .none, .str "closed" 1051, .bool false], #[]⟩
noncomputable def o570 (P : Params) : Obj := ⟨.type "tuple", none, .seq #[] 0, #[]⟩
noncomputable def o571 (P : Params) : Obj := ⟨.none, none, .fields #[], #[]⟩
noncomputable def o572 (P : Params) : Obj := ⟨.type "tuple", none, .seq #[.str "self" 1055] 0, #[]⟩
noncomputable def o573 (P : Params) : Obj := ⟨.type "tuple", none, .seq #[] 0, #[]⟩
noncomputable def o574 (P : Params) : Obj := mkG (.none) none 37 7 "line_buffering" "StringIO.line_buffering" 0 [] 0 (.none) (.none) (.none) (.none) none (.none) (.none) #[]
noncomputable def o575 (P : Params) : Obj := ⟨.type "code", none, .fields #[.str "line_buffering" 1052, .str "StringIO.line_buffering" 1053, .str "/claim/cut.py" 1054, .int (431) 0, .int (1) 0, .int (0) 0, .int (0) 0, .int (3) 0, .ref 570, .bool true, .int (318) 0, .ref 571, .none, .ref 572, .ref 573, .ref 574, .int (1056) 0, .int (431) 0, .str "/claim/cut.py" 1057], #[]⟩
noncomputable def o576 (P : Params) : Obj := mkG (.type "function") none 37 7 "line_buffering" "StringIO.line_buffering" 3 [] 0 (.none) (.none) (.none) (.str "io" 611) none (.ref 575) (.none) #[]
noncomputable def o577 (P : Params) : Obj := ⟨.type "property", none, .fields #[.ref 576, .none, .none, .none, .str "line_buffering" 1059, .bool false], #[]⟩
noncomputable def o578 (P : Params) : Obj := ⟨.type "tuple", none, .seq #[] 0, #[]⟩
noncomputable def o579 (P : Params) : Obj := ⟨.none, none, .fields #[], #[]⟩
noncomputable def o580 (P : Params) : Obj := ⟨.type "tuple", none, .seq #[.str "self" 1063] 0, #[]⟩
noncomputable def o581 (P : Params) : Obj := ⟨.type "tuple", none, .seq #[] 0, #[]⟩
noncomputable def o582 (P : Params) : Obj := mkG (.none) none 37 8 "newlines" "StringIO.newlines" 0 [] 0 (.none) (.none) (.none) (.none) none (.none) (.none) #[]
noncomputable def o583 (P : Params) : Obj := ⟨.type "code", none, .fields #[.str "newlines" 1060, .str "StringIO.newlines" 1061, .str "/claim/cut.py" 1062, .int (435) 0, .int (1) 0, .int (0) 0, .int (0) 0, .int (3) 0, .ref 578, .bool true, .int (318) 0, .ref 579, .none, .ref 580, .ref 581, .ref 582, .int (1064) 0, .int (435) 0, .str "/claim/cut.py" 1065], #[]⟩
noncomputable def o584 (P : Params) : Obj := mkG (.type "function") none 37 8 "newlines" "StringIO.newlines" 3 [] 0 (.none) (.none) (.none) (.str "io" 611) none (.ref 583) (.none) #[]
noncomputable def o585 (P : Params) : Obj := ⟨.type "property", none, .fields #[.ref 584, .none, .none, .none, .str "newlines" 1067, .bool false], #[]⟩
noncomputable def o586 (P : Params) : Obj := ⟨.type "tuple", none, .seq #[] 0, #[]⟩
noncomputable def o587 (P : Params) : Obj := ⟨.none, none, .fields #[], #[]⟩
noncomputable def o588 (P : Params) : Obj := ⟨.type "tuple", none, .seq #[.str "self" 1071] 0, #[]⟩
noncomputable def o589 (P : Params) : Obj := ⟨.type "tuple", none, .seq #[] 0, #[]⟩
noncomputable def o590 (P : Params) : Obj := mkG (.none) none 37 9 "encoding" "StringIO.encoding" 0 [] 0 (.none) (.none) (.none) (.none) none (.none) (.none) #[]
noncomputable def o591 (P : Params) : Obj := ⟨.type "code", none, .fields #[.str "encoding" 1068, .str "StringIO.encoding" 1069, .str "/claim/cut.py" 1070, .int (439) 0, .int (1) 0, .int (0) 0, .int (0) 0, .int (3) 0, .ref 586, .bool true, .int (318) 0, .ref 587, .none, .ref 588, .ref 589, .ref 590, .int (1072) 0, .int (439) 0, .str "/claim/cut.py" 1073], #[]⟩
noncomputable def o592 (P : Params) : Obj := mkG (.type "function") none 37 9 "encoding" "StringIO.encoding" 3 [] 0 (.none) (.none) (.none) (.str "io" 611) none (.ref 591) (.none) #[]
noncomputable def o593 (P : Params) : Obj := ⟨.type "property", none, .fields #[.ref 592, .none, .none, .none, .str "encoding" 1075, .bool false], #[]⟩
noncomputable def o594 (P : Params) : Obj := ⟨.type "tuple", none, .seq #[] 0, #[]⟩
noncomputable def o595 (P : Params) : Obj := ⟨.none, none, .fields #[], #[]⟩
noncomputable def o596 (P : Params) : Obj := ⟨.type "tuple", none, .seq #[.str "self" 1079] 0, #[]⟩
noncomputable def o597 (P : Params) : Obj := ⟨.type "tuple", none, .seq #[] 0, #[]⟩
noncomputable def o598 (P : Params) : Obj := mkG (.none) none 37 10 "errors" "StringIO.errors" 0 [] 0 (.none) (.none) (.none) (.none) none (.none) (.none) #[]
noncomputable def o599 (P : Params) : Obj := ⟨.type "code", none, .fields #[.str "errors" 1076, .str "StringIO.errors" 1077, .str "/claim/cut.py" 1078, .int (443) 0, .int (1) 0, .int (0) 0, .int (0) 0, .int (3) 0, .ref 594, .bool true, .int (318) 0, .ref 595, .none, .ref 596, .ref 597, .ref 598, .int (1080) 0, .int (443) 0, .str "/claim/cut.py" 1081], #[]⟩
noncomputable def o600 (P : Params) : Obj := mkG (.type "function") none 37 10 "errors" "StringIO.errors" 3 [] 0 (.none) (.none) (.none) (.str "io" 611) none (.ref 599) (.none) #[]
noncomputable def o601 (P : Params) : Obj := ⟨.type "property", none, .fields #[.ref 600, .none, .none, .none, .str "errors" 1083, .bool false], #[]⟩
noncomputable def o602 (P : Params) : Obj := ⟨.type "tuple", none, .seq #[] 0, #[]⟩
noncomputable def o603 (P : Params) : Obj := ⟨.none, none, .fields #[], #[]⟩
noncomputable def o604 (P : Params) : Obj := ⟨.type "tuple", none, .seq #[.str "self" 1087] 0, #[]⟩
noncomputable def o605 (P : Params) : Obj := ⟨.type "tuple", none, .seq #[] 0, #[]⟩
noncomputable def o606 (P : Params) : Obj := mkG (.none) none 37 11 "close" "StringIO.close" 0 [] 0 (.none) (.none) (.none) (.none) none (.none) (.none) #[]
noncomputable def o607 (P : Params) : Obj := ⟨.type "code", none, .fields #[.str "close" 1084, .str "StringIO.close" 1085, .str "/claim/cut.py" 1086, .int (447) 0, .int (1) 0, .int (0) 0, .int (0) 0, .int (3) 0, .ref 602, .bool true, .int (318) 0, .ref 603, .none, .ref 604, .ref 605, .ref 606, .int (1088) 0, .int (447) 0, .str "/claim/cut.py" 1089], #[]⟩
noncomputable def o608 (P : Params) : Obj := mkG (.type "function") none 37 11 "close" "StringIO.close" 3 [] 0 (.none) (.none) (.none) (.str "io" 611) none (.ref 607) (.none) #[]
noncomputable def o609 (P : Params) : Obj := ⟨.type "tuple", none, .seq #[] 0, #[]⟩
noncomputable def o610 (P : Params) : Obj := ⟨.none, none, .fields #[], #[]⟩
noncomputable def o611 (P : Params) : Obj := ⟨.type "tuple", none, .seq #[.str "self" 1094] 0, #[]⟩
noncomputable def o612 (P : Params) : Obj := ⟨.type "tuple", none, .seq #[] 0, #[]⟩
noncomputable def o613 (P : Params) : Obj := mkG (.none) none 37 12 "__enter__" "StringIO.__enter__" 0 [] 0 (.none) (.none) (.none) (.none) none (.none) (.none) #[]
noncomputable def o614 (P : Params) : Obj := ⟨.type "code", none, .fields #[.str "__enter__" 1091, .str "StringIO.__enter__" 1092, .str "/claim/cut.py" 1093, .int (450) 0, .int (1) 0, .int (0) 0, .int (0) 0, .int (3) 0, .ref 609, .bool true, .int (318) 0, .ref 610, .none, .ref 611, .ref 612, .ref 613, .int (1095) 0, .int (450) 0, .str "/claim/cut.py" 1096], #[]⟩
noncomputable def o615 (P : Params) : Obj := mkG (.type "function") none 37 12 "__enter__" "StringIO.__enter__" 3 [] 0 (.none) (.none) (.none) (.str "io" 611) none (.ref 614) (.none) #[]
noncomputable def o616 (P : Params) : Obj := ⟨.type "tuple", none, .seq #[] 0, #[]⟩
noncomputable def o617 (P : Params) : Obj := ⟨.none, none, .fields #[], #[]⟩
noncomputable def o618 (P : Params) : Obj := ⟨.type "tuple", none, .seq #[.str "self" 1101, .str "args" 1102] 0, #[]⟩
noncomputable def o619 (P : Params) : Obj := ⟨.type "tuple", none, .seq #[] 0, #[]⟩
noncomputable def o620 (P : Params) : Obj := mkG (.none) none 37 13 "__exit__" "StringIO.__exit__" 0 [] 0 (.none) (.none) (.none) (.none) none (.none) (.none) #[]
noncomputable def o621 (P : Params) : Obj := ⟨.type "code", none, .fields #[.str "__exit__" 1098, .str "StringIO.__exit__" 1099, .str "/claim/cut.py" 1100, .int (454) 0, .int (1) 0, .int (0) 0, .int (0) 0, .int (7) 0, .ref 616, .bool true, .int (318) 0, .ref 617, .none, .ref 618, .ref 619, .ref 620, .int (1103) 0, .int (454) 0, .str "/claim/cut.py" 1104], #[]⟩
noncomputable def o622 (P : Params) : Obj := mkG (.type "function") none 37 13 "__exit__" "StringIO.__exit__" 3 [] 0 (.none) (.none) (.none) (.str "io" 611) none (.ref 621) (.none) #[]
noncomputable def o623 (P : Params) : Obj := ⟨.type "tuple", none, .seq #[] 0, #[]⟩
noncomputable def o624 (P : Params) : Obj := ⟨.none, none, .fields #[], #[]⟩
noncomputable def o625 (P : Params) : Obj := ⟨.type "tuple", none, .seq #[.str "self" 1109] 0, #[]⟩
noncomputable def o626 (P : Params) : Obj := ⟨.type "tuple", none, .seq #[] 0, #[]⟩
noncomputable def o627 (P : Params) : Obj := mkG (.none) none 37 14 "readable" "StringIO.readable" 0 [] 0 (.none) (.none) (.none) (.none) none (.none) (.none) #[]
noncomputable def o628 (P : Params) : Obj := ⟨.type "code", none, .fields #[.str "readable" 1106, .str "StringIO.readable" 1107, .str "/claim/cut.py" 1108, .int (457) 0, .int (1) 0, .int (0) 0, .int (0) 0, .int (3) 0, .ref 623, .bool true, .int (318) 0, .ref 624, .none, .ref 625, .ref 626, .ref 627, .int (1110) 0, .int (457) 0, .str "/claim/cut.py" 1111], #[]⟩
noncomputable def o629 (P : Params) : Obj := mkG (.type "function") none 37 14 "readable" "StringIO.readable" 3 [] 0 (.none) (.none) (.none) (.str "io" 611) none (.ref 628) (.none) #[]
noncomputable def o630 (P : Params) : Obj := ⟨.type "tuple", none, .seq #[] 0, #[]⟩
noncomputable def o631 (P : Params) : Obj := ⟨.none, none, .fields #[], #[]⟩
noncomputable def o632 (P : Params) : Obj := ⟨.type "tuple", none, .seq #[.str "self" 1116] 0, #[]⟩
noncomputable def o633 (P : Params) : Obj := ⟨.type "tuple", none, .seq #[] 0, #[]⟩
noncomputable def o634 (P : Params) : Obj := mkG (.none) none 37 15 "writable" "StringIO.writable" 0 [] 0 (.none) (.none) (.none) (.none) none (.none) (.none) #[]
noncomputable def o635 (P : Params) : Obj := ⟨.type "code", none, .fields #[.str "writable" 1113, .str "StringIO.writable" 1114, .str "/claim/cut.py" 1115, .int (461) 0, .int (1) 0, .int (0) 0, .int (0) 0, .int (3) 0, .ref 630, .bool true, .int (318) 0, .ref 631, .none, .ref 632, .ref 633, .ref 634, .int (1117) 0, .int (461) 0, .str "/claim/cut.py" 1118], #[]⟩
noncomputable def o636 (P : Params) : Obj := mkG (.type "function") none 37 15 "writable" "StringIO.writable" 3 [] 0 (.none) (.none) (.none) (.str "io" 611) none (.ref 635) (.none) #[]
noncomputable def o637 (P : Params) : Obj := ⟨.type "tuple", none, .seq #[] 0, #[]⟩
noncomputable def o638 (P : Params) : Obj := ⟨.none, none, .fields #[], #[]⟩
noncomputable def o639 (P : Params) : Obj := ⟨.type "tuple", none, .seq #[.str "self" 1123] 0, #[]⟩
noncomputable def o640 (P : Params) : Obj := ⟨.type "tuple", none, .seq #[] 0, #[]⟩
noncomputable def o641 (P : Params) : Obj := mkG (.none) none 37 16 "seekable" "StringIO.seekable" 0 [] 0 (.none) (.none) (.none) (.none) none (.none) (.none) #[]
noncomputable def o642 (P : Params) : Obj := ⟨.type "code", none, .fields #[.str "seekable" 1120, .str "StringIO.seekable" 1121, .str "/claim/cut.py" 1122, .int (465) 0, .int (1) 0, .int (0) 0, .int (0) 0, .int (3) 0, .ref 637, .bool true, .int (318) 0, .ref 638, .none, .ref 639, .ref 640, .ref 641, .int (1124) 0, .int (465) 0, .str "/claim/cut.py" 1125], #[]⟩
noncomputable def o643 (P : Params) : Obj := mkG (.type "function") none 37 16 "seekable" "StringIO.seekable" 3 [] 0 (.none) (.none) (.none) (.str "io" 611) none (.ref 642) (.none) #[]
noncomputable def o644 (P : Params) : Obj := ⟨.type "tuple", none, .seq #[] 0, #[]⟩
noncomputable def o645 (P : Params) : Obj := ⟨.none, none, .fields #[], #[]⟩
noncomputable def o646 (P : Params) : Obj := ⟨.type "tuple", none, .seq #[.str "self" 1130] 0, #[]⟩
noncomputable def o647 (P : Params) : Obj := ⟨.type "tuple", none, .seq #[] 0, #[]⟩
noncomputable def o648 (P : Params) : Obj := mkG (.none) none 37 17 "isatty" "StringIO.isatty" 0 [] 0 (.none) (.none) (.none) (.none) none (.none) (.none) #[]
noncomputable def o649 (P : Params) : Obj := ⟨.type "code", none, .fields #[.str "isatty" 1127, .str "StringIO.isatty" 1128, .str "/claim/cut.py" 1129, .int (469) 0, .int (1) 0, .int (0) 0, .int (0) 0, .int (3) 0, .ref 644, .bool true, .int (318) 0, .ref 645, .none, .ref 646, .ref 647, .ref 648, .int (1131) 0, .int (469) 0, .str "/claim/cut.py" 1132], #[]⟩
noncomputable def o650 (P : Params) : Obj := mkG (.type "function") none 37 17 "isatty" "StringIO.isatty" 3 [] 0 (.none) (.none) (.none) (.str "io" 611) none (.ref 649) (.none) #[]
noncomputable def o651 (P : Params) : Obj := ⟨.type "tuple", none, .seq #[] 0, #[]⟩
noncomputable def o652 (P : Params) : Obj := ⟨.none, none, .fields #[], #[]⟩
noncomputable def o653 (P : Params) : Obj := ⟨.type "tuple", none, .seq #[.str "self" 1137] 0, #[]⟩
noncomputable def o654 (P : Params) : Obj := ⟨.type "tuple", none, .seq #[] 0, #[]⟩
noncomputable def o655 (P : Params) : Obj := mkG (.none) none 37 18 "flush" "StringIO.flush" 0 [] 0 (.none) (.none) (.none) (.none) none (.none) (.none) #[]
noncomputable def o656 (P : Params) : Obj := ⟨.type "code", none, .fields #[.str "flush" 1134, .str "StringIO.flush" 1135, .str "/claim/cut.py" 1136, .int (473) 0, .int (1) 0, .int (0) 0, .int (0) 0, .int (3) 0, .ref 651, .bool true, .int (318) 0, .ref 652, .none, .ref 653, .ref 654, .ref 655, .int (1138) 0, .int (473) 0, .str "/claim/cut.py" 1139], #[]⟩
noncomputable def o657 (P : Params) : Obj := mkG (.type "function") none 37 18 "flush" "StringIO.flush" 3 [] 0 (.none) (.none) (.none) (.str "io" 611) none (.ref 656) (.none) #[]
noncomputable def o658 (P : Params) : Obj := ⟨.type "tuple", none, .seq #[] 0, #[]⟩
noncomputable def o659 (P : Params) : Obj := ⟨.none, none, .fields #[], #[]⟩
noncomputable def o660 (P : Params) : Obj := ⟨.type "tuple", none, .seq #[.str "self" 1144] 0, #[]⟩
noncomputable def o661 (P : Params) : Obj := ⟨.type "tuple", none, .seq #[] 0, #[]⟩
noncomputable def o662 (P : Params) : Obj := mkG (.none) none 37 19 "fileno" "StringIO.fileno" 0 [] 0 (.none) (.none) (.none) (.none) none (.none) (.none) #[]
noncomputable def o663 (P : Params) : Obj := ⟨.type "code", none, .fields #[.str "fileno" 1141, .str "StringIO.fileno" 1142, .str "/claim/cut.py" 1143, .int (476) 0, .int (1) 0, .int (0) 0, .int (0) 0, .int (3) 0, .ref 658, .bool true, .int (318) 0, .ref 659, .none, .ref 660, .ref 661, .ref 662, .int (1145) 0, .int (476) 0, .str "/claim/cut.py" 1146], #[]⟩
noncomputable def o664 (P : Params) : Obj := mkG (.type "function") none 37 19 "fileno" "StringIO.fileno" 3 [] 0 (.none) (.none) (.none) (.str "io" 611) none (.ref 663) (.none) #[]
noncomputable def o665 (P : Params) : Obj := ⟨.type "tuple", none, .seq #[] 0, #[]⟩
noncomputable def o666 (P : Params) : Obj := ⟨.none, none, .fields #[], #[]⟩
noncomputable def o667 (P : Params) : Obj := ⟨.type "tuple", none, .seq #[.str "self" 1151] 0, #[]⟩
noncomputable def o668 (P : Params) : Obj := ⟨.type "tuple", none, .seq #[] 0, #[]⟩
noncomputable def o669 (P : Params) : Obj := mkG (.none) none 37 20 "detach" "StringIO.detach" 0 [] 0 (.none) (.none) (.none) (.none) none (.none) (.none) #[]
noncomputable def o670 (P : Params) : Obj := ⟨.type "code", none, .fields #[.str "detach" 1148, .str "StringIO.detach" 1149, .str "/claim/cut.py" 1150, .int (479) 0, .int (1) 0, .int (0) 0, .int (0) 0, .int (3) 0, .ref 665, .bool true, .int (318) 0, .ref 666, .none, .ref 667, .ref 668, .ref 669, .int (1152) 0, .int (479) 0, .str "/claim/cut.py" 1153], #[]⟩
noncomputable def o671 (P : Params) : Obj := mkG (.type "function") none 37 20 "detach" "StringIO.detach" 3 [] 0 (.none) (.none) (.none) (.str "io" 611) none (.ref 670) (.none) #[]
noncomputable def o672 (P : Params) : Obj := ⟨.type "tuple", none, .seq #[] 0, #[]⟩
noncomputable def o673 (P : Params) : Obj := ⟨.none, none, .fields #[], #[]⟩
noncomputable def o674 (P : Params) : Obj := ⟨.type "tuple", none, .seq #[.str "self" 1158] 0, #[]⟩
noncomputable def o675 (P : Params) : Obj := ⟨.type "tuple", none, .seq #[] 0, #[]⟩
noncomputable def o676 (P : Params) : Obj := mkG (.none) none 37 21 "getvalue" "StringIO.getvalue" 0 [] 0 (.none) (.none) (.none) (.none) none (.none) (.none) #[]
noncomputable def o677 (P : Params) : Obj := ⟨.type "code", none, .fields #[.str "getvalue" 1155, .str "StringIO.getvalue" 1156, .str "/claim/cut.py" 1157, .int (482) 0, .int (1) 0, .int (0) 0, .int (0) 0, .int (3) 0, .ref 672, .bool true, .int (318) 0, .ref 673, .none, .ref 674, .ref 675, .ref 676, .int (1159) 0, .int (482) 0, .str "/claim/cut.py" 1160], #[]⟩
noncomputable def o678 (P : Params) : Obj := mkG (.type "function") none 37 21 "getvalue" "StringIO.getvalue" 3 [] 0 (.none) (.none) (.none) (.str "io" 611) none (.ref 677) (.none) #[]
noncomputable def o679 (P : Params) : Obj := ⟨.type "tuple", none, .seq #[] 0, #[]⟩
noncomputable def o680 (P : Params) : Obj := ⟨.none, none, .fields #[], #[]⟩
noncomputable def o681 (P : Params) : Obj := ⟨.type "tuple", none, .seq #[.str "self" 1165] 0, #[]⟩
noncomputable def o682 (P : Params) : Obj := ⟨.type "tuple", none, .seq #[] 0, #[]⟩
noncomputable def o683 (P : Params) : Obj := mkG (.none) none 37 22 "tell" "StringIO.tell" 0 [] 0 (.none) (.none) (.none) (.none) none (.none) (.none) #[]
noncomputable def o684 (P : Params) : Obj := ⟨.type "code", none, .fields #[.str "tell" 1162, .str "StringIO.tell" 1163, .str "/claim/cut.py" 1164, .int (485) 0, .int (1) 0, .int (0) 0, .int (0) 0, .int (3) 0, .ref 679, .bool true, .int (318) 0, .ref 680, .none, .ref 681, .ref 682, .ref 683, .int (1166) 0, .int (485) 0, .str "/claim/cut.py" 1167], #[]⟩
noncomputable def o685 (P : Params) : Obj := mkG (.type "function") none 37 22 "tell" "StringIO.tell" 3 [] 0 (.none) (.none) (.none) (.str "io" 611) none (.ref 684) (.none) #[]
noncomputable def o686 (P : Params) : Obj := ⟨.type "tuple", none, .seq #[.int (0) 1169] 0, #[]⟩
noncomputable def o687 (P : Params) : Obj := ⟨.type "tuple", none, .seq #[] 0, #[]⟩
noncomputable def o688 (P : Params) : Obj := ⟨.none, none, .fields #[], #[]⟩
noncomputable def o689 (P : Params) : Obj := ⟨.type "tuple", none, .seq #[.str "self" 1173, .str "pos" 1174, .str "whence" 1175] 0, #[]⟩
noncomputable def o690 (P : Params) : Obj := ⟨.type "tuple", none, .seq #[] 0, #[]⟩
noncomputable def o691 (P : Params) : Obj := mkG (.none) none 37 23 "seek" "StringIO.seek" 0 [] 0 (.none) (.none) (.none) (.none) none (.none) (.none) #[]
noncomputable def o692 (P : Params) : Obj := ⟨.type "code", none, .fields #[.str "seek" 1170, .str "StringIO.seek" 1171, .str "/claim/cut.py" 1172, .int (489) 0, .int (3) 0, .int (3) 0, .int (0) 0, .int (3) 0, .ref 687, .bool true, .int (318) 0, .ref 688, .none, .ref 689, .ref 690, .ref 691, .int (1176) 0, .int (489) 0, .str "/claim/cut.py" 1177], #[]⟩
noncomputable def o693 (P : Params) : Obj := mkG (.type "function") none 37 23 "seek" "StringIO.seek" 3 [] 0 (.ref 686) (.none) (.none) (.str "io" 611) none (.ref 692) (.none) #[]
noncomputable def o694 (P : Params) : Obj := ⟨.type "tuple", none, .seq #[.none] 0, #[]⟩
noncomputable def o695 (P : Params) : Obj := ⟨.type "tuple", none, .seq #[] 0, #[]⟩
noncomputable def o696 (P : Params) : Obj := ⟨.none, none, .fields #[], #[]⟩
noncomputable def o697 (P : Params) : Obj := ⟨.type "tuple", none, .seq #[.str "self" 1182, .str "pos" 1183] 0, #[]⟩
noncomputable def o698 (P : Params) : Obj := ⟨.type "tuple", none, .seq #[] 0, #[]⟩
noncomputable def o699 (P : Params) : Obj := mkG (.none) none 37 24 "truncate" "StringIO.truncate" 0 [] 0 (.none) (.none) (.none) (.none) none (.none) (.none) #[]
noncomputable def o700 (P : Params) : Obj := ⟨.type "code", none, .fields #[.str "truncate" 1179, .str "StringIO.truncate" 1180, .str "/claim/cut.py" 1181, .int (506) 0, .int (2) 0, .int (2) 0, .int (0) 0, .int (3) 0, .ref 695, .bool true, .int (318) 0, .ref 696, .none, .ref 697, .ref 698, .ref 699, .int (1184) 0, .int (506) 0, .str "/claim/cut.py" 1185], #[]⟩
noncomputable def o701 (P : Params) : Obj := mkG (.type "function") none 37 24 "truncate" "StringIO.truncate" 3 [] 0 (.ref 694) (.none) (.none) (.str "io" 611) none (.ref 700) (.none) #[]
noncomputable def o702 (P : Params) : Obj := ⟨.type "tuple", none, .seq #[.int (-1) 1188] 0, #[]⟩
noncomputable def o703 (P : Params) : Obj := ⟨.type "tuple", none, .seq #[] 0, #[]⟩
noncomputable def o704 (P : Params) : Obj := ⟨.none, none, .fields #[], #[]⟩
noncomputable def o705 (P : Params) : Obj := ⟨.type "tuple", none, .seq #[.str "self" 1192, .str "size" 1193, .str "start" 1194, .str "stop" 1195] 0, #[]⟩
noncomputable def o706 (P : Params) : Obj := ⟨.type "tuple", none, .seq #[] 0, #[]⟩
noncomputable def o707 (P : Params) : Obj := mkG (.none) none 37 25 "read" "StringIO.read" 0 [] 0 (.none) (.none) (.none) (.none) none (.none) (.none) #[]
noncomputable def o708 (P : Params) : Obj := ⟨.type "code", none, .fields #[.str "read" 1189, .str "StringIO.read" 1190, .str "/claim/cut.py" 1191, .int (509) 0, .int (2) 0, .int (2) 0, .int (0) 0, .int (3) 0, .ref 703, .bool true, .int (318) 0, .ref 704, .none, .ref 705, .ref 706, .ref 707, .int (1196) 0, .int (509) 0, .str "/claim/cut.py" 1197], #[]⟩
noncomputable def o709 (P : Params) : Obj := mkG (.type "function") none 37 25 "read" "StringIO.read" 3 [] 0 (.ref 702) (.none) (.none) (.str "io" 611) none (.ref 708) (.none) #[]
noncomputable def o710 (P : Params) : Obj := ⟨.type "tuple", none, .seq #[.int (-1) 1200] 0, #[]⟩
noncomputable def o711 (P : Params) : Obj := ⟨.type "tuple", none, .seq #[] 0, #[]⟩
noncomputable def o712 (P : Params) : Obj := ⟨.none, none, .fields #[], #[]⟩
noncomputable def o713 (P : Params) : Obj := ⟨.type "tuple", none, .seq #[.str "self" 1204, .str "size" 1205] 0, #[]⟩
noncomputable def o714 (P : Params) : Obj := ⟨.type "tuple", none, .seq #[] 0, #[]⟩
noncomputable def o715 (P : Params) : Obj := mkG (.none) none 37 26 "readline" "StringIO.readline" 0 [] 0 (.none) (.none) (.none) (.none) none (.none) (.none) #[]
noncomputable def o716 (P : Params) : Obj := ⟨.type "code", none, .fields #[.str "readline" 1201, .str "StringIO.readline" 1202, .str "/claim/cut.py" 1203, .int (523) 0, .int (2) 0, .int (2) 0, .int (0) 0, .int (3) 0, .ref 711, .bool true, .int (318) 0, .ref 712, .none, .ref 713, .ref 714, .ref 715, .int (1206) 0, .int (523) 0, .str "/claim/cut.py" 1207], #[]⟩
noncomputable def o717 (P : Params) : Obj := mkG (.type "function") none 37 26 "readline" "StringIO.readline" 3 [] 0 (.ref 710) (.none) (.none) (.str "io" 611) none (.ref 716) (.none) #[]
noncomputable def o718 (P : Params) : Obj := ⟨.type "tuple", none, .seq #[.int (-1) 1210] 0, #[]⟩
noncomputable def o719 (P : Params) : Obj := ⟨.type "tuple", none, .seq #[] 0, #[]⟩
noncomputable def o720 (P : Params) : Obj := ⟨.none, none, .fields #[], #[]⟩
noncomputable def o721 (P : Params) : Obj := ⟨.type "tuple", none, .seq #[.str "self" 1214, .str "hint" 1215] 0, #[]⟩
noncomputable def o722 (P : Params) : Obj := ⟨.type "tuple", none, .seq #[] 0, #[]⟩
noncomputable def o723 (P : Params) : Obj := mkG (.none) none 37 27 "readlines" "StringIO.readlines" 0 [] 0 (.none) (.none) (.none) (.none) none (.none) (.none) #[]
noncomputable def o724 (P : Params) : Obj := ⟨.type "code", none, .fields #[.str "readlines" 1211, .str "StringIO.readlines" 1212, .str "/claim/cut.py" 1213, .int (530) 0, .int (2) 0, .int (2) 0, .int (0) 0, .int (3) 0, .ref 719, .bool true, .int (318) 0, .ref 720, .none, .ref 721, .ref 722, .ref 723, .int (1216) 0, .int (530) 0, .str "/claim/cut.py" 1217], #[]⟩
noncomputable def o725 (P : Params) : Obj := mkG (.type "function") none 37 27 "readlines" "StringIO.readlines" 3 [] 0 (.ref 718) (.none) (.none) (.str "io" 611) none (.ref 724) (.none) #[]
noncomputable def o726 (P : Params) : Obj := ⟨.type "tuple", none, .seq #[] 0, #[]⟩
noncomputable def o727 (P : Params) : Obj := ⟨.none, none, .fields #[], #[]⟩
noncomputable def o728 (P : Params) : Obj := ⟨.type "tuple", none, .seq #[.str "self" 1222] 0, #[]⟩
noncomputable def o729 (P : Params) : Obj := ⟨.type "tuple", none, .seq #[] 0, #[]⟩
noncomputable def o730 (P : Params) : Obj := mkG (.none) none 37 28 "__iter__" "StringIO.__iter__" 0 [] 0 (.none) (.none) (.none) (.none) none (.none) (.none) #[]
noncomputable def o731 (P : Params) : Obj := ⟨.type "code", none, .fields #[.str "__iter__" 1219, .str "StringIO.__iter__" 1220, .str "/claim/cut.py" 1221, .int (533) 0, .int (1) 0, .int (0) 0, .int (0) 0, .int (3) 0, .ref 726, .bool true, .int (318) 0, .ref 727, .none, .ref 728, .ref 729, .ref 730, .int (1223) 0, .int (533) 0, .str "/claim/cut.py" 1224], #[]⟩
noncomputable def o732 (P : Params) : Obj := mkG (.type "function") none 37 28 "__iter__" "StringIO.__iter__" 3 [] 0 (.none) (.none) (.none) (.str "io" 611) none (.ref 731) (.none) #[]
noncomputable def o733 (P : Params) : Obj := ⟨.type "tuple", none, .seq #[] 0, #[]⟩
noncomputable def o734 (P : Params) : Obj := ⟨.none, none, .fields #[], #[]⟩
noncomputable def o735 (P : Params) : Obj := ⟨.type "tuple", none, .seq #[.str "self" 1229, .str "line" 1230] 0, #[]⟩
noncomputable def o736 (P : Params) : Obj := ⟨.type "tuple", none, .seq #[] 0, #[]⟩
noncomputable def o737 (P : Params) : Obj := mkG (.none) none 37 29 "__next__" "StringIO.__next__" 0 [] 0 (.none) (.none) (.none) (.none) none (.none) (.none) #[]
noncomputable def o738 (P : Params) : Obj := ⟨.type "code", none, .fields #[.str "__next__" 1226, .str "StringIO.__next__" 1227, .str "/claim/cut.py" 1228, .int (537) 0, .int (1) 0, .int (0) 0, .int (0) 0, .int (3) 0, .ref 733, .bool true, .int (318) 0, .ref 734, .none, .ref 735, .ref 736, .ref 737, .int (1231) 0, .int (537) 0, .str "/claim/cut.py" 1232], #[]⟩
noncomputable def o739 (P : Params) : Obj := mkG (.type "function") none 37 29 "__next__" "StringIO.__next__" 3 [] 0 (.none) (.none) (.none) (.str "io" 611) none (.ref 738) (.none) #[]
noncomputable def o740 (P : Params) : Obj := ⟨.type "tuple", none, .seq #[] 0, #[]⟩
noncomputable def o741 (P : Params) : Obj := ⟨.none, none, .fields #[], #[]⟩
noncomputable def o742 (P : Params) : Obj := ⟨.type "tuple", none, .seq #[.str "self" 1237, .str "s" 1238, .str "n" 1239, .str "m" 1240, .str "start" 1241, .str "buf" 1242] 0, #[]⟩
noncomputable def o743 (P : Params) : Obj := ⟨.type "tuple", none, .seq #[] 0, #[]⟩
noncomputable def o744 (P : Params) : Obj := mkG (.none) none 37 30 "write" "StringIO.write" 0 [] 0 (.none) (.none) (.none) (.none) none (.none) (.none) #[]
noncomputable def o745 (P : Params) : Obj := ⟨.type "code", none, .fields #[.str "write" 1234, .str "StringIO.write" 1235, .str "/claim/cut.py" 1236, .int (544) 0, .int (2) 0, .int (2) 0, .int (0) 0, .int (3) 0, .ref 740, .bool true, .int (318) 0, .ref 741, .none, .ref 742, .ref 743, .ref 744, .int (1243) 0, .int (544) 0, .str "/claim/cut.py" 1244], #[]⟩
noncomputable def o746 (P : Params) : Obj := mkG (.type "function") none 37 30 "write" "StringIO.write" 3 [] 0 (.none) (.none) (.none) (.str "io" 611) none (.ref 745) (.none) #[]
noncomputable def o747 (P : Params) : Obj := ⟨.type "tuple", none, .seq #[] 0, #[]⟩
noncomputable def o748 (P : Params) : Obj := ⟨.none, none, .fields #[], #[]⟩
noncomputable def o749 (P : Params) : Obj := ⟨.type "tuple", none, .seq #[.str "self" 1249, .str "lines" 1250] 0, #[]⟩
noncomputable def o750 (P : Params) : Obj := ⟨.type "tuple", none, .seq #[] 0, #[]⟩
noncomputable def o751 (P : Params) : Obj := mkG (.none) none 37 31 "writelines" "StringIO.writelines" 0 [] 0 (.none) (.none) (.none) (.none) none (.none) (.none) #[]
noncomputable def o752 (P : Params) : Obj := ⟨.type "code", none, .fields #[.str "writelines" 1246, .str "StringIO.writelines" 1247, .str "/claim/cut.py" 1248, .int (563) 0, .int (2) 0, .int (2) 0, .int (0) 0, .int (3) 0, .ref 747, .bool true, .int (318) 0, .ref 748, .none, .ref 749, .ref 750, .ref 751, .int (1251) 0, .int (563) 0, .str "/claim/cut.py" 1252], #[]⟩
noncomputable def o753 (P : Params) : Obj := mkG (.type "function") none 37 31 "writelines" "StringIO.writelines" 3 [] 0 (.none) (.none) (.none) (.str "io" 611) none (.ref 752) (.none) #[]
noncomputable def o754 (P : Params) : Obj := ⟨.type "tuple", none, .seq #[] 0, #[]⟩
noncomputable def o755 (P : Params) : Obj := ⟨.none, none, .fields #[], #[]⟩
noncomputable def o756 (P : Params) : Obj := ⟨.type "tuple", none, .seq #[.str "self" 1257] 0, #[]⟩
noncomputable def o757 (P : Params) : Obj := ⟨.type "tuple", none, .seq #[] 0, #[]⟩
noncomputable def o758 (P : Params) : Obj := mkG (.none) none 37 32 "__repr__" "StringIO.__repr__" 0 [] 0 (.none) (.none) (.none) (.none) none (.none) (.none) #[]
noncomputable def o759 (P : Params) : Obj := ⟨.type "code", none, .fields #[.str "__repr__" 1254, .str "StringIO.__repr__" 1255, .str "/claim/cut.py" 1256, .int (566) 0, .int (1) 0, .int (0) 0, .int (0) 0, .int (3) 0, .ref 754, .bool true, .int (318) 0, .ref 755, .none, .ref 756, .ref 757, .ref 758, .int (1258) 0, .int (566) 0, .str "/claim/cut.py" 1259], #[]⟩
noncomputable def o760 (P : Params) : Obj := mkG (.type "function") none 37 32 "__repr__" "StringIO.__repr__" 3 [] 0 (.none) (.none) (.none) (.str "io" 611) none (.ref 759) (.none) #[]
noncomputable def o761 (P : Params) : Obj := ⟨.type "tuple", none, .seq #[.str "__buf" 1261, .str "__newline" 1262, .str "__pos" 1263] 0, #[]⟩
noncomputable def o762 (P : Params) : Obj := ⟨.type "dict", none, .dict #[en P "__module__" 988 (.str "_io" 993), en P "__firstlineno__" 992 (.int (363) 991), en P "__init__" 1005 (.ref 533), en P "_StringIO__translated" 1014 (.ref 540), en P "_StringIO__check" 1021 (.ref 547), en P "_StringIO__check_dot" 1028 (.ref 554), en P "_StringIO__line" 1043 (.ref 561), en P "closed" 1051 (.ref 569), en P "line_buffering" 1059 (.ref 577), en P "newlines" 1067 (.ref 585), en P "encoding" 1075 (.ref 593), en P "errors" 1083 (.ref 601), en P "close" 1090 (.ref 608), en P "__enter__" 1097 (.ref 615), en P "__exit__" 1105 (.ref 622), en P "readable" 1112 (.ref 629), en P "writable" 1119 (.ref 636), en P "seekable" 1126 (.ref 643), en P "isatty" 1133 (.ref 650), en P "flush" 1140 (.ref 657), en P "fileno" 1147 (.ref 664), en P "detach" 1154 (.ref 671), en P "getvalue" 1161 (.ref 678), en P "tell" 1168 (.ref 685), en P "seek" 1178 (.ref 693), en P "truncate" 1186 (.ref 701), en P "read" 1198 (.ref 709), en P "readline" 1208 (.ref 717), en P "readlines" 1218 (.ref 725), en P "__iter__" 1225 (.ref 732), en P "__next__" 1233 (.ref 739), en P "write" 1245 (.ref 746), en P "writelines" 1253 (.ref 753), en P "__repr__" 1260 (.ref 760), en P "__static_attributes__" 1264 (.ref 761), en P "__doc__" 1265 (.none)] 2, #[]⟩
noncomputable def o763 (P : Params) : Obj := ⟨.type "type", none, .cls ⟨"StringIO", [.ref 286], [.ref 763, .ref 286, .ref 259, .type "object"], 762, "StringIO", true, [], [], false, none, false⟩, #[some (.ref 519), none, some (.str "StringIO" 981), some (.str "StringIO" 989), some (.none), some (.bool true)]⟩
noncomputable def o764 (P : Params) : Obj := ⟨.type "super", none, .fields #[.ref 763, .ref 763, .ref 763], #[]⟩
noncomputable def o765 (P : Params) : Obj := ⟨.type "builtin_function_or_method", none, .fields #[.builtin "object.__init_subclass__", .ref 763], #[]⟩
noncomputable def T3 (P : Params) : BT := insL [o289 P, o290 P, o291 P, o292 P, o293 P, o294 P, o295 P, o296 P, o297 P, o298 P, o299 P, o300 P, o301 P, o302 P, o303 P, o304 P, o305 P, o306 P, o307 P, o308 P, o309 P, o310 P, o311 P, o312 P, o313 P, o314 P, o315 P, o316 P, o317 P, o318 P, o319 P, o320 P, o321 P, o322 P, o323 P, o324 P, o325 P, o326 P, o327 P, o328 P, o329 P, o330 P, o331 P, o332 P, o333 P, o334 P, o335 P, o336 P, o337 P, o338 P, o339 P, o340 P, o341 P, o342 P, o343 P, o344 P, o345 P, o346 P, o347 P, o348 P, o349 P, o350 P, o351 P, o352 P, o353 P, o354 P, o355 P, o356 P, o357 P, o358 P, o359 P, o360 P, o361 P, o362 P, o363 P, o364 P, o365 P, o366 P, o367 P, o368 P, o369 P, o370 P, o371 P, o372 P, o373 P, o374 P, o375 P, o376 P, o377 P, o378 P, o379 P, o380 P, o381 P, o382 P, o383 P, o384 P, o385 P, o386 P, o387 P, o388 P, o389 P, o390 P, o391 P, o392 P, o393 P, o394 P, o395 P, o396 P, o397 P, o398 P, o399 P, o400 P, o401 P, o402 P, o403 P, o404 P, o405 P, o406 P, o407 P, o408 P, o409 P, o410 P, o411 P, o412 P, o413 P, o414 P, o415 P, o416 P, o417 P, o418 P, o419 P, o420 P, o421 P, o422 P, o423 P, o424 P, o425 P, o426 P, o427 P, o428 P, o429 P, o430 P, o431 P, o432 P, o433 P, o434 P, o435 P, o436 P, o437 P, o438 P, o439 P, o440 P, o441 P, o442 P, o443 P, o444 P, o445 P, o446 P, o447 P, o448 P, o449 P, o450 P, o451 P, o452 P, o453 P, o454 P, o455 P, o456 P, o457 P, o458 P, o459 P, o460 P, o461 P, o462 P, o463 P, o464 P, o465 P, o466 P, o467 P, o468 P, o469 P, o470 P, o471 P, o472 P, o473 P, o474 P, o475 P, o476 P, o477 P, o478 P, o479 P, o480 P, o481 P, o482 P, o483 P, o484 P, o485 P, o486 P, o487 P, o488 P, o489 P, o490 P, o491 P, o492 P, o493 P, o494 P, o495 P, o496 P, o497 P, o498 P, o499 P, o500 P, o501 P, o502 P, o503 P, o504 P, o505 P, o506 P, o507 P, o508 P, o509 P, o510 P, o511 P, o512 P, o513 P, o514 P, o515 P, o516 P, o517 P, o518 P, o519 P, o520 P, o521 P, o522 P, o523 P, o524 P, o525 P, o526 P, o527 P, o528 P, o529 P, o530 P, o531 P, o532 P, o533 P, o534 P, o535 P, o536 P, o537 P, o538 P, o539 P, o540 P, o541 P, o542 P, o543 P, o544 P, o545 P, o546 P, o547 P, o548 P, o549 P, o550 P, o551 P, o552 P, o553 P, o554 P, o555 P, o556 P, o557 P, o558 P, o559 P, o560 P, o561 P, o562 P, o563 P, o564 P, o565 P, o566 P, o567 P, o568 P, o569 P, o570 P, o571 P, o572 P, o573 P, o574 P, o575 P, o576 P, o577 P, o578 P, o579 P, o580 P, o581 P, o582 P, o583 P, o584 P, o585 P, o586 P, o587 P, o588 P, o589 P, o590 P, o591 P, o592 P, o593 P, o594 P, o595 P, o596 P, o597 P, o598 P, o599 P, o600 P, o601 P, o602 P, o603 P, o604 P, o605 P, o606 P, o607 P, o608 P, o609 P, o610 P, o611 P, o612 P, o613 P, o614 P, o615 P, o616 P, o617 P, o618 P, o619 P, o620 P, o621 P, o622 P, o623 P, o624 P, o625 P, o626 P, o627 P, o628 P, o629 P, o630 P, o631 P, o632 P, o633 P, o634 P, o635 P, o636 P, o637 P, o638 P, o639 P, o640 P, o641 P, o642 P, o643 P, o644 P, o645 P, o646 P, o647 P, o648 P, o649 P, o650 P, o651 P, o652 P, o653 P, o654 P, o655 P, o656 P, o657 P, o658 P, o659 P, o660 P, o661 P, o662 P, o663 P, o664 P, o665 P, o666 P, o667 P, o668 P, o669 P, o670 P, o671 P, o672 P, o673 P, o674 P, o675 P, o676 P, o677 P, o678 P, o679 P, o680 P, o681 P, o682 P, o683 P, o684 P, o685 P, o686 P, o687 P, o688 P, o689 P, o690 P, o691 P, o692 P, o693 P, o694 P, o695 P, o696 P, o697 P, o698 P, o699 P, o700 P, o701 P, o702 P, o703 P, o704 P, o705 P, o706 P, o707 P, o708 P, o709 P, o710 P, o711 P, o712 P, o713 P, o714 P, o715 P, o716 P, o717 P, o718 P, o719 P, o720 P, o721 P, o722 P, o723 P, o724 P, o725 P, o726 P, o727 P, o728 P, o729 P, o730 P, o731 P, o732 P, o733 P, o734 P, o735 P, o736 P, o737 P, o738 P, o739 P, o740 P, o741 P, o742 P, o743 P, o744 P, o745 P, o746 P, o747 P, o748 P, o749 P, o750 P, o751 P, o752 P, o753 P, o754 P, o755 P, o756 P, o757 P, o758 P, o759 P, o760 P, o761 P, o762 P, o763 P, o764 P, o765 P] 289 (((((T2 P).set 3 (fun _ => o3_3 P)).set 35 (fun _ => o35_3 P)).set 274 (fun _ => o274_3 P)).set 286 (fun _ => o286_3 P))
noncomputable def S3 (w : World) (os : OsState) : SharedT := ⟨T3 w.params, 766, {}, #[], {}, 1268, os⟩
noncomputable def p3 : Pos := ⟨363, 0, 567, 17⟩
noncomputable def o3_4 (P : Params) : Obj := ⟨.type "dict", none, .dict #[en P "__name__" 165 (.str "law_ij0222_01" 1489), en P "__doc__" 166 (.none), en P "__package__" 167 (.none), en P "__loader__" 168 (.builtin "__main__.__loader__#opaque"), en P "__spec__" 169 (.none), en P "__annotations__" 170 (.ref 6), en P "__builtins__" 171 (.ref 4), en P "__file__" 173 (.str "/claim/cut.py" 172), en P "__cached__" 174 (.none), en P "_sre" 275 (.ref 12), en P "deque" 317 (.type "collections.deque"), en P "_wall" 330 (.ref 44), en P "filterfalse" 382 (.ref 77), en P "_filter" 392 (.ref 88), en P "_plain_name" 403 (.ref 95), en P "ABCMeta" 429 (.ref 112), en P "_ABCLike" 472 (.ref 145), en P "_abc_plain_meta" 479 (.ref 154), en P "fspath" 491 (.ref 161), en P "_check_arg_types" 504 (.ref 786), en P "check_arg_types_genericpath" 505 (.ref 168), en P "_get_sep" 514 (.ref 175), en P "join" 525 (.ref 800), en P "join_posixpath" 526 (.ref 182), en P "splitroot" 535 (.ref 189), en P "basename" 544 (.ref 196), en P "dirname" 554 (.ref 807), en P "dirname_posixpath" 555 (.ref 203), en P "normpath" 570 (.ref 210), en P "_twin_re_1" 610 (.ref 215), en P "_whence" 620 (.ref 222), en P "_index" 628 (.ref 229), en P "UnsupportedOperation" 650 (.ref 239), en P "IOBase" 682 (.ref 259), en P "BufferedIOBase" 700 (.ref 274), en P "TextIOBase" 718 (.ref 286), en P "BytesIO" 980 (.ref 516), en P "StringIO" 1267 (.ref 763), en P "_kind" 1278 (.ref 772), en P "_fspath" 1287 (.ref 779), en P "check_arg_types_path" 1298 (.ref 786), en P "isabs" 1305 (.ref 793), en P "join_path" 1317 (.ref 800), en P "dirname_path" 1328 (.ref 807), en P "shlex" 1469 (.ref 898), en P "split" 1479 (.ref 910), en P "_find_unsafe" 1481 (.ref 911), en P "quote" 1488 (.ref 918), en P "_law_line" 1496 (.ref 923), en P "_law_names" 1502 (.ref 928), en P "_law_walk" 1508 (.ref 933), en P "law" 1514 (.ref 938)] 52, #[]⟩
noncomputable def o35_4 (P : Params) : Obj := ⟨.none, none, .fields #[.int (3) 0, .int (0) 0, .ref 43, .int (7) 0, .int (0) 0, .ref 50, .int (27) 0, .int (0) 0, .ref 87, .int (30) 0, .int (0) 0, .ref 94, .int (36) 0, .int (0) 0, .ref 101, .int (41) 0, .int (0) 0, .ref 120, .int (56) 0, .int (0) 0, .ref 153, .int (60) 0, .int (0) 0, .ref 160, .int (77) 0, .int (0) 0, .ref 167, .int (90) 0, .int (0) 0, .ref 174, .int (95) 0, .int (0) 0, .ref 181, .int (113) 0, .int (0) 0, .ref 188, .int (127) 0, .int (0) 0, .ref 195, .int (132) 0, .int (0) 0, .ref 202, .int (141) 0, .int (0) 0, .ref 209, .int (168) 0, .int (0) 0, .ref 221, .int (173) 0, .int (0) 0, .ref 228, .int (180) 0, .int (0) 0, .ref 235, .int (182) 0, .int (0) 0, .ref 248, .int (189) 0, .int (0) 0, .ref 270, .int (191) 0, .int (0) 0, .ref 282, .int (193) 0, .int (0) 0, .ref 294, .int (363) 0, .int (0) 0, .ref 524, .int (569) 0, .int (0) 0, .ref 771, .int (590) 0, .int (0) 0, .ref 778, .int (595) 0, .int (0) 0, .ref 785, .int (601) 0, .int (0) 0, .ref 792, .int (604) 0, .int (0) 0, .ref 799, .int (625) 0, .int (0) 0, .ref 806, .int (635) 0, .int (0) 0, .ref 813, .int (887) 0, .int (0) 0, .ref 909, .int (896) 0, .int (0) 0, .ref 917, .int (903) 0, .int (0) 0, .ref 922, .int (905) 0, .int (0) 0, .ref 927, .int (907) 0, .int (0) 0, .ref 932, .int (912) 0, .int (0) 0, .ref 937], #[]⟩
noncomputable def o766 (P : Params) : Obj := ⟨.type "tuple", none, .seq #[] 0, #[]⟩
noncomputable def o767 (P : Params) : Obj := ⟨.none, none, .fields #[], #[]⟩
noncomputable def o768 (P : Params) : Obj := ⟨.type "tuple", none, .seq #[.str "name" 1273, .str "x" 1274, .str "t" 1275] 0, #[]⟩
noncomputable def o769 (P : Params) : Obj := ⟨.type "tuple", none, .seq #[] 0, #[]⟩
noncomputable def o770 (P : Params) : Obj := mkG (.none) none 39 1000 "_kind" "_kind" 0 [] 0 (.none) (.none) (.none) (.none) none (.none) (.none) #[]
noncomputable def o771 (P : Params) : Obj := ⟨.type "code", none, .fields #[.str "_kind" 1270, .str "_kind" 1271, .str "/claim/cut.py" 1272, .int (569) 0, .int (2) 0, .int (0) 0, .int (0) 0, .int (3) 0, .ref 766, .bool true, .int (318) 0, .ref 767, .none, .ref 768, .ref 769, .ref 770, .int (1276) 0, .int (569) 0, .str "/claim/cut.py" 1277], #[]⟩
noncomputable def o772 (P : Params) : Obj := mkG (.type "function") none 39 1000 "_kind" "_kind" 3 [] 0 (.none) (.none) (.none) (.str "os.path" 1268) none (.ref 771) (.none) #[]
noncomputable def o773 (P : Params) : Obj := ⟨.type "tuple", none, .seq #[] 0, #[]⟩
noncomputable def o774 (P : Params) : Obj := ⟨.none, none, .fields #[], #[]⟩
noncomputable def o775 (P : Params) : Obj := ⟨.type "tuple", none, .seq #[.str "name" 1282, .str "x" 1283, .str "k" 1284] 0, #[]⟩
noncomputable def o776 (P : Params) : Obj := ⟨.type "tuple", none, .seq #[] 0, #[]⟩
noncomputable def o777 (P : Params) : Obj := mkG (.none) none 40 1000 "_fspath" "_fspath" 0 [] 0 (.none) (.none) (.none) (.none) none (.none) (.none) #[]
noncomputable def o778 (P : Params) : Obj := ⟨.type "code", none, .fields #[.str "_fspath" 1279, .str "_fspath" 1280, .str "/claim/cut.py" 1281, .int (590) 0, .int (2) 0, .int (0) 0, .int (0) 0, .int (3) 0, .ref 773, .bool true, .int (318) 0, .ref 774, .none, .ref 775, .ref 776, .ref 777, .int (1285) 0, .int (590) 0, .str "/claim/cut.py" 1286], #[]⟩
noncomputable def o779 (P : Params) : Obj := mkG (.type "function") none 40 1000 "_fspath" "_fspath" 3 [] 0 (.none) (.none) (.none) (.str "os.path" 1268) none (.ref 778) (.none) #[]
noncomputable def o780 (P : Params) : Obj := ⟨.type "tuple", none, .seq #[] 0, #[]⟩
noncomputable def o781 (P : Params) : Obj := ⟨.none, none, .fields #[], #[]⟩
noncomputable def o782 (P : Params) : Obj := ⟨.type "tuple", none, .seq #[.str "funcname" 1291, .str "args" 1292, .str "s" 1293, .str "k" 1294] 0, #[]⟩
noncomputable def o783 (P : Params) : Obj := ⟨.type "tuple", none, .seq #[] 0, #[]⟩
noncomputable def o784 (P : Params) : Obj := mkG (.none) none 41 1000 "_check_arg_types" "_check_arg_types" 0 [] 0 (.none) (.none) (.none) (.none) none (.none) (.none) #[]
noncomputable def o785 (P : Params) : Obj := ⟨.type "code", none, .fields #[.str "_check_arg_types" 1288, .str "_check_arg_types" 1289, .str "/claim/cut.py" 1290, .int (595) 0, .int (1) 0, .int (0) 0, .int (0) 0, .int (7) 0, .ref 780, .bool true, .int (318) 0, .ref 781, .none, .ref 782, .ref 783, .ref 784, .int (1295) 0, .int (595) 0, .str "/claim/cut.py" 1296], #[]⟩
noncomputable def o786 (P : Params) : Obj := mkG (.type "function") none 41 1000 "_check_arg_types" "_check_arg_types" 3 [] 0 (.none) (.none) (.none) (.str "os.path" 1268) none (.ref 785) (.none) #[]
noncomputable def o787 (P : Params) : Obj := ⟨.type "tuple", none, .seq #[] 0, #[]⟩
noncomputable def o788 (P : Params) : Obj := ⟨.none, none, .fields #[], #[]⟩
noncomputable def o789 (P : Params) : Obj := ⟨.type "tuple", none, .seq #[.str "s" 1302] 0, #[]⟩
noncomputable def o790 (P : Params) : Obj := ⟨.type "tuple", none, .seq #[] 0, #[]⟩
noncomputable def o791 (P : Params) : Obj := mkG (.none) none 43 1000 "isabs" "isabs" 0 [] 0 (.none) (.none) (.none) (.none) none (.none) (.none) #[]
noncomputable def o792 (P : Params) : Obj := ⟨.type "code", none, .fields #[.str "isabs" 1299, .str "isabs" 1300, .str "/claim/cut.py" 1301, .int (601) 0, .int (1) 0, .int (0) 0, .int (0) 0, .int (3) 0, .ref 787, .bool true, .int (318) 0, .ref 788, .none, .ref 789, .ref 790, .ref 791, .int (1303) 0, .int (601) 0, .str "/claim/cut.py" 1304], #[]⟩
noncomputable def o793 (P : Params) : Obj := mkG (.type "function") none 43 1000 "isabs" "isabs" 3 [] 0 (.none) (.none) (.none) (.str "os.path" 1268) none (.ref 792) (.none) #[]
noncomputable def o794 (P : Params) : Obj := ⟨.type "tuple", none, .seq #[] 0, #[]⟩
noncomputable def o795 (P : Params) : Obj := ⟨.none, none, .fields #[], #[]⟩
noncomputable def o796 (P : Params) : Obj := ⟨.type "tuple", none, .seq #[.str "a" 1309, .str "p" 1310, .str "b" 1311, .str "sep" 1312, .str "path" 1313] 0, #[]⟩
noncomputable def o797 (P : Params) : Obj := ⟨.type "tuple", none, .seq #[] 0, #[]⟩
noncomputable def o798 (P : Params) : Obj := mkG (.none) none 44 1000 "join" "join" 0 [] 0 (.none) (.none) (.none) (.none) none (.none) (.none) #[]
noncomputable def o799 (P : Params) : Obj := ⟨.type "code", none, .fields #[.str "join" 1306, .str "join" 1307, .str "/claim/cut.py" 1308, .int (604) 0, .int (1) 0, .int (0) 0, .int (0) 0, .int (7) 0, .ref 794, .bool true, .int (318) 0, .ref 795, .none, .ref 796, .ref 797, .ref 798, .int (1314) 0, .int (604) 0, .str "/claim/cut.py" 1315], #[]⟩
noncomputable def o800 (P : Params) : Obj := mkG (.type "function") none 44 1000 "join" "join" 3 [] 0 (.none) (.none) (.none) (.str "os.path" 1268) none (.ref 799) (.none) #[]
noncomputable def o801 (P : Params) : Obj := ⟨.type "tuple", none, .seq #[] 0, #[]⟩
noncomputable def o802 (P : Params) : Obj := ⟨.none, none, .fields #[], #[]⟩
noncomputable def o803 (P : Params) : Obj := ⟨.type "tuple", none, .seq #[.str "p" 1321, .str "sep" 1322, .str "i" 1323, .str "head" 1324] 0, #[]⟩
noncomputable def o804 (P : Params) : Obj := ⟨.type "tuple", none, .seq #[] 0, #[]⟩
noncomputable def o805 (P : Params) : Obj := mkG (.none) none 46 1000 "dirname" "dirname" 0 [] 0 (.none) (.none) (.none) (.none) none (.none) (.none) #[]
noncomputable def o806 (P : Params) : Obj := ⟨.type "code", none, .fields #[.str "dirname" 1318, .str "dirname" 1319, .str "/claim/cut.py" 1320, .int (625) 0, .int (1) 0, .int (0) 0, .int (0) 0, .int (3) 0, .ref 801, .bool true, .int (318) 0, .ref 802, .none, .ref 803, .ref 804, .ref 805, .int (1325) 0, .int (625) 0, .str "/claim/cut.py" 1326], #[]⟩
noncomputable def o807 (P : Params) : Obj := mkG (.type "function") none 46 1000 "dirname" "dirname" 3 [] 0 (.none) (.none) (.none) (.str "os.path" 1268) none (.ref 806) (.none) #[]
noncomputable def o808 (P : Params) : Obj := ⟨.type "tuple", none, .seq #[] 0, #[]⟩
noncomputable def o809 (P : Params) : Obj := ⟨.type "builtin_function_or_method", none, .fields #[.builtin "type.__prepare__", .type "type"], #[]⟩
noncomputable def o810 (P : Params) : Obj := ⟨.type "dict", none, .dict #[en P "__module__" 1338 (.str "cpy313.shlex" 1329), en P "__qualname__" 1340 (.str "shlex" 1339), en P "__firstlineno__" 1342 (.int (635) 1341), en P "__init__" 1354 (.ref 822), en P "punctuation_chars" 1362 (.ref 830), en P "push_token" 1370 (.ref 837), en P "push_source" 1379 (.ref 845), en P "pop_source" 1386 (.ref 852), en P "get_token" 1398 (.ref 859), en P "read_token" 1409 (.ref 866), en P "sourcehook" 1417 (.ref 873), en P "error_leader" 1426 (.ref 881), en P "__iter__" 1433 (.ref 888), en P "__next__" 1441 (.ref 895), en P "__static_attributes__" 1462 (.ref 896)] 15, #[]⟩
noncomputable def o811 (P : Params) : Obj := ⟨.type "tuple", none, .seq #[] 0, #[]⟩
noncomputable def o812 (P : Params) : Obj := ⟨.none, none, .fields #[.int (637) 0, .int (4) 0, .ref 821, .int (679) 0, .int (4) 0, .ref 828, .int (682) 0, .int (4) 0, .ref 836, .int (685) 0, .int (4) 0, .ref 844, .int (698) 0, .int (4) 0, .ref 851, .int (705) 0, .int (4) 0, .ref 858, .int (732) 0, .int (4) 0, .ref 865, .int (869) 0, .int (4) 0, .ref 872, .int (876) 0, .int (4) 0, .ref 880, .int (879) 0, .int (4) 0, .ref 887, .int (882) 0, .int (4) 0, .ref 894], #[]⟩
noncomputable def o813 (P : Params) : Obj := ⟨.type "code", none, .fields #[.str "shlex" 1333, .str "shlex" 1334, .str "/claim/cut.py" 1335, .int (635) 0, .int (0) 0, .int (0) 0, .int (0) 0, .int (0) 0, .ref 811, .bool false, .int (318) 0, .ref 812, .none, .none, .none, .none, .int (1336) 0, .int (635) 0, .str "/claim/cut.py" 1337], #[]⟩
noncomputable def o814 (P : Params) : Obj := ⟨.type "frame", none, .plain, #[some (.ref 813), some (.ref 3), some (.ref 810), none, some (.str "cpy313.shlex" 1329), none, some (.ref 0)]⟩
noncomputable def o815 (P : Params) : Obj := ⟨.type "tuple", none, .seq #[.none, .none, .bool false, .bool false] 0, #[]⟩
noncomputable def o816 (P : Params) : Obj := ⟨.type "tuple", none, .seq #[] 0, #[]⟩
noncomputable def o817 (P : Params) : Obj := ⟨.none, none, .fields #[], #[]⟩
noncomputable def o818 (P : Params) : Obj := ⟨.type "tuple", none, .seq #[.str "self" 1346, .str "instream" 1347, .str "infile" 1348, .str "posix" 1349, .str "punctuation_chars" 1350, .str "t" 1351] 0, #[]⟩
noncomputable def o819 (P : Params) : Obj := ⟨.type "tuple", none, .seq #[] 0, #[]⟩
noncomputable def o820 (P : Params) : Obj := mkG (.none) none 49 0 "__init__" "shlex.__init__" 0 [] 0 (.none) (.none) (.none) (.none) none (.none) (.none) #[]
noncomputable def o821 (P : Params) : Obj := ⟨.type "code", none, .fields #[.str "__init__" 1343, .str "shlex.__init__" 1344, .str "/claim/cut.py" 1345, .int (637) 0, .int (5) 0, .int (0) 0, .int (0) 0, .int (3) 0, .ref 816, .bool true, .int (318) 0, .ref 817, .none, .ref 818, .ref 819, .ref 820, .int (1352) 0, .int (637) 0, .str "/claim/cut.py" 1353], #[]⟩
noncomputable def o822 (P : Params) : Obj := mkG (.type "function") none 49 0 "__init__" "shlex.__init__" 3 [] 0 (.ref 815) (.none) (.none) (.str "cpy313.shlex" 1329) none (.ref 821) (.none) #[]
noncomputable def o823 (P : Params) : Obj := ⟨.type "tuple", none, .seq #[] 0, #[]⟩
noncomputable def o824 (P : Params) : Obj := ⟨.none, none, .fields #[], #[]⟩
noncomputable def o825 (P : Params) : Obj := ⟨.type "tuple", none, .seq #[.str "self" 1358] 0, #[]⟩
noncomputable def o826 (P : Params) : Obj := ⟨.type "tuple", none, .seq #[] 0, #[]⟩
noncomputable def o827 (P : Params) : Obj := mkG (.none) none 49 1 "punctuation_chars" "shlex.punctuation_chars" 0 [] 0 (.none) (.none) (.none) (.none) none (.none) (.none) #[]
noncomputable def o828 (P : Params) : Obj := ⟨.type "code", none, .fields #[.str "punctuation_chars" 1355, .str "shlex.punctuation_chars" 1356, .str "/claim/cut.py" 1357, .int (678) 0, .int (1) 0, .int (0) 0, .int (0) 0, .int (3) 0, .ref 823, .bool true, .int (318) 0, .ref 824, .none, .ref 825, .ref 826, .ref 827, .int (1359) 0, .int (678) 0, .str "/claim/cut.py" 1360], #[]⟩
noncomputable def o829 (P : Params) : Obj := mkG (.type "function") none 49 1 "punctuation_chars" "shlex.punctuation_chars" 3 [] 0 (.none) (.none) (.none) (.str "cpy313.shlex" 1329) none (.ref 828) (.none) #[]
noncomputable def o830 (P : Params) : Obj := ⟨.type "property", none, .fields #[.ref 829, .none, .none, .none, .str "punctuation_chars" 1362, .bool false], #[]⟩
noncomputable def o831 (P : Params) : Obj := ⟨.type "tuple", none, .seq #[] 0, #[]⟩
noncomputable def o832 (P : Params) : Obj := ⟨.none, none, .fields #[], #[]⟩
noncomputable def o833 (P : Params) : Obj := ⟨.type "tuple", none, .seq #[.str "self" 1366, .str "tok" 1367] 0, #[]⟩
noncomputable def o834 (P : Params) : Obj := ⟨.type "tuple", none, .seq #[] 0, #[]⟩
noncomputable def o835 (P : Params) : Obj := mkG (.none) none 49 2 "push_token" "shlex.push_token" 0 [] 0 (.none) (.none) (.none) (.none) none (.none) (.none) #[]
noncomputable def o836 (P : Params) : Obj := ⟨.type "code", none, .fields #[.str "push_token" 1363, .str "shlex.push_token" 1364, .str "/claim/cut.py" 1365, .int (682) 0, .int (2) 0, .int (0) 0, .int (0) 0, .int (3) 0, .ref 831, .bool true, .int (318) 0, .ref 832, .none, .ref 833, .ref 834, .ref 835, .int (1368) 0, .int (682) 0, .str "/claim/cut.py" 1369], #[]⟩
noncomputable def o837 (P : Params) : Obj := mkG (.type "function") none 49 2 "push_token" "shlex.push_token" 3 [] 0 (.none) (.none) (.none) (.str "cpy313.shlex" 1329) none (.ref 836) (.none) #[]
noncomputable def o838 (P : Params) : Obj := ⟨.type "tuple", none, .seq #[.none] 0, #[]⟩
noncomputable def o839 (P : Params) : Obj := ⟨.type "tuple", none, .seq #[] 0, #[]⟩
noncomputable def o840 (P : Params) : Obj := ⟨.none, none, .fields #[], #[]⟩
noncomputable def o841 (P : Params) : Obj := ⟨.type "tuple", none, .seq #[.str "self" 1374, .str "newstream" 1375, .str "newfile" 1376] 0, #[]⟩
noncomputable def o842 (P : Params) : Obj := ⟨.type "tuple", none, .seq #[] 0, #[]⟩
noncomputable def o843 (P : Params) : Obj := mkG (.none) none 49 3 "push_source" "shlex.push_source" 0 [] 0 (.none) (.none) (.none) (.none) none (.none) (.none) #[]
noncomputable def o844 (P : Params) : Obj := ⟨.type "code", none, .fields #[.str "push_source" 1371, .str "shlex.push_source" 1372, .str "/claim/cut.py" 1373, .int (685) 0, .int (3) 0, .int (0) 0, .int (0) 0, .int (3) 0, .ref 839, .bool true, .int (318) 0, .ref 840, .none, .ref 841, .ref 842, .ref 843, .int (1377) 0, .int (685) 0, .str "/claim/cut.py" 1378], #[]⟩
noncomputable def o845 (P : Params) : Obj := mkG (.type "function") none 49 3 "push_source" "shlex.push_source" 3 [] 0 (.ref 838) (.none) (.none) (.str "cpy313.shlex" 1329) none (.ref 844) (.none) #[]
noncomputable def o846 (P : Params) : Obj := ⟨.type "tuple", none, .seq #[] 0, #[]⟩
noncomputable def o847 (P : Params) : Obj := ⟨.none, none, .fields #[], #[]⟩
noncomputable def o848 (P : Params) : Obj := ⟨.type "tuple", none, .seq #[.str "self" 1383] 0, #[]⟩
noncomputable def o849 (P : Params) : Obj := ⟨.type "tuple", none, .seq #[] 0, #[]⟩
noncomputable def o850 (P : Params) : Obj := mkG (.none) none 49 4 "pop_source" "shlex.pop_source" 0 [] 0 (.none) (.none) (.none) (.none) none (.none) (.none) #[]
noncomputable def o851 (P : Params) : Obj := ⟨.type "code", none, .fields #[.str "pop_source" 1380, .str "shlex.pop_source" 1381, .str "/claim/cut.py" 1382, .int (698) 0, .int (1) 0, .int (0) 0, .int (0) 0, .int (3) 0, .ref 846, .bool true, .int (318) 0, .ref 847, .none, .ref 848, .ref 849, .ref 850, .int (1384) 0, .int (698) 0, .str "/claim/cut.py" 1385], #[]⟩
noncomputable def o852 (P : Params) : Obj := mkG (.type "function") none 49 4 "pop_source" "shlex.pop_source" 3 [] 0 (.none) (.none) (.none) (.str "cpy313.shlex" 1329) none (.ref 851) (.none) #[]
noncomputable def o853 (P : Params) : Obj := ⟨.type "tuple", none, .seq #[] 0, #[]⟩
noncomputable def o854 (P : Params) : Obj := ⟨.none, none, .fields #[], #[]⟩
noncomputable def o855 (P : Params) : Obj := ⟨.type "tuple", none, .seq #[.str "self" 1390, .str "tok" 1391, .str "raw" 1392, .str "spec" 1393, .str "newfile" 1394, .str "newstream" 1395] 0, #[]⟩
noncomputable def o856 (P : Params) : Obj := ⟨.type "tuple", none, .seq #[] 0, #[]⟩
noncomputable def o857 (P : Params) : Obj := mkG (.none) none 49 5 "get_token" "shlex.get_token" 0 [] 0 (.none) (.none) (.none) (.none) none (.none) (.none) #[]
noncomputable def o858 (P : Params) : Obj := ⟨.type "code", none, .fields #[.str "get_token" 1387, .str "shlex.get_token" 1388, .str "/claim/cut.py" 1389, .int (705) 0, .int (1) 0, .int (0) 0, .int (0) 0, .int (3) 0, .ref 853, .bool true, .int (318) 0, .ref 854, .none, .ref 855, .ref 856, .ref 857, .int (1396) 0, .int (705) 0, .str "/claim/cut.py" 1397], #[]⟩
noncomputable def o859 (P : Params) : Obj := mkG (.type "function") none 49 5 "get_token" "shlex.get_token" 3 [] 0 (.none) (.none) (.none) (.str "cpy313.shlex" 1329) none (.ref 858) (.none) #[]
noncomputable def o860 (P : Params) : Obj := ⟨.type "tuple", none, .seq #[] 0, #[]⟩
noncomputable def o861 (P : Params) : Obj := ⟨.none, none, .fields #[], #[]⟩
noncomputable def o862 (P : Params) : Obj := ⟨.type "tuple", none, .seq #[.str "self" 1402, .str "quoted" 1403, .str "escapedstate" 1404, .str "nextchar" 1405, .str "result" 1406] 0, #[]⟩
noncomputable def o863 (P : Params) : Obj := ⟨.type "tuple", none, .seq #[] 0, #[]⟩
noncomputable def o864 (P : Params) : Obj := mkG (.none) none 49 6 "read_token" "shlex.read_token" 0 [] 0 (.none) (.none) (.none) (.none) none (.none) (.none) #[]
noncomputable def o865 (P : Params) : Obj := ⟨.type "code", none, .fields #[.str "read_token" 1399, .str "shlex.read_token" 1400, .str "/claim/cut.py" 1401, .int (732) 0, .int (1) 0, .int (0) 0, .int (0) 0, .int (3) 0, .ref 860, .bool true, .int (318) 0, .ref 861, .none, .ref 862, .ref 863, .ref 864, .int (1407) 0, .int (732) 0, .str "/claim/cut.py" 1408], #[]⟩
noncomputable def o866 (P : Params) : Obj := mkG (.type "function") none 49 6 "read_token" "shlex.read_token" 3 [] 0 (.none) (.none) (.none) (.str "cpy313.shlex" 1329) none (.ref 865) (.none) #[]
noncomputable def o867 (P : Params) : Obj := ⟨.type "tuple", none, .seq #[] 0, #[]⟩
noncomputable def o868 (P : Params) : Obj := ⟨.none, none, .fields #[], #[]⟩
noncomputable def o869 (P : Params) : Obj := ⟨.type "tuple", none, .seq #[.str "self" 1413, .str "newfile" 1414] 0, #[]⟩
noncomputable def o870 (P : Params) : Obj := ⟨.type "tuple", none, .seq #[] 0, #[]⟩
noncomputable def o871 (P : Params) : Obj := mkG (.none) none 49 7 "sourcehook" "shlex.sourcehook" 0 [] 0 (.none) (.none) (.none) (.none) none (.none) (.none) #[]
noncomputable def o872 (P : Params) : Obj := ⟨.type "code", none, .fields #[.str "sourcehook" 1410, .str "shlex.sourcehook" 1411, .str "/claim/cut.py" 1412, .int (869) 0, .int (2) 0, .int (0) 0, .int (0) 0, .int (3) 0, .ref 867, .bool true, .int (318) 0, .ref 868, .none, .ref 869, .ref 870, .ref 871, .int (1415) 0, .int (869) 0, .str "/claim/cut.py" 1416], #[]⟩
noncomputable def o873 (P : Params) : Obj := mkG (.type "function") none 49 7 "sourcehook" "shlex.sourcehook" 3 [] 0 (.none) (.none) (.none) (.str "cpy313.shlex" 1329) none (.ref 872) (.none) #[]
noncomputable def o874 (P : Params) : Obj := ⟨.type "tuple", none, .seq #[.none, .none] 0, #[]⟩
noncomputable def o875 (P : Params) : Obj := ⟨.type "tuple", none, .seq #[] 0, #[]⟩
noncomputable def o876 (P : Params) : Obj := ⟨.none, none, .fields #[], #[]⟩
noncomputable def o877 (P : Params) : Obj := ⟨.type "tuple", none, .seq #[.str "self" 1421, .str "infile" 1422, .str "lineno" 1423] 0, #[]⟩
noncomputable def o878 (P : Params) : Obj := ⟨.type "tuple", none, .seq #[] 0, #[]⟩
noncomputable def o879 (P : Params) : Obj := mkG (.none) none 49 8 "error_leader" "shlex.error_leader" 0 [] 0 (.none) (.none) (.none) (.none) none (.none) (.none) #[]
noncomputable def o880 (P : Params) : Obj := ⟨.type "code", none, .fields #[.str "error_leader" 1418, .str "shlex.error_leader" 1419, .str "/claim/cut.py" 1420, .int (876) 0, .int (3) 0, .int (0) 0, .int (0) 0, .int (3) 0, .ref 875, .bool true, .int (318) 0, .ref 876, .none, .ref 877, .ref 878, .ref 879, .int (1424) 0, .int (876) 0, .str "/claim/cut.py" 1425], #[]⟩
noncomputable def o881 (P : Params) : Obj := mkG (.type "function") none 49 8 "error_leader" "shlex.error_leader" 3 [] 0 (.ref 874) (.none) (.none) (.str "cpy313.shlex" 1329) none (.ref 880) (.none) #[]
noncomputable def o882 (P : Params) : Obj := ⟨.type "tuple", none, .seq #[] 0, #[]⟩
noncomputable def o883 (P : Params) : Obj := ⟨.none, none, .fields #[], #[]⟩
noncomputable def o884 (P : Params) : Obj := ⟨.type "tuple", none, .seq #[.str "self" 1430] 0, #[]⟩
noncomputable def o885 (P : Params) : Obj := ⟨.type "tuple", none, .seq #[] 0, #[]⟩
noncomputable def o886 (P : Params) : Obj := mkG (.none) none 49 9 "__iter__" "shlex.__iter__" 0 [] 0 (.none) (.none) (.none) (.none) none (.none) (.none) #[]
noncomputable def o887 (P : Params) : Obj := ⟨.type "code", none, .fields #[.str "__iter__" 1427, .str "shlex.__iter__" 1428, .str "/claim/cut.py" 1429, .int (879) 0, .int (1) 0, .int (0) 0, .int (0) 0, .int (3) 0, .ref 882, .bool true, .int (318) 0, .ref 883, .none, .ref 884, .ref 885, .ref 886, .int (1431) 0, .int (879) 0, .str "/claim/cut.py" 1432], #[]⟩
noncomputable def o888 (P : Params) : Obj := mkG (.type "function") none 49 9 "__iter__" "shlex.__iter__" 3 [] 0 (.none) (.none) (.none) (.str "cpy313.shlex" 1329) none (.ref 887) (.none) #[]
noncomputable def o889 (P : Params) : Obj := ⟨.type "tuple", none, .seq #[] 0, #[]⟩
noncomputable def o890 (P : Params) : Obj := ⟨.none, none, .fields #[], #[]⟩
noncomputable def o891 (P : Params) : Obj := ⟨.type "tuple", none, .seq #[.str "self" 1437, .str "token" 1438] 0, #[]⟩
noncomputable def o892 (P : Params) : Obj := ⟨.type "tuple", none, .seq #[] 0, #[]⟩
noncomputable def o893 (P : Params) : Obj := mkG (.none) none 49 10 "__next__" "shlex.__next__" 0 [] 0 (.none) (.none) (.none) (.none) none (.none) (.none) #[]
noncomputable def o894 (P : Params) : Obj := ⟨.type "code", none, .fields #[.str "__next__" 1434, .str "shlex.__next__" 1435, .str "/claim/cut.py" 1436, .int (882) 0, .int (1) 0, .int (0) 0, .int (0) 0, .int (3) 0, .ref 889, .bool true, .int (318) 0, .ref 890, .none, .ref 891, .ref 892, .ref 893, .int (1439) 0, .int (882) 0, .str "/claim/cut.py" 1440], #[]⟩
noncomputable def o895 (P : Params) : Obj := mkG (.type "function") none 49 10 "__next__" "shlex.__next__" 3 [] 0 (.none) (.none) (.none) (.str "cpy313.shlex" 1329) none (.ref 894) (.none) #[]
noncomputable def o896 (P : Params) : Obj := ⟨.type "tuple", none, .seq #[.str "_punctuation_chars" 1442, .str "_pushback_chars" 1443, .str "commenters" 1444, .str "debug" 1445, .str "eof" 1446, .str "escape" 1447, .str "escapedquotes" 1448, .str "filestack" 1449, .str "infile" 1450, .str "instream" 1451, .str "lineno" 1452, .str "posix" 1453, .str "pushback" 1454, .str "quotes" 1455, .str "source" 1456, .str "state" 1457, .str "token" 1458, .str "whitespace" 1459, .str "whitespace_split" 1460, .str "wordchars" 1461] 0, #[]⟩
noncomputable def o897 (P : Params) : Obj := ⟨.type "dict", none, .dict #[en P "__module__" 1338 (.str "cpy313.shlex" 1329), en P "__firstlineno__" 1342 (.int (635) 1341), en P "__init__" 1354 (.ref 822), en P "punctuation_chars" 1362 (.ref 830), en P "push_token" 1370 (.ref 837), en P "push_source" 1379 (.ref 845), en P "pop_source" 1386 (.ref 852), en P "get_token" 1398 (.ref 859), en P "read_token" 1409 (.ref 866), en P "sourcehook" 1417 (.ref 873), en P "error_leader" 1426 (.ref 881), en P "__iter__" 1433 (.ref 888), en P "__next__" 1441 (.ref 895), en P "__static_attributes__" 1462 (.ref 896), en P "__dict__" 1464 (.ref 899), en P "__weakref__" 1466 (.ref 900), en P "__doc__" 1467 (.none)] 4, #[]⟩
noncomputable def o898 (P : Params) : Obj := ⟨.type "type", none, .cls ⟨"shlex", [.type "object"], [.ref 898, .type "object"], 897, "shlex", true, [], [], false, none, false⟩, #[none, none, some (.str "shlex" 1331), some (.str "shlex" 1339), some (.builtin "object.__new__"), some (.bool true)]⟩
noncomputable def o899 (P : Params) : Obj := ⟨.type "getset_descriptor", none, .fields #[.str "__dict__" 1463, .ref 898, .builtin "function.__dict__", .builtin "function.__dict__#set"], #[]⟩
noncomputable def o900 (P : Params) : Obj := ⟨.type "getset_descriptor", none, .fields #[.str "__weakref__" 1465, .ref 898, .builtin "ExceptionGroup.__weakref__", .none], #[]⟩
noncomputable def o901 (P : Params) : Obj := ⟨.type "super", none, .fields #[.ref 898, .ref 898, .ref 898], #[]⟩
noncomputable def o902 (P : Params) : Obj := ⟨.type "builtin_function_or_method", none, .fields #[.builtin "object.__init_subclass__", .ref 898], #[]⟩
noncomputable def o903 (P : Params) : Obj := ⟨.type "tuple", none, .seq #[.bool false, .bool true] 0, #[]⟩
noncomputable def o904 (P : Params) : Obj := ⟨.type "tuple", none, .seq #[] 0, #[]⟩
noncomputable def o905 (P : Params) : Obj := ⟨.none, none, .fields #[], #[]⟩
noncomputable def o906 (P : Params) : Obj := ⟨.type "tuple", none, .seq #[.str "s" 1473, .str "comments" 1474, .str "posix" 1475, .str "lex" 1476] 0, #[]⟩
noncomputable def o907 (P : Params) : Obj := ⟨.type "tuple", none, .seq #[] 0, #[]⟩
noncomputable def o908 (P : Params) : Obj := mkG (.none) none 50 1000 "split" "split" 0 [] 0 (.none) (.none) (.none) (.none) none (.none) (.none) #[]
noncomputable def o909 (P : Params) : Obj := ⟨.type "code", none, .fields #[.str "split" 1470, .str "split" 1471, .str "/claim/cut.py" 1472, .int (887) 0, .int (3) 0, .int (0) 0, .int (0) 0, .int (3) 0, .ref 904, .bool true, .int (318) 0, .ref 905, .none, .ref 906, .ref 907, .ref 908, .int (1477) 0, .int (887) 0, .str "/claim/cut.py" 1478], #[]⟩
noncomputable def o910 (P : Params) : Obj := mkG (.type "function") none 50 1000 "split" "split" 3 [] 0 (.ref 903) (.none) (.none) (.str "cpy313.shlex" 1329) none (.ref 909) (.none) #[]
noncomputable def o911 (P : Params) : Obj := ⟨.type "builtin_function_or_method", none, .fields #[.builtin "re.Pattern.search", .ref 215], #[]⟩
noncomputable def o912 (P : Params) : Obj := ⟨.type "tuple", none, .seq #[] 0, #[]⟩
noncomputable def o913 (P : Params) : Obj := ⟨.none, none, .fields #[], #[]⟩
noncomputable def o914 (P : Params) : Obj := ⟨.type "tuple", none, .seq #[.str "s" 1485] 0, #[]⟩
noncomputable def o915 (P : Params) : Obj := ⟨.type "tuple", none, .seq #[] 0, #[]⟩
noncomputable def o916 (P : Params) : Obj := mkG (.none) none 52 1000 "quote" "quote" 0 [] 0 (.none) (.none) (.none) (.none) none (.none) (.none) #[]
noncomputable def o917 (P : Params) : Obj := ⟨.type "code", none, .fields #[.str "quote" 1482, .str "quote" 1483, .str "/claim/cut.py" 1484, .int (896) 0, .int (1) 0, .int (0) 0, .int (0) 0, .int (3) 0, .ref 912, .bool true, .int (318) 0, .ref 913, .none, .ref 914, .ref 915, .ref 916, .int (1486) 0, .int (896) 0, .str "/claim/cut.py" 1487], #[]⟩
noncomputable def o918 (P : Params) : Obj := mkG (.type "function") none 52 1000 "quote" "quote" 3 [] 0 (.none) (.none) (.none) (.str "cpy313.shlex" 1329) none (.ref 917) (.none) #[]
noncomputable def o919 (P : Params) : Obj := ⟨.type "tuple", none, .seq #[] 0, #[]⟩
noncomputable def o920 (P : Params) : Obj := ⟨.none, none, .fields #[], #[]⟩
noncomputable def o921 (P : Params) : Obj := mkG (.none) none 54 1000 "_law_line" "_law_line" 0 [] 0 (.none) (.none) (.none) (.none) none (.none) (.none) #[]
noncomputable def o922 (P : Params) : Obj := ⟨.type "code", none, .fields #[.str "_law_line" 1491, .str "_law_line" 1492, .str "/claim/cut.py" 1493, .int (903) 0, .int (1) 0, .int (0) 0, .int (0) 0, .int (3) 0, .ref 919, .bool true, .int (318) 0, .ref 920, .none, .none, .none, .ref 921, .int (1494) 0, .int (903) 0, .str "/claim/cut.py" 1495], #[]⟩
noncomputable def o923 (P : Params) : Obj := mkG (.type "function") none 54 1000 "_law_line" "_law_line" 3 [] 0 (.none) (.none) (.none) (.str "law_ij0222_01" 1489) none (.ref 922) (.none) #[]
noncomputable def o924 (P : Params) : Obj := ⟨.type "tuple", none, .seq #[] 0, #[]⟩
noncomputable def o925 (P : Params) : Obj := ⟨.none, none, .fields #[], #[]⟩
noncomputable def o926 (P : Params) : Obj := mkG (.none) none 55 1000 "_law_names" "_law_names" 0 [] 0 (.none) (.none) (.none) (.none) none (.none) (.none) #[]
noncomputable def o927 (P : Params) : Obj := ⟨.type "code", none, .fields #[.str "_law_names" 1497, .str "_law_names" 1498, .str "/claim/cut.py" 1499, .int (905) 0, .int (1) 0, .int (0) 0, .int (0) 0, .int (3) 0, .ref 924, .bool true, .int (318) 0, .ref 925, .none, .none, .none, .ref 926, .int (1500) 0, .int (905) 0, .str "/claim/cut.py" 1501], #[]⟩
noncomputable def o928 (P : Params) : Obj := mkG (.type "function") none 55 1000 "_law_names" "_law_names" 3 [] 0 (.none) (.none) (.none) (.str "law_ij0222_01" 1489) none (.ref 927) (.none) #[]
noncomputable def o929 (P : Params) : Obj := ⟨.type "tuple", none, .seq #[] 0, #[]⟩
noncomputable def o930 (P : Params) : Obj := ⟨.none, none, .fields #[], #[]⟩
noncomputable def o931 (P : Params) : Obj := mkG (.none) none 56 1000 "_law_walk" "_law_walk" 0 [] 0 (.none) (.none) (.none) (.none) none (.none) (.none) #[]
noncomputable def o932 (P : Params) : Obj := ⟨.type "code", none, .fields #[.str "_law_walk" 1503, .str "_law_walk" 1504, .str "/claim/cut.py" 1505, .int (907) 0, .int (3) 0, .int (0) 0, .int (0) 0, .int (3) 0, .ref 929, .bool true, .int (318) 0, .ref 930, .none, .none, .none, .ref 931, .int (1506) 0, .int (907) 0, .str "/claim/cut.py" 1507], #[]⟩
noncomputable def o933 (P : Params) : Obj := mkG (.type "function") none 56 1000 "_law_walk" "_law_walk" 3 [] 0 (.none) (.none) (.none) (.str "law_ij0222_01" 1489) none (.ref 932) (.none) #[]
noncomputable def o934 (P : Params) : Obj := ⟨.type "tuple", none, .seq #[] 0, #[]⟩
noncomputable def o935 (P : Params) : Obj := ⟨.none, none, .fields #[], #[]⟩
noncomputable def o936 (P : Params) : Obj := mkG (.none) none 57 1000 "law" "law" 0 [] 0 (.none) (.none) (.none) (.none) none (.none) (.none) #[]
noncomputable def o937 (P : Params) : Obj := ⟨.type "code", none, .fields #[.str "law" 1509, .str "law" 1510, .str "/claim/cut.py" 1511, .int (912) 0, .int (1) 0, .int (0) 0, .int (0) 0, .int (3) 0, .ref 934, .bool true, .int (318) 0, .ref 935, .none, .none, .none, .ref 936, .int (1512) 0, .int (912) 0, .str "/claim/cut.py" 1513], #[]⟩
noncomputable def o938 (P : Params) : Obj := mkG (.type "function") none 57 1000 "law" "law" 3 [] 0 (.none) (.none) (.none) (.str "law_ij0222_01" 1489) none (.ref 937) (.none) #[]
noncomputable def T4 (P : Params) : BT := insL [o766 P, o767 P, o768 P, o769 P, o770 P, o771 P, o772 P, o773 P, o774 P, o775 P, o776 P, o777 P, o778 P, o779 P, o780 P, o781 P, o782 P, o783 P, o784 P, o785 P, o786 P, o787 P, o788 P, o789 P, o790 P, o791 P, o792 P, o793 P, o794 P, o795 P, o796 P, o797 P, o798 P, o799 P, o800 P, o801 P, o802 P, o803 P, o804 P, o805 P, o806 P, o807 P, o808 P, o809 P, o810 P, o811 P, o812 P, o813 P, o814 P, o815 P, o816 P, o817 P, o818 P, o819 P, o820 P, o821 P, o822 P, o823 P, o824 P, o825 P, o826 P, o827 P, o828 P, o829 P, o830 P, o831 P, o832 P, o833 P, o834 P, o835 P, o836 P, o837 P, o838 P, o839 P, o840 P, o841 P, o842 P, o843 P, o844 P, o845 P, o846 P, o847 P, o848 P, o849 P, o850 P, o851 P, o852 P, o853 P, o854 P, o855 P, o856 P, o857 P, o858 P, o859 P, o860 P, o861 P, o862 P, o863 P, o864 P, o865 P, o866 P, o867 P, o868 P, o869 P, o870 P, o871 P, o872 P, o873 P, o874 P, o875 P, o876 P, o877 P, o878 P, o879 P, o880 P, o881 P, o882 P, o883 P, o884 P, o885 P, o886 P, o887 P, o888 P, o889 P, o890 P, o891 P, o892 P, o893 P, o894 P, o895 P, o896 P, o897 P, o898 P, o899 P, o900 P, o901 P, o902 P, o903 P, o904 P, o905 P, o906 P, o907 P, o908 P, o909 P, o910 P, o911 P, o912 P, o913 P, o914 P, o915 P, o916 P, o917 P, o918 P, o919 P, o920 P, o921 P, o922 P, o923 P, o924 P, o925 P, o926 P, o927 P, o928 P, o929 P, o930 P, o931 P, o932 P, o933 P, o934 P, o935 P, o936 P, o937 P, o938 P] 766 (((T3 P).set 3 (fun _ => o3_4 P)).set 35 (fun _ => o35_4 P))
noncomputable def S4 (w : World) (os : OsState) : SharedT := ⟨T4 w.params, 939, {}, #[], {}, 1515, os⟩
noncomputable def p4 : Pos := ⟨912, 0, 934, 41⟩
end Mine
end
section
open PySem PySem.W PySem.Calls PyProof.Rows
set_option maxRecDepth 100000
namespace Mine
noncomputable def topRunT (tb : String → Option Builtin) (p : Program) (w : World) (n₀ : Nat) (ann : Option Value) : Nat → SharedT → Thread → Option SharedT
  | 0, _, _ => none
  | n + 1, s, t => match through t with
    | true => some s
    | false => match stepOk n₀ ann t with
      | false => none
      | true => match stepT (denote tb) p w s t with
        | some (s', t') => topRunT tb p w n₀ ann n s' t'
        | none => none
theorem topRunT_of {tb : String → Option Builtin} {p : Program} {w : World} {n₀ : Nat} {ann : Option Value} : ∀ (n : Nat) (s s' : SharedT) (t : Thread), topRunT tb p w n₀ ann n s t = some s' → topRun tb p w n₀ ann n s.abs t = some s'.abs
  | 0, _, _, _, h => by cases h
  | n + 1, s, s', t, h => by
    unfold topRunT at h
    unfold topRun
    cases ht : through t with
    | true => rw [ht] at h; cases h; rfl
    | false =>
      rw [ht] at h
      cases hk : stepOk n₀ ann t with
      | false => rw [hk] at h; cases h
      | true =>
        rw [hk] at h
        cases hs : stepT (denote tb) p w s t with
        | none => rw [hs] at h; cases h
        | some x =>
          obtain ⟨s₂, t₂⟩ := x
          rw [hs] at h
          rw [stepT_spec hs]
          exact topRunT_of n s₂ s' t₂ h
noncomputable def toTree : List Obj → Nat → BT → Option BT
  | [], _, t => some t
  | o :: l, n, t => match ((t.ins n o).get n).isSome with
    | true => toTree l (n + 1) (t.ins n o)
    | false => none
theorem toTree_of {life : Life} : ∀ (l : List Obj) (n : Nat) (t t' : BT), toTree l n t = some t' → (absHeap t' (n + l.length) life).objs = (absHeap t n life).objs ++ l.toArray
  | [], n, t, t', h => by cases h; simp
  | o :: l, n, t, t', h => by
    unfold toTree at h
    cases g : ((t.ins n o).get n).isSome with
    | false => rw [g] at h; cases h
    | true =>
      rw [g] at h
      have e := toTree_of (life := life) l (n + 1) _ _ h
      rw [absHeap_ins g] at e
      have : n + (o :: l).length = n + 1 + l.length := by simp only [List.length_cons]; omega
      rw [this, e]
      show (absHeap t n life).objs.push o ++ l.toArray = _
      simp
theorem toTree_abs {h : Heap} {t : BT} (e : toTree h.objs.toList 0 .nil = some t) : absHeap t h.objs.size h.life = h := by
  have q := toTree_of (life := h.life) _ _ _ _ e
  rw [Nat.zero_add, Array.length_toList] at q
  have z : (absHeap BT.nil 0 h.life).objs = #[] := rfl
  rw [z] at q
  obtain ⟨objs, life⟩ := h
  show Heap.mk _ _ = Heap.mk _ _
  exact congrArg (Heap.mk · life) (q.trans (by simp))
noncomputable abbrev NN : Nat := 13000
noncomputable def QV : Program := view PW [57]
noncomputable def QL : List Str := PW.boundNames.filter fun n => n != ("law" : Str)
noncomputable abbrev bT : List Stmt := behindTheImports PW
noncomputable def envT : Env := { scope := PW.main.scope, locals := mainNs, globals := mainNs, cells := [], code := .ref 36, frame := some 37 }
noncomputable abbrev cT : Code := .body bT envT
noncomputable abbrev fT : List Frame := [topFrame ⟨0, 0, 0, 0⟩]
noncomputable abbrev annT : Option Value := some (.ref 6)
noncomputable def topGoT (tb : String → Option Builtin) (p : Program) (w : World) (n₀ : Nat) (ann : Option Value) : Nat → SharedT → Thread → Option (SharedT × Thread)
  | 0, s, t => some (s, t)
  | n + 1, s, t => match through t with
    | true => none
    | false => match stepOk n₀ ann t with
      | false => none
      | true => match stepT (denote tb) p w s t with
        | some (s', t') => topGoT tb p w n₀ ann n s' t'
        | none => none
theorem topGoT_of {tb : String → Option Builtin} {p : Program} {w : World} {n₀ : Nat} {ann : Option Value} : ∀ (n : Nat) (s s' : SharedT) (t t' : Thread), topGoT tb p w n₀ ann n s t = some (s', t') → topGo tb p w n₀ ann n s.abs t = some (s'.abs, t')
  | 0, s, s', t, t', h => by cases h; rfl
  | n + 1, s, s', t, t', h => by
    unfold topGoT at h
    unfold topGo
    cases ht : through t with
    | true => rw [ht] at h; cases h
    | false =>
      rw [ht] at h
      cases hk : stepOk n₀ ann t with
      | false => rw [hk] at h; cases h
      | true =>
        rw [hk] at h
        cases hs : stepT (denote tb) p w s t with
        | none => rw [hs] at h; cases h
        | some x =>
          obtain ⟨s₂, t₂⟩ := x
          rw [hs] at h
          rw [stepT_spec hs]
          exact topGoT_of n s₂ s' t₂ t' h
noncomputable abbrev H0 (P : Params) : Heap := ⟨⟨L0 P⟩, {}⟩
end Mine
end
section
open PySem PySem.W PySem.Calls PyProof.Rows
set_option maxRecDepth 100000
namespace Mine
theorem hopen : ∀ w : World, (fencedOpening treeTable PW w NN).map (fun s => (s.heap, s.gens, s.drawn, s.toks)) = some (H0 w.params, #[], {}, 318) := fun w => by kernel_rfl
theorem hsize : ∀ w : World, ((H0 w.params).isNs mainGlobals && (#[] : Array GenState).size == 0, (H0 w.params).objs.size, (H0 w.params).nsMap mainGlobals "__annotations__") = (true, 34, annT) := fun w => by kernel_rfl
theorem hT0 : ∀ w : World, toTree (H0 w.params).objs.toList 0 .nil = some (T0 w.params) := fun w => by kernel_rfl
theorem hpre : ∀ (w : World) (os : OsState), topGoT treeTable PW w 34 annT 12 (S0 w os) (topStub PW) = some (S1 w os, ⟨denote treeTable cT, cT, p0, fT⟩) := fun w os => by kernel_rfl
theorem hblock : ∀ (w : World) (os : OsState), segRunT treeTable PW w 34 annT 1 1 (S1 w os) (blockOf bT envT cT p0 fT) = some (.next, S1 w os, cT, p1) := fun w os => by kernel_rfl
theorem seg1 : ∀ (w : World) (os : OsState), segRunT treeTable PW w 34 annT 1 2360 (S1 w os) (piecesOf ((bT.drop 0).take 34) envT cT p1 fT) = some (.next, S2 w os, cT, p2) := fun w os => by kernel_rfl
theorem seg2 : ∀ (w : World) (os : OsState), segRunT treeTable PW w 34 annT 1 2855 (S2 w os) (piecesOf ((bT.drop 34).take 2) envT cT p2 fT) = some (.next, S3 w os, cT, p3) := fun w os => by kernel_rfl
theorem seg3 : ∀ (w : World) (os : OsState), segRunT treeTable PW w 34 annT 1 1071 (S3 w os) (piecesOf ((bT.drop 36).take 20) envT cT p3 fT) = some (.next, S4 w os, cT, p4) := fun w os => by kernel_rfl
theorem chk : ∀ (w : World) (os : OsState), (topRunT treeTable PW w 34 annT 3 (S4 w os) ⟨doneF .next, cT, p4, fT⟩).map (fun s => (staticsOk (importedModules PW.main.body) (H0 w.params) s.abs.heap && namesBound PW s.abs.heap && gensDone s.abs && laidKept (H0 w.params) s.abs.heap, openSeen QV QL (importedModules PW.main.body) (fun _ => true) true s.abs, Kas.map s.abs.heap.get?))
      = some (true, openGood QV QL, (K w.params).map fun p => some p.2) := fun w os => by kernel_rfl
end Mine
end
section
open PySem PySem.W PySem.Calls PyProof.Rows
set_option maxRecDepth 100000
namespace Mine
theorem left_gen {p q : Program} {loose : List Str} {Xt : Shared → Bool} {α : Type} {Yf : Shared → α} {Ya : World → α} {N : Nat} {H₀ : Params → Heap} {gs₀ : Array GenState} {d₀ : Drawn} {k₀ : Nat} {m₀ : Nat} {ann : Option Value}
    (open_ : ∀ w : World, (fencedOpening treeTable p w N).map (fun s => (s.heap, s.gens, s.drawn, s.toks)) = some (H₀ w.params, gs₀, d₀, k₀))
    (size : ∀ w : World, ((H₀ w.params).isNs mainGlobals && gs₀.size == 0, (H₀ w.params).objs.size, (H₀ w.params).nsMap mainGlobals "__annotations__") = (true, m₀, ann))
    (run : ∀ (w : World) (os : OsState), ∃ s₁ : Shared, topRun treeTable p w m₀ ann N ⟨H₀ w.params, gs₀, d₀, k₀, os⟩ (topStub p) = some s₁ ∧
      (staticsOk (importedModules p.main.body) (H₀ w.params) s₁.heap && namesBound p s₁.heap && gensDone s₁ && laidKept (H₀ w.params) s₁.heap, openSeen q loose (importedModules p.main.body) Xt true s₁, Yf s₁) = (true, openGood q loose, Ya w)) : LeftO p q loose Xt Yf Ya N := fun w => by
  obtain ⟨⟨hp, gs, d, k, os⟩, e, e'⟩ := Option.map_eq_some_iff.mp (open_ w)
  obtain ⟨rfl, rfl, rfl, rfl⟩ : hp = H₀ w.params ∧ gs = gs₀ ∧ d = d₀ ∧ k = k₀ := by simpa only [Prod.mk.injEq] using e'
  obtain ⟨z1, z2, z3⟩ : _ ∧ _ ∧ _ := by simpa only [Prod.mk.injEq] using size w
  obtain ⟨s₁, r, l⟩ := run w os
  obtain ⟨l1, l2, l3⟩ : _ ∧ _ ∧ _ := by simpa only [Prod.mk.injEq] using l
  have t : topFrom treeTable p w N ⟨H₀ w.params, gs, d, k, os⟩ = some s₁ := by
    unfold topFrom
    dsimp only
    rw [z1, z2, z3, r]
    show (match staticsOk (importedModules p.main.body) (H₀ w.params) s₁.heap && namesBound p s₁.heap && gensDone s₁ && laidKept (H₀ w.params) s₁.heap with | true => _ | false => _) = _
    rw [l1]
  unfold openEnds
  rw [e]
  show (topFrom treeTable p w N _).map _ = _
  rw [t]
  exact congrArg some (Prod.ext l2 l3)
theorem abs_gen {h : Heap} {T : BT} {n : Nat} {gs : Array GenState} {d : Drawn} {k : Nat} {os : OsState} (e : toTree h.objs.toList 0 .nil = some T) (z : h.objs.size = n) : SharedT.abs ⟨T, n, h.life, gs, d, k, os⟩ = ⟨h, gs, d, k, os⟩ := by
  subst z
  show Shared.mk _ _ _ _ _ = _
  rw [toTree_abs e]
theorem run_gen {p : Program} {w : World} {n₀ : Nat} {ann : Option Value} {q : Pos} {env : Env} {s0 s1 s2 s3 s4 s5 : SharedT} {h : Heap} {l1 l2 l3 b : List Stmt} {q0 q1 q2 q3 q4 : Pos} {n1 n2 n3 N : Nat} {gs : Array GenState} {d : Drawn} {k : Nat} {os : OsState} {stub : Thread}
    (e0 : s0.abs = ⟨h, gs, d, k, os⟩)
    (pre : topGoT treeTable p w n₀ ann 12 s0 stub = some (s1, ⟨denote treeTable (.body b env), .body b env, q0, [topFrame q]⟩))
    (blk : segRunT treeTable p w n₀ ann 1 1 s1 (blockOf b env (.body b env) q0 [topFrame q]) = some (.next, s1, .body b env, q1))
    (g1 : segRunT treeTable p w n₀ ann 1 n1 s1 (piecesOf l1 env (.body b env) q1 [topFrame q]) = some (.next, s2, .body b env, q2))
    (g2 : segRunT treeTable p w n₀ ann 1 n2 s2 (piecesOf l2 env (.body b env) q2 [topFrame q]) = some (.next, s3, .body b env, q3))
    (g3 : segRunT treeTable p w n₀ ann 1 n3 s3 (piecesOf l3 env (.body b env) q3 [topFrame q]) = some (.next, s4, .body b env, q4))
    (fin : topRunT treeTable p w n₀ ann 3 s4 ⟨doneF .next, .body b env, q4, [topFrame q]⟩ = some s5)
    (eb : b = l1 ++ (l2 ++ (l3 ++ []))) (le : 12 + (1 + (n1 + (n2 + (n3 + 3)))) ≤ N) : topRun treeTable p w n₀ ann N ⟨h, gs, d, k, os⟩ stub = some s5.abs := by
  have k3 := piece_app (rest := []) (segRun_of g3) (piece_nil (topRunT_of _ _ _ _ fin))
  have k2 := piece_app (segRun_of g2) k3
  have k1 := piece_app (segRun_of g1) k2
  rw [← eb] at k1
  have kb := piece_block (segRun_of blk) k1
  have k0 := go_top (topGoT_of _ _ _ _ _ pre) kb
  have := topRun_mono (N - (12 + (1 + (n1 + (n2 + (n3 + 3)))))) _ _ _ _ k0
  rw [show 12 + (1 + (n1 + (n2 + (n3 + 3)))) + (N - (12 + (1 + (n1 + (n2 + (n3 + 3)))))) = N by omega, e0] at this
  exact this
theorem body_cut : bT = (bT.drop 0).take 34 ++ ((bT.drop 34).take 2 ++ ((bT.drop 36).take 20 ++ [])) := by
  have h : ∀ l : List Stmt, l.drop 56 = [] → l = (l.drop 0).take 34 ++ ((l.drop 34).take 2 ++ ((l.drop 36).take 20 ++ [])) := by
    intro l hl
    have e3 := List.take_append_drop 20 (l.drop 36)
    have e2 := List.take_append_drop 2 (l.drop 34)
    have e1 := List.take_append_drop 34 l
    rw [List.drop_drop] at e3 e2
    rw [show 36 + 20 = 56 from rfl, hl] at e3
    rw [show 34 + 2 = 36 from rfl] at e2
    rw [e3, e2, List.drop_zero, e1]
  exact h bT (by kernel_rfl)
theorem left0 : LeftO PW QV QL (fun _ => true) (fun s => Kas.map s.heap.get?) (fun w => (K w.params).map fun p => some p.2) NN := by
  refine left_gen hopen hsize fun w os => ?_
  obtain ⟨s₁, r, l⟩ := Option.map_eq_some_iff.mp (chk w os)
  have z2 : (H0 w.params).objs.size = 34 := congrArg (fun x => x.2.1) (hsize w)
  exact ⟨s₁.abs, run_gen (abs_gen (hT0 w) z2) (hpre w os) (hblock w os) (seg1 w os) (seg2 w os) (seg3 w os) r body_cut (by decide), l⟩
end Mine
end
section
open PySem PySem.W PySem.Calls PyProof.Rows
set_option maxRecDepth 100000
namespace Mine
theorem left : LeftO PW QV QL (fun _ => true) (kHook K Kas (fun _ => by kernel_rfl)).obs (kHook K Kas (fun _ => by kernel_rfl)).val NN := left0
theorem head (k1 : RR.row.wellSaid = true) (call : ∀ d kwd, defOf QV ("law" : Str) = some (d, kwd) → WalkO QV QL (fun _ _ => True) (fun w h => (K w.params).In h) RR.row.toRowW d kwd fun f vs => PySem.call f vs) : RR.row.Holds := by
  have hd : (defOf QV ("law" : Str)).isSome = true := by kernel_rfl
  obtain ⟨⟨d, kwd⟩, hdef⟩ := Option.isSome_iff_exists.mp hd
  have e1 : (defOf QV ("law" : Str)).map (fun x => ((PW.theDef ("law" : Str)), kwWritten? x.1.params.kwonlyargs x.1.params.kw_defaults)) = (defOf QV ("law" : Str)).map (fun x => (some (x.1.params, x.1.body, x.1.scope), some x.2)) := by kernel_rfl
  rw [hdef] at e1
  have e2 := Option.some.inj e1
  have hp : PW.theDef ("law" : Str) = some (d.params, d.body, d.scope) := congrArg Prod.fst e2
  have hk : kwWritten? d.params.kwonlyargs d.params.kw_defaults = some kwd := congrArg Prod.snd e2
  exact holds_open (r := RR.row) (q := QV) (loose := QL) (Xt := fun _ => true) (XP := fun _ _ => True) (Yf := (kHook K Kas (fun _ => by kernel_rfl)).obs) (Ya := (kHook K Kas (fun _ => by kernel_rfl)).val) (YP := fun w h => (K w.params).In h) (N := NN)
    left (kHook K Kas (fun _ => by kernel_rfl)).of (kHook K Kas (fun _ => by kernel_rfl)).keeps (fun _ _ => trivial) (fun _ _ _ _ _ => trivial) hdef hp hk (fun _ _ => recFacts_nil rfl) rfl k1 (by kernel_rfl) ⟨rfl, rfl, rfl, rfl, rfl, by kernel_rfl⟩ (by w_witness2) (call d kwd hdef)
end Mine
end
section
open PySem PySem.W PySem.Calls PyProof.Rows
set_option maxRecDepth 100000
namespace Mine
set_option maxHeartbeats 0 in
theorem ws : PySem.Challenge.rw_ij0222_01.wellSaid = true := by
  unfold OpenLaw.wellSaid OpenRow.wellSaid OpenRow.partSaid looksOpen
  repeat' (with_reducible refine look_both ?_ ?_)
  all_goals (as_aux_lemma => decide +kernel)
end Mine
end
section
open PySem PySem.W PySem.Calls PySem.Spec PyProof.Rows
set_option maxRecDepth 100000
namespace Mine
set_option maxHeartbeats 0 in
theorem lawW (plain : ∀ ns : List Int, ns.length ≤ 63 → Plain ns) : ∀ d kwd, defOf QV ("law" : Str) = some (d, kwd) → WalkO QV QL (fun _ _ => True) (fun w h => (K w.params).In h) RR.row.toRowW d kwd fun f vs => PySem.call f vs := by
  intro d kwd hdef
  have h : fnAt 57 1000 = some (⟨_, _, _, _, _, _, _⟩, (_ :: _ :: _ :: _ :: _ :: _ :: _ :: _ :: _ :: _ :: _ :: _ :: _ :: _ :: _ :: _ :: []), ⟨_, _, _, _, _⟩) := rfl
  have e1 : (defOf QV ("law" : Str)).map (fun x => (x.1.name, some (x.1.params, x.1.body, x.1.scope), x.2)) = some (("law" : Str), fnAt 57 1000, []) := by kernel_rfl
  rw [h, hdef] at e1
  clear h
  obtain ⟨n, P, B, S, pos⟩ := d
  simp only [Option.map_some, Option.some.injEq, Prod.mk.injEq] at e1
  obtain ⟨e2, ⟨e3, e4, e5⟩, e6⟩ := e1
  subst e2 e3 e4 e5 e6
  k_fill
  intro w s₀ s₁ mg mb G Y fa o pm cd doc dV kV ho hd hcd hD hmg hg args vals as hpre hlay hrd hwl hlo
  have KX : (K w.params).In s₁.heap := Y
  dsimp only at hd hcd hD hmg
  refine Ground.open G ?_
  intro T B D TE TW
  try (refine guard_noD D (by decide +kernel) ?_; clear D)
  obtain ⟨_, _, M⟩ := bmod_of_top T
  have TA := at_of_top T
  try (obtain ⟨_, _, he, B0⟩ := based_of_top T rfl hmg ho hd; have he' : cd = _ := he; subst he'; clear he)
  clear hmg
  wrow_args hpre hlay hrd hwl hlo
  all_goals (
    first | refine callC_kw (enter_call ?_) | refine enter_call ?_ | refine callC_kw (enter_callW ?_) | refine enter_callW ?_ | w_how
    w_top on
    try refine codeAny_mono ?_ (fun _ _ g => GoodW.toG g)
    have K0 := below_caller (Top.heap T)
    have he := Dflts.none hD rfl
    subst he
    have he := Dflts.noKw hD
    subst he
    refine call_cellsN (by decide) ho (fd_plain hd) (Top.nolimit T) hcd rfl (kinds_of (by kinds_ok)) (by decide) fun h₁ tk₁ cells F N0 X0 => ?_
    k_cells X0
    clear hd TA
    k_drop
    skip)
  all_goals (try k_fold)
  rename_i o1 o2 o3 o4 d1 d2 d3 d4
  rename IntsAre _ _ => hints
  rename Heap.IsList _ _ _ => hlist
  rename ¬ _ => hlen
  rename Fr _ _ _ _ => F
  rename News _ _ _ _ => N
  have h63 : List.length _ ≤ 63 := Nat.le_of_not_lt fun z => hlen (Int.ofNat_lt.mpr z)
  replace d1 : o1.data = .cell none := d1.trans (by kernel_rfl)
  replace d2 : o2.data = .cell none := d2.trans (by kernel_rfl)
  replace d3 : o3.data = .cell none := d3.trans (by kernel_rfl)
  refine lawRun w QV (looseW QV QL) (ExcName.means s₀.heap) mg mb s₁.heap s₁.heap.objs.size fa _ { s₁ with heap := h₁, toks := tk₁ } _ _ o1 o2 o3 o4 _ _ _ KX T K0 hlist hints h63 d1 d2 d3 (d4.trans (by kernel_rfl)) (plain _ h63) (cast (by kernel_rfl) F) N ?_
  intro h' tk' m' F'
  (try dsimp only)
  k_end
  wrow_close
end Mine
end
section
open PySem PySem.W PySem.Calls PySem.Spec PyProof.Rows
set_option maxRecDepth 100000
namespace Mine
noncomputable abbrev Row := List Str
noncomputable abbrev LtL (a b : Row) : Prop := ltL a b = true
theorem ltL_cons (x y : Str) (a b : Row) : ltL (x :: a) (y :: b) = if (x == y) = true then ltL a b else decide (x.cps.toList < y.cps.toList) := rfl
theorem ltL_app : ∀ (h a b : Row), ltL (h ++ a) (h ++ b) = ltL a b
  | [], _, _ => rfl
  | x :: h, a, b => by
    show ltL (x :: (h ++ a)) (x :: (h ++ b)) = _
    rw [ltL_cons, if_pos (by simp)]
    exact ltL_app h a b
theorem ltL_ext (h s : Row) (hs : s ≠ []) : ltL h (h ++ s) = true := by
  have := ltL_app h [] s
  rw [List.append_nil] at this
  rw [this]
  cases s with
  | nil => exact absurd rfl hs
  | cons => rfl
/-- strictly rising lists with the same members are the same -/
theorem rising_unique : ∀ {a b : List Row}, a.Pairwise LtL → b.Pairwise LtL → (∀ r, r ∈ a ↔ r ∈ b) → a = b
  | [], [], _, _, _ => rfl
  | [], y :: b, _, _, h => absurd ((h y).mpr (.head _)) (by simp)
  | x :: a, [], _, _, h => absurd ((h x).mp (.head _)) (by simp)
  | x :: a, y :: b, ha, hb, h => by
    have pa := List.pairwise_cons.mp ha
    have pb := List.pairwise_cons.mp hb
    have e : x = y := by
      rcases List.mem_cons.mp ((h x).mp (.head _)) with e | hx
      · exact e
      rcases List.mem_cons.mp ((h y).mpr (.head _)) with e | hy
      · exact e.symm
      have h1 := pb.1 x hx
      have h2 := pa.1 y hy
      rw [LtL, ltL_asym h2] at h1
      cases h1
    subst e
    have irr : ∀ {l : List Row}, (∀ r ∈ l, LtL x r) → x ∉ l := fun hl hx => by
      have := hl x hx
      rw [LtL, ltL_irrefl] at this
      cases this
    rw [rising_unique pa.2 pb.2 fun r => ?_]
    constructor
    · intro hr
      rcases List.mem_cons.mp ((h r).mp (.tail _ hr)) with e | z
      · exact absurd (e ▸ hr) (irr pa.1)
      · exact z
    · intro hr
      rcases List.mem_cons.mp ((h r).mpr (.tail _ hr)) with e | z
      · exact absurd (e ▸ hr) (irr pb.1)
      · exact z
theorem rising_nodup {a : List Row} (h : a.Pairwise LtL) : a.Nodup := h.imp fun {x y} hxy e => by
  subst e
  rw [LtL, ltL_irrefl] at hxy
  cases hxy
theorem nodup_len {α : Type} [DecidableEq α] : ∀ {a b : List α}, a.Nodup → (∀ x ∈ a, x ∈ b) → a.length ≤ b.length
  | [], _, _, _ => Nat.zero_le _
  | x :: a, b, hn, h => by
    have hx := h x (.head _)
    have hn' := List.nodup_cons.mp hn
    have := nodup_len (a := a) (b := b.erase x) hn'.2 fun y hy => (List.mem_erase_of_ne (show y ≠ x from fun e => hn'.1 (by rw [← e]; exact hy))).mpr (h y (.tail _ hy))
    have hl := List.length_erase_of_mem hx
    have hp : 0 < b.length := List.length_pos_of_mem hx
    simp only [List.length_cons]
    omega
structure TreeOk (T : List Row) : Prop where
  nd : T.Nodup
  ne : ∀ r ∈ T, r ≠ []
  le : ∀ r ∈ T, r.length ≤ 3
  cl : ∀ r ∈ T, r.dropLast = [] ∨ r.dropLast ∈ T
noncomputable def lastR (r : Row) : Str := r.getLastD (Str.ofString "")
theorem snoc_lastR {r : Row} (h : r ≠ []) : r.dropLast ++ [lastR r] = r := by
  rcases List.eq_nil_or_concat r with rfl | ⟨l, b, rfl⟩
  · exact absurd rfl h
  · simp [lastR]
noncomputable def kidsR (T : List Row) (h : Row) : List Str := (T.filter fun r => r.dropLast == h).map lastR
theorem mem_kids {T : List Row} (ok : TreeOk T) {h : Row} {z : Str} : z ∈ kidsR T h ↔ h ++ [z] ∈ T := by
  unfold kidsR
  simp only [List.mem_map, List.mem_filter, beq_iff_eq]
  constructor
  · rintro ⟨r, ⟨hr, e⟩, rfl⟩
    rw [← e, snoc_lastR (ok.ne r hr)]
    exact hr
  · intro hz
    exact ⟨h ++ [z], ⟨hz, by simp⟩, by simp [lastR]⟩
theorem nodup_map_on {α β : Type} {f : α → β} : ∀ {l : List α}, (∀ x ∈ l, ∀ y ∈ l, f x = f y → x = y) → l.Nodup → (l.map f).Nodup
  | [], _, _ => List.nodup_nil
  | x :: l, h, hn => by
    have hn' := List.nodup_cons.mp hn
    refine List.nodup_cons.mpr ⟨fun hx => ?_, nodup_map_on (fun a ha b hb => h a (.tail _ ha) b (.tail _ hb)) hn'.2⟩
    obtain ⟨y, hy, e⟩ := List.mem_map.mp hx
    exact hn'.1 (h x (.head _) y (.tail _ hy) e.symm ▸ hy)
theorem nodup_kids {T : List Row} (ok : TreeOk T) (h : Row) : (kidsR T h).Nodup := by
  unfold kidsR
  refine nodup_map_on (fun x hx y hy e => ?_) (ok.nd.sublist List.filter_sublist)
  simp only [List.mem_filter, beq_iff_eq] at hx hy
  rw [← snoc_lastR (ok.ne x hx.1), ← snoc_lastR (ok.ne y hy.1), hx.2, hy.2, e]
noncomputable def walkR (T : List Row) (hid : List Str) : Nat → Row → List Row
  | 0, _ => []
  | n + 1, h => (sortF ((kidsR T h).filter (vis hid))).flatMap fun z => (h ++ [z]) :: walkR T hid n (h ++ [z])
theorem mem_sortF {l : List Str} {z : Str} : z ∈ sortF l ↔ z ∈ l := List.mem_mergeSort
theorem mem_walk {T : List Row} (ok : TreeOk T) {hid : List Str} : ∀ {n : Nat} {h r : Row}, r ∈ walkR T hid n h ↔ ∃ s, s ≠ [] ∧ s.length ≤ n ∧ r = h ++ s ∧ (∀ z ∈ s, vis hid z = true) ∧ ∀ k, 1 ≤ k → k ≤ s.length → h ++ s.take k ∈ T
  | 0, h, r => by
    constructor
    · intro hr; exact absurd hr (List.not_mem_nil)
    · rintro ⟨s, hs, hl, _⟩
      exact absurd (List.length_eq_zero_iff.mp (Nat.le_zero.mp hl)) hs
  | n + 1, h, r => by
    unfold walkR
    simp only [List.mem_flatMap, mem_sortF, List.mem_filter, mem_kids ok, List.mem_cons]
    constructor
    · rintro ⟨z, ⟨hz, hv⟩, rfl | hr⟩
      · refine ⟨[z], by simp, by simp, rfl, by simpa using hv, fun k h1 h2 => ?_⟩
        have : k = 1 := by simp at h2; omega
        subst this
        exact hz
      · obtain ⟨s, hs, hl, rfl, hvs, hT⟩ := (mem_walk ok).mp hr
        refine ⟨z :: s, by simp, by simp; omega, by simp, ?_, fun k h1 h2 => ?_⟩
        · intro y hy
          rcases List.mem_cons.mp hy with rfl | hy
          · exact hv
          · exact hvs y hy
        · cases k with
          | zero => omega
          | succ k =>
            cases k with
            | zero => simpa using hz
            | succ k =>
              have := hT (k + 1) (by omega) (by simp at h2; omega)
              simpa using this
    · rintro ⟨s, hs, hl, rfl, hvs, hT⟩
      cases s with
      | nil => exact absurd rfl hs
      | cons z s =>
        refine ⟨z, ⟨by simpa using hT 1 (by omega) (by simp), hvs z (.head _)⟩, ?_⟩
        cases s with
        | nil => exact .inl rfl
        | cons y s =>
          refine .inr ((mem_walk ok).mpr ⟨y :: s, by simp, by simp at hl ⊢; omega, by simp, fun x hx => hvs x (.tail _ hx), fun k h1 h2 => ?_⟩)
          have := hT (k + 1) (by omega) (by simp at h2 ⊢; omega)
          simpa using this
theorem sortF_rise {l : List Str} (hn : l.Nodup) : (sortF l).Pairwise fun a b => decide (a.cps.toList < b.cps.toList) = true := by
  have h1 := sortF_pw l
  have h2 : (sortF l).Nodup := (List.mergeSort_perm l leS).nodup_iff.mpr hn
  refine (h1.and h2).imp fun {a b} ⟨h, hne⟩ => ?_
  by_cases hlt : a.cps.toList < b.cps.toList
  · exact decide_eq_true hlt
  · exfalso
    refine hne (leS_anti h ?_)
    unfold leS
    simp [hlt]
theorem walk_rise {T : List Row} (ok : TreeOk T) {hid : List Str} : ∀ {n : Nat} {h : Row}, (walkR T hid n h).Pairwise LtL
  | 0, _ => .nil
  | n + 1, h => by
    unfold walkR
    rw [List.pairwise_flatMap]
    refine ⟨fun z hz => ?_, ?_⟩
    · refine List.pairwise_cons.mpr ⟨fun r hr => ?_, walk_rise ok⟩
      obtain ⟨s, hs, _, rfl, _⟩ := (mem_walk ok).mp hr
      exact ltL_ext _ s hs
    · refine (sortF_rise ((nodup_kids ok h).sublist List.filter_sublist)).imp fun {a b} hab x hx y hy => ?_
      have sh : ∀ {z : Str} {r : Row}, r ∈ (h ++ [z]) :: walkR T hid n (h ++ [z]) → ∃ s, r = h ++ (z :: s) := by
        intro z r hr
        rcases List.mem_cons.mp hr with rfl | hr
        · exact ⟨[], rfl⟩
        · obtain ⟨s, _, _, rfl, _⟩ := (mem_walk ok).mp hr
          exact ⟨s, by simp⟩
      obtain ⟨s, rfl⟩ := sh hx
      obtain ⟨u, rfl⟩ := sh hy
      show ltL _ _ = true
      rw [ltL_app, ltL_cons, if_neg, hab]
      intro e
      rw [eq_of_beq e] at hab
      exact absurd (of_decide_eq_true hab) (List.lt_irrefl _)
theorem pref_in {T : List Row} (ok : TreeOk T) : ∀ (j : Nat) {r : Row}, r ∈ T → ∀ k, 1 ≤ k → k ≤ r.length → r.length = k + j → r.take k ∈ T
  | 0, r, hr, k, _, _, e => by rw [List.take_of_length_le (by omega)]; exact hr
  | j + 1, r, hr, k, h1, h2, e => by
    have hd : r.dropLast.length = r.length - 1 := List.length_dropLast
    rcases ok.cl r hr with z | z
    · rw [z] at hd; simp at hd; omega
    · have := pref_in ok j z k h1 (by omega) (by omega)
      rwa [List.dropLast_eq_take, List.take_take, show min k (r.length - 1) = k by omega] at this
theorem mem_walk0 {T : List Row} (ok : TreeOk T) {hid : List Str} {n : Nat} (hn : 3 ≤ n) {r : Row} : r ∈ walkR T hid n [] ↔ r ∈ T ∧ ∀ z ∈ r, vis hid z = true := by
  rw [mem_walk ok]
  constructor
  · rintro ⟨s, hs, _, e, hv, hT⟩
    rw [List.nil_append] at e
    subst e
    have := hT r.length (by cases r with | nil => exact absurd rfl hs | cons => simp) (Nat.le_refl _)
    rw [List.take_length] at this
    exact ⟨this, hv⟩
  · rintro ⟨hr, hv⟩
    exact ⟨r, ok.ne r hr, Nat.le_trans (ok.le r hr) hn, rfl, hv, fun k h1 h2 => pref_in ok (r.length - k) hr k h1 h2 (by omega)⟩
theorem walk_len {T : List Row} (ok : TreeOk T) {hid : List Str} {n : Nat} {h : Row} : (walkR T hid n h).length ≤ T.length := by
  refine nodup_len (rising_nodup (walk_rise ok)) fun r hr => ?_
  obtain ⟨s, hs, _, rfl, _, hT⟩ := (mem_walk ok).mp hr
  have := hT s.length (by cases s with | nil => exact absurd rfl hs | cons => simp) (Nat.le_refl _)
  rwa [List.take_length] at this
/-- the tree that the law builds, by rows -/
noncomputable def climbR : Nat → List Row → Row → List Row
  | 0, tr, _ => tr
  | n + 1, tr, r => if r = [] then tr else if r ∈ tr then tr else climbR n (tr ++ [r]) r.dropLast
noncomputable def treeR (l : List Row) : List Row := l.foldl (climbR 5) []
structure Part (tr : List Row) (r : Row) : Prop where
  nd : tr.Nodup
  ne : ∀ x ∈ tr, x ≠ []
  le : ∀ x ∈ tr, x.length ≤ 3
  cl : ∀ x ∈ tr, x.dropLast = [] ∨ x.dropLast ∈ tr ∨ x.dropLast = r
theorem climb_ok : ∀ {n : Nat} {tr : List Row} {r : Row}, r.length ≤ n → r.length ≤ 3 → Part tr r → TreeOk (climbR n tr r)
  | 0, tr, r, h, _, p => by
    have : r = [] := List.length_eq_zero_iff.mp (Nat.le_zero.mp h)
    subst this
    exact ⟨p.nd, p.ne, p.le, fun x hx => (p.cl x hx).elim .inl fun z => z.elim .inr .inl⟩
  | n + 1, tr, r, h, h3, p => by
    unfold climbR
    split
    · rename_i e; subst e
      exact ⟨p.nd, p.ne, p.le, fun x hx => (p.cl x hx).elim .inl fun z => z.elim .inr .inl⟩
    split
    · rename_i hr
      exact ⟨p.nd, p.ne, p.le, fun x hx => (p.cl x hx).elim .inl fun z => z.elim .inr fun e => .inr (e ▸ hr)⟩
    · rename_i hne hr
      have hd : r.dropLast.length = r.length - 1 := List.length_dropLast
      refine climb_ok (by omega) (by omega) ⟨?_, ?_, ?_, ?_⟩
      · rw [List.nodup_append]
        refine ⟨p.nd, by simp, fun a ha b hb => ?_⟩
        rw [List.mem_singleton] at hb
        subst hb
        exact fun e => hr (e ▸ ha)
      · intro x hx
        rcases List.mem_append.mp hx with hx | hx
        · exact p.ne x hx
        · rw [List.mem_singleton.mp hx]; exact hne
      · intro x hx
        rcases List.mem_append.mp hx with hx | hx
        · exact p.le x hx
        · rw [List.mem_singleton.mp hx]; exact h3
      · intro x hx
        rcases List.mem_append.mp hx with hx | hx
        · rcases p.cl x hx with z | z | z
          · exact .inl z
          · exact .inr (.inl (List.mem_append_left _ z))
          · exact .inr (.inl (List.mem_append_right _ (List.mem_singleton.mpr z)))
        · rw [List.mem_singleton.mp hx]; exact .inr (.inr rfl)
theorem part_of {tr : List Row} (ok : TreeOk tr) (r : Row) : Part tr r := ⟨ok.nd, ok.ne, ok.le, fun x hx => (ok.cl x hx).elim .inl fun z => .inr (.inl z)⟩
theorem climb_sub : ∀ {n : Nat} {tr : List Row} {r : Row} {P : Row → Prop}, (∀ x ∈ tr, P x) → (∀ x, P x → P x.dropLast) → P r → ∀ x ∈ climbR n tr r, P x
  | 0, _, _, _, h, _, _ => h
  | n + 1, tr, r, P, h, hd, hr => by
    unfold climbR
    split
    · exact h
    split
    · exact h
    · refine climb_sub (fun x hx => ?_) hd (hd r hr)
      rcases List.mem_append.mp hx with hx | hx
      · exact h x hx
      · rw [List.mem_singleton.mp hx]; exact hr
theorem climb_mono : ∀ {n : Nat} {tr : List Row} {r x : Row}, x ∈ tr → x ∈ climbR n tr r
  | 0, _, _, _, h => h
  | n + 1, tr, r, x, h => by
    unfold climbR
    split
    · exact h
    split
    · exact h
    · exact climb_mono (List.mem_append_left _ h)
theorem climb_self {n : Nat} {tr : List Row} {r : Row} (h : r ≠ []) : r ∈ climbR (n + 1) tr r := by
  unfold climbR
  rw [if_neg h]
  split
  · assumption
  · exact climb_mono (List.mem_append_right _ (List.mem_singleton.mpr rfl))
theorem climb_len3 : ∀ {n : Nat} {tr : List Row} {r : Row}, (climbR n tr r).length ≤ tr.length + r.length
  | 0, tr, r => Nat.le_add_right _ _
  | n + 1, tr, r => by
    unfold climbR
    split
    · exact Nat.le_add_right _ _
    split
    · exact Nat.le_add_right _ _
    · rename_i hne _
      have hd : r.dropLast.length = r.length - 1 := List.length_dropLast
      have hp : 0 < r.length := List.length_pos_iff.mpr hne
      have := climb_len3 (n := n) (tr := tr ++ [r]) (r := r.dropLast)
      simp only [List.length_append, List.length_singleton] at this
      omega
theorem fold_ok : ∀ {l : List Row} {tr : List Row}, (∀ r ∈ l, r.length ≤ 3) → TreeOk tr → TreeOk (l.foldl (climbR 5) tr)
  | [], _, _, ok => ok
  | r :: l, tr, h, ok => by
    show TreeOk (l.foldl (climbR 5) (climbR 5 tr r))
    have h3 := h r (.head _)
    exact fold_ok (fun x hx => h x (.tail _ hx)) (climb_ok (Nat.le_trans h3 (by decide)) h3 (part_of ok r))
theorem tree_ok {l : List Row} (h : ∀ r ∈ l, r.length ≤ 3) : TreeOk (treeR l) := fold_ok h ⟨List.nodup_nil, by simp, by simp, by simp⟩
theorem fold_sub {P : Row → Prop} (hd : ∀ x, P x → P x.dropLast) : ∀ {l : List Row} {tr : List Row}, (∀ r ∈ l, P r) → (∀ x ∈ tr, P x) → ∀ x ∈ l.foldl (climbR 5) tr, P x
  | [], _, _, h => h
  | r :: l, tr, hl, h => by
    show ∀ x ∈ l.foldl (climbR 5) (climbR 5 tr r), P x
    exact fold_sub hd (fun x hx => hl x (.tail _ hx)) (climb_sub h hd (hl r (.head _)))
theorem fold_mono : ∀ {l : List Row} {tr : List Row} {x : Row}, x ∈ tr → x ∈ l.foldl (climbR 5) tr
  | [], _, _, h => h
  | r :: l, tr, x, h => by
    show x ∈ l.foldl (climbR 5) (climbR 5 tr r)
    exact fold_mono (climb_mono h)
theorem fold_has : ∀ {l : List Row} {tr : List Row} {r : Row}, r ∈ l → r ≠ [] → r ∈ l.foldl (climbR 5) tr
  | x :: l, tr, r, h, hne => by
    show r ∈ l.foldl (climbR 5) (climbR 5 tr x)
    rcases List.mem_cons.mp h with rfl | h
    · exact fold_mono (climb_self hne)
    · exact fold_has h hne
theorem fold_len : ∀ {l : List Row} {tr : List Row}, (∀ r ∈ l, r.length ≤ 3) → (l.foldl (climbR 5) tr).length ≤ tr.length + 3 * l.length
  | [], _, _ => Nat.le_add_right _ _
  | r :: l, tr, h => by
    have h1 := fold_len (l := l) (tr := climbR 5 tr r) fun x hx => h x (.tail _ hx)
    have h2 := climb_len3 (n := 5) (tr := tr) (r := r)
    have h3 := h r (.head _)
    show (l.foldl (climbR 5) (climbR 5 tr r)).length ≤ _
    simp only [List.length_cons]
    omega
end Mine
end
section
open PySem PySem.W PySem.Calls PySem.Spec PyProof.Rows PySem.Builtin PySem.Builtin.Re
set_option maxRecDepth 100000
namespace Mine
noncomputable abbrev safeC : List Nat := [97, 45, 46, 47]
noncomputable abbrev badC : List Nat := [32, 35, 39]
noncomputable abbrev oddC : List Nat := [98, 99, 105, 116, 115]
theorem set_safe (c : Nat) (h : c ∈ safeC ++ oddC) (i : Nat) (hi : i = 5 ∨ i = 20) (seen : Sre.Seen) : ∃ s', Sre.inSet codeA c codeA.size i true seen = .ok (false, s') := by
  simp only [List.mem_cons, List.cons_append, List.nil_append, List.not_mem_nil, or_false] at h
  rcases hi with rfl | rfl <;> rcases h with rfl | rfl | rfl | rfl | rfl | rfl | rfl | rfl | rfl <;> exact ⟨_, rfl⟩
theorem set_bad (c : Nat) (h : c ∈ badC) (i : Nat) (hi : i = 5 ∨ i = 20) (seen : Sre.Seen) : ∃ s', Sre.inSet codeA c codeA.size i true seen = .ok (true, s') := by
  simp only [List.mem_cons, List.not_mem_nil, or_false] at h
  rcases hi with rfl | rfl <;> rcases h with rfl | rfl | rfl <;> exact ⟨_, rfl⟩
theorem adm_none (m : Sre.M) (hc : m.code = codeA) : ∀ (fuel s : Nat) (seen : Sre.Seen), (∀ j, s ≤ j → j < m.lim → m.text.getD j 0 ∈ safeC ++ oddC) → ∃ s', m.admitted fuel s seen = .ok (none, s')
  | 0, _, _, _ => ⟨_, rfl⟩
  | fuel + 1, s, seen, h => by
    unfold Sre.M.admitted
    by_cases hs : s ≥ m.lim
    · rw [if_pos hs]; exact ⟨_, rfl⟩
    · rw [if_neg hs, hc]
      obtain ⟨s1, e⟩ := set_safe _ (h s (Nat.le_refl _) (Nat.lt_of_not_le hs)) 5 (.inl rfl) seen
      rw [e]
      exact adm_none m hc fuel (s + 1) s1 fun j hj => h j (Nat.le_of_succ_le hj)
theorem adm_some (m : Sre.M) (hc : m.code = codeA) (ha : ∀ j, j < m.lim → m.text.getD j 0 ∈ (safeC ++ oddC) ++ badC) : ∀ (fuel s : Nat) (seen : Sre.Seen), m.lim < s + fuel → (∃ j, s ≤ j ∧ j < m.lim ∧ m.text.getD j 0 ∈ badC) →
    ∃ i s', i < m.lim ∧ m.text.getD i 0 ∈ badC ∧ m.admitted fuel s seen = .ok (some i, s')
  | 0, s, _, hf, ⟨j, h1, h2, _⟩ => by omega
  | fuel + 1, s, seen, hf, ⟨j, h1, h2, h3⟩ => by
    unfold Sre.M.admitted
    have hs : ¬ s ≥ m.lim := by omega
    rw [if_neg hs, hc]
    rcases List.mem_append.mp (ha s (Nat.lt_of_not_le hs)) with hz | hz
    · obtain ⟨s1, e⟩ := set_safe _ hz 5 (.inl rfl) seen
      rw [e]
      refine adm_some m hc ha fuel (s + 1) s1 (by omega) ⟨j, ?_, h2, h3⟩
      rcases Nat.lt_or_ge s j with q | q
      · exact q
      · exfalso
        have : j = s := Nat.le_antisymm q h1
        subst this
        have hno : ∀ c ∈ badC, c ∉ safeC ++ oddC := by decide
        exact hno _ h3 hz
    · obtain ⟨s1, e⟩ := set_bad _ hz 5 (.inl rfl) seen
      rw [e]
      exact ⟨s, s1, Nat.lt_of_not_le hs, hz, rfl⟩
noncomputable def m0 (w : Str) : Sre.M := { code := codeA, text := w.cps, lim := min (Int.toNat (2 ^ 63 - 1)) w.cps.size, start := 0, lastStart := min (Int.toNat (2 ^ 63 - 1)) w.cps.size, pc := 18, pos := 0, handed := 0, marks := #[], seen := ({} : Sre.Seen).add 14 }
theorem srch_eq (w : Str) (h : 1 ≤ min (Int.toNat (2 ^ 63 - 1)) w.cps.size) : srchM w = (m0 w).attemptFrom 0 true := by
  unfold srchM Sre.forSearch
  dsimp only
  rw [if_neg]
  · rfl
  · have e : min (Int.toNat 0) w.cps.size = 0 := Nat.zero_min _
    rw [e]
    have z : (Sre.header codeA).1 = 1 := rfl
    rw [z]
    simp only [Bool.or_eq_true, decide_eq_true_eq]
    omega
theorem exec_in (m : Sre.M) (h : m.word 0 = 13) (hp : ¬ m.pos ≥ m.lim) {seen' : Sre.Seen} (ha : Sre.accepts m.code m.pc (m.text.getD m.pos 0) (m.seen.add 13) = .ok (true, seen')) :
    m.exec = { m with seen := seen', pc := m.pc + Sre.itemWidth m.code m.pc, pos := m.pos + 1 } := by
  unfold Sre.M.exec
  rw [h]
  show (if m.pos ≥ m.lim then _ else match Sre.accepts m.code m.pc (m.text.getD m.pos 0) (m.seen.add 13) with | .error why => _ | .ok (false, seen) => _ | .ok (true, seen) => _) = _
  rw [if_neg hp, ha]
theorem outc_bad {w : Str} (hl : w.cps.size ≤ 1000000) (ha : ∀ c ∈ w.cps.toList, c ∈ (safeC ++ oddC) ++ badC) (hb : ∃ c ∈ w.cps.toList, c ∈ badC) : outc w = 1 := by
  have hlim : min (Int.toNat (2 ^ 63 - 1)) w.cps.size = w.cps.size := Nat.min_eq_right (Nat.le_trans hl (by decide))
  have hg : ∀ j, j < w.cps.size → w.cps.getD j 0 ∈ w.cps.toList := fun j hj => by
    rw [Array.getD_eq_getD_getElem?, Array.getElem?_eq_getElem hj]
    exact Array.mem_toList_iff.mpr (Array.getElem_mem hj)
  obtain ⟨c, hc, hcb⟩ := hb
  obtain ⟨j, hj, e⟩ := List.mem_iff_getElem.mp hc
  have hj' : j < w.cps.size := by simpa using hj
  have ej : w.cps.getD j 0 = c := by
    rw [Array.getD_eq_getD_getElem?, Array.getElem?_eq_getElem hj']
    simpa using e
  obtain ⟨i, s', hi, hib, hadm⟩ := adm_some (m0 w) rfl (fun k hk => ha _ (hg k (by rw [← hlim]; exact hk))) ((m0 w).lim + 1 - 0) 0 (m0 w).seen (by omega) ⟨j, Nat.zero_le _, by show j < min _ _; rw [hlim]; exact hj', by show w.cps.getD j 0 ∈ badC; rw [ej]; exact hcb⟩
  have hi' : i < w.cps.size := by rw [← hlim]; exact hi
  have hs : srchM w = ({ m0 w with mustAdvance := false, seen := s' } : Sre.M).attemptAt i true := by
    rw [srch_eq w (by rw [hlim]; omega)]
    unfold Sre.M.attemptFrom
    rw [if_neg (show ¬ (!(m0 w).hasFirstSet) = true from Bool.false_ne_true), hadm]
  obtain ⟨s2, e2⟩ := set_bad _ hib 20 (.inr rfl) (s'.add 13)
  unfold outc
  rw [hs]
  have e3 : (({ m0 w with mustAdvance := false, seen := s' } : Sre.M).attemptAt i true).exec = _ := exec_in _ rfl (Nat.not_le.mpr hi) (seen' := s2) e2
  have e1 : (({ m0 w with mustAdvance := false, seen := s' } : Sre.M).attemptAt i true).runFor reTurnSteps = ((({ m0 w with mustAdvance := false, seen := s' } : Sre.M).attemptAt i true).exec).runFor 3 := rfl
  rw [e3] at e1
  unfold driveP
  rw [e1]
  rfl
theorem outc_safe {w : Str} (hl : w.cps.size ≤ 1000000) (h1 : 1 ≤ w.cps.size) (ha : ∀ c ∈ w.cps.toList, c ∈ safeC) : outc w = 2 := by
  have hlim : min (Int.toNat (2 ^ 63 - 1)) w.cps.size = w.cps.size := Nat.min_eq_right (Nat.le_trans hl (by decide))
  have hg : ∀ j, j < w.cps.size → w.cps.getD j 0 ∈ w.cps.toList := fun j hj => by
    rw [Array.getD_eq_getD_getElem?, Array.getElem?_eq_getElem hj]
    exact Array.mem_toList_iff.mpr (Array.getElem_mem hj)
  obtain ⟨s', hadm⟩ := adm_none (m0 w) rfl ((m0 w).lim + 1 - 0) 0 (m0 w).seen (fun j _ hj => List.mem_append_left _ (ha _ (hg j (by rw [← hlim]; exact hj))))
  have hs : srchM w = ({ m0 w with seen := s' } : Sre.M).say false := by
    rw [srch_eq w (by rw [hlim]; omega)]
    unfold Sre.M.attemptFrom
    rw [if_neg (show ¬ (!(m0 w).hasFirstSet) = true from Bool.false_ne_true), hadm]
  unfold outc
  rw [hs]
  rfl
end Mine
end
section
open PySem PySem.W PySem.Calls PySem.Spec PyProof.Rows
set_option maxRecDepth 100000
namespace Mine
structure WordOk (w : Str) : Prop where
  ne : w.cps.toList ≠ []
  len : w.cps.toList.length ≤ 200
  abc : (∀ c ∈ w.cps.toList, c ∈ safeC) ∨ ((∀ c ∈ w.cps.toList, c ∈ (safeC ++ oddC) ++ badC) ∧ ∃ c ∈ w.cps.toList, c ∈ badC)
noncomputable def encC (c : Nat) : List Nat := if c = 39 then [39, 34, 39, 34, 39] else [c]
noncomputable def enc (l : List Nat) : List Nat := l.flatMap encC
theorem enc_free (l : List Nat) (h : 39 ∉ l) : enc l = l := by
  induction l with
  | nil => rfl
  | cons a l ih =>
    have h1 : ¬ a = 39 := fun e => h (e ▸ .head _)
    show encC a ++ enc l = _
    rw [ih fun m => h (.tail _ m)]
    unfold encC
    rw [if_neg h1]; rfl
theorem enc_app (a b : List Nat) : enc (a ++ b) = enc a ++ enc b := List.flatMap_append
theorem enc_join : ∀ parts : List Str, (∀ p ∈ parts, 39 ∉ p.cps.toList) → enc (Str.join ⟨#[39]⟩ parts).cps.toList = (Str.join ⟨#[39, 34, 39, 34, 39]⟩ parts).cps.toList
  | [], _ => rfl
  | [p], h => enc_free _ (h p (List.mem_singleton.mpr rfl))
  | p :: q :: r, h => by
    have ih := enc_join (q :: r) fun a ha => h a (List.mem_cons_of_mem _ ha)
    show enc (p ++ ⟨#[39]⟩ ++ Str.join ⟨#[39]⟩ (q :: r)).cps.toList = (p ++ ⟨#[39, 34, 39, 34, 39]⟩ ++ Str.join ⟨#[39, 34, 39, 34, 39]⟩ (q :: r)).cps.toList
    simp only [Str.cps_append, Array.toList_append]
    rw [enc_app, enc_app, ih, enc_free _ (h p (List.mem_cons_self ..))]
    rfl
theorem replace_enc (x : Str) : (Txt.replace x (Str.ofString "'") (Str.ofString "'\"'\"'")).cps.toList = enc x.cps.toList := by
  have e1 : Str.ofString "'" = ⟨#[39]⟩ := by decide +kernel
  have e2 : Str.ofString "'\"'\"'" = ⟨#[39, 34, 39, 34, 39]⟩ := by decide +kernel
  rw [e1, e2, StrLaws.replace_one, ← enc_join _ (StrLaws.split_free x 39), StrLaws.join_split]
theorem quote_safe {w : Str} (ok : WordOk w) (h : ∀ c ∈ w.cps.toList, c ∈ safeC) : outc w = 2 := by
  refine outc_safe ?_ ?_ h
  · have := ok.len; rw [Array.length_toList] at this; omega
  · have := List.length_pos_iff.mpr ok.ne; rw [Array.length_toList] at this; omega
theorem quote_bad {w : Str} (ok : WordOk w) (h : ∀ c ∈ w.cps.toList, c ∈ (safeC ++ oddC) ++ badC) (hb : ∃ c ∈ w.cps.toList, c ∈ badC) : outc w = 1 := by
  refine outc_bad ?_ h hb
  have := ok.len; rw [Array.length_toList] at this; omega
theorem enc_len (l : List Nat) : (enc l).length ≤ 5 * l.length := by
  induction l with
  | nil => exact Nat.le_refl _
  | cons a l ih =>
    show (encC a ++ enc l).length ≤ _
    rw [List.length_append, List.length_cons]
    have : (encC a).length ≤ 5 := by unfold encC; split <;> simp
    omega
theorem word_q {w : Str} (ok : WordOk w) : QOk w := by
  have hl : w.length ≤ 200 := by have := ok.len; rw [Array.length_toList] at this; exact this
  refine ⟨?_, by omega, ?_⟩
  · have := List.length_pos_iff.mpr ok.ne
    rw [Array.length_toList] at this
    have h2 : 0 < w.length := this
    simp only [bne_iff_ne, ne_eq]
    omega
  · rcases ok.abc with h | ⟨h, hb⟩
    · exact .inl (quote_safe ok h)
    · refine .inr ⟨quote_bad ok h hb, ?_⟩
      have e := congrArg List.length (replace_enc w)
      rw [Array.length_toList] at e
      show (Txt.replace _ _ _).cps.size ≤ _
      rw [e]
      have := enc_len w.cps.toList
      have := ok.len
      omega
noncomputable def qc (w : Str) : List Nat := (quoteF w).cps.toList
theorem qc_safe {w : Str} (ok : WordOk w) (h : ∀ c ∈ w.cps.toList, c ∈ safeC) : qc w = w.cps.toList := by
  unfold qc quoteF
  rw [if_pos (quote_safe ok h)]
theorem qc_bad {w : Str} (ok : WordOk w) (h : ∀ c ∈ w.cps.toList, c ∈ (safeC ++ oddC) ++ badC) (hb : ∃ c ∈ w.cps.toList, c ∈ badC) : qc w = 39 :: (enc w.cps.toList ++ [39]) := by
  unfold qc quoteF
  rw [if_neg (by rw [quote_bad ok h hb]; decide), Str.cps_append, Str.cps_append, Array.toList_append, Array.toList_append, replace_enc]
  rfl
theorem qc_len {w : Str} (ok : WordOk w) : (qc w).length ≤ 1002 := by
  have h1 := ok.len
  rcases ok.abc with h | ⟨h, hb⟩
  · rw [qc_safe ok h]; omega
  · rw [qc_bad ok h hb, List.length_cons, List.length_append, List.length_singleton]
    have := enc_len w.cps.toList
    omega
section
variable (x : Lx)
/-- a run of the reader to the end of a token -/
noncomputable def Ends (b : Nat) (qd : Bool) (st : Option Str) (tok : Str) (pos : Int) (tok2 : Str) (st2 : Option Str) (pos2 : Int) : Prop := ∃ n qd2, n ≤ b ∧ Run x n qd st tok pos qd2 st2 tok2 pos2
variable {x}
theorem Ends.step {b : Nat} {qd qd' : Bool} {st st' st2 : Option Str} {tok tok' tok2 : Str} {pos pos' pos2 : Int} (t : Turn x qd st tok pos qd' st' tok' pos' false) (h : Ends x b qd' st' tok' pos' tok2 st2 pos2) : Ends x (b + 1) qd st tok pos tok2 st2 pos2 := by
  obtain ⟨n, qd2, hn, r⟩ := h
  exact ⟨n + 1, qd2, Nat.succ_le_succ hn, .more t r⟩
theorem Ends.last {qd qd' : Bool} {st st2 : Option Str} {tok tok2 : Str} {pos pos2 : Int} (t : Turn x qd st tok pos qd' st2 tok2 pos2 true) : Ends x 1 qd st tok pos tok2 st2 pos2 := ⟨1, qd', Nat.le_refl _, .stop t⟩
theorem Ends.le {b b' : Nat} {qd : Bool} {st st2 : Option Str} {tok tok2 : Str} {pos pos2 : Int} (h : Ends x b qd st tok pos tok2 st2 pos2) (l : b ≤ b') : Ends x b' qd st tok pos tok2 st2 pos2 := by
  obtain ⟨n, qd2, hn, r⟩ := h
  exact ⟨n, qd2, Nat.le_trans hn l, r⟩
theorem nth_at {A B : List Nat} {c : Nat} (e : x.buf.cps.toList = A ++ c :: B) : nth x (A.length : Int) = some c := by
  unfold nth
  rw [e, Int.toNat_natCast]
  simp
theorem pos_snoc (A : List Nat) (c : Nat) : ((A.length : Int) + 1) = (((A ++ [c]).length : Nat) : Int) := by simp
theorem tok_snoc (tok : Str) (c : Nat) (l : List Nat) : tok ++ ⟨#[c]⟩ ++ ⟨l.toArray⟩ = tok ++ ⟨(c :: l).toArray⟩ := by
  refine str_ext ?_
  simp [Str.cps_append]
theorem q_run {st2 : Option Str} {tok2 : Str} {pos2 : Int} {b : Nat} {B : List Nat} : ∀ (cs A : List Nat) (tok : Str) (qd : Bool), (∀ c ∈ cs, c ∈ inQ ∨ c = 39) → x.buf.cps.toList = A ++ (enc cs ++ 39 :: B) →
    (∀ qd', Ends x b qd' sA (tok ++ ⟨cs.toArray⟩) ((A ++ enc cs ++ [39]).length : Nat) tok2 st2 pos2) → Ends x (b + 5 * cs.length + 1) qd sQ tok (A.length : Nat) tok2 st2 pos2
  | [], A, tok, qd, _, e, h => by
    have h1 := h true
    have e0 : tok ++ ⟨([] : List Nat).toArray⟩ = tok := str_ext (by simp [Str.cps_append])
    rw [e0] at h1
    refine (Ends.step (.q39 (nth_at (by simpa [enc] using e))) ?_)
    rw [pos_snoc A 39]
    simpa [enc] using h1
  | c :: cs, A, tok, qd, hc, e, h => by
    have hcs : ∀ c ∈ cs, c ∈ inQ ∨ c = 39 := fun d hd => hc d (.tail _ hd)
    by_cases h39 : c = 39
    · subst h39
      have ee : enc (39 :: cs) = 39 :: 34 :: 39 :: 34 :: 39 :: enc cs := rfl
      rw [ee] at e h
      have g : ∀ qd', Ends x b qd' sA ((tok ++ ⟨#[39]⟩) ++ ⟨cs.toArray⟩) ((((A ++ [39, 34, 39, 34, 39])) ++ enc cs ++ [39]).length : Nat) tok2 st2 pos2 := fun qd' => by
        have := h qd'
        rw [tok_snoc]
        simpa using this
      have r := q_run cs (A ++ [39, 34, 39, 34, 39]) (tok ++ ⟨#[39]⟩) true hcs (by simpa using e) g
      have n0 := nth_at (x := x) (A := A) (c := 39) (by simpa using e)
      have n1 := nth_at (x := x) (A := A ++ [39]) (c := 34) (by simpa using e)
      have n2 := nth_at (x := x) (A := A ++ [39, 34]) (c := 39) (by simpa using e)
      have n3 := nth_at (x := x) (A := A ++ [39, 34, 39]) (c := 34) (by simpa using e)
      have n4 := nth_at (x := x) (A := A ++ [39, 34, 39, 34]) (c := 39) (by simpa using e)
      have p0 : ((A.length : Int)) + 1 = ((A ++ [39]).length : Nat) := by simp
      have p1 : (((A ++ [39]).length : Nat) : Int) + 1 = ((A ++ [39, 34]).length : Nat) := by simp; omega
      have p2 : (((A ++ [39, 34]).length : Nat) : Int) + 1 = ((A ++ [39, 34, 39]).length : Nat) := by simp; omega
      have p3 : (((A ++ [39, 34, 39]).length : Nat) : Int) + 1 = ((A ++ [39, 34, 39, 34]).length : Nat) := by simp; omega
      have p4 : (((A ++ [39, 34, 39, 34]).length : Nat) : Int) + 1 = ((A ++ [39, 34, 39, 34, 39]).length : Nat) := by simp; omega
      refine Ends.le (b := b + 5 * cs.length + 1 + 1 + 1 + 1 + 1 + 1) ?_ (by simp only [List.length_cons]; omega)
      refine Ends.step (.q39 n0) ?_
      rw [p0]
      refine Ends.step (.a34 n1) ?_
      rw [p1]
      refine Ends.step (.d39 n2) ?_
      rw [p2]
      refine Ends.step (.d34 n3) ?_
      rw [p3]
      refine Ends.step (.a39 n4) ?_
      rw [p4]
      exact r
    · have ee : enc (c :: cs) = c :: enc cs := by
        show encC c ++ enc cs = _
        unfold encC
        rw [if_neg h39]; rfl
      rw [ee] at e h
      have hq : c ∈ inQ := (hc c (.head _)).resolve_right h39
      have g : ∀ qd', Ends x b qd' sA ((tok ++ ⟨#[c]⟩) ++ ⟨cs.toArray⟩) (((A ++ [c]) ++ enc cs ++ [39]).length : Nat) tok2 st2 pos2 := fun qd' => by
        have := h qd'
        rw [tok_snoc]
        simpa using this
      have r := q_run cs (A ++ [c]) (tok ++ ⟨#[c]⟩) true hcs (by simpa using e) g
      refine Ends.le (b := b + 5 * cs.length + 1 + 1) ?_ (by simp only [List.length_cons]; omega)
      refine Ends.step (.q c (nth_at (by simpa using e)) hq) ?_
      rw [pos_snoc A c]
      exact r
theorem a_run {st2 : Option Str} {tok2 : Str} {pos2 : Int} {b : Nat} {B : List Nat} : ∀ (cs A : List Nat) (tok : Str) (qd : Bool), (∀ c ∈ cs, c ∈ safeC) → x.buf.cps.toList = A ++ (cs ++ B) →
    (∀ qd', Ends x b qd' sA (tok ++ ⟨cs.toArray⟩) ((A ++ cs).length : Nat) tok2 st2 pos2) → Ends x (b + cs.length) qd sA tok (A.length : Nat) tok2 st2 pos2
  | [], A, tok, qd, _, e, h => by
    have h1 := h qd
    have e0 : tok ++ ⟨([] : List Nat).toArray⟩ = tok := str_ext (by simp [Str.cps_append])
    rw [e0] at h1
    simpa using h1
  | c :: cs, A, tok, qd, hc, e, h => by
    have g : ∀ qd', Ends x b qd' sA ((tok ++ ⟨#[c]⟩) ++ ⟨cs.toArray⟩) (((A ++ [c]) ++ cs).length : Nat) tok2 st2 pos2 := fun qd' => by
      have := h qd'
      rw [tok_snoc]
      simpa using this
    have r := a_run cs (A ++ [c]) (tok ++ ⟨#[c]⟩) qd (fun d hd => hc d (.tail _ hd)) (by simpa using e) g
    have hn := nth_at (x := x) (A := A) (c := c) (by simpa using e)
    refine Ends.le (b := b + cs.length + 1) ?_ (by simp only [List.length_cons]; omega)
    rcases List.mem_cons.mp (hc c (.head _)) with rfl | h2
    · refine Ends.step (.aW hn) ?_
      rw [pos_snoc A 97]
      exact r
    · refine Ends.step (.aO c hn h2) ?_
      rw [pos_snoc A c]
      exact r
theorem word_run {st2 : Option Str} {tok2 : Str} {pos2 : Int} {b : Nat} {A B : List Nat} {w : Str} (ok : WordOk w) (e : x.buf.cps.toList = A ++ (qc w ++ B)) (qd : Bool)
    (h : ∀ qd', Ends x b qd' sA w ((A ++ qc w).length : Nat) tok2 st2 pos2) : Ends x (b + 2000) qd sSP (Str.ofString "") (A.length : Nat) tok2 st2 pos2 := by
  have hl := ok.len
  rcases ok.abc with hs | ⟨hs, hb⟩
  · rw [qc_safe ok hs] at e h
    cases hw : w.cps.toList with
    | nil => exact absurd hw ok.ne
    | cons c cs =>
      rw [hw] at e h hs hl
      have ew : w = (⟨#[c]⟩ : Str) ++ ⟨cs.toArray⟩ := str_ext (by rw [hw]; simp [Str.cps_append])
      have g : ∀ qd', Ends x b qd' sA ((⟨#[c]⟩ : Str) ++ ⟨cs.toArray⟩) (((A ++ [c]) ++ cs).length : Nat) tok2 st2 pos2 := fun qd' => by
        have := h qd'
        rw [← ew]
        simpa using this
      have r := a_run cs (A ++ [c]) ⟨#[c]⟩ qd (fun d hd => hs d (.tail _ hd)) (by simpa using e) g
      have hn := nth_at (x := x) (A := A) (c := c) (by simpa using e)
      refine Ends.le (b := b + cs.length + 1) ?_ (by simp only [List.length_cons] at hl; omega)
      rcases List.mem_cons.mp (hs c (.head _)) with rfl | h2
      · refine Ends.step (.sW hn) ?_
        rw [pos_snoc A 97]
        exact r
      · refine Ends.step (.sO c hn h2) ?_
        rw [pos_snoc A c]
        exact r
  · rw [qc_bad ok hs hb] at e h
    have ew : w = Str.ofString "" ++ ⟨w.cps.toList.toArray⟩ := str_ext (by simp [Str.cps_append, show (Str.ofString "").cps = #[] from rfl])
    have hall : ∀ c ∈ (safeC ++ oddC) ++ badC, c ∈ inQ ∨ c = 39 := by decide
    have hin : ∀ c ∈ w.cps.toList, c ∈ inQ ∨ c = 39 := fun c hc => hall c (hs c hc)
    have r := q_run (x := x) (b := b) (B := B) (st2 := st2) (tok2 := tok2) (pos2 := pos2) w.cps.toList (A ++ [39]) (Str.ofString "") qd hin (by simpa using e) fun qd' => by
      rw [← ew]
      have := h qd'
      simpa using this
    refine Ends.le (b := b + 5 * w.cps.toList.length + 1 + 1) ?_ (by omega)
    refine Ends.step (.s39 (nth_at (by simpa using e))) ?_
    rw [pos_snoc A 39]
    exact r
noncomputable def lineC' : List (List Nat) → List Nat
  | [] => []
  | [a] => a
  | a :: b :: r => a ++ 32 :: lineC' (b :: r)
theorem toks_run : ∀ (ws : List Str) (A : List Nat), (∀ w ∈ ws, WordOk w) → ws ≠ [] → x.buf.cps.toList = A ++ lineC' (ws.map qc) → Toks x sSP (A.length : Nat) ws
  | [], _, _, h, _ => absurd rfl h
  | [w], A, hok, _, e => by
    have ok := hok w (.head _)
    have e' : x.buf.cps.toList = A ++ (qc w ++ []) := by simpa [lineC'] using e
    have hend : (((A ++ qc w).length : Nat) : Int) = (x.buf.length : Int) := by
      have := congrArg List.length e'
      rw [Array.length_toList, List.append_nil] at this
      exact_mod_cast this.symm
    obtain ⟨n, qd2, hn, r⟩ := word_run ok e' false (b := 1) fun qd' => Ends.last (.aE hend)
    have hne : (w == Str.ofString "") = false := by
      simp only [beq_eq_false_iff_ne, ne_eq]
      intro z
      exact ok.ne (by rw [z]; rfl)
    exact .cons r (by omega) (by omega) hne (.nil (.stop (.n hend)) (by omega) (by omega))
  | w :: w' :: r, A, hok, _, e => by
    have ok := hok w (.head _)
    have e' : x.buf.cps.toList = A ++ (qc w ++ 32 :: lineC' ((w' :: r).map qc)) := by simpa [lineC'] using e
    have hsp := nth_at (x := x) (A := A ++ qc w) (c := 32) (B := lineC' ((w' :: r).map qc)) (by simpa using e')
    have hne : (w == Str.ofString "") = false := by
      simp only [beq_eq_false_iff_ne, ne_eq]
      intro z
      exact ok.ne (by rw [z]; rfl)
    have h0 := (word_q ok).ne
    obtain ⟨n, qd2, hn, r1⟩ := word_run ok e' false (b := 1) fun qd' => Ends.last (.aS hsp h0)
    refine .cons r1 (by omega) (by omega) hne ?_
    have ih := toks_run (w' :: r) (A ++ qc w ++ [32]) (fun z hz => hok z (.tail _ hz)) (by simp) (by simpa using e')
    rw [pos_snoc (A ++ qc w) 32]
    exact ih
end
theorem join_chars : ∀ ws : List Str, (jn ws).cps.toList = lineC' (ws.map qc) := by
  intro ws
  have e : Str.ofString " " = ⟨#[32]⟩ := by decide +kernel
  unfold jn Txt.join
  rw [StrLaws.glued_eq_join, e]
  induction ws with
  | nil => rfl
  | cons w ws ih =>
    cases ws with
    | nil => rfl
    | cons w' r =>
      show (quoteF w ++ ⟨#[32]⟩ ++ Str.join ⟨#[32]⟩ ((w' :: r).map quoteF)).cps.toList = qc w ++ 32 :: lineC' ((w' :: r).map qc)
      rw [Str.cps_append, Str.cps_append, Array.toList_append, Array.toList_append, ih]
      simp [qc]
theorem tokL_of {ws : List Str} (h : ∀ w ∈ ws, WordOk w) : TokL (jn ws) ws := by
  unfold TokL
  cases ws with
  | nil => exact .nil (.stop (.sE rfl)) (by omega) (by omega)
  | cons w ws =>
    have := toks_run (x := ⟨0, 0, 0, 0, 0, 0, [], jn (w :: ws)⟩) (w :: ws) [] h (by simp) (by rw [List.nil_append]; exact join_chars _)
    exact this
theorem lineC_len : ∀ {l : List (List Nat)} {k : Nat}, (∀ a ∈ l, a.length ≤ k) → (lineC' l).length ≤ (k + 1) * l.length
  | [], _, _ => Nat.zero_le _
  | [a], k, h => by
    have := h a (.head _)
    simp only [lineC', List.length_singleton]
    omega
  | a :: b :: r, k, h => by
    have h1 := h a (.head _)
    have ih := lineC_len (l := b :: r) (k := k) fun z hz => h z (.tail _ hz)
    show (a ++ 32 :: lineC' (b :: r)).length ≤ _
    rw [List.length_append, List.length_cons, List.length_cons (a := a), Nat.mul_succ]
    omega
theorem jn_len {ws : List Str} (h : ∀ w ∈ ws, WordOk w) (hl : ws.length ≤ 900) : (jn ws).length ≤ 1000000 := by
  show (jn ws).cps.size ≤ _
  rw [← Array.length_toList, join_chars]
  refine Nat.le_trans (lineC_len (k := 1002) fun a ha => ?_) ?_
  · obtain ⟨w, hw, rfl⟩ := List.mem_map.mp ha
    exact qc_len (h w hw)
  · rw [List.length_map]
    omega
end Mine
end
section
open PySem PySem.W PySem.Calls PySem.Spec PyProof.Rows
set_option maxRecDepth 1000000
namespace Mine
noncomputable def rows1 : List Row := n5.map fun a => [a]
noncomputable def rows2 : List Row := n5.flatMap fun a => n5.map fun b => [a, b]
noncomputable def rows3 : List Row := n5.flatMap fun a => n5.flatMap fun b => n5.map fun c => [a, b, c]
noncomputable def rowsA : List Row := rows1 ++ (rows2 ++ rows3)
theorem k2 : rowsA.all (fun r => dirF (rowJ r) == rowJ r.dropLast) = true := by kernel_rfl
theorem k3 : rowsA.all (fun r => baseF (rowJ r) == lastR r) = true := by kernel_rfl
theorem k4 : rowsA.all (fun r => !(rowJ r == sl1) && decide ((rowJ r).length ≤ 64)) = true := by kernel_rfl
theorem k5 : ([] :: (rows1 ++ rows2)).all (fun r => n5.all fun z => under (rowJ r) z == rowJ (r ++ [z])) = true := by kernel_rfl
end Mine
end
section
open PySem PySem.W PySem.Calls PySem.Spec PyProof.Rows
set_option maxRecDepth 100000
namespace Mine
/-! the pieces of a text that is split at one letter are told by the text -/
theorem cut_uniq (c : Nat) : ∀ {P R : List Str}, P ≠ [] → R ≠ [] → (∀ p ∈ P, c ∉ p.cps.toList) → (∀ p ∈ R, c ∉ p.cps.toList) → (Str.join ⟨#[c]⟩ P).cps.toList = (Str.join ⟨#[c]⟩ R).cps.toList → P = R := by
  have two : ∀ (p : Str) (q : Str) (r : List Str), (Str.join ⟨#[c]⟩ (p :: q :: r)).cps.toList = p.cps.toList ++ c :: (Str.join ⟨#[c]⟩ (q :: r)).cps.toList := fun p q r => by
    show (p ++ ⟨#[c]⟩ ++ Str.join ⟨#[c]⟩ (q :: r)).cps.toList = _
    rw [Str.cps_append, Str.cps_append, Array.toList_append, Array.toList_append]
    simp
  have head : ∀ (a b x y : List Nat), c ∉ a → c ∉ b → a ++ c :: x = b ++ c :: y → a = b ∧ x = y := by
    intro a
    induction a with
    | nil =>
      intro b x y _ hb e
      cases b with
      | nil => simpa using e
      | cons d b =>
        simp only [List.nil_append, List.cons_append, List.cons.injEq] at e
        exact absurd (e.1 ▸ List.mem_cons_self ..) hb
    | cons d a ih =>
      intro b x y ha hb e
      cases b with
      | nil =>
        simp only [List.nil_append, List.cons_append, List.cons.injEq] at e
        exact absurd (e.1 ▸ List.mem_cons_self ..) ha
      | cons d' b =>
        simp only [List.cons_append, List.cons.injEq] at e
        obtain ⟨h1, h2⟩ := ih b x y (fun m => ha (.tail _ m)) (fun m => hb (.tail _ m)) e.2
        exact ⟨by rw [e.1, h1], h2⟩
  intro P
  induction P with
  | nil => intro R h; exact absurd rfl h
  | cons p P ih =>
    intro R _ hR hP hR' e
    cases R with
    | nil => exact absurd rfl hR
    | cons q R =>
      cases P with
      | nil =>
        cases R with
        | nil => rw [str_ext (a := p) (b := q) e]
        | cons q' R =>
          rw [two] at e
          exact absurd (by show c ∈ p.cps.toList; have : (Str.join ⟨#[c]⟩ [p]) = p := rfl; rw [← this, e]; simp) (hP p (.head _))
      | cons p' P =>
        cases R with
        | nil =>
          rw [two] at e
          exact absurd (by show c ∈ q.cps.toList; have : (Str.join ⟨#[c]⟩ [q]) = q := rfl; rw [← this, ← e]; simp) (hR' q (.head _))
        | cons q' R =>
          rw [two, two] at e
          obtain ⟨h1, h2⟩ := head _ _ _ _ (hP p (.head _)) (hR' q (.head _)) e
          rw [str_ext h1, ih (R := q' :: R) (by simp) (by simp) (fun z hz => hP z (.tail _ hz)) (fun z hz => hR' z (.tail _ hz)) h2]
theorem split_ne (x y : Str) : Txt.split x y ≠ [] := by
  unfold Txt.split
  split
  · simp
  split
  · simp
  · obtain ⟨p, r, e⟩ := StrLaws.partsFrom_ne x y.length 0 (Builtin.Str.occurrences x y 0 x.length (x.length + 1))
    rw [StrLaws.partsBetween_eq, e]
    simp
theorem split_uniq {c : Nat} {P : List Str} (hne : P ≠ []) (h : ∀ p ∈ P, c ∉ p.cps.toList) : Txt.split (Str.join ⟨#[c]⟩ P) ⟨#[c]⟩ = P :=
  cut_uniq c (split_ne _ _) hne (StrLaws.split_free _ c) h (by rw [StrLaws.join_split])
theorem sl_eq : sl1 = ⟨#[47]⟩ := by decide +kernel
theorem tjoin (x : Str) (l : List Str) : Txt.join x l = Str.join x l := StrLaws.glued_eq_join x l
/-! names -/
noncomputable def nameOk (z : Str) : Bool := !(z.cps.toList.contains 47) && !z.cps.toList.isEmpty && keepC z && !(z == Str.ofString "..") && decide (z.length ≤ 4) && !(Txt.startswith z sl1) && (z.cps.toList.all (safeC.contains ·) || (z.cps.toList.all (((safeC ++ oddC) ++ badC).contains ·) && z.cps.toList.any (badC.contains ·)))
theorem names_ok : n5.all nameOk = true := by decide +kernel
theorem name_ok {z : Str} (h : z ∈ n5) : 47 ∉ z.cps.toList ∧ z.cps.toList ≠ [] ∧ keepC z = true ∧ (z != Str.ofString "..") = true ∧ z.length ≤ 4 ∧ Txt.startswith z sl1 = false ∧ ((∀ c ∈ z.cps.toList, c ∈ safeC) ∨ ((∀ c ∈ z.cps.toList, c ∈ (safeC ++ oddC) ++ badC) ∧ ∃ c ∈ z.cps.toList, c ∈ badC)) := by
  have := List.all_eq_true.mp names_ok z h
  unfold nameOk at this
  simp only [Bool.and_eq_true, Bool.not_eq_true', Bool.or_eq_true, decide_eq_true_eq, List.all_eq_true, List.any_eq_true, List.contains_iff_mem, List.isEmpty_eq_false_iff, ← Bool.not_eq_true] at this
  obtain ⟨⟨⟨⟨⟨⟨h1, h2⟩, h3⟩, h4⟩, h5⟩, h6⟩, h7⟩ := this
  refine ⟨h1, fun e => h2 (by rw [e]; rfl), h3, ?_, h5, by simpa using h6, h7⟩
  simpa using h4
/-- all letters plain, or all known and one that wants quotes -/
noncomputable def Pc (l : List Nat) : Prop := (∀ c ∈ l, c ∈ safeC) ∨ ((∀ c ∈ l, c ∈ (safeC ++ oddC) ++ badC) ∧ ∃ c ∈ l, c ∈ badC)
theorem Pc.app {a b : List Nat} (h1 : Pc a) (h2 : Pc b) : Pc (a ++ b) := by
  have up : ∀ c, c ∈ safeC → c ∈ (safeC ++ oddC) ++ badC := fun c h => List.mem_append_left _ (List.mem_append_left _ h)
  rcases h1 with h1 | ⟨h1, c, hc, hb⟩
  · rcases h2 with h2 | ⟨h2, c, hc, hb⟩
    · exact .inl fun c h => (List.mem_append.mp h).elim (h1 c) (h2 c)
    · exact .inr ⟨fun c h => (List.mem_append.mp h).elim (fun z => up c (h1 c z)) (h2 c), c, List.mem_append_right _ hc, hb⟩
  · refine .inr ⟨fun d h => (List.mem_append.mp h).elim (h1 d) fun z => ?_, c, List.mem_append_left _ hc, hb⟩
    rcases h2 with h2 | ⟨h2, _⟩
    · exact up d (h2 d z)
    · exact h2 d z
noncomputable def Good (r : Row) : Prop := r.length ≤ 3 ∧ ∀ z ∈ r, z ∈ n5
theorem join_pc {sep : Str} (hs : ∀ c ∈ sep.cps.toList, c ∈ safeC) : ∀ {r : Row}, (∀ z ∈ r, z ∈ n5) → Pc (Str.join sep r).cps.toList ∧ (Str.join sep r).cps.toList.length ≤ (4 + sep.cps.toList.length) * r.length
  | [], _ => ⟨.inl (by intro c hc; exact absurd hc (by simp [Str.join, Str.empty])), by simp [Str.join, Str.empty]⟩
  | [z], h => by
    obtain ⟨_, _, _, _, h5, _, h7⟩ := name_ok (h z (.head _))
    refine ⟨h7, ?_⟩
    show z.cps.toList.length ≤ _
    rw [Array.length_toList]
    have : z.cps.size ≤ 4 := h5
    simp only [List.length_singleton]
    omega
  | z :: y :: r, h => by
    obtain ⟨_, _, _, _, h5, _, h7⟩ := name_ok (h z (.head _))
    obtain ⟨i1, i2⟩ := join_pc hs (r := y :: r) fun x hx => h x (.tail _ hx)
    have e : (Str.join sep (z :: y :: r)).cps.toList = z.cps.toList ++ sep.cps.toList ++ (Str.join sep (y :: r)).cps.toList := by
      show (z ++ sep ++ Str.join sep (y :: r)).cps.toList = _
      rw [Str.cps_append, Str.cps_append, Array.toList_append, Array.toList_append]
    rw [e]
    refine ⟨Pc.app (Pc.app h7 (.inl hs)) i1, ?_⟩
    have hz : z.cps.toList.length ≤ 4 := by rw [Array.length_toList]; exact h5
    rw [List.length_append, List.length_append, List.length_cons (a := z), Nat.mul_succ]
    omega
theorem join_ne {sep : Str} {z : Str} {r : Row} (h : z ∈ n5) : (Str.join sep (z :: r)).cps.toList ≠ [] := by
  have h2 := (name_ok h).2.1
  cases r with
  | nil => exact h2
  | cons y r =>
    show (z ++ sep ++ Str.join sep (y :: r)).cps.toList ≠ []
    rw [Str.cps_append, Str.cps_append, Array.toList_append, Array.toList_append]
    intro e
    rw [List.append_eq_nil_iff, List.append_eq_nil_iff] at e
    exact h2 e.1.1
theorem word_join {sep : Str} (hs : ∀ c ∈ sep.cps.toList, c ∈ safeC) (hl : sep.cps.toList.length ≤ 4) {r : Row} (hr : Good r) (hne : r ≠ []) : WordOk (Txt.join sep r) := by
  rw [tjoin]
  obtain ⟨h1, h2⟩ := join_pc hs hr.2
  refine ⟨?_, ?_, h1⟩
  · cases r with
    | nil => exact absurd rfl hne
    | cons z r => exact join_ne (hr.2 z (.head _))
  · have := hr.1
    refine Nat.le_trans h2 (Nat.le_trans (Nat.mul_le_mul (Nat.add_le_add_left hl 4) this) (by decide))
theorem rowJ_eq (r : Row) (h : r ≠ []) : rowJ r = Str.join ⟨#[47]⟩ (Str.ofString "" :: r) := by
  cases r with
  | nil => exact absurd rfl h
  | cons z r =>
    show Str.ofString "/" ++ Txt.join (Str.ofString "/") (z :: r) = Str.ofString "" ++ ⟨#[47]⟩ ++ Str.join ⟨#[47]⟩ (z :: r)
    have e : Str.ofString "/" = ⟨#[47]⟩ := sl_eq
    rw [tjoin, e]
    refine str_ext ?_
    rw [Str.cps_append, Str.cps_append, Str.cps_append]
    simp [show (Str.ofString "").cps = #[] from rfl]
theorem row_split {r : Row} (hr : ∀ z ∈ r, z ∈ n5) (h : r ≠ []) : Txt.split (rowJ r) sl1 = Str.ofString "" :: r := by
  rw [rowJ_eq r h, sl_eq]
  refine split_uniq (by simp) fun p hp => ?_
  rcases List.mem_cons.mp hp with rfl | hp
  · simp [show (Str.ofString "").cps = #[] from rfl]
  · exact (name_ok (hr p hp)).1
theorem row_rowF {r : Row} (hr : ∀ z ∈ r, z ∈ n5) (h : r ≠ []) : rowF (rowJ r) = r := by
  unfold rowF
  rw [show Str.ofString "/" = sl1 from rfl, row_split hr h]
  rfl
theorem rowJ_nil : rowJ [] = sl1 := by decide +kernel
theorem word_row {r : Row} (hr : Good r) (hne : r ≠ []) : WordOk (rowJ r) := by
  have := word_join (sep := sl1) (by decide +kernel) (by decide +kernel) hr hne
  have e : (rowJ r).cps.toList = 47 :: (Txt.join sl1 r).cps.toList := by
    show (sl1 ++ Txt.join sl1 r).cps.toList = _
    rw [Str.cps_append, Array.toList_append, sl_eq]
    rfl
  refine ⟨by rw [e]; simp, ?_, ?_⟩
  · rw [e, List.length_cons]
    obtain ⟨_, h2⟩ := join_pc (sep := sl1) (by decide +kernel) hr.2
    rw [← tjoin] at h2
    have h3 := hr.1
    have : (4 + sl1.cps.toList.length) * r.length ≤ 5 * 3 := Nat.mul_le_mul (by decide +kernel) h3
    omega
  · rw [e]
    exact Pc.app (a := [47]) (.inl (by decide)) this.abc
theorem word_name {z : Str} (h : z ∈ n5) : WordOk z := by
  obtain ⟨_, h2, _, _, h5, _, h7⟩ := name_ok h
  refine ⟨h2, ?_, h7⟩
  rw [Array.length_toList]
  exact Nat.le_trans h5 (by decide)
theorem good_nil : Good [] := ⟨by simp, by simp⟩
theorem good_drop {r : Row} (h : Good r) : Good r.dropLast := ⟨by rw [List.length_dropLast]; have := h.1; omega, fun z hz => h.2 z (List.dropLast_subset _ hz)⟩
theorem good_in {r : Row} (h : Good r) (hne : r ≠ []) : r ∈ rowsA := by
  obtain ⟨hl, hm⟩ := h
  unfold rowsA rows1 rows2 rows3
  rcases r with _ | ⟨a, _ | ⟨b, _ | ⟨c, _ | ⟨d, r⟩⟩⟩⟩
  · exact absurd rfl hne
  · exact List.mem_append_left _ (List.mem_map.mpr ⟨a, hm a (by simp), rfl⟩)
  · exact List.mem_append_right _ (List.mem_append_left _ (List.mem_flatMap.mpr ⟨a, hm a (by simp), List.mem_map.mpr ⟨b, hm b (by simp), rfl⟩⟩))
  · exact List.mem_append_right _ (List.mem_append_right _ (List.mem_flatMap.mpr ⟨a, hm a (by simp), List.mem_flatMap.mpr ⟨b, hm b (by simp), List.mem_map.mpr ⟨c, hm c (by simp), rfl⟩⟩⟩))
  · simp at hl
theorem row_dir {r : Row} (h : Good r) (hne : r ≠ []) : dirF (rowJ r) = rowJ r.dropLast := eq_of_beq (List.all_eq_true.mp k2 r (good_in h hne))
theorem row_base {r : Row} (h : Good r) (hne : r ≠ []) : baseF (rowJ r) = lastR r := eq_of_beq (List.all_eq_true.mp k3 r (good_in h hne))
theorem row_top {r : Row} (h : Good r) : (rowJ r == sl1) = decide (r = []) := by
  by_cases hne : r = []
  · subst hne; rw [rowJ_nil]; simp
  · have := List.all_eq_true.mp k4 r (good_in h hne)
    simp only [Bool.and_eq_true, Bool.not_eq_true'] at this
    rw [this.1, decide_eq_false hne]
theorem row_len64 {r : Row} (h : Good r) : (rowJ r).length ≤ 64 := by
  by_cases hne : r = []
  · subst hne; decide +kernel
  · have := List.all_eq_true.mp k4 r (good_in h hne)
    simp only [Bool.and_eq_true, decide_eq_true_eq] at this
    exact this.2
theorem row_under {r : Row} {z : Str} (h : Good r) (hl : r.length ≤ 2) (hz : z ∈ n5) : under (rowJ r) z = rowJ (r ++ [z]) := by
  have hr : r ∈ ([] : Row) :: (rows1 ++ rows2) := by
    rcases r with _ | ⟨a, _ | ⟨b, _ | ⟨c, r⟩⟩⟩
    · exact .head _
    · exact .tail _ (List.mem_append_left _ (List.mem_map.mpr ⟨a, h.2 a (by simp), rfl⟩))
    · exact .tail _ (List.mem_append_right _ (List.mem_flatMap.mpr ⟨a, h.2 a (by simp), List.mem_map.mpr ⟨b, h.2 b (by simp), rfl⟩⟩))
    · simp at hl
  exact eq_of_beq (List.all_eq_true.mp (List.all_eq_true.mp k5 r hr) z hz)
theorem row_inj {r r' : Row} (h : Good r) (h' : Good r') (e : rowJ r = rowJ r') : r = r' := by
  by_cases h1 : r = []
  · subst h1
    have := row_top h'
    rw [← e, rowJ_nil] at this
    have z : decide (r' = []) = true := by rw [← this]; simp
    exact (of_decide_eq_true z).symm
  · by_cases h2 : r' = []
    · subst h2
      have := row_top h
      rw [e, rowJ_nil] at this
      have z : decide (r = []) = true := by rw [← this]; simp
      exact of_decide_eq_true z
    · rw [← row_rowF h.2 h1, ← row_rowF h'.2 h2, e]
end Mine
end
section
open PySem PySem.W PySem.Calls PySem.Spec PyProof.Rows
set_option maxRecDepth 100000
namespace Mine
/-! words: split and normalised -/
noncomputable def inter (d : Str) : Row → Row
  | [] => []
  | [a] => [a]
  | a :: b :: r => a :: d :: inter d (b :: r)
theorem join_inter (d : Str) : ∀ r : Row, Str.join (⟨#[47]⟩ ++ d ++ ⟨#[47]⟩) r = Str.join ⟨#[47]⟩ (inter d r)
  | [] => rfl
  | [_] => rfl
  | a :: b :: r => by
    have ih := join_inter d (b :: r)
    have hne : ∃ q t, inter d (b :: r) = q :: t := by cases r <;> exact ⟨_, _, rfl⟩
    obtain ⟨q, t, e⟩ := hne
    show a ++ (⟨#[47]⟩ ++ d ++ ⟨#[47]⟩) ++ Str.join _ (b :: r) = Str.join ⟨#[47]⟩ (a :: d :: inter d (b :: r))
    rw [ih, e]
    show a ++ (⟨#[47]⟩ ++ d ++ ⟨#[47]⟩) ++ Str.join _ (q :: t) = a ++ ⟨#[47]⟩ ++ (d ++ ⟨#[47]⟩ ++ Str.join ⟨#[47]⟩ (q :: t))
    simp only [Str.append_assoc]
theorem inter_ne {d : Str} {r : Row} (h : r ≠ []) : inter d r ≠ [] := by
  rcases r with _ | ⟨a, _ | ⟨b, r⟩⟩
  · exact h
  · simp [inter]
  · simp [inter]
theorem inter_mem {d : Str} : ∀ {r : Row} {p : Str}, p ∈ inter d r → p ∈ r ∨ p = d
  | [], _, h => absurd h List.not_mem_nil
  | [a], p, h => .inl h
  | a :: b :: r, p, h => by
    rcases List.mem_cons.mp h with e | h
    · exact .inl (e ▸ .head _)
    rcases List.mem_cons.mp h with e | h
    · exact .inr e
    · exact (inter_mem h).imp (.tail _) id
theorem inter_filter {d : Str} (hd : keepC d = false) : ∀ {r : Row}, (∀ z ∈ r, keepC z = true) → (inter d r).filter keepC = r
  | [], _ => rfl
  | [a], h => by
    show List.filter keepC [a] = [a]
    rw [List.filter_cons_of_pos (h a (.head _))]; rfl
  | a :: b :: r, h => by
    show List.filter keepC (a :: d :: inter d (b :: r)) = _
    rw [List.filter_cons_of_pos (h a (.head _)), List.filter_cons_of_neg (by rw [hd]; decide), inter_filter hd fun z hz => h z (.tail _ hz)]
theorem inter_len {d : Str} : ∀ {r : Row}, (inter d r).length ≤ 2 * r.length
  | [] => Nat.le_refl _
  | [_] => by simp [inter]
  | a :: b :: r => by
    have := inter_len (d := d) (r := b :: r)
    show (a :: d :: inter d (b :: r)).length ≤ _
    simp only [List.length_cons] at *
    omega
theorem sep_cut {sep : Str} (hs : sep ∈ seps) {r : Row} (hr : Good r) (hne : r ≠ []) :
    ∃ P : List Str, P ≠ [] ∧ Txt.join sep r = Str.join ⟨#[47]⟩ P ∧ (∀ p ∈ P, 47 ∉ p.cps.toList ∧ (p != Str.ofString "..") = true) ∧ P.filter keepC = r ∧ P.length ≤ 6 := by
  have hk : ∀ z ∈ r, keepC z = true := fun z hz => (name_ok (hr.2 z hz)).2.2.1
  have h1 : ∀ p ∈ r, 47 ∉ p.cps.toList ∧ (p != Str.ofString "..") = true := fun p hp => ⟨(name_ok (hr.2 p hp)).1, (name_ok (hr.2 p hp)).2.2.2.1⟩
  have hl := hr.1
  have two : ∀ d : Str, keepC d = false → 47 ∉ d.cps.toList → (d != Str.ofString "..") = true → sep = ⟨#[47]⟩ ++ d ++ ⟨#[47]⟩ → ∃ P : List Str, P ≠ [] ∧ Txt.join sep r = Str.join ⟨#[47]⟩ P ∧ (∀ p ∈ P, 47 ∉ p.cps.toList ∧ (p != Str.ofString "..") = true) ∧ P.filter keepC = r ∧ P.length ≤ 6 := by
    intro d h2 h3 h4 e
    refine ⟨inter d r, inter_ne hne, by rw [tjoin, e, join_inter], fun p hp => ?_, inter_filter h2 hk, Nat.le_trans inter_len (by omega)⟩
    rcases inter_mem hp with h | rfl
    · exact h1 p h
    · exact ⟨h3, h4⟩
  unfold seps at hs
  simp only [List.mem_cons, List.not_mem_nil, or_false] at hs
  rcases hs with rfl | rfl | rfl
  · refine ⟨r, hne, by rw [tjoin, ← sl_eq], h1, List.filter_eq_self.mpr hk, by omega⟩
  · exact two (Str.ofString ".") (by decide +kernel) (by decide +kernel) (by decide +kernel) (by decide +kernel)
  · exact two (Str.ofString "") (by decide +kernel) (by decide +kernel) (by decide +kernel) (by decide +kernel)
theorem word_head {sep : Str} {r : Row} (hr : Good r) (hne : r ≠ []) : ∃ c t, (Txt.join sep r).cps.toList = c :: t ∧ c ≠ 47 := by
  rw [tjoin]
  cases r with
  | nil => exact absurd rfl hne
  | cons z r =>
    obtain ⟨h1, h2, _⟩ := name_ok (hr.2 z (.head _))
    have e : ∃ u, (Str.join sep (z :: r)).cps.toList = z.cps.toList ++ u := by
      cases r with
      | nil => exact ⟨[], by rw [List.append_nil]; rfl⟩
      | cons y r =>
        refine ⟨sep.cps.toList ++ (Str.join sep (y :: r)).cps.toList, ?_⟩
        show (z ++ sep ++ Str.join sep (y :: r)).cps.toList = _
        rw [Str.cps_append, Str.cps_append, Array.toList_append, Array.toList_append, List.append_assoc]
    obtain ⟨u, e⟩ := e
    cases hz : z.cps.toList with
    | nil => exact absurd hz h2
    | cons c t =>
      rw [hz] at e h1
      exact ⟨c, t ++ u, e, fun h => h1 (h ▸ .head _)⟩
theorem slash_sl : slash = sl1 := rfl
theorem under_sl (w : Str) : under slash w = sl1 ++ w := by
  unfold under
  rw [if_pos (by decide +kernel)]
theorem sl_chars (w : Str) : (sl1 ++ w).cps.toList = 47 :: w.cps.toList := by
  rw [Str.cps_append, Array.toList_append, sl_eq]; rfl
theorem slice_1 (w : Str) : Txt.slice (sl1 ++ w) (some 1) none = w := by
  show StrLaws.sliceText (sl1 ++ w) (some 1) none = w
  rw [StrLaws.sliceText_from ⟨by decide, by rw [sl_chars]; simp; omega⟩, sl_chars]
  refine str_ext ?_
  simp
  rw [List.take_of_length_le (by rw [Array.length_toList]; exact Nat.le_refl _)]
theorem slice_0 (w : Str) : Txt.slice (sl1 ++ w) none (some 1) = sl1 := by
  show StrLaws.sliceText (sl1 ++ w) none (some 1) = sl1
  rw [StrLaws.sliceText_to ⟨by decide, by rw [sl_chars]; simp; omega⟩, sl_chars, sl_eq]
  refine str_ext ?_
  simp
theorem slice_12 {w : Str} {c : Nat} {t : List Nat} (h : w.cps.toList = c :: t) (hc : c ≠ 47) : (Txt.slice (sl1 ++ w) (some 1) (some 2) != sl1) = true := by
  show (StrLaws.sliceText (sl1 ++ w) (some 1) (some 2) != sl1) = true
  rw [StrLaws.sliceText_plain ⟨by decide, by decide, by rw [sl_chars, h]; simp; omega⟩, sl_chars, h, sl_eq]
  simp only [bne_iff_ne, ne_eq]
  intro e
  have := congrArg (fun s : Str => s.cps.toList) e
  simp at this
  exact hc this
theorem starts_no {w : Str} {c : Nat} {t : List Nat} (h : w.cps.toList = c :: t) (hc : c ≠ 47) : Txt.startswith w sl1 = false := by
  rw [sl_eq]
  unfold Txt.startswith
  cases e : (0 + (⟨#[47]⟩ : Str).length ≤ w.length && Builtin.Str.subAt w ⟨#[47]⟩ 0 : Bool) with
  | false => rfl
  | true =>
    simp only [Bool.and_eq_true, decide_eq_true_eq] at e
    have := (StrLaws.subAt_one w 47 0).mp e
    rw [h] at this
    simp at this
    exact absurd this hc
theorem len_of {w : Str} (ok : WordOk w) : w.length ≤ 200 := by have := ok.len; rw [Array.length_toList] at this; exact this
theorem seps_safe : ∀ sep ∈ seps, (∀ c ∈ sep.cps.toList, c ∈ safeC) ∧ sep.cps.toList.length ≤ 4 := by
  have h : seps.all (fun s => s.cps.toList.all (safeC.contains ·) && decide (s.cps.toList.length ≤ 4)) = true := by decide +kernel
  intro sep hs
  have := List.all_eq_true.mp h sep hs
  simp only [Bool.and_eq_true, decide_eq_true_eq, List.all_eq_true, List.contains_iff_mem] at this
  exact this
theorem word_sep {sep : Str} (hs : sep ∈ seps) {r : Row} (hr : Good r) (hne : r ≠ []) : WordOk (Txt.join sep r) := word_join (seps_safe sep hs).1 (seps_safe sep hs).2 hr hne
theorem word_norm {sep : Str} (hs : sep ∈ seps) {r : Row} (hr : Good r) (hne : r ≠ []) :
    NOk (under slash (Txt.join sep r)) ∧ (Txt.join sep r).length ≤ 10000 ∧ Txt.startswith (Txt.join sep r) sl1 = false ∧ normF (under slash (Txt.join sep r)) = rowJ r := by
  obtain ⟨P, hP, e, hp, hf, hl⟩ := sep_cut hs hr hne
  obtain ⟨c, t, hc, hc7⟩ := word_head (sep := sep) hr hne
  have wl := len_of (word_sep hs hr hne)
  have hcomps : compsF (under slash (Txt.join sep r)) = P := by
    unfold compsF
    rw [under_sl, slice_1, e, show Str.ofString "/" = sl1 from rfl, sl_eq]
    exact split_uniq hP fun p h => (hp p h).1
  have hlen : (sl1 ++ Txt.join sep r).length = 1 + (Txt.join sep r).length := by
    rw [slen]; rfl
  have hj : (Txt.join sl1 r).length ≤ 200 := len_of (word_join (sep := sl1) (by decide +kernel) (by decide +kernel) hr hne)
  refine ⟨⟨?_, ?_, ?_, ?_, ?_, ?_, ?_, ?_⟩, by omega, starts_no hc hc7, ?_⟩
  · rw [under_sl, hlen]
    simp only [bne_iff_ne, ne_eq]
    omega
  · rw [under_sl, hlen]; omega
  · rw [under_sl, slice_0]; simp
  · rw [under_sl]; exact slice_12 hc hc7
  · rw [hcomps]; omega
  · rw [hcomps]; exact fun p h => (hp p h).2
  · rw [under_sl, slice_1]; omega
  · rw [hcomps, hf]; exact Nat.le_trans hj (by decide)
  · unfold normF
    rw [hcomps, hf]
    rfl
/-! the names of a number -/
theorem n5_get {k : Nat} (h : k < 5) : n5.getD k (Str.ofString "") ∈ n5 := by
  have hl : n5.length = 5 := rfl
  rw [List.getD_eq_getElem?_getD, List.getElem?_eq_getElem (by omega)]
  exact List.getElem_mem _
theorem dig_lt (x : Int) (k : Nat) : digF x k < 5 := by
  unfold digF
  have h0 := Int.fmod_nonneg_of_pos ((x.fdiv 3).fdiv ((5 : Int) ^ k)) (b := 5) (by decide)
  have h1 := Int.fmod_lt_of_pos ((x.fdiv 3).fdiv ((5 : Int) ^ k)) (b := 5) (by decide)
  omega
theorem names_good (x : Int) : Good (namesF x) := by
  refine ⟨names_len3, fun z hz => ?_⟩
  obtain ⟨k, _, rfl⟩ := List.mem_map.mp hz
  exact n5_get (dig_lt x k)
theorem names_ne (x : Int) : namesF x ≠ [] := by
  intro e
  have h1 := congrArg List.length e
  unfold namesF at h1
  rw [List.length_map, List.length_range] at h1
  have h0 := Int.fmod_nonneg_of_pos x (b := 3) (by decide)
  simp at h1
  omega
theorem sepF_mem (x : Int) : sepF x ∈ seps := by
  unfold sepF
  have h0 := Int.fmod_nonneg_of_pos (x.fdiv 4) (b := 3) (by decide)
  have h1 := Int.fmod_lt_of_pos (x.fdiv 4) (b := 3) (by decide)
  have hl : seps.length = 3 := rfl
  rw [List.getD_eq_getElem?_getD, List.getElem?_eq_getElem (by omega)]
  exact List.getElem_mem _
theorem hid_mem {ns : List Int} {z : Str} (h : z ∈ hidF ns) : z ∈ n5 := by
  unfold hidF at h
  obtain ⟨k, hk, rfl⟩ := List.mem_map.mp h
  exact n5_get (List.mem_range.mp (List.mem_filter.mp hk).1)
end Mine
end
section
open PySem PySem.W PySem.Calls PySem.Spec PyProof.Rows
set_option maxRecDepth 100000
namespace Mine
theorem any_row {tr : List Row} {r : Row} (ht : ∀ x ∈ tr, Good x) (hr : Good r) : ((tr.map rowJ).any (· == rowJ r)) = decide (r ∈ tr) := by
  rw [Bool.eq_iff_iff, decide_eq_true_eq, List.any_eq_true]
  constructor
  · rintro ⟨q, hq, e⟩
    obtain ⟨x, hx, rfl⟩ := List.mem_map.mp hq
    rw [row_inj hr (ht x hx) (eq_of_beq e).symm]
    exact hx
  · intro h
    exact ⟨rowJ r, List.mem_map.mpr ⟨r, h, rfl⟩, by simp⟩
theorem climb_row : ∀ {n : Nat} {tr : List Row} {r : Row}, (∀ x ∈ tr, Good x) → Good r → climbF n (tr.map rowJ) (rowJ r) = (climbR n tr r).map rowJ
  | 0, _, _, _, _ => rfl
  | n + 1, tr, r, ht, hr => by
    unfold climbF climbR
    rw [show Str.ofString "/" = sl1 from rfl, row_top hr, any_row ht hr]
    by_cases h1 : r = []
    · rw [if_pos (decide_eq_true h1), if_pos h1]
    · rw [if_neg (by simpa using h1), if_neg h1]
      by_cases h2 : r ∈ tr
      · rw [if_pos (decide_eq_true h2), if_pos h2]
      · rw [if_neg (by simpa using h2), if_neg h2, row_dir hr h1]
        have e : tr.map rowJ ++ [rowJ r] = (tr ++ [r]).map rowJ := by simp
        rw [e]
        refine climb_row (fun x hx => ?_) (good_drop hr)
        rcases List.mem_append.mp hx with hx | hx
        · exact ht x hx
        · rw [List.mem_singleton.mp hx]; exact hr
theorem fold_row : ∀ {l : List Row} {tr : List Row}, (∀ x ∈ l, Good x) → (∀ x ∈ tr, Good x) → (l.map rowJ).foldl (climbF 5) (tr.map rowJ) = (l.foldl (climbR 5) tr).map rowJ
  | [], _, _, _ => rfl
  | r :: l, tr, hl, ht => by
    show (l.map rowJ).foldl (climbF 5) (climbF 5 (tr.map rowJ) (rowJ r)) = (l.foldl (climbR 5) (climbR 5 tr r)).map rowJ
    have hr := hl r (.head _)
    rw [climb_row ht hr]
    exact fold_row (fun x hx => hl x (.tail _ hx)) (climb_sub ht (fun _ => good_drop) hr)
theorem climb_okF : ∀ {n : Nat} {r : Row}, Good r → r.length ≤ n → ClimbOk n (rowJ r)
  | 0, r, _, h => by
    have : r = [] := List.length_eq_zero_iff.mp (Nat.le_zero.mp h)
    subst this
    show (rowJ [] == Str.ofString "/") = true
    rw [rowJ_nil]; simp
  | n + 1, r, hr, h => by
    by_cases h1 : r = []
    · subst h1
      refine .inl ?_
      rw [rowJ_nil]; simp
    · refine .inr ⟨Nat.le_trans (row_len64 hr) (by decide), ?_⟩
      rw [row_dir hr h1]
      exact climb_okF (good_drop hr) (by rw [List.length_dropLast]; omega)
noncomputable def rowsN (ns : List Int) : List Row := (numsF ns).map namesF
noncomputable def T (ns : List Int) : List Row := treeR (rowsN ns)
theorem rowsN_good {ns : List Int} : ∀ r ∈ rowsN ns, Good r := by
  intro r hr
  obtain ⟨x, _, rfl⟩ := List.mem_map.mp hr
  exact names_good x
theorem T_ok (ns : List Int) : TreeOk (T ns) := tree_ok fun r hr => (rowsN_good r hr).1
theorem T_good {ns : List Int} : ∀ r ∈ T ns, Good r := by
  unfold T treeR
  exact fold_sub (P := Good) (fun _ h => good_drop h) rowsN_good (fun x hx => absurd hx List.not_mem_nil)
theorem tree_eq (ns : List Int) : treeN ns = (T ns).map rowJ := by
  unfold treeN treeF T treeR
  have e : (numsF ns).map pathF = (rowsN ns).map rowJ := by
    unfold rowsN
    rw [List.map_map]
    rfl
  rw [e]
  exact fold_row (tr := []) rowsN_good (by simp)
theorem T_len (ns : List Int) : (T ns).length ≤ 36 := by
  have h := fold_len (l := rowsN ns) (tr := []) fun r hr => (rowsN_good r hr).1
  have h2 := nums_len ns
  have e : (rowsN ns).length = (numsF ns).length := List.length_map ..
  unfold T treeR
  rw [e] at h
  simp only [List.length_nil] at h
  omega
/-! the walk by rows -/
noncomputable def prF (r : Row) : Str × Str := (rowJ r.dropLast, lastR r)
theorem pairs_eq (ns : List Int) : pairsN ns = (T ns).map prF := by
  unfold pairsN
  rw [tree_eq, List.map_map]
  refine List.map_congr_left fun r hr => ?_
  have h1 := T_good r hr
  have h2 := (T_ok ns).ne r hr
  show pairF (rowJ r) = prF r
  unfold pairF prF
  rw [row_dir h1 h2, row_base h1 h2]
theorem flatMap_on {α β : Type} {f g : α → List β} : ∀ {l : List α}, (∀ a ∈ l, f a = g a) → l.flatMap f = l.flatMap g
  | [], _ => rfl
  | a :: l, h => by
    rw [List.flatMap_cons, List.flatMap_cons, h a (.head _), flatMap_on fun b hb => h b (.tail _ hb)]
section
variable {t : List Row} (ok : TreeOk t) (hg : ∀ r ∈ t, Good r)
include ok hg
theorem kids_row {h : Row} (hh : Good h) : kids (t.map prF) (rowJ h) = kidsR t h := by
  unfold kids kidsR
  rw [List.filter_map, List.map_map]
  have e : t.filter ((fun p => p.1 == rowJ h) ∘ prF) = t.filter fun r => r.dropLast == h := by
    refine List.filter_congr fun r hr => ?_
    show (rowJ r.dropLast == rowJ h) = _
    rw [Bool.eq_iff_iff]
    simp only [beq_iff_eq]
    exact ⟨fun e => row_inj (good_drop (hg r hr)) hh e, fun e => by rw [e]⟩
  rw [e]
  rfl
theorem kid_good {h : Row} {z : Str} (hz : z ∈ kidsR t h) : Good (h ++ [z]) ∧ z ∈ n5 ∧ h.length ≤ 2 ∧ h ++ [z] ∈ t := by
  have hm := (mem_kids ok).mp hz
  have g := hg _ hm
  refine ⟨g, g.2 z (by simp), ?_, hm⟩
  have := g.1
  simp only [List.length_append, List.length_singleton] at this
  omega
theorem walk_row {hid : List Str} : ∀ {n : Nat} {h : Row}, Good h → walkF (t.map prF) hid n (rowJ h) = (walkR t hid n h).map rowJ
  | 0, _, _ => rfl
  | n + 1, h, hh => by
    unfold walkF walkR
    rw [kids_row ok hg hh, List.map_flatMap]
    refine flatMap_on fun z hz => ?_
    rw [mem_sortF, List.mem_filter] at hz
    obtain ⟨g, hz5, hl, _⟩ := kid_good ok hg hz.1
    rw [row_under hh hl hz5, walk_row g]
    rfl
theorem kids_len {h : Row} : (kidsR t h).length ≤ t.length := by
  unfold kidsR
  rw [List.length_map]
  exact List.length_filter_le _ _
theorem wok_row {hid : List Str} (h36 : t.length ≤ 36) : ∀ {n : Nat} {h : Row}, Good h → 4 ≤ h.length + n → WOk (t.map prF) hid n (rowJ h)
  | 0, h, hh, hn => by have := hh.1; omega
  | n + 1, h, hh, hn => by
    have hl := row_len64 hh
    refine ⟨?_, by omega, ?_, ?_, ?_⟩
    · have : 0 < (rowJ h).length := by
        show 0 < (sl1 ++ Txt.join sl1 h).length
        rw [slen]
        have : sl1.length = 1 := rfl
        omega
      simp only [bne_iff_ne, ne_eq]
      omega
    · rw [kids_row ok hg hh]
      have h1 := kids_len ok hg (h := h)
      have h2 := List.length_filter_le (vis hid) (kidsR t h)
      omega
    · rw [walk_row ok hg hh, List.length_map]
      have := walk_len ok (hid := hid) (n := n + 1) (h := h)
      omega
    · intro z hz
      rw [kids_row ok hg hh, List.mem_filter] at hz
      obtain ⟨g, hz5, hl2, _⟩ := kid_good ok hg hz.1
      obtain ⟨_, _, _, _, h5, h6, _⟩ := name_ok hz5
      refine ⟨Nat.le_trans h5 (by decide), h6, ?_⟩
      rw [row_under hh hl2 hz5]
      refine wok_row h36 g ?_
      simp only [List.length_append, List.length_singleton]
      omega
end
theorem sum_small : ∀ {r : Row}, (∀ z ∈ r, z ∈ n5) → (r.map (·.length)).sum ≤ 4 * r.length
  | [], _ => Nat.zero_le _
  | z :: r, h => by
    have h1 := (name_ok (h z (.head _))).2.2.2.2.1
    have h2 := sum_small (r := r) fun y hy => h y (.tail _ hy)
    simp only [List.map_cons, List.sum_cons, List.length_cons]
    omega
theorem vis_app (a b : List Str) (z : Str) : vis (a ++ b) z = (vis a z && vis b z) := by
  unfold vis
  rw [List.any_append, Bool.not_or]
theorem words_told {ns : List Int} {hid : List Str} {n : Nat} : ∀ w ∈ (walkR (T ns) hid n []).map rowJ, WordOk w := by
  intro w hw
  obtain ⟨r, hr, rfl⟩ := List.mem_map.mp hw
  obtain ⟨s, hs, _, e, _, hT⟩ := (mem_walk (T_ok ns)).mp hr
  have hm := hT s.length (by cases s with | nil => exact absurd rfl hs | cons => simp) (Nat.le_refl _)
  rw [List.take_length, ← e] at hm
  exact word_row (T_good _ hm) ((T_ok ns).ne _ hm)
theorem plain (ns : List Int) : Plain ns := by
  have hnl := nums_len ns
  have hT := T_len ns
  have ok := T_ok ns
  have hg : ∀ r ∈ T ns, Good r := T_good
  have hwords : ∀ w ∈ (numsF ns).map wordF, WordOk w := fun w hw => by
    obtain ⟨x, _, rfl⟩ := List.mem_map.mp hw
    exact word_sep (sepF_mem x) (names_good x) (names_ne x)
  have hhid : ∀ w ∈ hidF ns, WordOk w := fun w hw => word_name (hid_mem hw)
  have hh5 : (hidF ns).length ≤ 5 := by
    unfold hidF
    rw [List.length_map]
    exact Nat.le_trans (List.length_filter_le _ _) (by simp)
  have wk : ∀ hid, walkF (pairsN ns) hid 5 sl1 = (walkR (T ns) hid 5 []).map rowJ := fun hid => by
    rw [pairs_eq, ← rowJ_nil]
    exact walk_row ok hg good_nil
  have wok : ∀ hid, WOk (pairsN ns) hid 5 sl1 := fun hid => by
    rw [pairs_eq, ← rowJ_nil]
    exact wok_row ok hg hT good_nil (by simp)
  have hrows : (treeN ns).map rowF = T ns := by
    rw [tree_eq, List.map_map]
    refine (List.map_congr_left fun r hr => ?_).trans (List.map_id _)
    exact row_rowF (hg r hr).2 (ok.ne r hr)
  have wlen : ∀ hid, (walkF (pairsN ns) hid 5 sl1).length ≤ 36 := fun hid => by
    rw [wk, List.length_map]
    exact Nat.le_trans (walk_len ok) hT
  have htold : ∀ w ∈ toldN ns, WordOk w := fun w hw => by
    unfold toldN at hw
    rw [wk] at hw
    exact words_told w hw
  refine ⟨fun x hx => word_q (hwords x hx), tokL_of hwords, jn_len hwords (by rw [List.length_map]; omega), ?_, ?_, ?_, ?_, ?_, ?_, ?_, ?_, fun x hx => word_q (hhid x hx), tokL_of hhid, jn_len hhid (by omega), wok _, wok _, wok _, wok _, ?_, ?_, ?_, ?_,
    fun x hx => word_q (htold x hx), tokL_of htold, jn_len htold (Nat.le_trans (wlen _) (by decide)), Nat.le_trans (wlen _) (by decide)⟩
  · intro z hz
    obtain ⟨x, _, rfl⟩ := List.mem_map.mp hz
    obtain ⟨h1, h2, h3, _⟩ := word_norm (sepF_mem x) (names_good x) (names_ne x)
    exact ⟨h1, h2, h3⟩
  · rw [List.map_map]
    refine List.map_congr_left fun x _ => ?_
    exact (word_norm (sepF_mem x) (names_good x) (names_ne x)).2.2.2
  · intro z hz
    obtain ⟨x, _, rfl⟩ := List.mem_map.mp hz
    exact climb_okF (names_good x) (Nat.le_trans (names_good x).1 (by decide))
  · rw [tree_eq, List.length_map]; omega
  · rw [tree_eq, List.length_map]
    have h61 : namesF 61 ∈ rowsN ns := List.mem_map.mpr ⟨61, by unfold numsF tail6; exact List.mem_append_right _ (.head _), rfl⟩
    have hm : namesF 61 ∈ T ns := fold_has h61 (names_ne 61)
    have h2 : (namesF 61).length = 2 := by rw [names_len]; rfl
    have hd : (namesF 61).dropLast ∈ T ns := by
      rcases ok.cl _ hm with e | h
      · have := congrArg List.length e
        rw [List.length_dropLast, h2] at this
        simp at this
      · exact h
    refine nodup_len (a := [namesF 61, (namesF 61).dropLast]) ?_ ?_
    · refine List.nodup_cons.mpr ⟨fun h => ?_, List.nodup_cons.mpr ⟨List.not_mem_nil, List.nodup_nil⟩⟩
      have := congrArg List.length (List.mem_singleton.mp h)
      rw [List.length_dropLast, h2] at this
      omega
    · intro x hx
      rcases List.mem_cons.mp hx with rfl | hx
      · exact hm
      · rw [List.mem_singleton.mp hx]; exact hd
  · rw [hrows]; exact ok.nd
  · intro z hz
    rw [tree_eq] at hz
    obtain ⟨r, hr, rfl⟩ := List.mem_map.mp hz
    exact Nat.le_trans (row_len64 (hg r hr)) (by decide)
  · intro z _
    exact List.length_pos_iff.mpr (split_ne z sl1)
  · rw [hrows]
    intro r hr
    have h1 := (hg r hr).1
    have h2 := sum_small (hg r hr).2
    omega
  · intro rs hp hrise
    rw [hrows] at hp
    have hrise' : rs.Pairwise LtL := hrise
    refine ⟨?_, ?_⟩
    · unfold toldN toldF
      rw [wk]
      have e : walkR (T ns) (hidF ns) 5 [] = rowsH (hidF ns) rs := by
        refine rising_unique (walk_rise ok) (hrise'.sublist List.filter_sublist) fun r => ?_
        rw [mem_walk0 ok (by decide)]
        unfold rowsH
        rw [List.mem_filter, hp.mem_iff]
        refine and_congr_right fun _ => ?_
        rw [List.isEmpty_iff, List.filter_eq_nil_iff]
        refine forall_congr' fun z => imp_congr_right fun _ => ?_
        unfold vis
        simp
        exact ⟨fun h hz => h z hz rfl, fun h x hx e => h (e ▸ hx)⟩
      rw [e]
    · rw [wk]
      have e : walkR (T ns) [] 5 [] = rs := by
        refine rising_unique (walk_rise ok) hrise' fun r => ?_
        rw [mem_walk0 ok (by decide), hp.mem_iff]
        exact ⟨fun h => h.1, fun h => ⟨h, fun z _ => rfl⟩⟩
      rw [e]
  · unfold toldN
    rw [wk, wk, wk, List.filter_map]
    have gw : ∀ hid, ∀ r ∈ walkR (T ns) hid 5 [], Good r := fun hid r hr => hg r ((mem_walk0 ok (by decide)).mp hr).1
    have e : (walkR (T ns) ((hidF ns).take ((hidF ns).length / 2)) 5 []).filter ((fun z => ((walkR (T ns) ((hidF ns).drop ((hidF ns).length / 2)) 5 []).map rowJ).any (· == z)) ∘ rowJ) = (walkR (T ns) ((hidF ns).take ((hidF ns).length / 2)) 5 []).filter fun r => decide (r ∈ walkR (T ns) ((hidF ns).drop ((hidF ns).length / 2)) 5 []) := by
      refine List.filter_congr fun r hr => ?_
      exact any_row (gw _) (gw _ r hr)
    rw [e]
    refine congrArg (List.map rowJ) (rising_unique (walk_rise ok) ((walk_rise ok).sublist List.filter_sublist) fun r => ?_)
    rw [List.mem_filter, decide_eq_true_eq, mem_walk0 ok (by decide), mem_walk0 ok (by decide), mem_walk0 ok (by decide)]
    have hv : ∀ z, vis (hidF ns) z = (vis ((hidF ns).take ((hidF ns).length / 2)) z && vis ((hidF ns).drop ((hidF ns).length / 2)) z) := fun z => by
      rw [← vis_app, List.take_append_drop]
    constructor
    · rintro ⟨h1, h2⟩
      refine ⟨⟨h1, fun z hz => ?_⟩, h1, fun z hz => ?_⟩
      · have := h2 z hz
        rw [hv, Bool.and_eq_true] at this
        exact this.1
      · have := h2 z hz
        rw [hv, Bool.and_eq_true] at this
        exact this.2
    · rintro ⟨⟨h1, h2⟩, _, h3⟩
      exact ⟨h1, fun z hz => by rw [hv, h2 z hz, h3 z hz]; rfl⟩
  · exact Nat.le_trans (wlen _) (by decide)
end Mine
end
theorem PySem.Challenge.cw_ij0222_01_holds : PySem.Challenge.rw_ij0222_01.Holds := by
  exact PySem.W.holds_law Mine.ws fun said => Mine.head said (Mine.lawW fun ns _ => Mine.plain ns)
