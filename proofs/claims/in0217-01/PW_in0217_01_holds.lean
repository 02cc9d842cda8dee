import PyProof.Rows.All
import Wide.All
import OpenK.AllK
import Wide.FinOn
import Lean
import PySem.Challenge.RW_in0217_01
open PySem PySem.W PySem.Calls PyProof.Rows Lean Elab Meta
set_option Elab.async false
set_option maxRecDepth 100000
set_option maxHeartbeats 8000000
set_option hygiene false
set_option compiler.extract_closed false
set_option linter.all false
namespace Mine
namespace hd
noncomputable abbrev pw : Program := PySem.Challenge.rw_in0217_01.row.toRowW.prog
noncomputable def nth9 : List Stmt → Nat → Stmt
  | [], _ => .Pass default
  | a :: _, 0 => a
  | _ :: l, n + 1 => nth9 l n
noncomputable def body9 : List Stmt := PySem.Challenge.pw_in0217_01.main.body
noncomputable def cls9 : Stmt → List Stmt
  | .ClassDef _ _ _ b .. => b
  | _ => []
noncomputable def heap_39 : Params → Frag := by
  refine' (fun (a2 : Arguments) (b2 : List Stmt) (s2 : Scope) (x2_0 : PySem.Str) (x2_3 : List PySem.Expr) (x2_4 : Option PySem.Expr) (x2_5 : List TypeParam) (x2_7 : Option Scope) (x2_8 : PySem.Str) (x2_9 : Pos) (a3 : Arguments) (b3 : List Stmt) (s3 : Scope) (x3_0 : PySem.Str) (x3_3 : List PySem.Expr) (x3_4 : Option PySem.Expr) (x3_5 : List TypeParam) (x3_7 : Option Scope) (x3_8 : PySem.Str) (x3_9 : Pos) (a4 : Arguments) (b4 : List Stmt) (s4 : Scope) (x4_0 : PySem.Str) (x4_3 : List PySem.Expr) (x4_4 : Option PySem.Expr) (x4_5 : List TypeParam) (x4_7 : Option Scope) (x4_8 : PySem.Str) (x4_9 : Pos) (a5_0 : Arguments) (b5_0 : List Stmt) (s5_0 : Scope) (x5_0_0 : PySem.Str) (x5_0_3 : List PySem.Expr) (x5_0_4 : Option PySem.Expr) (x5_0_5 : List TypeParam) (x5_0_7 : Option Scope) (x5_0_8 : PySem.Str) (x5_0_9 : Pos) (a9 : Arguments) (b9 : List Stmt) (s9 : Scope) (x9_0 : PySem.Str) (x9_3 : List PySem.Expr) (x9_4 : Option PySem.Expr) (x9_5 : List TypeParam) (x9_7 : Option Scope) (x9_8 : PySem.Str) (x9_9 : Pos) (a11 : Arguments) (b11 : List Stmt) (s11 : Scope) (x11_0 : PySem.Str) (x11_3 : List PySem.Expr) (x11_4 : Option PySem.Expr) (x11_5 : List TypeParam) (x11_7 : Option Scope) (x11_8 : PySem.Str) (x11_9 : Pos) (a13 : Arguments) (b13 : List Stmt) (s13 : Scope) (x13_0 : PySem.Str) (x13_3 : List PySem.Expr) (x13_4 : Option PySem.Expr) (x13_5 : List TypeParam) (x13_7 : Option Scope) (x13_8 : PySem.Str) (x13_9 : Pos) (a21 : Arguments) (b21 : List Stmt) (s21 : Scope) (x21_0 : PySem.Str) (x21_3 : List PySem.Expr) (x21_4 : Option PySem.Expr) (x21_5 : List TypeParam) (x21_7 : Option Scope) (x21_8 : PySem.Str) (x21_9 : Pos) (a22 : Arguments) (b22 : List Stmt) (s22 : Scope) (x22_0 : PySem.Str) (x22_3 : List PySem.Expr) (x22_4 : Option PySem.Expr) (x22_5 : List TypeParam) (x22_7 : Option Scope) (x22_8 : PySem.Str) (x22_9 : Pos) (a23 : Arguments) (b23 : List Stmt) (s23 : Scope) (x23_0 : PySem.Str) (x23_3 : List PySem.Expr) (x23_4 : Option PySem.Expr) (x23_5 : List TypeParam) (x23_7 : Option Scope) (x23_8 : PySem.Str) (x23_9 : Pos) (a37 : Arguments) (b37 : List Stmt) (s37 : Scope) (x37_0 : PySem.Str) (x37_3 : List PySem.Expr) (x37_4 : Option PySem.Expr) (x37_5 : List TypeParam) (x37_7 : Option Scope) (x37_8 : PySem.Str) (x37_9 : Pos) (a39 : Arguments) (b39 : List Stmt) (s39 : Scope) (x39_0 : PySem.Str) (x39_3 : List PySem.Expr) (x39_4 : Option PySem.Expr) (x39_5 : List TypeParam) (x39_7 : Option Scope) (x39_8 : PySem.Str) (x39_9 : Pos) (a40 : Arguments) (b40 : List Stmt) (s40 : Scope) (x40_0 : PySem.Str) (x40_3 : List PySem.Expr) (x40_4 : Option PySem.Expr) (x40_5 : List TypeParam) (x40_7 : Option Scope) (x40_8 : PySem.Str) (x40_9 : Pos) (a41 : Arguments) (b41 : List Stmt) (s41 : Scope) (x41_0 : PySem.Str) (x41_3 : List PySem.Expr) (x41_4 : Option PySem.Expr) (x41_5 : List TypeParam) (x41_7 : Option Scope) (x41_8 : PySem.Str) (x41_9 : Pos) (a42 : Arguments) (b42 : List Stmt) (s42 : Scope) (x42_0 : PySem.Str) (x42_3 : List PySem.Expr) (x42_4 : Option PySem.Expr) (x42_5 : List TypeParam) (x42_7 : Option Scope) (x42_8 : PySem.Str) (x42_9 : Pos) (a43 : Arguments) (b43 : List Stmt) (s43 : Scope) (x43_0 : PySem.Str) (x43_3 : List PySem.Expr) (x43_4 : Option PySem.Expr) (x43_5 : List TypeParam) (x43_7 : Option Scope) (x43_8 : PySem.Str) (x43_9 : Pos) (a44 : Arguments) (b44 : List Stmt) (s44 : Scope) (x44_0 : PySem.Str) (x44_3 : List PySem.Expr) (x44_4 : Option PySem.Expr) (x44_5 : List TypeParam) (x44_7 : Option Scope) (x44_8 : PySem.Str) (x44_9 : Pos) (a45 : Arguments) (b45 : List Stmt) (s45 : Scope) (x45_0 : PySem.Str) (x45_3 : List PySem.Expr) (x45_4 : Option PySem.Expr) (x45_5 : List TypeParam) (x45_7 : Option Scope) (x45_8 : PySem.Str) (x45_9 : Pos) (a46 : Arguments) (b46 : List Stmt) (x46_0 : PySem.Str) (x46_3 : List PySem.Expr) (x46_4 : Option PySem.Expr) (x46_5 : List TypeParam) (x46_6 : Scope) (x46_7 : Option Scope) (x46_8 : PySem.Str) (x46_9 : Pos)
    (_ : nth9 body9 2 = .FunctionDef x2_0 a2 b2 x2_3 x2_4 x2_5 s2 x2_7 x2_8 x2_9) (_ : nth9 body9 3 = .FunctionDef x3_0 a3 b3 x3_3 x3_4 x3_5 s3 x3_7 x3_8 x3_9) (_ : nth9 body9 4 = .FunctionDef x4_0 a4 b4 x4_3 x4_4 x4_5 s4 x4_7 x4_8 x4_9) (_ : nth9 (cls9 (nth9 body9 5)) 0 = .FunctionDef x5_0_0 a5_0 b5_0 x5_0_3 x5_0_4 x5_0_5 s5_0 x5_0_7 x5_0_8 x5_0_9) (_ : nth9 body9 9 = .FunctionDef x9_0 a9 b9 x9_3 x9_4 x9_5 s9 x9_7 x9_8 x9_9) (_ : nth9 body9 11 = .FunctionDef x11_0 a11 b11 x11_3 x11_4 x11_5 s11 x11_7 x11_8 x11_9) (_ : nth9 body9 13 = .FunctionDef x13_0 a13 b13 x13_3 x13_4 x13_5 s13 x13_7 x13_8 x13_9) (_ : nth9 body9 21 = .FunctionDef x21_0 a21 b21 x21_3 x21_4 x21_5 s21 x21_7 x21_8 x21_9) (_ : nth9 body9 22 = .FunctionDef x22_0 a22 b22 x22_3 x22_4 x22_5 s22 x22_7 x22_8 x22_9) (_ : nth9 body9 23 = .FunctionDef x23_0 a23 b23 x23_3 x23_4 x23_5 s23 x23_7 x23_8 x23_9) (_ : nth9 body9 37 = .FunctionDef x37_0 a37 b37 x37_3 x37_4 x37_5 s37 x37_7 x37_8 x37_9) (_ : nth9 body9 39 = .FunctionDef x39_0 a39 b39 x39_3 x39_4 x39_5 s39 x39_7 x39_8 x39_9) (_ : nth9 body9 40 = .FunctionDef x40_0 a40 b40 x40_3 x40_4 x40_5 s40 x40_7 x40_8 x40_9) (_ : nth9 body9 41 = .FunctionDef x41_0 a41 b41 x41_3 x41_4 x41_5 s41 x41_7 x41_8 x41_9) (_ : nth9 body9 42 = .FunctionDef x42_0 a42 b42 x42_3 x42_4 x42_5 s42 x42_7 x42_8 x42_9) (_ : nth9 body9 43 = .FunctionDef x43_0 a43 b43 x43_3 x43_4 x43_5 s43 x43_7 x43_8 x43_9) (_ : nth9 body9 44 = .FunctionDef x44_0 a44 b44 x44_3 x44_4 x44_5 s44 x44_7 x44_8 x44_9) (_ : nth9 body9 45 = .FunctionDef x45_0 a45 b45 x45_3 x45_4 x45_5 s45 x45_7 x45_8 x45_9) (_ : nth9 body9 46 = .FunctionDef x46_0 a46 b46 x46_3 x46_4 x46_5 x46_6 x46_7 x46_8 x46_9)
    (P : Params) => (
    (nat_lit 2, ⟨.none, .none, .dict (List.toArray [⟨PyData.keyHash P (.ofString "\x69mport.loaded._sre"), .str (.ofString "\x69mport.loaded._sre") 183, .bool .true⟩, ⟨PyData.keyHash P (.ofString "class._frozen_importlib.BuiltinImporter"), .str (.ofString "class._frozen_importlib.BuiltinImporter") 185, .ref 14⟩, ⟨PyData.keyHash P (.ofString "watched.\x69mport"), .str (.ofString "watched.\x69mport") 206, .ref 18⟩, ⟨PyData.keyHash P (.ofString "class._frozen_importlib.ModuleSpec"), .str (.ofString "class._frozen_importlib.ModuleSpec") 216, .ref 22⟩, ⟨PyData.keyHash P (.ofString "sys.modules.booked-epoch"), .str (.ofString "sys.modules.booked-epoch") 245, .int 3 0⟩, ⟨PyData.keyHash P (.ofString "\x69mport.later-laid._sre"), .str (.ofString "\x69mport.later-laid._sre") 270, .bool .true⟩, ⟨PyData.keyHash P (.ofString "watched.library"), .str (.ofString "watched.library") 272, .ref 27⟩, ⟨PyData.keyHash P (.ofString "watched.library-objects"), .str (.ofString "watched.library-objects") 0, .str (.ofString "\x0c") 0⟩, ⟨PyData.keyHash P (.ofString "watched.library-deep._sre"), .str (.ofString "watched.library-deep._sre") 273, .str (.ofString "\x04\x00\x00\x0b\x04\x00\x00\x0b\x04\x00\x00\x03\x04\x00\x00\x0b\x08\x04dict\x02") 0⟩]) 9, List.toArray []⟩) ::
    (nat_lit 3, ⟨.type "dict", .none, .dict (List.toArray [⟨PyData.keyHash P (.ofString "__name__"), .str (.ofString "__name__") 165, .str (.ofString "law_in0217_01") 659⟩, ⟨PyData.keyHash P (.ofString "__doc__"), .str (.ofString "__doc__") 166, .none⟩, ⟨PyData.keyHash P (.ofString "__package__"), .str (.ofString "__package__") 167, .none⟩, ⟨PyData.keyHash P (.ofString "__loader__"), .str (.ofString "__loader__") 168, .builtin "__main__.__loader__#opaque"⟩, ⟨PyData.keyHash P (.ofString "__spec__"), .str (.ofString "__spec__") 169, .none⟩, ⟨PyData.keyHash P (.ofString "__annotations__"), .str (.ofString "__annotations__") 170, .ref 6⟩, ⟨PyData.keyHash P (.ofString "__builtins__"), .str (.ofString "__builtins__") 171, .ref 4⟩, ⟨PyData.keyHash P (.ofString "__file__"), .str (.ofString "__file__") 173, .str (.ofString "/claim/cut.py") 172⟩, ⟨PyData.keyHash P (.ofString "__cached__"), .str (.ofString "__cached__") 174, .none⟩, ⟨PyData.keyHash P (.ofString "_sre"), .str (.ofString "_sre") 275, .ref 12⟩, ⟨PyData.keyHash P (.ofString "read_uint1"), .str (.ofString "read_uint1") 291, .ref 38⟩, ⟨PyData.keyHash P (.ofString "read_string1"), .str (.ofString "read_string1") 300, .ref 45⟩, ⟨PyData.keyHash P (.ofString "read_bytes1"), .str (.ofString "read_bytes1") 309, .ref 52⟩, ⟨PyData.keyHash P (.ofString "_Example"), .str (.ofString "_Example") 338, .ref 69⟩, ⟨PyData.keyHash P (.ofString "_twin_re_1"), .str (.ofString "_twin_re_1") 376, .ref 78⟩, ⟨PyData.keyHash P (.ofString "_special_chars_map"), .str (.ofString "_special_chars_map") 524, .ref 80⟩, ⟨PyData.keyHash P (.ofString "escape"), .str (.ofString "escape") 531, .ref 90⟩, ⟨PyData.keyHash P (.ofString "_translate"), .str (.ofString "_translate") 552, .ref 97⟩, ⟨PyData.keyHash P (.ofString "S_IFMT"), .str (.ofString "S_IFMT") 561, .ref 104⟩, ⟨PyData.keyHash P (.ofString "S_IFDIR"), .str (.ofString "S_IFDIR") 563, .int 16384 562⟩, ⟨PyData.keyHash P (.ofString "S_IFCHR"), .str (.ofString "S_IFCHR") 565, .int 8192 564⟩, ⟨PyData.keyHash P (.ofString "S_IFBLK"), .str (.ofString "S_IFBLK") 567, .int 24576 566⟩, ⟨PyData.keyHash P (.ofString "S_IFREG"), .str (.ofString "S_IFREG") 569, .int 32768 568⟩, ⟨PyData.keyHash P (.ofString "S_IFIFO"), .str (.ofString "S_IFIFO") 571, .int 4096 570⟩, ⟨PyData.keyHash P (.ofString "S_IFLNK"), .str (.ofString "S_IFLNK") 573, .int 40960 572⟩, ⟨PyData.keyHash P (.ofString "S_IFSOCK"), .str (.ofString "S_IFSOCK") 575, .int 49152 574⟩, ⟨PyData.keyHash P (.ofString "S_ISDIR"), .str (.ofString "S_ISDIR") 582, .ref 111⟩, ⟨PyData.keyHash P (.ofString "S_ISREG"), .str (.ofString "S_ISREG") 589, .ref 118⟩, ⟨PyData.keyHash P (.ofString "S_ISLNK"), .str (.ofString "S_ISLNK") 596, .ref 125⟩, ⟨PyData.keyHash P (.ofString "S_ISUID"), .str (.ofString "S_ISUID") 598, .int 2048 597⟩, ⟨PyData.keyHash P (.ofString "S_ISGID"), .str (.ofString "S_ISGID") 600, .int 1024 599⟩, ⟨PyData.keyHash P (.ofString "S_ISVTX"), .str (.ofString "S_ISVTX") 602, .int 512 601⟩, ⟨PyData.keyHash P (.ofString "S_IRUSR"), .str (.ofString "S_IRUSR") 604, .int 256 603⟩, ⟨PyData.keyHash P (.ofString "S_IWUSR"), .str (.ofString "S_IWUSR") 606, .int 128 605⟩, ⟨PyData.keyHash P (.ofString "S_IXUSR"), .str (.ofString "S_IXUSR") 608, .int 64 607⟩, ⟨PyData.keyHash P (.ofString "S_IRGRP"), .str (.ofString "S_IRGRP") 610, .int 32 609⟩, ⟨PyData.keyHash P (.ofString "S_IWGRP"), .str (.ofString "S_IWGRP") 612, .int 16 611⟩, ⟨PyData.keyHash P (.ofString "S_IXGRP"), .str (.ofString "S_IXGRP") 614, .int 8 613⟩, ⟨PyData.keyHash P (.ofString "S_IROTH"), .str (.ofString "S_IROTH") 616, .int 4 615⟩, ⟨PyData.keyHash P (.ofString "S_IWOTH"), .str (.ofString "S_IWOTH") 618, .int 2 617⟩, ⟨PyData.keyHash P (.ofString "S_IXOTH"), .str (.ofString "S_IXOTH") 620, .int 1 619⟩, ⟨PyData.keyHash P (.ofString "_filemode_table"), .str (.ofString "_filemode_table") 646, .ref 158⟩, ⟨PyData.keyHash P (.ofString "filemode"), .str (.ofString "filemode") 658, .ref 165⟩, ⟨PyData.keyHash P (.ofString "_law_stream"), .str (.ofString "_law_stream") 671, .ref 172⟩, ⟨PyData.keyHash P (.ofString "_law_row"), .str (.ofString "_law_row") 682, .ref 179⟩, ⟨PyData.keyHash P (.ofString "_law_fits"), .str (.ofString "_law_fits") 690, .ref 186⟩, ⟨PyData.keyHash P (.ofString "_law_takes"), .str (.ofString "_law_takes") 700, .ref 193⟩, ⟨PyData.keyHash P (.ofString "_law_thing"), .str (.ofString "_law_thing") 708, .ref 200⟩, ⟨PyData.keyHash P (.ofString "_law_walk"), .str (.ofString "_law_walk") 726, .ref 207⟩, ⟨PyData.keyHash P (.ofString "_law_list"), .str (.ofString "_law_list") 732, .ref 212⟩, ⟨PyData.keyHash P (.ofString "law"), .str (.ofString "law") 738, .ref 217⟩]) 51, List.toArray []⟩) ::
    (nat_lit 32, ⟨.type "tuple", .none, .seq (List.toArray []) 0, List.toArray []⟩) ::
    (nat_lit 34, ⟨.type "tuple", .none, .seq (List.toArray [.str (.ofString "f") 287, .str (.ofString "data") 288]) 0, List.toArray []⟩) ::
    (nat_lit 35, ⟨.type "tuple", .none, .seq (List.toArray []) 0, List.toArray []⟩) ::
    (nat_lit 37, ⟨.type "code", .none, .fields (List.toArray [.str (.ofString "read_uint1") 284, .str (.ofString "read_uint1") 285, .str (.ofString "/claim/cut.py") 286, .int 3 0, .int 1 0, .int 0 0, .int 0 0, .int 3 0, .ref 32, .bool .true, .int 276 0, .ref 33, .none, .ref 34, .ref 35, .ref 36, .int 289 0, .int 3 0, .str (.ofString "/claim/cut.py") 290]), List.toArray []⟩) ::
    (nat_lit 38, ⟨.type "function", .none, .func ⟨.ofString "read_uint1", .ofString "read_uint1", a2, .stmts b2, s2, 3, [], .none, .none, .none, .str (.ofString "cpy313.pickletools") 282, .none, .ref 37, .none, 0⟩, List.toArray []⟩) ::
    (nat_lit 39, ⟨.type "tuple", .none, .seq (List.toArray []) 0, List.toArray []⟩) ::
    (nat_lit 41, ⟨.type "tuple", .none, .seq (List.toArray [.str (.ofString "f") 295, .str (.ofString "n") 296, .str (.ofString "data") 297]) 0, List.toArray []⟩) ::
    (nat_lit 42, ⟨.type "tuple", .none, .seq (List.toArray []) 0, List.toArray []⟩) ::
    (nat_lit 44, ⟨.type "code", .none, .fields (List.toArray [.str (.ofString "read_string1") 292, .str (.ofString "read_string1") 293, .str (.ofString "/claim/cut.py") 294, .int 8 0, .int 1 0, .int 0 0, .int 0 0, .int 3 0, .ref 39, .bool .true, .int 276 0, .ref 40, .none, .ref 41, .ref 42, .ref 43, .int 298 0, .int 8 0, .str (.ofString "/claim/cut.py") 299]), List.toArray []⟩) ::
    (nat_lit 45, ⟨.type "function", .none, .func ⟨.ofString "read_string1", .ofString "read_string1", a3, .stmts b3, s4, 3, [], .none, .none, .none, .str (.ofString "cpy313.pickletools") 282, .none, .ref 44, .none, 0⟩, List.toArray []⟩) ::
    (nat_lit 46, ⟨.type "tuple", .none, .seq (List.toArray []) 0, List.toArray []⟩) ::
    (nat_lit 48, ⟨.type "tuple", .none, .seq (List.toArray [.str (.ofString "f") 304, .str (.ofString "n") 305, .str (.ofString "data") 306]) 0, List.toArray []⟩) ::
    (nat_lit 49, ⟨.type "tuple", .none, .seq (List.toArray []) 0, List.toArray []⟩) ::
    (nat_lit 51, ⟨.type "code", .none, .fields (List.toArray [.str (.ofString "read_bytes1") 301, .str (.ofString "read_bytes1") 302, .str (.ofString "/claim/cut.py") 303, .int 15 0, .int 1 0, .int 0 0, .int 0 0, .int 3 0, .ref 46, .bool .true, .int 276 0, .ref 47, .none, .ref 48, .ref 49, .ref 50, .int 307 0, .int 15 0, .str (.ofString "/claim/cut.py") 308]), List.toArray []⟩) ::
    (nat_lit 52, ⟨.type "function", .none, .func ⟨.ofString "read_bytes1", .ofString "read_bytes1", a4, .stmts b4, s4, 3, [], .none, .none, .none, .str (.ofString "cpy313.pickletools") 282, .none, .ref 51, .none, 0⟩, List.toArray []⟩) ::
    (nat_lit 60, ⟨.type "tuple", .none, .seq (List.toArray []) 0, List.toArray []⟩) ::
    (nat_lit 62, ⟨.type "tuple", .none, .seq (List.toArray [.str (.ofString "self") 325, .str (.ofString "value") 326]) 0, List.toArray []⟩) ::
    (nat_lit 63, ⟨.type "tuple", .none, .seq (List.toArray []) 0, List.toArray []⟩) ::
    (nat_lit 65, ⟨.type "code", .none, .fields (List.toArray [.str (.ofString "__init__") 322, .str (.ofString "_Example.__init__") 323, .str (.ofString "/claim/cut.py") 324, .int 24 0, .int 2 0, .int 0 0, .int 0 0, .int 3 0, .ref 60, .bool .true, .int 276 0, .ref 61, .none, .ref 62, .ref 63, .ref 64, .int 327 0, .int 24 0, .str (.ofString "/claim/cut.py") 328]), List.toArray []⟩) ::
    (nat_lit 66, ⟨.type "function", .none, .func ⟨.ofString "__init__", .ofString "_Example.__init__", a5_0, .stmts b5_0, s5_0, 3, [], .none, .none, .none, .str (.ofString "cpy313.pickletools") 282, .none, .ref 65, .none, 0⟩, List.toArray []⟩) ::
    (nat_lit 67, ⟨.type "tuple", .none, .seq (List.toArray [.str (.ofString "value") 330]) 0, List.toArray []⟩) ::
    (nat_lit 68, ⟨.type "dict", .none, .dict (List.toArray [⟨PyData.keyHash P (.ofString "__module__"), .str (.ofString "__module__") 317, .str (.ofString "cpy313.pickletools") 282⟩, ⟨PyData.keyHash P (.ofString "__firstlineno__"), .str (.ofString "__firstlineno__") 321, .int 22 320⟩, ⟨PyData.keyHash P (.ofString "__init__"), .str (.ofString "__init__") 329, .ref 66⟩, ⟨PyData.keyHash P (.ofString "__static_attributes__"), .str (.ofString "__static_attributes__") 331, .ref 67⟩, ⟨PyData.keyHash P (.ofString "__dict__"), .str (.ofString "__dict__") 333, .ref 70⟩, ⟨PyData.keyHash P (.ofString "__weakref__"), .str (.ofString "__weakref__") 335, .ref 71⟩, ⟨PyData.keyHash P (.ofString "__doc__"), .str (.ofString "__doc__") 336, .none⟩]) 4, List.toArray []⟩) ::
    (nat_lit 69, ⟨.type "type", .none, .cls ⟨.ofString "_Example", [.type "object"], [.ref 69, .type "object"], 68, .ofString "_Example", .true, [], [], .false, .none, .false⟩, List.toArray [.none, .none, .some (.str (.ofString "_Example") 310), .some (.str (.ofString "_Example") 318), .some (.builtin "object.__new__"), .some (.bool .true)]⟩) ::
    (nat_lit 70, ⟨.type "getset_descriptor", .none, .fields (List.toArray [.str (.ofString "__dict__") 332, .ref 69, .builtin "function.__dict__", .builtin "function.__dict__#set"]), List.toArray []⟩) ::
    (nat_lit 71, ⟨.type "getset_descriptor", .none, .fields (List.toArray [.str (.ofString "__weakref__") 334, .ref 69, .builtin "ExceptionGroup.__weakref__", .none]), List.toArray []⟩) ::
    (nat_lit 77, ⟨.type "tuple", .none, .seq (List.toArray [.int 14 0, .int 14 0, .int 4 0, .int 1 0, .int 1 0, .int 9 0, .int 0 0, .int 64 0, .int 0 0, .int 1342177280 0, .int 0 0, .int 0 0, .int 0 0, .int 0 0, .int 0 0, .int 17 0, .int 0 0, .int 13 0, .int 11 0, .int 9 0, .int 0 0, .int 64 0, .int 0 0, .int 1342177280 0, .int 0 0, .int 0 0, .int 0 0, .int 0 0, .int 0 0, .int 17 0, .int 1 0, .int 1 0]) 0, List.toArray []⟩) ::
    (nat_lit 78, ⟨.type "re.Pattern", .none, .fields (List.toArray [.str (.ofString "([&~|])") 340, .int 32 375, .int 1 0, .none, .none, .ref 77, .int 0 0]), List.toArray []⟩) ::
    (nat_lit 80, ⟨.type "dict", .none, .dict (List.toArray [⟨40, .int 40 380, .str (.ofString "\\(") 384⟩, ⟨41, .int 41 386, .str (.ofString "\\)") 390⟩, ⟨91, .int 91 392, .str (.ofString "\\[") 396⟩, ⟨93, .int 93 398, .str (.ofString "\\]") 402⟩, ⟨123, .int 123 404, .str (.ofString "\\{") 408⟩, ⟨125, .int 125 410, .str (.ofString "\\}") 414⟩, ⟨63, .int 63 416, .str (.ofString "\\?") 420⟩, ⟨42, .int 42 422, .str (.ofString "\\*") 426⟩, ⟨43, .int 43 428, .str (.ofString "\\+") 432⟩, ⟨45, .int 45 434, .str (.ofString "\\-") 438⟩, ⟨124, .int 124 440, .str (.ofString "\\|") 444⟩, ⟨94, .int 94 446, .str (.ofString "\\^") 450⟩, ⟨36, .int 36 452, .str (.ofString "\\$") 456⟩, ⟨92, .int 92 458, .str (.ofString "\\\\") 462⟩, ⟨46, .int 46 464, .str (.ofString "\\.") 468⟩, ⟨38, .int 38 470, .str (.ofString "\\&") 474⟩, ⟨126, .int 126 476, .str (.ofString "\\~") 480⟩, ⟨35, .int 35 482, .str (.ofString "\\#") 486⟩, ⟨32, .int 32 488, .str (.ofString "\\ ") 492⟩, ⟨9, .int 9 494, .str (.ofString "\\\x09") 498⟩, ⟨10, .int 10 500, .str (.ofString "\\\x0a") 504⟩, ⟨13, .int 13 506, .str (.ofString "\\\x0d") 510⟩, ⟨11, .int 11 512, .str (.ofString "\\\x0b") 516⟩, ⟨12, .int 12 518, .str (.ofString "\\\x0c") 522⟩]) 24, List.toArray []⟩) ::
    (nat_lit 84, ⟨.type "tuple", .none, .seq (List.toArray []) 0, List.toArray []⟩) ::
    (nat_lit 86, ⟨.type "tuple", .none, .seq (List.toArray [.str (.ofString "pattern") 528]) 0, List.toArray []⟩) ::
    (nat_lit 87, ⟨.type "tuple", .none, .seq (List.toArray []) 0, List.toArray []⟩) ::
    (nat_lit 89, ⟨.type "code", .none, .fields (List.toArray [.str (.ofString "escape") 525, .str (.ofString "escape") 526, .str (.ofString "/claim/cut.py") 527, .int 29 0, .int 1 0, .int 0 0, .int 0 0, .int 3 0, .ref 84, .bool .true, .int 276 0, .ref 85, .none, .ref 86, .ref 87, .ref 88, .int 529 0, .int 29 0, .str (.ofString "/claim/cut.py") 530]), List.toArray []⟩) ::
    (nat_lit 90, ⟨.type "function", .none, .func ⟨.ofString "escape", .ofString "escape", a9, .stmts b9, s9, 3, [], .none, .none, .none, .str (.ofString "re") 377, .none, .ref 89, .none, 0⟩, List.toArray []⟩) ::
    (nat_lit 91, ⟨.type "tuple", .none, .seq (List.toArray []) 0, List.toArray []⟩) ::
    (nat_lit 93, ⟨.type "tuple", .none, .seq (List.toArray [.str (.ofString "pat") 537, .str (.ofString "STAR") 538, .str (.ofString "QUESTION_MARK") 539, .str (.ofString "res") 540, .str (.ofString "add") 541, .str (.ofString "i") 542, .str (.ofString "n") 543, .str (.ofString "c") 544, .str (.ofString "j") 545, .str (.ofString "stuff") 546, .str (.ofString "chunks") 547, .str (.ofString "k") 548, .str (.ofString "chunk") 549]) 0, List.toArray []⟩) ::
    (nat_lit 94, ⟨.type "tuple", .none, .seq (List.toArray []) 0, List.toArray []⟩) ::
    (nat_lit 96, ⟨.type "code", .none, .fields (List.toArray [.str (.ofString "_translate") 534, .str (.ofString "_translate") 535, .str (.ofString "/claim/cut.py") 536, .int 36 0, .int 3 0, .int 0 0, .int 0 0, .int 3 0, .ref 91, .bool .true, .int 276 0, .ref 92, .none, .ref 93, .ref 94, .ref 95, .int 550 0, .int 36 0, .str (.ofString "/claim/cut.py") 551]), List.toArray []⟩) ::
    (nat_lit 97, ⟨.type "function", .none, .func ⟨.ofString "_translate", .ofString "_translate", a11, .stmts b11, s11, 3, [], .none, .none, .none, .str (.ofString "cpy313.fnmatch") 532, .none, .ref 96, .none, 0⟩, List.toArray []⟩) ::
    (nat_lit 98, ⟨.type "tuple", .none, .seq (List.toArray []) 0, List.toArray []⟩) ::
    (nat_lit 100, ⟨.type "tuple", .none, .seq (List.toArray [.str (.ofString "mode") 558]) 0, List.toArray []⟩) ::
    (nat_lit 101, ⟨.type "tuple", .none, .seq (List.toArray []) 0, List.toArray []⟩) ::
    (nat_lit 103, ⟨.type "code", .none, .fields (List.toArray [.str (.ofString "S_IFMT") 555, .str (.ofString "S_IFMT") 556, .str (.ofString "/claim/cut.py") 557, .int 99 0, .int 1 0, .int 0 0, .int 0 0, .int 3 0, .ref 98, .bool .true, .int 276 0, .ref 99, .none, .ref 100, .ref 101, .ref 102, .int 559 0, .int 99 0, .str (.ofString "/claim/cut.py") 560]), List.toArray []⟩) ::
    (nat_lit 104, ⟨.type "function", .none, .func ⟨.ofString "S_IFMT", .ofString "S_IFMT", a13, .stmts b13, s13, 3, [], .none, .none, .none, .str (.ofString "cpy313.stat") 553, .none, .ref 103, .none, 0⟩, List.toArray []⟩) ::
    (nat_lit 105, ⟨.type "tuple", .none, .seq (List.toArray []) 0, List.toArray []⟩) ::
    (nat_lit 107, ⟨.type "tuple", .none, .seq (List.toArray [.str (.ofString "mode") 579]) 0, List.toArray []⟩) ::
    (nat_lit 108, ⟨.type "tuple", .none, .seq (List.toArray []) 0, List.toArray []⟩) ::
    (nat_lit 110, ⟨.type "code", .none, .fields (List.toArray [.str (.ofString "S_ISDIR") 576, .str (.ofString "S_ISDIR") 577, .str (.ofString "/claim/cut.py") 578, .int 108 0, .int 1 0, .int 0 0, .int 0 0, .int 3 0, .ref 105, .bool .true, .int 276 0, .ref 106, .none, .ref 107, .ref 108, .ref 109, .int 580 0, .int 108 0, .str (.ofString "/claim/cut.py") 581]), List.toArray []⟩) ::
    (nat_lit 111, ⟨.type "function", .none, .func ⟨.ofString "S_ISDIR", .ofString "S_ISDIR", a21, .stmts b21, s21, 3, [], .none, .none, .none, .str (.ofString "cpy313.stat") 553, .none, .ref 110, .none, 0⟩, List.toArray []⟩) ::
    (nat_lit 112, ⟨.type "tuple", .none, .seq (List.toArray []) 0, List.toArray []⟩) ::
    (nat_lit 114, ⟨.type "tuple", .none, .seq (List.toArray [.str (.ofString "mode") 586]) 0, List.toArray []⟩) ::
    (nat_lit 115, ⟨.type "tuple", .none, .seq (List.toArray []) 0, List.toArray []⟩) ::
    (nat_lit 117, ⟨.type "code", .none, .fields (List.toArray [.str (.ofString "S_ISREG") 583, .str (.ofString "S_ISREG") 584, .str (.ofString "/claim/cut.py") 585, .int 110 0, .int 1 0, .int 0 0, .int 0 0, .int 3 0, .ref 112, .bool .true, .int 276 0, .ref 113, .none, .ref 114, .ref 115, .ref 116, .int 587 0, .int 110 0, .str (.ofString "/claim/cut.py") 588]), List.toArray []⟩) ::
    (nat_lit 118, ⟨.type "function", .none, .func ⟨.ofString "S_ISREG", .ofString "S_ISREG", a22, .stmts b22, s22, 3, [], .none, .none, .none, .str (.ofString "cpy313.stat") 553, .none, .ref 117, .none, 0⟩, List.toArray []⟩) ::
    (nat_lit 119, ⟨.type "tuple", .none, .seq (List.toArray []) 0, List.toArray []⟩) ::
    (nat_lit 121, ⟨.type "tuple", .none, .seq (List.toArray [.str (.ofString "mode") 593]) 0, List.toArray []⟩) ::
    (nat_lit 122, ⟨.type "tuple", .none, .seq (List.toArray []) 0, List.toArray []⟩) ::
    (nat_lit 124, ⟨.type "code", .none, .fields (List.toArray [.str (.ofString "S_ISLNK") 590, .str (.ofString "S_ISLNK") 591, .str (.ofString "/claim/cut.py") 592, .int 112 0, .int 1 0, .int 0 0, .int 0 0, .int 3 0, .ref 119, .bool .true, .int 276 0, .ref 120, .none, .ref 121, .ref 122, .ref 123, .int 594 0, .int 112 0, .str (.ofString "/claim/cut.py") 595]), List.toArray []⟩) ::
    (nat_lit 125, ⟨.type "function", .none, .func ⟨.ofString "S_ISLNK", .ofString "S_ISLNK", a23, .stmts b23, s23, 3, [], .none, .none, .none, .str (.ofString "cpy313.stat") 553, .none, .ref 124, .none, 0⟩, List.toArray []⟩) ::
    (nat_lit 126, ⟨.type "tuple", .none, .seq (List.toArray [.int 40960 572, .str (.ofString "l") 621]) 0, List.toArray []⟩) ::
    (nat_lit 127, ⟨.type "tuple", .none, .seq (List.toArray [.int 49152 574, .str (.ofString "s") 622]) 0, List.toArray []⟩) ::
    (nat_lit 128, ⟨.type "tuple", .none, .seq (List.toArray [.int 32768 568, .str (.ofString "-") 623]) 0, List.toArray []⟩) ::
    (nat_lit 129, ⟨.type "tuple", .none, .seq (List.toArray [.int 24576 566, .str (.ofString "b") 624]) 0, List.toArray []⟩) ::
    (nat_lit 130, ⟨.type "tuple", .none, .seq (List.toArray [.int 16384 562, .str (.ofString "d") 625]) 0, List.toArray []⟩) ::
    (nat_lit 131, ⟨.type "tuple", .none, .seq (List.toArray [.int 8192 564, .str (.ofString "c") 626]) 0, List.toArray []⟩) ::
    (nat_lit 132, ⟨.type "tuple", .none, .seq (List.toArray [.int 4096 570, .str (.ofString "p") 627]) 0, List.toArray []⟩) ::
    (nat_lit 133, ⟨.type "tuple", .none, .seq (List.toArray [.ref 126, .ref 127, .ref 128, .ref 129, .ref 130, .ref 131, .ref 132]) 0, List.toArray []⟩) ::
    (nat_lit 134, ⟨.type "tuple", .none, .seq (List.toArray [.int 256 603, .str (.ofString "r") 628]) 0, List.toArray []⟩) ::
    (nat_lit 135, ⟨.type "tuple", .none, .seq (List.toArray [.ref 134]) 0, List.toArray []⟩) ::
    (nat_lit 136, ⟨.type "tuple", .none, .seq (List.toArray [.int 128 605, .str (.ofString "w") 629]) 0, List.toArray []⟩) ::
    (nat_lit 137, ⟨.type "tuple", .none, .seq (List.toArray [.ref 136]) 0, List.toArray []⟩) ::
    (nat_lit 138, ⟨.type "tuple", .none, .seq (List.toArray [.int 2112 630, .str (.ofString "s") 631]) 0, List.toArray []⟩) ::
    (nat_lit 139, ⟨.type "tuple", .none, .seq (List.toArray [.int 2048 597, .str (.ofString "S") 632]) 0, List.toArray []⟩) ::
    (nat_lit 140, ⟨.type "tuple", .none, .seq (List.toArray [.int 64 607, .str (.ofString "x") 633]) 0, List.toArray []⟩) ::
    (nat_lit 141, ⟨.type "tuple", .none, .seq (List.toArray [.ref 138, .ref 139, .ref 140]) 0, List.toArray []⟩) ::
    (nat_lit 142, ⟨.type "tuple", .none, .seq (List.toArray [.int 32 609, .str (.ofString "r") 634]) 0, List.toArray []⟩) ::
    (nat_lit 143, ⟨.type "tuple", .none, .seq (List.toArray [.ref 142]) 0, List.toArray []⟩) ::
    (nat_lit 144, ⟨.type "tuple", .none, .seq (List.toArray [.int 16 611, .str (.ofString "w") 635]) 0, List.toArray []⟩) ::
    (nat_lit 145, ⟨.type "tuple", .none, .seq (List.toArray [.ref 144]) 0, List.toArray []⟩) ::
    (nat_lit 146, ⟨.type "tuple", .none, .seq (List.toArray [.int 1032 636, .str (.ofString "s") 637]) 0, List.toArray []⟩) ::
    (nat_lit 147, ⟨.type "tuple", .none, .seq (List.toArray [.int 1024 599, .str (.ofString "S") 638]) 0, List.toArray []⟩) ::
    (nat_lit 148, ⟨.type "tuple", .none, .seq (List.toArray [.int 8 613, .str (.ofString "x") 639]) 0, List.toArray []⟩) ::
    (nat_lit 149, ⟨.type "tuple", .none, .seq (List.toArray [.ref 146, .ref 147, .ref 148]) 0, List.toArray []⟩) ::
    (nat_lit 150, ⟨.type "tuple", .none, .seq (List.toArray [.int 4 615, .str (.ofString "r") 640]) 0, List.toArray []⟩) ::
    (nat_lit 151, ⟨.type "tuple", .none, .seq (List.toArray [.ref 150]) 0, List.toArray []⟩) ::
    (nat_lit 152, ⟨.type "tuple", .none, .seq (List.toArray [.int 2 617, .str (.ofString "w") 641]) 0, List.toArray []⟩) ::
    (nat_lit 153, ⟨.type "tuple", .none, .seq (List.toArray [.ref 152]) 0, List.toArray []⟩) ::
    (nat_lit 154, ⟨.type "tuple", .none, .seq (List.toArray [.int 513 642, .str (.ofString "t") 643]) 0, List.toArray []⟩) ::
    (nat_lit 155, ⟨.type "tuple", .none, .seq (List.toArray [.int 512 601, .str (.ofString "T") 644]) 0, List.toArray []⟩) ::
    (nat_lit 156, ⟨.type "tuple", .none, .seq (List.toArray [.int 1 619, .str (.ofString "x") 645]) 0, List.toArray []⟩) ::
    (nat_lit 157, ⟨.type "tuple", .none, .seq (List.toArray [.ref 154, .ref 155, .ref 156]) 0, List.toArray []⟩) ::
    (nat_lit 158, ⟨.type "tuple", .none, .seq (List.toArray [.ref 133, .ref 135, .ref 137, .ref 141, .ref 143, .ref 145, .ref 149, .ref 151, .ref 153, .ref 157]) 0, List.toArray []⟩) ::
    (nat_lit 159, ⟨.type "tuple", .none, .seq (List.toArray []) 0, List.toArray []⟩) ::
    (nat_lit 161, ⟨.type "tuple", .none, .seq (List.toArray [.str (.ofString "mode") 650, .str (.ofString "perm") 651, .str (.ofString "index") 652, .str (.ofString "table") 653, .str (.ofString "bit") 654, .str (.ofString "char") 655]) 0, List.toArray []⟩) ::
    (nat_lit 162, ⟨.type "tuple", .none, .seq (List.toArray []) 0, List.toArray []⟩) ::
    (nat_lit 164, ⟨.type "code", .none, .fields (List.toArray [.str (.ofString "filemode") 647, .str (.ofString "filemode") 648, .str (.ofString "/claim/cut.py") 649, .int 127 0, .int 1 0, .int 0 0, .int 0 0, .int 3 0, .ref 159, .bool .true, .int 276 0, .ref 160, .none, .ref 161, .ref 162, .ref 163, .int 656 0, .int 127 0, .str (.ofString "/claim/cut.py") 657]), List.toArray []⟩) ::
    (nat_lit 165, ⟨.type "function", .none, .func ⟨.ofString "filemode", .ofString "filemode", a37, .stmts b37, s37, 3, [], .none, .none, .none, .str (.ofString "cpy313.stat") 553, .none, .ref 164, .none, 0⟩, List.toArray []⟩) ::
    (nat_lit 166, ⟨.type "tuple", .none, .seq (List.toArray []) 0, List.toArray []⟩) ::
    (nat_lit 168, ⟨.type "tuple", .none, .seq (List.toArray [.str (.ofString "octets") 664, .str (.ofString "_law_read") 665, .str (.ofString "stream") 666]) 0, List.toArray []⟩) ::
    (nat_lit 169, ⟨.type "tuple", .none, .seq (List.toArray [.str (.ofString "octets") 667, .str (.ofString "place") 668]) 0, List.toArray []⟩) ::
    (nat_lit 171, ⟨.type "code", .none, .fields (List.toArray [.str (.ofString "_law_stream") 661, .str (.ofString "_law_stream") 662, .str (.ofString "/claim/cut.py") 663, .int 145 0, .int 1 0, .int 0 0, .int 0 0, .int 3 0, .ref 166, .bool .true, .int 276 0, .ref 167, .none, .ref 168, .ref 169, .ref 170, .int 669 0, .int 145 0, .str (.ofString "/claim/cut.py") 670]), List.toArray []⟩) ::
    (nat_lit 172, ⟨.type "function", .none, .func ⟨.ofString "_law_stream", .ofString "_law_stream", a39, .stmts b39, s39, 3, [], .none, .none, .none, .str (.ofString "law_in0217_01") 659, .none, .ref 171, .none, 0⟩, List.toArray []⟩) ::
    (nat_lit 173, ⟨.type "tuple", .none, .seq (List.toArray []) 0, List.toArray []⟩) ::
    (nat_lit 175, ⟨.type "tuple", .none, .seq (List.toArray [.str (.ofString "bits") 675, .str (.ofString "row") 676, .str (.ofString "k") 677, .str (.ofString "figure") 678, .str (.ofString "above") 679]) 0, List.toArray []⟩) ::
    (nat_lit 176, ⟨.type "tuple", .none, .seq (List.toArray []) 0, List.toArray []⟩) ::
    (nat_lit 178, ⟨.type "code", .none, .fields (List.toArray [.str (.ofString "_law_row") 672, .str (.ofString "_law_row") 673, .str (.ofString "/claim/cut.py") 674, .int 155 0, .int 1 0, .int 0 0, .int 0 0, .int 3 0, .ref 173, .bool .true, .int 276 0, .ref 174, .none, .ref 175, .ref 176, .ref 177, .int 680 0, .int 155 0, .str (.ofString "/claim/cut.py") 681]), List.toArray []⟩) ::
    (nat_lit 179, ⟨.type "function", .none, .func ⟨.ofString "_law_row", .ofString "_law_row", a40, .stmts b40, s40, 3, [], .none, .none, .none, .str (.ofString "law_in0217_01") 659, .none, .ref 178, .none, 0⟩, List.toArray []⟩) ::
    (nat_lit 180, ⟨.type "tuple", .none, .seq (List.toArray []) 0, List.toArray []⟩) ::
    (nat_lit 182, ⟨.type "tuple", .none, .seq (List.toArray [.str (.ofString "part") 686, .str (.ofString "sign") 687]) 0, List.toArray []⟩) ::
    (nat_lit 183, ⟨.type "tuple", .none, .seq (List.toArray []) 0, List.toArray []⟩) ::
    (nat_lit 185, ⟨.type "code", .none, .fields (List.toArray [.str (.ofString "_law_fits") 683, .str (.ofString "_law_fits") 684, .str (.ofString "/claim/cut.py") 685, .int 162 0, .int 2 0, .int 0 0, .int 0 0, .int 3 0, .ref 180, .bool .true, .int 276 0, .ref 181, .none, .ref 182, .ref 183, .ref 184, .int 688 0, .int 162 0, .str (.ofString "/claim/cut.py") 689]), List.toArray []⟩) ::
    (nat_lit 186, ⟨.type "function", .none, .func ⟨.ofString "_law_fits", .ofString "_law_fits", a41, .stmts b41, s41, 3, [], .none, .none, .none, .str (.ofString "law_in0217_01") 659, .none, .ref 185, .none, 0⟩, List.toArray []⟩) ::
    (nat_lit 187, ⟨.type "tuple", .none, .seq (List.toArray []) 0, List.toArray []⟩) ::
    (nat_lit 189, ⟨.type "tuple", .none, .seq (List.toArray [.str (.ofString "head") 694, .str (.ofString "tail") 695, .str (.ofString "line") 696, .str (.ofString "k") 697]) 0, List.toArray []⟩) ::
    (nat_lit 190, ⟨.type "tuple", .none, .seq (List.toArray []) 0, List.toArray []⟩) ::
    (nat_lit 192, ⟨.type "code", .none, .fields (List.toArray [.str (.ofString "_law_takes") 691, .str (.ofString "_law_takes") 692, .str (.ofString "/claim/cut.py") 693, .int 170 0, .int 3 0, .int 0 0, .int 0 0, .int 3 0, .ref 187, .bool .true, .int 276 0, .ref 188, .none, .ref 189, .ref 190, .ref 191, .int 698 0, .int 170 0, .str (.ofString "/claim/cut.py") 699]), List.toArray []⟩) ::
    (nat_lit 193, ⟨.type "function", .none, .func ⟨.ofString "_law_takes", .ofString "_law_takes", a42, .stmts b42, s42, 3, [], .none, .none, .none, .str (.ofString "law_in0217_01") 659, .none, .ref 192, .none, 0⟩, List.toArray []⟩) ::
    (nat_lit 194, ⟨.type "tuple", .none, .seq (List.toArray []) 0, List.toArray []⟩) ::
    (nat_lit 196, ⟨.type "tuple", .none, .seq (List.toArray [.str (.ofString "stream") 704, .str (.ofString "bits") 705]) 0, List.toArray []⟩) ::
    (nat_lit 197, ⟨.type "tuple", .none, .seq (List.toArray []) 0, List.toArray []⟩) ::
    (nat_lit 199, ⟨.type "code", .none, .fields (List.toArray [.str (.ofString "_law_thing") 701, .str (.ofString "_law_thing") 702, .str (.ofString "/claim/cut.py") 703, .int 180 0, .int 2 0, .int 0 0, .int 0 0, .int 3 0, .ref 194, .bool .true, .int 276 0, .ref 195, .none, .ref 196, .ref 197, .ref 198, .int 706 0, .int 180 0, .str (.ofString "/claim/cut.py") 707]), List.toArray []⟩) ::
    (nat_lit 200, ⟨.type "function", .none, .func ⟨.ofString "_law_thing", .ofString "_law_thing", a43, .stmts b43, s43, 3, [], .none, .none, .none, .str (.ofString "law_in0217_01") 659, .none, .ref 199, .none, 0⟩, List.toArray []⟩) ::
    (nat_lit 201, ⟨.type "tuple", .none, .seq (List.toArray []) 0, List.toArray []⟩) ::
    (nat_lit 203, ⟨.type "tuple", .none, .seq (List.toArray [.str (.ofString "stream") 712, .str (.ofString "number") 713, .str (.ofString "above") 714, .str (.ofString "hidden") 715, .str (.ofString "rule") 716, .str (.ofString "seen") 717, .str (.ofString "k") 718, .str (.ofString "path") 719, .str (.ofString "bits") 720, .str (.ofString "thing") 721, .str (.ofString "line") 722, .str (.ofString "hides") 723]) 0, List.toArray []⟩) ::
    (nat_lit 204, ⟨.type "tuple", .none, .seq (List.toArray []) 0, List.toArray []⟩) ::
    (nat_lit 206, ⟨.type "code", .none, .fields (List.toArray [.str (.ofString "_law_walk") 709, .str (.ofString "_law_walk") 710, .str (.ofString "/claim/cut.py") 711, .int 188 0, .int 6 0, .int 0 0, .int 0 0, .int 3 0, .ref 201, .bool .true, .int 276 0, .ref 202, .none, .ref 203, .ref 204, .ref 205, .int 724 0, .int 188 0, .str (.ofString "/claim/cut.py") 725]), List.toArray []⟩) ::
    (nat_lit 207, ⟨.type "function", .none, .func ⟨.ofString "_law_walk", .ofString "_law_walk", a44, .stmts b44, s44, 3, [], .none, .none, .none, .str (.ofString "law_in0217_01") 659, .none, .ref 206, .none, 0⟩, List.toArray []⟩) ::
    (nat_lit 208, ⟨.type "tuple", .none, .seq (List.toArray []) 0, List.toArray []⟩) ::
    (nat_lit 211, ⟨.type "code", .none, .fields (List.toArray [.str (.ofString "_law_list") 727, .str (.ofString "_law_list") 728, .str (.ofString "/claim/cut.py") 729, .int 199 0, .int 1 0, .int 0 0, .int 0 0, .int 3 0, .ref 208, .bool .true, .int 276 0, .ref 209, .none, .none, .none, .ref 210, .int 730 0, .int 199 0, .str (.ofString "/claim/cut.py") 731]), List.toArray []⟩) ::
    (nat_lit 212, ⟨.type "function", .none, .func ⟨.ofString "_law_list", .ofString "_law_list", a45, .stmts b45, s45, 3, [], .none, .none, .none, .str (.ofString "law_in0217_01") 659, .none, .ref 211, .none, 0⟩, List.toArray []⟩) ::
    (nat_lit 213, ⟨.type "tuple", .none, .seq (List.toArray []) 0, List.toArray []⟩) ::
    (nat_lit 216, ⟨.type "code", .none, .fields (List.toArray [.str (.ofString "law") 733, .str (.ofString "law") 734, .str (.ofString "/claim/cut.py") 735, .int 210 0, .int 1 0, .int 0 0, .int 0 0, .int 3 0, .ref 213, .bool .true, .int 276 0, .ref 214, .none, .none, .none, .ref 215, .int 736 0, .int 210 0, .str (.ofString "/claim/cut.py") 737]), List.toArray []⟩) ::
    (nat_lit 217, ⟨.type "function", .none, .func ⟨.ofString "law", .ofString "law", a46, .stmts b46, ⟨.function, [(.ofString "script", .local), (.ofString "drawn", .local), (.ofString "numbers", .local), (.ofString "total", .local), (.ofString "ups", .local), (.ofString "opened", .local), (.ofString "k", .local), (.ofString "pattern", .local), (.ofString "octets", .local), (.ofString "paths", .local), (.ofString "hide", .cell), (.ofString "due", .cell), (.ofString "ends", .cell), (.ofString "y", .local), (.ofString "up", .local), (.ofString "size", .local), (.ofString "bits", .local), (.ofString "letter", .local), (.ofString "thing", .local), (.ofString "body", .local), (.ofString "kind", .local), (.ofString "name", .local), (.ofString "cut", .cell), (.ofString "listed", .local), (.ofString "short", .local), (.ofString "sum", .globalImplicit), (.ofString "range", .globalImplicit), (.ofString "len", .globalImplicit), (.ofString "max", .globalImplicit), (.ofString "bytes", .globalImplicit), (.ofString "ord", .globalImplicit), (.ofString "_law_row", .globalImplicit), (.ofString "_law_list", .globalImplicit)], .false, .false, [(.ofString "fast", .str (.ofString "script")), (.ofString "fast", .str (.ofString "x")), (.ofString "fast", .str (.ofString "drawn")), (.ofString "fast", .str (.ofString "numbers")), (.ofString "fast", .str (.ofString "total")), (.ofString "fast", .str (.ofString "ups")), (.ofString "fast", .str (.ofString "opened")), (.ofString "fast", .str (.ofString "k")), (.ofString "fast", .str (.ofString "pattern")), (.ofString "fast", .str (.ofString "sign")), (.ofString "fast", .str (.ofString "octets")), (.ofString "fast", .str (.ofString "paths")), (.ofString "fast", .str (.ofString "hide")), (.ofString "fast", .str (.ofString "due")), (.ofString "fast", .str (.ofString "ends")), (.ofString "fast", .str (.ofString "y")), (.ofString "fast", .str (.ofString "up")), (.ofString "fast", .str (.ofString "size")), (.ofString "fast", .str (.ofString "bits")), (.ofString "fast", .str (.ofString "letter")), (.ofString "fast", .str (.ofString "thing")), (.ofString "fast", .str (.ofString "body")), (.ofString "fast", .str (.ofString "kind")), (.ofString "fast", .str (.ofString "name")), (.ofString "fast", .str (.ofString "cut")), (.ofString "fast", .str (.ofString "j")), (.ofString "fast", .str (.ofString "listed")), (.ofString "fast", .str (.ofString "short"))]⟩, 3, [], .none, .none, .none, .str (.ofString "law_in0217_01") 659, .none, .ref 216, .none, 0⟩, List.toArray []⟩) :: [] : Frag)) ?a2 ?b2 ?s2 ?x2_0 ?x2_3 ?x2_4 ?x2_5 ?x2_7 ?x2_8 ?x2_9 ?a3 ?b3 ?s3 ?x3_0 ?x3_3 ?x3_4 ?x3_5 ?x3_7 ?x3_8 ?x3_9 ?a4 ?b4 ?s4 ?x4_0 ?x4_3 ?x4_4 ?x4_5 ?x4_7 ?x4_8 ?x4_9 ?a5_0 ?b5_0 ?s5_0 ?x5_0_0 ?x5_0_3 ?x5_0_4 ?x5_0_5 ?x5_0_7 ?x5_0_8 ?x5_0_9 ?a9 ?b9 ?s9 ?x9_0 ?x9_3 ?x9_4 ?x9_5 ?x9_7 ?x9_8 ?x9_9 ?a11 ?b11 ?s11 ?x11_0 ?x11_3 ?x11_4 ?x11_5 ?x11_7 ?x11_8 ?x11_9 ?a13 ?b13 ?s13 ?x13_0 ?x13_3 ?x13_4 ?x13_5 ?x13_7 ?x13_8 ?x13_9 ?a21 ?b21 ?s21 ?x21_0 ?x21_3 ?x21_4 ?x21_5 ?x21_7 ?x21_8 ?x21_9 ?a22 ?b22 ?s22 ?x22_0 ?x22_3 ?x22_4 ?x22_5 ?x22_7 ?x22_8 ?x22_9 ?a23 ?b23 ?s23 ?x23_0 ?x23_3 ?x23_4 ?x23_5 ?x23_7 ?x23_8 ?x23_9 ?a37 ?b37 ?s37 ?x37_0 ?x37_3 ?x37_4 ?x37_5 ?x37_7 ?x37_8 ?x37_9 ?a39 ?b39 ?s39 ?x39_0 ?x39_3 ?x39_4 ?x39_5 ?x39_7 ?x39_8 ?x39_9 ?a40 ?b40 ?s40 ?x40_0 ?x40_3 ?x40_4 ?x40_5 ?x40_7 ?x40_8 ?x40_9 ?a41 ?b41 ?s41 ?x41_0 ?x41_3 ?x41_4 ?x41_5 ?x41_7 ?x41_8 ?x41_9 ?a42 ?b42 ?s42 ?x42_0 ?x42_3 ?x42_4 ?x42_5 ?x42_7 ?x42_8 ?x42_9 ?a43 ?b43 ?s43 ?x43_0 ?x43_3 ?x43_4 ?x43_5 ?x43_7 ?x43_8 ?x43_9 ?a44 ?b44 ?s44 ?x44_0 ?x44_3 ?x44_4 ?x44_5 ?x44_7 ?x44_8 ?x44_9 ?a45 ?b45 ?s45 ?x45_0 ?x45_3 ?x45_4 ?x45_5 ?x45_7 ?x45_8 ?x45_9 ?a46 ?b46 ?x46_0 ?x46_3 ?x46_4 ?x46_5 ?x46_6 ?x46_7 ?x46_8 ?x46_9 ?h2 ?h3 ?h4 ?h5_0 ?h9 ?h11 ?h13 ?h21 ?h22 ?h23 ?h37 ?h39 ?h40 ?h41 ?h42 ?h43 ?h44 ?h45 ?h46
  case h2 => exact rfl
  case h3 => exact rfl
  case h4 => exact rfl
  case h5_0 => exact rfl
  case h9 => exact rfl
  case h11 => exact rfl
  case h13 => exact rfl
  case h21 => exact rfl
  case h22 => exact rfl
  case h23 => exact rfl
  case h37 => exact rfl
  case h39 => exact rfl
  case h40 => exact rfl
  case h41 => exact rfl
  case h42 => exact rfl
  case h43 => exact rfl
  case h44 => exact rfl
  case h45 => exact rfl
  case h46 => exact rfl
noncomputable def kOf (P : Params) (a : Nat) : Obj := ((heap_39 P).lookup a).getD default
noncomputable def view_39 : Program := view pw [0, 2, 3, 4, 5, 6, 8, 9, 11, 13, 14, 15, 16, 17, 18, 19, 20, 21, 22, 23, 24, 25, 26, 27, 28, 29, 30, 31, 32, 33, 34, 35, 36, 37, 39, 40, 41, 42, 43, 44, 45, 46]
noncomputable abbrev loose9 : List PySem.Str := [.ofString "_twin_re_1", .ofString "_special_chars_map", .ofString "_filemode_table"]
noncomputable abbrev lv9 : List (PySem.Str × WData) := [(.ofString "_filemode_table", .tuple [.tuple [.tuple [.int 40960, .str ⟨List.toArray [108]⟩], .tuple [.int 49152, .str ⟨List.toArray [115]⟩], .tuple [.int 32768, .str ⟨List.toArray [45]⟩], .tuple [.int 24576, .str ⟨List.toArray [98]⟩], .tuple [.int 16384, .str ⟨List.toArray [100]⟩], .tuple [.int 8192, .str ⟨List.toArray [99]⟩], .tuple [.int 4096, .str ⟨List.toArray [112]⟩]], .tuple [.tuple [.int 256, .str ⟨List.toArray [114]⟩]], .tuple [.tuple [.int 128, .str ⟨List.toArray [119]⟩]], .tuple [.tuple [.int 2112, .str ⟨List.toArray [115]⟩], .tuple [.int 2048, .str ⟨List.toArray [83]⟩], .tuple [.int 64, .str ⟨List.toArray [120]⟩]], .tuple [.tuple [.int 32, .str ⟨List.toArray [114]⟩]], .tuple [.tuple [.int 16, .str ⟨List.toArray [119]⟩]], .tuple [.tuple [.int 1032, .str ⟨List.toArray [115]⟩], .tuple [.int 1024, .str ⟨List.toArray [83]⟩], .tuple [.int 8, .str ⟨List.toArray [120]⟩]], .tuple [.tuple [.int 4, .str ⟨List.toArray [114]⟩]], .tuple [.tuple [.int 2, .str ⟨List.toArray [119]⟩]], .tuple [.tuple [.int 513, .str ⟨List.toArray [116]⟩], .tuple [.int 512, .str ⟨List.toArray [84]⟩], .tuple [.int 1, .str ⟨List.toArray [120]⟩]]])]
noncomputable abbrev as9 : List Nat := [2, 3, 32, 34, 35, 37, 38, 39, 41, 42, 44, 45, 46, 48, 49, 51, 52, 60, 62, 63, 65, 66, 67, 68, 69, 70, 71, 77, 78, 80, 84, 86, 87, 89, 90, 91, 93, 94, 96, 97, 98, 100, 101, 103, 104, 105, 107, 108, 110, 111, 112, 114, 115, 117, 118, 119, 121, 122, 124, 125, 126, 127, 128, 129, 130, 131, 132, 133, 134, 135, 136, 137, 138, 139, 140, 141, 142, 143, 144, 145, 146, 147, 148, 149, 150, 151, 152, 153, 154, 155, 156, 157, 158, 159, 161, 162, 164, 165, 166, 168, 169, 171, 172, 173, 175, 176, 178, 179, 180, 182, 183, 185, 186, 187, 189, 190, 192, 193, 194, 196, 197, 199, 200, 201, 203, 204, 206, 207, 208, 211, 212, 213, 216, 217]
noncomputable def fdOf (P : Params) (a : Nat) : FuncData := match (kOf P a).data with | .func f => f | _ => default
noncomputable def o_0 (P : Params) : Obj := ⟨.type "dict", .none, .dict (List.toArray [⟨PyData.keyHash P (.ofString "__name__"), .str (.ofString "__name__") 1, .str (.ofString "builtins") 160⟩, ⟨PyData.keyHash P (.ofString "__doc__"), .str (.ofString "__doc__") 2, .builtin "builtins.__doc__:str#opaque"⟩, ⟨PyData.keyHash P (.ofString "__package__"), .str (.ofString "__package__") 3, .builtin "builtins.__package__:str#opaque"⟩, ⟨PyData.keyHash P (.ofString "__loader__"), .str (.ofString "__loader__") 4, .builtin "builtins.__loader__:shared#opaque"⟩, ⟨PyData.keyHash P (.ofString "__spec__"), .str (.ofString "__spec__") 5, .builtin "builtins.__spec__#opaque"⟩, ⟨PyData.keyHash P (.ofString "__build_class__"), .str (.ofString "__build_class__") 6, .builtin "__build_class__"⟩, ⟨PyData.keyHash P (.ofString "__import__"), .str (.ofString "__import__") 7, .builtin "__import__"⟩, ⟨PyData.keyHash P (.ofString "abs"), .str (.ofString "abs") 8, .builtin "abs"⟩, ⟨PyData.keyHash P (.ofString "all"), .str (.ofString "all") 9, .builtin "all"⟩, ⟨PyData.keyHash P (.ofString "any"), .str (.ofString "any") 10, .builtin "any"⟩, ⟨PyData.keyHash P (.ofString "ascii"), .str (.ofString "ascii") 11, .builtin "ascii"⟩, ⟨PyData.keyHash P (.ofString "bin"), .str (.ofString "bin") 12, .builtin "bin"⟩, ⟨PyData.keyHash P (.ofString "breakpoint"), .str (.ofString "breakpoint") 13, .builtin "breakpoint"⟩, ⟨PyData.keyHash P (.ofString "callable"), .str (.ofString "callable") 14, .builtin "callable"⟩, ⟨PyData.keyHash P (.ofString "chr"), .str (.ofString "chr") 15, .builtin "chr"⟩, ⟨PyData.keyHash P (.ofString "compile"), .str (.ofString "compile") 16, .builtin "compile"⟩, ⟨PyData.keyHash P (.ofString "delattr"), .str (.ofString "delattr") 17, .builtin "delattr"⟩, ⟨PyData.keyHash P (.ofString "dir"), .str (.ofString "dir") 18, .builtin "dir"⟩, ⟨PyData.keyHash P (.ofString "divmod"), .str (.ofString "divmod") 19, .builtin "divmod"⟩, ⟨PyData.keyHash P (.ofString "eval"), .str (.ofString "eval") 20, .builtin "eval"⟩, ⟨PyData.keyHash P (.ofString "exec"), .str (.ofString "exec") 21, .builtin "exec"⟩, ⟨PyData.keyHash P (.ofString "format"), .str (.ofString "format") 22, .builtin "format"⟩, ⟨PyData.keyHash P (.ofString "getattr"), .str (.ofString "getattr") 23, .builtin "getattr"⟩, ⟨PyData.keyHash P (.ofString "globals"), .str (.ofString "globals") 24, .builtin "globals"⟩, ⟨PyData.keyHash P (.ofString "hasattr"), .str (.ofString "hasattr") 25, .builtin "hasattr"⟩, ⟨PyData.keyHash P (.ofString "hash"), .str (.ofString "hash") 26, .builtin "hash"⟩, ⟨PyData.keyHash P (.ofString "hex"), .str (.ofString "hex") 27, .builtin "hex"⟩, ⟨PyData.keyHash P (.ofString "id"), .str (.ofString "id") 28, .builtin "id"⟩, ⟨PyData.keyHash P (.ofString "input"), .str (.ofString "input") 29, .builtin "input"⟩, ⟨PyData.keyHash P (.ofString "isinstance"), .str (.ofString "isinstance") 30, .builtin "isinstance"⟩, ⟨PyData.keyHash P (.ofString "issubclass"), .str (.ofString "issubclass") 31, .builtin "issubclass"⟩, ⟨PyData.keyHash P (.ofString "iter"), .str (.ofString "iter") 32, .builtin "iter"⟩, ⟨PyData.keyHash P (.ofString "aiter"), .str (.ofString "aiter") 33, .builtin "aiter"⟩, ⟨PyData.keyHash P (.ofString "len"), .str (.ofString "len") 34, .builtin "len"⟩, ⟨PyData.keyHash P (.ofString "locals"), .str (.ofString "locals") 35, .builtin "locals"⟩, ⟨PyData.keyHash P (.ofString "max"), .str (.ofString "max") 36, .builtin "max"⟩, ⟨PyData.keyHash P (.ofString "min"), .str (.ofString "min") 37, .builtin "min"⟩, ⟨PyData.keyHash P (.ofString "next"), .str (.ofString "next") 38, .builtin "next"⟩, ⟨PyData.keyHash P (.ofString "anext"), .str (.ofString "anext") 39, .builtin "anext"⟩, ⟨PyData.keyHash P (.ofString "oct"), .str (.ofString "oct") 40, .builtin "oct"⟩, ⟨PyData.keyHash P (.ofString "ord"), .str (.ofString "ord") 41, .builtin "ord"⟩, ⟨PyData.keyHash P (.ofString "pow"), .str (.ofString "pow") 42, .builtin "pow"⟩, ⟨PyData.keyHash P (.ofString "print"), .str (.ofString "print") 43, .builtin "print"⟩, ⟨PyData.keyHash P (.ofString "repr"), .str (.ofString "repr") 44, .builtin "repr"⟩, ⟨PyData.keyHash P (.ofString "round"), .str (.ofString "round") 45, .builtin "round"⟩, ⟨PyData.keyHash P (.ofString "setattr"), .str (.ofString "setattr") 46, .builtin "setattr"⟩, ⟨PyData.keyHash P (.ofString "sorted"), .str (.ofString "sorted") 47, .builtin "sorted"⟩, ⟨PyData.keyHash P (.ofString "sum"), .str (.ofString "sum") 48, .builtin "sum"⟩, ⟨PyData.keyHash P (.ofString "vars"), .str (.ofString "vars") 49, .builtin "vars"⟩, ⟨PyData.keyHash P (.ofString "None"), .str (.ofString "None") 50, .none⟩, ⟨PyData.keyHash P (.ofString "Ellipsis"), .str (.ofString "Ellipsis") 51, .ellipsis⟩, ⟨PyData.keyHash P (.ofString "NotImplemented"), .str (.ofString "NotImplemented") 52, .notImplemented⟩, ⟨PyData.keyHash P (.ofString "False"), .str (.ofString "False") 53, .bool .false⟩, ⟨PyData.keyHash P (.ofString "True"), .str (.ofString "True") 54, .bool .true⟩, ⟨PyData.keyHash P (.ofString "bool"), .str (.ofString "bool") 55, .type "bool"⟩, ⟨PyData.keyHash P (.ofString "memoryview"), .str (.ofString "memoryview") 56, .type "memoryview"⟩, ⟨PyData.keyHash P (.ofString "bytearray"), .str (.ofString "bytearray") 57, .type "bytearray"⟩, ⟨PyData.keyHash P (.ofString "bytes"), .str (.ofString "bytes") 58, .type "bytes"⟩, ⟨PyData.keyHash P (.ofString "classmethod"), .str (.ofString "classmethod") 59, .type "classmethod"⟩, ⟨PyData.keyHash P (.ofString "complex"), .str (.ofString "complex") 60, .type "complex"⟩, ⟨PyData.keyHash P (.ofString "dict"), .str (.ofString "dict") 61, .type "dict"⟩, ⟨PyData.keyHash P (.ofString "enumerate"), .str (.ofString "enumerate") 62, .type "enumerate"⟩, ⟨PyData.keyHash P (.ofString "filter"), .str (.ofString "filter") 63, .type "filter"⟩, ⟨PyData.keyHash P (.ofString "float"), .str (.ofString "float") 64, .type "float"⟩, ⟨PyData.keyHash P (.ofString "frozenset"), .str (.ofString "frozenset") 65, .type "frozenset"⟩, ⟨PyData.keyHash P (.ofString "property"), .str (.ofString "property") 66, .type "property"⟩, ⟨PyData.keyHash P (.ofString "int"), .str (.ofString "int") 67, .type "int"⟩, ⟨PyData.keyHash P (.ofString "list"), .str (.ofString "list") 68, .type "list"⟩, ⟨PyData.keyHash P (.ofString "map"), .str (.ofString "map") 69, .type "map"⟩, ⟨PyData.keyHash P (.ofString "object"), .str (.ofString "object") 70, .type "object"⟩, ⟨PyData.keyHash P (.ofString "range"), .str (.ofString "range") 71, .type "range"⟩, ⟨PyData.keyHash P (.ofString "reversed"), .str (.ofString "reversed") 72, .type "reversed"⟩, ⟨PyData.keyHash P (.ofString "set"), .str (.ofString "set") 73, .type "set"⟩, ⟨PyData.keyHash P (.ofString "slice"), .str (.ofString "slice") 74, .type "slice"⟩, ⟨PyData.keyHash P (.ofString "staticmethod"), .str (.ofString "staticmethod") 75, .type "staticmethod"⟩, ⟨PyData.keyHash P (.ofString "str"), .str (.ofString "str") 76, .type "str"⟩, ⟨PyData.keyHash P (.ofString "super"), .str (.ofString "super") 77, .type "super"⟩, ⟨PyData.keyHash P (.ofString "tuple"), .str (.ofString "tuple") 78, .type "tuple"⟩, ⟨PyData.keyHash P (.ofString "type"), .str (.ofString "type") 79, .type "type"⟩, ⟨PyData.keyHash P (.ofString "zip"), .str (.ofString "zip") 80, .type "zip"⟩, ⟨PyData.keyHash P (.ofString "__debug__"), .str (.ofString "__debug__") 81, .bool .true⟩, ⟨PyData.keyHash P (.ofString "BaseException"), .str (.ofString "BaseException") 82, .type "BaseException"⟩, ⟨PyData.keyHash P (.ofString "BaseExceptionGroup"), .str (.ofString "BaseExceptionGroup") 83, .type "BaseExceptionGroup"⟩, ⟨PyData.keyHash P (.ofString "Exception"), .str (.ofString "Exception") 84, .type "Exception"⟩, ⟨PyData.keyHash P (.ofString "GeneratorExit"), .str (.ofString "GeneratorExit") 85, .type "GeneratorExit"⟩, ⟨PyData.keyHash P (.ofString "KeyboardInterrupt"), .str (.ofString "KeyboardInterrupt") 86, .type "KeyboardInterrupt"⟩, ⟨PyData.keyHash P (.ofString "SystemExit"), .str (.ofString "SystemExit") 87, .type "SystemExit"⟩, ⟨PyData.keyHash P (.ofString "ArithmeticError"), .str (.ofString "ArithmeticError") 88, .type "ArithmeticError"⟩, ⟨PyData.keyHash P (.ofString "AssertionError"), .str (.ofString "AssertionError") 89, .type "AssertionError"⟩, ⟨PyData.keyHash P (.ofString "AttributeError"), .str (.ofString "AttributeError") 90, .type "AttributeError"⟩, ⟨PyData.keyHash P (.ofString "BufferError"), .str (.ofString "BufferError") 91, .type "BufferError"⟩, ⟨PyData.keyHash P (.ofString "EOFError"), .str (.ofString "EOFError") 92, .type "EOFError"⟩, ⟨PyData.keyHash P (.ofString "ImportError"), .str (.ofString "ImportError") 93, .type "ImportError"⟩, ⟨PyData.keyHash P (.ofString "LookupError"), .str (.ofString "LookupError") 94, .type "LookupError"⟩, ⟨PyData.keyHash P (.ofString "MemoryError"), .str (.ofString "MemoryError") 95, .type "MemoryError"⟩, ⟨PyData.keyHash P (.ofString "NameError"), .str (.ofString "NameError") 96, .type "NameError"⟩, ⟨PyData.keyHash P (.ofString "OSError"), .str (.ofString "OSError") 97, .type "OSError"⟩, ⟨PyData.keyHash P (.ofString "ReferenceError"), .str (.ofString "ReferenceError") 98, .type "ReferenceError"⟩, ⟨PyData.keyHash P (.ofString "RuntimeError"), .str (.ofString "RuntimeError") 99, .type "RuntimeError"⟩, ⟨PyData.keyHash P (.ofString "StopAsyncIteration"), .str (.ofString "StopAsyncIteration") 100, .type "StopAsyncIteration"⟩, ⟨PyData.keyHash P (.ofString "StopIteration"), .str (.ofString "StopIteration") 101, .type "StopIteration"⟩, ⟨PyData.keyHash P (.ofString "SyntaxError"), .str (.ofString "SyntaxError") 102, .type "SyntaxError"⟩, ⟨PyData.keyHash P (.ofString "SystemError"), .str (.ofString "SystemError") 103, .type "SystemError"⟩, ⟨PyData.keyHash P (.ofString "TypeError"), .str (.ofString "TypeError") 104, .type "TypeError"⟩, ⟨PyData.keyHash P (.ofString "ValueError"), .str (.ofString "ValueError") 105, .type "ValueError"⟩, ⟨PyData.keyHash P (.ofString "Warning"), .str (.ofString "Warning") 106, .type "Warning"⟩, ⟨PyData.keyHash P (.ofString "FloatingPointError"), .str (.ofString "FloatingPointError") 107, .type "FloatingPointError"⟩, ⟨PyData.keyHash P (.ofString "OverflowError"), .str (.ofString "OverflowError") 108, .type "OverflowError"⟩, ⟨PyData.keyHash P (.ofString "ZeroDivisionError"), .str (.ofString "ZeroDivisionError") 109, .type "ZeroDivisionError"⟩, ⟨PyData.keyHash P (.ofString "BytesWarning"), .str (.ofString "BytesWarning") 110, .type "BytesWarning"⟩, ⟨PyData.keyHash P (.ofString "DeprecationWarning"), .str (.ofString "DeprecationWarning") 111, .type "DeprecationWarning"⟩, ⟨PyData.keyHash P (.ofString "EncodingWarning"), .str (.ofString "EncodingWarning") 112, .type "EncodingWarning"⟩, ⟨PyData.keyHash P (.ofString "FutureWarning"), .str (.ofString "FutureWarning") 113, .type "FutureWarning"⟩, ⟨PyData.keyHash P (.ofString "ImportWarning"), .str (.ofString "ImportWarning") 114, .type "ImportWarning"⟩, ⟨PyData.keyHash P (.ofString "PendingDeprecationWarning"), .str (.ofString "PendingDeprecationWarning") 115, .type "PendingDeprecationWarning"⟩, ⟨PyData.keyHash P (.ofString "ResourceWarning"), .str (.ofString "ResourceWarning") 116, .type "ResourceWarning"⟩, ⟨PyData.keyHash P (.ofString "RuntimeWarning"), .str (.ofString "RuntimeWarning") 117, .type "RuntimeWarning"⟩, ⟨PyData.keyHash P (.ofString "SyntaxWarning"), .str (.ofString "SyntaxWarning") 118, .type "SyntaxWarning"⟩, ⟨PyData.keyHash P (.ofString "UnicodeWarning"), .str (.ofString "UnicodeWarning") 119, .type "UnicodeWarning"⟩, ⟨PyData.keyHash P (.ofString "UserWarning"), .str (.ofString "UserWarning") 120, .type "UserWarning"⟩, ⟨PyData.keyHash P (.ofString "BlockingIOError"), .str (.ofString "BlockingIOError") 121, .type "BlockingIOError"⟩, ⟨PyData.keyHash P (.ofString "ChildProcessError"), .str (.ofString "ChildProcessError") 122, .type "ChildProcessError"⟩, ⟨PyData.keyHash P (.ofString "ConnectionError"), .str (.ofString "ConnectionError") 123, .type "ConnectionError"⟩, ⟨PyData.keyHash P (.ofString "FileExistsError"), .str (.ofString "FileExistsError") 124, .type "FileExistsError"⟩, ⟨PyData.keyHash P (.ofString "FileNotFoundError"), .str (.ofString "FileNotFoundError") 125, .type "FileNotFoundError"⟩, ⟨PyData.keyHash P (.ofString "InterruptedError"), .str (.ofString "InterruptedError") 126, .type "InterruptedError"⟩, ⟨PyData.keyHash P (.ofString "IsADirectoryError"), .str (.ofString "IsADirectoryError") 127, .type "IsADirectoryError"⟩, ⟨PyData.keyHash P (.ofString "NotADirectoryError"), .str (.ofString "NotADirectoryError") 128, .type "NotADirectoryError"⟩, ⟨PyData.keyHash P (.ofString "PermissionError"), .str (.ofString "PermissionError") 129, .type "PermissionError"⟩, ⟨PyData.keyHash P (.ofString "ProcessLookupError"), .str (.ofString "ProcessLookupError") 130, .type "ProcessLookupError"⟩, ⟨PyData.keyHash P (.ofString "TimeoutError"), .str (.ofString "TimeoutError") 131, .type "TimeoutError"⟩, ⟨PyData.keyHash P (.ofString "IndentationError"), .str (.ofString "IndentationError") 132, .type "IndentationError"⟩, ⟨PyData.keyHash P (.ofString "_IncompleteInputError"), .str (.ofString "_IncompleteInputError") 133, .type "_IncompleteInputError"⟩, ⟨PyData.keyHash P (.ofString "IndexError"), .str (.ofString "IndexError") 134, .type "IndexError"⟩, ⟨PyData.keyHash P (.ofString "KeyError"), .str (.ofString "KeyError") 135, .type "KeyError"⟩, ⟨PyData.keyHash P (.ofString "ModuleNotFoundError"), .str (.ofString "ModuleNotFoundError") 136, .type "ModuleNotFoundError"⟩, ⟨PyData.keyHash P (.ofString "NotImplementedError"), .str (.ofString "NotImplementedError") 137, .type "NotImplementedError"⟩, ⟨PyData.keyHash P (.ofString "PythonFinalizationError"), .str (.ofString "PythonFinalizationError") 138, .type "PythonFinalizationError"⟩, ⟨PyData.keyHash P (.ofString "RecursionError"), .str (.ofString "RecursionError") 139, .type "RecursionError"⟩, ⟨PyData.keyHash P (.ofString "UnboundLocalError"), .str (.ofString "UnboundLocalError") 140, .type "UnboundLocalError"⟩, ⟨PyData.keyHash P (.ofString "UnicodeError"), .str (.ofString "UnicodeError") 141, .type "UnicodeError"⟩, ⟨PyData.keyHash P (.ofString "BrokenPipeError"), .str (.ofString "BrokenPipeError") 142, .type "BrokenPipeError"⟩, ⟨PyData.keyHash P (.ofString "ConnectionAbortedError"), .str (.ofString "ConnectionAbortedError") 143, .type "ConnectionAbortedError"⟩, ⟨PyData.keyHash P (.ofString "ConnectionRefusedError"), .str (.ofString "ConnectionRefusedError") 144, .type "ConnectionRefusedError"⟩, ⟨PyData.keyHash P (.ofString "ConnectionResetError"), .str (.ofString "ConnectionResetError") 145, .type "ConnectionResetError"⟩, ⟨PyData.keyHash P (.ofString "TabError"), .str (.ofString "TabError") 146, .type "TabError"⟩, ⟨PyData.keyHash P (.ofString "UnicodeDecodeError"), .str (.ofString "UnicodeDecodeError") 147, .type "UnicodeDecodeError"⟩, ⟨PyData.keyHash P (.ofString "UnicodeEncodeError"), .str (.ofString "UnicodeEncodeError") 148, .type "UnicodeEncodeError"⟩, ⟨PyData.keyHash P (.ofString "UnicodeTranslateError"), .str (.ofString "UnicodeTranslateError") 149, .type "UnicodeTranslateError"⟩, ⟨PyData.keyHash P (.ofString "ExceptionGroup"), .str (.ofString "ExceptionGroup") 150, .type "ExceptionGroup"⟩, ⟨PyData.keyHash P (.ofString "EnvironmentError"), .str (.ofString "EnvironmentError") 151, .type "OSError"⟩, ⟨PyData.keyHash P (.ofString "IOError"), .str (.ofString "IOError") 152, .type "OSError"⟩, ⟨PyData.keyHash P (.ofString "open"), .str (.ofString "open") 153, .builtin "open"⟩, ⟨PyData.keyHash P (.ofString "quit"), .str (.ofString "quit") 154, .builtin "builtins.quit#opaque"⟩, ⟨PyData.keyHash P (.ofString "exit"), .str (.ofString "exit") 155, .builtin "builtins.exit#opaque"⟩, ⟨PyData.keyHash P (.ofString "copyright"), .str (.ofString "copyright") 156, .builtin "builtins.copyright#opaque"⟩, ⟨PyData.keyHash P (.ofString "credits"), .str (.ofString "credits") 157, .builtin "builtins.credits#opaque"⟩, ⟨PyData.keyHash P (.ofString "license"), .str (.ofString "license") 158, .builtin "builtins.license#opaque"⟩, ⟨PyData.keyHash P (.ofString "help"), .str (.ofString "help") 159, .builtin "builtins.help#opaque"⟩]) 159, List.toArray []⟩
noncomputable def o_1 (P : Params) : Obj := ⟨.type "dict", .none, .dict (List.toArray [⟨PyData.keyHash P (.ofString "builtins"), .str (.ofString "builtins") 162, .ref 4⟩, ⟨PyData.keyHash P (.ofString "__main__"), .str (.ofString "__main__") 163, .ref 5⟩, ⟨PyData.keyHash P (.ofString "_sre"), .str (.ofString "_sre") 244, .ref 12⟩]) 3, List.toArray []⟩
noncomputable def o_2 (P : Params) : Obj := kOf P 2
noncomputable def o_3 (P : Params) : Obj := ⟨.type "dict", .none, .dict (List.toArray [⟨PyData.keyHash P (.ofString "__name__"), .str (.ofString "__name__") 165, .str (.ofString "__main__") 164⟩, ⟨PyData.keyHash P (.ofString "__doc__"), .str (.ofString "__doc__") 166, .none⟩, ⟨PyData.keyHash P (.ofString "__package__"), .str (.ofString "__package__") 167, .none⟩, ⟨PyData.keyHash P (.ofString "__loader__"), .str (.ofString "__loader__") 168, .builtin "__main__.__loader__#opaque"⟩, ⟨PyData.keyHash P (.ofString "__spec__"), .str (.ofString "__spec__") 169, .none⟩, ⟨PyData.keyHash P (.ofString "__annotations__"), .str (.ofString "__annotations__") 170, .ref 6⟩, ⟨PyData.keyHash P (.ofString "__builtins__"), .str (.ofString "__builtins__") 171, .ref 4⟩, ⟨PyData.keyHash P (.ofString "__file__"), .str (.ofString "__file__") 173, .str (.ofString "/claim/cut.py") 172⟩, ⟨PyData.keyHash P (.ofString "__cached__"), .str (.ofString "__cached__") 174, .none⟩, ⟨PyData.keyHash P (.ofString "_sre"), .str (.ofString "_sre") 275, .ref 12⟩]) 10, List.toArray []⟩
noncomputable def o_4 (P : Params) : Obj := ⟨.type "module", .some 0, .plain, List.toArray []⟩
noncomputable def o_5 (P : Params) : Obj := ⟨.type "module", .some 3, .plain, List.toArray []⟩
noncomputable def o_6 (P : Params) : Obj := ⟨.type "dict", .none, .dict (List.toArray []) 0, List.toArray []⟩
noncomputable def o_7 (P : Params) : Obj := ⟨.type "tuple", .none, .seq (List.toArray []) 0, List.toArray []⟩
noncomputable def o_8 (P : Params) : Obj := ⟨.none, .none, .fields (List.toArray []), List.toArray []⟩
noncomputable def o_9 (P : Params) : Obj := ⟨.type "code", .none, .fields (List.toArray [.str (.ofString "<module>") 176, .str (.ofString "<module>") 177, .str (.ofString "/claim/cut.py") 178, .int 1 0, .int 0 0, .int 0 0, .int 0 0, .int 0 0, .ref 7, .bool .false, .int 175 0, .ref 8, .none, .none, .none, .none, .int 179 0, .int 1 0, .str (.ofString "/claim/cut.py") 180]), List.toArray []⟩
noncomputable def o_10 (P : Params) : Obj := ⟨.type "frame", .none, .plain, List.toArray [.some (.ref 9), .some (.ref 3), .some (.ref 3), .none, .some (.str (.ofString "__main__") 164), .none, .some (.ref 0)]⟩
noncomputable def o_11 (P : Params) : Obj := ⟨.type "dict", .none, .dict (List.toArray [⟨PyData.keyHash P (.ofString "__name__"), .str (.ofString "__name__") 247, .str (.ofString "_sre") 246⟩, ⟨PyData.keyHash P (.ofString "__doc__"), .str (.ofString "__doc__") 248, .none⟩, ⟨PyData.keyHash P (.ofString "__package__"), .str (.ofString "__package__") 250, .str (.ofString "") 249⟩, ⟨PyData.keyHash P (.ofString "__loader__"), .str (.ofString "__loader__") 251, .builtin "off-the-table:_sre.__loader__:shared#opaque"⟩, ⟨PyData.keyHash P (.ofString "__spec__"), .str (.ofString "__spec__") 252, .builtin "off-the-table:_sre.__spec__:shared#opaque"⟩, ⟨PyData.keyHash P (.ofString "compile"), .str (.ofString "compile") 253, .builtin "_sre.compile"⟩, ⟨PyData.keyHash P (.ofString "template"), .str (.ofString "template") 254, .builtin "off-the-table:_sre.template:shared#opaque"⟩, ⟨PyData.keyHash P (.ofString "getcodesize"), .str (.ofString "getcodesize") 255, .builtin "off-the-table:_sre.getcodesize:shared#opaque"⟩, ⟨PyData.keyHash P (.ofString "ascii_iscased"), .str (.ofString "ascii_iscased") 256, .builtin "off-the-table:_sre.ascii_iscased:shared#opaque"⟩, ⟨PyData.keyHash P (.ofString "unicode_iscased"), .str (.ofString "unicode_iscased") 257, .builtin "off-the-table:_sre.unicode_iscased:shared#opaque"⟩, ⟨PyData.keyHash P (.ofString "ascii_tolower"), .str (.ofString "ascii_tolower") 258, .builtin "off-the-table:_sre.ascii_tolower:shared#opaque"⟩, ⟨PyData.keyHash P (.ofString "unicode_tolower"), .str (.ofString "unicode_tolower") 259, .builtin "off-the-table:_sre.unicode_tolower:shared#opaque"⟩, ⟨PyData.keyHash P (.ofString "MAGIC"), .str (.ofString "MAGIC") 261, .int 20230612 260⟩, ⟨PyData.keyHash P (.ofString "CODESIZE"), .str (.ofString "CODESIZE") 263, .int 4 262⟩, ⟨PyData.keyHash P (.ofString "MAXREPEAT"), .str (.ofString "MAXREPEAT") 265, .int 4294967295 264⟩, ⟨PyData.keyHash P (.ofString "MAXGROUPS"), .str (.ofString "MAXGROUPS") 267, .int 1073741823 266⟩, ⟨PyData.keyHash P (.ofString "copyright"), .str (.ofString "copyright") 269, .str (.ofString " SRE 2.2.2 Copyright (c) 1997-2002 by Secret Labs AB ") 268⟩]) 17, List.toArray []⟩
noncomputable def o_12 (P : Params) : Obj := ⟨.type "module", .some 11, .plain, List.toArray []⟩
noncomputable def o_13 (P : Params) : Obj := ⟨.type "dict", .none, .dict (List.toArray [⟨PyData.keyHash P (.ofString "__module__"), .str (.ofString "__module__") 189, .str (.ofString "_frozen_importlib") 186⟩, ⟨PyData.keyHash P (.ofString "__firstlineno__"), .str (.ofString "__firstlineno__") 190, .int 971 187⟩, ⟨PyData.keyHash P (.ofString "__doc__"), .str (.ofString "__doc__") 191, .builtin "_frozen_importlib.BuiltinImporter.__doc__:str#opaque"⟩, ⟨PyData.keyHash P (.ofString "_ORIGIN"), .str (.ofString "_ORIGIN") 192, .str (.ofString "built-in") 188⟩, ⟨PyData.keyHash P (.ofString "find_spec"), .str (.ofString "find_spec") 193, .builtin "_frozen_importlib.BuiltinImporter.find_spec#opaque"⟩, ⟨PyData.keyHash P (.ofString "create_module"), .str (.ofString "create_module") 194, .builtin "_frozen_importlib.BuiltinImporter.create_module#opaque"⟩, ⟨PyData.keyHash P (.ofString "exec_module"), .str (.ofString "exec_module") 195, .builtin "_frozen_importlib.BuiltinImporter.exec_module#opaque"⟩, ⟨PyData.keyHash P (.ofString "get_code"), .str (.ofString "get_code") 196, .builtin "_frozen_importlib.BuiltinImporter.get_code#opaque"⟩, ⟨PyData.keyHash P (.ofString "get_source"), .str (.ofString "get_source") 197, .builtin "_frozen_importlib.BuiltinImporter.get_source#opaque"⟩, ⟨PyData.keyHash P (.ofString "is_package"), .str (.ofString "is_package") 198, .builtin "_frozen_importlib.BuiltinImporter.is_package#opaque"⟩, ⟨PyData.keyHash P (.ofString "load_module"), .str (.ofString "load_module") 199, .builtin "_frozen_importlib.BuiltinImporter.load_module#opaque"⟩, ⟨PyData.keyHash P (.ofString "__static_attributes__"), .str (.ofString "__static_attributes__") 200, .ref 15⟩, ⟨PyData.keyHash P (.ofString "__dict__"), .str (.ofString "__dict__") 202, .ref 16⟩, ⟨PyData.keyHash P (.ofString "__weakref__"), .str (.ofString "__weakref__") 204, .ref 17⟩]) 14, List.toArray []⟩
noncomputable def o_14 (P : Params) : Obj := ⟨.type "type", .none, .cls ⟨.ofString "BuiltinImporter", [.type "object"], [.ref 14, .type "object"], 13, .ofString "BuiltinImporter", .true, [], [], .false, .none, .false⟩, List.toArray []⟩
noncomputable def o_15 (P : Params) : Obj := ⟨.type "getset_descriptor", .none, .fields (List.toArray [.str (.ofString "__dict__") 201, .ref 14, .builtin "function.__dict__", .builtin "function.__dict__#set"]), List.toArray []⟩
noncomputable def o_16 (P : Params) : Obj := ⟨.type "getset_descriptor", .none, .fields (List.toArray [.str (.ofString "__weakref__") 203, .ref 14, .builtin "ExceptionGroup.__weakref__", .none]), List.toArray []⟩
noncomputable def o_17 (P : Params) : Obj := ⟨.none, .none, .seq (List.toArray [.int 13 0, .str (.ofString "\x06\u00bd\x0a__module__\x06\u00ba\x11_frozen_importlib\x06\u00be\x0f__firstlineno__\x04\u00bb\x00\u03cb\x06\u00bf\x07__doc__\x094_frozen_importlib.BuiltinImporter.__doc__:str#opaque\x06\u00c0\x07_ORIGIN\x06\u00bc\x08built-in\x06\u00c1\x09find_spec\x092_frozen_importlib.BuiltinImporter.find_spec#opaque\x06\u00c2\x0dcreate_module\x096_frozen_importlib.BuiltinImporter.create_module#opaque\x06\u00c3\x0bexec_module\x094_frozen_importlib.BuiltinImporter.exec_module#opaque\x06\u00c4\x08get_code\x091_frozen_importlib.BuiltinImporter.get_code#opaque\x06\u00c5\x0aget_source\x093_frozen_importlib.BuiltinImporter.get_source#opaque\x06\u00c6\x0ais_package\x093_frozen_importlib.BuiltinImporter.is_package#opaque\x06\u00c7\x0bload_module\x094_frozen_importlib.BuiltinImporter.load_module#opaque\x06\u00c8\x15__static_attributes__\x04\x00\x00\x0f\x06\u00ca\x08__dict__\x04\x00\x00\x10\x06\u00cc\x0b__weakref__\x04\x00\x00\x11") 0, .bool .true, .bool .true, .str (.ofString "") 205, .int 21 0, .str (.ofString "\x06\u00e3\x0a__module__\x06\u00d9\x11_frozen_importlib\x06\u00e4\x0f__firstlineno__\x04\u00da\x00\u0232\x06\u00e5\x07__doc__\x09/_frozen_importlib.ModuleSpec.__doc__:str#opaque\x06\u00e6\x08__init__\x09,_frozen_importlib.ModuleSpec.__init__#opaque\x06\u00e7\x08__repr__\x09,_frozen_importlib.ModuleSpec.__repr__#opaque\x06\u00e8\x06__eq__\x09*_frozen_importlib.ModuleSpec.__eq__#opaque\x06\u00e9\x06cached\x09*_frozen_importlib.ModuleSpec.cached#opaque\x06\u00ea\x06parent\x09*_frozen_importlib.ModuleSpec.parent#opaque\x06\u00eb\x0chas_location\x090_frozen_importlib.ModuleSpec.has_location#opaque\x06\u00ec\x15__static_attributes__\x04\x00\x00\x17\x06\u00ee\x08__dict__\x04\x00\x00\x18\x06\u00f0\x0b__weakref__\x04\x00\x00\x19\x06\u00f1\x08__hash__\x00") 0, .bool .true, .bool .true, .str (.ofString "") 242]) 1, List.toArray []⟩
noncomputable def o_18 (P : Params) : Obj := ⟨.type "list", .none, .seq (List.toArray []) 0, List.toArray []⟩
noncomputable def o_19 (P : Params) : Obj := ⟨.type "dict", .none, .dict (List.toArray [⟨PyData.keyHash P (.ofString "name"), .str (.ofString "name") 208, .str (.ofString "_sre") 207⟩, ⟨PyData.keyHash P (.ofString "loader"), .str (.ofString "loader") 209, .ref 14⟩, ⟨PyData.keyHash P (.ofString "origin"), .str (.ofString "origin") 210, .str (.ofString "built-in") 184⟩, ⟨PyData.keyHash P (.ofString "loader_state"), .str (.ofString "loader_state") 211, .none⟩, ⟨PyData.keyHash P (.ofString "submodule_search_locations"), .str (.ofString "submodule_search_locations") 212, .none⟩, ⟨PyData.keyHash P (.ofString "_uninitialized_submodules"), .str (.ofString "_uninitialized_submodules") 213, .ref 19⟩, ⟨PyData.keyHash P (.ofString "_set_fileattr"), .str (.ofString "_set_fileattr") 214, .bool .false⟩, ⟨PyData.keyHash P (.ofString "_cached"), .str (.ofString "_cached") 215, .none⟩, ⟨PyData.keyHash P (.ofString "_initializing"), .str (.ofString "_initializing") 243, .bool .false⟩]) 9, List.toArray []⟩
noncomputable def o_20 (P : Params) : Obj := ⟨.type "dict", .none, .dict (List.toArray [⟨PyData.keyHash P (.ofString "__module__"), .str (.ofString "__module__") 227, .str (.ofString "_frozen_importlib") 217⟩, ⟨PyData.keyHash P (.ofString "__firstlineno__"), .str (.ofString "__firstlineno__") 228, .int 562 218⟩, ⟨PyData.keyHash P (.ofString "__doc__"), .str (.ofString "__doc__") 229, .builtin "_frozen_importlib.ModuleSpec.__doc__:str#opaque"⟩, ⟨PyData.keyHash P (.ofString "__init__"), .str (.ofString "__init__") 230, .builtin "_frozen_importlib.ModuleSpec.__init__#opaque"⟩, ⟨PyData.keyHash P (.ofString "__repr__"), .str (.ofString "__repr__") 231, .builtin "_frozen_importlib.ModuleSpec.__repr__#opaque"⟩, ⟨PyData.keyHash P (.ofString "__eq__"), .str (.ofString "__eq__") 232, .builtin "_frozen_importlib.ModuleSpec.__eq__#opaque"⟩, ⟨PyData.keyHash P (.ofString "cached"), .str (.ofString "cached") 233, .builtin "_frozen_importlib.ModuleSpec.cached#opaque"⟩, ⟨PyData.keyHash P (.ofString "parent"), .str (.ofString "parent") 234, .builtin "_frozen_importlib.ModuleSpec.parent#opaque"⟩, ⟨PyData.keyHash P (.ofString "has_location"), .str (.ofString "has_location") 235, .builtin "_frozen_importlib.ModuleSpec.has_location#opaque"⟩, ⟨PyData.keyHash P (.ofString "__static_attributes__"), .str (.ofString "__static_attributes__") 236, .ref 23⟩, ⟨PyData.keyHash P (.ofString "__dict__"), .str (.ofString "__dict__") 238, .ref 24⟩, ⟨PyData.keyHash P (.ofString "__weakref__"), .str (.ofString "__weakref__") 240, .ref 25⟩, ⟨PyData.keyHash P (.ofString "__hash__"), .str (.ofString "__hash__") 241, .none⟩]) 13, List.toArray []⟩
noncomputable def o_21 (P : Params) : Obj := ⟨.type "type", .none, .cls ⟨.ofString "ModuleSpec", [.type "object"], [.ref 22, .type "object"], 21, .ofString "ModuleSpec", .true, [], [], .false, .none, .false⟩, List.toArray []⟩
noncomputable def o_22 (P : Params) : Obj := ⟨.type "tuple", .none, .seq (List.toArray [.str (.ofString "_cached") 219, .str (.ofString "_set_fileattr") 220, .str (.ofString "_uninitialized_submodules") 221, .str (.ofString "loader") 222, .str (.ofString "loader_state") 223, .str (.ofString "name") 224, .str (.ofString "origin") 225, .str (.ofString "submodule_search_locations") 226]) 0, List.toArray []⟩
noncomputable def o_23 (P : Params) : Obj := ⟨.type "getset_descriptor", .none, .fields (List.toArray [.str (.ofString "__dict__") 237, .ref 22, .builtin "function.__dict__", .builtin "function.__dict__#set"]), List.toArray []⟩
noncomputable def o_24 (P : Params) : Obj := ⟨.type "getset_descriptor", .none, .fields (List.toArray [.str (.ofString "__weakref__") 239, .ref 22, .builtin "ExceptionGroup.__weakref__", .none]), List.toArray []⟩
noncomputable def o_25 (P : Params) : Obj := ⟨.ref 22, .some 20, .plain, List.toArray []⟩
noncomputable def o_26 (P : Params) : Obj := ⟨.none, .none, .seq (List.toArray [.int 11 0, .str ⟨List.toArray [6, 247, 8, 95, 95, 110, 97, 109, 101, 95, 95, 6, 246, 4, 95, 115, 114, 101, 6, 248, 7, 95, 95, 100, 111, 99, 95, 95, 0, 6, 250, 11, 95, 95, 112, 97, 99, 107, 97, 103, 101, 95, 95, 6, 249, 0, 6, 251, 10, 95, 95, 108, 111, 97, 100, 101, 114, 95, 95, 4, 0, 0, 14, 6, 252, 8, 95, 95, 115, 112, 101, 99, 95, 95, 4, 0, 0, 26, 6, 253, 7, 99, 111, 109, 112, 105, 108, 101, 9, 12, 95, 115, 114, 101, 46, 99, 111, 109, 112, 105, 108, 101, 6, 254, 8, 116, 101, 109, 112, 108, 97, 116, 101, 9, 13, 95, 115, 114, 101, 46, 116, 101, 109, 112, 108, 97, 116, 101, 6, 255, 11, 103, 101, 116, 99, 111, 100, 101, 115, 105, 122, 101, 9, 16, 95, 115, 114, 101, 46, 103, 101, 116, 99, 111, 100, 101, 115, 105, 122, 101, 6, 256, 13, 97, 115, 99, 105, 105, 95, 105, 115, 99, 97, 115, 101, 100, 9, 18, 95, 115, 114, 101, 46, 97, 115, 99, 105, 105, 95, 105, 115, 99, 97, 115, 101, 100, 6, 257, 15, 117, 110, 105, 99, 111, 100, 101, 95, 105, 115, 99, 97, 115, 101, 100, 9, 20, 95, 115, 114, 101, 46, 117, 110, 105, 99, 111, 100, 101, 95, 105, 115, 99, 97, 115, 101, 100, 6, 258, 13, 97, 115, 99, 105, 105, 95, 116, 111, 108, 111, 119, 101, 114, 9, 18, 95, 115, 114, 101, 46, 97, 115, 99, 105, 105, 95, 116, 111, 108, 111, 119, 101, 114, 6, 259, 15, 117, 110, 105, 99, 111, 100, 101, 95, 116, 111, 108, 111, 119, 101, 114, 9, 20, 95, 115, 114, 101, 46, 117, 110, 105, 99, 111, 100, 101, 95, 116, 111, 108, 111, 119, 101, 114, 6, 261, 5, 77, 65, 71, 73, 67, 4, 260, 0, 20230612, 6, 263, 8, 67, 79, 68, 69, 83, 73, 90, 69, 4, 262, 0, 4, 6, 265, 9, 77, 65, 88, 82, 69, 80, 69, 65, 84, 4, 264, 0, 4294967295, 6, 267, 9, 77, 65, 88, 71, 82, 79, 85, 80, 83, 4, 266, 0, 1073741823, 6, 269, 9, 99, 111, 112, 121, 114, 105, 103, 104, 116, 6, 268, 53, 32, 83, 82, 69, 32, 50, 46, 50, 46, 50, 32, 67, 111, 112, 121, 114, 105, 103, 104, 116, 32, 40, 99, 41, 32, 49, 57, 57, 55, 45, 50, 48, 48, 50, 32, 98, 121, 32, 83, 101, 99, 114, 101, 116, 32, 76, 97, 98, 115, 32, 65, 66, 32]⟩ 0, .bool .true, .bool .false, .str (.ofString "_sre") 271]) 0, List.toArray []⟩
noncomputable def hp0 (P : Params) : Heap := ⟨⟨[o_0 P, o_1 P, o_2 P, o_3 P, o_4 P, o_5 P, o_6 P, o_7 P, o_8 P, o_9 P, o_10 P, o_11 P, o_12 P, o_13 P, o_14 P, o_7 P, o_15 P, o_16 P, o_17 P, o_18 P, o_19 P, o_20 P, o_21 P, o_22 P, o_23 P, o_24 P, o_25 P, o_26 P]⟩, ⟨[], [], [], 0, [], [], .false, List.toArray [], [], 0, .false, .false, .false, 0, [2000, 10, 10], .false, 0, .true, [], [], 0, .false⟩⟩
noncomputable def o_27 (P : Params) : Obj := ⟨.type "code", .none, .fields (List.toArray [.str (.ofString "<module>") 277, .str (.ofString "<module>") 278, .str (.ofString "/claim/cut.py") 279, .int 1 0, .int 0 0, .int 0 0, .int 0 0, .int 0 0, .ref 28, .bool .false, .int 276 0, .ref 29, .none, .none, .none, .none, .int 280 0, .int 1 0, .str (.ofString "/claim/cut.py") 281]), List.toArray []⟩
noncomputable def o_28 (P : Params) : Obj := ⟨.type "frame", .none, .plain, List.toArray [.some (.ref 30), .some (.ref 3), .some (.ref 3), .none, .some (.str (.ofString "__main__") 164), .none, .some (.ref 0)]⟩
noncomputable def hp1 (P : Params) : Heap := ⟨⟨[o_0 P, o_1 P, o_2 P, o_3 P, o_4 P, o_5 P, o_6 P, o_7 P, o_8 P, o_9 P, o_10 P, o_11 P, o_12 P, o_13 P, o_14 P, o_7 P, o_15 P, o_16 P, o_17 P, o_18 P, o_19 P, o_20 P, o_21 P, o_22 P, o_23 P, o_24 P, o_25 P, o_26 P, o_7 P, o_8 P, o_27 P, o_28 P]⟩, ⟨[], [], [], 0, [], [], .false, List.toArray [], [], 0, .false, .false, .false, 0, [2000, 10, 10], .false, 0, .true, [], [], 0, .false⟩⟩
noncomputable def tr1 (P : Params) : BT := (.node (o_0 P) (.node (o_1 P) (.node (o_3 P) (.node (o_7 P) (.node (o_7 P) (.node (o_28 P) .nil .nil) .nil) (.node (o_22 P) .nil .nil)) (.node (o_11 P) (.node (o_18 P) .nil .nil) (.node (o_26 P) .nil .nil))) (.node (o_5 P) (.node (o_9 P) (.node (o_16 P) .nil .nil) (.node (o_24 P) .nil .nil)) (.node (o_13 P) (.node (o_20 P) .nil .nil) (.node (o_8 P) .nil .nil)))) (.node (o_2 P) (.node (o_4 P) (.node (o_8 P) (.node (o_15 P) .nil .nil) (.node (o_23 P) .nil .nil)) (.node (o_12 P) (.node (o_19 P) .nil .nil) (.node (o_7 P) .nil .nil))) (.node (o_6 P) (.node (o_10 P) (.node (o_17 P) .nil .nil) (.node (o_25 P) .nil .nil)) (.node (o_14 P) (.node (o_21 P) .nil .nil) (.node (o_27 P) .nil .nil)))))
noncomputable def env9 : Env := { scope := pw.main.scope, locals := mainNs, globals := mainNs, cells := [], code := .ref 30, frame := some 31 }
noncomputable abbrev bd9 : List Stmt := behindTheImports pw
noncomputable abbrev cd9 : Code := Code.body bd9 env9
noncomputable abbrev fr9 : List Frame := [topFrame ⟨0, 0, 0, 0⟩]
noncomputable abbrev sH (h : Params → Heap) (k : Nat) (w : World) (os : OsState) : Shared := ⟨h w.params, ⟨[]⟩, ⟨0, 0, 0, 0⟩, k, os⟩
noncomputable abbrev sT (t : Params → BT) (n k : Nat) (w : World) (os : OsState) : SharedT := ⟨t w.params, n, ⟨[], [], [], 0, [], [], .false, List.toArray [], [], 0, .false, .false, .false, 0, [2000, 10, 10], .false, 0, .true, [], [], 0, .false⟩, ⟨[]⟩, ⟨0, 0, 0, 0⟩, k, os⟩
theorem run0 (w : World) (os : OsState) : topGo treeTable pw w 28 (.some (.ref 6)) 12 (sH hp0 276 w os) (topStub pw) = some (sH hp1 282 w os, (⟨denote treeTable cd9, cd9, ⟨0, 0, 0, 0⟩, fr9⟩ : Thread)) := by kernel_rfl
theorem run1 (w : World) (os : OsState) : segRun treeTable pw w 28 (.some (.ref 6)) 1 1 (sH hp1 282 w os) (blockOf bd9 env9 cd9 ⟨0, 0, 0, 0⟩ fr9) = some (Flow.next, (sT tr1 32 282 w os).abs, cd9, ⟨0, 0, 0, 0⟩) := by kernel_rfl
noncomputable def o_29 (P : Params) : Obj := ⟨.type "dict", .none, .dict (List.toArray [⟨PyData.keyHash P (.ofString "__name__"), .str (.ofString "__name__") 165, .str (.ofString "cpy313.pickletools") 282⟩, ⟨PyData.keyHash P (.ofString "__doc__"), .str (.ofString "__doc__") 166, .none⟩, ⟨PyData.keyHash P (.ofString "__package__"), .str (.ofString "__package__") 167, .none⟩, ⟨PyData.keyHash P (.ofString "__loader__"), .str (.ofString "__loader__") 168, .builtin "__main__.__loader__#opaque"⟩, ⟨PyData.keyHash P (.ofString "__spec__"), .str (.ofString "__spec__") 169, .none⟩, ⟨PyData.keyHash P (.ofString "__annotations__"), .str (.ofString "__annotations__") 170, .ref 6⟩, ⟨PyData.keyHash P (.ofString "__builtins__"), .str (.ofString "__builtins__") 171, .ref 4⟩, ⟨PyData.keyHash P (.ofString "__file__"), .str (.ofString "__file__") 173, .str (.ofString "/claim/cut.py") 172⟩, ⟨PyData.keyHash P (.ofString "__cached__"), .str (.ofString "__cached__") 174, .none⟩, ⟨PyData.keyHash P (.ofString "_sre"), .str (.ofString "_sre") 275, .ref 12⟩, ⟨PyData.keyHash P (.ofString "read_uint1"), .str (.ofString "read_uint1") 291, .ref 38⟩, ⟨PyData.keyHash P (.ofString "read_string1"), .str (.ofString "read_string1") 300, .ref 45⟩, ⟨PyData.keyHash P (.ofString "read_bytes1"), .str (.ofString "read_bytes1") 309, .ref 52⟩, ⟨PyData.keyHash P (.ofString "_Example"), .str (.ofString "_Example") 338, .ref 69⟩]) 14, List.toArray []⟩
noncomputable def o_30 (P : Params) : Obj := ⟨.none, .none, .fields (List.toArray [.int 3 0, .int 0 0, .ref 37, .int 8 0, .int 0 0, .ref 44, .int 15 0, .int 0 0, .ref 51, .int 22 0, .int 0 0, .ref 58]), List.toArray []⟩
noncomputable def o_31 (P : Params) : Obj := kOf P 34
noncomputable def o_32 (P : Params) : Obj := ⟨.none, .none, .func ⟨.ofString "read_uint1", .ofString "read_uint1", (fdOf P 38).params, (fdOf P 38).body, (fdOf P 38).scope, 0, [], .none, .none, .none, .none, .none, .none, .none, 0⟩, List.toArray []⟩
noncomputable def o_33 (P : Params) : Obj := kOf P 37
noncomputable def o_34 (P : Params) : Obj := kOf P 38
noncomputable def o_35 (P : Params) : Obj := kOf P 41
noncomputable def o_36 (P : Params) : Obj := ⟨.none, .none, .func ⟨.ofString "read_string1", .ofString "read_string1", (fdOf P 45).params, (fdOf P 45).body, (fdOf P 52).scope, 0, [], .none, .none, .none, .none, .none, .none, .none, 0⟩, List.toArray []⟩
noncomputable def o_37 (P : Params) : Obj := kOf P 44
noncomputable def o_38 (P : Params) : Obj := kOf P 45
noncomputable def o_39 (P : Params) : Obj := kOf P 48
noncomputable def o_40 (P : Params) : Obj := ⟨.none, .none, .func ⟨.ofString "read_bytes1", .ofString "read_bytes1", (fdOf P 52).params, (fdOf P 52).body, (fdOf P 52).scope, 0, [], .none, .none, .none, .none, .none, .none, .none, 0⟩, List.toArray []⟩
noncomputable def o_41 (P : Params) : Obj := kOf P 51
noncomputable def o_42 (P : Params) : Obj := kOf P 52
noncomputable def o_43 (P : Params) : Obj := ⟨.type "builtin_function_or_method", .none, .fields (List.toArray [.builtin "type.__prepare__", .type "type"]), List.toArray []⟩
noncomputable def o_44 (P : Params) : Obj := ⟨.type "dict", .none, .dict (List.toArray [⟨PyData.keyHash P (.ofString "__module__"), .str (.ofString "__module__") 317, .str (.ofString "cpy313.pickletools") 282⟩, ⟨PyData.keyHash P (.ofString "__qualname__"), .str (.ofString "__qualname__") 319, .str (.ofString "_Example") 318⟩, ⟨PyData.keyHash P (.ofString "__firstlineno__"), .str (.ofString "__firstlineno__") 321, .int 22 320⟩, ⟨PyData.keyHash P (.ofString "__init__"), .str (.ofString "__init__") 329, .ref 66⟩, ⟨PyData.keyHash P (.ofString "__static_attributes__"), .str (.ofString "__static_attributes__") 331, .ref 67⟩]) 5, List.toArray []⟩
noncomputable def o_45 (P : Params) : Obj := ⟨.none, .none, .fields (List.toArray [.int 24 0, .int 4 0, .ref 65]), List.toArray []⟩
noncomputable def o_46 (P : Params) : Obj := ⟨.type "code", .none, .fields (List.toArray [.str (.ofString "_Example") 312, .str (.ofString "_Example") 313, .str (.ofString "/claim/cut.py") 314, .int 22 0, .int 0 0, .int 0 0, .int 0 0, .int 0 0, .ref 56, .bool .false, .int 276 0, .ref 57, .none, .none, .none, .none, .int 315 0, .int 22 0, .str (.ofString "/claim/cut.py") 316]), List.toArray []⟩
noncomputable def o_47 (P : Params) : Obj := ⟨.type "frame", .none, .plain, List.toArray [.some (.ref 58), .some (.ref 3), .some (.ref 55), .none, .some (.str (.ofString "cpy313.pickletools") 282), .none, .some (.ref 0)]⟩
noncomputable def o_48 (P : Params) : Obj := kOf P 62
noncomputable def o_49 (P : Params) : Obj := ⟨.none, .none, .func ⟨.ofString "__init__", .ofString "_Example.__init__", (fdOf P 66).params, (fdOf P 66).body, (fdOf P 66).scope, 0, [], .none, .none, .none, .none, .none, .none, .none, 0⟩, List.toArray []⟩
noncomputable def o_50 (P : Params) : Obj := kOf P 65
noncomputable def o_51 (P : Params) : Obj := kOf P 66
noncomputable def o_52 (P : Params) : Obj := kOf P 67
noncomputable def o_53 (P : Params) : Obj := kOf P 68
noncomputable def o_54 (P : Params) : Obj := kOf P 69
noncomputable def o_55 (P : Params) : Obj := kOf P 70
noncomputable def o_56 (P : Params) : Obj := kOf P 71
noncomputable def o_57 (P : Params) : Obj := ⟨.type "super", .none, .fields (List.toArray [.ref 69, .ref 69, .ref 69]), List.toArray []⟩
noncomputable def o_58 (P : Params) : Obj := ⟨.type "builtin_function_or_method", .none, .fields (List.toArray [.builtin "object.__init_subclass__", .ref 69]), List.toArray []⟩
noncomputable def tr2 (P : Params) : BT := (.node (o_0 P) (.node (o_1 P) (.node (o_29 P) (.node (o_7 P) (.node (o_7 P) (.node (o_28 P) (.node (o_7 P) .nil .nil) .nil) (.node (o_8 P) .nil .nil)) (.node (o_22 P) (.node (o_7 P) (.node (o_56 P) .nil .nil) .nil) (.node (o_44 P) .nil .nil))) (.node (o_11 P) (.node (o_18 P) (.node (o_7 P) (.node (o_52 P) .nil .nil) .nil) (.node (o_41 P) .nil .nil)) (.node (o_26 P) (.node (o_36 P) .nil .nil) (.node (o_47 P) .nil .nil)))) (.node (o_5 P) (.node (o_9 P) (.node (o_16 P) (.node (o_8 P) (.node (o_50 P) .nil .nil) .nil) (.node (o_7 P) .nil .nil)) (.node (o_24 P) (.node (o_35 P) (.node (o_58 P) .nil .nil) .nil) (.node (o_45 P) .nil .nil))) (.node (o_13 P) (.node (o_20 P) (.node (o_33 P) (.node (o_54 P) .nil .nil) .nil) (.node (o_7 P) .nil .nil)) (.node (o_30 P) (.node (o_38 P) .nil .nil) (.node (o_8 P) .nil .nil))))) (.node (o_2 P) (.node (o_4 P) (.node (o_8 P) (.node (o_15 P) (.node (o_7 P) (.node (o_49 P) .nil .nil) .nil) (.node (o_39 P) .nil .nil)) (.node (o_23 P) (.node (o_8 P) (.node (o_57 P) .nil .nil) .nil) (.node (o_7 P) .nil .nil))) (.node (o_12 P) (.node (o_19 P) (.node (o_32 P) (.node (o_53 P) .nil .nil) .nil) (.node (o_42 P) .nil .nil)) (.node (o_7 P) (.node (o_37 P) .nil .nil) (.node (o_7 P) .nil .nil)))) (.node (o_6 P) (.node (o_10 P) (.node (o_17 P) (.node (o_31 P) (.node (o_51 P) .nil .nil) .nil) (.node (o_40 P) .nil .nil)) (.node (o_25 P) (.node (o_7 P) .nil .nil) (.node (o_46 P) .nil .nil))) (.node (o_14 P) (.node (o_21 P) (.node (o_34 P) (.node (o_55 P) .nil .nil) .nil) (.node (o_43 P) .nil .nil)) (.node (o_27 P) (.node (o_7 P) .nil .nil) (.node (o_48 P) .nil .nil))))))
noncomputable abbrev sts1 : List Stmt := (bd9.drop 0).take 5
abbrev Pc1 (w : World) : Prop := ∀ os : OsState, segRunT treeTable pw w 28 (.some (.ref 6)) 1 324 (sT tr1 32 282 w os) (piecesOf sts1 env9 cd9 ⟨0, 0, 0, 0⟩ fr9) = some (Flow.next, sT tr2 74 339 w os, cd9, ⟨22, 0, 25, 26⟩)
theorem pc1 (w : World) : Pc1 w := by intro os; kernel_rfl
noncomputable def o_59 (P : Params) : Obj := ⟨.type "dict", .none, .dict (List.toArray [⟨PyData.keyHash P (.ofString "__name__"), .str (.ofString "__name__") 165, .str (.ofString "re") 377⟩, ⟨PyData.keyHash P (.ofString "__doc__"), .str (.ofString "__doc__") 166, .none⟩, ⟨PyData.keyHash P (.ofString "__package__"), .str (.ofString "__package__") 167, .none⟩, ⟨PyData.keyHash P (.ofString "__loader__"), .str (.ofString "__loader__") 168, .builtin "__main__.__loader__#opaque"⟩, ⟨PyData.keyHash P (.ofString "__spec__"), .str (.ofString "__spec__") 169, .none⟩, ⟨PyData.keyHash P (.ofString "__annotations__"), .str (.ofString "__annotations__") 170, .ref 6⟩, ⟨PyData.keyHash P (.ofString "__builtins__"), .str (.ofString "__builtins__") 171, .ref 4⟩, ⟨PyData.keyHash P (.ofString "__file__"), .str (.ofString "__file__") 173, .str (.ofString "/claim/cut.py") 172⟩, ⟨PyData.keyHash P (.ofString "__cached__"), .str (.ofString "__cached__") 174, .none⟩, ⟨PyData.keyHash P (.ofString "_sre"), .str (.ofString "_sre") 275, .ref 12⟩, ⟨PyData.keyHash P (.ofString "read_uint1"), .str (.ofString "read_uint1") 291, .ref 38⟩, ⟨PyData.keyHash P (.ofString "read_string1"), .str (.ofString "read_string1") 300, .ref 45⟩, ⟨PyData.keyHash P (.ofString "read_bytes1"), .str (.ofString "read_bytes1") 309, .ref 52⟩, ⟨PyData.keyHash P (.ofString "_Example"), .str (.ofString "_Example") 338, .ref 69⟩, ⟨PyData.keyHash P (.ofString "_twin_re_1"), .str (.ofString "_twin_re_1") 376, .ref 78⟩]) 15, List.toArray []⟩
noncomputable def o_60 (P : Params) : Obj := ⟨.type "list", .none, .seq (List.toArray [.int 14 342, .int 14 343, .int 4 344, .int 1 345, .int 1 346, .int 9 347, .int 0 348, .int 64 349, .int 0 350, .int 1342177280 351, .int 0 352, .int 0 353, .int 0 354, .int 0 355, .int 0 356, .int 17 357, .int 0 358, .int 13 359, .int 11 360, .int 9 361, .int 0 362, .int 64 363, .int 0 364, .int 1342177280 365, .int 0 366, .int 0 367, .int 0 368, .int 0 369, .int 0 370, .int 17 371, .int 1 372, .int 1 373]) 0, List.toArray []⟩
noncomputable def o_61 (P : Params) : Obj := ⟨.type "tuple", .none, .seq (List.toArray [.none, .none]) 0, List.toArray []⟩
noncomputable def o_62 (P : Params) : Obj := kOf P 77
noncomputable def o_63 (P : Params) : Obj := kOf P 78
noncomputable def tr3 (P : Params) : BT := (.node (o_0 P) (.node (o_1 P) (.node (o_59 P) (.node (o_7 P) (.node (o_7 P) (.node (o_28 P) (.node (o_7 P) .nil .nil) .nil) (.node (o_8 P) .nil .nil)) (.node (o_22 P) (.node (o_7 P) (.node (o_56 P) .nil .nil) .nil) (.node (o_44 P) .nil .nil))) (.node (o_11 P) (.node (o_18 P) (.node (o_7 P) (.node (o_52 P) .nil .nil) .nil) (.node (o_41 P) .nil .nil)) (.node (o_26 P) (.node (o_36 P) (.node (o_6 P) .nil .nil) .nil) (.node (o_47 P) .nil .nil)))) (.node (o_5 P) (.node (o_9 P) (.node (o_16 P) (.node (o_8 P) (.node (o_50 P) .nil .nil) .nil) (.node (o_7 P) .nil .nil)) (.node (o_24 P) (.node (o_35 P) (.node (o_58 P) .nil .nil) .nil) (.node (o_45 P) .nil .nil))) (.node (o_13 P) (.node (o_20 P) (.node (o_33 P) (.node (o_54 P) .nil .nil) .nil) (.node (o_7 P) .nil .nil)) (.node (o_30 P) (.node (o_38 P) (.node (o_62 P) .nil .nil) .nil) (.node (o_8 P) .nil .nil))))) (.node (o_2 P) (.node (o_4 P) (.node (o_8 P) (.node (o_15 P) (.node (o_7 P) (.node (o_49 P) .nil .nil) .nil) (.node (o_39 P) .nil .nil)) (.node (o_23 P) (.node (o_8 P) (.node (o_57 P) .nil .nil) .nil) (.node (o_7 P) .nil .nil))) (.node (o_12 P) (.node (o_19 P) (.node (o_32 P) (.node (o_53 P) .nil .nil) .nil) (.node (o_42 P) .nil .nil)) (.node (o_7 P) (.node (o_37 P) (.node (o_61 P) .nil .nil) .nil) (.node (o_7 P) .nil .nil)))) (.node (o_6 P) (.node (o_10 P) (.node (o_17 P) (.node (o_31 P) (.node (o_51 P) .nil .nil) .nil) (.node (o_40 P) .nil .nil)) (.node (o_25 P) (.node (o_7 P) (.node (o_60 P) .nil .nil) .nil) (.node (o_46 P) .nil .nil))) (.node (o_14 P) (.node (o_21 P) (.node (o_34 P) (.node (o_55 P) .nil .nil) .nil) (.node (o_43 P) .nil .nil)) (.node (o_27 P) (.node (o_7 P) (.node (o_63 P) .nil .nil) .nil) (.node (o_48 P) .nil .nil))))))
noncomputable abbrev sts2 : List Stmt := (bd9.drop 5).take 2
abbrev Pc2 (w : World) : Prop := ∀ os : OsState, segRunT treeTable pw w 28 (.some (.ref 6)) 1 91 (sT tr2 74 339 w os) (piecesOf sts2 env9 cd9 ⟨22, 0, 25, 26⟩ fr9) = some (Flow.next, sT tr3 79 379 w os, cd9, ⟨27, 0, 27, 8⟩)
theorem pc2 (w : World) : Pc2 w := by intro os; kernel_rfl
noncomputable def o_64 (P : Params) : Obj := ⟨.type "dict", .none, .dict (List.toArray [⟨PyData.keyHash P (.ofString "__name__"), .str (.ofString "__name__") 165, .str (.ofString "re") 377⟩, ⟨PyData.keyHash P (.ofString "__doc__"), .str (.ofString "__doc__") 166, .none⟩, ⟨PyData.keyHash P (.ofString "__package__"), .str (.ofString "__package__") 167, .none⟩, ⟨PyData.keyHash P (.ofString "__loader__"), .str (.ofString "__loader__") 168, .builtin "__main__.__loader__#opaque"⟩, ⟨PyData.keyHash P (.ofString "__spec__"), .str (.ofString "__spec__") 169, .none⟩, ⟨PyData.keyHash P (.ofString "__annotations__"), .str (.ofString "__annotations__") 170, .ref 6⟩, ⟨PyData.keyHash P (.ofString "__builtins__"), .str (.ofString "__builtins__") 171, .ref 4⟩, ⟨PyData.keyHash P (.ofString "__file__"), .str (.ofString "__file__") 173, .str (.ofString "/claim/cut.py") 172⟩, ⟨PyData.keyHash P (.ofString "__cached__"), .str (.ofString "__cached__") 174, .none⟩, ⟨PyData.keyHash P (.ofString "_sre"), .str (.ofString "_sre") 275, .ref 12⟩, ⟨PyData.keyHash P (.ofString "read_uint1"), .str (.ofString "read_uint1") 291, .ref 38⟩, ⟨PyData.keyHash P (.ofString "read_string1"), .str (.ofString "read_string1") 300, .ref 45⟩, ⟨PyData.keyHash P (.ofString "read_bytes1"), .str (.ofString "read_bytes1") 309, .ref 52⟩, ⟨PyData.keyHash P (.ofString "_Example"), .str (.ofString "_Example") 338, .ref 69⟩, ⟨PyData.keyHash P (.ofString "_twin_re_1"), .str (.ofString "_twin_re_1") 376, .ref 78⟩, ⟨PyData.keyHash P (.ofString "_special_chars_map"), .str (.ofString "_special_chars_map") 524, .ref 80⟩]) 16, List.toArray []⟩
noncomputable def o_65 (P : Params) : Obj := ⟨.type "bytes_iterator", .none, .fields (List.toArray [.none, .int 24 0]), List.toArray []⟩
noncomputable def o_66 (P : Params) : Obj := kOf P 80
noncomputable def o_67 (P : Params) : Obj := ⟨.type "dict", .none, .dict (List.toArray []) 2, List.toArray []⟩
noncomputable def o_68 (P : Params) : Obj := ⟨.type "StopIteration", .none, .fields (List.toArray [.ref 82, .none, .none, .none, .bool .false, .none]), List.toArray []⟩
noncomputable def tr4 (P : Params) : BT := (.node (o_0 P) (.node (o_1 P) (.node (o_64 P) (.node (o_7 P) (.node (o_7 P) (.node (o_28 P) (.node (o_7 P) .nil .nil) .nil) (.node (o_8 P) (.node (o_65 P) .nil .nil) .nil)) (.node (o_22 P) (.node (o_7 P) (.node (o_56 P) .nil .nil) .nil) (.node (o_44 P) .nil .nil))) (.node (o_11 P) (.node (o_18 P) (.node (o_7 P) (.node (o_52 P) .nil .nil) .nil) (.node (o_41 P) (.node (o_68 P) .nil .nil) .nil)) (.node (o_26 P) (.node (o_36 P) (.node (o_6 P) .nil .nil) .nil) (.node (o_47 P) .nil .nil)))) (.node (o_5 P) (.node (o_9 P) (.node (o_16 P) (.node (o_8 P) (.node (o_50 P) .nil .nil) .nil) (.node (o_7 P) (.node (o_67 P) .nil .nil) .nil)) (.node (o_24 P) (.node (o_35 P) (.node (o_58 P) .nil .nil) .nil) (.node (o_45 P) .nil .nil))) (.node (o_13 P) (.node (o_20 P) (.node (o_33 P) (.node (o_54 P) .nil .nil) .nil) (.node (o_7 P) .nil .nil)) (.node (o_30 P) (.node (o_38 P) (.node (o_62 P) .nil .nil) .nil) (.node (o_8 P) .nil .nil))))) (.node (o_2 P) (.node (o_4 P) (.node (o_8 P) (.node (o_15 P) (.node (o_7 P) (.node (o_49 P) .nil .nil) .nil) (.node (o_39 P) (.node (o_66 P) .nil .nil) .nil)) (.node (o_23 P) (.node (o_8 P) (.node (o_57 P) .nil .nil) .nil) (.node (o_7 P) .nil .nil))) (.node (o_12 P) (.node (o_19 P) (.node (o_32 P) (.node (o_53 P) .nil .nil) .nil) (.node (o_42 P) .nil .nil)) (.node (o_7 P) (.node (o_37 P) (.node (o_61 P) .nil .nil) .nil) (.node (o_7 P) .nil .nil)))) (.node (o_6 P) (.node (o_10 P) (.node (o_17 P) (.node (o_31 P) (.node (o_51 P) .nil .nil) .nil) (.node (o_40 P) (.node (o_7 P) .nil .nil) .nil)) (.node (o_25 P) (.node (o_7 P) (.node (o_60 P) .nil .nil) .nil) (.node (o_46 P) .nil .nil))) (.node (o_14 P) (.node (o_21 P) (.node (o_34 P) (.node (o_55 P) .nil .nil) .nil) (.node (o_43 P) .nil .nil)) (.node (o_27 P) (.node (o_7 P) (.node (o_63 P) .nil .nil) .nil) (.node (o_48 P) .nil .nil))))))
noncomputable abbrev sts3 : List Stmt := (bd9.drop 7).take 1
abbrev Pc3 (w : World) : Prop := ∀ os : OsState, segRunT treeTable pw w 28 (.some (.ref 6)) 1 1253 (sT tr3 79 379 w os) (piecesOf sts3 env9 cd9 ⟨27, 0, 27, 8⟩ fr9) = some (Flow.next, sT tr4 84 525 w os, cd9, ⟨28, 0, 28, 18⟩)
theorem pc3ff (w : World) : Pc3 ((w.withFollow "special-get-raises" false).withFollow "comprehension-iter-twice" false) := by intro os; kernel_rfl
theorem pc3ft (w : World) : Pc3 ((w.withFollow "special-get-raises" true).withFollow "comprehension-iter-twice" false) := by intro os; kernel_rfl
theorem pc3tf (w : World) : Pc3 ((w.withFollow "special-get-raises" false).withFollow "comprehension-iter-twice" true) := by intro os; kernel_rfl
theorem pc3tt (w : World) : Pc3 ((w.withFollow "special-get-raises" true).withFollow "comprehension-iter-twice" true) := by intro os; kernel_rfl
theorem pc3 (w : World) : Pc3 w := byRow2 "comprehension-iter-twice" (P := fun w => Pc3 w) (byRow2 (P := fun w => Pc3 (w.withFollow "comprehension-iter-twice" false)) "special-get-raises" pc3ff pc3ft) (byRow2 (P := fun w => Pc3 (w.withFollow "comprehension-iter-twice" true)) "special-get-raises" pc3tf pc3tt) w
noncomputable def o_69 (P : Params) : Obj := ⟨.type "dict", .none, .dict (List.toArray [⟨PyData.keyHash P (.ofString "__name__"), .str (.ofString "__name__") 165, .str (.ofString "cpy313.stat") 553⟩, ⟨PyData.keyHash P (.ofString "__doc__"), .str (.ofString "__doc__") 166, .none⟩, ⟨PyData.keyHash P (.ofString "__package__"), .str (.ofString "__package__") 167, .none⟩, ⟨PyData.keyHash P (.ofString "__loader__"), .str (.ofString "__loader__") 168, .builtin "__main__.__loader__#opaque"⟩, ⟨PyData.keyHash P (.ofString "__spec__"), .str (.ofString "__spec__") 169, .none⟩, ⟨PyData.keyHash P (.ofString "__annotations__"), .str (.ofString "__annotations__") 170, .ref 6⟩, ⟨PyData.keyHash P (.ofString "__builtins__"), .str (.ofString "__builtins__") 171, .ref 4⟩, ⟨PyData.keyHash P (.ofString "__file__"), .str (.ofString "__file__") 173, .str (.ofString "/claim/cut.py") 172⟩, ⟨PyData.keyHash P (.ofString "__cached__"), .str (.ofString "__cached__") 174, .none⟩, ⟨PyData.keyHash P (.ofString "_sre"), .str (.ofString "_sre") 275, .ref 12⟩, ⟨PyData.keyHash P (.ofString "read_uint1"), .str (.ofString "read_uint1") 291, .ref 38⟩, ⟨PyData.keyHash P (.ofString "read_string1"), .str (.ofString "read_string1") 300, .ref 45⟩, ⟨PyData.keyHash P (.ofString "read_bytes1"), .str (.ofString "read_bytes1") 309, .ref 52⟩, ⟨PyData.keyHash P (.ofString "_Example"), .str (.ofString "_Example") 338, .ref 69⟩, ⟨PyData.keyHash P (.ofString "_twin_re_1"), .str (.ofString "_twin_re_1") 376, .ref 78⟩, ⟨PyData.keyHash P (.ofString "_special_chars_map"), .str (.ofString "_special_chars_map") 524, .ref 80⟩, ⟨PyData.keyHash P (.ofString "escape"), .str (.ofString "escape") 531, .ref 90⟩, ⟨PyData.keyHash P (.ofString "_translate"), .str (.ofString "_translate") 552, .ref 97⟩, ⟨PyData.keyHash P (.ofString "S_IFMT"), .str (.ofString "S_IFMT") 561, .ref 104⟩, ⟨PyData.keyHash P (.ofString "S_IFDIR"), .str (.ofString "S_IFDIR") 563, .int 16384 562⟩, ⟨PyData.keyHash P (.ofString "S_IFCHR"), .str (.ofString "S_IFCHR") 565, .int 8192 564⟩, ⟨PyData.keyHash P (.ofString "S_IFBLK"), .str (.ofString "S_IFBLK") 567, .int 24576 566⟩, ⟨PyData.keyHash P (.ofString "S_IFREG"), .str (.ofString "S_IFREG") 569, .int 32768 568⟩, ⟨PyData.keyHash P (.ofString "S_IFIFO"), .str (.ofString "S_IFIFO") 571, .int 4096 570⟩, ⟨PyData.keyHash P (.ofString "S_IFLNK"), .str (.ofString "S_IFLNK") 573, .int 40960 572⟩, ⟨PyData.keyHash P (.ofString "S_IFSOCK"), .str (.ofString "S_IFSOCK") 575, .int 49152 574⟩, ⟨PyData.keyHash P (.ofString "S_ISDIR"), .str (.ofString "S_ISDIR") 582, .ref 111⟩, ⟨PyData.keyHash P (.ofString "S_ISREG"), .str (.ofString "S_ISREG") 589, .ref 118⟩, ⟨PyData.keyHash P (.ofString "S_ISLNK"), .str (.ofString "S_ISLNK") 596, .ref 125⟩, ⟨PyData.keyHash P (.ofString "S_ISUID"), .str (.ofString "S_ISUID") 598, .int 2048 597⟩, ⟨PyData.keyHash P (.ofString "S_ISGID"), .str (.ofString "S_ISGID") 600, .int 1024 599⟩, ⟨PyData.keyHash P (.ofString "S_ISVTX"), .str (.ofString "S_ISVTX") 602, .int 512 601⟩, ⟨PyData.keyHash P (.ofString "S_IRUSR"), .str (.ofString "S_IRUSR") 604, .int 256 603⟩, ⟨PyData.keyHash P (.ofString "S_IWUSR"), .str (.ofString "S_IWUSR") 606, .int 128 605⟩, ⟨PyData.keyHash P (.ofString "S_IXUSR"), .str (.ofString "S_IXUSR") 608, .int 64 607⟩, ⟨PyData.keyHash P (.ofString "S_IRGRP"), .str (.ofString "S_IRGRP") 610, .int 32 609⟩, ⟨PyData.keyHash P (.ofString "S_IWGRP"), .str (.ofString "S_IWGRP") 612, .int 16 611⟩, ⟨PyData.keyHash P (.ofString "S_IXGRP"), .str (.ofString "S_IXGRP") 614, .int 8 613⟩, ⟨PyData.keyHash P (.ofString "S_IROTH"), .str (.ofString "S_IROTH") 616, .int 4 615⟩, ⟨PyData.keyHash P (.ofString "S_IWOTH"), .str (.ofString "S_IWOTH") 618, .int 2 617⟩, ⟨PyData.keyHash P (.ofString "S_IXOTH"), .str (.ofString "S_IXOTH") 620, .int 1 619⟩]) 41, List.toArray []⟩
noncomputable def o_70 (P : Params) : Obj := ⟨.none, .none, .fields (List.toArray [.int 3 0, .int 0 0, .ref 37, .int 8 0, .int 0 0, .ref 44, .int 15 0, .int 0 0, .ref 51, .int 22 0, .int 0 0, .ref 58, .int 29 0, .int 0 0, .ref 89, .int 36 0, .int 0 0, .ref 96, .int 99 0, .int 0 0, .ref 103, .int 108 0, .int 0 0, .ref 110, .int 110 0, .int 0 0, .ref 117, .int 112 0, .int 0 0, .ref 124]), List.toArray []⟩
noncomputable def o_71 (P : Params) : Obj := kOf P 86
noncomputable def o_72 (P : Params) : Obj := ⟨.none, .none, .func ⟨.ofString "escape", .ofString "escape", (fdOf P 90).params, (fdOf P 90).body, (fdOf P 90).scope, 0, [], .none, .none, .none, .none, .none, .none, .none, 0⟩, List.toArray []⟩
noncomputable def o_73 (P : Params) : Obj := kOf P 89
noncomputable def o_74 (P : Params) : Obj := kOf P 90
noncomputable def o_75 (P : Params) : Obj := kOf P 93
noncomputable def o_76 (P : Params) : Obj := ⟨.none, .none, .func ⟨.ofString "_translate", .ofString "_translate", (fdOf P 97).params, (fdOf P 97).body, (fdOf P 97).scope, 0, [], .none, .none, .none, .none, .none, .none, .none, 0⟩, List.toArray []⟩
noncomputable def o_77 (P : Params) : Obj := kOf P 96
noncomputable def o_78 (P : Params) : Obj := kOf P 97
noncomputable def o_79 (P : Params) : Obj := kOf P 100
noncomputable def o_80 (P : Params) : Obj := ⟨.none, .none, .func ⟨.ofString "S_IFMT", .ofString "S_IFMT", (fdOf P 104).params, (fdOf P 104).body, (fdOf P 104).scope, 0, [], .none, .none, .none, .none, .none, .none, .none, 0⟩, List.toArray []⟩
noncomputable def o_81 (P : Params) : Obj := kOf P 103
noncomputable def o_82 (P : Params) : Obj := kOf P 104
noncomputable def o_83 (P : Params) : Obj := kOf P 107
noncomputable def o_84 (P : Params) : Obj := ⟨.none, .none, .func ⟨.ofString "S_ISDIR", .ofString "S_ISDIR", (fdOf P 111).params, (fdOf P 111).body, (fdOf P 111).scope, 0, [], .none, .none, .none, .none, .none, .none, .none, 0⟩, List.toArray []⟩
noncomputable def o_85 (P : Params) : Obj := kOf P 110
noncomputable def o_86 (P : Params) : Obj := kOf P 111
noncomputable def o_87 (P : Params) : Obj := kOf P 114
noncomputable def o_88 (P : Params) : Obj := ⟨.none, .none, .func ⟨.ofString "S_ISREG", .ofString "S_ISREG", (fdOf P 118).params, (fdOf P 118).body, (fdOf P 118).scope, 0, [], .none, .none, .none, .none, .none, .none, .none, 0⟩, List.toArray []⟩
noncomputable def o_89 (P : Params) : Obj := kOf P 117
noncomputable def o_90 (P : Params) : Obj := kOf P 118
noncomputable def o_91 (P : Params) : Obj := kOf P 121
noncomputable def o_92 (P : Params) : Obj := ⟨.none, .none, .func ⟨.ofString "S_ISLNK", .ofString "S_ISLNK", (fdOf P 125).params, (fdOf P 125).body, (fdOf P 125).scope, 0, [], .none, .none, .none, .none, .none, .none, .none, 0⟩, List.toArray []⟩
noncomputable def o_93 (P : Params) : Obj := kOf P 124
noncomputable def o_94 (P : Params) : Obj := kOf P 125
noncomputable def tr5 (P : Params) : BT := (.node (o_0 P) (.node (o_1 P) (.node (o_69 P) (.node (o_7 P) (.node (o_7 P) (.node (o_28 P) (.node (o_7 P) .nil .nil) (.node (o_76 P) .nil .nil)) (.node (o_8 P) (.node (o_65 P) .nil .nil) (.node (o_86 P) .nil .nil))) (.node (o_22 P) (.node (o_7 P) (.node (o_56 P) .nil .nil) (.node (o_81 P) .nil .nil)) (.node (o_44 P) (.node (o_7 P) .nil .nil) (.node (o_7 P) .nil .nil)))) (.node (o_11 P) (.node (o_18 P) (.node (o_7 P) (.node (o_52 P) .nil .nil) (.node (o_8 P) .nil .nil)) (.node (o_41 P) (.node (o_68 P) .nil .nil) (.node (o_7 P) .nil .nil))) (.node (o_26 P) (.node (o_36 P) (.node (o_6 P) .nil .nil) (.node (o_83 P) .nil .nil)) (.node (o_47 P) (.node (o_7 P) .nil .nil) (.node (o_92 P) .nil .nil))))) (.node (o_5 P) (.node (o_9 P) (.node (o_16 P) (.node (o_8 P) (.node (o_50 P) .nil .nil) (.node (o_78 P) .nil .nil)) (.node (o_7 P) (.node (o_67 P) .nil .nil) (.node (o_8 P) .nil .nil))) (.node (o_24 P) (.node (o_35 P) (.node (o_58 P) .nil .nil) (.node (o_7 P) .nil .nil)) (.node (o_45 P) (.node (o_73 P) .nil .nil) (.node (o_91 P) .nil .nil)))) (.node (o_13 P) (.node (o_20 P) (.node (o_33 P) (.node (o_54 P) .nil .nil) (.node (o_7 P) .nil .nil)) (.node (o_7 P) (.node (o_8 P) .nil .nil) (.node (o_89 P) .nil .nil))) (.node (o_70 P) (.node (o_38 P) (.node (o_62 P) .nil .nil) (.node (o_84 P) .nil .nil)) (.node (o_8 P) (.node (o_75 P) .nil .nil) (.node (o_94 P) .nil .nil)))))) (.node (o_2 P) (.node (o_4 P) (.node (o_8 P) (.node (o_15 P) (.node (o_7 P) (.node (o_49 P) .nil .nil) (.node (o_77 P) .nil .nil)) (.node (o_39 P) (.node (o_66 P) .nil .nil) (.node (o_7 P) .nil .nil))) (.node (o_23 P) (.node (o_8 P) (.node (o_57 P) .nil .nil) (.node (o_82 P) .nil .nil)) (.node (o_7 P) (.node (o_72 P) .nil .nil) (.node (o_8 P) .nil .nil)))) (.node (o_12 P) (.node (o_19 P) (.node (o_32 P) (.node (o_53 P) .nil .nil) (.node (o_79 P) .nil .nil)) (.node (o_42 P) (.node (o_7 P) .nil .nil) (.node (o_88 P) .nil .nil))) (.node (o_7 P) (.node (o_37 P) (.node (o_61 P) .nil .nil) (.node (o_7 P) .nil .nil)) (.node (o_7 P) (.node (o_8 P) .nil .nil) (.node (o_93 P) .nil .nil))))) (.node (o_6 P) (.node (o_10 P) (.node (o_17 P) (.node (o_31 P) (.node (o_51 P) .nil .nil) (.node (o_7 P) .nil .nil)) (.node (o_40 P) (.node (o_7 P) .nil .nil) (.node (o_87 P) .nil .nil))) (.node (o_25 P) (.node (o_7 P) (.node (o_60 P) .nil .nil) (.node (o_8 P) .nil .nil)) (.node (o_46 P) (.node (o_74 P) .nil .nil) (.node (o_7 P) .nil .nil)))) (.node (o_14 P) (.node (o_21 P) (.node (o_34 P) (.node (o_55 P) .nil .nil) (.node (o_80 P) .nil .nil)) (.node (o_43 P) (.node (o_71 P) .nil .nil) (.node (o_90 P) .nil .nil))) (.node (o_27 P) (.node (o_7 P) (.node (o_63 P) .nil .nil) (.node (o_85 P) .nil .nil)) (.node (o_48 P) (.node (o_7 P) .nil .nil) .nil))))))
noncomputable abbrev sts4 : List Stmt := (bd9.drop 8).take 27
abbrev Pc4 (w : World) : Prop := ∀ os : OsState, segRunT treeTable pw w 28 (.some (.ref 6)) 1 376 (sT tr4 84 525 w os) (piecesOf sts4 env9 cd9 ⟨28, 0, 28, 18⟩ fr9) = some (Flow.next, sT tr5 126 621 w os, cd9, ⟨125, 0, 125, 7⟩)
theorem pc4 (w : World) : Pc4 w := by intro os; kernel_rfl
noncomputable def o_95 (P : Params) : Obj := ⟨.type "dict", .none, .dict (List.toArray [⟨PyData.keyHash P (.ofString "__name__"), .str (.ofString "__name__") 165, .str (.ofString "law_in0217_01") 659⟩, ⟨PyData.keyHash P (.ofString "__doc__"), .str (.ofString "__doc__") 166, .none⟩, ⟨PyData.keyHash P (.ofString "__package__"), .str (.ofString "__package__") 167, .none⟩, ⟨PyData.keyHash P (.ofString "__loader__"), .str (.ofString "__loader__") 168, .builtin "__main__.__loader__#opaque"⟩, ⟨PyData.keyHash P (.ofString "__spec__"), .str (.ofString "__spec__") 169, .none⟩, ⟨PyData.keyHash P (.ofString "__annotations__"), .str (.ofString "__annotations__") 170, .ref 6⟩, ⟨PyData.keyHash P (.ofString "__builtins__"), .str (.ofString "__builtins__") 171, .ref 4⟩, ⟨PyData.keyHash P (.ofString "__file__"), .str (.ofString "__file__") 173, .str (.ofString "/claim/cut.py") 172⟩, ⟨PyData.keyHash P (.ofString "__cached__"), .str (.ofString "__cached__") 174, .none⟩, ⟨PyData.keyHash P (.ofString "_sre"), .str (.ofString "_sre") 275, .ref 12⟩, ⟨PyData.keyHash P (.ofString "read_uint1"), .str (.ofString "read_uint1") 291, .ref 38⟩, ⟨PyData.keyHash P (.ofString "read_string1"), .str (.ofString "read_string1") 300, .ref 45⟩, ⟨PyData.keyHash P (.ofString "read_bytes1"), .str (.ofString "read_bytes1") 309, .ref 52⟩, ⟨PyData.keyHash P (.ofString "_Example"), .str (.ofString "_Example") 338, .ref 69⟩, ⟨PyData.keyHash P (.ofString "_twin_re_1"), .str (.ofString "_twin_re_1") 376, .ref 78⟩, ⟨PyData.keyHash P (.ofString "_special_chars_map"), .str (.ofString "_special_chars_map") 524, .ref 80⟩, ⟨PyData.keyHash P (.ofString "escape"), .str (.ofString "escape") 531, .ref 90⟩, ⟨PyData.keyHash P (.ofString "_translate"), .str (.ofString "_translate") 552, .ref 97⟩, ⟨PyData.keyHash P (.ofString "S_IFMT"), .str (.ofString "S_IFMT") 561, .ref 104⟩, ⟨PyData.keyHash P (.ofString "S_IFDIR"), .str (.ofString "S_IFDIR") 563, .int 16384 562⟩, ⟨PyData.keyHash P (.ofString "S_IFCHR"), .str (.ofString "S_IFCHR") 565, .int 8192 564⟩, ⟨PyData.keyHash P (.ofString "S_IFBLK"), .str (.ofString "S_IFBLK") 567, .int 24576 566⟩, ⟨PyData.keyHash P (.ofString "S_IFREG"), .str (.ofString "S_IFREG") 569, .int 32768 568⟩, ⟨PyData.keyHash P (.ofString "S_IFIFO"), .str (.ofString "S_IFIFO") 571, .int 4096 570⟩, ⟨PyData.keyHash P (.ofString "S_IFLNK"), .str (.ofString "S_IFLNK") 573, .int 40960 572⟩, ⟨PyData.keyHash P (.ofString "S_IFSOCK"), .str (.ofString "S_IFSOCK") 575, .int 49152 574⟩, ⟨PyData.keyHash P (.ofString "S_ISDIR"), .str (.ofString "S_ISDIR") 582, .ref 111⟩, ⟨PyData.keyHash P (.ofString "S_ISREG"), .str (.ofString "S_ISREG") 589, .ref 118⟩, ⟨PyData.keyHash P (.ofString "S_ISLNK"), .str (.ofString "S_ISLNK") 596, .ref 125⟩, ⟨PyData.keyHash P (.ofString "S_ISUID"), .str (.ofString "S_ISUID") 598, .int 2048 597⟩, ⟨PyData.keyHash P (.ofString "S_ISGID"), .str (.ofString "S_ISGID") 600, .int 1024 599⟩, ⟨PyData.keyHash P (.ofString "S_ISVTX"), .str (.ofString "S_ISVTX") 602, .int 512 601⟩, ⟨PyData.keyHash P (.ofString "S_IRUSR"), .str (.ofString "S_IRUSR") 604, .int 256 603⟩, ⟨PyData.keyHash P (.ofString "S_IWUSR"), .str (.ofString "S_IWUSR") 606, .int 128 605⟩, ⟨PyData.keyHash P (.ofString "S_IXUSR"), .str (.ofString "S_IXUSR") 608, .int 64 607⟩, ⟨PyData.keyHash P (.ofString "S_IRGRP"), .str (.ofString "S_IRGRP") 610, .int 32 609⟩, ⟨PyData.keyHash P (.ofString "S_IWGRP"), .str (.ofString "S_IWGRP") 612, .int 16 611⟩, ⟨PyData.keyHash P (.ofString "S_IXGRP"), .str (.ofString "S_IXGRP") 614, .int 8 613⟩, ⟨PyData.keyHash P (.ofString "S_IROTH"), .str (.ofString "S_IROTH") 616, .int 4 615⟩, ⟨PyData.keyHash P (.ofString "S_IWOTH"), .str (.ofString "S_IWOTH") 618, .int 2 617⟩, ⟨PyData.keyHash P (.ofString "S_IXOTH"), .str (.ofString "S_IXOTH") 620, .int 1 619⟩, ⟨PyData.keyHash P (.ofString "_filemode_table"), .str (.ofString "_filemode_table") 646, .ref 158⟩, ⟨PyData.keyHash P (.ofString "filemode"), .str (.ofString "filemode") 658, .ref 165⟩, ⟨PyData.keyHash P (.ofString "_law_stream"), .str (.ofString "_law_stream") 671, .ref 172⟩, ⟨PyData.keyHash P (.ofString "_law_row"), .str (.ofString "_law_row") 682, .ref 179⟩, ⟨PyData.keyHash P (.ofString "_law_fits"), .str (.ofString "_law_fits") 690, .ref 186⟩, ⟨PyData.keyHash P (.ofString "_law_takes"), .str (.ofString "_law_takes") 700, .ref 193⟩, ⟨PyData.keyHash P (.ofString "_law_thing"), .str (.ofString "_law_thing") 708, .ref 200⟩]) 48, List.toArray []⟩
noncomputable def o_96 (P : Params) : Obj := ⟨.none, .none, .fields (List.toArray [.int 3 0, .int 0 0, .ref 37, .int 8 0, .int 0 0, .ref 44, .int 15 0, .int 0 0, .ref 51, .int 22 0, .int 0 0, .ref 58, .int 29 0, .int 0 0, .ref 89, .int 36 0, .int 0 0, .ref 96, .int 99 0, .int 0 0, .ref 103, .int 108 0, .int 0 0, .ref 110, .int 110 0, .int 0 0, .ref 117, .int 112 0, .int 0 0, .ref 124, .int 127 0, .int 0 0, .ref 164, .int 145 0, .int 0 0, .ref 171, .int 155 0, .int 0 0, .ref 178, .int 162 0, .int 0 0, .ref 185, .int 170 0, .int 0 0, .ref 192, .int 180 0, .int 0 0, .ref 199]), List.toArray []⟩
noncomputable def o_97 (P : Params) : Obj := kOf P 126
noncomputable def o_98 (P : Params) : Obj := kOf P 127
noncomputable def o_99 (P : Params) : Obj := kOf P 128
noncomputable def o_100 (P : Params) : Obj := kOf P 129
noncomputable def o_101 (P : Params) : Obj := kOf P 130
noncomputable def o_102 (P : Params) : Obj := kOf P 131
noncomputable def o_103 (P : Params) : Obj := kOf P 132
noncomputable def o_104 (P : Params) : Obj := kOf P 133
noncomputable def o_105 (P : Params) : Obj := kOf P 134
noncomputable def o_106 (P : Params) : Obj := kOf P 135
noncomputable def o_107 (P : Params) : Obj := kOf P 136
noncomputable def o_108 (P : Params) : Obj := kOf P 137
noncomputable def o_109 (P : Params) : Obj := kOf P 138
noncomputable def o_110 (P : Params) : Obj := kOf P 139
noncomputable def o_111 (P : Params) : Obj := kOf P 140
noncomputable def o_112 (P : Params) : Obj := kOf P 141
noncomputable def o_113 (P : Params) : Obj := kOf P 142
noncomputable def o_114 (P : Params) : Obj := kOf P 143
noncomputable def o_115 (P : Params) : Obj := kOf P 144
noncomputable def o_116 (P : Params) : Obj := kOf P 145
noncomputable def o_117 (P : Params) : Obj := kOf P 146
noncomputable def o_118 (P : Params) : Obj := kOf P 147
noncomputable def o_119 (P : Params) : Obj := kOf P 148
noncomputable def o_120 (P : Params) : Obj := kOf P 149
noncomputable def o_121 (P : Params) : Obj := kOf P 150
noncomputable def o_122 (P : Params) : Obj := kOf P 151
noncomputable def o_123 (P : Params) : Obj := kOf P 152
noncomputable def o_124 (P : Params) : Obj := kOf P 153
noncomputable def o_125 (P : Params) : Obj := kOf P 154
noncomputable def o_126 (P : Params) : Obj := kOf P 155
noncomputable def o_127 (P : Params) : Obj := kOf P 156
noncomputable def o_128 (P : Params) : Obj := kOf P 157
noncomputable def o_129 (P : Params) : Obj := kOf P 158
noncomputable def o_130 (P : Params) : Obj := kOf P 161
noncomputable def o_131 (P : Params) : Obj := ⟨.none, .none, .func ⟨.ofString "filemode", .ofString "filemode", (fdOf P 165).params, (fdOf P 165).body, (fdOf P 165).scope, 0, [], .none, .none, .none, .none, .none, .none, .none, 0⟩, List.toArray []⟩
noncomputable def o_132 (P : Params) : Obj := kOf P 164
noncomputable def o_133 (P : Params) : Obj := kOf P 165
noncomputable def o_134 (P : Params) : Obj := kOf P 168
noncomputable def o_135 (P : Params) : Obj := kOf P 169
noncomputable def o_136 (P : Params) : Obj := ⟨.none, .none, .func ⟨.ofString "_law_stream", .ofString "_law_stream", (fdOf P 172).params, (fdOf P 172).body, (fdOf P 172).scope, 0, [], .none, .none, .none, .none, .none, .none, .none, 0⟩, List.toArray []⟩
noncomputable def o_137 (P : Params) : Obj := kOf P 171
noncomputable def o_138 (P : Params) : Obj := kOf P 172
noncomputable def o_139 (P : Params) : Obj := kOf P 175
noncomputable def o_140 (P : Params) : Obj := ⟨.none, .none, .func ⟨.ofString "_law_row", .ofString "_law_row", (fdOf P 179).params, (fdOf P 179).body, (fdOf P 179).scope, 0, [], .none, .none, .none, .none, .none, .none, .none, 0⟩, List.toArray []⟩
noncomputable def o_141 (P : Params) : Obj := kOf P 178
noncomputable def o_142 (P : Params) : Obj := kOf P 179
noncomputable def o_143 (P : Params) : Obj := kOf P 182
noncomputable def o_144 (P : Params) : Obj := ⟨.none, .none, .func ⟨.ofString "_law_fits", .ofString "_law_fits", (fdOf P 186).params, (fdOf P 186).body, (fdOf P 186).scope, 0, [], .none, .none, .none, .none, .none, .none, .none, 0⟩, List.toArray []⟩
noncomputable def o_145 (P : Params) : Obj := kOf P 185
noncomputable def o_146 (P : Params) : Obj := kOf P 186
noncomputable def o_147 (P : Params) : Obj := kOf P 189
noncomputable def o_148 (P : Params) : Obj := ⟨.none, .none, .func ⟨.ofString "_law_takes", .ofString "_law_takes", (fdOf P 193).params, (fdOf P 193).body, (fdOf P 193).scope, 0, [], .none, .none, .none, .none, .none, .none, .none, 0⟩, List.toArray []⟩
noncomputable def o_149 (P : Params) : Obj := kOf P 192
noncomputable def o_150 (P : Params) : Obj := kOf P 193
noncomputable def o_151 (P : Params) : Obj := kOf P 196
noncomputable def o_152 (P : Params) : Obj := ⟨.none, .none, .func ⟨.ofString "_law_thing", .ofString "_law_thing", (fdOf P 200).params, (fdOf P 200).body, (fdOf P 200).scope, 0, [], .none, .none, .none, .none, .none, .none, .none, 0⟩, List.toArray []⟩
noncomputable def o_153 (P : Params) : Obj := kOf P 199
noncomputable def o_154 (P : Params) : Obj := kOf P 200
noncomputable def tr6 (P : Params) : BT := (.node (o_0 P) (.node (o_1 P) (.node (o_95 P) (.node (o_7 P) (.node (o_7 P) (.node (o_28 P) (.node (o_7 P) (.node (o_98 P) .nil .nil) (.node (o_148 P) .nil .nil)) (.node (o_76 P) (.node (o_7 P) .nil .nil) .nil)) (.node (o_8 P) (.node (o_65 P) (.node (o_114 P) .nil .nil) .nil) (.node (o_86 P) (.node (o_139 P) .nil .nil) .nil))) (.node (o_22 P) (.node (o_7 P) (.node (o_56 P) (.node (o_106 P) .nil .nil) (.node (o_153 P) .nil .nil)) (.node (o_81 P) (.node (o_8 P) .nil .nil) .nil)) (.node (o_44 P) (.node (o_7 P) (.node (o_122 P) .nil .nil) .nil) (.node (o_7 P) (.node (o_7 P) .nil .nil) .nil)))) (.node (o_11 P) (.node (o_18 P) (.node (o_7 P) (.node (o_52 P) (.node (o_102 P) .nil .nil) (.node (o_8 P) .nil .nil)) (.node (o_8 P) (.node (o_131 P) .nil .nil) .nil)) (.node (o_41 P) (.node (o_68 P) (.node (o_118 P) .nil .nil) .nil) (.node (o_7 P) (.node (o_142 P) .nil .nil) .nil))) (.node (o_26 P) (.node (o_36 P) (.node (o_6 P) (.node (o_110 P) .nil .nil) .nil) (.node (o_83 P) (.node (o_137 P) .nil .nil) .nil)) (.node (o_47 P) (.node (o_7 P) (.node (o_126 P) .nil .nil) .nil) (.node (o_92 P) (.node (o_7 P) .nil .nil) .nil))))) (.node (o_5 P) (.node (o_9 P) (.node (o_16 P) (.node (o_8 P) (.node (o_50 P) (.node (o_100 P) .nil .nil) (.node (o_150 P) .nil .nil)) (.node (o_78 P) (.node (o_130 P) .nil .nil) .nil)) (.node (o_7 P) (.node (o_67 P) (.node (o_116 P) .nil .nil) .nil) (.node (o_8 P) (.node (o_140 P) .nil .nil) .nil))) (.node (o_24 P) (.node (o_35 P) (.node (o_58 P) (.node (o_108 P) .nil .nil) .nil) (.node (o_7 P) (.node (o_135 P) .nil .nil) .nil)) (.node (o_45 P) (.node (o_73 P) (.node (o_124 P) .nil .nil) .nil) (.node (o_91 P) (.node (o_145 P) .nil .nil) .nil)))) (.node (o_13 P) (.node (o_20 P) (.node (o_33 P) (.node (o_54 P) (.node (o_104 P) .nil .nil) (.node (o_7 P) .nil .nil)) (.node (o_7 P) (.node (o_133 P) .nil .nil) .nil)) (.node (o_7 P) (.node (o_8 P) (.node (o_120 P) .nil .nil) .nil) (.node (o_89 P) (.node (o_8 P) .nil .nil) .nil))) (.node (o_96 P) (.node (o_38 P) (.node (o_62 P) (.node (o_112 P) .nil .nil) .nil) (.node (o_84 P) (.node (o_7 P) .nil .nil) .nil)) (.node (o_8 P) (.node (o_75 P) (.node (o_128 P) .nil .nil) .nil) (.node (o_94 P) (.node (o_147 P) .nil .nil) .nil)))))) (.node (o_2 P) (.node (o_4 P) (.node (o_8 P) (.node (o_15 P) (.node (o_7 P) (.node (o_49 P) (.node (o_99 P) .nil .nil) (.node (o_149 P) .nil .nil)) (.node (o_77 P) (.node (o_8 P) .nil .nil) .nil)) (.node (o_39 P) (.node (o_66 P) (.node (o_115 P) .nil .nil) .nil) (.node (o_7 P) (.node (o_7 P) .nil .nil) .nil))) (.node (o_23 P) (.node (o_8 P) (.node (o_57 P) (.node (o_107 P) .nil .nil) (.node (o_154 P) .nil .nil)) (.node (o_82 P) (.node (o_134 P) .nil .nil) .nil)) (.node (o_7 P) (.node (o_72 P) (.node (o_123 P) .nil .nil) .nil) (.node (o_8 P) (.node (o_144 P) .nil .nil) .nil)))) (.node (o_12 P) (.node (o_19 P) (.node (o_32 P) (.node (o_53 P) (.node (o_103 P) .nil .nil) (.node (o_151 P) .nil .nil)) (.node (o_79 P) (.node (o_132 P) .nil .nil) .nil)) (.node (o_42 P) (.node (o_7 P) (.node (o_119 P) .nil .nil) .nil) (.node (o_88 P) (.node (o_7 P) .nil .nil) .nil))) (.node (o_7 P) (.node (o_37 P) (.node (o_61 P) (.node (o_111 P) .nil .nil) .nil) (.node (o_7 P) (.node (o_138 P) .nil .nil) .nil)) (.node (o_7 P) (.node (o_8 P) (.node (o_127 P) .nil .nil) .nil) (.node (o_93 P) (.node (o_8 P) .nil .nil) .nil))))) (.node (o_6 P) (.node (o_10 P) (.node (o_17 P) (.node (o_31 P) (.node (o_51 P) (.node (o_101 P) .nil .nil) (.node (o_7 P) .nil .nil)) (.node (o_7 P) (.node (o_7 P) .nil .nil) .nil)) (.node (o_40 P) (.node (o_7 P) (.node (o_117 P) .nil .nil) .nil) (.node (o_87 P) (.node (o_141 P) .nil .nil) .nil))) (.node (o_25 P) (.node (o_7 P) (.node (o_60 P) (.node (o_109 P) .nil .nil) .nil) (.node (o_8 P) (.node (o_136 P) .nil .nil) .nil)) (.node (o_46 P) (.node (o_74 P) (.node (o_125 P) .nil .nil) .nil) (.node (o_7 P) (.node (o_146 P) .nil .nil) .nil)))) (.node (o_14 P) (.node (o_21 P) (.node (o_34 P) (.node (o_55 P) (.node (o_105 P) .nil .nil) (.node (o_152 P) .nil .nil)) (.node (o_80 P) (.node (o_7 P) .nil .nil) .nil)) (.node (o_43 P) (.node (o_71 P) (.node (o_121 P) .nil .nil) .nil) (.node (o_90 P) (.node (o_143 P) .nil .nil) .nil))) (.node (o_27 P) (.node (o_7 P) (.node (o_63 P) (.node (o_113 P) .nil .nil) .nil) (.node (o_85 P) (.node (o_8 P) .nil .nil) .nil)) (.node (o_48 P) (.node (o_7 P) (.node (o_129 P) .nil .nil) .nil) (.node (o_97 P) (.node (o_7 P) .nil .nil) .nil)))))))
noncomputable abbrev sts5 : List Stmt := (bd9.drop 35).take 8
abbrev Pc5 (w : World) : Prop := ∀ os : OsState, segRunT treeTable pw w 28 (.some (.ref 6)) 1 363 (sT tr5 126 621 w os) (piecesOf sts5 env9 cd9 ⟨125, 0, 125, 7⟩ fr9) = some (Flow.next, sT tr6 201 709 w os, cd9, ⟨180, 0, 187, 15⟩)
theorem pc5 (w : World) : Pc5 w := by intro os; kernel_rfl
noncomputable def o_155 (P : Params) : Obj := kOf P 3
noncomputable def o_156 (P : Params) : Obj := ⟨.none, .none, .fields (List.toArray [.int 3 0, .int 0 0, .ref 37, .int 8 0, .int 0 0, .ref 44, .int 15 0, .int 0 0, .ref 51, .int 22 0, .int 0 0, .ref 58, .int 29 0, .int 0 0, .ref 89, .int 36 0, .int 0 0, .ref 96, .int 99 0, .int 0 0, .ref 103, .int 108 0, .int 0 0, .ref 110, .int 110 0, .int 0 0, .ref 117, .int 112 0, .int 0 0, .ref 124, .int 127 0, .int 0 0, .ref 164, .int 145 0, .int 0 0, .ref 171, .int 155 0, .int 0 0, .ref 178, .int 162 0, .int 0 0, .ref 185, .int 170 0, .int 0 0, .ref 192, .int 180 0, .int 0 0, .ref 199, .int 188 0, .int 0 0, .ref 206, .int 199 0, .int 0 0, .ref 211, .int 210 0, .int 0 0, .ref 216]), List.toArray []⟩
noncomputable def o_157 (P : Params) : Obj := kOf P 203
noncomputable def o_158 (P : Params) : Obj := ⟨.none, .none, .func ⟨.ofString "_law_walk", .ofString "_law_walk", (fdOf P 207).params, (fdOf P 207).body, (fdOf P 207).scope, 0, [], .none, .none, .none, .none, .none, .none, .none, 0⟩, List.toArray []⟩
noncomputable def o_159 (P : Params) : Obj := kOf P 206
noncomputable def o_160 (P : Params) : Obj := kOf P 207
noncomputable def o_161 (P : Params) : Obj := ⟨.none, .none, .func ⟨.ofString "_law_list", .ofString "_law_list", (fdOf P 212).params, (fdOf P 212).body, (fdOf P 212).scope, 0, [], .none, .none, .none, .none, .none, .none, .none, 0⟩, List.toArray []⟩
noncomputable def o_162 (P : Params) : Obj := kOf P 211
noncomputable def o_163 (P : Params) : Obj := kOf P 212
noncomputable def o_164 (P : Params) : Obj := ⟨.none, .none, .func ⟨.ofString "law", .ofString "law", (fdOf P 217).params, (fdOf P 217).body, (fdOf P 217).scope, 0, [], .none, .none, .none, .none, .none, .none, .none, 0⟩, List.toArray []⟩
noncomputable def o_165 (P : Params) : Obj := kOf P 216
noncomputable def o_166 (P : Params) : Obj := kOf P 217
noncomputable def tr7 (P : Params) : BT := (.node (o_0 P) (.node (o_1 P) (.node (o_155 P) (.node (o_7 P) (.node (o_7 P) (.node (o_28 P) (.node (o_7 P) (.node (o_98 P) .nil .nil) (.node (o_148 P) .nil .nil)) (.node (o_76 P) (.node (o_7 P) .nil .nil) .nil)) (.node (o_8 P) (.node (o_65 P) (.node (o_114 P) .nil .nil) (.node (o_160 P) .nil .nil)) (.node (o_86 P) (.node (o_139 P) .nil .nil) .nil))) (.node (o_22 P) (.node (o_7 P) (.node (o_56 P) (.node (o_106 P) .nil .nil) (.node (o_153 P) .nil .nil)) (.node (o_81 P) (.node (o_8 P) .nil .nil) .nil)) (.node (o_44 P) (.node (o_7 P) (.node (o_122 P) .nil .nil) (.node (o_164 P) .nil .nil)) (.node (o_7 P) (.node (o_7 P) .nil .nil) .nil)))) (.node (o_11 P) (.node (o_18 P) (.node (o_7 P) (.node (o_52 P) (.node (o_102 P) .nil .nil) (.node (o_8 P) .nil .nil)) (.node (o_8 P) (.node (o_131 P) .nil .nil) .nil)) (.node (o_41 P) (.node (o_68 P) (.node (o_118 P) .nil .nil) (.node (o_162 P) .nil .nil)) (.node (o_7 P) (.node (o_142 P) .nil .nil) .nil))) (.node (o_26 P) (.node (o_36 P) (.node (o_6 P) (.node (o_110 P) .nil .nil) (.node (o_157 P) .nil .nil)) (.node (o_83 P) (.node (o_137 P) .nil .nil) .nil)) (.node (o_47 P) (.node (o_7 P) (.node (o_126 P) .nil .nil) .nil) (.node (o_92 P) (.node (o_7 P) .nil .nil) .nil))))) (.node (o_5 P) (.node (o_9 P) (.node (o_16 P) (.node (o_8 P) (.node (o_50 P) (.node (o_100 P) .nil .nil) (.node (o_150 P) .nil .nil)) (.node (o_78 P) (.node (o_130 P) .nil .nil) .nil)) (.node (o_7 P) (.node (o_67 P) (.node (o_116 P) .nil .nil) (.node (o_8 P) .nil .nil)) (.node (o_8 P) (.node (o_140 P) .nil .nil) .nil))) (.node (o_24 P) (.node (o_35 P) (.node (o_58 P) (.node (o_108 P) .nil .nil) (.node (o_7 P) .nil .nil)) (.node (o_7 P) (.node (o_135 P) .nil .nil) .nil)) (.node (o_45 P) (.node (o_73 P) (.node (o_124 P) .nil .nil) (.node (o_166 P) .nil .nil)) (.node (o_91 P) (.node (o_145 P) .nil .nil) .nil)))) (.node (o_13 P) (.node (o_20 P) (.node (o_33 P) (.node (o_54 P) (.node (o_104 P) .nil .nil) (.node (o_7 P) .nil .nil)) (.node (o_7 P) (.node (o_133 P) .nil .nil) .nil)) (.node (o_7 P) (.node (o_8 P) (.node (o_120 P) .nil .nil) (.node (o_7 P) .nil .nil)) (.node (o_89 P) (.node (o_8 P) .nil .nil) .nil))) (.node (o_156 P) (.node (o_38 P) (.node (o_62 P) (.node (o_112 P) .nil .nil) (.node (o_158 P) .nil .nil)) (.node (o_84 P) (.node (o_7 P) .nil .nil) .nil)) (.node (o_8 P) (.node (o_75 P) (.node (o_128 P) .nil .nil) .nil) (.node (o_94 P) (.node (o_147 P) .nil .nil) .nil)))))) (.node (o_2 P) (.node (o_4 P) (.node (o_8 P) (.node (o_15 P) (.node (o_7 P) (.node (o_49 P) (.node (o_99 P) .nil .nil) (.node (o_149 P) .nil .nil)) (.node (o_77 P) (.node (o_8 P) .nil .nil) .nil)) (.node (o_39 P) (.node (o_66 P) (.node (o_115 P) .nil .nil) (.node (o_7 P) .nil .nil)) (.node (o_7 P) (.node (o_7 P) .nil .nil) .nil))) (.node (o_23 P) (.node (o_8 P) (.node (o_57 P) (.node (o_107 P) .nil .nil) (.node (o_154 P) .nil .nil)) (.node (o_82 P) (.node (o_134 P) .nil .nil) .nil)) (.node (o_7 P) (.node (o_72 P) (.node (o_123 P) .nil .nil) (.node (o_165 P) .nil .nil)) (.node (o_8 P) (.node (o_144 P) .nil .nil) .nil)))) (.node (o_12 P) (.node (o_19 P) (.node (o_32 P) (.node (o_53 P) (.node (o_103 P) .nil .nil) (.node (o_151 P) .nil .nil)) (.node (o_79 P) (.node (o_132 P) .nil .nil) .nil)) (.node (o_42 P) (.node (o_7 P) (.node (o_119 P) .nil .nil) (.node (o_163 P) .nil .nil)) (.node (o_88 P) (.node (o_7 P) .nil .nil) .nil))) (.node (o_7 P) (.node (o_37 P) (.node (o_61 P) (.node (o_111 P) .nil .nil) (.node (o_7 P) .nil .nil)) (.node (o_7 P) (.node (o_138 P) .nil .nil) .nil)) (.node (o_7 P) (.node (o_8 P) (.node (o_127 P) .nil .nil) .nil) (.node (o_93 P) (.node (o_8 P) .nil .nil) .nil))))) (.node (o_6 P) (.node (o_10 P) (.node (o_17 P) (.node (o_31 P) (.node (o_51 P) (.node (o_101 P) .nil .nil) (.node (o_7 P) .nil .nil)) (.node (o_7 P) (.node (o_7 P) .nil .nil) .nil)) (.node (o_40 P) (.node (o_7 P) (.node (o_117 P) .nil .nil) (.node (o_161 P) .nil .nil)) (.node (o_87 P) (.node (o_141 P) .nil .nil) .nil))) (.node (o_25 P) (.node (o_7 P) (.node (o_60 P) (.node (o_109 P) .nil .nil) (.node (o_8 P) .nil .nil)) (.node (o_8 P) (.node (o_136 P) .nil .nil) .nil)) (.node (o_46 P) (.node (o_74 P) (.node (o_125 P) .nil .nil) .nil) (.node (o_7 P) (.node (o_146 P) .nil .nil) .nil)))) (.node (o_14 P) (.node (o_21 P) (.node (o_34 P) (.node (o_55 P) (.node (o_105 P) .nil .nil) (.node (o_152 P) .nil .nil)) (.node (o_80 P) (.node (o_7 P) .nil .nil) .nil)) (.node (o_43 P) (.node (o_71 P) (.node (o_121 P) .nil .nil) (.node (o_8 P) .nil .nil)) (.node (o_90 P) (.node (o_143 P) .nil .nil) .nil))) (.node (o_27 P) (.node (o_7 P) (.node (o_63 P) (.node (o_113 P) .nil .nil) (.node (o_159 P) .nil .nil)) (.node (o_85 P) (.node (o_8 P) .nil .nil) .nil)) (.node (o_48 P) (.node (o_7 P) (.node (o_129 P) .nil .nil) .nil) (.node (o_97 P) (.node (o_7 P) .nil .nil) .nil)))))))
noncomputable abbrev sts6 : List Stmt := (bd9.drop 43).take 3
abbrev Pc6 (w : World) : Prop := ∀ os : OsState, segRunT treeTable pw w 28 (.some (.ref 6)) 1 93 (sT tr6 201 709 w os) (piecesOf sts6 env9 cd9 ⟨180, 0, 187, 15⟩ fr9) = some (Flow.next, sT tr7 218 739 w os, cd9, ⟨210, 0, 245, 109⟩)
theorem pc6 (w : World) : Pc6 w := by intro os; kernel_rfl
noncomputable def hp9 (P : Params) : Heap := ⟨⟨[o_0 P, o_1 P, o_2 P, o_155 P, o_4 P, o_5 P, o_6 P, o_7 P, o_8 P, o_9 P, o_10 P, o_11 P, o_12 P, o_13 P, o_14 P, o_7 P, o_15 P, o_16 P, o_17 P, o_18 P, o_19 P, o_20 P, o_21 P, o_22 P, o_23 P, o_24 P, o_25 P, o_26 P, o_7 P, o_156 P, o_27 P, o_28 P, o_7 P, o_8 P, o_31 P, o_7 P, o_32 P, o_33 P, o_34 P, o_7 P, o_8 P, o_35 P, o_7 P, o_36 P, o_37 P, o_38 P, o_7 P, o_8 P, o_39 P, o_7 P, o_40 P, o_41 P, o_42 P, o_7 P, o_43 P, o_44 P, o_7 P, o_45 P, o_46 P, o_47 P, o_7 P, o_8 P, o_48 P, o_7 P, o_49 P, o_50 P, o_51 P, o_52 P, o_53 P, o_54 P, o_55 P, o_56 P, o_57 P, o_58 P, o_60 P, o_6 P, o_61 P, o_62 P, o_63 P, o_65 P, o_66 P, o_67 P, o_7 P, o_68 P, o_7 P, o_8 P, o_71 P, o_7 P, o_72 P, o_73 P, o_74 P, o_7 P, o_8 P, o_75 P, o_7 P, o_76 P, o_77 P, o_78 P, o_7 P, o_8 P, o_79 P, o_7 P, o_80 P, o_81 P, o_82 P, o_7 P, o_8 P, o_83 P, o_7 P, o_84 P, o_85 P, o_86 P, o_7 P, o_8 P, o_87 P, o_7 P, o_88 P, o_89 P, o_90 P, o_7 P, o_8 P, o_91 P, o_7 P, o_92 P, o_93 P, o_94 P, o_97 P, o_98 P, o_99 P, o_100 P, o_101 P, o_102 P, o_103 P, o_104 P, o_105 P, o_106 P, o_107 P, o_108 P, o_109 P, o_110 P, o_111 P, o_112 P, o_113 P, o_114 P, o_115 P, o_116 P, o_117 P, o_118 P, o_119 P, o_120 P, o_121 P, o_122 P, o_123 P, o_124 P, o_125 P, o_126 P, o_127 P, o_128 P, o_129 P, o_7 P, o_8 P, o_130 P, o_7 P, o_131 P, o_132 P, o_133 P, o_7 P, o_8 P, o_134 P, o_135 P, o_136 P, o_137 P, o_138 P, o_7 P, o_8 P, o_139 P, o_7 P, o_140 P, o_141 P, o_142 P, o_7 P, o_8 P, o_143 P, o_7 P, o_144 P, o_145 P, o_146 P, o_7 P, o_8 P, o_147 P, o_7 P, o_148 P, o_149 P, o_150 P, o_7 P, o_8 P, o_151 P, o_7 P, o_152 P, o_153 P, o_154 P, o_7 P, o_8 P, o_157 P, o_7 P, o_158 P, o_159 P, o_160 P, o_7 P, o_8 P, o_161 P, o_162 P, o_163 P, o_7 P, o_8 P, o_164 P, o_165 P, o_166 P]⟩, ⟨[], [], [], 0, [], [], .false, List.toArray [], [], 0, .false, .false, .false, 0, [2000, 10, 10], .false, 0, .true, [], [], 0, .false⟩⟩
theorem run9 (w : World) (os : OsState) : topRun treeTable pw w 28 (.some (.ref 6)) 2 (sT tr7 218 739 w os).abs (⟨doneF .next, cd9, ⟨210, 0, 245, 109⟩, fr9⟩ : Thread) = some (sH hp9 739 w os) := by kernel_rfl
theorem tn6 (w : World) (os : OsState) : topRun treeTable pw w 28 (.some (.ref 6)) (93 + 2) ((sT tr6 201 709 w os)).abs (restOf (sts6 ++ []) env9 cd9 ⟨180, 0, 187, 15⟩ fr9) = some (sH hp9 739 w os) :=
  piece_app (n := 93) (N := 2) (l := sts6) (rest := []) (segRun_of (pc6 w os)) (piece_nil (run9 w os))
theorem tn5 (w : World) (os : OsState) : topRun treeTable pw w 28 (.some (.ref 6)) (363 + (93 + 2)) ((sT tr5 126 621 w os)).abs (restOf (sts5 ++ (sts6 ++ [])) env9 cd9 ⟨125, 0, 125, 7⟩ fr9) = some (sH hp9 739 w os) :=
  piece_app (n := 363) (N := (93 + 2)) (l := sts5) (rest := (sts6 ++ [])) (segRun_of (pc5 w os)) (tn6 w os)
theorem tn4 (w : World) (os : OsState) : topRun treeTable pw w 28 (.some (.ref 6)) (376 + (363 + (93 + 2))) ((sT tr4 84 525 w os)).abs (restOf (sts4 ++ (sts5 ++ (sts6 ++ []))) env9 cd9 ⟨28, 0, 28, 18⟩ fr9) = some (sH hp9 739 w os) :=
  piece_app (n := 376) (N := (363 + (93 + 2))) (l := sts4) (rest := (sts5 ++ (sts6 ++ []))) (segRun_of (pc4 w os)) (tn5 w os)
theorem tn3 (w : World) (os : OsState) : topRun treeTable pw w 28 (.some (.ref 6)) (1253 + (376 + (363 + (93 + 2)))) ((sT tr3 79 379 w os)).abs (restOf (sts3 ++ (sts4 ++ (sts5 ++ (sts6 ++ [])))) env9 cd9 ⟨27, 0, 27, 8⟩ fr9) = some (sH hp9 739 w os) :=
  piece_app (n := 1253) (N := (376 + (363 + (93 + 2)))) (l := sts3) (rest := (sts4 ++ (sts5 ++ (sts6 ++ [])))) (segRun_of (pc3 w os)) (tn4 w os)
theorem tn2 (w : World) (os : OsState) : topRun treeTable pw w 28 (.some (.ref 6)) (91 + (1253 + (376 + (363 + (93 + 2))))) ((sT tr2 74 339 w os)).abs (restOf (sts2 ++ (sts3 ++ (sts4 ++ (sts5 ++ (sts6 ++ []))))) env9 cd9 ⟨22, 0, 25, 26⟩ fr9) = some (sH hp9 739 w os) :=
  piece_app (n := 91) (N := (1253 + (376 + (363 + (93 + 2))))) (l := sts2) (rest := (sts3 ++ (sts4 ++ (sts5 ++ (sts6 ++ []))))) (segRun_of (pc2 w os)) (tn3 w os)
theorem tn1 (w : World) (os : OsState) : topRun treeTable pw w 28 (.some (.ref 6)) (324 + (91 + (1253 + (376 + (363 + (93 + 2)))))) ((sT tr1 32 282 w os)).abs (restOf (sts1 ++ (sts2 ++ (sts3 ++ (sts4 ++ (sts5 ++ (sts6 ++ [])))))) env9 cd9 ⟨0, 0, 0, 0⟩ fr9) = some (sH hp9 739 w os) :=
  piece_app (n := 324) (N := (91 + (1253 + (376 + (363 + (93 + 2)))))) (l := sts1) (rest := (sts2 ++ (sts3 ++ (sts4 ++ (sts5 ++ (sts6 ++ [])))))) (segRun_of (pc1 w os)) (tn2 w os)
theorem whole9 : (sts1 ++ (sts2 ++ (sts3 ++ (sts4 ++ (sts5 ++ (sts6 ++ [])))))) = bd9 := by kernel_rfl
theorem tn0 (w : World) (os : OsState) : topRun treeTable pw w 28 (.some (.ref 6)) (324 + (91 + (1253 + (376 + (363 + (93 + 2)))))) (sT tr1 32 282 w os).abs (restOf bd9 env9 cd9 ⟨0, 0, 0, 0⟩ fr9) = some (sH hp9 739 w os) :=
  Eq.subst (motive := fun l => topRun treeTable pw w 28 (.some (.ref 6)) (324 + (91 + (1253 + (376 + (363 + (93 + 2)))))) (sT tr1 32 282 w os).abs (restOf l env9 cd9 ⟨0, 0, 0, 0⟩ fr9) = some (sH hp9 739 w os)) whole9 (tn1 w os)
theorem tnb (w : World) (os : OsState) : topRun treeTable pw w 28 (.some (.ref 6)) (1 + (324 + (91 + (1253 + (376 + (363 + (93 + 2))))))) (sH hp1 282 w os) (⟨denote treeTable cd9, cd9, ⟨0, 0, 0, 0⟩, fr9⟩ : Thread) = some (sH hp9 739 w os) := piece_block (n := 1) (N := (324 + (91 + (1253 + (376 + (363 + (93 + 2))))))) (run1 w os) (tn0 w os)
noncomputable abbrev MM9 : Nat := 12 + (1 + (324 + (91 + (1253 + (376 + (363 + (93 + 2)))))))
theorem run (w : World) (os : OsState) : topRun treeTable pw w 28 (.some (.ref 6)) MM9 (sH hp0 276 w os) (topStub pw) = some (sH hp9 739 w os) := go_top (n := 12) (N := 1 + (324 + (91 + (1253 + (376 + (363 + (93 + 2))))))) (run0 w os) (tnb w os)
theorem opens (w : World) : (fencedOpening treeTable pw w 5114).map (fun s => (s.heap, s.gens, s.drawn, s.toks)) = some (hp0 w.params, ⟨[]⟩, ⟨0, 0, 0, 0⟩, 276) := by kernel_rfl
theorem size9 (w : World) : ((hp0 w.params).isNs mainGlobals && ((⟨[]⟩ : Array GenState)).size == 0, (hp0 w.params).objs.size, (hp0 w.params).nsMap mainGlobals "__annotations__") = (true, 28, (.some (.ref 6))) := by kernel_rfl
noncomputable abbrev NN9 : Nat := 5114
noncomputable abbrev kk9 : Nat := 739
noncomputable abbrev gg9 : Array GenState := ⟨[]⟩
noncomputable abbrev dd9 : Drawn := ⟨0, 0, 0, 0⟩
noncomputable abbrev tk9 : Nat := 276
noncomputable abbrev nn9 : Nat := 28
noncomputable abbrev an9 : Option Value := (.some (.ref 6))
noncomputable abbrev rr9 : RowW := PySem.Challenge.rw_in0217_01.row.toRowW
noncomputable abbrev Xt9 : Shared → Bool := fun s => xlAt view_39 lv9 s && recOk (RowW.records rr9) s
noncomputable abbrev H9 : Hook := kmHook heap_39 as9 (fun _ => by kernel_rfl) [167, 92]
noncomputable abbrev s9 (w : World) (os : OsState) : Shared := sH hp9 kk9 w os
theorem look1 (w : World) : (fun os => staticsOk (importedModules pw.main.body) (hp0 w.params) (hp9 w.params) && namesBound pw (hp9 w.params) && gensDone (s9 w os) && laidKept (hp0 w.params) (hp9 w.params)) = fun _ => true := by kernel_rfl
theorem look2 (w : World) : (fun os => openSeen view_39 loose9 (importedModules pw.main.body) Xt9 true (s9 w os)) = fun _ => openGood view_39 loose9 := by kernel_rfl
theorem look3 (w : World) : (fun os => H9.obs (s9 w os)) = fun _ => H9.val w := by kernel_rfl
theorem looks (w : World) : (fun os => (staticsOk (importedModules pw.main.body) (hp0 w.params) (hp9 w.params) && namesBound pw (hp9 w.params) && gensDone (s9 w os) && laidKept (hp0 w.params) (hp9 w.params), openSeen view_39 loose9 (importedModules pw.main.body) Xt9 true (s9 w os), H9.obs (s9 w os))) = fun _ => (true, openGood view_39 loose9, H9.val w) :=
  funext fun os => looks_pair (congrFun (look1 w) os) (looks_pair (congrFun (look2 w) os) (congrFun (look3 w) os))
theorem left : LeftO pw view_39 loose9 Xt9 H9.obs H9.val NN9 true := LeftO.of_pieces (H₀ := hp0) (H₁ := hp9) (gs₀ := gg9) (gs₁ := gg9) (d₀ := dd9) (d₁ := dd9) (k₀ := tk9) (k₁ := kk9) (m₀ := nn9) (ann := an9) (M := MM9) opens size9 run (by decide +kernel) looks
theorem said9 : OpenLaw.wellSaid PySem.Challenge.rw_in0217_01 = true := by kernel_rfl
end hd

section
variable (M : Model) (A : Around) (E : Value → Shared → Prop) (env : Env)
abbrev then9 (rest : List Stmt) (Q : Flow → Shared → Prop) (f : Flow) (s : Shared) : Prop := match f with | .next => wpAny M A (execs rest env) Q E s | f => Q f s
abbrev bopB9 (op : Operator) (a : Value) (Q : Value → Shared → Prop) (b : Value) (s : Shared) : Prop := wpAny M A (binaryOp op a b) Q E s
abbrev bop9 (op : Operator) (r : PySem.Expr) (Q : Value → Shared → Prop) (a : Value) (s : Shared) : Prop := wpAny M A (eval r env) (bopB9 M A E op a Q) E s
abbrev cmpB9 (op : CmpOp) (a : Value) (Q : Value → Shared → Prop) (b : Value) (s : Shared) : Prop := wpAny M A (compareOp op a b) Q E s
abbrev cmp9 (op : CmpOp) (r : PySem.Expr) (Q : Value → Shared → Prop) (a : Value) (s : Shared) : Prop := wpAny M A (eval r env) (cmpB9 M A E op a Q) E s
abbrev tru9 (Q : Bool → Shared → Prop) (c : Value) (s : Shared) : Prop := wpAny M A (truthy c) Q E s
abbrev if9 (b1 b2 : List Stmt) (Q : Flow → Shared → Prop) (b : Bool) (s : Shared) : Prop := if b then wpAny M A (execs b1 env) Q E s else wpAny M A (execs b2 env) Q E s
abbrev nxt9 {α : Type} (Q : Flow → Shared → Prop) (_ : α) (s : Shared) : Prop := Q .next s
abbrev ret9 (Q : Flow → Shared → Prop) (v : Value) (s : Shared) : Prop := Q (.ret v) s
abbrev asg9 (x : PySem.Str) (Q : Flow → Shared → Prop) (v : Value) (s : Shared) : Prop := wpAny M A (storeName env x v) (nxt9 Q) E s
abbrev fun9 (pos : Pos) (args : List PySem.Expr) (Q : Value → Shared → Prop) (f : Value) (s : Shared) : Prop := wpAny M A (callWith pos f [] (backTo pos (starEach args env)) []) Q E s
abbrev argC9 (v : Value) (Q : List Value → Shared → Prop) (vs : List Value) (s : Shared) : Prop := Q (v :: vs) s
abbrev arg9 (pos : Pos) (rest : List PySem.Expr) (Q : List Value → Shared → Prop) (v : Value) (s : Shared) : Prop := wpAny M A (spliced (backTo pos (starEach rest env))) (argC9 v Q) E s
abbrev subB9 (value slice : PySem.Expr) (o : Value) (Q : Value → Shared → Prop) (i : Value) (s : Shared) : Prop := wpAny M A (subscriptTail value slice o i) Q E s
abbrev sub9 (value slice : PySem.Expr) (Q : Value → Shared → Prop) (o : Value) (s : Shared) : Prop := wpAny M A (eval slice env) (subB9 M A E value slice o Q) E s
end
section
variable {M : Model} {A : Around} {E : Value → Shared → Prop} {env : Env} {s : Shared}
theorem cons9 {st rest} {Q : Flow → Shared → Prop} (h : let Q9 := then9 M A E env rest Q; wpAny M A (exec st env) Q9 E s) : wpAny M A (execs (st :: rest) env) Q E s := wpAny_execs_cons h
theorem cons9m {st rest} {Q : Flow → Shared → Prop} {h₀ : Heap} {L : Addr} {h : Heap} {m : PySem.Str → Option Value} (F : Fr h₀ L h m) (k : let m9 := m; Fr h₀ L h m9 → let Q9 := then9 M A E env rest Q; wpAny M A (exec st env) Q9 E s) : wpAny M A (execs (st :: rest) env) Q E s := cons9 (k F)
theorem wBinOp9 {l op r pos} {Q : Value → Shared → Prop} (h : wpAny M A (eval l env) (bop9 M A E env op r Q) E s) : wpAny M A (eval (.BinOp l op r pos) env) Q E s := wpAny_BinOp h
theorem wCmp9 {l op r pos} {Q : Value → Shared → Prop} (h : wpAny M A (eval l env) (cmp9 M A E env op r Q) E s) (hm : behindInMarks op r = false := by with_unfolding_all rfl) : wpAny M A (eval (.Compare l [op] [r] pos) env) Q E s := wpAny_Compare1 h hm
theorem wTrue9 {l op r pos whole} {Q : Bool → Shared → Prop} (h : wpAny M A (eval l env) (cmp9 M A E env op r (tru9 M A E Q)) E s) (hm : behindInMarks op r = false := by with_unfolding_all rfl) : wpAny M A (isTrue (.Compare l [op] [r] pos) env whole) Q E s := wpAny_isTrue_Compare1 h hm
theorem wIf9 {test body orelse pos} {Q : Flow → Shared → Prop} (h : wpAny M A (isTrue test env (eval test env)) (if9 M A E env body orelse Q) E s) : wpAny M A (exec (.If test body orelse pos) env) Q E s := wpAny_If h
theorem wRet9 {e pos} {Q : Flow → Shared → Prop} (h : wpAny M A (eval e env) (ret9 Q) E s) : wpAny M A (exec (.Return (some e) pos) env) Q E s := wpAny_Return_some h
theorem wAsg9 {x pos' value pos} {Q : Flow → Shared → Prop} (h : wpAny M A (eval value env) (asg9 M A E env x Q) E s) (hs : swapsWith value (some (.Name x pos')) pos.line env = pure false := by with_unfolding_all rfl) : wpAny M A (exec (.Assign [.Name x pos'] value pos) env) Q E s := wpAny_Assign_Name h hs
theorem wCall9 {func : PySem.Expr} {args : List PySem.Expr} {pos : Pos} {Q : Value → Shared → Prop} (h : wpAny M A (eval func env) (fun9 M A E env pos args Q) E s)
    (he : eval (.Call func args [] pos) env = (do callWith pos (← eval func env) [] (backTo pos (starEach args env)) (backToKw pos (keywordEach [] env))) := by with_unfolding_all rfl) : wpAny M A (eval (.Call func args [] pos) env) Q E s := Call_ h he
theorem wArg9 {e : PySem.Expr} {rest : List PySem.Expr} {pos : Pos} {Q : List Value → Shared → Prop} (h : wpAny M A (eval e env) (arg9 M A E env pos rest Q) E s) (he : starEach (e :: rest) env = (false, eval e env) :: starEach rest env := by with_unfolding_all rfl) : wpAny M A (spliced (backTo pos (starEach (e :: rest) env))) Q E s := args_cons h he
theorem wSub9 {value slice pos} {Q : Value → Shared → Prop} (h : wpAny M A (eval value env) (sub9 M A E env value slice Q) E s) : wpAny M A (eval (.Subscript value slice pos) env) Q E s := Subscript_ h
theorem wp_letQ {α : Type} {c : Sem α} {Q : α → Shared → Prop} (k : let Q9 := Q; let X9 := E; wpAny M A c Q9 X9 s) : wpAny M A c Q E s := k
end
theorem wp_letA {α : Type} {M : Model} {A : Around} {c : Sem α} {Q : α → Shared → Prop} {E : Value → Shared → Prop} {s : Shared} (k : let A9 := A; wpAny M A9 c Q E s) : wpAny M A c Q E s := k
theorem wp_letE {M : Model} {A : Around} {b : List Stmt} {v : Env} {Q : Flow → Shared → Prop} {E : Value → Shared → Prop} {s : Shared} (k : let E9 := v; wpAny M A (execs b E9) Q E s) : wpAny M A (execs b v) Q E s := k
theorem Fr_letm {h₀ : Heap} {L : Addr} {h : Heap} {m : PySem.Str → Option Value} {P : Prop} (F : Fr h₀ L h m) (k : let m9 := m; Fr h₀ L h m9 → P) : P := k F
theorem rm0 {a k R : Nat} (h : a + k < R) : a < R := Nat.lt_of_le_of_lt (Nat.le_add_right a k) h
theorem rm1 {a k R j : Nat} (h : a + k < R) (e : Nat.ble j k = true) : a + j < R := Nat.lt_of_le_of_lt (Nat.add_le_add_left (Nat.le_of_ble_eq_true e) a) h
theorem rm2 {a k R i j : Nat} (h : a + k < R) (e : Nat.ble (i + j) k = true) : a + i + j < R := by rw [Nat.add_assoc]; exact rm1 h e
theorem rm3 {a k R i j l : Nat} (h : a + k < R) (e : Nat.ble (i + j + l) k = true) : a + i + j + l < R := by rw [Nat.add_assoc a i j, Nat.add_assoc a]; exact rm1 h e
theorem rs1 {a c m R j : Nat} (h : a + (c + m) < R) (e : Nat.ble j c = true) : a + j < R := Nat.lt_of_le_of_lt (Nat.add_le_add_left (Nat.le_trans (Nat.le_of_ble_eq_true e) (Nat.le_add_right c m)) a) h
theorem rs2 {a c m R i j : Nat} (h : a + (c + m) < R) (e : Nat.ble (i + j) c = true) : a + i + j < R := by rw [Nat.add_assoc]; exact rs1 h e
def nthL : List (Addr × Obj) → Nat → Addr × Obj
  | [], _ => (0, { cls := .none, data := .fields #[] })
  | a :: _, 0 => a
  | _ :: l, n + 1 => nthL l n
theorem nthL_mem : ∀ (l : List (Addr × Obj)) (n : Nat), Nat.blt n l.length = true → nthL l n ∈ l
  | [], n, h => absurd (Nat.le_of_ble_eq_true h) (Nat.not_succ_le_zero n)
  | _ :: _, 0, _ => .head _
  | _ :: l, n + 1, h => .tail _ (nthL_mem l n h)
/-- places of a written list, taken in any order ahead of the same rest -/
theorem perm_sub (pre rest : List (Addr × Obj)) (idx : List Nat) (h : idx.all (fun i => Nat.blt i pre.length) = true) : ∀ q ∈ idx.map (nthL pre) ++ rest, q ∈ pre ++ rest := by
  intro q hq
  rcases List.mem_append.mp hq with hq | hq
  · obtain ⟨i, hi, rfl⟩ := List.mem_map.mp hq
    exact List.mem_append_left _ (nthL_mem pre i (List.all_eq_true.mp h i hi))
  · exact List.mem_append_right _ hq
/-- ledgers that stand apart from an address: by the places' addresses alone -/
theorem apart_perm {I : Addr} (pre pre' rest : List (Addr × Obj)) (idx : List Nat) (h : idx.all (fun i => Nat.blt i pre.length) = true) (e : pre'.map (·.1) = idx.map (fun i => (nthL pre i).1)) (hn : ∀ q ∈ pre ++ rest, q.1 ≠ I) : ∀ q ∈ pre' ++ rest, q.1 ≠ I := by
  intro q hq
  rcases List.mem_append.mp hq with hq | hq
  · have h1 : q.1 ∈ pre'.map (·.1) := List.mem_map_of_mem hq
    rw [e] at h1
    obtain ⟨i, hi, e2⟩ := List.mem_map.mp h1
    exact e2 ▸ hn _ (List.mem_append_left _ (nthL_mem pre i (List.all_eq_true.mp h i hi)))
  · exact hn q (List.mem_append_right _ hq)
theorem ns0 {a b : Nat} (h : @Ne Nat a b := by with_reducible assumption) : a ≠ b := h
theorem nl0 {a b : Nat} {r : Prop} (h : @LT.lt Nat _ a b ∧ r := by with_reducible assumption) : a ≠ b := Nat.ne_of_lt h.1
theorem nl0e {a b : Nat} (h : @LT.lt Nat _ a b := by with_reducible assumption) : a ≠ b := Nat.ne_of_lt h
theorem nn0 {a b : Nat} {r : Prop} (h : @Ne Nat a b ∧ r := by with_reducible assumption) : a ≠ b := h.1
theorem nl1 {a b : Nat} {p0 : Prop} {r : Prop} (h : p0 ∧ @LT.lt Nat _ a b ∧ r := by with_reducible assumption) : a ≠ b := Nat.ne_of_lt h.2.1
theorem nl1e {a b : Nat} {p0 : Prop} (h : p0 ∧ @LT.lt Nat _ a b := by with_reducible assumption) : a ≠ b := Nat.ne_of_lt h.2
theorem nn1 {a b : Nat} {p0 : Prop} {r : Prop} (h : p0 ∧ @Ne Nat a b ∧ r := by with_reducible assumption) : a ≠ b := h.2.1
theorem nl2 {a b : Nat} {p0 p1 : Prop} {r : Prop} (h : p0 ∧ p1 ∧ @LT.lt Nat _ a b ∧ r := by with_reducible assumption) : a ≠ b := Nat.ne_of_lt h.2.2.1
theorem nl2e {a b : Nat} {p0 p1 : Prop} (h : p0 ∧ p1 ∧ @LT.lt Nat _ a b := by with_reducible assumption) : a ≠ b := Nat.ne_of_lt h.2.2
theorem nn2 {a b : Nat} {p0 p1 : Prop} {r : Prop} (h : p0 ∧ p1 ∧ @Ne Nat a b ∧ r := by with_reducible assumption) : a ≠ b := h.2.2.1
theorem nl3 {a b : Nat} {p0 p1 p2 : Prop} {r : Prop} (h : p0 ∧ p1 ∧ p2 ∧ @LT.lt Nat _ a b ∧ r := by with_reducible assumption) : a ≠ b := Nat.ne_of_lt h.2.2.2.1
theorem nn3 {a b : Nat} {p0 p1 p2 : Prop} {r : Prop} (h : p0 ∧ p1 ∧ p2 ∧ @Ne Nat a b ∧ r := by with_reducible assumption) : a ≠ b := h.2.2.2.1
theorem nl4 {a b : Nat} {p0 p1 p2 p3 : Prop} {r : Prop} (h : p0 ∧ p1 ∧ p2 ∧ p3 ∧ @LT.lt Nat _ a b ∧ r := by with_reducible assumption) : a ≠ b := Nat.ne_of_lt h.2.2.2.2.1
theorem nl5 {a b : Nat} {p0 p1 p2 p3 p4 : Prop} {r : Prop} (h : p0 ∧ p1 ∧ p2 ∧ p3 ∧ p4 ∧ @LT.lt Nat _ a b ∧ r := by with_reducible assumption) : a ≠ b := Nat.ne_of_lt h.2.2.2.2.2.1
theorem nl6 {a b : Nat} {p0 p1 p2 p3 p4 p5 : Prop} {r : Prop} (h : p0 ∧ p1 ∧ p2 ∧ p3 ∧ p4 ∧ p5 ∧ @LT.lt Nat _ a b ∧ r := by with_reducible assumption) : a ≠ b := Nat.ne_of_lt h.2.2.2.2.2.2.1
theorem nl6e {a b : Nat} {p0 p1 p2 p3 p4 p5 : Prop} (h : p0 ∧ p1 ∧ p2 ∧ p3 ∧ p4 ∧ p5 ∧ @LT.lt Nat _ a b := by with_reducible assumption) : a ≠ b := Nat.ne_of_lt h.2.2.2.2.2.2
theorem nn6 {a b : Nat} {p0 p1 p2 p3 p4 p5 : Prop} {r : Prop} (h : p0 ∧ p1 ∧ p2 ∧ p3 ∧ p4 ∧ p5 ∧ @Ne Nat a b ∧ r := by with_reducible assumption) : a ≠ b := h.2.2.2.2.2.2.1
theorem nl7 {a b : Nat} {p0 p1 p2 p3 p4 p5 p6 : Prop} {r : Prop} (h : p0 ∧ p1 ∧ p2 ∧ p3 ∧ p4 ∧ p5 ∧ p6 ∧ @LT.lt Nat _ a b ∧ r := by with_reducible assumption) : a ≠ b := Nat.ne_of_lt h.2.2.2.2.2.2.2.1
theorem nl7e {a b : Nat} {p0 p1 p2 p3 p4 p5 p6 : Prop} (h : p0 ∧ p1 ∧ p2 ∧ p3 ∧ p4 ∧ p5 ∧ p6 ∧ @LT.lt Nat _ a b := by with_reducible assumption) : a ≠ b := Nat.ne_of_lt h.2.2.2.2.2.2.2
theorem nn7 {a b : Nat} {p0 p1 p2 p3 p4 p5 p6 : Prop} {r : Prop} (h : p0 ∧ p1 ∧ p2 ∧ p3 ∧ p4 ∧ p5 ∧ p6 ∧ @Ne Nat a b ∧ r := by with_reducible assumption) : a ≠ b := h.2.2.2.2.2.2.2.1
theorem nl8 {a b : Nat} {p0 p1 p2 p3 p4 p5 p6 p7 : Prop} {r : Prop} (h : p0 ∧ p1 ∧ p2 ∧ p3 ∧ p4 ∧ p5 ∧ p6 ∧ p7 ∧ @LT.lt Nat _ a b ∧ r := by with_reducible assumption) : a ≠ b := Nat.ne_of_lt h.2.2.2.2.2.2.2.2.1
theorem nn8 {a b : Nat} {p0 p1 p2 p3 p4 p5 p6 p7 : Prop} {r : Prop} (h : p0 ∧ p1 ∧ p2 ∧ p3 ∧ p4 ∧ p5 ∧ p6 ∧ p7 ∧ @Ne Nat a b ∧ r := by with_reducible assumption) : a ≠ b := h.2.2.2.2.2.2.2.2.1
theorem nl9 {a b : Nat} {p0 p1 p2 p3 p4 p5 p6 p7 p8 : Prop} {r : Prop} (h : p0 ∧ p1 ∧ p2 ∧ p3 ∧ p4 ∧ p5 ∧ p6 ∧ p7 ∧ p8 ∧ @LT.lt Nat _ a b ∧ r := by with_reducible assumption) : a ≠ b := Nat.ne_of_lt h.2.2.2.2.2.2.2.2.2.1
theorem nl9e {a b : Nat} {p0 p1 p2 p3 p4 p5 p6 p7 p8 : Prop} (h : p0 ∧ p1 ∧ p2 ∧ p3 ∧ p4 ∧ p5 ∧ p6 ∧ p7 ∧ p8 ∧ @LT.lt Nat _ a b := by with_reducible assumption) : a ≠ b := Nat.ne_of_lt h.2.2.2.2.2.2.2.2.2
theorem nl10 {a b : Nat} {p0 p1 p2 p3 p4 p5 p6 p7 p8 p9 : Prop} {r : Prop} (h : p0 ∧ p1 ∧ p2 ∧ p3 ∧ p4 ∧ p5 ∧ p6 ∧ p7 ∧ p8 ∧ p9 ∧ @LT.lt Nat _ a b ∧ r := by with_reducible assumption) : a ≠ b := Nat.ne_of_lt h.2.2.2.2.2.2.2.2.2.2.1
theorem nl11 {a b : Nat} {p0 p1 p2 p3 p4 p5 p6 p7 p8 p9 p10 : Prop} {r : Prop} (h : p0 ∧ p1 ∧ p2 ∧ p3 ∧ p4 ∧ p5 ∧ p6 ∧ p7 ∧ p8 ∧ p9 ∧ p10 ∧ @LT.lt Nat _ a b ∧ r := by with_reducible assumption) : a ≠ b := Nat.ne_of_lt h.2.2.2.2.2.2.2.2.2.2.2.1
theorem nl12 {a b : Nat} {p0 p1 p2 p3 p4 p5 p6 p7 p8 p9 p10 p11 : Prop} {r : Prop} (h : p0 ∧ p1 ∧ p2 ∧ p3 ∧ p4 ∧ p5 ∧ p6 ∧ p7 ∧ p8 ∧ p9 ∧ p10 ∧ p11 ∧ @LT.lt Nat _ a b ∧ r := by with_reducible assumption) : a ≠ b := Nat.ne_of_lt h.2.2.2.2.2.2.2.2.2.2.2.2.1
theorem nl13 {a b : Nat} {p0 p1 p2 p3 p4 p5 p6 p7 p8 p9 p10 p11 p12 : Prop} {r : Prop} (h : p0 ∧ p1 ∧ p2 ∧ p3 ∧ p4 ∧ p5 ∧ p6 ∧ p7 ∧ p8 ∧ p9 ∧ p10 ∧ p11 ∧ p12 ∧ @LT.lt Nat _ a b ∧ r := by with_reducible assumption) : a ≠ b := Nat.ne_of_lt h.2.2.2.2.2.2.2.2.2.2.2.2.2.1
abbrev PP : Program := PySem.Challenge.rw_in0217_01.row.prog

/-- the promise of a call: from a ledger, to an answer and a ledger, or to a ValueError and a ledger -/
def Meet (w : World) (f : Addr) (args : List Value) (D U : Nat) (led : List (Addr × Obj)) (Ok : Value → List (Addr × Obj) → Prop) (Er : List (Addr × Obj) → Prop) : Prop :=
  ∀ (p : Program) (loose : List Str) (mean : ExcName → Option Value) (mg mb : Str → Option Value) (dp un : Nat) (gd : Option (List Code)) (cn : Str) (cs : Scope) (a : Addr) (ccd : Value) (cl : List (Str × Addr)) (outer : List Env) (A₀ : Around) (base h₀ : Heap) (L : Addr) (m : Str → Option Value) (s : Shared)
    (Q E : Value → Shared → Prop),
    Below A₀ base outer h₀ → Fr h₀ L s.heap m → (hd.heap_39 w.params).In h₀ → News h₀ L s.heap led → Top p loose mean mg mb h₀ → cs.kind = .function → dp + D < recursionLimit → un + U < cLine →
    (∀ r led' h' tk', Ok r led' → Fr h₀ L h' m → News h₀ L h' led' → Q r { s with heap := h', toks := tk' }) →
    (∀ e led' h' tk' g₂, Er led' → RaisedN base (envX cn cs L a ccd cl :: outer) e (.type "ValueError") led' h' → Fr h₀ L g₂ m → g₂.UpToSlots h' → E (.ref e) { s with heap := h', toks := tk' }) →
    wpAny (model PP w) (ktrTop dp un gd cn cs L a ccd cl outer) (call (.ref f) args) Q E s

theorem Meet.use {w : World} {f : Addr} {args : List Value} {D U : Nat} {led : List (Addr × Obj)} {Ok : Value → List (Addr × Obj) → Prop} {Er : List (Addr × Obj) → Prop} (H : Meet w f args D U led Ok Er)
    {p : Program} {loose : List Str} {mean : ExcName → Option Value} {mg mb : Str → Option Value} {dp un : Nat} {gd : Option (List Code)} {cn : Str} {cs : Scope} {a : Addr} {ccd : Value} {cl : List (Str × Addr)} {outer : List Env} {A₀ : Around} {base h₀ : Heap} {L : Addr} {m : Str → Option Value} {s : Shared}
    {Q E : Value → Shared → Prop} (B : Below A₀ base outer h₀) (F : Fr h₀ L s.heap m) (X : (hd.heap_39 w.params).In h₀) (N : News h₀ L s.heap led) (T : Top p loose mean mg mb h₀) (hk : cs.kind = .function) (hd : dp + D < recursionLimit) (hu : un + U < cLine)
    (ret : ∀ r led' h' tk', Ok r led' → Fr h₀ L h' m → News h₀ L h' led' → Q r { s with heap := h', toks := tk' })
    (err : ∀ e led' h' tk' g₂, Er led' → RaisedN base (envX cn cs L a ccd cl :: outer) e (.type "ValueError") led' h' → Fr h₀ L g₂ m → g₂.UpToSlots h' → E (.ref e) { s with heap := h', toks := tk' }) :
    wpAny (model PP w) (ktrTop dp un gd cn cs L a ccd cl outer) (call (.ref f) args) Q E s := H p loose mean mg mb dp un gd cn cs a ccd cl outer A₀ base h₀ L m s Q E B F X N T hk hd hu ret err
theorem allLt_mem {d : Addr} {l : List (Addr × Obj)} (h : AllLt d l) : ∀ p ∈ l, p.1 < d := by
  induction l with
  | nil => intro p hp; cases hp
  | cons q r ih =>
    intro p hp
    cases hp with
    | head => exact h.1
    | tail _ hq => exact ih h.2 p hq
theorem allLt_ne {d e : Addr} {l : List (Addr × Obj)} (h : AllLt d l) (k : d ≤ e) : ∀ p ∈ l, p.1 ≠ e := fun p hp => Nat.ne_of_lt (Nat.lt_of_lt_of_le (allLt_mem h p hp) k)
theorem allLt_self {d : Addr} {l : List (Addr × Obj)} (h : AllLt d l) : ∀ p ∈ l, p.1 ≠ d := allLt_ne h (Nat.le_refl d)
theorem allLt_up {d k : Addr} {l : List (Addr × Obj)} (h : AllLt d l) : ∀ p ∈ l, p.1 ≠ d + k := allLt_ne h (Nat.le_add_right d k)
theorem allLt_up2 {d k j : Addr} {l : List (Addr × Obj)} (h : AllLt d l) : ∀ p ∈ l, p.1 ≠ d + k + j := allLt_ne h (Nat.le_trans (Nat.le_add_right d k) (Nat.le_add_right _ _))
theorem al3 {p0 p1 p2 : Prop} {d : Addr} {l : List (Addr × Obj)} (h : p0 ∧ p1 ∧ p2 ∧ AllLt d l := by assumption) : ∀ p ∈ l, p.1 ≠ d := allLt_self h.2.2.2
theorem al4 {p0 p1 p2 p3 : Prop} {d : Addr} {l : List (Addr × Obj)} (h : p0 ∧ p1 ∧ p2 ∧ p3 ∧ AllLt d l := by assumption) : ∀ p ∈ l, p.1 ≠ d := allLt_self h.2.2.2.2
theorem al5 {p0 p1 p2 p3 p4 : Prop} {d : Addr} {l : List (Addr × Obj)} (h : p0 ∧ p1 ∧ p2 ∧ p3 ∧ p4 ∧ AllLt d l := by assumption) : ∀ p ∈ l, p.1 ≠ d := allLt_self h.2.2.2.2.2
theorem al6 {p0 p1 p2 p3 p4 p5 : Prop} {d : Addr} {l : List (Addr × Obj)} (h : p0 ∧ p1 ∧ p2 ∧ p3 ∧ p4 ∧ p5 ∧ AllLt d l := by assumption) : ∀ p ∈ l, p.1 ≠ d := allLt_self h.2.2.2.2.2.2
theorem au1 {p0 : Prop} {d k : Addr} {l : List (Addr × Obj)} (h : p0 ∧ AllLt d l := by assumption) : ∀ p ∈ l, p.1 ≠ d + k := allLt_up h.2
theorem au2 {p0 p1 : Prop} {d k : Addr} {l : List (Addr × Obj)} (h : p0 ∧ p1 ∧ AllLt d l := by assumption) : ∀ p ∈ l, p.1 ≠ d + k := allLt_up h.2.2
theorem aw1 {p0 : Prop} {d k j : Addr} {l : List (Addr × Obj)} (h : p0 ∧ AllLt d l := by assumption) : ∀ p ∈ l, p.1 ≠ d + k + j := allLt_up2 h.2
theorem aw2 {p0 p1 : Prop} {d k j : Addr} {l : List (Addr × Obj)} (h : p0 ∧ p1 ∧ AllLt d l := by assumption) : ∀ p ∈ l, p.1 ≠ d + k + j := allLt_up2 h.2.2
theorem and_l {a b : Prop} (h : a ∧ b) : a := h.1
theorem and_r {a b : Prop} (h : a ∧ b) : b := h.2
theorem code171 {P : Params} {h : Heap} (X : (hd.heap_39 P).In h) : CodeHd h 171 167 := codeHd_of_K X (by kernel_rfl)
theorem code96 {P : Params} {h : Heap} (X : (hd.heap_39 P).In h) : CodeHd h 96 92 := codeHd_of_K X (by kernel_rfl)

section
variable {prog : Program} {w : World} {A : Around} {E : Value → Shared → Prop} {s : Shared} {value slice : PySem.Expr} {b : Array UInt8} {t : Tok} {h₀ : Heap} {L : Addr} {m : PySem.Str → Option Value} {news : List (Addr × Obj)} {l u : Value} {lo hi : Option Int} {Q : Value → Shared → Prop}
theorem my_slice (hF : Fr h₀ L s.heap m := by k_asm) (hN : News h₀ L s.heap news := by k_asm) (hl : IsPart l lo := by constructor) (hu : IsPart u hi := by constructor) (hz : b.size ≤ 16777216 := by (try simp only [List.size_toArray]); lia)
    (h : ∀ h' t' k, Fr h₀ L h' m → News h₀ L h' news → Q (.bytes (KBy.picked b lo hi) t') { s with heap := h', toks := k })
    (hs : subscripted slice false (.bytes b t) (.ref s.heap.objs.size) = operate [.ref s.heap.objs.size, .bytes b t] (getItem (.bytes b t) (.ref s.heap.objs.size)) := by with_unfolding_all rfl)
    (ht : ∀ r, letTemporaryGo value (.bytes b t) r = pure () := by intro _; with_unfolding_all rfl) :
    wpAny (model prog w) A (subscriptTail value slice (.bytes b t) (.ref s.heap.objs.size)) Q E { s with heap := s.heap.push { cls := .type "slice", data := .fields #[l, u, .none] } } :=
  KBc.slice_K hF hN rfl hl hu (by rw [KBw.ints_length]; exact hz) (fun h' t' k a b _ => h h' t' k a b) hs ht
end
/-- the stream stands at i, and r is what is left -/
def At (o : List UInt8) (i : Int) (r : List UInt8) : Prop := ∃ j : Nat, i = j ∧ j ≤ o.length ∧ o.drop j = r
theorem At.len {o r : List UInt8} {i : Int} (h : At o i r) : 0 ≤ i ∧ i + r.length = o.length := by
  obtain ⟨j, rfl, a, rfl⟩ := h; rw [List.length_drop]; lia
theorem At.step {o r : List UInt8} {i x : Int} (h : At o i r) (k : Nat) (hx : x = if (o.length : Int) < i + k then (o.length : Int) else i + k) : At o x (r.drop k) := by
  obtain ⟨j, rfl, a, rfl⟩ := h
  refine ⟨min (j + k) o.length, by rw [hx]; split <;> lia, Nat.min_le_right _ _, ?_⟩
  rw [List.drop_drop]
  by_cases hk : j + k ≤ o.length
  · rw [Nat.min_eq_left hk]
  · rw [Nat.min_eq_right (by lia), List.drop_length, List.drop_eq_nil_of_le (by lia)]
theorem At.picked {o r : List UInt8} {i x y : Int} (h : At o i r) (k : Nat) (hx : x = if (o.length : Int) < i + k then (o.length : Int) else i + k) (hy : y = i) : KBy.picked o.toArray (some y) (some x) = (r.take k).toArray := by
  obtain ⟨j, rfl, a, rfl⟩ := h
  have hx' : x = (min (j + k) o.length : Nat) := by rw [hx]; split <;> lia
  subst hx' hy
  rw [KBc.picked_eq]
  congr 1
  simp only [Option.elim, clipAt_nat, List.size_toArray]
  rw [Nat.min_eq_left a, Nat.min_eq_left (Nat.min_le_right _ _)]
  by_cases hk : j + k ≤ o.length
  · rw [Nat.min_eq_left hk]; congr 1; lia
  · rw [Nat.min_eq_right (by lia), List.take_of_length_le (by rw [List.length_drop]; lia), List.take_of_length_le (by rw [List.length_drop]; lia)]

theorem take_le {d r : List UInt8} {k m : Nat} (h : d = r.take k) (hk : k ≤ m) : d.length ≤ m := by rw [h, List.length_take]; lia
theorem split_at {d r : List UInt8} {b : UInt8} {k : Nat} (h : d = r.take k) : b :: r = b :: (d ++ r.drop k) := by rw [h, List.take_append_drop]
theorem raised_sub {base h : Heap} {l : List Env} {e : Addr} {cls : Value} {news news' : List (Addr × Obj)} (R : RaisedN base l e cls news h) (hs : ∀ q ∈ news', q ∈ news) : RaisedN base l e cls news' h :=
  let ⟨B, a0, h1, h2, h3⟩ := R; ⟨B, a0, h1, fun q hq => h2 q (hs q hq), h3⟩
theorem news_sub {h₀ h : Heap} {L : Addr} {news news' : List (Addr × Obj)} (N : News h₀ L h news) (hs : ∀ q ∈ news', q ∈ news) : News h₀ L h news' := fun q hq => N q (hs q hq)
theorem toNat_one' : Int.toNat 1 = 1 := rfl
abbrev dictVR (h1 h2 : Int) (t1 t2 : Tok) (l f : Addr) : Obj := dictOf [⟨h1, .str (Str.ofString "value") t1, .ref l⟩, ⟨h2, .str (Str.ofString "read") t2, .ref f⟩] 2
abbrev placeOf (i : Int) (t : Tok) (n : Nat) : Obj := listOf #[.int i t] n
/-- what a stream is made of -/
structure Sm where
  x : Addr
  d : Addr
  f : Addr
  c : Addr
  l : Addr
  cp : Addr
  co : Addr
  fd : FuncData
  oc : Obj
  op : Obj
  oo : Obj
  h1 : Int
  h2 : Int
  t1 : Tok
  t2 : Tok
abbrev Sm.fo (S : Sm) : Obj := { cls := .type "function", data := .func S.fd }
abbrev Sm.led (S : Sm) (i : Int) (tp : Tok) (n : Nat) (rest : List (Addr × Obj)) : List (Addr × Obj) :=
  (S.x, instObj 69 S.d) :: (S.d, dictVR S.h1 S.h2 S.t1 S.t2 S.l S.f) :: (S.f, { cls := .type "function", data := .func S.fd }) :: (S.c, S.oc) :: (S.l, placeOf i tp n) :: (S.cp, S.op) :: (S.co, S.oo) :: rest
def Sm.Off (S : Sm) (led : List (Addr × Obj)) : Prop := ∀ q ∈ led, q.1 ≠ S.l
structure Sm.Ok (S : Sm) (w : World) (o : List UInt8) : Prop where
  nx : S.x ≠ S.l
  nd : S.d ≠ S.l
  nf : S.f ≠ S.l
  nc : S.c ≠ S.l
  np : S.cp ≠ S.l
  no : S.co ≠ S.l
  read : ∀ (i k : Int) (r : List UInt8) (tp tk : Tok) (n : Nat) (rest : List (Addr × Obj)), At o i r → 0 ≤ k → k < 256 → S.Off rest → 
   Meet w S.f [.int k tk] 5 40 (S.led i tp n rest) (fun v led' => ∃ d t i' tp' n', d = r.take k.toNat ∧ At o i' (r.drop k.toNat) ∧ v = .bytes d.toArray t ∧ led' = S.led i' tp' n' rest) (fun _ => False)

/-- what a counted read takes, and what is left -/
def counted : List UInt8 → Option (List UInt8 × List UInt8)
  | [] => none
  | b :: r => if b.toNat ≤ r.length then some (r.take b.toNat, r.drop b.toNat) else none
theorem counted_some {d r : List UInt8} {b : UInt8} (h : d = r.take b.toNat) (e : d.length = b.toNat) : counted (b :: r) = some (d, r.drop b.toNat) := by
  have : b.toNat ≤ r.length := by rw [h, List.length_take] at e; lia
  simp [counted, this, h]
theorem counted_none {d r : List UInt8} {b : UInt8} (h : d = r.take b.toNat) (e : d.length ≠ b.toNat) : counted (b :: r) = none := by
  have : ¬ b.toNat ≤ r.length := fun q => e (by rw [h, List.length_take]; lia)
  simp [counted, this]
theorem counted_nil {r : List UInt8} (h : r = []) : counted r = none := by rw [h]; rfl

section
variable {prog : Program} {w : World} {A : Around} {E : Value → Shared → Prop} {s : Shared} {env : Env} {h₀ : Heap} {body : List Stmt} {Q : Flow → Shared → Prop} {m : Str → Option Value} {news : List (Addr × Obj)}
/-- the end of a turn: the ledger still bears the iterator, and the word holds -/
inductive TEnd (h₀ : Heap) (L I : Addr) (it : Obj) (J : (Str → Option Value) → List (Addr × Obj) → Prop) (s s' : Shared) : Prop
  | mk (h' tk' m' news') (k1 : s' = { s with heap := h', toks := tk' }) (k2 : Fr h₀ L h' m') (k3 : News h₀ L h' ((I, it) :: news')) (k4 : (∀ p ∈ news', p.1 ≠ I)) (k5 : J m' news')
def TPost (h₀ : Heap) (L I : Addr) (it : Obj) (J : (Str → Option Value) → List (Addr × Obj) → Prop) (s : Shared) (Q : Flow → Shared → Prop) (f : Flow) (s' : Shared) : Prop :=
  match f with
  | .ret v => Q (.ret v) s'
  | .brk => Q .next s'
  | _ => TEnd h₀ L I it J s s'
theorem TEnd.intro {L I : Addr} {it : Obj} {J : (Str → Option Value) → List (Addr × Obj) → Prop} {s : Shared} {h' : Heap} {tk' : Nat} {m' : Str → Option Value} {news news' : List (Addr × Obj)} (F : Fr h₀ L h' m') (N : News h₀ L h' news) (hs : ∀ p ∈ (I, it) :: news', p ∈ news) (hn : ∀ p ∈ news', p.1 ≠ I) (hJ : J m' news') :
    TEnd h₀ L I it J s { s with heap := h', toks := tk' } := ⟨h', tk', m', news', rfl, F, news_sub N hs, hn, hJ⟩
abbrev rangeIt (x left : Int) : Obj := { cls := .type "range_iterator", dict := none, data := .fields #[rawInt x, rawInt left, rawInt 1], slots := #[] }
theorem small_of (n : Nat) (h : n < 1000000) : Builtin.Range.small 0 n 1 = true := by
  unfold Builtin.Range.small
  rw [rangeSize_one]
  have e : ∀ x : Int, 0 ≤ x → x < 1000001 → Builtin.Range.rangeFitsLong x = true := by
    intro x h0 h1
    simp only [Builtin.Range.rangeFitsLong, Bool.and_eq_true, decide_eq_true_eq]
    lia
  by_cases h0 : (0 : Int) < n
  · simp only [h0, if_true, e 0 (by lia) (by lia), e n (by lia) (by lia), e 1 (by lia) (by lia), e (n - 0) (by lia) (by lia), Bool.and_true, Bool.true_and]
    simp [e n (by lia) (by lia)]
  · obtain rfl : n = 0 := by lia
    decide
theorem range_loopC {x : Str} {px : Pos} {r : Addr} {n : Nat} {t u v : Tok} (J : Nat → (Str → Option Value) → List (Addr × Obj) → Prop) (hr : IsRange s.heap r 0 n 1 t u v) (hn : n < 1000000) (hh : A.handled = none)
    (F : Fr h₀ env.locals s.heap m) (N : News h₀ env.locals s.heap news) (h0 : J 0 m news)
    (turn : ∀ i t m₁ news₁ I it h tk, i < n → it.cls = .type "range_iterator" → J i m₁ news₁ → (∀ p ∈ news₁, p.1 ≠ I) → Fr h₀ env.locals h (fun y => if y = x then some (.int (i : Nat) t) else m₁ y) → News h₀ env.locals h ((I, it) :: news₁) →
      wpAny (model prog w) A (execs body env) (TPost h₀ env.locals I it (J (i + 1)) { s with heap := h, toks := tk } Q) E { s with heap := h, toks := tk })
    (done : ∀ m₁ news₁ h tk, J n m₁ news₁ → Fr h₀ env.locals h m₁ → News h₀ env.locals h news₁ → Q .next { s with heap := h, toks := tk })
    (hx : env.kindOf x = some .local := by rfl) (hp : (env.scope.kind == .class || (env.scope.kind == .module && env.locals != env.globals)) = false := by rfl)
    (hE : PassesOwn (model prog w) A env E := by passes_own) :
    wpAny (model prog w) A (pyIter (.ref r)) (fun it s₂ => codeAny (model prog w) A (.forLoop (.Name x px) it body [] env) (fun r s' => match r with | .ok f => Q f s' | .error e => cameBackBy (model prog w) A env E e s') s₂) E s := by
  refine wpAny_pyIter_range hr (small_of n hn) ?_
  have hsz : Builtin.Range.rangeSize 0 n 1 = n := by rw [rangeSize_one]; split <;> lia
  rw [hsz]
  have hI₀ : h₀.get? s.heap.objs.size = none := by
    cases q : h₀.get? s.heap.objs.size with
    | none => rfl
    | some o => exact absurd (Heap.lt_size (F.keep _ _ q)) (Nat.lt_irrefl _)
  have hIL : s.heap.objs.size ≠ env.locals := Nat.ne_of_gt F.ns.lt
  generalize hI : s.heap.objs.size = I at *
  refine codeAny_forLoop_any (fun k s' => ∃ h tk m₁ news₁ i, s' = { s with heap := h, toks := tk } ∧ IsRangeIter h I (i : Nat) ((n : Int) - (i : Nat)) 1 ∧ Fr h₀ env.locals h m₁ ∧ News h₀ env.locals h news₁ ∧ (∀ p ∈ news₁, p.1 ≠ I) ∧ J i m₁ news₁ ∧ i ≤ n ∧ k = n + 1 - i) ?_ (n + 1)
    ⟨_, s.toks, m, news, 0, rfl, ?_, F.push _, (fun p hp => ⟨Heap.get?_push_of_some _ (N p hp).1, (N p hp).2⟩), (fun p hp => hI ▸ Nat.ne_of_lt (Heap.lt_size (N p hp).1)), h0, Nat.zero_le _, rfl⟩
  · rintro k s' ⟨h, tk, m₁, news₁, i, rfl, hit, F₁, N₁, hn₁, hJ, hi, rfl⟩
    have old : ∀ b o, h₀.get? b = some o → b ≠ I := fun b o e q => by rw [q, hI₀] at e; cases e
    by_cases hlt : i < n
    · refine wpAny_pyNext_range_item hit (by lia) fun h₁ hit₁ hsb => ?_
      refine wpAny_pure (wpAny_assign_Name (wpAny_storeName_local hx (m := m₁) (F₁.ns.sameBut hsb (Ne.symm hIL)) (fun h₂ hns₂ hsb₂ => ?_) hp))
      have F₂ : Fr h₀ env.locals h₂ (fun y => if y = x then some (.int (i : Nat) tk) else m₁ y) :=
        ⟨hns₂, fun b o e => (hsb₂.2 b (Nat.ne_of_lt (Nat.lt_of_lt_of_le (Heap.lt_size e) F.above))).trans ((hsb.2 b (old b o e)).trans (F₁.keep b o e)), F.above⟩
      have hit₂ : h₂.get? I = some (rangeIt (i + 1) ((n : Int) - i - 1)) := (hsb₂.2 I hIL).trans hit₁
      have N₂ : News h₀ env.locals h₂ ((I, rangeIt (i + 1) ((n : Int) - i - 1)) :: news₁) := fun p hp => by
        rcases List.mem_cons.mp hp with rfl | hp
        · exact ⟨hit₂, hIL, hI₀⟩
        · exact ⟨(hsb₂.2 p.1 (N₁ p hp).2.1).trans ((hsb.2 p.1 (hn₁ p hp)).trans (N₁ p hp).1), (N₁ p hp).2⟩
      refine wpAny_mono (turn i tk m₁ news₁ I _ h₂ _ hlt rfl hJ hn₁ F₂ N₂) (fun f s₃ hf => ?_) hE
      have fin : TEnd h₀ env.locals I (rangeIt (i + 1) ((n : Int) - i - 1)) (J (i + 1)) { s with heap := h₂, toks := tk + 1 + 1 } s₃ → ∃ m', m' < n + 1 - i ∧ ∃ h tk m₁ news₁ i, s₃ = { s with heap := h, toks := tk } ∧ IsRangeIter h I (i : Nat) ((n : Int) - (i : Nat)) 1 ∧ Fr h₀ env.locals h m₁ ∧ News h₀ env.locals h news₁ ∧ (∀ p ∈ news₁, p.1 ≠ I) ∧ J i m₁ news₁ ∧ i ≤ n ∧ m' = n + 1 - i := by
        rintro ⟨h', tk', m', news', rfl, F', N', hn', hJ'⟩
        refine ⟨n + 1 - (i + 1), by lia, h', tk', m', news', i + 1, rfl, ?_, F', fun p hp => N' p (.tail _ hp), hn', hJ', hlt, rfl⟩
        have := (N' _ (.head _)).1
        have e2 : (n : Int) - ((i + 1 : Nat) : Int) = (n : Int) - i - 1 := by push_cast; lia
        show h'.get? I = _
        rw [this, e2]; rfl
      cases f with
      | ret v => exact hf
      | brk => exact hf
      | next => exact fin hf
      | cont => exact fin hf
    · obtain rfl : i = n := by lia
      refine wpAny_pyNext_range_end hh hit (by lia) fun h₁ hx₁ => wpAny_execs_nil ?_
      exact done m₁ news₁ h₁ tk hJ ⟨F₁.ns.at' fun o e => hx₁ _ o (Ne.symm hIL) e, fun b o e => hx₁ b o (old b o e) (F₁.keep b o e), F.above⟩ fun p hp => ⟨hx₁ _ _ (hn₁ p hp) (N₁ p hp).1, (N₁ p hp).2⟩
  · rw [← hI]
    show (s.heap.push _).get? s.heap.objs.size = _
    rw [Heap.get?_push_size _ rfl]
    simp
theorem range_loop {x : Str} {px : Pos} {r : Addr} {n : Nat} {t u v : Tok} (J : Nat → (Str → Option Value) → List (Addr × Obj) → Prop) (hr : IsRange s.heap r 0 n 1 t u v) (hn : n < 1000000) (hh : A.handled = none)
    (F : Fr h₀ env.locals s.heap m) (N : News h₀ env.locals s.heap news) (h0 : J 0 m news)
    (turn : ∀ i t m₁ news₁ I it h tk, i < n → J i m₁ news₁ → (∀ p ∈ news₁, p.1 ≠ I) → Fr h₀ env.locals h (fun y => if y = x then some (.int (i : Nat) t) else m₁ y) → News h₀ env.locals h ((I, it) :: news₁) →
      wpAny (model prog w) A (execs body env) (TPost h₀ env.locals I it (J (i + 1)) { s with heap := h, toks := tk } Q) E { s with heap := h, toks := tk })
    (done : ∀ m₁ news₁ h tk, J n m₁ news₁ → Fr h₀ env.locals h m₁ → News h₀ env.locals h news₁ → Q .next { s with heap := h, toks := tk })
    (hx : env.kindOf x = some .local := by rfl) (hp : (env.scope.kind == .class || (env.scope.kind == .module && env.locals != env.globals)) = false := by rfl)
    (hE : PassesOwn (model prog w) A env E := by passes_own) :
    wpAny (model prog w) A (pyIter (.ref r)) (fun it s₂ => codeAny (model prog w) A (.forLoop (.Name x px) it body [] env) (fun r s' => match r with | .ok f => Q f s' | .error e => cameBackBy (model prog w) A env E e s') s₂) E s := 
  range_loopC J hr hn hh F N h0 (fun i t m₁ news₁ I it h tk hi _ => turn i t m₁ news₁ I it h tk hi) done hx hp hE
end

section
variable {prog : Program} {w : World} {A : Around} {E : Value → Shared → Prop} {s : Shared} {env : Env} {h₀ : Heap} {body : List Stmt} {Q : Flow → Shared → Prop} {m : Str → Option Value} {news : List (Addr × Obj)}
/-- a range that holds nothing -/
theorem range_none {x : Str} {px : Pos} {r : Addr} {a b c : Int} {t u v : Tok} (hr : IsRange s.heap r a b c t u v) (hsz : Builtin.Range.rangeSize a b c = 0) (hsm : Builtin.Range.small a b c = true) (hh : A.handled = none)
    (F : Fr h₀ env.locals s.heap m) (N : News h₀ env.locals s.heap news) (done : ∀ h tk, Fr h₀ env.locals h m → News h₀ env.locals h news → Q .next { s with heap := h, toks := tk }) :
    wpAny (model prog w) A (pyIter (.ref r)) (fun it s₂ => codeAny (model prog w) A (.forLoop (.Name x px) it body [] env) (fun r s' => match r with | .ok f => Q f s' | .error e => cameBackBy (model prog w) A env E e s') s₂) E s := by
  refine wpAny_pyIter_range hr hsm ?_
  rw [hsz]
  have hI₀ : h₀.get? s.heap.objs.size = none := by
    cases q : h₀.get? s.heap.objs.size with
    | none => rfl
    | some o => exact absurd (Heap.lt_size (F.keep _ _ q)) (Nat.lt_irrefl _)
  have hIL : s.heap.objs.size ≠ env.locals := Nat.ne_of_gt F.ns.lt
  generalize hI : s.heap.objs.size = I at *
  refine codeAny_forLoop_any (fun k s' => ∃ h tk, s' = { s with heap := h, toks := tk } ∧ IsRangeIter h I a 0 c ∧ Fr h₀ env.locals h m ∧ News h₀ env.locals h news ∧ (∀ p ∈ news, p.1 ≠ I)) ?_ 0
    ⟨_, s.toks, rfl, ?_, F.push _, (fun p hp => ⟨Heap.get?_push_of_some _ (N p hp).1, (N p hp).2⟩), fun p hp => hI ▸ Nat.ne_of_lt (Heap.lt_size (N p hp).1)⟩
  · rintro k s' ⟨h, tk, rfl, hit, F₁, N₁, hn₁⟩
    have old : ∀ b o, h₀.get? b = some o → b ≠ I := fun b o e q => by rw [q, hI₀] at e; cases e
    refine wpAny_pyNext_range_end hh hit (by lia) fun h₁ hx₁ => wpAny_execs_nil ?_
    exact done h₁ tk ⟨F₁.ns.at' fun o e => hx₁ _ o (Ne.symm hIL) e, fun b o e => hx₁ b o (old b o e) (F₁.keep b o e), F₁.above⟩ fun p hp => ⟨hx₁ _ _ (hn₁ p hp) (N₁ p hp).1, (N₁ p hp).2⟩
  · rw [← hI]
    exact Heap.get?_push_size _ rfl
end

section
variable {prog : Program} {w : World} {A : Around} {E : Value → Shared → Prop} {s : Shared} {env : Env} {h₀ : Heap} {test : PySem.Expr} {body : List Stmt} {Q : Flow → Shared → Prop} {m : Str → Option Value} {news : List (Addr × Obj)}
/-- generators that ask for no cleaning stay so -/
def BareTo (a b : Array GenState) : Prop := AllBare a → AllBare b
theorem BareTo.refl {a : Array GenState} : BareTo a a := fun h => h
theorem BareTo.trans {a b c : Array GenState} (x : BareTo a b) (y : BareTo b c) : BareTo a c := fun h => y (x h)
/-- the end of a turn of a while -/
inductive WEnd (h₀ : Heap) (L : Addr) (J : (Str → Option Value) → List (Addr × Obj) → Prop) (s s' : Shared) : Prop
  | mk (h' tk' gs' m' news') (k1 : s' = { s with heap := h', toks := tk', gens := gs' }) (k2 : Fr h₀ L h' m') (k3 : News h₀ L h' news') (k4 : J m' news') (k5 : BareTo s.gens gs')
def WTurn (h₀ : Heap) (L : Addr) (J : (Str → Option Value) → List (Addr × Obj) → Prop) (s : Shared) (Q : Flow → Shared → Prop) (f : Flow) (s' : Shared) : Prop :=
  match f with
  | .ret v => Q (.ret v) s'
  | .brk => Q .next s'
  | _ => WEnd h₀ L J s s'
theorem while_loop {k₀ : Nat} (J : Nat → (Str → Option Value) → List (Addr × Obj) → Prop) (n : Nat)
    (F : Fr h₀ env.locals s.heap m) (N : News h₀ env.locals s.heap news) (h0 : J 0 m news)
    (turn : ∀ i m₁ news₁ h tk gs, i < n → BareTo s.gens gs → J i m₁ news₁ → Fr h₀ env.locals h m₁ → News h₀ env.locals h news₁ →
      wpAny (model prog w) A (isTrue test env (eval test env)) (fun b s₂ => WhlIf b (wpAny (model prog w) A (execs body env) (WTurn h₀ env.locals (J (i + 1)) { s with heap := h, toks := tk, gens := gs } Q) E s₂) (wpAny (model prog w) A (execs [] env) Q E s₂)) E { s with heap := h, toks := tk, gens := gs })
    (done : ∀ m₁ news₁ h tk gs, BareTo s.gens gs → J n m₁ news₁ → Fr h₀ env.locals h m₁ → News h₀ env.locals h news₁ →
      wpAny (model prog w) A (isTrue test env (eval test env)) (fun b s₂ => WhlIf b False (wpAny (model prog w) A (execs [] env) Q E s₂)) E { s with heap := h, toks := tk, gens := gs })
    (hE : PassesOwn (model prog w) A env E := by passes_own) :
    WhlRest prog w A E env test body [] Q k₀ s := by
  have main : ∀ d i m₁ news₁ h tk gs, i + d = n → BareTo s.gens gs → J i m₁ news₁ → Fr h₀ env.locals h m₁ → News h₀ env.locals h news₁ → ∀ k, WhlRest prog w A E env test body [] Q k { s with heap := h, toks := tk, gens := gs } := by
    intro d
    induction d with
    | zero =>
      intro i m₁ news₁ h tk gs hi hB hJ F₁ N₁ k
      obtain rfl : i = n := by lia
      refine whl_turn (k := k) hE (wpAny_mono (done _ _ h tk gs hB hJ F₁ N₁) (fun b s₂ hb => ?_) fun _ _ z => z)
      cases b with
      | true => exact (hb : False).elim
      | false => exact hb
    | succ d ih =>
      intro i m₁ news₁ h tk gs hi hB hJ F₁ N₁ k
      refine whl_turn (k := k) hE (wpAny_mono (turn i _ _ h tk gs (by lia) hB hJ F₁ N₁) (fun b s₂ hb => ?_) fun _ _ z => z)
      cases b with
      | false => exact hb
      | true =>
        refine wpAny_mono (show wpAny _ _ _ _ _ _ from hb) (fun f s₃ hf => ?_) fun _ _ z => z
        have fin : WEnd h₀ env.locals (J (i + 1)) { s with heap := h, toks := tk, gens := gs } s₃ → WhlRest prog w A E env test body [] Q k s₃ := by
          rintro ⟨h', tk', gs', m', news', rfl, F', N', J', B'⟩
          exact ih (i + 1) m' news' h' tk' gs' (by lia) (hB.trans B') J' F' N' k
        cases f with
        | next => exact fin hf
        | cont => exact fin hf
        | brk => exact hf
        | ret v => exact hf
  exact main n 0 m news s.heap s.toks s.gens (by lia) BareTo.refl h0 F N k₀
def Halt (P : Prop) : Prop := P
theorem whl_halt (k : Nat) {orelse : List Stmt} {pos : Pos} (h : Halt (WhlRest prog w A E env test body orelse Q k s)) : wpAny (model prog w) A (exec (.While test body orelse pos) env) Q E s := whl_start k h
end
theorem names_put {m : Str → Option Value} {x : Str} {a : Value} (h1 : m x = some a) : m = fun z => if z = x then some a else m z := by
  funext z
  by_cases hx : z = x
  · subst hx; simp [h1]
  · simp [hx]

/-- the end of the law: True, all that stood stands, the generators want no cleaning, the tables have grown -/
def EndB (tabs : List (Addr × Addr)) (s₁ : Shared) (r : Result) (s' : Shared) : Prop :=
  ∃ v, r = .ok (.ret v) ∧ v = .bool true ∧ (∀ b o, (ghostOf s₁.heap tabs).get? b = some o → s'.heap.get? b = some o) ∧ s'.os = s₁.os ∧ AllBare s'.gens ∧ GrownAll tabs s'.heap
theorem kn_postG {M : Model} {A : Around} {cd : Code} {s s₁ : Shared} {cw : ClaimW} {cl : Str → Option Addr} {mean : ExcName → Option Value} {args : List WData} {tabs : List (Addr × Addr)} (hT : TabsAt tabs s₁.heap) (hr : ∀ a x, cw.raises a x = false)
    (hp : cw.post args (.bool true) args = true) (h : codeAny M A cd (fun r s' => EndB tabs s₁ r s') s) : codeAny M A cd (GoodWG cw cl mean args s₁) s :=
  codeAny_mono h fun r s' ⟨v, hv, hb, hk, hos, hg, hgr⟩ => by
    have keep : ∀ b o, b ∉ tabs.map (·.2) → s₁.heap.get? b = some o → s'.heap.get? b = some o := fun b o hb e => hk b o (ghost_ne e hb)
    have grown : ∀ b o, b ∈ tabs.map (·.2) → s₁.heap.get? b = some o → isCodeTable s₁.heap b ∧ o = tabObj #[] ∧ ∃ ps, s'.heap.get? b = some (tabObj ps) := fun b o hb e => by
      obtain ⟨q, hq, rfl⟩ := List.mem_map.mp hb
      have e2 := (hT q hq).2
      rw [e] at e2
      exact ⟨((hT q hq).1.tab (hT q hq).2).isCodeTable, Option.some.inj e2, hgr.get q hq⟩
    subst hb
    refine ⟨.inl ⟨_, .bool true, [], hv, fun _ => hr _ _, .bool true, hp, fun _ => ⟨List.nodup_nil, fun _ h => nomatch h⟩⟩, ⟨fun b o e => ?_, fun b o e => ?_⟩, hos, hg⟩
    · by_cases hb : b ∈ tabs.map (·.2)
      · obtain ⟨ht, rfl, ps, hP⟩ := grown b o hb e
        exact .inr (.inl ⟨ht, rfl, #[], ps, rfl, by rw [Array.empty_append]; exact hP⟩)
      · exact .inl (keep b o hb e)
    · by_cases hb : b ∈ tabs.map (·.2)
      · obtain ⟨_, _, ps, hP⟩ := grown b o hb e
        exact ⟨_, hP⟩
      · exact ⟨o, keep b o hb e⟩

/-- one turn of the law's first loop -/
def step1 (s : List Int × List Int) (k : Nat) (y : Int) : List Int × List Int :=
  let o := s.1.take (s.1.length - (y / 4 % 3).toNat)
  (if y % 4 = 0 then o ++ [(k : Int)] else o, s.2 ++ [o.getLastD (-1)])
def st1 (ns : List Int) : Nat → List Int × List Int
  | 0 => ([], [])
  | i + 1 => step1 (st1 ns i) i (ns.getD i 0)
theorem names4 {m : Str → Option Value} {x1 x2 x3 x4 : Str} {a1 a2 a3 a4 : Value} (h1 : m x1 = some a1) (h2 : m x2 = some a2) (h3 : m x3 = some a3) (h4 : m x4 = some a4) :
    m = fun z => if z = x1 then some a1 else if z = x2 then some a2 else if z = x3 then some a3 else if z = x4 then some a4 else m z := by
  funext z
  by_cases k1 : z = x1
  · simp only [if_pos k1]; rw [k1]; exact h1
  by_cases k2 : z = x2
  · simp only [if_neg k1, if_pos k2]; rw [k2]; exact h2
  by_cases k3 : z = x3
  · simp only [if_neg k1, if_neg k2, if_pos k3]; rw [k3]; exact h3
  by_cases k4 : z = x4
  · simp only [if_neg k1, if_neg k2, if_neg k3, if_pos k4]; rw [k4]; exact h4
  · simp only [if_neg k1, if_neg k2, if_neg k3, if_neg k4]

/-- what holds of the written text of the law, whatever its name for it -/
def LawAt (w : World) (C : List Stmt → Scope → Prop) : Prop :=
  ∀ (oc : Value) (od : Option Addr) (name qual : Str) (params : Arguments) (body : List Stmt) (scope : Scope) (dV kV doc pm : Value) (an : Option Addr) (cdv ct : Value) (osl : Array (Option Value)),
    (hd.heap_39 w.params).lookup 217 = some ⟨oc, od, .func (fnOf name qual params body scope dV kV doc pm an cdv ct), osl⟩ → C body scope
theorem LawAt.intro {w : World} {C : List Stmt → Scope → Prop} {oc : Value} {od : Option Addr} {name qual : Str} {params : Arguments} {body : List Stmt} {scope : Scope} {dV kV doc pm : Value} {an : Option Addr} {cdv ct : Value} {osl : Array (Option Value)}
    (h : (hd.heap_39 w.params).lookup 217 = some ⟨oc, od, .func (fnOf name qual params body scope dV kV doc pm an cdv ct), osl⟩) (hC : C body scope) : LawAt w C := by
  intro oc' od' name' qual' params' body' scope' dV' kV' doc' pm' an' cdv' ct' osl' h'
  rw [h] at h'
  cases h'
  exact hC
theorem LawAt.use {w : World} {C : List Stmt → Scope → Prop} (H : LawAt w C) {oc : Value} {od : Option Addr} {name qual : Str} {params : Arguments} {body : List Stmt} {scope : Scope} {dV kV doc pm : Value} {an : Option Addr} {cdv ct : Value} {osl : Array (Option Value)}
    (h : (hd.heap_39 w.params).lookup 217 = some ⟨oc, od, .func (fnOf name qual params body scope dV kV doc pm an cdv ct), osl⟩) : C body scope := H _ _ _ _ _ _ _ _ _ _ _ _ _ _ _ h
/-- the end that the law's caller waits for -/
def LawQ (g : Heap) (s : Shared) (Q : Flow → Shared → Prop) : Prop :=
  ∀ h' tk' gs', (∀ b o, g.get? b = some o → h'.get? b = some o) → AllBare gs' → GrownAll [(171, 167), (96, 92)] h' → Q (.ret (.bool true)) { s with heap := h', toks := tk', gens := gs' }
theorem LawQ.on {g : Heap} {s : Shared} {Q : Flow → Shared → Prop} (H : LawQ g s Q) {h : Heap} {tk : Nat} {gs : Array GenState} : LawQ g { s with heap := h, toks := tk, gens := gs } Q := H
/-- the law's rest from its k-th statement on, in any state of which J tells -/
def LawRest (w : World) (k : Nat) (J : Heap → Heap → Addr → (Str → Option Value) → List (Addr × Obj) → Prop) : Prop :=
  LawAt w fun body scope => ∀ (p : Program) (loose : List Str) (mean : ExcName → Option Value) (mg mb : Str → Option Value) (dp un : Nat) (gd : Option (List Code)) (fa : Addr) (cd : Value) (A₀ : Around) (base g : Heap) (L : Addr) (s : Shared) (m : Str → Option Value) (news : List (Addr × Obj)) (Q : Flow → Shared → Prop),
    Below A₀ base [] g → (hd.heap_39 w.params).In g → Top p loose mean mg mb g → dp + 320 < recursionLimit → un + 9000 < cLine → AllBare s.gens → LawQ g s Q → Fr g L s.heap m → News g L s.heap news → J g s.heap L m news →
    wpAny (model PP w) (ktrTop dp un gd (Str.ofString "law") scope L fa cd (cellsFrom (L + 1) scope.names []) []) (execs (body.drop k) (envX (Str.ofString "law") scope L fa cd (cellsFrom (L + 1) scope.names []))) Q (fun _ _ => False) s
/-- the law's four cells, and the two tables -/
def Tabs0 : List (Addr × Obj) := [(167, tabObj #[]), (92, tabObj #[])]
/-- the law's frame at its start -/
inductive J0 (ws : List Int) (g : Heap) (_h : Heap) (L : Addr) (m : Str → Option Value) (news : List (Addr × Obj)) : Prop
  | mk (sA vs o1 o2 o3 o4) (k1 : m (Str.ofString "script") = some (.ref sA)) (k2 : g.IsList sA (List.toArray vs)) (k3 : IntsAre vs ws) (k4 : ws.length ≤ 63) (k5 : (o1.data = .cell none ∧ o2.data = .cell none ∧ o3.data = .cell none ∧ o4.data = .cell none)) (k6 : (@LT.lt Nat _ 167 L ∧ @LT.lt Nat _ 92 L)) (k7 : news = [(L + 1 + 1 + 1 + 1, o4), (L + 1 + 1 + 1, o3), (L + 1 + 1, o2), (L + 1, o1), (167, tabObj #[]), (92, tabObj #[])])
/-- behind the first loop -/
inductive J1 (ns : List Int) (T : Int) (_g : Heap) (_h : Heap) (L : Addr) (m : Str → Option Value) (news : List (Addr × Obj)) : Prop
  | mk (nA uA tT nvs uvs nz uz o1 o2 o3 o4) (k1 : m (Str.ofString "numbers") = some (.ref nA)) (k2 : m (Str.ofString "total") = some (.int T tT)) (k3 : m (Str.ofString "ups") = some (.ref uA)) (k4 : IntsAre nvs ns) (k5 : IntsAre uvs (st1 ns ns.length).2) (k6 : (o1.data = .cell none ∧ o2.data = .cell none ∧ o3.data = .cell none ∧ o4.data = .cell none)) (k7 : (@LT.lt Nat _ 167 L ∧ @LT.lt Nat _ 92 L)) (k8 : (@LT.lt Nat _ (L + 1 + 1 + 1 + 1) nA ∧ @LT.lt Nat _ (L + 1 + 1 + 1 + 1) uA)) (k9 : news = [(uA, W.listOf (List.toArray uvs) uz), (nA, W.listOf (List.toArray nvs) nz), (L + 1 + 1 + 1 + 1, o4), (L + 1 + 1 + 1, o3), (L + 1 + 1, o2), (L + 1, o1), (167, tabObj #[]), (92, tabObj #[])])
/-- the numbers that the law takes from its script -/
def drawnOf (ws : List Int) : List Int := (ws.take 5).map fun k => k.fmod 10000
def numsOf (ws : List Int) : List Int := [12, 62, 24, 25, 11] ++ drawnOf ws
def totalOf (ws : List Int) : Int := 5 + (drawnOf ws).sum
/-- between the turns of the first loop -/
inductive JL1 (ns : List Int) (T : Int) (cs : List (Addr × Obj)) (uA nA : Addr) (nvs : List Value) (nz i : Nat) (m : Str → Option Value) (news : List (Addr × Obj)) : Prop
  | mk (k1 : m (Str.ofString "numbers") = some (.ref nA)) (k2 : (∃ tT, m (Str.ofString "total") = some (.int T tT))) (k3 : m (Str.ofString "ups") = some (.ref uA)) (oA ovs oz uvs uz) (k4 : m (Str.ofString "opened") = some (.ref oA)) (k5 : @LT.lt Nat _ uA oA) (k6 : IntsAre ovs (st1 ns i).1) (k7 : IntsAre uvs (st1 ns i).2) (k8 : news = (oA, W.listOf (List.toArray ovs) oz) :: (uA, W.listOf (List.toArray uvs) uz) :: (nA, W.listOf (List.toArray nvs) nz) :: cs)
theorem intsAre_get {vs : List Value} {ns : List Int} (h : IntsAre vs ns) : ∀ {i : Nat}, i < ns.length → ∃ t, vs[i]? = some (.int (ns.getD i 0) t) := by
  induction h with
  | nil => intro i h; exact absurd h (Nat.not_lt_zero _)
  | cons n t _ ih =>
    intro i hi
    cases i with
    | zero => exact ⟨t, rfl⟩
    | succ i =>
      obtain ⟨u, hu⟩ := ih (Nat.lt_of_succ_lt_succ hi)
      exact ⟨u, by simpa using hu⟩
theorem numsOf_get {ws : List Int} : ∀ x ∈ numsOf ws, 0 ≤ x ∧ x < 10000 := by
  intro x hx
  rcases List.mem_append.mp hx with hx | hx
  · simp only [List.mem_cons, List.not_mem_nil, or_false] at hx
    lia
  · obtain ⟨k, _, rfl⟩ := List.mem_map.mp hx
    have := Int.fmod_eq_emod_of_nonneg k (b := 10000) (by decide)
    lia
theorem numsOf_at {ws : List Int} (i : Nat) : 0 ≤ (numsOf ws).getD i 0 ∧ (numsOf ws).getD i 0 < 10000 := by
  rw [List.getD_eq_getElem?_getD]
  cases h : (numsOf ws)[i]? with
  | none => simp
  | some x => exact numsOf_get x (List.mem_of_getElem? h)
theorem numsOf_len {ws : List Int} : (numsOf ws).length = 5 + (drawnOf ws).length ∧ (drawnOf ws).length ≤ 5 := by
  refine ⟨by simp [numsOf]; lia, ?_⟩
  unfold drawnOf
  rw [List.length_map, List.length_take]
  lia
theorem st1_len (ns : List Int) : ∀ i, (st1 ns i).1.length ≤ i ∧ (st1 ns i).2.length = i
  | 0 => ⟨Nat.le_refl _, rfl⟩
  | i + 1 => by
    obtain ⟨h1, h2⟩ := st1_len ns i
    refine ⟨?_, ?_⟩
    · show (step1 _ _ _).1.length ≤ _
      unfold step1
      dsimp only
      split
      · rw [List.length_append, List.length_take, List.length_singleton]; lia
      · rw [List.length_take]; lia
    · show (step1 _ _ _).2.length = _
      unfold step1
      rw [List.length_append, h2, List.length_singleton]
theorem news_l1 {g h : Heap} {L : Addr} {a b c x1 x2 x3 : Addr × Obj} {cs : List (Addr × Obj)} (N : News g L h (a :: b :: c :: x1 :: x2 :: x3 :: cs)) : News g L h (a :: b :: c :: cs) := by
  exact news_sub N (perm_sub [a, b, c, x1, x2, x3] cs [0, 1, 2] rfl)
section
variable {prog : Program} {w : World} {A : Around} {E : Value → Shared → Prop} {s : Shared} {value slice : PySem.Expr} {h₀ : Heap} {L l : Addr} {vs : List Value} {ns : List Int} {n : Nat} {u : Tok} {news : List (Addr × Obj)} {Q : Value → Shared → Prop}
theorem intsAre_last {vs : List Value} {ns : List Int} (h : IntsAre vs ns) (hne : ns ≠ []) : ∃ t, vs[vs.length - 1]? = some (.int (ns.getLastD (-1)) t) := by
  induction h with
  | nil => exact absurd rfl hne
  | cons n t r ih =>
    cases r with
    | nil => exact ⟨t, rfl⟩
    | cons n' t' r' =>
      obtain ⟨u, hu⟩ := ih (by simp)
      exact ⟨u, by simpa using hu⟩
theorem item_last (N : News h₀ L s.heap news) (hm : (l, W.listOf (List.toArray vs) n) ∈ news) (hi : IntsAre vs ns) (hne : decide (ns = []) = false) (hz : ns.length ≤ 1000) (h : ∀ t, Q (.int (ns.getLastD (-1)) t) s)
    (hs : subscripted slice false (.ref l) (.int (-1) u) = operate [.ref l, .int (-1) u] (getItem (.ref l) (.int (-1) u)) := by with_unfolding_all rfl) :
    wpAny (model prog w) A (subscriptTail value slice (.ref l) (.int (-1) u)) Q E s := by
  obtain ⟨t, ht⟩ := intsAre_last hi (of_decide_eq_false hne)
  have hl := hi.length
  have hn : 0 < ns.length := List.length_pos_iff.mpr (of_decide_eq_false hne)
  refine tail_any (News.isList N hm).typeIs slot_list_getitem.lookup (wpAny_getItem_list_neg (News.isList N hm) (by decide) (by rw [List.size_toArray]; lia) (by decide) ?_ (h t)) hs
  rw [List.size_toArray, List.getElem?_toArray, show ((-1 : Int) + (vs.length : Nat)).toNat = vs.length - 1 by rw [Int.add_comm]; exact Int.toNat_sub vs.length 1]
  exact ht
end
theorem cutE {n : Nat} {y : Int} (h : 0 ≤ y) : (if (n : Int) - (y.fdiv 4).fmod 3 > 0 then (n : Int) - (y.fdiv 4).fmod 3 else 0).toNat = n - (y / 4 % 3).toNat := by
  rw [Int.fdiv_eq_ediv_of_nonneg y (by decide), Int.fmod_eq_emod_of_nonneg _ (by decide)]
  obtain ⟨m, hm⟩ := Int.eq_ofNat_of_zero_le (Int.emod_nonneg (y / 4) (show (3 : Int) ≠ 0 by decide))
  rw [hm]
  split
  · exact Int.toNat_sub n m
  · rename_i hle
    exact (Nat.sub_eq_zero_of_le (Int.ofNat_le.mp (Int.le_of_sub_nonpos (Int.not_lt.mp hle)))).symm
theorem intsAre_snoc {us : List Int} {uvs : List Value} {v : Int} {t : Tok} (h : IntsAre uvs us) : IntsAre (uvs ++ [.int v t]) (us ++ [v]) := by
  induction h with
  | nil => exact .cons _ _ .nil
  | cons n u _ ih => exact .cons n u ih
theorem JL1.step {ns : List Int} {T : Int} {cs : List (Addr × Obj)} {uA nA oA' : Addr} {nvs ovs' uvs : List Value} {nz oz uz i : Nat} {m : Str → Option Value} {op us o2 D : List Int} {v : Int} {t tT : Tok}
    (hst : st1 ns i = (op, us)) (hy : 0 ≤ ns.getD i 0) (e1 : m (Str.ofString "numbers") = some (.ref nA)) (e2 : m (Str.ofString "total") = some (.int T tT)) (e3 : m (Str.ofString "ups") = some (.ref uA)) (e4 : m (Str.ofString "opened") = some (.ref oA'))
    (hlt : @LT.lt Nat _ uA oA')
    (hD : D = List.take (if (op.length : Int) - ((ns.getD (Int.toNat (i : Nat)) 0).fdiv 4).fmod 3 > 0 then (op.length : Int) - ((ns.getD (Int.toNat (i : Nat)) 0).fdiv 4).fmod 3 else 0).toNat op)
    (hov : IntsAre ovs' o2) (ho2 : ((ns.getD (Int.toNat (i : Nat)) 0).fmod 4 = 0 ∧ o2 = D ++ [(i : Int)]) ∨ ((ns.getD (Int.toNat (i : Nat)) 0).fmod 4 ≠ 0 ∧ o2 = D))
    (hv : v = D.getLastD (-1)) (huv : IntsAre uvs us) :
    JL1 ns T cs uA nA nvs nz (i + 1) m ((oA', W.listOf (List.toArray ovs') oz) :: (uA, W.listOf ((List.toArray uvs).push (.int v t)) uz) :: (nA, W.listOf (List.toArray nvs) nz) :: cs) := by
  rw [Int.toNat_natCast] at hD ho2
  rw [cutE hy] at hD
  rw [Int.fmod_eq_emod_of_nonneg _ (by decide)] at ho2
  have hs : st1 ns (i + 1) = (o2, us ++ [v]) := by
    show step1 (st1 ns i) i (ns.getD i 0) = _
    rw [hst]
    unfold step1
    dsimp only
    rw [← hD, ← hv]
    rcases ho2 with ⟨h, e⟩ | ⟨h, e⟩
    · rw [if_pos h, e]
    · rw [if_neg h, e]
  refine ⟨e1, ⟨_, e2⟩, e3, oA', ovs', oz, uvs ++ [.int v t], uz, e4, hlt, ?_, ?_, ?_⟩
  · rw [hs]; exact hov
  · rw [hs]; exact intsAre_snoc huv
  · simp
theorem l1_apart {I oA uA nA oA' : Addr} {x x' y y' z : Obj} {cs : List (Addr × Obj)} (hn : ∀ p ∈ (oA, x) :: (uA, y) :: (nA, z) :: cs, p.1 ≠ I) (h : oA' ≠ I) : ∀ p ∈ (oA', x') :: (uA, y') :: (nA, z) :: cs, p.1 ≠ I := by
  intro p hp
  rcases List.mem_cons.mp hp with rfl | hp
  · exact h
  rcases List.mem_cons.mp hp with rfl | hp
  · exact hn (uA, y) (.tail _ (.head _))
  · exact hn p (.tail _ (.tail _ hp))
theorem news_l1A {g h : Heap} {L : Addr} {a x1 x2 x3 i x4 b c : Addr × Obj} {cs : List (Addr × Obj)} (N : News g L h (a :: x1 :: x2 :: x3 :: i :: x4 :: b :: c :: cs)) : News g L h (i :: a :: b :: c :: cs) := by
  exact news_sub N (perm_sub [a, x1, x2, x3, i, x4, b, c] cs [4, 0, 6, 7] rfl)
theorem news_l1B {g h : Heap} {L : Addr} {a x1 i x4 b c : Addr × Obj} {cs : List (Addr × Obj)} (N : News g L h (x1 :: a :: i :: x4 :: b :: c :: cs)) : News g L h (i :: a :: b :: c :: cs) := by
  exact news_sub N (perm_sub [x1, a, i, x4, b, c] cs [2, 1, 4, 5] rfl)
theorem last_nil {D : List Int} (h : decide (D = []) = true) : (-1 : Int) = D.getLastD (-1) := by rw [of_decide_eq_true h]; rfl
/-- the pattern by the numbers' sum -/
def headOf (T : Int) : Str := [Str.ofString "?", Str.ofString "d", Str.ofString "[!d]", Str.ofString "[-l]"].getD (T.fmod 4).toNat Str.empty
def tailOf (T : Int) : Str := [Str.ofString "", Str.ofString "a", Str.ofString "/é", Str.ofString " ?"].getD ((T.fdiv 4).fmod 4).toNat Str.empty
def patOf (T : Int) : Str := headOf T ++ Str.ofString "*" ++ tailOf T
/-- the octets ahead of all places -/
def hdrI (T : Int) (us : List Int) : List Int := [((patOf T).length : Int)] ++ (patOf T).cps.toList.map (fun c : Nat => (c : Int)) ++ [((us.count (-1) : Nat) : Int)]
def hdrOf (T : Int) (us : List Int) : List UInt8 := (hdrI T us).map fun n => n.toNat.toUInt8
theorem pick4 {P : Str → Prop} {a b c d : Str} (ha : P a) (hb : P b) (hc : P c) (hd : P d) (he : P Str.empty) (k : Nat) : P ([a, b, c, d].getD k Str.empty) := by
  rcases k with _ | _ | _ | _ | k
  · exact ha
  · exact hb
  · exact hc
  · exact hd
  · exact he
theorem patOf_small (T : Int) : (patOf T).length ≤ 9 ∧ ∀ c ∈ (patOf T).cps.toList, c < 256 := by
  unfold patOf headOf tailOf
  refine pick4 (P := fun h => (h ++ Str.ofString "*" ++ _).length ≤ 9 ∧ ∀ c ∈ (h ++ Str.ofString "*" ++ _).cps.toList, c < 256) ?_ ?_ ?_ ?_ ?_ _
  all_goals refine pick4 (P := fun t => (_ ++ Str.ofString "*" ++ t).length ≤ 9 ∧ ∀ c ∈ (_ ++ Str.ofString "*" ++ t).cps.toList, c < 256) ?_ ?_ ?_ ?_ ?_ _
  all_goals decide +kernel
theorem hdrI_small {T : Int} {us : List Int} (hu : us.length ≤ 200) : ∀ n ∈ hdrI T us, 0 ≤ n ∧ n < 256 := by
  intro n hn
  obtain ⟨h1, h2⟩ := patOf_small T
  unfold hdrI at hn
  rcases List.mem_append.mp hn with hn | hn
  · rcases List.mem_append.mp hn with hn | hn
    · rw [List.mem_singleton.mp hn]; lia
    · obtain ⟨c, hc, rfl⟩ := List.mem_map.mp hn
      have := h2 c hc
      lia
  · rw [List.mem_singleton.mp hn]
    have := List.count_le_length (a := (-1 : Int)) (l := us)
    lia

/-- the promise of a call that leaves all that stands as it is: an answer and what it made -/
def MeetP (w : World) (f : Addr) (args : List Value) (D U : Nat) (Ok : Value → List (Addr × Obj) → Prop) : Prop :=
  ∀ (p : Program) (loose : List Str) (mean : ExcName → Option Value) (mg mb : Str → Option Value) (dp un : Nat) (gd : Option (List Code)) (cn : Str) (cs : Scope) (a : Addr) (ccd : Value) (cl : List (Str × Addr)) (outer : List Env) (A₀ : Around) (base h₀ : Heap) (L : Addr) (m : Str → Option Value) (s : Shared)
    (Q E : Value → Shared → Prop),
    Below A₀ base outer h₀ → Fr h₀ L s.heap m → (hd.heap_39 w.params).In h₀ → Top p loose mean mg mb h₀ → cs.kind = .function → dp + D < recursionLimit → un + U < cLine →
    (∀ r led' h' tk', Ok r led' → Fr h₀ L h' m → News h₀ L h' led' → (∀ b o, s.heap.get? b = some o → h'.get? b = some o) → Q r { s with heap := h', toks := tk' }) →
    wpAny (model PP w) (ktrTop dp un gd cn cs L a ccd cl outer) (call (.ref f) args) Q E s
theorem MeetP.frame {w : World} {f : Addr} {args : List Value} {D U : Nat} {Ok : Value → List (Addr × Obj) → Prop} (H : MeetP w f args D U Ok) {led : List (Addr × Obj)} :
    Meet w f args D U led (fun v led' => ∃ l, Ok v l ∧ led' = l ++ led) (fun _ => False) := by
  intro p loose mean mg mb dp un gd cn cs a ccd cl outer A₀ base h₀ L m s Q E B F X N T hk hdp hu hret _
  refine H p loose mean mg mb dp un gd cn cs a ccd cl outer A₀ base h₀ L m s Q E B F X T hk hdp hu fun r led' h' tk' ok F' N' k => hret r _ h' tk' ⟨led', ok, rfl⟩ F' fun q hq => ?_
  rcases List.mem_append.mp hq with hq | hq
  · exact N' q hq
  · exact ⟨k _ _ (N q hq).1, (N q hq).2⟩
theorem MeetP.here {w : World} {f : Addr} {args : List Value} {D U : Nat} {V : Value → Prop} (H : MeetP w f args D U (fun v _ => V v)) {led : List (Addr × Obj)} :
    Meet w f args D U led (fun v led' => V v ∧ led' = led) (fun _ => False) := by
  intro p loose mean mg mb dp un gd cn cs a ccd cl outer A₀ base h₀ L m s Q E B F X N T hk hdp hu hret _
  exact H p loose mean mg mb dp un gd cn cs a ccd cl outer A₀ base h₀ L m s Q E B F X T hk hdp hu fun r led' h' tk' ok F' N' k => hret r _ h' tk' ⟨ok, rfl⟩ F' fun q hq => ⟨k _ _ (N q hq).1, (N q hq).2⟩
/-- the same, from a heap of which something is known -/
def MeetQ (w : World) (f : Addr) (args : List Value) (D U : Nat) (Pre : Heap → Prop) (Ok : Value → Prop) : Prop :=
  ∀ (p : Program) (loose : List Str) (mean : ExcName → Option Value) (mg mb : Str → Option Value) (dp un : Nat) (gd : Option (List Code)) (cn : Str) (cs : Scope) (a : Addr) (ccd : Value) (cl : List (Str × Addr)) (outer : List Env) (A₀ : Around) (base h₀ : Heap) (L : Addr) (m : Str → Option Value) (s : Shared)
    (Q E : Value → Shared → Prop),
    Below A₀ base outer h₀ → Fr h₀ L s.heap m → (hd.heap_39 w.params).In h₀ → Top p loose mean mg mb h₀ → cs.kind = .function → dp + D < recursionLimit → un + U < cLine → Pre s.heap →
    (∀ r led' h' tk', Ok r → Fr h₀ L h' m → News h₀ L h' led' → (∀ b o, s.heap.get? b = some o → h'.get? b = some o) → Q r { s with heap := h', toks := tk' }) →
    wpAny (model PP w) (ktrTop dp un gd cn cs L a ccd cl outer) (call (.ref f) args) Q E s
theorem MeetQ.here {w : World} {f : Addr} {args : List Value} {D U : Nat} {V : Value → Prop} {Pre : Heap → Prop} (H : MeetQ w f args D U Pre V) {led : List (Addr × Obj)} (hp : ∀ h₀ L h, News h₀ L h led → Pre h) :
    Meet w f args D U led (fun v led' => V v ∧ led' = led) (fun _ => False) := by
  intro p loose mean mg mb dp un gd cn cs a ccd cl outer A₀ base h₀ L m s Q E B F X N T hk hdp hu hret _
  exact H p loose mean mg mb dp un gd cn cs a ccd cl outer A₀ base h₀ L m s Q E B F X T hk hdp hu (hp _ _ _ N) fun r led' h' tk' ok F' N' k => hret r _ h' tk' ⟨ok, rfl⟩ F' fun q hq => ⟨k _ _ (N q hq).1, (N q hq).2⟩
section
variable {w : World} {f : Addr} {args : List Value} {D U : Nat} {p : Program} {loose : List Str} {mean : ExcName → Option Value} {mg mb : Str → Option Value} {dp un : Nat} {gd : Option (List Code)} {cn : Str} {cs : Scope} {a : Addr} {ccd : Value} {cl : List (Str × Addr)} {outer : List Env} {A₀ : Around} {base h₀ : Heap} {L : Addr} {m : Str → Option Value} {s : Shared} {Q E : Value → Shared → Prop} {led : List (Addr × Obj)}
theorem MeetP.go {v : Value} (H : MeetP w f args D U (fun r _ => r = v)) (B : Below A₀ base outer h₀ := by k_asm) (F : Fr h₀ L s.heap m := by k_asm) (N : News h₀ L s.heap (led) := by k_asm) (X : (hd.heap_39 w.params).In h₀ := by k_asm) (T : Top p loose mean mg mb h₀ := by k_asm) (hk : cs.kind = .function := by first | rfl | assumption) (hd : dp + D < recursionLimit := by ktr_room) (hu : un + U < cLine := by ktr_units)
    (ret : ∀ h' tk', Fr h₀ L h' m → News h₀ L h' led → Q v { s with heap := h', toks := tk' }) :
    wpAny (model PP w) (ktrTop dp un gd cn cs L a ccd cl outer) (call (.ref f) args) Q E s :=
  Meet.use (MeetP.here (V := fun r => r = v) H) B F X N T hk hd hu (fun _ _ h' tk' ok F' N' => by obtain ⟨rfl, rfl⟩ := ok; exact ret h' tk' F' N') (fun _ _ _ _ _ h => h.elim)
theorem MeetP.goT {x : Str} (H : MeetP w f args D U (fun r _ => ∃ t, r = .str x t)) (B : Below A₀ base outer h₀ := by k_asm) (F : Fr h₀ L s.heap m := by k_asm) (N : News h₀ L s.heap (led) := by k_asm) (X : (hd.heap_39 w.params).In h₀ := by k_asm) (T : Top p loose mean mg mb h₀ := by k_asm) (hk : cs.kind = .function := by first | rfl | assumption) (hd : dp + D < recursionLimit := by ktr_room) (hu : un + U < cLine := by ktr_units)
    (ret : ∀ t h' tk', Fr h₀ L h' m → News h₀ L h' led → Q (.str x t) { s with heap := h', toks := tk' }) :
    wpAny (model PP w) (ktrTop dp un gd cn cs L a ccd cl outer) (call (.ref f) args) Q E s :=
  Meet.use (MeetP.here (V := fun r => ∃ t, r = .str x t) H) B F X N T hk hd hu (fun _ _ h' tk' ok F' N' => by obtain ⟨⟨t, rfl⟩, rfl⟩ := ok; exact ret t h' tk' F' N') (fun _ _ _ _ _ h => h.elim)
end
def KeptBy (h h' : Heap) : Prop := ∀ b o, h.get? b = some o → h'.get? b = some o
section
variable {prog : Program} {w : World} {A A₀ : Around} {E : Value → Shared → Prop} {s : Shared} {K : Frag} {L : Addr} {h₀ base : Heap} {m mg mb : Str → Option Value} {p : Program} {loose : List Str} {mean : ExcName → Option Value}
theorem code_defP {env : Env} {outer : List Env} {R : Result → Shared → Prop} {name qual : Str} {params : Arguments} {body : List Stmt} {scope : Scope} {dV kV doc pm cdv ct oc : Value} {an od : Option Addr} {osl : Array (Option Value)} {f : Addr} {args : Args} {binds : List (Str × Value)}
    (B : Below A₀ base outer h₀) (F : Fr h₀ L s.heap m) (X₀ : K.In h₀) (T : Top p loose mean mg mb h₀) (hA : A.frames = some (env :: outer)) (hf : env.frame = some L) (hke : env.scope.kind = .function)
    (ho : K.lookup f = some ⟨oc, od, .func (fnOf name qual params body scope dV kV doc pm an cdv ct), osl⟩) (hcd : codeIn K cdv qual = true) (hroom : A.depth < recursionLimit)
    (hbind : BindsTo s (fnOf name qual params body scope dV kV doc pm an cdv ct) args binds) (hloc : ∀ y ∈ binds, scope.names.lookup y.1 = some .local)
    (h : ∀ g L' h₁, KeptBy s.heap g → Fr h₀ L g m → Fr g L' h₁ (fun y => binds.reverse.lookup y) → News g L' h₁ [] → Below A base (env :: outer) g → K.In g → Top p loose mean mg mb g →
      wpAny (model prog w) (A.deeper (envOf qual scope L' f cdv)) (execs body (envOf qual scope L' f cdv))
        (fun fl s' => LeaveK h₀ L m g R (match fl with | .ret v => v | _ => .none) s')
        (fun e s' => wpAny (model prog w) (A.deeper (envOf qual scope L' f cdv)) (leaving (envOf qual scope L' f cdv) e) (fun _ s'' => R (.error e) s'') (fun e' s'' => R (.error e') s'') s')
        { s with heap := h₁, toks := s.toks + binds.length })
    (hco : scope.isCoroutine = false) (hgen : scope.isGenerator = false) (hk : scope.kind = .function)
    (hcell : ∀ x ∈ scope.names, x.2 ≠ .cell) : codeAny (model prog w) A (.call (.ref f) args) R s := by
  obtain ⟨FG, BG, st, lv⟩ := groundX (R := R) (news := []) B F News.nil hA hf hke
  refine codeAny_call_def (fd := fnX name qual params body scope [] dV kV doc pm an cdv ct) (body := body) (binds := binds) hroom ((X₀.keeps F.keep) _ _ ho) rfl (T.nolimit.keeps F.keep) (codeRec_of (X₀.keeps F.keep) hcd) rfl hbind hcell hloc (fun h₁ hns hk₁ => ?_) hco hgen hk
  exact wpAny_mono (h _ s.heap.objs.size h₁ (fun _ _ e => e) FG ⟨hns, hk₁, Nat.le_refl _⟩ News.nil BG (X₀.keeps st) (T.keeps st)) (fun fl s' hl => lv _ _ hl) fun _ _ y => y
end
theorem idx8a {c u v : Int} (hc : c = 0 ∨ c = 4) : -((8 : Nat) : Int) ≤ c + 2 * u.fmod 2 + v.fmod 2 := by
  have h1 := Int.fmod_nonneg_of_pos u (show (0 : Int) < 2 by decide)
  have h2 := Int.fmod_nonneg_of_pos v (show (0 : Int) < 2 by decide)
  lia
theorem idx8b {c u v : Int} (hc : c = 0 ∨ c = 4) : c + 2 * u.fmod 2 + v.fmod 2 < ((8 : Nat) : Int) := by
  have h1 := Int.fmod_lt_of_pos u (show (0 : Int) < 2 by decide)
  have h2 := Int.fmod_lt_of_pos v (show (0 : Int) < 2 by decide)
  lia
theorem names2 {m : Str → Option Value} {x y : Str} {a b : Value} (h1 : m x = some a) (h2 : m y = some b) : m = fun z => if z = x then some a else if z = y then some b else m z := by
  funext z
  by_cases hx : z = x
  · subst hx; simp [h1]
  · by_cases hy : z = y
    · subst hy; simp [hx, h2]
    · simp [hx, hy]
theorem names3 {m : Str → Option Value} {x y u : Str} {a b c : Value} (h1 : m x = some a) (h2 : m y = some b) (h3 : m u = some c) : m = fun z => if z = x then some a else if z = y then some b else if z = u then some c else m z := by
  funext z
  by_cases hx : z = x
  · subst hx; simp [h1]
  · by_cases hy : z = y
    · subst hy; simp [hx, h2]
    · by_cases hu : z = u
      · subst hu; simp [hx, hy, h3]
      · simp [hx, hy, hu]

/-- a call that may change what stands in X alone -/
def MeetX (w : World) (f : Addr) (args : List Value) (D U : Nat) (X : List (Addr × Obj)) (Ok : Value → List (Addr × Obj) → Prop) : Prop :=
  ∀ (p : Program) (loose : List Str) (mean : ExcName → Option Value) (mg mb : Str → Option Value) (dp un : Nat) (gd : Option (List Code)) (cn : Str) (cs : Scope) (a : Addr) (ccd : Value) (cl : List (Str × Addr)) (outer : List Env) (A₀ : Around) (base h₀ : Heap) (L : Addr) (m : Str → Option Value) (s : Shared)
    (Q E : Value → Shared → Prop),
    Below A₀ base outer h₀ → Fr h₀ L s.heap m → (hd.heap_39 w.params).In h₀ → News h₀ L s.heap X → Top p loose mean mg mb h₀ → cs.kind = .function → dp + D < recursionLimit → un + U < cLine →
    (∀ r led' h' tk', Ok r led' → Fr h₀ L h' m → News h₀ L h' led' → (∀ b o, b ∉ X.map (·.1) → s.heap.get? b = some o → h'.get? b = some o) → Q r { s with heap := h', toks := tk' }) →
    wpAny (model PP w) (ktrTop dp un gd cn cs L a ccd cl outer) (call (.ref f) args) Q E s
theorem MeetX.frame {w : World} {f : Addr} {args : List Value} {D U : Nat} {X : List (Addr × Obj)} {Ok : Value → List (Addr × Obj) → Prop} (H : MeetX w f args D U X Ok) {rest : List (Addr × Obj)} (hx : ∀ q ∈ rest, q.1 ∉ X.map (·.1)) :
    Meet w f args D U (X ++ rest) (fun v led' => ∃ l, Ok v l ∧ led' = l ++ rest) (fun _ => False) := by
  intro p loose mean mg mb dp un gd cn cs a ccd cl outer A₀ base h₀ L m s Q E B F X' N T hk hdp hu hret _
  refine H p loose mean mg mb dp un gd cn cs a ccd cl outer A₀ base h₀ L m s Q E B F X' (fun q hq => N q (List.mem_append_left _ hq)) T hk hdp hu fun r led' h' tk' ok F' N' k => hret r _ h' tk' ⟨led', ok, rfl⟩ F' fun q hq => ?_
  rcases List.mem_append.mp hq with hq | hq
  · exact N' q hq
  · exact ⟨k _ _ (hx q hq) (N q (List.mem_append_right _ hq)).1, (N q (List.mem_append_right _ hq)).2⟩
def KeptOff (X : List Addr) (h h' : Heap) : Prop := ∀ b o, b ∉ X → h.get? b = some o → h'.get? b = some o
section
variable {prog : Program} {w : World} {A A₀ : Around} {E : Value → Shared → Prop} {s : Shared} {K : Frag} {L : Addr} {h₀ base : Heap} {m mg mb : Str → Option Value} {p : Program} {loose : List Str} {mean : ExcName → Option Value} {news : List (Addr × Obj)}
theorem code_defX {env : Env} {outer : List Env} {R : Result → Shared → Prop} {name qual : Str} {params : Arguments} {body : List Stmt} {scope : Scope} {dV kV doc pm cdv ct oc : Value} {an od : Option Addr} {osl : Array (Option Value)} {f : Addr} {args : Args} {binds : List (Str × Value)}
    (B : Below A₀ base outer h₀) (F : Fr h₀ L s.heap m) (X₀ : K.In h₀) (N : News h₀ L s.heap news) (T : Top p loose mean mg mb h₀) (hA : A.frames = some (env :: outer)) (hf : env.frame = some L) (hke : env.scope.kind = .function)
    (ho : K.lookup f = some ⟨oc, od, .func (fnOf name qual params body scope dV kV doc pm an cdv ct), osl⟩) (hcd : codeIn K cdv qual = true) (hroom : A.depth < recursionLimit)
    (hbind : BindsTo s (fnOf name qual params body scope dV kV doc pm an cdv ct) args binds) (hloc : ∀ y ∈ binds, scope.names.lookup y.1 = some .local)
    (h : ∀ g L' h₁, KeptOff (news.map (·.1)) s.heap g → Fr h₀ L g m → Fr g L' h₁ (fun y => binds.reverse.lookup y) → News g L' h₁ news → Below A base (env :: outer) g → K.In g → Top p loose mean mg mb g → (∀ p ∈ news, p.1 < L') →
      wpAny (model prog w) (A.deeper (envOf qual scope L' f cdv)) (execs body (envOf qual scope L' f cdv))
        (fun fl s' => LeaveK h₀ L m g R (match fl with | .ret v => v | _ => .none) s')
        (fun e s' => wpAny (model prog w) (A.deeper (envOf qual scope L' f cdv)) (leaving (envOf qual scope L' f cdv) e) (fun _ s'' => R (.error e) s'') (fun e' s'' => R (.error e') s'') s')
        { s with heap := h₁, toks := s.toks + binds.length })
    (hco : scope.isCoroutine = false) (hgen : scope.isGenerator = false) (hk : scope.kind = .function)
    (hcell : ∀ x ∈ scope.names, x.2 ≠ .cell) : codeAny (model prog w) A (.call (.ref f) args) R s := by
  obtain ⟨FG, BG, st, lv⟩ := groundX (R := R) B F N hA hf hke
  refine codeAny_call_def (fd := fnX name qual params body scope [] dV kV doc pm an cdv ct) (body := body) (binds := binds) hroom ((X₀.keeps F.keep) _ _ ho) rfl (T.nolimit.keeps F.keep) (codeRec_of (X₀.keeps F.keep) hcd) rfl hbind hcell hloc (fun h₁ hns hk₁ => ?_) hco hgen hk
  exact wpAny_mono (h _ s.heap.objs.size h₁ (fun b o hb e => hideAll_get _ e hb) FG ⟨hns, fun b o e => hk₁ b o (of_hideAll _ e), Nat.le_of_eq (hideAll_size _ _)⟩
    (fun p hp => ⟨hk₁ _ _ (N p hp).1, Nat.ne_of_lt (Heap.lt_size (N p hp).1), hideAll_none _ (List.mem_map_of_mem hp)⟩) BG (X₀.keeps st) (T.keeps st) (fun p hp => Heap.lt_size (N p hp).1)) (fun fl s' hl => lv _ _ hl) fun _ _ y => y
end

namespace Lat
open Builtin Builtin._codecs
theorem loop_latin {σ : Type} (b : List UInt8) (f : Nat → Nat × Array Nat × σ → Sem (ForInStep (Nat × Array Nat × σ)))
    (hf : ∀ x p out st, out.size ≤ b.length → (h : p < b.length) → f x (p, out, st) = pure (.yield (p + 1, out ++ #[(b[p]).toNat], st))) :
    ∀ (k m p : Nat) (out : Array Nat) (st : σ), out.size = p → p + k = b.length → forIn (m := Sem) (List.range' m k) (p, out, st) f = pure (b.length, out ++ ((b.drop p).map UInt8.toNat).toArray, st) := by
  intro k
  induction k with
  | zero => intro m p out st ho hk; rw [List.drop_eq_nil_of_le (by lia)]; obtain rfl : p = b.length := by lia
            simp
  | succ k ih =>
    intro m p out st ho hk
    rw [List.range'_succ, List.forIn_cons, hf m p out st (by lia) (by lia)]
    simp only [pure_bind]
    have e := List.drop_eq_getElem_cons (l := b) (i := p) (by lia)
    rw [ih (m + 1) (p + 1) _ st (by simp; lia) (by lia), e, List.map_cons]
    generalize (List.drop (p + 1) b).map UInt8.toNat = l
    generalize (b[p]).toNat = x
    simp
theorem run_latin (id : String) (b : List UInt8) (hz : b.length ≤ 1000) : runDecoder id latin1Decoder none true b.toArray 0 [] = pure ((b.map UInt8.toNat).toArray, b.length) := by
  unfold runDecoder latin1Decoder
  simp only [Std.Legacy.Range.forIn_eq_forIn_range']
  rw [loop_latin b _ ?h [:b.toArray.size].size 0 0 #[] _ rfl (by simp [Std.Legacy.Range.size])]
  case h =>
    intro x p out st ho h
    have h1 : ¬ (out.size > sizeLine) := by rw [sizeLine_eq]; lia
    have h2 : ¬ (p ≥ b.toArray.size) := by simp; lia
    simp only [h1, h2, if_false, Found.char]
    simp [h]
  simp
theorem road_eq (id : String) (b : List UInt8) : decodeRoad id b.toArray (PySem.Str.ofString "latin-1") none [] = (runDecoder id latin1Decoder none true b.toArray 0 [] >>= fun r => mkStr ⟨r.1⟩) := by kernel_rfl
theorem meets_text {b : List UInt8} {t t1 t2 : Tok} {d : PySem.Str} (hz : b.length ≤ 1000) :
    Meets («_codecs.decode.text» ⟨[.bytes b.toArray t, .str (PySem.Str.ofString "latin-1") t1, .none, .str d t2], []⟩) (fun _ R s => R (.ok (.ret (.str ⟨(b.map UInt8.toNat).toArray⟩ s.toks))) { s with toks := s.toks + 1 }) := by
  refine .of_wp fun prog w A R s hS => ?_
  show wpAny _ _ (Bytes.bytesLike _ (.bytes b.toArray t) >>= fun r => _) _ _ s
  refine wpAny_bind (wpAny_of_eq KBd.like_eq ?_)
  refine wpAny_bind (wpAny_of_eq KBd.held_eq ?_)
  show wpAny _ _ (_codecs.decodeRoad _ b.toArray (PySem.Str.ofString "latin-1") none [] >>= fun v => _) _ _ s
  rw [road_eq, run_latin _ _ hz]
  refine wpAny_bind (wpAny_bind (wpAny_pure ?_))
  exact wpAny_mkStr (wpAny_pure ⟨_, rfl, hS⟩) (by show (b.map UInt8.toNat).toArray.size ≤ _; simp [sizeLine_eq]; lia)
theorem entry_nil {t t1 : Tok} : «bytes.decode» ⟨[.bytes ([] : List UInt8).toArray t, .str (PySem.Str.ofString "latin-1") t1], []⟩ = (do rule "bytes.decode.empty"; retStr Str.empty) := by kernel_rfl
theorem entry_eq {c : UInt8} {cs : List UInt8} {t t1 : Tok} : «bytes.decode» ⟨[.bytes (c :: cs).toArray t, .str (PySem.Str.ofString "latin-1") t1], []⟩ = (mkStr (PySem.Str.ofString "utf-8") >>= fun _ => mkStr (PySem.Str.ofString "latin-1") >>= fun e => mkStr (PySem.Str.ofString "bytes.decode") >>= fun d =>
    call (.builtin "_codecs.decode.text") [.bytes (c :: cs).toArray t, e, .none, d] >>= fun v => ret v) := by kernel_rfl
theorem args2 (a b : Value) : argsOk "bytes.decode" ⟨[a, b], []⟩ := by unfold argsOk; kernel_rfl
theorem meets_decode {b : List UInt8} {t t1 : Tok} (hz : b.length ≤ 1000) :
    Meets («bytes.decode» ⟨[.bytes b.toArray t, .str (PySem.Str.ofString "latin-1") t1], []⟩) (fun _ R s => ∀ t' k, R (.ok (.ret (.str ⟨(b.map UInt8.toNat).toArray⟩ t'))) { s with toks := k }) := by
  refine .of_wp fun prog w A R s h => ?_
  cases b with
  | nil =>
    rw [entry_nil]
    refine wpAny_bind (wpAny_rule ?_)
    exact wpAny_bind (wpAny_mkStr (wpAny_pure ⟨_, rfl, h _ _⟩) (by decide))
  | cons c cs =>
    rw [entry_eq]
    refine wpAny_bind (wpAny_mkStr ?_ (by decide))
    refine wpAny_bind (wpAny_mkStr ?_ (by decide))
    refine wpAny_bind (wpAny_mkStr ?_ (by decide))
    exact wpAny_bind (call_function_meets KBd.kind_text KBd.plain_text KBd.entry_text (KBd.args_text _ _ _ _) (meets_text hz) (wpAny_pure ⟨_, rfl, h _ _⟩))
theorem decode {prog : Program} {w : World} {A : Around} {E : Value → Shared → Prop} {s : Shared} {b : List UInt8} {t t1 : Tok} {Q : Value → Shared → Prop} (hsz : b.length ≤ 1000) (h : ∀ t' k, Q (.str ⟨(b.map UInt8.toNat).toArray⟩ t') { s with toks := k }) :
    wpAny (model prog w) A (call (.builtin "bytes.decode") [.bytes b.toArray t, .str (PySem.Str.ofString "latin-1") t1]) Q E s :=
  call_meets FB.slot_bytes_decode (typeIs_bytes _ _ _) FB.entry_bytes_decode (args2 _ _) (meets_decode hsz) h
section
variable {prog : Program} {w : World} {A : Around} {E : Value → Shared → Prop} {s : Shared} {t t1 u : Tok}
theorem truthy_nil {Q : Bool → Shared → Prop} (h : ∀ k, Q false { s with toks := k }) : wpAny (model prog w) A (truthy (.bytes ([] : List UInt8).toArray t)) Q E s := truthy_bytes (by decide) (h _)
theorem truthy_cons {Q : Bool → Shared → Prop} {b : UInt8} {r : List UInt8} (hz : r.length ≤ 100000) (h : ∀ k, Q true { s with toks := k }) : wpAny (model prog w) A (truthy (.bytes (b :: r).toArray t)) Q E s := by
  refine truthy_bytes (by simp; lia) ?_
  have e : (((b :: r).toArray.size : Int) != 0) = true := by simp; lia
  rw [e]; exact h _
theorem item0 {value slice : PySem.Expr} {Q : Value → Shared → Prop} {b : UInt8} {r : List UInt8} (hz : r.length ≤ 100000) (h : ∀ t' k, Q (.int (b.toNat : Int) t') { s with toks := k })
    (hs : subscripted slice false (.bytes (b :: r).toArray t) (.int 0 u) = operate [.bytes (b :: r).toArray t, .int 0 u] (getItem (.bytes (b :: r).toArray t) (.int 0 u)) := by with_unfolding_all rfl)
    (ht : ∀ q, letTemporaryGo value (.bytes (b :: r).toArray t) q = pure () := by intro _; with_unfolding_all rfl) : wpAny (model prog w) A (subscriptTail value slice (.bytes (b :: r).toArray t) (.int 0 u)) Q E s :=
  tail_of_ItemOn ⟨"bytes", _, FB.slot_bytes_getitem.lookup, typeIs_bytes _ _ _, getItem_bytes (by simp; lia) (by decide) (by simp) (h _ _)⟩ hs ht
theorem lenL {Q : Value → Shared → Prop} {d : List UInt8} (hz : d.length ≤ 100000) (h : ∀ t' k, Q (.int (d.length : Int) t') { s with toks := k }) : wpAny (model prog w) A (call (.builtin "len") [.bytes d.toArray t]) Q E s :=
  len_bytes (by simp; lia) (h _ _)
end
end Lat

theorem resetD2 : True := by w_top off; trivial
theorem fmt1 {w : World} {A : Around} {E : Value → Shared → Prop} {s : Shared} {h₀ : Heap} {L : Addr} {news : List (Addr × Obj)} {n k : Int} {t1 t2 t : Tok} {b : Addr} {Q : Value → Shared → Prop} (X : (hd.heap_39 w.params).In h₀)
   (N : News h₀ L s.heap ((b, { cls := .type "tuple", data := .seq #[.int n t1, .int k t2] 0 }) :: news)) (h1 : 0 ≤ n) (h2 : n < 256) (h3 : 0 ≤ k) (h4 : k ≤ 1000) (h : ∀ S t' k', Q (.str S t') { s with toks := k' }) :
   wpAny (model PySem.Challenge.rw_in0217_01.row.prog w) A (binaryOp .Mod (.str (Str.ofString "expected %d bytes in a string1, but only %d remain") t) (.ref b)) Q E s := by
  walk1
  exact h _ _ _
theorem fmt2 {w : World} {A : Around} {E : Value → Shared → Prop} {s : Shared} {h₀ : Heap} {L : Addr} {news : List (Addr × Obj)} {n k : Int} {t1 t2 t : Tok} {b : Addr} {Q : Value → Shared → Prop} (X : (hd.heap_39 w.params).In h₀)
   (N : News h₀ L s.heap ((b, { cls := .type "tuple", data := .seq #[.int n t1, .int k t2] 0 }) :: news)) (h1 : 0 ≤ n) (h2 : n < 256) (h3 : 0 ≤ k) (h4 : k ≤ 1000) (h : ∀ S t' k', Q (.str S t') { s with toks := k' }) :
   wpAny (model PySem.Challenge.rw_in0217_01.row.prog w) A (binaryOp .Mod (.str (Str.ofString "expected %d bytes in a bytes1, but only %d remain") t) (.ref b)) Q E s := by
  walk1
  exact h _ _ _

/-- the ten signs of a mode -/
def kindCh (k : Nat) : Nat := [63, 112, 99, 63, 100, 63, 98, 63, 45, 63, 108, 63, 115, 63, 63, 63].getD k 63
def rCh (d : Nat) : Nat := if d = 1 then 114 else 45
def wCh (d : Nat) : Nat := if d = 1 then 119 else 45
def xCh (both only up lo : Nat) : Nat := if up = 1 then (if lo = 1 then both else only) else if lo = 1 then 120 else 45
def rowOf (n : Nat) : List Nat :=
  [kindCh (n / 4096), rCh (n / 256 % 2), wCh (n / 128 % 2), xCh 115 83 (n / 2048 % 2) (n / 64 % 2), rCh (n / 32 % 2), wCh (n / 16 % 2), xCh 115 83 (n / 1024 % 2) (n / 8 % 2), rCh (n / 4 % 2), wCh (n / 2 % 2), xCh 116 84 (n / 512 % 2) (n % 2)]
theorem fdv {a : Int} {k : Int} (h : 0 ≤ k) : a.fdiv k = a / k := Int.fdiv_eq_ediv_of_nonneg a h
theorem fmd {a : Int} {k : Int} (h : 0 ≤ k) : a.fmod k = a % k := Int.fmod_eq_emod_of_nonneg a h
theorem item_r {v : Int} {d : Nat} (hv : v = d) (hd : d < 2) : Txt.item (Str.ofString "-r") v = ⟨#[rCh d]⟩ := by
  subst hv
  rcases (show d = 0 ∨ d = 1 by lia) with rfl | rfl <;> decide
theorem item_w {v : Int} {d : Nat} (hv : v = d) (hd : d < 2) : Txt.item (Str.ofString "-w") v = ⟨#[wCh d]⟩ := by
  subst hv
  rcases (show d = 0 ∨ d = 1 by lia) with rfl | rfl <;> decide
theorem item_x {v : Int} {a d : Nat} (hv : v = 2 * a + d) (ha : a < 2) (hd : d < 2) : Txt.item (Str.ofString "-xSs-xTt") v = ⟨#[xCh 115 83 a d]⟩ := by
  subst hv
  rcases (show d = 0 ∨ d = 1 by lia) with rfl | rfl <;> rcases (show a = 0 ∨ a = 1 by lia) with rfl | rfl <;> decide
theorem item_t {v : Int} {a d : Nat} (hv : v = 4 + 2 * a + d) (ha : a < 2) (hd : d < 2) : Txt.item (Str.ofString "-xSs-xTt") v = ⟨#[xCh 116 84 a d]⟩ := by
  subst hv
  rcases (show d = 0 ∨ d = 1 by lia) with rfl | rfl <;> rcases (show a = 0 ∨ a = 1 by lia) with rfl | rfl <;> decide
theorem item_k {v : Int} {d : Nat} (hv : v = d) (hd : d < 16) : Txt.item (Str.ofString "?pc?d?b?-?l?s???") v = ⟨#[kindCh d]⟩ := by
  subst hv
  have : ∀ d : Fin 16, Txt.item (Str.ofString "?pc?d?b?-?l?s???") ((d.1 : Nat) : Int) = ⟨#[kindCh d.1]⟩ := by decide
  exact this ⟨d, hd⟩
theorem glue (a b : List Nat) : (⟨a.toArray⟩ : Str) ++ ⟨b.toArray⟩ = ⟨(a ++ b).toArray⟩ := by
  show Str.mk _ = _
  simp
theorem lt2 {n : Nat} : n % 2 < 2 := Nat.mod_lt n (by decide)
theorem iv (n a : Nat) : (n : Int) / (a : Int) = ((n / a : Nat) : Int) := rfl
theorem bq4 (n a : Nat) : n / a % 8 / 4 = n / (a * 4) % 2 := by
  rw [← Nat.div_div_eq_div_mul]; exact Nat.mod_mul_right_div_self (n / a) 4 2
theorem bq2 (n a : Nat) : n / a % 8 / 2 % 2 = n / (a * 2) % 2 := by
  rw [← Nat.div_div_eq_div_mul]
  exact (congrArg (· % 2) (Nat.mod_mul_right_div_self (n / a) 2 4)).trans (Nat.mod_mod_of_dvd _ ⟨2, rfl⟩)
theorem bq1 (m : Nat) : m % 8 % 2 = m % 2 := Nat.mod_mod_of_dvd m ⟨4, rfl⟩
theorem iv4 (n a e : Nat) (he : a * 4 = e) : (n : Int) / (a : Int) % 8 / 4 = ((n / e % 2 : Nat) : Int) := by subst he; exact congrArg Int.ofNat (bq4 n a)
theorem iv2 (n a e : Nat) (he : a * 2 = e) : (n : Int) / (a : Int) % 8 / 2 % 2 = ((n / e % 2 : Nat) : Int) := by subst he; exact congrArg Int.ofNat (bq2 n a)
theorem ivx (n a c : Nat) : 0 + 2 * ((n : Int) / (c : Int) % 2) + (n : Int) / (a : Int) % 8 % 2 = 2 * ((n / c % 2 : Nat) : Int) + ((n / a % 2 : Nat) : Int) := by
  rw [Int.zero_add]; exact congrArg (fun z => 2 * ((n / c % 2 : Nat) : Int) + Int.ofNat z) (bq1 (n / a))
theorem ivt (n c : Nat) : 4 + 2 * ((n : Int) / (c : Int) % 2) + (n : Int) / 1 % 8 % 2 = 4 + 2 * ((n / c % 2 : Nat) : Int) + ((n % 2 : Nat) : Int) := by
  rw [Int.ediv_one]; exact congrArg (fun z => 4 + 2 * ((n / c % 2 : Nat) : Int) + Int.ofNat z) (bq1 n)
theorem row_eq {n : Nat} (h : n < 65536) :
    Txt.item (Str.ofString "?pc?d?b?-?l?s???") ((n : Int).fdiv 4096) ++ Txt.item (Str.ofString "-r") ((((n : Int).fdiv 64).fmod 8).fdiv 4) ++ Txt.item (Str.ofString "-w") (((((n : Int).fdiv 64).fmod 8).fdiv 2).fmod 2) ++
      Txt.item (Str.ofString "-xSs-xTt") (0 + 2 * ((n : Int).fdiv 2048).fmod 2 + (((n : Int).fdiv 64).fmod 8).fmod 2) ++
      Txt.item (Str.ofString "-r") ((((n : Int).fdiv 8).fmod 8).fdiv 4) ++ Txt.item (Str.ofString "-w") (((((n : Int).fdiv 8).fmod 8).fdiv 2).fmod 2) ++
      Txt.item (Str.ofString "-xSs-xTt") (0 + 2 * ((n : Int).fdiv 1024).fmod 2 + (((n : Int).fdiv 8).fmod 8).fmod 2) ++
      Txt.item (Str.ofString "-r") ((((n : Int).fdiv 1).fmod 8).fdiv 4) ++ Txt.item (Str.ofString "-w") (((((n : Int).fdiv 1).fmod 8).fdiv 2).fmod 2) ++
      Txt.item (Str.ofString "-xSs-xTt") (4 + 2 * ((n : Int).fdiv 512).fmod 2 + (((n : Int).fdiv 1).fmod 8).fmod 2) = ⟨(rowOf n).toArray⟩ := by
  simp only [fdv (show (0 : Int) ≤ 4096 by decide), fdv (show (0 : Int) ≤ 64 by decide), fdv (show (0 : Int) ≤ 8 by decide), fdv (show (0 : Int) ≤ 1 by decide), fdv (show (0 : Int) ≤ 4 by decide), fdv (show (0 : Int) ≤ 2 by decide),
    fdv (show (0 : Int) ≤ 2048 by decide), fdv (show (0 : Int) ≤ 1024 by decide), fdv (show (0 : Int) ≤ 512 by decide), fmd (show (0 : Int) ≤ 8 by decide), fmd (show (0 : Int) ≤ 2 by decide)]
  rw [item_k (v := (n : Int) / 4096) (d := n / 4096) (iv n 4096) (by lia), item_r (v := (n : Int) / 64 % 8 / 4) (d := n / 256 % 2) (iv4 n 64 256 rfl) lt2, item_w (v := (n : Int) / 64 % 8 / 2 % 2) (d := n / 128 % 2) (iv2 n 64 128 rfl) lt2, item_x (v := 0 + 2 * ((n : Int) / 2048 % 2) + (n : Int) / 64 % 8 % 2) (a := n / 2048 % 2) (d := n / 64 % 2) (ivx n 64 2048) lt2 lt2,
    item_r (v := (n : Int) / 8 % 8 / 4) (d := n / 32 % 2) (iv4 n 8 32 rfl) lt2, item_w (v := (n : Int) / 8 % 8 / 2 % 2) (d := n / 16 % 2) (iv2 n 8 16 rfl) lt2, item_x (v := 0 + 2 * ((n : Int) / 1024 % 2) + (n : Int) / 8 % 8 % 2) (a := n / 1024 % 2) (d := n / 8 % 2) (ivx n 8 1024) lt2 lt2,
    item_r (v := (n : Int) / 1 % 8 / 4) (d := n / 4 % 2) (iv4 n 1 4 rfl) lt2, item_w (v := (n : Int) / 1 % 8 / 2 % 2) (d := n / 2 % 2) (iv2 n 1 2 rfl) lt2, item_t (v := 4 + 2 * ((n : Int) / 512 % 2) + (n : Int) / 1 % 8 % 2) (a := n / 512 % 2) (d := n % 2) (ivt n 512) lt2 lt2]
  simp only [glue]
  rfl

theorem and_up (k : Nat) : ∀ (x y : Int), Builtin.bitAnd x (2 ^ k * y) = 2 ^ k * Builtin.bitAnd (x / 2 ^ k) y := by
  induction k with
  | zero => intro x y; simp
  | succ k ih =>
    intro x y
    rw [kbt_halves]
    have e1 : (2 ^ (k + 1) * y : Int) = 2 * (2 ^ k * y) := by rw [Int.pow_succ, Int.mul_comm (2 ^ k) 2, Int.mul_assoc]
    have e2 : (2 ^ (k + 1) * y : Int) / 2 = 2 ^ k * y := by rw [e1]; exact Int.mul_ediv_cancel_left _ (by decide)
    have e3 : ¬ (x % 2 = 1 ∧ (2 ^ (k + 1) * y : Int) % 2 = 1) := by rw [e1]; lia
    rw [e2, if_neg e3, ih, Int.ediv_ediv_of_nonneg (by decide), Int.pow_succ, Int.mul_comm 2 (2 ^ k), Int.add_zero, ← Int.mul_assoc, Int.mul_comm 2 (2 ^ k)]
theorem and_ifmt {x : Int} (h0 : 0 ≤ x) (h1 : x < 65536) : Builtin.bitAnd x 61440 = x / 4096 * 4096 := by
  have h := and_up 12 x 15
  rw [bitAnd_m4] at h
  have e : (2 ^ 12 * 15 : Int) = 61440 := by decide
  rw [e] at h
  rw [h]
  have e2 : (2 ^ 12 : Int) = 4096 := by decide
  rw [e2]
  lia
theorem and_one (k : Nat) (x : Int) : Builtin.bitAnd x (2 ^ k) = (x / 2 ^ k % 2) * 2 ^ k := kbt_bit x k
theorem and_two (i j : Nat) (x : Int) : Builtin.bitAnd x (2 ^ i * (2 ^ (j + 1) + 1)) = 2 ^ i * ((x / 2 ^ i / 2 ^ (j + 1) % 2) * 2 ^ (j + 1) + x / 2 ^ i % 2) := by
  rw [and_up, kbt_halves]
  have e1 : (2 ^ (j + 1) + 1 : Int) / 2 = 2 ^ j := by rw [Int.pow_succ]; lia
  have e2 : (2 ^ (j + 1) + 1 : Int) % 2 = 1 := by rw [Int.pow_succ]; lia
  rw [e1, e2, kbt_bit]
  have e3 : x / 2 ^ i / 2 ^ (j + 1) = x / 2 ^ i / 2 / 2 ^ j := by rw [Int.pow_succ, Int.mul_comm, ← Int.ediv_ediv_of_nonneg (by decide)]
  rw [e3]
  generalize x / 2 ^ i / 2 / 2 ^ j % 2 = u
  generalize x / 2 ^ i = v
  congr 1
  have e4 : u * 2 ^ (j + 1) = 2 * (u * 2 ^ j) := by rw [Int.pow_succ, ← Int.mul_assoc, Int.mul_comm]
  rw [e4]
  split <;> lia
theorem and_256 (x : Int) : Builtin.bitAnd x 256 = x / 256 % 2 * 256 := and_one 8 x
theorem and_128 (x : Int) : Builtin.bitAnd x 128 = x / 128 % 2 * 128 := and_one 7 x
theorem and_2048 (x : Int) : Builtin.bitAnd x 2048 = x / 2048 % 2 * 2048 := and_one 11 x
theorem and_64 (x : Int) : Builtin.bitAnd x 64 = x / 64 % 2 * 64 := and_one 6 x
theorem and_32 (x : Int) : Builtin.bitAnd x 32 = x / 32 % 2 * 32 := and_one 5 x
theorem and_16 (x : Int) : Builtin.bitAnd x 16 = x / 16 % 2 * 16 := and_one 4 x
theorem and_1024 (x : Int) : Builtin.bitAnd x 1024 = x / 1024 % 2 * 1024 := and_one 10 x
theorem and_8 (x : Int) : Builtin.bitAnd x 8 = x / 8 % 2 * 8 := and_one 3 x
theorem and_4 (x : Int) : Builtin.bitAnd x 4 = x / 4 % 2 * 4 := and_one 2 x
theorem and_2 (x : Int) : Builtin.bitAnd x 2 = x / 2 % 2 * 2 := and_one 1 x
theorem and_512 (x : Int) : Builtin.bitAnd x 512 = x / 512 % 2 * 512 := and_one 9 x
theorem and_1 (x : Int) : Builtin.bitAnd x 1 = x % 2 := bitAnd_m1 x
theorem and_2112 (x : Int) : Builtin.bitAnd x 2112 = 64 * (x / 64 / 32 % 2 * 32 + x / 64 % 2) := and_two 6 4 x
theorem and_1032 (x : Int) : Builtin.bitAnd x 1032 = 8 * (x / 8 / 128 % 2 * 128 + x / 8 % 2) := and_two 3 6 x
theorem and_513 (x : Int) : Builtin.bitAnd x 513 = 1 * (x / 1 / 512 % 2 * 512 + x / 1 % 2) := and_two 0 8 x

local macro_rules | `(tactic| k_slotset) => `(tactic| first | exact ns0 | exact nl0 | exact nl0e | exact nn0 | exact nl1 | exact nl1e | exact nn1 | exact nl2 | exact nl2e | exact nn2 | exact nl3 | exact nn3 | exact nl4 | exact nl5 | exact nl6 | exact nl6e | exact nn6 | exact nl7 | exact nl7e | exact nn7 | exact nl8 | exact nn8 | exact nl9 | exact nl9e | exact nl10 | exact nl11 | exact nl12 | exact nl13)
local macro_rules | `(tactic| k_ne) => `(tactic| (refine neN ?_; (try dsimp only); first | k_slotset | (refine Ne.symm ?_; k_slotset)))
local macro_rules | `(tactic| k_put) => `(tactic| k_dflt (first | exact rm0 (by assumption) | exact rm1 (by assumption) rfl | exact rm2 (by assumption) rfl | exact rm3 (by assumption) rfl | exact rs1 (by assumption) rfl | exact rs2 (by assumption) rfl))
local macro_rules | `(tactic| ktr_room) => `(tactic| k_put)
local macro_rules | `(tactic| ktr_units) => `(tactic| k_put)
local macro_rules | `(tactic| k_all) => `(tactic| first | assumption | exact allLt_self (by assumption) | exact al3 | exact al4 | exact al5 | exact al6 | exact allLt_up (by assumption) | exact au1 | exact au2 | exact allLt_up2 (by assumption) | exact aw1 | exact aw2)
local macro_rules | `(tactic| k_room) => `(tactic| ktr_room)
local macro_rules | `(tactic| k_units) => `(tactic| ktr_units)
local macro_rules | `(tactic| kn_code) => `(tactic| first | exact code171 (by assumption) | exact code96 (by assumption))
local macro_rules | `(tactic| walk_at "subscriptTail") => `(tactic| (k_here; (with_reducible show wpAny _ _ (subscriptTail _ (Expr.Slice _ _ none _) (Value.bytes _ _) (Value.ref _)) _ _ _); (refine my_slice (s := ⟨_, _, _, _, _⟩) (h := ?_)); intro _ _ _ _ _))
local macro_rules | `(tactic| walk_at "eval BinOp") => `(tactic| (k_here; (with_reducible refine wBinOp9 ?_)))
local macro_rules | `(tactic| walk_at "eval Compare") => `(tactic| (k_here; (with_reducible refine wCmp9 ?_)))
local macro_rules | `(tactic| walk_at "isTrue Compare") => `(tactic| (k_here; (with_reducible refine wTrue9 ?_)))
local macro_rules | `(tactic| walk_at "exec If") => `(tactic| (k_here; (with_reducible refine wIf9 ?_)))
local macro_rules | `(tactic| walk_at "exec Return some") => `(tactic| (k_here; (with_reducible refine wRet9 ?_)))
local macro_rules | `(tactic| walk_at "exec Assign") => `(tactic| (k_here; (with_reducible refine wAsg9 ?_)))
local macro_rules | `(tactic| walk_at "eval Call") => `(tactic| (k_here; (with_reducible refine wCall9 ?_)))
local macro_rules | `(tactic| walk_at "spliced") => `(tactic| (k_here; (with_reducible refine wArg9 ?_)))
local macro_rules | `(tactic| walk_at "eval Subscript") => `(tactic| (k_here; (with_reducible refine wSub9 ?_)))
local macro_rules | `(tactic| k_steps) => `(tactic| repeat' (first | (k_end; kc_close) | walk1 | (dsimp only [argC9]; walk1) | (k_unfold; (try dsimp only)) | (dsimp only [then9]) | (leave1; (try dsimp only))))
local macro_rules | `(tactic| walk_at "ite") => `(tactic| (k_here; dsimp only [if9]))
local macro_rules | `(tactic| walk_at "eval Name") => `(tactic| (k_here; k_dflt (first
  | (refine' nameX_L ?F ?v ?_ ?a ?b; (case b => rfl); (case a => rfl); (case F => k_asm); (case v => exact Eq.refl (some _)); k_whole)
  | (refine' nameX_K ?F ?X ?T ?e ?_ ?a ?b; (case b => rfl); (case a => rfl); (case F => k_asm); (case X => k_asm); (case T => k_asm); (case e => k_is); k_whole)
  | (refine' nameX_B ?F ?X ?T ?e ?v ?n ?_ ?a ?b; (case b => rfl); (case a => rfl); (case F => k_asm); (case X => k_asm); (case T => k_asm); (case e => k_is); (case v => boot_fast); (case n => decide); k_whole))))
local macro_rules | `(tactic| walk_at "execs cons") => `(tactic| (k_here; (try dsimp only); (try k_gentoks); first | ((with_reducible refine cons9m (by assumption) ?_); intro m9 F9 Q9) | ((with_reducible refine cons9 ?_); intro Q9)))
local macro_rules | `(tactic| walk_at "callWith ref") => `(tactic| (k_here; k_dflt (first
  | (refine callWith_K (by k_asm) (by k_is) ?_; k_whole)
  | (refine callWith_K0 (by k_in) (by k_is) ?_; k_whole))))
theorem resetP2 : True := by w_top off; trivial
theorem read_go {w : World} {p : Program} {loose : List Str} {mean : ExcName → Option Value} {mg mb : Str → Option Value} {dp un : Nat} {gd : Option (List Code)} {cn : Str} {cs : Scope} {a : Addr} {ccd : Value} {cl : List (Str × Addr)} {outer : List Env} {A₀ : Around} {base h₀ : Heap} {L : Addr} {m : Str → Option Value} {s : Shared} {Q E : Value → Shared → Prop} {o : List UInt8} {S : Sm} {i : Int} {r : List UInt8} {tp : Tok} {n : Nat} {rest : List (Addr × Obj)} {k : Int} {tk : Tok} (B : Below A₀ base outer h₀ := by k_asm) (F : Fr h₀ L s.heap m := by k_asm) (ok : S.Ok w o := by assumption) (N : News h₀ L s.heap (S.led i tp n rest) := by k_asm) (X : (hd.heap_39 w.params).In h₀ := by k_asm) (T : Top p loose mean mg mb h₀ := by k_asm) (hk : cs.kind = .function := by first | rfl | assumption) (att : At o i r := by assumption) (off : S.Off rest := by assumption) (k0 : 0 ≤ k := by lia) (k1 : k < 256 := by lia) (hd : dp + 5 < recursionLimit := by ktr_room) (hu : un + 40 < cLine := by ktr_units)
    (ret : ∀ d' t' i' tp' n' h' tk', d' = r.take k.toNat → At o i' (r.drop k.toNat) → Fr h₀ L h' m → News h₀ L h' ((S.x, instObj 69 S.d) :: (S.d, dictVR S.h1 S.h2 S.t1 S.t2 S.l S.f) :: (S.f, { cls := .type "function", data := .func S.fd }) :: (S.c, S.oc) :: (S.l, placeOf i' tp' n') :: (S.cp, S.op) :: (S.co, S.oo) :: rest) → Q (.bytes d'.toArray t') { s with heap := h', toks := tk' }) :
    wpAny (model PP w) (ktrTop dp un gd cn cs L a ccd cl outer) (call (.ref (Sm.f S)) [.int k tk]) Q E s :=
  Meet.use (ok.read _ _ _ _ _ _ _ att k0 k1 off) B F X N T hk hd hu (fun _ _ h' tk' k F' N' => by obtain ⟨_, _, _, _, _, h1, h2, rfl, rfl⟩ := k; exact ret _ _ _ _ _ h' tk' h1 h2 F' N') (fun _ _ _ _ _ h => h.elim)
theorem read_uint1_ok {w : World} {o : List UInt8} {S : Sm} (hS : S.Ok w o) {i : Int} {r : List UInt8} {tp : Tok} {n : Nat} {rest : List (Addr × Obj)} (hi : At o i r) (hO : S.Off rest) :
    Meet w 38 [.ref S.x] 8 60 (S.led i tp n rest) (fun v led' => ∃ b r' t i' tp' n', r = b :: r' ∧ At o i' r' ∧ v = .int (UInt8.toNat b : Int) t ∧ led' = S.led i' tp' n' rest) (fun led' => r = [] ∧ ∃ i' tp' n', led' = S.led i' tp' n' rest) := by
  have hfill : PySem.Challenge.rw_in0217_01 = PySem.Challenge.rw_in0217_01 ∧ hd.heap_39 = hd.heap_39 := by (k_fill; exact ⟨rfl, rfl⟩)
  clear hfill
  intro p loose mean mg mb dp un gd cn cs a ccd cl outer A₀ base h₀ L m s Q E B F X N T hk hdp hu hret herr
  have CH1 := code171 X
  dsimp only [Sm.led] at N
  cases r with
  | nil =>
    refine wpAny_call ?_
    k_dflt (first
      | (refine' code_def ?k1 ?k2 ?k3 ?k4 ?k5 ?kA ?kF ?kK ?k6 ?k7 ?k8 ?k9 ?kB ?_ ?c2 ?c3 ?c4 ?c5; (case kA => exact rfl); (case kF => exact rfl); (case kK => assumption); (case k1 => k_asm); (case k2 => k_asm); (case k3 => k_asm); (case k4 => k_asm); (case k5 => k_asm); (case k6 => k_is); (case k7 => k_is); (case k8 => ktr_room); (case k9 => exact BindsTo.of_eq rfl); (case c5 => decide); (case kB => exact locs rfl); (case c2 => exact rfl); (case c3 => exact rfl); (case c4 => exact rfl); k_whole; intro g' L' h' FG' F' N' B' X' T'; (try dsimp only); (try k_lift B'); (try (refine wp_letQ ?_; intro Q9 X9)); (try (refine wp_letA ?_; intro A9)); (try (refine wp_letE ?_; intro E9)))
      | (refine' code_defC ?k1 ?k2 ?k3 ?k4 ?k5 ?kA ?kF ?kK ?k6 ?k7 ?k8 ?k9 ?kB ?kD ?_ ?c2 ?c3 ?c4; (case kA => exact rfl); (case kF => exact rfl); (case kK => assumption); (case k1 => k_asm); (case k2 => k_asm); (case k3 => k_asm); (case k4 => k_asm); (case k5 => k_asm); (case k6 => k_is); (case k7 => k_is); (case k8 => ktr_room); (case k9 => exact BindsTo.of_eq rfl); (case kB => exact rfl); (case kD => decide +kernel); (case c2 => exact rfl); (case c3 => exact rfl); (case c4 => exact rfl); k_whole; intro g' L' h' tk' cells' FG' F' N' Y' B' X' T' l1; (try k_lt l1); k_cells Y'; (try simp only [List.cons_append, List.nil_append] at N'); (try dsimp only); (try k_lift B'); (try (refine wp_letQ ?_; intro Q9 X9)); (try (refine wp_letA ?_; intro A9)); (try (refine wp_letE ?_; intro E9))))
    (repeat' (first | (with_reducible (((with_reducible show wpAny _ _ (getMethod (Value.ref (Sm.x _)) _ _) _ _ _); walk_at "last getMethod ref"))) | (with_reducible (((with_reducible show wpAny _ _ (truthy (Value.bytes _ _)) _ _ _); (first | (with_reducible refine Lat.truthy_nil ?_; intro _) | (with_reducible refine Lat.truthy_cons (Nat.le_of_ble_eq_true rfl) ?_; intro _))))) | (with_reducible (((with_reducible show wpAny _ _ (call (Value.ref (Sm.f _)) [Value.int 1 _]) _ _ _); k_dflt (refine read_go (ret := ?_)); intro d' t' i' tp' n' h' tk' hd' hat' F' N'; (simp only [toNat_one', List.take_nil, List.take_succ_cons, List.take_zero, List.drop_nil, List.drop_succ_cons, List.drop_zero] at hd' hat'); subst hd'; (try dsimp only [Sm.led] at N'); (try dsimp only); (try k_sweep)))) | (k_end; kc_close) | walk1 | (dsimp only [argC9]; walk1) | (k_unfold; (try dsimp only)) | (dsimp only [then9]) | (leave1; (try dsimp only))))
    exact herr _ _ _ _ _ ⟨rfl, _, _, _, rfl⟩ (by with_reducible assumption) (by with_reducible assumption) (by with_reducible assumption)
  | cons b r' =>
    refine wpAny_call ?_
    k_dflt (first
      | (refine' code_def ?k1 ?k2 ?k3 ?k4 ?k5 ?kA ?kF ?kK ?k6 ?k7 ?k8 ?k9 ?kB ?_ ?c2 ?c3 ?c4 ?c5; (case kA => exact rfl); (case kF => exact rfl); (case kK => assumption); (case k1 => k_asm); (case k2 => k_asm); (case k3 => k_asm); (case k4 => k_asm); (case k5 => k_asm); (case k6 => k_is); (case k7 => k_is); (case k8 => ktr_room); (case k9 => exact BindsTo.of_eq rfl); (case c5 => decide); (case kB => exact locs rfl); (case c2 => exact rfl); (case c3 => exact rfl); (case c4 => exact rfl); k_whole; intro g' L' h' FG' F' N' B' X' T'; (try dsimp only); (try k_lift B'); (try (refine wp_letQ ?_; intro Q9 X9)); (try (refine wp_letA ?_; intro A9)); (try (refine wp_letE ?_; intro E9)))
      | (refine' code_defC ?k1 ?k2 ?k3 ?k4 ?k5 ?kA ?kF ?kK ?k6 ?k7 ?k8 ?k9 ?kB ?kD ?_ ?c2 ?c3 ?c4; (case kA => exact rfl); (case kF => exact rfl); (case kK => assumption); (case k1 => k_asm); (case k2 => k_asm); (case k3 => k_asm); (case k4 => k_asm); (case k5 => k_asm); (case k6 => k_is); (case k7 => k_is); (case k8 => ktr_room); (case k9 => exact BindsTo.of_eq rfl); (case kB => exact rfl); (case kD => decide +kernel); (case c2 => exact rfl); (case c3 => exact rfl); (case c4 => exact rfl); k_whole; intro g' L' h' tk' cells' FG' F' N' Y' B' X' T' l1; (try k_lt l1); k_cells Y'; (try simp only [List.cons_append, List.nil_append] at N'); (try dsimp only); (try k_lift B'); (try (refine wp_letQ ?_; intro Q9 X9)); (try (refine wp_letA ?_; intro A9)); (try (refine wp_letE ?_; intro E9))))
    (repeat' (first | (with_reducible (((with_reducible show wpAny _ _ (getMethod (Value.ref (Sm.x _)) _ _) _ _ _); walk_at "last getMethod ref"))) | (with_reducible (((with_reducible show wpAny _ _ (truthy (Value.bytes _ _)) _ _ _); (first | (with_reducible refine Lat.truthy_nil ?_; intro _) | (with_reducible refine Lat.truthy_cons (Nat.le_of_ble_eq_true rfl) ?_; intro _))))) | (with_reducible (((with_reducible show wpAny _ _ (call (Value.ref (Sm.f _)) [Value.int 1 _]) _ _ _); k_dflt (refine read_go (ret := ?_)); intro d' t' i' tp' n' h' tk' hd' hat' F' N'; (simp only [toNat_one', List.take_nil, List.take_succ_cons, List.take_zero, List.drop_nil, List.drop_succ_cons, List.drop_zero] at hd' hat'); subst hd'; (try dsimp only [Sm.led] at N'); (try dsimp only); (try k_sweep)))) | (with_reducible (((with_reducible show wpAny _ _ (subscriptTail _ _ (Value.bytes (List.toArray (_ :: _)) _) (Value.int 0 _)) _ _ _); (refine Lat.item0 (Nat.le_of_ble_eq_true rfl) ?_); intro _ _))) | (k_end; kc_close) | walk1 | (dsimp only [argC9]; walk1) | (k_unfold; (try dsimp only)) | (dsimp only [then9]) | (leave1; (try dsimp only))))
    exact hret _ _ _ _ ⟨_, _, _, _, _, _, rfl, by with_reducible assumption, rfl, rfl⟩ (by with_reducible assumption) (by with_reducible assumption)
theorem uint1_go {w : World} {p : Program} {loose : List Str} {mean : ExcName → Option Value} {mg mb : Str → Option Value} {dp un : Nat} {gd : Option (List Code)} {cn : Str} {cs : Scope} {a : Addr} {ccd : Value} {cl : List (Str × Addr)} {outer : List Env} {A₀ : Around} {base h₀ : Heap} {L : Addr} {m : Str → Option Value} {s : Shared} {Q E : Value → Shared → Prop} {o : List UInt8} {S : Sm} {i : Int} {r : List UInt8} {tp : Tok} {n : Nat} {rest : List (Addr × Obj)} (B : Below A₀ base outer h₀ := by k_asm) (F : Fr h₀ L s.heap m := by k_asm) (ok : S.Ok w o := by assumption) (N : News h₀ L s.heap (S.led i tp n rest) := by k_asm) (X : (hd.heap_39 w.params).In h₀ := by k_asm) (T : Top p loose mean mg mb h₀ := by k_asm) (hk : cs.kind = .function := by first | rfl | assumption) (att : At o i r := by assumption) (off : S.Off rest := by assumption) (hd : dp + 8 < recursionLimit := by ktr_room) (hu : un + 60 < cLine := by ktr_units)
    (ret : ∀ (d' : UInt8) r' t' i' tp' n' h' tk', r = d' :: r' → At o i' r' → Fr h₀ L h' m → News h₀ L h' ((S.x, instObj 69 S.d) :: (S.d, dictVR S.h1 S.h2 S.t1 S.t2 S.l S.f) :: (S.f, { cls := .type "function", data := .func S.fd }) :: (S.c, S.oc) :: (S.l, placeOf i' tp' n') :: (S.cp, S.op) :: (S.co, S.oo) :: rest) → Q (.int (UInt8.toNat d' : Int) t') { s with heap := h', toks := tk' })
    (err : ∀ e h' tk' g₂ i' tp' n', r = [] → RaisedN base (envX cn cs L a ccd cl :: outer) e (.type "ValueError") ((S.x, instObj 69 S.d) :: (S.d, dictVR S.h1 S.h2 S.t1 S.t2 S.l S.f) :: (S.f, { cls := .type "function", data := .func S.fd }) :: (S.c, S.oc) :: (S.l, placeOf i' tp' n') :: (S.cp, S.op) :: (S.co, S.oo) :: rest) h' → Fr h₀ L g₂ m → g₂.UpToSlots h' → E (.ref e) { s with heap := h', toks := tk' }) :
    wpAny (model PP w) (ktrTop dp un gd cn cs L a ccd cl outer) (call (.ref 38) [.ref S.x]) Q E s :=
  Meet.use (read_uint1_ok ok att off) B F X N T hk hd hu (fun _ _ h' tk' k F' N' => by obtain ⟨_, _, _, _, _, _, h1, h2, rfl, rfl⟩ := k; exact ret _ _ _ _ _ _ h' tk' h1 h2 F' N')
    (fun e _ h' tk' g₂ k R' F' U' => by obtain ⟨h1, _, _, _, rfl⟩ := k; exact err e h' tk' g₂ _ _ _ h1 R' F' U')
theorem read_string1_ok {w : World} {o : List UInt8} {S : Sm} (hS : S.Ok w o) {i : Int} {r : List UInt8} {tp : Tok} {n : Nat} {rest : List (Addr × Obj)} (hi : At o i r) (hO : S.Off rest) :
    Meet w 45 [.ref S.x] 18 160 (S.led i tp n rest) (fun v led' => ∃ d r' t i' tp' n', counted r = some (d, r') ∧ At o i' r' ∧ v = .str ⟨(d.map UInt8.toNat).toArray⟩ t ∧ led' = S.led i' tp' n' rest) (fun led' => counted r = none ∧ ∃ i' tp' n', led' = S.led i' tp' n' rest) := by
  have hfill : PySem.Challenge.rw_in0217_01 = PySem.Challenge.rw_in0217_01 ∧ hd.heap_39 = hd.heap_39 := by (k_fill; exact ⟨rfl, rfl⟩)
  clear hfill
  intro p loose mean mg mb dp un gd cn cs a ccd cl outer A₀ base h₀ L m s Q E B F X N T hk hdp hu hret herr
  have CH1 := code171 X
  dsimp only [Sm.led] at N
  refine wpAny_call ?_
  k_dflt (first
    | (refine' code_def ?k1 ?k2 ?k3 ?k4 ?k5 ?kA ?kF ?kK ?k6 ?k7 ?k8 ?k9 ?kB ?_ ?c2 ?c3 ?c4 ?c5; (case kA => exact rfl); (case kF => exact rfl); (case kK => assumption); (case k1 => k_asm); (case k2 => k_asm); (case k3 => k_asm); (case k4 => k_asm); (case k5 => k_asm); (case k6 => k_is); (case k7 => k_is); (case k8 => ktr_room); (case k9 => exact BindsTo.of_eq rfl); (case c5 => decide); (case kB => exact locs rfl); (case c2 => exact rfl); (case c3 => exact rfl); (case c4 => exact rfl); k_whole; intro g' L' h' FG' F' N' B' X' T'; (try dsimp only); (try k_lift B'); (try (refine wp_letQ ?_; intro Q9 X9)); (try (refine wp_letA ?_; intro A9)); (try (refine wp_letE ?_; intro E9)))
    | (refine' code_defC ?k1 ?k2 ?k3 ?k4 ?k5 ?kA ?kF ?kK ?k6 ?k7 ?k8 ?k9 ?kB ?kD ?_ ?c2 ?c3 ?c4; (case kA => exact rfl); (case kF => exact rfl); (case kK => assumption); (case k1 => k_asm); (case k2 => k_asm); (case k3 => k_asm); (case k4 => k_asm); (case k5 => k_asm); (case k6 => k_is); (case k7 => k_is); (case k8 => ktr_room); (case k9 => exact BindsTo.of_eq rfl); (case kB => exact rfl); (case kD => decide +kernel); (case c2 => exact rfl); (case c3 => exact rfl); (case c4 => exact rfl); k_whole; intro g' L' h' tk' cells' FG' F' N' Y' B' X' T' l1; (try k_lt l1); k_cells Y'; (try simp only [List.cons_append, List.nil_append] at N'); (try dsimp only); (try k_lift B'); (try (refine wp_letQ ?_; intro Q9 X9)); (try (refine wp_letA ?_; intro A9)); (try (refine wp_letE ?_; intro E9))))
  (repeat' (first | (with_reducible (((with_reducible show wpAny _ _ (binaryOp Operator.Mod (Value.str _ _) (Value.ref _)) _ _ _); ((with_reducible refine' fmt1 ?kX ?kN ?k1 ?k2 ?k3 ?k4 ?_); (case kN => k_asm); (case kX => k_asm); (case k1 => omega); (case k2 => omega); (case k3 => omega); (case k4 => omega); intro _ _ _)))) | (with_reducible (((with_reducible show wpAny _ _ (call (Value.ref 38) _) _ _ _); k_dflt (refine uint1_go (ret := ?_) (err := ?_)); (intro d' _ _ _ _ _ _ _ hr'; subst hr'; have hb' := UInt8.toNat_lt d'; intros; (try dsimp only); (try k_sweep)); rotate_left; (intros; (try dsimp only)); rotate_left))) | (with_reducible (((with_reducible show wpAny _ _ (getMethod (Value.ref (Sm.x _)) _ _) _ _ _); walk_at "last getMethod ref"))) | (with_reducible (((with_reducible show wpAny _ _ (call (Value.builtin _) [Value.bytes (List.toArray _) _, _]) _ _ _); (refine Lat.decode (by assumption) ?_); intro _ _))) | (with_reducible (((with_reducible show wpAny _ _ (call (Value.builtin "len") [Value.bytes (List.toArray _) _]) _ _ _); (refine Lat.lenL (by assumption) ?_); intro _ _))) | (with_reducible (((with_reducible show wpAny _ _ (call (Value.ref (Sm.f _)) [Value.int _ _]) _ _ _); k_dflt (refine read_go (ret := ?_)); intro d' t' i' tp' n' h' tk' hd' hat' F' N'; (simp only [Int.toNat_natCast] at hd' hat'); (have hz1 := take_le hd' (by lia : _ ≤ 1000)); (have hz2 := Nat.le_trans hz1 (by decide : 1000 ≤ 100000)); (try dsimp only [Sm.led] at N'); (try dsimp only); (try k_sweep)))) | (k_end; kc_close) | walk1 | (dsimp only [argC9]; walk1) | (k_unfold; (try dsimp only)) | (dsimp only [then9]) | (leave1; (try dsimp only))))
  · exact hret _ _ _ _ ⟨_, _, _, _, _, _, counted_some (by with_reducible assumption) (by lia), by with_reducible assumption, rfl, rfl⟩ (by with_reducible assumption) (by with_reducible assumption)
  · exact herr _ _ _ _ _ ⟨counted_none (by with_reducible assumption) (by lia), _, _, _, rfl⟩ (raised_sub (by with_reducible assumption) (fun _ hq => .tail _ hq)) (by with_reducible assumption) (by with_reducible assumption)
  · exact herr _ _ _ _ _ ⟨counted_nil (by with_reducible assumption), _, _, _, rfl⟩ (by with_reducible assumption) (by with_reducible assumption) (by with_reducible assumption)
theorem string1_go {w : World} {p : Program} {loose : List Str} {mean : ExcName → Option Value} {mg mb : Str → Option Value} {dp un : Nat} {gd : Option (List Code)} {cn : Str} {cs : Scope} {a : Addr} {ccd : Value} {cl : List (Str × Addr)} {outer : List Env} {A₀ : Around} {base h₀ : Heap} {L : Addr} {m : Str → Option Value} {s : Shared} {Q E : Value → Shared → Prop} {o : List UInt8} {S : Sm} {i : Int} {r : List UInt8} {tp : Tok} {n : Nat} {rest : List (Addr × Obj)} (B : Below A₀ base outer h₀ := by k_asm) (F : Fr h₀ L s.heap m := by k_asm) (ok : S.Ok w o := by assumption) (N : News h₀ L s.heap (S.led i tp n rest) := by k_asm) (X : (hd.heap_39 w.params).In h₀ := by k_asm) (T : Top p loose mean mg mb h₀ := by k_asm) (hk : cs.kind = .function := by first | rfl | assumption) (att : At o i r := by assumption) (off : S.Off rest := by assumption) (hd : dp + 18 < recursionLimit := by ktr_room) (hu : un + 160 < cLine := by ktr_units)
    (ret : ∀ (d' : List UInt8) r' t' i' tp' n' h' tk', counted r = some (d', r') → At o i' r' → Fr h₀ L h' m → News h₀ L h' ((S.x, instObj 69 S.d) :: (S.d, dictVR S.h1 S.h2 S.t1 S.t2 S.l S.f) :: (S.f, { cls := .type "function", data := .func S.fd }) :: (S.c, S.oc) :: (S.l, placeOf i' tp' n') :: (S.cp, S.op) :: (S.co, S.oo) :: rest) → Q (.str ⟨(d'.map UInt8.toNat).toArray⟩ t') { s with heap := h', toks := tk' })
    (err : ∀ e h' tk' g₂ i' tp' n', counted r = none → RaisedN base (envX cn cs L a ccd cl :: outer) e (.type "ValueError") ((S.x, instObj 69 S.d) :: (S.d, dictVR S.h1 S.h2 S.t1 S.t2 S.l S.f) :: (S.f, { cls := .type "function", data := .func S.fd }) :: (S.c, S.oc) :: (S.l, placeOf i' tp' n') :: (S.cp, S.op) :: (S.co, S.oo) :: rest) h' → Fr h₀ L g₂ m → g₂.UpToSlots h' → E (.ref e) { s with heap := h', toks := tk' }) :
    wpAny (model PP w) (ktrTop dp un gd cn cs L a ccd cl outer) (call (.ref 45) [.ref S.x]) Q E s :=
  Meet.use (read_string1_ok ok att off) B F X N T hk hd hu (fun _ _ h' tk' k F' N' => by obtain ⟨_, _, _, _, _, _, h1, h2, rfl, rfl⟩ := k; exact ret _ _ _ _ _ _ h' tk' h1 h2 F' N')
    (fun e _ h' tk' g₂ k R' F' U' => by obtain ⟨h1, _, _, _, rfl⟩ := k; exact err e h' tk' g₂ _ _ _ h1 R' F' U')

theorem resetP2b : True := by w_top off; trivial
theorem read_bytes1_ok {w : World} {o : List UInt8} {S : Sm} (hS : S.Ok w o) {i : Int} {r : List UInt8} {tp : Tok} {n : Nat} {rest : List (Addr × Obj)} (hi : At o i r) (hO : S.Off rest) :
    Meet w 52 [.ref S.x] 18 160 (S.led i tp n rest) (fun v led' => ∃ d r' t i' tp' n', counted r = some (d, r') ∧ At o i' r' ∧ v = .bytes d.toArray t ∧ led' = S.led i' tp' n' rest) (fun led' => counted r = none ∧ ∃ i' tp' n', led' = S.led i' tp' n' rest) := by
  have hfill : PySem.Challenge.rw_in0217_01 = PySem.Challenge.rw_in0217_01 ∧ hd.heap_39 = hd.heap_39 := by (k_fill; exact ⟨rfl, rfl⟩)
  clear hfill
  intro p loose mean mg mb dp un gd cn cs a ccd cl outer A₀ base h₀ L m s Q E B F X N T hk hdp hu hret herr
  have CH1 := code171 X
  dsimp only [Sm.led] at N
  refine wpAny_call ?_
  k_dflt (first
    | (refine' code_def ?k1 ?k2 ?k3 ?k4 ?k5 ?kA ?kF ?kK ?k6 ?k7 ?k8 ?k9 ?kB ?_ ?c2 ?c3 ?c4 ?c5; (case kA => exact rfl); (case kF => exact rfl); (case kK => assumption); (case k1 => k_asm); (case k2 => k_asm); (case k3 => k_asm); (case k4 => k_asm); (case k5 => k_asm); (case k6 => k_is); (case k7 => k_is); (case k8 => ktr_room); (case k9 => exact BindsTo.of_eq rfl); (case c5 => decide); (case kB => exact locs rfl); (case c2 => exact rfl); (case c3 => exact rfl); (case c4 => exact rfl); k_whole; intro g' L' h' FG' F' N' B' X' T'; (try dsimp only); (try k_lift B'); (try (refine wp_letQ ?_; intro Q9 X9)); (try (refine wp_letA ?_; intro A9)); (try (refine wp_letE ?_; intro E9)))
    | (refine' code_defC ?k1 ?k2 ?k3 ?k4 ?k5 ?kA ?kF ?kK ?k6 ?k7 ?k8 ?k9 ?kB ?kD ?_ ?c2 ?c3 ?c4; (case kA => exact rfl); (case kF => exact rfl); (case kK => assumption); (case k1 => k_asm); (case k2 => k_asm); (case k3 => k_asm); (case k4 => k_asm); (case k5 => k_asm); (case k6 => k_is); (case k7 => k_is); (case k8 => ktr_room); (case k9 => exact BindsTo.of_eq rfl); (case kB => exact rfl); (case kD => decide +kernel); (case c2 => exact rfl); (case c3 => exact rfl); (case c4 => exact rfl); k_whole; intro g' L' h' tk' cells' FG' F' N' Y' B' X' T' l1; (try k_lt l1); k_cells Y'; (try simp only [List.cons_append, List.nil_append] at N'); (try dsimp only); (try k_lift B'); (try (refine wp_letQ ?_; intro Q9 X9)); (try (refine wp_letA ?_; intro A9)); (try (refine wp_letE ?_; intro E9))))
  (repeat' (first | (with_reducible (((with_reducible show wpAny _ _ (binaryOp Operator.Mod (Value.str _ _) (Value.ref _)) _ _ _); ((with_reducible refine' fmt2 ?kX ?kN ?k1 ?k2 ?k3 ?k4 ?_); (case kN => k_asm); (case kX => k_asm); (case k1 => omega); (case k2 => omega); (case k3 => omega); (case k4 => omega); intro _ _ _)))) | (with_reducible (((with_reducible show wpAny _ _ (call (Value.ref 38) _) _ _ _); k_dflt (refine uint1_go (ret := ?_) (err := ?_)); (intro d' _ _ _ _ _ _ _ hr'; subst hr'; have hb' := UInt8.toNat_lt d'; intros; (try dsimp only); (try k_sweep)); rotate_left; (intros; (try dsimp only)); rotate_left))) | (with_reducible (((with_reducible show wpAny _ _ (getMethod (Value.ref (Sm.x _)) _ _) _ _ _); walk_at "last getMethod ref"))) | (with_reducible (((with_reducible show wpAny _ _ (call (Value.builtin "len") [Value.bytes (List.toArray _) _]) _ _ _); (refine Lat.lenL (by assumption) ?_); intro _ _))) | (with_reducible (((with_reducible show wpAny _ _ (call (Value.ref (Sm.f _)) [Value.int _ _]) _ _ _); k_dflt (refine read_go (ret := ?_)); intro d' t' i' tp' n' h' tk' hd' hat' F' N'; (simp only [Int.toNat_natCast] at hd' hat'); (have hz1 := take_le hd' (by lia : _ ≤ 1000)); (have hz2 := Nat.le_trans hz1 (by decide : 1000 ≤ 100000)); (try dsimp only [Sm.led] at N'); (try dsimp only); (try k_sweep)))) | (k_end; kc_close) | walk1 | (dsimp only [argC9]; walk1) | (k_unfold; (try dsimp only)) | (dsimp only [then9]) | (leave1; (try dsimp only))))
  · exact hret _ _ _ _ ⟨_, _, _, _, _, _, counted_some (by with_reducible assumption) (by lia), by with_reducible assumption, rfl, rfl⟩ (by with_reducible assumption) (by with_reducible assumption)
  · exact herr _ _ _ _ _ ⟨counted_none (by with_reducible assumption) (by lia), _, _, _, rfl⟩ (raised_sub (by with_reducible assumption) (fun _ hq => .tail _ hq)) (by with_reducible assumption) (by with_reducible assumption)
  · exact herr _ _ _ _ _ ⟨counted_nil (by with_reducible assumption), _, _, _, rfl⟩ (by with_reducible assumption) (by with_reducible assumption) (by with_reducible assumption)
theorem bytes1_go {w : World} {p : Program} {loose : List Str} {mean : ExcName → Option Value} {mg mb : Str → Option Value} {dp un : Nat} {gd : Option (List Code)} {cn : Str} {cs : Scope} {a : Addr} {ccd : Value} {cl : List (Str × Addr)} {outer : List Env} {A₀ : Around} {base h₀ : Heap} {L : Addr} {m : Str → Option Value} {s : Shared} {Q E : Value → Shared → Prop} {o : List UInt8} {S : Sm} {i : Int} {r : List UInt8} {tp : Tok} {n : Nat} {rest : List (Addr × Obj)} (B : Below A₀ base outer h₀ := by k_asm) (F : Fr h₀ L s.heap m := by k_asm) (ok : S.Ok w o := by assumption) (N : News h₀ L s.heap (S.led i tp n rest) := by k_asm) (X : (hd.heap_39 w.params).In h₀ := by k_asm) (T : Top p loose mean mg mb h₀ := by k_asm) (hk : cs.kind = .function := by first | rfl | assumption) (att : At o i r := by assumption) (off : S.Off rest := by assumption) (hd : dp + 18 < recursionLimit := by ktr_room) (hu : un + 160 < cLine := by ktr_units)
    (ret : ∀ (d' : List UInt8) r' t' i' tp' n' h' tk', counted r = some (d', r') → At o i' r' → Fr h₀ L h' m → News h₀ L h' ((S.x, instObj 69 S.d) :: (S.d, dictVR S.h1 S.h2 S.t1 S.t2 S.l S.f) :: (S.f, { cls := .type "function", data := .func S.fd }) :: (S.c, S.oc) :: (S.l, placeOf i' tp' n') :: (S.cp, S.op) :: (S.co, S.oo) :: rest) → Q (.bytes d'.toArray t') { s with heap := h', toks := tk' })
    (err : ∀ e h' tk' g₂ i' tp' n', counted r = none → RaisedN base (envX cn cs L a ccd cl :: outer) e (.type "ValueError") ((S.x, instObj 69 S.d) :: (S.d, dictVR S.h1 S.h2 S.t1 S.t2 S.l S.f) :: (S.f, { cls := .type "function", data := .func S.fd }) :: (S.c, S.oc) :: (S.l, placeOf i' tp' n') :: (S.cp, S.op) :: (S.co, S.oo) :: rest) h' → Fr h₀ L g₂ m → g₂.UpToSlots h' → E (.ref e) { s with heap := h', toks := tk' }) :
    wpAny (model PP w) (ktrTop dp un gd cn cs L a ccd cl outer) (call (.ref 52) [.ref S.x]) Q E s :=
  Meet.use (read_bytes1_ok ok att off) B F X N T hk hd hu (fun _ _ h' tk' k F' N' => by obtain ⟨_, _, _, _, _, _, h1, h2, rfl, rfl⟩ := k; exact ret _ _ _ _ _ _ h' tk' h1 h2 F' N')
    (fun e _ h' tk' g₂ k R' F' U' => by obtain ⟨h1, _, _, _, rfl⟩ := k; exact err e h' tk' g₂ _ _ _ h1 R' F' U')

theorem resetP3 : True := by w_top off; trivial
theorem S_ISDIR_ok {w : World} {b : Int} {tk : Tok} (h0 : 0 ≤ b) (h1 : b < 65536) : MeetP w 111 [.int b tk] 12 60 (fun r _ => r = .bool (decide (b / 4096 = 4))) := by
  have hfill : PySem.Challenge.rw_in0217_01 = PySem.Challenge.rw_in0217_01 ∧ hd.heap_39 = hd.heap_39 := by (k_fill; exact ⟨rfl, rfl⟩)
  clear hfill
  intro p loose mean mg mb dp un gd cn cs a ccd cl outer A₀ base h₀ L m s Q E B F X T hk hdp hu hret
  refine wpAny_call ?_
  k_dflt (refine' code_defP ?k1 ?k2 ?k3 ?k5 ?kA ?kF ?kK ?k6 ?k7 ?k8 ?k9 ?kB ?_ ?c2 ?c3 ?c4 ?c5; (case kA => exact rfl); (case kF => exact rfl); (case kK => assumption); (case k1 => k_asm); (case k2 => k_asm); (case k3 => k_asm); (case k5 => k_asm); (case k6 => k_is); (case k7 => k_is); (case k8 => ktr_room); (case k9 => exact BindsTo.of_eq rfl); (case c5 => decide); (case kB => exact locs rfl); (case c2 => exact rfl); (case c3 => exact rfl); (case c4 => exact rfl); k_whole; intro g' L' h' KB FG' F' N' B' X' T'; (try dsimp only); (try k_lift B'); (try (refine wp_letQ ?_; intro Q9 X9)); (try (refine wp_letA ?_; intro A9)); (try (refine wp_letE ?_; intro E9)))
  k_steps
  refine (congrArg (fun z => Q (.bool z) _) ?_).mpr (hret _ _ _ _ rfl (by with_reducible assumption) News.nil (fun b o e => Fr.keep (by with_reducible assumption) b o (KB b o e)))
  rw [and_ifmt h0 h1, Bool.eq_iff_iff, beq_iff_eq, decide_eq_true_eq]
  lia
theorem S_ISREG_ok {w : World} {b : Int} {tk : Tok} (h0 : 0 ≤ b) (h1 : b < 65536) : MeetP w 118 [.int b tk] 12 60 (fun r _ => r = .bool (decide (b / 4096 = 8))) := by
  have hfill : PySem.Challenge.rw_in0217_01 = PySem.Challenge.rw_in0217_01 ∧ hd.heap_39 = hd.heap_39 := by (k_fill; exact ⟨rfl, rfl⟩)
  clear hfill
  intro p loose mean mg mb dp un gd cn cs a ccd cl outer A₀ base h₀ L m s Q E B F X T hk hdp hu hret
  refine wpAny_call ?_
  k_dflt (refine' code_defP ?k1 ?k2 ?k3 ?k5 ?kA ?kF ?kK ?k6 ?k7 ?k8 ?k9 ?kB ?_ ?c2 ?c3 ?c4 ?c5; (case kA => exact rfl); (case kF => exact rfl); (case kK => assumption); (case k1 => k_asm); (case k2 => k_asm); (case k3 => k_asm); (case k5 => k_asm); (case k6 => k_is); (case k7 => k_is); (case k8 => ktr_room); (case k9 => exact BindsTo.of_eq rfl); (case c5 => decide); (case kB => exact locs rfl); (case c2 => exact rfl); (case c3 => exact rfl); (case c4 => exact rfl); k_whole; intro g' L' h' KB FG' F' N' B' X' T'; (try dsimp only); (try k_lift B'); (try (refine wp_letQ ?_; intro Q9 X9)); (try (refine wp_letA ?_; intro A9)); (try (refine wp_letE ?_; intro E9)))
  k_steps
  refine (congrArg (fun z => Q (.bool z) _) ?_).mpr (hret _ _ _ _ rfl (by with_reducible assumption) News.nil (fun b o e => Fr.keep (by with_reducible assumption) b o (KB b o e)))
  rw [and_ifmt h0 h1, Bool.eq_iff_iff, beq_iff_eq, decide_eq_true_eq]
  lia
theorem S_ISLNK_ok {w : World} {b : Int} {tk : Tok} (h0 : 0 ≤ b) (h1 : b < 65536) : MeetP w 125 [.int b tk] 12 60 (fun r _ => r = .bool (decide (b / 4096 = 10))) := by
  have hfill : PySem.Challenge.rw_in0217_01 = PySem.Challenge.rw_in0217_01 ∧ hd.heap_39 = hd.heap_39 := by (k_fill; exact ⟨rfl, rfl⟩)
  clear hfill
  intro p loose mean mg mb dp un gd cn cs a ccd cl outer A₀ base h₀ L m s Q E B F X T hk hdp hu hret
  refine wpAny_call ?_
  k_dflt (refine' code_defP ?k1 ?k2 ?k3 ?k5 ?kA ?kF ?kK ?k6 ?k7 ?k8 ?k9 ?kB ?_ ?c2 ?c3 ?c4 ?c5; (case kA => exact rfl); (case kF => exact rfl); (case kK => assumption); (case k1 => k_asm); (case k2 => k_asm); (case k3 => k_asm); (case k5 => k_asm); (case k6 => k_is); (case k7 => k_is); (case k8 => ktr_room); (case k9 => exact BindsTo.of_eq rfl); (case c5 => decide); (case kB => exact locs rfl); (case c2 => exact rfl); (case c3 => exact rfl); (case c4 => exact rfl); k_whole; intro g' L' h' KB FG' F' N' B' X' T'; (try dsimp only); (try k_lift B'); (try (refine wp_letQ ?_; intro Q9 X9)); (try (refine wp_letA ?_; intro A9)); (try (refine wp_letE ?_; intro E9)))
  k_steps
  refine (congrArg (fun z => Q (.bool z) _) ?_).mpr (hret _ _ _ _ rfl (by with_reducible assumption) News.nil (fun b o e => Fr.keep (by with_reducible assumption) b o (KB b o e)))
  rw [and_ifmt h0 h1, Bool.eq_iff_iff, beq_iff_eq, decide_eq_true_eq]
  lia

theorem resetP5 : True := by w_top off; trivial
/-- the thing that is held -/
inductive Thing where
  | num (k : Nat)
  | byt (d : List UInt8)
  | txt (d : List UInt8)
  | non
def ThingVal : Thing → Value → Prop
  | .num k, v => ∃ t, v = .int (k : Int) t
  | .byt d, v => ∃ t, v = .bytes d.toArray t
  | .txt d, v => ∃ t, v = .str ⟨(d.map UInt8.toNat).toArray⟩ t
  | .non, v => v = .none
def readThing (kind : Nat) (r : List UInt8) : Option (Thing × List UInt8) :=
  if kind = 4 then (match r with | [] => none | b :: r' => some (.num b.toNat, r'))
  else if kind = 8 then (counted r).map fun x => (.byt x.1, x.2)
  else if kind = 10 then (counted r).map fun x => (.txt x.1, x.2)
  else some (.non, r)
theorem rt_dir {b : Int} {c : UInt8} {r : List UInt8} (h : b / 4096 = 4) : readThing (b / 4096).toNat (c :: r) = some (.num c.toNat, r) := by rw [h]; rfl
theorem rt_dir0 {b : Int} {r : List UInt8} (h : b / 4096 = 4) (hr : r = []) : readThing (b / 4096).toNat r = none := by rw [h, hr]; rfl
theorem rt_reg {b : Int} {d r r' : List UInt8} (h : b / 4096 = 8) (hr : counted r = some (d, r')) : readThing (b / 4096).toNat r = some (.byt d, r') := by rw [h]; simp [readThing, hr]
theorem rt_reg0 {b : Int} {r : List UInt8} (h : b / 4096 = 8) (hr : counted r = none) : readThing (b / 4096).toNat r = none := by rw [h]; simp [readThing, hr]
theorem rt_lnk {b : Int} {d r r' : List UInt8} (h : b / 4096 = 10) (hr : counted r = some (d, r')) : readThing (b / 4096).toNat r = some (.txt d, r') := by rw [h]; simp [readThing, hr]
theorem rt_lnk0 {b : Int} {r : List UInt8} (h : b / 4096 = 10) (hr : counted r = none) : readThing (b / 4096).toNat r = none := by rw [h]; simp [readThing, hr]
theorem rt_non {b : Int} {r : List UInt8} (h4 : ¬ b / 4096 = 4) (h8 : ¬ b / 4096 = 8) (h10 : ¬ b / 4096 = 10) : readThing (b / 4096).toNat r = some (.non, r) := by
  unfold readThing
  rw [if_neg (by lia), if_neg (by lia), if_neg (by lia)]
theorem law_thing_ok {w : World} {o : List UInt8} {S : Sm} (hS : S.Ok w o) {b i : Int} {tk : Tok} {r : List UInt8} {tp : Tok} {n : Nat} {rest : List (Addr × Obj)} (hi : At o i r) (hO : S.Off rest) (h0 : 0 ≤ b) (h1 : b < 65536) :
    Meet w 200 [.ref S.x, .int b tk] 30 300 (S.led i tp n rest) (fun v led' => ∃ th r' i' tp' n', readThing (b / 4096).toNat r = some (th, r') ∧ At o i' r' ∧ ThingVal th v ∧ led' = S.led i' tp' n' rest) (fun led' => readThing (b / 4096).toNat r = none ∧ ∃ i' tp' n', led' = S.led i' tp' n' rest) := by
  have hfill : PySem.Challenge.rw_in0217_01 = PySem.Challenge.rw_in0217_01 ∧ hd.heap_39 = hd.heap_39 := by (k_fill; exact ⟨rfl, rfl⟩)
  clear hfill
  intro p loose mean mg mb dp un gd cn cs a ccd cl outer A₀ base h₀ L m s Q E B F X N T hk hdp hu hret herr
  have CH1 := code171 X
  dsimp only [Sm.led] at N
  refine wpAny_call ?_
  k_dflt (first
    | (refine' code_def ?k1 ?k2 ?k3 ?k4 ?k5 ?kA ?kF ?kK ?k6 ?k7 ?k8 ?k9 ?kB ?_ ?c2 ?c3 ?c4 ?c5; (case kA => exact rfl); (case kF => exact rfl); (case kK => assumption); (case k1 => k_asm); (case k2 => k_asm); (case k3 => k_asm); (case k4 => k_asm); (case k5 => k_asm); (case k6 => k_is); (case k7 => k_is); (case k8 => ktr_room); (case k9 => exact BindsTo.of_eq rfl); (case c5 => decide); (case kB => exact locs rfl); (case c2 => exact rfl); (case c3 => exact rfl); (case c4 => exact rfl); k_whole; intro g' L' h' FG' F' N' B' X' T'; (try dsimp only); (try k_lift B'); (try (refine wp_letQ ?_; intro Q9 X9)); (try (refine wp_letA ?_; intro A9)); (try (refine wp_letE ?_; intro E9)))
    | (refine' code_defC ?k1 ?k2 ?k3 ?k4 ?k5 ?kA ?kF ?kK ?k6 ?k7 ?k8 ?k9 ?kB ?kD ?_ ?c2 ?c3 ?c4; (case kA => exact rfl); (case kF => exact rfl); (case kK => assumption); (case k1 => k_asm); (case k2 => k_asm); (case k3 => k_asm); (case k4 => k_asm); (case k5 => k_asm); (case k6 => k_is); (case k7 => k_is); (case k8 => ktr_room); (case k9 => exact BindsTo.of_eq rfl); (case kB => exact rfl); (case kD => decide +kernel); (case c2 => exact rfl); (case c3 => exact rfl); (case c4 => exact rfl); k_whole; intro g' L' h' tk' cells' FG' F' N' Y' B' X' T' l1; (try k_lt l1); k_cells Y'; (try simp only [List.cons_append, List.nil_append] at N'); (try dsimp only); (try k_lift B'); (try (refine wp_letQ ?_; intro Q9 X9)); (try (refine wp_letA ?_; intro A9)); (try (refine wp_letE ?_; intro E9))))
  (repeat' (first | (with_reducible (((with_reducible show wpAny _ _ (call (Value.ref 52) _) _ _ _); k_dflt (refine bytes1_go (ret := ?_) (err := ?_)) <;> (intros; (try dsimp only); (try k_sweep))))) | (with_reducible (((with_reducible show wpAny _ _ (call (Value.ref 45) _) _ _ _); k_dflt (refine string1_go (ret := ?_) (err := ?_)) <;> (intros; (try dsimp only); (try k_sweep))))) | (with_reducible (((with_reducible show wpAny _ _ (call (Value.ref 125) _) _ _ _); k_dflt (refine MeetP.go (S_ISLNK_ok (by lia) (by lia)) (ret := ?_)); intro h' tk' F' N'; (try k_sweep)))) | (with_reducible (((with_reducible show wpAny _ _ (call (Value.ref 118) _) _ _ _); k_dflt (refine MeetP.go (S_ISREG_ok (by lia) (by lia)) (ret := ?_)); intro h' tk' F' N'; (try k_sweep)))) | (with_reducible (((with_reducible show wpAny _ _ (call (Value.ref 111) _) _ _ _); k_dflt (refine MeetP.go (S_ISDIR_ok (by lia) (by lia)) (ret := ?_)); intro h' tk' F' N'; (try k_sweep)))) | (with_reducible (((with_reducible show wpAny _ _ (call (Value.ref 38) _) _ _ _); k_dflt (refine uint1_go (ret := ?_) (err := ?_)); (intro d' _ _ _ _ _ _ _ hr'; subst hr'; have hb' := UInt8.toNat_lt d'; intros; (try dsimp only); (try k_sweep)); rotate_left; (intros; (try dsimp only)); rotate_left))) | (k_end; kc_close) | walk1 | (dsimp only [argC9]; walk1) | (k_unfold; (try dsimp only)) | (dsimp only [then9]) | (leave1; (try dsimp only))))
  · exact hret _ _ _ _ ⟨_, _, _, _, _, rt_dir (by with_reducible assumption), by with_reducible assumption, ⟨_, rfl⟩, rfl⟩ (by with_reducible assumption) (by with_reducible assumption)
  · exact herr _ _ _ _ _ ⟨rt_dir0 (by with_reducible assumption) (by with_reducible assumption), _, _, _, rfl⟩ (by with_reducible assumption) (by with_reducible assumption) (by with_reducible assumption)
  · exact hret _ _ _ _ ⟨_, _, _, _, _, rt_reg (by with_reducible assumption) (by with_reducible assumption), by with_reducible assumption, ⟨_, rfl⟩, rfl⟩ (by with_reducible assumption) (by with_reducible assumption)
  · exact herr _ _ _ _ _ ⟨rt_reg0 (by with_reducible assumption) (by with_reducible assumption), _, _, _, rfl⟩ (by with_reducible assumption) (by with_reducible assumption) (by with_reducible assumption)
  · exact hret _ _ _ _ ⟨_, _, _, _, _, rt_lnk (by with_reducible assumption) (by with_reducible assumption), by with_reducible assumption, ⟨_, rfl⟩, rfl⟩ (by with_reducible assumption) (by with_reducible assumption)
  · exact herr _ _ _ _ _ ⟨rt_lnk0 (by with_reducible assumption) (by with_reducible assumption), _, _, _, rfl⟩ (by with_reducible assumption) (by with_reducible assumption) (by with_reducible assumption)
  · exact hret _ _ _ _ ⟨_, _, _, _, _, rt_non (by with_reducible assumption) (by with_reducible assumption) (by with_reducible assumption), by with_reducible assumption, rfl, rfl⟩ (by with_reducible assumption) (by with_reducible assumption)
theorem thing_go {w : World} {p : Program} {loose : List Str} {mean : ExcName → Option Value} {mg mb : Str → Option Value} {dp un : Nat} {gd : Option (List Code)} {cn : Str} {cs : Scope} {a : Addr} {ccd : Value} {cl : List (Str × Addr)} {outer : List Env} {A₀ : Around} {base h₀ : Heap} {L : Addr} {m : Str → Option Value} {s : Shared} {Q E : Value → Shared → Prop} {o : List UInt8} {S : Sm} {i : Int} {r : List UInt8} {tp : Tok} {n : Nat} {rest : List (Addr × Obj)} {b : Int} {tk : Tok} (B : Below A₀ base outer h₀ := by k_asm) (F : Fr h₀ L s.heap m := by k_asm) (ok : S.Ok w o := by assumption) (N : News h₀ L s.heap (S.led i tp n rest) := by k_asm) (X : (hd.heap_39 w.params).In h₀ := by k_asm) (T : Top p loose mean mg mb h₀ := by k_asm) (hk : cs.kind = .function := by first | rfl | assumption) (att : At o i r := by assumption) (off : S.Off rest := by assumption) (h0 : 0 ≤ b := by lia) (h1 : b < 65536 := by lia) (hd : dp + 30 < recursionLimit := by ktr_room) (hu : un + 300 < cLine := by ktr_units)
    (ret : ∀ th v' r' i' tp' n' h' tk', readThing (b / 4096).toNat r = some (th, r') → At o i' r' → ThingVal th v' → Fr h₀ L h' m → News h₀ L h' ((S.x, instObj 69 S.d) :: (S.d, dictVR S.h1 S.h2 S.t1 S.t2 S.l S.f) :: (S.f, { cls := .type "function", data := .func S.fd }) :: (S.c, S.oc) :: (S.l, placeOf i' tp' n') :: (S.cp, S.op) :: (S.co, S.oo) :: rest) → Q v' { s with heap := h', toks := tk' })
    (err : ∀ e h' tk' g₂ i' tp' n', readThing (b / 4096).toNat r = none → RaisedN base (envX cn cs L a ccd cl :: outer) e (.type "ValueError") ((S.x, instObj 69 S.d) :: (S.d, dictVR S.h1 S.h2 S.t1 S.t2 S.l S.f) :: (S.f, { cls := .type "function", data := .func S.fd }) :: (S.c, S.oc) :: (S.l, placeOf i' tp' n') :: (S.cp, S.op) :: (S.co, S.oo) :: rest) h' → Fr h₀ L g₂ m → g₂.UpToSlots h' → E (.ref e) { s with heap := h', toks := tk' }) :
    wpAny (model PP w) (ktrTop dp un gd cn cs L a ccd cl outer) (call (.ref 200) [.ref S.x, .int b tk]) Q E s :=
  Meet.use (law_thing_ok ok att off h0 h1) B F X N T hk hd hu (fun _ _ h' tk' k F' N' => by obtain ⟨_, _, _, _, _, h1, h2, h3, rfl⟩ := k; exact ret _ _ _ _ _ _ h' tk' h1 h2 h3 F' N')
    (fun e _ h' tk' g₂ k R' F' U' => by obtain ⟨h1, _, _, _, rfl⟩ := k; exact err e h' tk' g₂ _ _ _ h1 R' F' U')

theorem resetP7 : True := by w_top off; trivial
theorem one_eq {a c : Nat} : ((⟨#[a]⟩ : Str) == ⟨#[c]⟩) = (c == a) := by
  rw [Bool.eq_iff_iff, beq_iff_eq, beq_iff_eq]
  exact ⟨fun h => (one_inj h).symm, fun h => by rw [h]⟩
theorem glue1 {c : Nat} : Str.ofString "\\" ++ (⟨#[c]⟩ : Str) = ⟨#[92, c]⟩ := by
  show Str.mk _ = _
  rfl
theorem two_ne {a c d : Nat} : ((⟨#[a]⟩ : Str) == ⟨#[c, d]⟩) = false := by
  rw [beq_eq_false_iff_ne]
  intro h
  have := congrArg (fun x : Str => x.cps.size) h
  simp at this
theorem two_eq {b c : Nat} : ((⟨#[92, b]⟩ : Str) == ⟨#[92, c]⟩) = (c == b) := by
  rw [Bool.eq_iff_iff, beq_iff_eq, beq_iff_eq]
  constructor
  · intro h
    have := congrArg (fun x : Str => x.cps.toList) h
    simp at this
    exact this.symm
  · intro h; rw [h]
theorem one_ne2 {a b c : Nat} : ((⟨#[a, b]⟩ : Str) == ⟨#[c]⟩) = false := by
  rw [beq_eq_false_iff_ne]
  intro h
  have := congrArg (fun x : Str => x.cps.size) h
  simp at this
theorem fits_dot {w : World} {c : Nat} {t t' : Tok} : MeetP w 186 [.str (Str.ofString ".") t, .str ⟨#[c]⟩ t'] 12 60 (fun r _ => r = .bool (true)) := by
  have hfill : PySem.Challenge.rw_in0217_01 = PySem.Challenge.rw_in0217_01 ∧ hd.heap_39 = hd.heap_39 := by (k_fill; exact ⟨rfl, rfl⟩)
  clear hfill
  intro p loose mean mg mb dp un gd cn cs a ccd cl outer A₀ base h₀ L m s Q E B F X T hk hdp hu hret
  refine wpAny_call ?_
  k_dflt (refine' code_defP ?k1 ?k2 ?k3 ?k5 ?kA ?kF ?kK ?k6 ?k7 ?k8 ?k9 ?kB ?_ ?c2 ?c3 ?c4 ?c5; (case kA => exact rfl); (case kF => exact rfl); (case kK => assumption); (case k1 => k_asm); (case k2 => k_asm); (case k3 => k_asm); (case k5 => k_asm); (case k6 => k_is); (case k7 => k_is); (case k8 => ktr_room); (case k9 => exact BindsTo.of_eq rfl); (case c5 => decide); (case kB => exact locs rfl); (case c2 => exact rfl); (case c3 => exact rfl); (case c4 => exact rfl); k_whole; intro g' L' h' KB FG' F' N' B' X' T'; (try dsimp only); (try k_lift B'); (try (refine wp_letQ ?_; intro Q9 X9)); (try (refine wp_letA ?_; intro A9)); (try (refine wp_letE ?_; intro E9)))
  k_steps
  exact (hret _ _ _ _ rfl (by with_reducible assumption) News.nil (fun b o e => Fr.keep (by with_reducible assumption) b o (KB b o e)))
theorem fits_not {w : World} {c : Nat} {t t' : Tok} : MeetP w 186 [.str (Str.ofString "[^d]") t, .str ⟨#[c]⟩ t'] 12 60 (fun r _ => r = .bool (c != 100)) := by
  have hfill : PySem.Challenge.rw_in0217_01 = PySem.Challenge.rw_in0217_01 ∧ hd.heap_39 = hd.heap_39 := by (k_fill; exact ⟨rfl, rfl⟩)
  clear hfill
  intro p loose mean mg mb dp un gd cn cs a ccd cl outer A₀ base h₀ L m s Q E B F X T hk hdp hu hret
  refine wpAny_call ?_
  k_dflt (refine' code_defP ?k1 ?k2 ?k3 ?k5 ?kA ?kF ?kK ?k6 ?k7 ?k8 ?k9 ?kB ?_ ?c2 ?c3 ?c4 ?c5; (case kA => exact rfl); (case kF => exact rfl); (case kK => assumption); (case k1 => k_asm); (case k2 => k_asm); (case k3 => k_asm); (case k5 => k_asm); (case k6 => k_is); (case k7 => k_is); (case k8 => ktr_room); (case k9 => exact BindsTo.of_eq rfl); (case c5 => decide); (case kB => exact locs rfl); (case c2 => exact rfl); (case c3 => exact rfl); (case c4 => exact rfl); k_whole; intro g' L' h' KB FG' F' N' B' X' T'; (try dsimp only); (try k_lift B'); (try (refine wp_letQ ?_; intro Q9 X9)); (try (refine wp_letA ?_; intro A9)); (try (refine wp_letE ?_; intro E9)))
  k_steps
  refine (congrArg (fun z => Q (.bool z) _) ?_).mpr (hret _ _ _ _ rfl (by with_reducible assumption) News.nil (fun b o e => Fr.keep (by with_reducible assumption) b o (KB b o e)))
  rw [StrLaws.found_one, show (Txt.slice (Str.ofString "[^d]") (some 2) (some (-1))).cps.toList = [100] from by decide]
  by_cases h : c = 100 <;> simp [h]
theorem fits_in {w : World} {c : Nat} {t t' : Tok} : MeetP w 186 [.str (Str.ofString "[\\-l]") t, .str ⟨#[c]⟩ t'] 12 60 (fun r _ => r = .bool (c == 92 || c == 45 || c == 108)) := by
  have hfill : PySem.Challenge.rw_in0217_01 = PySem.Challenge.rw_in0217_01 ∧ hd.heap_39 = hd.heap_39 := by (k_fill; exact ⟨rfl, rfl⟩)
  clear hfill
  intro p loose mean mg mb dp un gd cn cs a ccd cl outer A₀ base h₀ L m s Q E B F X T hk hdp hu hret
  refine wpAny_call ?_
  k_dflt (refine' code_defP ?k1 ?k2 ?k3 ?k5 ?kA ?kF ?kK ?k6 ?k7 ?k8 ?k9 ?kB ?_ ?c2 ?c3 ?c4 ?c5; (case kA => exact rfl); (case kF => exact rfl); (case kK => assumption); (case k1 => k_asm); (case k2 => k_asm); (case k3 => k_asm); (case k5 => k_asm); (case k6 => k_is); (case k7 => k_is); (case k8 => ktr_room); (case k9 => exact BindsTo.of_eq rfl); (case c5 => decide); (case kB => exact locs rfl); (case c2 => exact rfl); (case c3 => exact rfl); (case c4 => exact rfl); k_whole; intro g' L' h' KB FG' F' N' B' X' T'; (try dsimp only); (try k_lift B'); (try (refine wp_letQ ?_; intro Q9 X9)); (try (refine wp_letA ?_; intro A9)); (try (refine wp_letE ?_; intro E9)))
  k_steps
  refine (congrArg (fun z => Q (.bool z) _) ?_).mpr (hret _ _ _ _ rfl (by with_reducible assumption) News.nil (fun b o e => Fr.keep (by with_reducible assumption) b o (KB b o e)))
  rw [StrLaws.found_one, show (Txt.slice (Str.ofString "[\\-l]") (some 1) (some (-1))).cps.toList = [92, 45, 108] from by decide]
  rw [Bool.eq_iff_iff]
  simp [or_assoc]
theorem fits_d {w : World} {c : Nat} {t t' : Tok} : MeetP w 186 [.str (Str.ofString "d") t, .str ⟨#[c]⟩ t'] 12 60 (fun r _ => r = .bool (c == 100)) := by
  have hfill : PySem.Challenge.rw_in0217_01 = PySem.Challenge.rw_in0217_01 ∧ hd.heap_39 = hd.heap_39 := by (k_fill; exact ⟨rfl, rfl⟩)
  clear hfill
  intro p loose mean mg mb dp un gd cn cs a ccd cl outer A₀ base h₀ L m s Q E B F X T hk hdp hu hret
  refine wpAny_call ?_
  k_dflt (refine' code_defP ?k1 ?k2 ?k3 ?k5 ?kA ?kF ?kK ?k6 ?k7 ?k8 ?k9 ?kB ?_ ?c2 ?c3 ?c4 ?c5; (case kA => exact rfl); (case kF => exact rfl); (case kK => assumption); (case k1 => k_asm); (case k2 => k_asm); (case k3 => k_asm); (case k5 => k_asm); (case k6 => k_is); (case k7 => k_is); (case k8 => ktr_room); (case k9 => exact BindsTo.of_eq rfl); (case c5 => decide); (case kB => exact locs rfl); (case c2 => exact rfl); (case c3 => exact rfl); (case c4 => exact rfl); k_whole; intro g' L' h' KB FG' F' N' B' X' T'; (try dsimp only); (try k_lift B'); (try (refine wp_letQ ?_; intro Q9 X9)); (try (refine wp_letA ?_; intro A9)); (try (refine wp_letE ?_; intro E9)))
  k_steps
  · refine (congrArg (fun z => Q (.bool z) _) ?_).mpr (hret _ _ _ _ rfl (by with_reducible assumption) News.nil (fun b o e => Fr.keep (by with_reducible assumption) b o (KB b o e)))
    rw [show Str.ofString "d" = ⟨#[100]⟩ from by decide, one_eq]
  · refine (congrArg (fun z => Q (.bool z) _) ?_).mpr (hret _ _ _ _ rfl (by with_reducible assumption) News.nil (fun b o e => Fr.keep (by with_reducible assumption) b o (KB b o e)))
    (rename _ = false => hne)
    rw [show Str.ofString "d" = ⟨#[100]⟩ from by decide, one_eq] at hne
    rw [glue1, show Str.ofString "d" = ⟨#[100]⟩ from by decide, two_ne, hne]
theorem fits_a {w : World} {c : Nat} {t t' : Tok} : MeetP w 186 [.str (Str.ofString "a") t, .str ⟨#[c]⟩ t'] 12 60 (fun r _ => r = .bool (c == 97)) := by
  have hfill : PySem.Challenge.rw_in0217_01 = PySem.Challenge.rw_in0217_01 ∧ hd.heap_39 = hd.heap_39 := by (k_fill; exact ⟨rfl, rfl⟩)
  clear hfill
  intro p loose mean mg mb dp un gd cn cs a ccd cl outer A₀ base h₀ L m s Q E B F X T hk hdp hu hret
  refine wpAny_call ?_
  k_dflt (refine' code_defP ?k1 ?k2 ?k3 ?k5 ?kA ?kF ?kK ?k6 ?k7 ?k8 ?k9 ?kB ?_ ?c2 ?c3 ?c4 ?c5; (case kA => exact rfl); (case kF => exact rfl); (case kK => assumption); (case k1 => k_asm); (case k2 => k_asm); (case k3 => k_asm); (case k5 => k_asm); (case k6 => k_is); (case k7 => k_is); (case k8 => ktr_room); (case k9 => exact BindsTo.of_eq rfl); (case c5 => decide); (case kB => exact locs rfl); (case c2 => exact rfl); (case c3 => exact rfl); (case c4 => exact rfl); k_whole; intro g' L' h' KB FG' F' N' B' X' T'; (try dsimp only); (try k_lift B'); (try (refine wp_letQ ?_; intro Q9 X9)); (try (refine wp_letA ?_; intro A9)); (try (refine wp_letE ?_; intro E9)))
  k_steps
  · refine (congrArg (fun z => Q (.bool z) _) ?_).mpr (hret _ _ _ _ rfl (by with_reducible assumption) News.nil (fun b o e => Fr.keep (by with_reducible assumption) b o (KB b o e)))
    rw [show Str.ofString "a" = ⟨#[97]⟩ from by decide, one_eq]
  · refine (congrArg (fun z => Q (.bool z) _) ?_).mpr (hret _ _ _ _ rfl (by with_reducible assumption) News.nil (fun b o e => Fr.keep (by with_reducible assumption) b o (KB b o e)))
    (rename _ = false => hne)
    rw [show Str.ofString "a" = ⟨#[97]⟩ from by decide, one_eq] at hne
    rw [glue1, show Str.ofString "a" = ⟨#[97]⟩ from by decide, two_ne, hne]
theorem fits_slash {w : World} {c : Nat} {t t' : Tok} : MeetP w 186 [.str (Str.ofString "/") t, .str ⟨#[c]⟩ t'] 12 60 (fun r _ => r = .bool (c == 47)) := by
  have hfill : PySem.Challenge.rw_in0217_01 = PySem.Challenge.rw_in0217_01 ∧ hd.heap_39 = hd.heap_39 := by (k_fill; exact ⟨rfl, rfl⟩)
  clear hfill
  intro p loose mean mg mb dp un gd cn cs a ccd cl outer A₀ base h₀ L m s Q E B F X T hk hdp hu hret
  refine wpAny_call ?_
  k_dflt (refine' code_defP ?k1 ?k2 ?k3 ?k5 ?kA ?kF ?kK ?k6 ?k7 ?k8 ?k9 ?kB ?_ ?c2 ?c3 ?c4 ?c5; (case kA => exact rfl); (case kF => exact rfl); (case kK => assumption); (case k1 => k_asm); (case k2 => k_asm); (case k3 => k_asm); (case k5 => k_asm); (case k6 => k_is); (case k7 => k_is); (case k8 => ktr_room); (case k9 => exact BindsTo.of_eq rfl); (case c5 => decide); (case kB => exact locs rfl); (case c2 => exact rfl); (case c3 => exact rfl); (case c4 => exact rfl); k_whole; intro g' L' h' KB FG' F' N' B' X' T'; (try dsimp only); (try k_lift B'); (try (refine wp_letQ ?_; intro Q9 X9)); (try (refine wp_letA ?_; intro A9)); (try (refine wp_letE ?_; intro E9)))
  k_steps
  · refine (congrArg (fun z => Q (.bool z) _) ?_).mpr (hret _ _ _ _ rfl (by with_reducible assumption) News.nil (fun b o e => Fr.keep (by with_reducible assumption) b o (KB b o e)))
    rw [show Str.ofString "/" = ⟨#[47]⟩ from by decide, one_eq]
  · refine (congrArg (fun z => Q (.bool z) _) ?_).mpr (hret _ _ _ _ rfl (by with_reducible assumption) News.nil (fun b o e => Fr.keep (by with_reducible assumption) b o (KB b o e)))
    (rename _ = false => hne)
    rw [show Str.ofString "/" = ⟨#[47]⟩ from by decide, one_eq] at hne
    rw [glue1, show Str.ofString "/" = ⟨#[47]⟩ from by decide, two_ne, hne]
theorem fits_e {w : World} {c : Nat} {t t' : Tok} : MeetP w 186 [.str (Str.ofString "é") t, .str ⟨#[c]⟩ t'] 12 60 (fun r _ => r = .bool (c == 233)) := by
  have hfill : PySem.Challenge.rw_in0217_01 = PySem.Challenge.rw_in0217_01 ∧ hd.heap_39 = hd.heap_39 := by (k_fill; exact ⟨rfl, rfl⟩)
  clear hfill
  intro p loose mean mg mb dp un gd cn cs a ccd cl outer A₀ base h₀ L m s Q E B F X T hk hdp hu hret
  refine wpAny_call ?_
  k_dflt (refine' code_defP ?k1 ?k2 ?k3 ?k5 ?kA ?kF ?kK ?k6 ?k7 ?k8 ?k9 ?kB ?_ ?c2 ?c3 ?c4 ?c5; (case kA => exact rfl); (case kF => exact rfl); (case kK => assumption); (case k1 => k_asm); (case k2 => k_asm); (case k3 => k_asm); (case k5 => k_asm); (case k6 => k_is); (case k7 => k_is); (case k8 => ktr_room); (case k9 => exact BindsTo.of_eq rfl); (case c5 => decide); (case kB => exact locs rfl); (case c2 => exact rfl); (case c3 => exact rfl); (case c4 => exact rfl); k_whole; intro g' L' h' KB FG' F' N' B' X' T'; (try dsimp only); (try k_lift B'); (try (refine wp_letQ ?_; intro Q9 X9)); (try (refine wp_letA ?_; intro A9)); (try (refine wp_letE ?_; intro E9)))
  k_steps
  · refine (congrArg (fun z => Q (.bool z) _) ?_).mpr (hret _ _ _ _ rfl (by with_reducible assumption) News.nil (fun b o e => Fr.keep (by with_reducible assumption) b o (KB b o e)))
    rw [show Str.ofString "é" = ⟨#[233]⟩ from by decide, one_eq]
  · refine (congrArg (fun z => Q (.bool z) _) ?_).mpr (hret _ _ _ _ rfl (by with_reducible assumption) News.nil (fun b o e => Fr.keep (by with_reducible assumption) b o (KB b o e)))
    (rename _ = false => hne)
    rw [show Str.ofString "é" = ⟨#[233]⟩ from by decide, one_eq] at hne
    rw [glue1, show Str.ofString "é" = ⟨#[233]⟩ from by decide, two_ne, hne]
theorem fits_blank {w : World} {c : Nat} {t t' : Tok} : MeetP w 186 [.str (Str.ofString "\\ ") t, .str ⟨#[c]⟩ t'] 12 60 (fun r _ => r = .bool (c == 32)) := by
  have hfill : PySem.Challenge.rw_in0217_01 = PySem.Challenge.rw_in0217_01 ∧ hd.heap_39 = hd.heap_39 := by (k_fill; exact ⟨rfl, rfl⟩)
  clear hfill
  intro p loose mean mg mb dp un gd cn cs a ccd cl outer A₀ base h₀ L m s Q E B F X T hk hdp hu hret
  refine wpAny_call ?_
  k_dflt (refine' code_defP ?k1 ?k2 ?k3 ?k5 ?kA ?kF ?kK ?k6 ?k7 ?k8 ?k9 ?kB ?_ ?c2 ?c3 ?c4 ?c5; (case kA => exact rfl); (case kF => exact rfl); (case kK => assumption); (case k1 => k_asm); (case k2 => k_asm); (case k3 => k_asm); (case k5 => k_asm); (case k6 => k_is); (case k7 => k_is); (case k8 => ktr_room); (case k9 => exact BindsTo.of_eq rfl); (case c5 => decide); (case kB => exact locs rfl); (case c2 => exact rfl); (case c3 => exact rfl); (case c4 => exact rfl); k_whole; intro g' L' h' KB FG' F' N' B' X' T'; (try dsimp only); (try k_lift B'); (try (refine wp_letQ ?_; intro Q9 X9)); (try (refine wp_letA ?_; intro A9)); (try (refine wp_letE ?_; intro E9)))
  k_steps
  · exfalso
    (rename _ = true => hye)
    rw [show Str.ofString "\\ " = ⟨#[92, 32]⟩ from by decide, one_ne2] at hye
    cases hye
  · refine (congrArg (fun z => Q (.bool z) _) ?_).mpr (hret _ _ _ _ rfl (by with_reducible assumption) News.nil (fun b o e => Fr.keep (by with_reducible assumption) b o (KB b o e)))
    rw [glue1, show Str.ofString "\\ " = ⟨#[92, 32]⟩ from by decide, two_eq]

theorem resetP8 : True := by w_top off; trivial
def FitOk (P : Str) (f : Nat → Bool) : Prop := ∀ (w : World) (c : Nat) (t t' : Tok), MeetP w 186 [.str P t, .str ⟨#[c]⟩ t'] 12 60 (fun r _ => r = .bool (f c))
theorem FitOk.app {P : Str} {f : Nat → Bool} (h : FitOk P f) {w : World} {c : Nat} {t t' : Tok} : MeetP w 186 [.str P t, .str ⟨#[c]⟩ t'] 12 60 (fun r _ => r = .bool (f c)) := h w c t t'
/-- the sign at a place -/
def signAt (x : Str) (i : Int) : Nat := (Txt.charAt x i).getD 0
abbrev Part := Str × (Nat → Bool) × Tok
def PartsAt (h : Heap) (A : Addr) (ps : List Part) : Prop := h.IsList A (ps.map fun p => Value.str p.1 p.2.2).toArray
def allFit (ps : List Part) (x : Str) (b : Int) : Bool := ps.zipIdx.all fun q => q.1.2.1 (signAt x (b + (q.2 : Nat)))
theorem allFit_snoc {ps : List Part} {x : Str} {b : Int} {i : Nat} {p : Part} (h : allFit (ps.take i) x b = true) (hp : ps[i]? = some p) : allFit (ps.take (i + 1)) x b = p.2.1 (signAt x (b + (i : Nat))) := by
  have hi : (ps.take i).length = i := by
    rw [List.length_take]
    have := (List.getElem?_eq_some_iff.mp hp).1
    lia
  unfold allFit at h ⊢
  rw [List.take_add_one, hp, Option.toList, List.zipIdx_append, List.all_append, h, hi]
  simp
theorem allFit_bad {ps : List Part} {x : Str} {b : Int} {i : Nat} {p : Part} (hp : ps[i]? = some p) (h : p.2.1 (signAt x (b + (i : Nat))) = false) : allFit ps x b = false := by
  unfold allFit
  rw [List.all_eq_false]
  refine ⟨(p, i), ?_, by simp [h]⟩
  rw [List.mem_zipIdx_iff_getElem?]
  exact hp
section
variable {prog : Program} {w : World} {A : Around} {E : Value → Shared → Prop} {s : Shared} {value slice : PySem.Expr} {l : Addr} {vs : List Value} {k : Int} {u : Tok} {v : Value} {Q : Value → Shared → Prop}
theorem lenParts {A' : Addr} {ps : List Part} (hl : s.heap.IsList A' (ps.map fun p => Value.str p.1 p.2.2).toArray) (hz : ps.length ≤ 100) (h : ∀ t' k, Q (.int (ps.length : Nat) t') { s with toks := k }) : wpAny (model prog w) A (call (.builtin "len") [.ref A']) Q E s := by
  have e : (ps.map fun p => Value.str p.1 p.2.2).toArray.size = ps.length := by simp
  refine PySem.Calls.call_len_list hl (by rw [e]; lia) ?_
  rw [e]
  exact h _ _
theorem listItem (hl : s.heap.IsList l vs.toArray) (h0 : 0 ≤ k) (hhi : k < 2 ^ 63) (hx : vs[k.toNat]? = some v) (h : Q v s)
    (hs : subscripted slice false (.ref l) (.int k u) = operate [.ref l, .int k u] (getItem (.ref l) (.int k u)) := by with_unfolding_all rfl) :
    wpAny (model prog w) A (subscriptTail value slice (.ref l) (.int k u)) Q E s :=
  tail_any hl.typeIs slot_list_getitem.lookup (wpAny_getItem_list hl h0 hhi (by simpa using hx) h) hs
end
theorem partItem {ps : List Part} {i : Nat} {p : Part} (h : ps[i]? = some p) : (ps.map fun p => Value.str p.1 p.2.2)[((i : Nat) : Int).toNat]? = some (.str p.1 p.2.2) := by
  rw [Int.toNat_natCast, List.getElem?_map, h]; rfl
theorem takes_ok {w : World} {hA tA : Addr} {hs ts : List Part} (hf : ∀ p ∈ hs, FitOk p.1 p.2.1) (tf : ∀ p ∈ ts, FitOk p.1 p.2.1) {x : Str} {tx : Tok} (hx3 : hs.length + ts.length ≤ x.length) (hxz : x.length ≤ 4000) (hsz : hs.length ≤ 100) (tsz : ts.length ≤ 100) :
    MeetQ w 193 [.ref hA, .ref tA, .str x tx] 30 200 (fun h => PartsAt h hA hs ∧ PartsAt h tA ts) (fun r => r = .bool (allFit hs x 0 && allFit ts x ((x.length : Int) - ts.length))) := by
  have hfill : PySem.Challenge.rw_in0217_01 = PySem.Challenge.rw_in0217_01 ∧ hd.heap_39 = hd.heap_39 := by (k_fill; exact ⟨rfl, rfl⟩)
  clear hfill
  intro p loose mean mg mb dp un gd cn cs a ccd cl outer A₀ base h₀ L m s Q E B F X T hk hdp hu hpre hret
  refine wpAny_call ?_
  k_dflt (refine' code_defP ?k1 ?k2 ?k3 ?k5 ?kA ?kF ?kK ?k6 ?k7 ?k8 ?k9 ?kB ?_ ?c2 ?c3 ?c4 ?c5; (case kA => exact rfl); (case kF => exact rfl); (case kK => assumption); (case k1 => k_asm); (case k2 => k_asm); (case k3 => k_asm); (case k5 => k_asm); (case k6 => k_is); (case k7 => k_is); (case k8 => ktr_room); (case k9 => exact BindsTo.of_eq rfl); (case c5 => decide); (case kB => exact locs rfl); (case c2 => exact rfl); (case c3 => exact rfl); (case c4 => exact rfl); k_whole; intro g' L' h' KB FG' F' N' B' X' T'; (try dsimp only); (try k_lift B'); (try (refine wp_letQ ?_; intro Q9 X9)); (try (refine wp_letA ?_; intro A9)); (try (refine wp_letE ?_; intro E9)))
  have hLh : g'.IsList hA (hs.map fun p => Value.str p.1 p.2.2).toArray := hpre.1.at fun o e => KB _ _ e
  have hLt : g'.IsList tA (ts.map fun p => Value.str p.1 p.2.2).toArray := hpre.2.at fun o e => KB _ _ e
  (repeat' (first | (with_reducible (((with_reducible show wpAny _ _ (exec (Stmt.For (Expr.Name _ _) (Expr.Call _ _ _ _) (_ :: _) [] _) _) _ _ _); (k_dflt (refine wpAny_For ?_ (by intro _; rfl)))))) | (with_reducible (((with_reducible show wpAny _ _ (call (Value.builtin "len") [Value.ref _]) _ _ _); k_dflt (refine lenParts (by exact Heap.IsList.at (by assumption) (fun o e => Fr.keep (by k_asm) _ o e)) (by assumption) ?_); intro _ _))) | (k_end; kc_close) | walk1 | (dsimp only [argC9]; walk1) | (k_unfold; (try dsimp only)) | (dsimp only [then9]) | (leave1; (try dsimp only))))
  (rename Fr g' L' _ _ => F1)
  (rename News g' L' _ _ => N1)
  (rename IsRange _ _ _ _ _ _ _ _ => R1)
  refine range_loop (fun i m news => m (Str.ofString "head") = some (.ref hA) ∧ m (Str.ofString "tail") = some (.ref tA) ∧ m (Str.ofString "line") = some (.str x tx) ∧ news = [] ∧ allFit (hs.take i) x 0 = true) R1 (by lia) rfl F1 N1 ⟨rfl, rfl, rfl, rfl, rfl⟩ ?turn ?done
  case turn =>
    rintro i t m₁ news₁ I it h tk hi ⟨e1, e2, e3, rfl, hfit⟩ hn Fi Ni
    obtain ⟨q, hq⟩ : ∃ q, hs[i]? = some q := ⟨_, List.getElem?_eq_getElem hi⟩
    have hfq := hf q (List.mem_of_getElem? hq)
    rw [names3 e1 e2 e3] at Fi
    clear e1 e2 e3 F1 N1 R1
    (repeat' (first | (with_reducible (((with_reducible show wpAny _ _ (call (Value.ref 186) _) _ _ _); k_dflt (refine MeetP.go (FitOk.app (by assumption)) (ret := ?_)); intro h' tk' F' N'; (try k_sweep)))) | (with_reducible (((with_reducible show wpAny _ _ (subscriptTail _ _ (Value.str _ _) (Value.int _ _)) _ _ _); (refine KXi.item rfl (by omega) (by omega) (by omega) ?_); intro kxiE))) | (with_reducible (((with_reducible show wpAny _ _ (subscriptTail _ _ (Value.ref _) (Value.int (Nat.cast _) _)) _ _ _); k_dflt (refine' listItem ?l ?a ?b ?x ?_; (case l => exact Heap.IsList.at (by assumption) (fun o e => Fr.keep (by k_asm) _ o e)); (case x => exact partItem (by assumption)); (case a => lia); (case b => lia))))) | (with_reducible (((with_reducible show TPost _ _ _ _ _ _ _ _ _); dsimp only [TPost]))) | (k_end; kc_close) | walk1 | (dsimp only [argC9]; walk1) | (k_unfold; (try dsimp only)) | (dsimp only [then9]) | (leave1; (try dsimp only))))
    · exact ⟨_, _, _, [], rfl, (by assumption), (by assumption), (fun _ h => nomatch h), rfl, rfl, rfl, rfl, (allFit_snoc hfit hq).trans (by rw [Int.zero_add]; assumption)⟩
    · skip
      refine (congrArg (fun z => Q (.bool z) _) ?_).mpr (hret _ _ _ _ rfl (by with_reducible assumption) News.nil (fun b o e => Fr.keep (by assumption) b o (KB b o e)))
      rw [allFit_bad hq (by rw [Int.zero_add]; assumption), Bool.false_and]
  case done =>
    rintro m₁ news₁ h tk₁ ⟨e1, e2, e3, rfl, hfit⟩ Fi Ni
    rw [List.take_length] at hfit
    rw [names3 e1 e2 e3] at Fi
    clear e1 e2 e3 F1 N1 R1
    (repeat' (first | (with_reducible (((with_reducible show wpAny _ _ (exec (Stmt.For (Expr.Name _ _) (Expr.Call _ _ _ _) (_ :: _) [] _) _) _ _ _); (k_dflt (refine wpAny_For ?_ (by intro _; rfl)))))) | (with_reducible (((with_reducible show wpAny _ _ (call (Value.builtin "len") [Value.ref _]) _ _ _); k_dflt (refine lenParts (by exact Heap.IsList.at (by assumption) (fun o e => Fr.keep (by k_asm) _ o e)) (by assumption) ?_); intro _ _))) | (k_end; kc_close) | walk1 | (dsimp only [argC9]; walk1) | (k_unfold; (try dsimp only)) | (dsimp only [then9]) | (leave1; (try dsimp only))))
    (rename Fr g' L' _ _ => F1)
    (rename News g' L' _ _ => N1)
    (rename IsRange _ _ _ _ _ _ _ _ => R1)
    refine range_loop (fun i m news => m (Str.ofString "head") = some (.ref hA) ∧ m (Str.ofString "tail") = some (.ref tA) ∧ m (Str.ofString "line") = some (.str x tx) ∧ news = [] ∧ allFit (ts.take i) x ((x.length : Int) - ts.length) = true) R1 (by lia) rfl F1 N1 ⟨rfl, rfl, rfl, rfl, rfl⟩ ?turn2 ?done2
    case turn2 =>
      rintro i t m₁ news₁ I it h tk hi ⟨e1, e2, e3, rfl, hfit2⟩ hn Fi Ni
      obtain ⟨q, hq⟩ : ∃ q, ts[i]? = some q := ⟨_, List.getElem?_eq_getElem hi⟩
      have hfq := tf q (List.mem_of_getElem? hq)
      rw [names3 e1 e2 e3] at Fi
      clear e1 e2 e3 F1 N1 R1
      (repeat' (first | (with_reducible (((with_reducible show wpAny _ _ (call (Value.builtin "len") [Value.ref _]) _ _ _); k_dflt (refine lenParts (by exact Heap.IsList.at (by assumption) (fun o e => Fr.keep (by k_asm) _ o e)) (by assumption) ?_); intro _ _))) | (with_reducible (((with_reducible show wpAny _ _ (call (Value.ref 186) _) _ _ _); k_dflt (refine MeetP.go (FitOk.app (by assumption)) (ret := ?_)); intro h' tk' F' N'; (try k_sweep)))) | (with_reducible (((with_reducible show wpAny _ _ (subscriptTail _ _ (Value.str _ _) (Value.int _ _)) _ _ _); (refine KXi.item rfl (by omega) (by omega) (by omega) ?_); intro kxiE))) | (with_reducible (((with_reducible show wpAny _ _ (subscriptTail _ _ (Value.ref _) (Value.int (Nat.cast _) _)) _ _ _); k_dflt (refine' listItem ?l ?a ?b ?x ?_; (case l => exact Heap.IsList.at (by assumption) (fun o e => Fr.keep (by k_asm) _ o e)); (case x => exact partItem (by assumption)); (case a => lia); (case b => lia))))) | (with_reducible (((with_reducible show TPost _ _ _ _ _ _ _ _ _); dsimp only [TPost]))) | (k_end; kc_close) | walk1 | (dsimp only [argC9]; walk1) | (k_unfold; (try dsimp only)) | (dsimp only [then9]) | (leave1; (try dsimp only))))
      · exact ⟨_, _, _, [], rfl, (by assumption), (by assumption), (fun _ h => nomatch h), rfl, rfl, rfl, rfl, (allFit_snoc hfit2 hq).trans (by assumption)⟩
      · skip
        refine (congrArg (fun z => Q (.bool z) _) ?_).mpr (hret _ _ _ _ rfl (by with_reducible assumption) News.nil (fun b o e => Fr.keep (by assumption) b o (KB b o e)))
        rw [allFit_bad hq (by assumption), Bool.and_false]
    case done2 =>
      rintro m₁ news₁ h tk₁ ⟨e1, e2, e3, rfl, hfit2⟩ Fi Ni
      rw [List.take_length] at hfit2
      rw [names3 e1 e2 e3] at Fi
      clear e1 e2 e3 F1 N1 R1
      k_steps
      refine (congrArg (fun z => Q (.bool z) _) ?_).mpr (hret _ _ _ _ rfl (by with_reducible assumption) News.nil (fun b o e => Fr.keep (by assumption) b o (KB b o e)))
      rw [hfit, hfit2]; rfl

/-- one place of the stream: name, mode, thing, and what is left -/
def nodeOf (r : List UInt8) : Option (List UInt8 × Nat × Thing × List UInt8) :=
  match counted r with
  | none => none
  | some (nm, []) => none
  | some (nm, [b]) => none
  | some (nm, b :: c :: r') => (readThing ((256 * b.toNat + c.toNat) / 4096) r').map fun x => (nm, 256 * b.toNat + c.toNat, x.1, x.2)
theorem counted_len {r d r' : List UInt8} (h : counted r = some (d, r')) : d.length + r'.length + 1 = r.length := by
  cases r with
  | nil => cases h
  | cons b r =>
    by_cases hb : b.toNat ≤ r.length
    · simp only [counted, if_pos hb, Option.some.injEq, Prod.mk.injEq] at h
      obtain ⟨rfl, rfl⟩ := h
      rw [List.length_take, List.length_drop, List.length_cons]
      lia
    · simp [counted, if_neg hb] at h
theorem readThing_len {k : Nat} {r r' : List UInt8} {th : Thing} (h : readThing k r = some (th, r')) : r'.length ≤ r.length := by
  unfold readThing at h
  split at h
  · cases r with
    | nil => cases h
    | cons b r =>
      simp only [Option.some.injEq, Prod.mk.injEq] at h
      obtain ⟨_, rfl⟩ := h; simp
  · split at h
    · cases hc : counted r with
      | none => rw [hc] at h; cases h
      | some x =>
        rw [hc] at h
        obtain ⟨_, rfl⟩ := Prod.mk.inj (Option.some.inj h)
        have := counted_len (show counted r = some (x.1, x.2) from hc)
        lia
    · split at h
      · cases hc : counted r with
        | none => rw [hc] at h; cases h
        | some x =>
          rw [hc] at h
          obtain ⟨_, rfl⟩ := Prod.mk.inj (Option.some.inj h)
          have := counted_len (show counted r = some (x.1, x.2) from hc)
          lia
      · obtain ⟨_, rfl⟩ := Prod.mk.inj (Option.some.inj h)
        lia
theorem readThing_num {r r' : List UInt8} {th : Thing} (h : readThing 4 r = some (th, r')) : ∃ b : UInt8, th = .num b.toNat := by
  cases r with
  | nil => cases h
  | cons b r => obtain ⟨rfl, _⟩ := Prod.mk.inj (Option.some.inj h); exact ⟨b, rfl⟩
theorem nodeOf_noname {r : List UInt8} (h : counted r = none) : nodeOf r = none := by unfold nodeOf; rw [h]
theorem nodeOf_nohi {r d r' : List UInt8} (h : counted r = some (d, r')) (e : r' = []) : nodeOf r = none := by unfold nodeOf; rw [h, e]
theorem nodeOf_nolo {r d r' r2 : List UInt8} {b : UInt8} (h : counted r = some (d, r')) (e1 : r' = b :: r2) (e : r2 = []) : nodeOf r = none := by unfold nodeOf; rw [h, e1, e]
theorem nodeOf_nothing {r d r' : List UInt8} {b c : UInt8} {k : Nat} (h : counted r = some (d, b :: c :: r')) (hk : k = (256 * b.toNat + c.toNat) / 4096) (e : readThing k r' = none) : nodeOf r = none := by unfold nodeOf; rw [h]; simp [← hk, e]
theorem nodeOf_some {r d r' r2 : List UInt8} {b c : UInt8} {k : Nat} {th : Thing} (h : counted r = some (d, b :: c :: r')) (hk : k = (256 * b.toNat + c.toNat) / 4096) (e : readThing k r' = some (th, r2)) : nodeOf r = some (d, 256 * b.toNat + c.toNat, th, r2) := by unfold nodeOf; rw [h]; simp [← hk, e]
theorem nodeOf_len {r d r' : List UInt8} {b : Nat} {th : Thing} (h : nodeOf r = some (d, b, th, r')) : d.length + r'.length + 3 ≤ r.length := by
  unfold nodeOf at h
  split at h
  · cases h
  · cases h
  · cases h
  · rename_i nm b c r2 hc
    cases hr : readThing ((256 * b.toNat + c.toNat) / 4096) r2 with
    | none => rw [hr] at h; cases h
    | some x =>
      rw [hr] at h
      have e := Option.some.inj h
      simp only [Prod.mk.injEq] at e
      obtain ⟨rfl, rfl, rfl, rfl⟩ := e
      have h1 := counted_len hc
      have h2 := readThing_len (show readThing _ r2 = some (x.1, x.2) from hr)
      simp only [List.length_cons] at h1
      lia
def strOf (d : List UInt8) : Str := ⟨(d.map UInt8.toNat).toArray⟩
def lineOf (bits : Nat) (path : Str) : Str := (⟨(rowOf bits).toArray⟩ : Str) ++ Str.ofString " " ++ path
abbrev Item := Str × Thing
def own (hidden : Bool) (line : Str) (th : Thing) : List Item := if hidden then [] else [(line, th)]
def numOf : Thing → Nat
  | .num k => k
  | _ => 0
/-- what _law_walk reads -/
inductive Reads (tk : Str → Bool) : Nat → Str → Bool → List UInt8 → List Item → Option (List UInt8) → Prop
  | done {a : Str} {h : Bool} {r : List UInt8} : Reads tk 0 a h r [] (some r)
  | bad {n : Nat} {a : Str} {h : Bool} {r : List UInt8} (e : nodeOf r = none) : Reads tk (n + 1) a h r [] none
  | leaf {n : Nat} {a : Str} {h h' : Bool} {r r' : List UInt8} {nm : List UInt8} {b : Nat} {th : Thing} {its : List Item} {o : Option (List UInt8)} (e : nodeOf r = some (nm, b, th, r')) (k : b / 4096 ≠ 4)
      (eh : h' = (h || tk (lineOf b (a ++ strOf nm)))) (more : Reads tk n a h r' its o) : Reads tk (n + 1) a h r (own h' (lineOf b (a ++ strOf nm)) th ++ its) o
  | dirBad {n : Nat} {a : Str} {h h' : Bool} {r r' : List UInt8} {nm : List UInt8} {b : Nat} {th : Thing} {its : List Item} (e : nodeOf r = some (nm, b, th, r')) (k : b / 4096 = 4)
      (eh : h' = (h || tk (lineOf b (a ++ strOf nm)))) (within : Reads tk (numOf th) (a ++ strOf nm ++ Str.ofString "/") h' r' its none) : Reads tk (n + 1) a h r (own h' (lineOf b (a ++ strOf nm)) th ++ its) none
  | dir {n : Nat} {a : Str} {h h' : Bool} {r r' r2 : List UInt8} {nm : List UInt8} {b : Nat} {th : Thing} {its its2 : List Item} {o : Option (List UInt8)} (e : nodeOf r = some (nm, b, th, r')) (k : b / 4096 = 4)
      (eh : h' = (h || tk (lineOf b (a ++ strOf nm)))) (within : Reads tk (numOf th) (a ++ strOf nm ++ Str.ofString "/") h' r' its (some r2)) (more : Reads tk n a h r2 its2 o) : Reads tk (n + 1) a h r (own h' (lineOf b (a ++ strOf nm)) th ++ its ++ its2) o
/-- what a reading is, by its first place -/
def RInv (tk : Str → Bool) : Nat → Str → Bool → List UInt8 → List Item → Option (List UInt8) → Prop
  | 0, _, _, r, its, o => its = [] ∧ o = some r
  | n + 1, a, h, r, its, o => match nodeOf r with
    | none => its = [] ∧ o = none
    | some (nm, b, th, r') => if b / 4096 = 4 then ∃ i1 o1, Reads tk (numOf th) (a ++ strOf nm ++ Str.ofString "/") (h || tk (lineOf b (a ++ strOf nm))) r' i1 o1 ∧ ((o1 = none ∧ its = own (h || tk (lineOf b (a ++ strOf nm))) (lineOf b (a ++ strOf nm)) th ++ i1 ∧ o = none) ∨
          ∃ r2 i2, o1 = some r2 ∧ Reads tk n a h r2 i2 o ∧ its = own (h || tk (lineOf b (a ++ strOf nm))) (lineOf b (a ++ strOf nm)) th ++ i1 ++ i2)
        else ∃ i2, Reads tk n a h r' i2 o ∧ its = own (h || tk (lineOf b (a ++ strOf nm))) (lineOf b (a ++ strOf nm)) th ++ i2
theorem Reads.inv {tk : Str → Bool} {n : Nat} {a : Str} {h : Bool} {r : List UInt8} {its : List Item} {o : Option (List UInt8)} (H : Reads tk n a h r its o) : RInv tk n a h r its o := by
  cases H with
  | done => exact ⟨rfl, rfl⟩
  | bad e => rw [RInv, e]; exact ⟨rfl, rfl⟩
  | leaf e k eh more => subst eh; rw [RInv, e]; dsimp only; rw [if_neg k]; exact ⟨_, more, rfl⟩
  | dirBad e k eh w => subst eh; rw [RInv, e]; dsimp only; rw [if_pos k]; exact ⟨_, _, w, .inl ⟨rfl, rfl, rfl⟩⟩
  | dir e k eh w m => subst eh; rw [RInv, e]; dsimp only; rw [if_pos k]; exact ⟨_, _, w, .inr ⟨_, _, rfl, m, rfl⟩⟩
theorem Reads.det {tk : Str → Bool} {n : Nat} {a : Str} {h : Bool} {r : List UInt8} {its its' : List Item} {o o' : Option (List UInt8)} (H : Reads tk n a h r its o) (H' : Reads tk n a h r its' o') : its = its' ∧ o = o' := by
  have q := H'.inv
  clear H'
  induction H generalizing its' o' with
  | done => exact ⟨q.1.symm, q.2.symm⟩
  | bad e => rw [RInv, e] at q; exact ⟨q.1.symm, q.2.symm⟩
  | leaf e k eh _ ih =>
    rw [RInv, e] at q; dsimp only at q; rw [if_neg k] at q
    obtain ⟨i2, m, rfl⟩ := q
    obtain ⟨rfl, rfl⟩ := ih m.inv
    subst eh; exact ⟨rfl, rfl⟩
  | dirBad e k eh _ ih =>
    rw [RInv, e] at q; dsimp only at q; rw [if_pos k] at q
    subst eh
    obtain ⟨i1, o1, w, q⟩ := q
    obtain ⟨rfl, rfl⟩ := ih w.inv
    rcases q with ⟨_, rfl, rfl⟩ | ⟨_, _, h, _⟩
    · exact ⟨rfl, rfl⟩
    · exact nomatch h
  | dir e k eh _ _ ih1 ih2 =>
    rw [RInv, e] at q; dsimp only at q; rw [if_pos k] at q
    subst eh
    obtain ⟨i1, o1, w, q⟩ := q
    obtain ⟨rfl, rfl⟩ := ih1 w.inv
    rcases q with ⟨h, _⟩ | ⟨r2, i2, h, m, rfl⟩
    · exact nomatch h
    · obtain rfl := Option.some.inj h
      obtain ⟨rfl, rfl⟩ := ih2 m.inv
      exact ⟨rfl, rfl⟩
theorem own_le {h : Bool} {l : Str} {th : Thing} : (own h l th).length ≤ 1 := by unfold own; split <;> simp
theorem Reads.len {tk : Str → Bool} {n : Nat} {a : Str} {h : Bool} {r : List UInt8} {its : List Item} {o : Option (List UInt8)} (H : Reads tk n a h r its o) : its.length + (o.elim 0 List.length) ≤ r.length := by
  induction H with
  | done => simp
  | bad e => simp
  | leaf e k eh _ ih =>
    have := nodeOf_len e
    rw [List.length_append]
    rename_i a _ h' _ _ nm b th _ _ _
    have := own_le (h := h') (l := lineOf b (a ++ strOf nm)) (th := th)
    lia
  | dirBad e k eh _ ih =>
    have := nodeOf_len e
    rw [List.length_append]
    simp only [Option.elim] at ih ⊢
    rename_i a _ h' _ _ nm b th _ _
    have := own_le (h := h') (l := lineOf b (a ++ strOf nm)) (th := th)
    lia
  | dir e k eh _ _ ih1 ih2 =>
    have := nodeOf_len e
    rw [List.length_append, List.length_append]
    simp only [Option.elim] at ih1 ih2 ⊢
    rename_i a _ h' _ _ _ nm b th _ _ _ _ _
    have := own_le (h := h') (l := lineOf b (a ++ strOf nm)) (th := th)
    lia

section
variable {prog : Program} {w : World} {A : Around} {E : Value → Shared → Prop} {s : Shared}
theorem nextTup {it t : Addr} {i : Nat} {items : Array Value} {x : Value} {Q : Value → Shared → Prop} (hit : s.heap.IsTupleIter it t i) (ht : s.heap.IsTuple t items) (hx : items[i]? = some x)
    (hQ : ∀ h', h'.IsTupleIter it t (i + 1) → Heap.SameBut it s.heap h' → Q x { s with heap := h' }) : wpAny (model prog w) A (Builtin.SmallTypes.nextOf (.ref it)) Q E s := by
  obtain ⟨o, ho, hc, hd⟩ := id hit
  obtain ⟨ol, hol, _, nl, hdl⟩ := ht
  unfold Builtin.SmallTypes.nextOf
  refine wpAny_bind (wpAny_callSpecial?_slot (name := Str.ofString "__next__") hit.typeIs F.slot_tuple_iterator_next (wpAny_call_entry F.slot_tuple_iterator_next hit.typeIs F.entry_tuple_iterator_next ?_ (F.args_tuple_iterator_next_1 _)))
  show wpAny _ _ (field (.ref it) 0 >>= _) _ _ s
  refine wpAny_bind (wpAny_field ho hd (x := .ref t) rfl ?_)
  show wpAny _ _ (if (Value.ref t == Value.none) = true then _ else _) _ _ s
  rw [if_neg (show ¬ ((Value.ref t == Value.none) = true) from Bool.false_ne_true)]
  refine wpAny_bind (wpAny_field ho hd (x := .int i 0) rfl ?_)
  show wpAny _ _ (seqItems? (.ref t) >>= _) _ _ s
  refine wpAny_bind (wpAny_seqItems hol hdl ?_)
  simp only [Int.toNat_natCast, hx]
  refine wpAny_bind (wpAny_setField ho hd (by simp) (wpAny_pure ⟨x, rfl, wpAny_pure (hQ _ ⟨_, Heap.get?_update_self _ ho (Obj.isFreed_of_fields (Obj.data_mapFields hd _)), (Obj.cls_mapFields ..).trans hc, ?_⟩ (Heap.SameBut.update ..))⟩))
  rw [Obj.data_mapFields hd]
  simp [rawInt]
theorem nextTupEnd {it t : Addr} {i : Nat} {items : Array Value} {Q : Value → Shared → Prop} (hh : A.handled = none) (hit : s.heap.IsTupleIter it t i) (ht : s.heap.IsTuple t items) (hx : items[i]? = none)
    (hE : ∀ h' e, Heap.ExtBut it s.heap h' → (∃ o, h'.get? e = some o ∧ o.cls = .type "StopIteration") → E (.ref e) { s with heap := h' }) : wpAny (model prog w) A (Builtin.SmallTypes.nextOf (.ref it)) Q E s := by
  obtain ⟨o, ho, hc, hd⟩ := id hit
  obtain ⟨ol, hol, _, nl, hdl⟩ := ht
  unfold Builtin.SmallTypes.nextOf
  refine wpAny_bind (wpAny_callSpecial?_slot (name := Str.ofString "__next__") hit.typeIs F.slot_tuple_iterator_next (wpAny_call_entry F.slot_tuple_iterator_next hit.typeIs F.entry_tuple_iterator_next ?_ (F.args_tuple_iterator_next_1 _)))
  show wpAny _ _ (field (.ref it) 0 >>= _) _ _ s
  refine wpAny_bind (wpAny_field ho hd (x := .ref t) rfl ?_)
  show wpAny _ _ (if (Value.ref t == Value.none) = true then _ else _) _ _ s
  rw [if_neg (show ¬ ((Value.ref t == Value.none) = true) from Bool.false_ne_true)]
  refine wpAny_bind (wpAny_field ho hd (x := .int i 0) rfl ?_)
  show wpAny _ _ (seqItems? (.ref t) >>= _) _ _ s
  refine wpAny_bind (wpAny_seqItems hol hdl ?_)
  simp only [Int.toNat_natCast, hx]
  refine wpAny_bind (wpAny_rule (wpAny_bind (wpAny_setField ho hd (by simp) ?_)))
  show wpAny _ _ (newExc (.type "StopIteration") [] >>= _) _ _ _
  refine wpAny_bind ?_
  simp only [newExc, newTuple]
  refine wpAny_bind (wpAny_newObj_type ?_ (by size_fits))
  refine wpAny_bind (m := firstArgMember _ _) (wpAny_of_eq (a := Value.none) (by first | rfl | (simp only [firstArgMember]; rfl)) ?_)
  refine wpAny_newObj_type ?_ (by size_fits)
  simp only [raiseNew]
  refine wpAny_bind (wpAny_handled ?_)
  first | rw [show A.in1.handled = none from hh] | rw [hh]
  refine wpAny_bind (wpAny_pure (wpAny_throw ?_))
  exact hE _ _ (((Heap.SameBut.update ..).extBut.push _).push _) ⟨_, Heap.get?_push_size _ rfl, rfl⟩
theorem drawsTup (hh : A.handled = none) (it l : Addr) (hne : l ≠ it) (items : Array Value) :
    Draws prog w A it [it, l] items.size (fun i v => items[i]? = some v) (fun i h => h.IsTupleIter it l i ∧ h.IsTuple l items) where
  live := fun _ _ st => let ⟨o, ho, _⟩ := st.1; ⟨o, ho⟩
  frame := fun _ _ _ st hk => ⟨st.1.at fun o e => hk it (by simp) o e, let ⟨o, ho, r⟩ := st.2; ⟨o, hk l (by simp) o ho, r⟩⟩
  item := fun i s Q E hi st hQ => nextTup st.1 st.2 (x := items[i]) (by simp [hi]) fun h' hit' hs' => hQ _ h' s.toks (by simp [hi]) ⟨hit', st.2.extBut hs'.extBut hne⟩ hs'
  done := fun s Q E st hE => nextTupEnd hh st.1 st.2 (by simp) hE
theorem newEnumT (l : Addr) (items : Array Value) (n : Nat) (dct : Option Addr) (sl : Array (Option Value)) :
    Meets (Builtin.«enumerate.__new__» ⟨[.type "enumerate", .ref l], []⟩) (fun _ R s => s.heap.get? l = some { cls := .type "tuple", dict := dct, data := .seq items n, slots := sl } ∧
      R (.ok (.ret (.ref (s.heap.push { cls := .type "tuple_iterator", data := .fields #[.ref l, .int 0 0] }).objs.size)))
        { s with heap := (s.heap.push { cls := .type "tuple_iterator", data := .fields #[.ref l, .int 0 0] }).push { cls := .type "enumerate", data := .fields #[.none, .bool false, .ref s.heap.objs.size, rawInt 0, .none, .none] } }) :=
  .of_wp fun prog w A R s h => by
    obtain ⟨hp, g, d, tk, os⟩ := s; obtain ⟨hl, h⟩ := h
    have hsub := sub_enumerate
    have hL : Heap.IsTuple (Shared.heap ⟨hp, g, d, tk, os⟩) l items := ⟨_, hl, rfl, n, rfl⟩
    wp_walk using AutoSeq1.wpAny_loadPart' hl
    refine wpAny_stack_any fun st => wpAny_pure ?_
    split
    · rename_i c _ _ _ _ _
      cases (c == Value.type "enumerate")
      · wp_walk using AutoSeq1.wpAny_loadPart' hl, wpAny_pyIter_tuple hL
        exact ⟨_, rfl, h⟩
      · wp_walk using AutoSeq1.wpAny_loadPart' hl, wpAny_pyIter_tuple hL
        exact ⟨_, rfl, h⟩
    · wp_walk using AutoSeq1.wpAny_loadPart' hl, wpAny_pyIter_tuple hL
      exact ⟨_, rfl, h⟩
theorem callEnumT {l : Addr} {items : Array Value} {Q : Value → Shared → Prop} (hL : s.heap.IsTuple l items)
    (h : ∀ h', IsEnum h' (s.heap.objs.size + 1) s.heap.objs.size 0 .none → h'.IsTupleIter s.heap.objs.size l 0 → h'.objs.size = s.heap.objs.size + 2 →
      (∀ b o, s.heap.get? b = some o → h'.get? b = some o) → Q (.ref (s.heap.objs.size + 1)) { s with heap := h' }) :
    wpAny (model prog w) A (call (.type "enumerate") [.ref l]) Q E s := by
  obtain ⟨⟨c, dct, dt, sl⟩, hl, hc, n, hd⟩ := hL
  replace hc : c = .type "tuple" := hc
  replace hd : dt = .seq items n := hd
  subst hc hd
  refine callType_new F.called_enumerate (by decide) (F.typeCall_enumerate_1 _) (F.newCall_enumerate_1 _) (fun obj => F.args_object_init_2 obj _) F.entry_enumerate_new (newEnumT l items n dct sl) ⟨hl, ?_⟩
  have hz : (s.heap.push { cls := .type "tuple_iterator", data := .fields #[.ref l, .int 0 0] }).objs.size = s.heap.objs.size + 1 := Heap.size_push ..
  show _ ∧ _
  rw [hz]
  have he : IsEnum ((s.heap.push { cls := .type "tuple_iterator", data := .fields #[.ref l, .int 0 0] }).push
      { cls := .type "enumerate", data := .fields #[.none, .bool false, .ref s.heap.objs.size, rawInt 0, .none, .none] }) (s.heap.objs.size + 1) s.heap.objs.size 0 .none := by
    have := Heap.get?_push_size (s.heap.push { cls := .type "tuple_iterator", data := .fields #[.ref l, .int 0 0] })
      (o := { cls := .type "enumerate", data := .fields #[.none, .bool false, .ref s.heap.objs.size, rawInt 0, .none, .none] }) rfl
    rw [hz] at this; exact this
  exact ⟨⟨_, he, rfl⟩, h _ he ⟨_, Heap.get?_push_of_some _ (Heap.get?_push_size _ rfl), rfl, rfl⟩ (by rw [Heap.size_push, hz]) fun b o x => Heap.get?_push_of_some _ (Heap.get?_push_of_some _ x)⟩
end

section
variable {prog : Program} {w : World} {A : Around} {E : Value → Shared → Prop} {s : Shared} {env : Env} {h₀ : Heap} {target : PySem.Expr} {body orelse : List Stmt} {Q : Flow → Shared → Prop} {m : Str → Option Value} {news : List (Addr × Obj)}
inductive UEnd (h₀ : Heap) (L : Addr) (wr : List Addr) (own : List (Addr × Obj)) (J : (Str → Option Value) → List (Addr × Obj) → Prop) (s s' : Shared) : Prop
  | mk (h' tk' m' news') (k1 : s' = { s with heap := h', toks := tk' }) (k2 : Fr h₀ L h' m') (k3 : News h₀ L h' (news' ++ own)) (k4 : (∀ p ∈ news', p.1 ∉ wr)) (k5 : J m' news')
def UPost (h₀ : Heap) (L : Addr) (wr : List Addr) (own : List (Addr × Obj)) (J : (Str → Option Value) → List (Addr × Obj) → Prop) (s : Shared) (Q : Flow → Shared → Prop) (f : Flow) (s' : Shared) : Prop :=
  match f with
  | .ret v => Q (.ret v) s'
  | .brk => Q .next s'
  | _ => UEnd h₀ L wr own J s s'
theorem turns_loop {I : Addr} {fp wr : List Addr} {n : Nat} {P Md : Nat → Value → Heap → Prop} {St : Nat → Heap → Prop} (W : KTurns prog w A target I fp wr n P Md St) (J : Nat → (Str → Option Value) → List (Addr × Obj) → Prop)
    (hLf : env.locals ∉ fp) (hwr : ∀ b ∈ wr, h₀.get? b = none) (hnw : ∀ p ∈ news, p.1 ∉ wr) (hst : St 0 s.heap) (F : Fr h₀ env.locals s.heap m) (N : News h₀ env.locals s.heap news) (h0 : J 0 m news)
    (turn : ∀ i v m₁ news₁ own h tk, i < n → P i v h → J i m₁ news₁ → (∀ p ∈ news₁, p.1 ∉ wr) → (∀ p ∈ own, p.1 ∈ fp) → Fr h₀ env.locals h m₁ → News h₀ env.locals h (news₁ ++ own) →
      wpAny (model prog w) A (assign target env v) (fun _ s₂ => wpAny (model prog w) A (execs body env) (UPost h₀ env.locals wr own (J (i + 1)) { s with heap := h, toks := tk } Q) E s₂) E { s with heap := h, toks := tk })
    (done : ∀ m₁ news₁ h tk, J n m₁ news₁ → (∀ p ∈ news₁, p.1 ∉ wr) → Fr h₀ env.locals h m₁ → News h₀ env.locals h news₁ → wpAny (model prog w) A (execs orelse env) Q E { s with heap := h, toks := tk })
    (hE : PassesOwn (model prog w) A env E := by passes_own) :
    codeAny (model prog w) A (.forLoop target (.ref I) body orelse env) (fun r s' => match r with | .ok f => Q f s' | .error e => cameBackBy (model prog w) A env E e s') s := by
  have hLw : env.locals ∉ wr := fun h => hLf (W.sub _ h)
  have old : ∀ b o, h₀.get? b = some o → b ∉ wr := fun b o e hb => by rw [hwr b hb] at e; cases e
  refine codeAny_forLoop_any (fun k s' => ∃ h tk m₁ news₁ i, s' = { s with heap := h, toks := tk } ∧ St i h ∧ Fr h₀ env.locals h m₁ ∧ News h₀ env.locals h news₁ ∧ (∀ p ∈ news₁, p.1 ∉ wr) ∧ J i m₁ news₁ ∧ i ≤ n ∧ k = n + 1 - i) ?_ (n + 1)
    ⟨_, s.toks, m, news, 0, rfl, hst, F, N, hnw, h0, Nat.zero_le _, rfl⟩
  rintro k s' ⟨h, tk, m₁, news₁, i, rfl, hsti, F₁, N₁, hn₁, hJ, hi, rfl⟩
  have keep : ∀ g : Heap, (∀ b o, b ∉ wr → h.get? b = some o → g.get? b = some o) → Fr h₀ env.locals g m₁ ∧ News h₀ env.locals g news₁ := fun g hk =>
    ⟨⟨F₁.ns.at' fun o e => hk _ o hLw e, fun b o e => hk b o (old b o e) (F₁.keep b o e), F₁.above⟩, fun p hp => ⟨hk _ _ (hn₁ p hp) (N₁ p hp).1, (N₁ p hp).2⟩⟩
  by_cases hlt : i < n
  · refine W.item i _ _ _ hlt hsti fun v h₁ tk₁ hMd hk₁ => ?_
    refine W.go i v _ _ _ hMd fun h₂ hP hst₂ hk₂ => ?_
    obtain ⟨F₂, N₂⟩ := keep h₂ fun b o hb x => hk₂ b o hb (hk₁ b o hb x)
    have No : News h₀ env.locals h₂ (ownOf h₀ fp h₂) := news_ownOf hLf
    have N₃ : News h₀ env.locals h₂ (news₁ ++ ownOf h₀ fp h₂) := fun p hp => (List.mem_append.mp hp).elim (N₂ p) (No p)
    refine wpAny_mono (turn i v m₁ news₁ _ h₂ tk₁ hlt hP hJ hn₁ ownOf_sub F₂ N₃) (fun _ s₂ h₂' => wpAny_mono h₂' (fun f s₃ hf => ?_) hE) hE
    have fin : UEnd h₀ env.locals wr (ownOf h₀ fp h₂) (J (i + 1)) { s with heap := h₂, toks := tk₁ } s₃ → ∃ k', k' < n + 1 - i ∧ ∃ h tk m₁ news₁ i, s₃ = { s with heap := h, toks := tk } ∧ St i h ∧ Fr h₀ env.locals h m₁ ∧ News h₀ env.locals h news₁ ∧ (∀ p ∈ news₁, p.1 ∉ wr) ∧ J i m₁ news₁ ∧ i ≤ n ∧ k' = n + 1 - i := by
      rintro ⟨h', tk', m', news', rfl, F', N', hn', hJ'⟩
      refine ⟨n + 1 - (i + 1), by lia, h', tk', m', news', i + 1, rfl, W.frame _ _ _ hst₂ fun b hb o e => ?_, F', fun p hp => N' p (List.mem_append_left _ hp), hn', hJ', hlt, rfl⟩
      cases hb₀ : h₀.get? b with
      | some o₀ =>
        have q := F₂.keep b o₀ hb₀
        rw [e] at q
        exact (Option.some.inj q) ▸ F'.keep b o₀ hb₀
      | none => exact (N' _ (List.mem_append_right _ (mem_ownOf hb hb₀ e))).1
    cases f with
    | ret v => exact hf
    | brk => exact hf
    | next => exact fin hf
    | cont => exact fin hf
  · obtain rfl : i = n := by lia
    refine W.done _ _ _ hsti fun h₁ tk₁ hk₁ => ?_
    obtain ⟨F₂, N₂⟩ := keep h₁ hk₁
    exact wpAny_mono (done m₁ news₁ h₁ tk₁ hJ hn₁ F₂ N₂) (fun _ _ x => x) hE
end

/-- the table of modes: each row's place, its bits, its sign -/
def fmTab : List (Addr × List (Addr × Int × Nat)) :=
  [(133, [(126, 40960, 108), (127, 49152, 115), (128, 32768, 45), (129, 24576, 98), (130, 16384, 100), (131, 8192, 99), (132, 4096, 112)]), (135, [(134, 256, 114)]), (137, [(136, 128, 119)]),
   (141, [(138, 2112, 115), (139, 2048, 83), (140, 64, 120)]), (143, [(142, 32, 114)]), (145, [(144, 16, 119)]), (149, [(146, 1032, 115), (147, 1024, 83), (148, 8, 120)]),
   (151, [(150, 4, 114)]), (153, [(152, 2, 119)]), (157, [(154, 513, 116), (155, 512, 84), (156, 1, 120)])]
def RowsAt (h : Heap) (q : Addr × List (Addr × Int × Nat)) : Prop :=
  h.IsTuple q.1 (q.2.map fun r => Value.ref r.1).toArray ∧ ∀ r ∈ q.2, ∃ t t', h.IsTuple r.1 #[.int r.2.1 t, .str ⟨#[r.2.2]⟩ t']
def tupIn (K : Frag) (a : Addr) : Option (List Value) := match K.lookup a with
  | some ⟨.type "tuple", _, .seq its _, _⟩ => some its.toList
  | _ => none
theorem tup_of {K : Frag} {h : Heap} (X : K.In h) {a : Addr} {l : List Value} (e : tupIn K a = some l) : h.IsTuple a l.toArray := by
  unfold tupIn at e
  split at e
  · rename_i its n _ ho
    cases e
    exact ⟨_, X _ _ ho, rfl, _, by simp; rfl⟩
  · cases e
def rowIn (K : Frag) (r : Addr × Int × Nat) : Bool := match tupIn K r.1 with
  | some [.int b _, .str s _] => b == r.2.1 && s == ⟨#[r.2.2]⟩
  | _ => false
def rowsIn (K : Frag) (q : Addr × List (Addr × Int × Nat)) : Bool := tupIn K q.1 == some (q.2.map fun r => Value.ref r.1) && q.2.all (rowIn K)
theorem rows_of {K : Frag} {h : Heap} (X : K.In h) {q : Addr × List (Addr × Int × Nat)} (e : rowsIn K q = true) : RowsAt h q := by
  unfold rowsIn at e
  rw [Bool.and_eq_true, beq_iff_eq, List.all_eq_true] at e
  refine ⟨tup_of X e.1, fun r hr => ?_⟩
  have := e.2 r hr
  unfold rowIn at this
  split at this
  · rename_i b t s t' he
    rw [Bool.and_eq_true, beq_iff_eq, beq_iff_eq] at this
    obtain ⟨h1, h2⟩ := this
    have q := tup_of X he
    rw [h1, h2] at q
    exact ⟨t, t', q⟩
  · cases this
theorem fm_rows {P : Params} {h : Heap} (X : (hd.heap_39 P).In h) : ∀ q ∈ fmTab, RowsAt h q := by
  have e : fmTab.all (rowsIn (hd.heap_39 P)) = true := by kernel_rfl
  exact fun q hq => rows_of X (List.all_eq_true.mp e q hq)
theorem fm_top {P : Params} {h : Heap} (X : (hd.heap_39 P).In h) : h.IsTuple 158 (fmTab.map fun q => Value.ref q.1).toArray := tup_of X (by kernel_rfl)
/-- does the row speak of the mode -/
abbrev fmHit (i : Nat) (n : Int) (b : Int) : Prop := if i = 0 then n / 4096 * 4096 = b else Builtin.bitAnd n b = b
def fmPick (i : Nat) (n : Int) : List (Addr × Int × Nat) → Nat
  | [] => if i = 0 then 63 else 45
  | r :: rs => if fmHit i n r.2.1 then r.2.2 else fmPick i n rs
def fmSigns (n : Int) : List Nat := fmTab.zipIdx.map fun q => fmPick q.2 n q.1.2
theorem fm_kind {n : Nat} (h : n < 65536) (l : List (Addr × Int × Nat)) (hl : l = [(126, 40960, 108), (127, 49152, 115), (128, 32768, 45), (129, 24576, 98), (130, 16384, 100), (131, 8192, 99), (132, 4096, 112)]) : fmPick 0 (n : Int) l = kindCh (n / 4096) := by
  subst hl
  have e : (n : Int) / 4096 = ((n / 4096 : Nat) : Int) := by lia
  have hk : n / 4096 < 16 := by lia
  simp only [fmPick, fmHit, if_true, e]
  generalize n / 4096 = k at hk
  have : ∀ k : Fin 16, (if ((k.1 : Nat) : Int) * 4096 = 40960 then 108 else if ((k.1 : Nat) : Int) * 4096 = 49152 then 115 else if ((k.1 : Nat) : Int) * 4096 = 32768 then 45 else if ((k.1 : Nat) : Int) * 4096 = 24576 then 98 else if ((k.1 : Nat) : Int) * 4096 = 16384 then 100 else if ((k.1 : Nat) : Int) * 4096 = 8192 then 99 else if ((k.1 : Nat) : Int) * 4096 = 4096 then 112 else 63) = kindCh k.1 := by decide
  exact this ⟨k, hk⟩
theorem fm_r {i : Nat} {n : Int} {a : Addr} {b : Int} {d : Nat} (hi : i ≠ 0) (hb : Builtin.bitAnd n b = d * b) (hp : 0 < b) (hd : d < 2) : fmPick i n [(a, b, 114)] = rCh d := by
  simp only [fmPick, fmHit, if_neg hi, hb]
  rcases (show d = 0 ∨ d = 1 by lia) with rfl | rfl
  · rw [if_neg (by simp; lia)]; rfl
  · rw [if_pos (by simp)]; rfl
theorem fm_w {i : Nat} {n : Int} {a : Addr} {b : Int} {d : Nat} (hi : i ≠ 0) (hb : Builtin.bitAnd n b = d * b) (hp : 0 < b) (hd : d < 2) : fmPick i n [(a, b, 119)] = wCh d := by
  simp only [fmPick, fmHit, if_neg hi, hb]
  rcases (show d = 0 ∨ d = 1 by lia) with rfl | rfl
  · rw [if_neg (by simp; lia)]; rfl
  · rw [if_pos (by simp)]; rfl
theorem fm_x {i : Nat} {n : Int} {a₁ a₂ a₃ : Addr} {b₁ b₂ b₃ : Int} {u d c₁ c₂ : Nat} (hi : i ≠ 0) (h1 : Builtin.bitAnd n b₁ = u * b₂ + d * b₃) (h2 : Builtin.bitAnd n b₂ = u * b₂) (h3 : Builtin.bitAnd n b₃ = d * b₃) (hs : b₁ = b₂ + b₃) (p2 : 0 < b₂) (p3 : 0 < b₃) (hu : u < 2) (hd : d < 2) :
    fmPick i n [(a₁, b₁, c₁), (a₂, b₂, c₂), (a₃, b₃, 120)] = xCh c₁ c₂ u d := by
  simp only [fmPick, fmHit, if_neg hi, h1, h2, h3]
  subst hs
  rcases (show u = 0 ∨ u = 1 by lia) with rfl | rfl <;> rcases (show d = 0 ∨ d = 1 by lia) with rfl | rfl
  · rw [if_neg (by simp; lia), if_neg (by simp; lia), if_neg (by simp; lia)]; rfl
  · rw [if_neg (by simp; lia), if_neg (by simp; lia), if_pos (by simp)]; rfl
  · rw [if_neg (by simp; lia), if_pos (by simp)]; rfl
  · rw [if_pos (by simp)]; rfl
theorem sg1 (n b : Nat) (e : Int) (he : e = b) : (n : Int) / e % 2 * e = ((n / b % 2 : Nat) : Int) * e := by subst he; rfl
theorem sg2 (n a c : Nat) (A C e : Int) (hA : A = a) (hC : C = c) (g : Nat) (hg : a * c = g) (he : e = g) : A * ((n : Int) / A / C % 2 * C + (n : Int) / A % 2) = ((n / g % 2 : Nat) : Int) * e + ((n / a % 2 : Nat) : Int) * A := by
  subst hA hC hg he
  have h1 : n / (a * c) % 2 = n / a / c % 2 := by rw [Nat.div_div_eq_div_mul]
  rw [h1]
  show (a : Int) * (((n / a / c % 2 : Nat) : Int) * (c : Int) + ((n / a % 2 : Nat) : Int)) = _
  rw [Int.mul_add, Int.natCast_mul, Int.mul_comm (a : Int) ((n / a % 2 : Nat) : Int), Int.mul_left_comm]
theorem fm_signs {n : Nat} (h : n < 65536) : fmSigns (n : Int) = rowOf n := by
  unfold fmSigns fmTab rowOf
  simp only [List.zipIdx_cons, List.zipIdx_nil, List.map_cons, List.map_nil]
  rw [fm_kind h _ rfl,
    fm_r (b := 256) (d := n / 256 % 2) (by decide) ((and_256 _).trans (sg1 n 256 256 rfl)) (by decide) lt2, fm_w (b := 128) (d := n / 128 % 2) (by decide) ((and_128 _).trans (sg1 n 128 128 rfl)) (by decide) lt2,
    fm_x (b₁ := 2112) (b₂ := 2048) (b₃ := 64) (u := n / 2048 % 2) (d := n / 64 % 2) (by decide) ((and_2112 _).trans (sg2 n 64 32 64 32 2048 rfl rfl 2048 rfl rfl)) ((and_2048 _).trans (sg1 n 2048 2048 rfl)) ((and_64 _).trans (sg1 n 64 64 rfl)) (by decide) (by decide) (by decide) lt2 lt2,
    fm_r (b := 32) (d := n / 32 % 2) (by decide) ((and_32 _).trans (sg1 n 32 32 rfl)) (by decide) lt2, fm_w (b := 16) (d := n / 16 % 2) (by decide) ((and_16 _).trans (sg1 n 16 16 rfl)) (by decide) lt2,
    fm_x (b₁ := 1032) (b₂ := 1024) (b₃ := 8) (u := n / 1024 % 2) (d := n / 8 % 2) (by decide) ((and_1032 _).trans (sg2 n 8 128 8 128 1024 rfl rfl 1024 rfl rfl)) ((and_1024 _).trans (sg1 n 1024 1024 rfl)) ((and_8 _).trans (sg1 n 8 8 rfl)) (by decide) (by decide) (by decide) lt2 lt2,
    fm_r (b := 4) (d := n / 4 % 2) (by decide) ((and_4 _).trans (sg1 n 4 4 rfl)) (by decide) lt2, fm_w (b := 2) (d := n / 2 % 2) (by decide) ((and_2 _).trans (sg1 n 2 2 rfl)) (by decide) lt2,
    fm_x (b₁ := 513) (b₂ := 512) (b₃ := 1) (u := n / 512 % 2) (d := n % 2) (by decide) (by rw [and_513, Int.one_mul, Int.ediv_one, Int.mul_one]; rfl) ((and_512 _).trans (sg1 n 512 512 rfl)) ((and_1 _).trans (Int.mul_one _).symm) (by decide) (by decide) (by decide) lt2 lt2]
theorem pick_hit {i : Nat} {n : Int} {r : Addr × Int × Nat} : ∀ {rows : List (Addr × Int × Nat)} {j : Nat}, (∀ r' ∈ rows.take j, ¬ fmHit i n r'.2.1) → rows[j]? = some r → fmHit i n r.2.1 → fmPick i n rows = r.2.2
  | [], _, _, h, _ => by simp at h
  | a :: rs, 0, _, h, k => by
    simp only [List.getElem?_cons_zero, Option.some.injEq] at h
    subst h
    simp [fmPick, k]
  | a :: rs, j + 1, hn, h, k => by
    have h1 : ¬ fmHit i n a.2.1 := hn a (by simp)
    simp only [fmPick, h1, if_false]
    exact pick_hit (j := j) (fun r' hr' => hn r' (List.mem_cons_of_mem _ hr')) (by simpa using h) k
theorem pick_none {i : Nat} {n : Int} : ∀ {rows : List (Addr × Int × Nat)}, (∀ r' ∈ rows, ¬ fmHit i n r'.2.1) → fmPick i n rows = if i = 0 then 63 else 45
  | [], _ => rfl
  | a :: rs, hn => by
    have h1 : ¬ fmHit i n a.2.1 := hn a (by simp)
    simp only [fmPick, h1, if_false]
    exact pick_none fun r' hr' => hn r' (by simp [hr'])
theorem signs_at {i : Nat} {n : Int} {q : Addr × List (Addr × Int × Nat)} (h : fmTab[i]? = some q) : (fmSigns n)[i]? = some (fmPick i n q.2) := by
  unfold fmSigns
  rw [List.getElem?_map, List.getElem?_zipIdx, h]
  simp
def sgn (c : Nat) : Str := ⟨#[c]⟩
theorem strs_snoc {items : List Value} {l : List Nat} {i c : Nat} {t : Tok} (h : StrsAre items ((l.take i).map sgn)) (hc : l[i]? = some c) : StrsAre (items ++ [.str ⟨#[c]⟩ t]) ((l.take (i + 1)).map sgn) := by
  rw [List.take_add_one, hc, List.map_append]
  exact StrsAre.append' h (.cons (sgn c) t .nil)
theorem hit0 {i : Nat} {n b : Int} (h0 : 0 ≤ n) (h1 : n < 65536) (hi : (i : Int) = 0) : fmHit i n b ↔ Builtin.bitAnd n 61440 = b := by
  have : i = 0 := by lia
  subst this
  rw [and_ifmt h0 h1]
  simp [fmHit]
theorem hit1 {i : Nat} {n b : Int} (hi : ¬ (i : Int) = 0) : fmHit i n b ↔ Builtin.bitAnd n b = b := by
  have : i ≠ 0 := by lia
  simp [fmHit, this]
theorem miss_snoc {i : Nat} {n : Int} {rows : List (Addr × Int × Nat)} {j : Nat} {r : Addr × Int × Nat} (hno : ∀ r' ∈ rows.take j, ¬ fmHit i n r'.2.1) (hr : rows[j]? = some r) (h : ¬ fmHit i n r.2.1) : ∀ r' ∈ rows.take (j + 1), ¬ fmHit i n r'.2.1 := by
  rw [List.take_add_one, hr]
  intro r' hr'
  rcases List.mem_append.mp hr' with h1 | h1
  · exact hno r' h1
  · have e : r' = r := by simpa using h1
    rw [e]; exact h
theorem fold_signs : ∀ (l : List Nat) (a : List Nat), (l.map sgn).foldl (fun acc p => acc ++ (Str.ofString "").cps ++ p.cps) a.toArray = (a ++ l).toArray
  | [], a => by simp
  | c :: l, a => by
    have e : a.toArray ++ (Str.ofString "").cps ++ (sgn c).cps = (a ++ [c]).toArray := by
      show a.toArray ++ #[] ++ #[c] = _
      simp
    rw [List.map_cons, List.foldl_cons, e, fold_signs l (a ++ [c])]
    simp
theorem join_signs : ∀ (l : List Nat), Txt.join (Str.ofString "") (l.map sgn) = ⟨l.toArray⟩
  | [] => rfl
  | c :: l => congrArg Str.mk (fold_signs l [c])

theorem resetP1 : True := by w_top off; trivial
/-- what stands of the code of the reading function -/
def ReadCode (oc : Obj) : Prop := ∃ vs t, oc.data = .fields vs ∧ vs[1]? = some (.str (Str.ofString "_law_stream.<locals>._law_read") t)
/-- the stream's parts stand apart from a ledger -/
structure Sm.Apart (S : Sm) (led : List (Addr × Obj)) : Prop where
  x : ∀ p ∈ led, p.1 ≠ S.x
  d : ∀ p ∈ led, p.1 ≠ S.d
  f : ∀ p ∈ led, p.1 ≠ S.f
  c : ∀ p ∈ led, p.1 ≠ S.c
  l : ∀ p ∈ led, p.1 ≠ S.l
  p : ∀ p ∈ led, p.1 ≠ S.cp
  o : ∀ p ∈ led, p.1 ≠ S.co
inductive StreamOk (w : World) (o : List UInt8) (led : List (Addr × Obj)) (r : Value) (led' : List (Addr × Obj)) : Prop
  | mk (S tp n) (k1 : r = .ref (Sm.x S)) (k2 : led' = S.led 0 tp n ((167, tabObj #[rawInt 148, rawInt 4, .ref S.c]) :: led)) (k3 : ReadCode S.oc) (k4 : S.Apart led) (k5 : S.Ok w o)
theorem law_stream_1 (w : World) (o : List UInt8) (tk : Tok) (hO : o.length < 2 ^ 20)  (led : List (Addr × Obj)) (ht : ∀ p ∈ led, p.1 ≠ 167) :
    Meet w 172 [.bytes o.toArray tk] 100 200 ((167, tabObj #[]) :: led) (StreamOk w o led) (fun _ => False) := by
  have hfill : PySem.Challenge.rw_in0217_01 = PySem.Challenge.rw_in0217_01 ∧ hd.heap_39 = hd.heap_39 := by (k_fill; exact ⟨rfl, rfl⟩)
  clear hfill
  intro p loose mean mg mb dp un gd cn cs a ccd cl outer A₀ base h₀ L m s Q E B F X N T hk hdp hu hret herr
  have CH1 := code171 X
  refine wpAny_call ?_
  k_dflt (first
    | (refine' code_def ?k1 ?k2 ?k3 ?k4 ?k5 ?kA ?kF ?kK ?k6 ?k7 ?k8 ?k9 ?kB ?_ ?c2 ?c3 ?c4 ?c5; (case kA => exact rfl); (case kF => exact rfl); (case kK => assumption); (case k1 => k_asm); (case k2 => k_asm); (case k3 => k_asm); (case k4 => k_asm); (case k5 => k_asm); (case k6 => k_is); (case k7 => k_is); (case k8 => ktr_room); (case k9 => exact BindsTo.of_eq rfl); (case c5 => decide); (case kB => exact locs rfl); (case c2 => exact rfl); (case c3 => exact rfl); (case c4 => exact rfl); k_whole; intro g' L' h' FG' F' N' B' X' T'; (try dsimp only); (try k_lift B'); (try (refine wp_letQ ?_; intro Q9 X9)); (try (refine wp_letA ?_; intro A9)); (try (refine wp_letE ?_; intro E9)))
    | (refine' code_defC ?k1 ?k2 ?k3 ?k4 ?k5 ?kA ?kF ?kK ?k6 ?k7 ?k8 ?k9 ?kB ?kD ?_ ?c2 ?c3 ?c4; (case kA => exact rfl); (case kF => exact rfl); (case kK => assumption); (case k1 => k_asm); (case k2 => k_asm); (case k3 => k_asm); (case k4 => k_asm); (case k5 => k_asm); (case k6 => k_is); (case k7 => k_is); (case k8 => ktr_room); (case k9 => exact BindsTo.of_eq rfl); (case kB => exact rfl); (case kD => decide +kernel); (case c2 => exact rfl); (case c3 => exact rfl); (case c4 => exact rfl); k_whole; intro g' L' h' tk' cells' FG' F' N' Y' B' X' T' l1; (try k_lt l1); k_cells Y'; (try simp only [List.cons_append, List.nil_append] at N'); (try dsimp only); (try k_lift B'); (try (refine wp_letQ ?_; intro Q9 X9)); (try (refine wp_letA ?_; intro A9)); (try (refine wp_letE ?_; intro E9))))
  k_steps
  refine hret _ _ _ _ ⟨⟨_, _, _, _, _, _, _, _, _, _, _, _, _, _, _⟩, _, _, rfl, rfl, ⟨_, _, (by assumption), (by assumption)⟩, ⟨?_, ?_, ?_, ?_, ?_, ?_, ?_⟩, ?_⟩ (by assumption) (by assumption)
  iterate 7 (dsimp only; first | k_all | exact allLt_ne (and_r (and_r (and_r (and_r ((by assumption)))))) (Nat.le_of_lt (by assumption)) | exact allLt_ne (and_r (and_r (and_r (and_r (and_r ((by assumption))))))) (Nat.le_of_lt (by assumption)) | exact allLt_ne (and_r (and_r (and_r (and_r (and_r (and_r ((by assumption)))))))) (Nat.le_of_lt (by assumption)))
  clear hret herr
  refine ⟨by k_ne, by k_ne, by k_ne, by k_ne, by k_ne, by k_ne, ?_⟩
  intro i k' r ti tki ni led2 hi hk1 hk2 hled
  obtain ⟨k, rfl⟩ := Int.eq_ofNat_of_zero_le hk1
  rw [Int.toNat_natCast]
  dsimp only [Sm.Off] at hled
  intro p2 loose2 mean2 mg2 mb2 dp2 un2 gd2 cn2 cs2 a2 ccd2 cl2 outer2 A2 base2 h2 L2 m2 s2 Q2 E2 B2 F2 X2 N2 T2 hkk hdp2 hu2 hret herr
  clear B F X T N hk hdp hu
  dsimp only [Sm.led] at N2 hret
  refine wpAny_call ?_
  k_dflt (refine' code_nest ?k1 ?k2 ?k3 ?k4 ?k5 ?kA ?kF ?kK ?k6 ?k7 ?k8 ?k9 ?kB ?_ ?c2 ?c3 ?c4 ?c5; (case kA => exact rfl); (case kF => exact rfl); (case kK => assumption); (case k1 => k_asm); (case k2 => k_asm); (case k3 => k_asm); (case k4 => k_asm); (case k5 => k_asm); (case k6 => k_mem); (case k7 => exact codeRec_news (by k_asm) (by k_mem) (by assumption) (by assumption)); (case k8 => ktr_room); (case k9 => exact BindsTo.of_eq rfl); (case c5 => decide); (case kB => exact locs rfl); (case c2 => exact rfl); (case c3 => exact rfl); (case c4 => exact rfl); k_whole; intro g' L' h' FG' F' N' B' X' T'; (try dsimp only); (try k_lift B'); (try (refine wp_letQ ?_; intro Q9 X9)); (try (refine wp_letA ?_; intro A9)); (try (refine wp_letE ?_; intro E9)))
  k_steps
  refine (congrArg (fun z => Q2 (.bytes z _) _) (At.picked hi k rfl rfl)).mpr ?_
  exact hret _ _ _ _ ⟨_, _, _, _, _, rfl, hi.step k rfl, rfl, rfl⟩ (by assumption) (by assumption)
theorem news_cut {h₀ h : Heap} {L : Addr} {a1 a2 a3 a4 a5 a6 a7 a8 : Addr × Obj} {l : List (Addr × Obj)} (N : News h₀ L h (a1 :: a2 :: a3 :: a5 :: a6 :: a7 :: a8 :: a4 :: l)) : News h₀ L h (a1 :: a2 :: a3 :: a4 :: a5 :: a6 :: a7 :: a8 :: l) := by
  exact news_sub N (perm_sub [a1, a2, a3, a5, a6, a7, a8, a4] l [0, 1, 2, 7, 3, 4, 5, 6] rfl)
theorem law_stream_2 (w : World) (o : List UInt8) (tk : Tok) (hO : o.length < 2 ^ 20)  (led : List (Addr × Obj)) (c : Addr) (oc : Obj) (hoc : ReadCode oc) (hc7 : c ≠ 167) (ht : ∀ p ∈ led, p.1 ≠ 167) (hcl : ∀ p ∈ led, p.1 ≠ c) :
    Meet w 172 [.bytes o.toArray tk] 100 200 ((167, tabObj #[rawInt 148, rawInt 4, .ref c]) :: (c, oc) :: led) (StreamOk w o led) (fun _ => False) := by
  obtain ⟨vs0, t0, hd1, hd2⟩ := hoc
  have hfill : PySem.Challenge.rw_in0217_01 = PySem.Challenge.rw_in0217_01 ∧ hd.heap_39 = hd.heap_39 := by (k_fill; exact ⟨rfl, rfl⟩)
  clear hfill
  intro p loose mean mg mb dp un gd cn cs a ccd cl outer A₀ base h₀ L m s Q E B F X N T hk hdp hu hret herr
  have CH1 := code171 X
  refine wpAny_call ?_
  k_dflt (first
    | (refine' code_def ?k1 ?k2 ?k3 ?k4 ?k5 ?kA ?kF ?kK ?k6 ?k7 ?k8 ?k9 ?kB ?_ ?c2 ?c3 ?c4 ?c5; (case kA => exact rfl); (case kF => exact rfl); (case kK => assumption); (case k1 => k_asm); (case k2 => k_asm); (case k3 => k_asm); (case k4 => k_asm); (case k5 => k_asm); (case k6 => k_is); (case k7 => k_is); (case k8 => ktr_room); (case k9 => exact BindsTo.of_eq rfl); (case c5 => decide); (case kB => exact locs rfl); (case c2 => exact rfl); (case c3 => exact rfl); (case c4 => exact rfl); k_whole; intro g' L' h' FG' F' N' B' X' T'; (try dsimp only); (try k_lift B'); (try (refine wp_letQ ?_; intro Q9 X9)); (try (refine wp_letA ?_; intro A9)); (try (refine wp_letE ?_; intro E9)))
    | (refine' code_defC ?k1 ?k2 ?k3 ?k4 ?k5 ?kA ?kF ?kK ?k6 ?k7 ?k8 ?k9 ?kB ?kD ?_ ?c2 ?c3 ?c4; (case kA => exact rfl); (case kF => exact rfl); (case kK => assumption); (case k1 => k_asm); (case k2 => k_asm); (case k3 => k_asm); (case k4 => k_asm); (case k5 => k_asm); (case k6 => k_is); (case k7 => k_is); (case k8 => ktr_room); (case k9 => exact BindsTo.of_eq rfl); (case kB => exact rfl); (case kD => decide +kernel); (case c2 => exact rfl); (case c3 => exact rfl); (case c4 => exact rfl); k_whole; intro g' L' h' tk' cells' FG' F' N' Y' B' X' T' l1; (try k_lt l1); k_cells Y'; (try simp only [List.cons_append, List.nil_append] at N'); (try dsimp only); (try k_lift B'); (try (refine wp_letQ ?_; intro Q9 X9)); (try (refine wp_letA ?_; intro A9)); (try (refine wp_letE ?_; intro E9))))
  k_steps
  rename News h₀ L _ _ => kN
  refine hret _ _ _ _ ⟨⟨_, _, _, _, _, _, _, _, _, _, _, _, _, _, _⟩, _, _, rfl, rfl, ⟨_, _, hd1, hd2⟩, ⟨?_, ?_, ?_, ?_, ?_, ?_, ?_⟩, ?_⟩ (by assumption) (news_cut kN)
  iterate 7 (dsimp only; first | k_all | exact allLt_ne (and_r (and_r (and_r (and_r ((by assumption)))))) (Nat.le_of_lt (by assumption)) | exact allLt_ne (and_r (and_r (and_r (and_r (and_r ((by assumption))))))) (Nat.le_of_lt (by assumption)) | exact allLt_ne (and_r (and_r (and_r (and_r (and_r (and_r ((by assumption)))))))) (Nat.le_of_lt (by assumption)))
  clear hret herr
  refine ⟨by k_ne, by k_ne, by k_ne, by k_ne, by k_ne, by k_ne, ?_⟩
  intro i k' r ti tki ni led2 hi hk1 hk2 hled
  obtain ⟨k, rfl⟩ := Int.eq_ofNat_of_zero_le hk1
  rw [Int.toNat_natCast]
  dsimp only [Sm.Off] at hled
  intro p2 loose2 mean2 mg2 mb2 dp2 un2 gd2 cn2 cs2 a2 ccd2 cl2 outer2 A2 base2 h2 L2 m2 s2 Q2 E2 B2 F2 X2 N2 T2 hkk hdp2 hu2 hret herr
  clear B F X T N hk hdp hu
  dsimp only [Sm.led] at N2 hret
  refine wpAny_call ?_
  k_dflt (refine' code_nest ?k1 ?k2 ?k3 ?k4 ?k5 ?kA ?kF ?kK ?k6 ?k7 ?k8 ?k9 ?kB ?_ ?c2 ?c3 ?c4 ?c5; (case kA => exact rfl); (case kF => exact rfl); (case kK => assumption); (case k1 => k_asm); (case k2 => k_asm); (case k3 => k_asm); (case k4 => k_asm); (case k5 => k_asm); (case k6 => k_mem); (case k7 => exact codeRec_news (by k_asm) (by k_mem) (by assumption) (by assumption)); (case k8 => ktr_room); (case k9 => exact BindsTo.of_eq rfl); (case c5 => decide); (case kB => exact locs rfl); (case c2 => exact rfl); (case c3 => exact rfl); (case c4 => exact rfl); k_whole; intro g' L' h' FG' F' N' B' X' T'; (try dsimp only); (try k_lift B'); (try (refine wp_letQ ?_; intro Q9 X9)); (try (refine wp_letA ?_; intro A9)); (try (refine wp_letE ?_; intro E9)))
  k_steps
  refine (congrArg (fun z => Q2 (.bytes z _) _) (At.picked hi k rfl rfl)).mpr ?_
  exact hret _ _ _ _ ⟨_, _, _, _, _, rfl, hi.step k rfl, rfl, rfl⟩ (by assumption) (by assumption)

theorem resetP4 : True := by w_top off; trivial
theorem law_row_ok {w : World} {b : Int} {tk : Tok} (h0 : 0 ≤ b) (h1 : b < 65536) :
    MeetP w 179 [.int b tk] 4 20 (fun r _ => ∃ t, r = .str ⟨(rowOf b.toNat).toArray⟩ t) := by
  obtain ⟨n, rfl⟩ := Int.eq_ofNat_of_zero_le h0
  have hfill : PySem.Challenge.rw_in0217_01 = PySem.Challenge.rw_in0217_01 ∧ hd.heap_39 = hd.heap_39 := by (k_fill; exact ⟨rfl, rfl⟩)
  clear hfill
  intro p loose mean mg mb dp un gd cn cs a ccd cl outer A₀ base h₀ L m s Q E B F X T hk hdp hu hret
  refine wpAny_call ?_
  k_dflt (refine' code_defP ?k1 ?k2 ?k3 ?k5 ?kA ?kF ?kK ?k6 ?k7 ?k8 ?k9 ?kB ?_ ?c2 ?c3 ?c4 ?c5; (case kA => exact rfl); (case kF => exact rfl); (case kK => assumption); (case k1 => k_asm); (case k2 => k_asm); (case k3 => k_asm); (case k5 => k_asm); (case k6 => k_is); (case k7 => k_is); (case k8 => ktr_room); (case k9 => exact BindsTo.of_eq rfl); (case c5 => decide); (case kB => exact locs rfl); (case c2 => exact rfl); (case c3 => exact rfl); (case c4 => exact rfl); k_whole; intro g' L' h' KB FG' F' N' B' X' T'; (try dsimp only); (try k_lift B'); (try (refine wp_letQ ?_; intro Q9 X9)); (try (refine wp_letA ?_; intro A9)); (try (refine wp_letE ?_; intro E9)))
  (repeat' (first | (k_end; kc_close) | walk1 | (((with_reducible show wpAny _ _ (subscriptTail _ _ (Value.str _ _) (Value.int (_ + _ + _) _)) _ _ _); (refine KXi.item (n := 8) (by rfl) (idx8a (by decide)) (idx8b (by decide)) (by decide) ?_); intro kxiE)) | (dsimp only [argC9]; walk1) | (k_unfold; (try dsimp only)) | (dsimp only [then9]) | (leave1; (try dsimp only))))
  (try dsimp only)
  refine (congrArg (fun z => Q (.str z _) _) (row_eq (n := n) (by lia))).mpr ?_
  exact hret _ _ _ _ ⟨_, rfl⟩ (by with_reducible assumption) News.nil (fun b o e => Fr.keep (by with_reducible assumption) b o (KB b o e))

theorem resetP6 : True := by w_top off; trivial
theorem filemode_ok {w : World} {b : Int} {tkb : Tok} (h0 : 0 ≤ b) (h1 : b < 65536) :
    MeetP w 165 [.int b tkb] 30 200 (fun r _ => ∃ t, r = .str ⟨(rowOf b.toNat).toArray⟩ t) := by
  obtain ⟨n, rfl⟩ := Int.eq_ofNat_of_zero_le h0
  have hfill : PySem.Challenge.rw_in0217_01 = PySem.Challenge.rw_in0217_01 ∧ hd.heap_39 = hd.heap_39 := by (k_fill; exact ⟨rfl, rfl⟩)
  clear hfill
  intro p loose mean mg mb dp un gd cn cs a ccd cl outer A₀ base h₀ L m s Q E B F X T hk hdp hu hret
  refine wpAny_call ?_
  k_dflt (refine' code_defP ?k1 ?k2 ?k3 ?k5 ?kA ?kF ?kK ?k6 ?k7 ?k8 ?k9 ?kB ?_ ?c2 ?c3 ?c4 ?c5; (case kA => exact rfl); (case kF => exact rfl); (case kK => assumption); (case k1 => k_asm); (case k2 => k_asm); (case k3 => k_asm); (case k5 => k_asm); (case k6 => k_is); (case k7 => k_is); (case k8 => ktr_room); (case k9 => exact BindsTo.of_eq rfl); (case c5 => decide); (case kB => exact locs rfl); (case c2 => exact rfl); (case c3 => exact rfl); (case c4 => exact rfl); k_whole; intro g' L' h' KB FG' F' N' B' X' T'; (try dsimp only); (try k_lift B'); (try (refine wp_letQ ?_; intro Q9 X9)); (try (refine wp_letA ?_; intro A9)); (try (refine wp_letE ?_; intro E9)))
  (repeat' (first | (with_reducible (((with_reducible show wpAny _ _ (exec (Stmt.For (Expr.Tuple _ _ _) (Expr.Call _ _ _ _) (_ :: _) [] _) _) _ _ _); (k_dflt (refine wpAny_For ?_ (by intro _; rfl)))))) | (k_end; kc_close) | walk1 | (dsimp only [argC9]; walk1) | (k_unfold; (try dsimp only)) | (dsimp only [then9]) | (leave1; (try dsimp only))))
  have XR := fm_rows X'
  have XT := fm_top X'
  clear X T B F
  (rename Fr g' L' _ _ => F1)
  (rename News g' L' _ _ => N1)
  refine callEnumT (IsTup.keeps XT (Fr.keep F1)) ?_
  intro he hIE hIT hsz hkeep
  refine wpAny_pyIter_enum hIE ?_
  have Fe := F1.keeps hkeep
  have Ne : News g' L' he _ := fun p hp => ⟨hkeep _ _ (N1 p hp).1, (N1 p hp).2⟩
  have hlp := fun p hp => Heap.lt_size (N1 p hp).1
  dsimp only at Fe Ne hlp hIE hIT ⊢
  rename_i lp hq l1 hp F0
  have hs158 : @LT.lt Nat _ 158 g'.objs.size := let ⟨_, e, _⟩ := XT; Heap.lt_size e
  have hgp : @LE.le Nat _ g'.objs.size L' := F1.above
  have hLp : @LT.lt Nat _ L' hp.objs.size := F1.ns.lt
  have hlp0 : @LT.lt Nat _ lp hp.objs.size := hlp _ (List.mem_singleton.mpr rfl)
  have hlp1 : 158 ≠ lp := fun q => by have := (N1 _ (List.mem_singleton.mpr rfl)).2.2; obtain ⟨o, ho, _⟩ := XT; rw [← q, ho] at this; cases this
  have hlpL : lp ≠ L' := (N1 _ (List.mem_singleton.mpr rfl)).2.1
  have nog : ∀ x, g'.objs.size ≤ x → g'.get? x = none := fun x (hx : @LE.le Nat _ g'.objs.size x) => by
    cases q : g'.get? x with
    | none => rfl
    | some o => exact absurd (Heap.lt_size q) (Nat.not_lt.mpr hx)
  refine turns_loop (KTurns.ofWalksU (WalksT.enumerateD (drawsTup (A := Around.in1 _) rfl hp.objs.size 158 ((by k_ne)) _) (hp.objs.size + 1) (Nat.succ_ne_self _) ?e1 (by simp)).toU)
    (fun i m news => m (Str.ofString "perm") = some (.ref lp) ∧ m (Str.ofString "mode") = some (.int (n : Nat) tkb) ∧ ∃ items c, news = [(lp, listOf (List.toArray items) c)] ∧ StrsAre items (((fmSigns (n : Nat)).take i).map sgn))
    ?e2 ?e3 ?e4 ⟨⟨_, hIE⟩, hIT, IsTup.keeps XT (Fr.keep Fe)⟩ Fe Ne ⟨rfl, rfl, [], 0, rfl, .nil⟩ ?turn ?done
  case e1 => simp only [List.mem_cons, List.not_mem_nil, or_false, not_or]; exact ⟨Nat.succ_ne_self _, (by k_ne)⟩
  case e2 => show L' ∉ _; simp only [List.mem_cons, List.not_mem_nil, or_false, not_or]; exact ⟨(by k_ne), (by k_ne), (by k_ne)⟩
  case e3 => intro b hb; simp only [List.mem_cons, List.not_mem_nil, or_false] at hb; rcases hb with rfl | rfl <;> exact nog _ (by lia)
  case e4 => intro p hp; rw [List.mem_singleton.mp hp]; simp only [List.mem_cons, List.not_mem_nil, or_false, not_or]; exact ⟨(by k_ne), (by k_ne)⟩
  case done =>
    rintro m₁ news₁ h tk₁ ⟨hm1, hm2, items, c, rfl, hst⟩ hn1 Fi Ni
    rw [names2 hm1 hm2] at Fi
    clear hm1 hm2 Fe Ne F1 N1
    k_steps
    have hst2 : StrsAre (List.toArray items).toList ((rowOf n).map sgn) := by
      rw [← fm_signs (n := n) (by lia)]
      rw [List.take_of_length_le (by simp [fmSigns])] at hst
      exact hst
    (rename News g' L' _ _ => N9)
    refine join_listW ⟨_, (N9 _ (.head _)).1, rfl, _, rfl⟩ hst2 (by decide) (by simp [rowOf, sgn, Str.length]) ?_
    intro t9 k9
    rw [join_signs]
    refine leaveK_ Fi N9 ?_
    intro kF kN
    exact hret _ _ _ _ ⟨_, rfl⟩ kF News.nil (fun b o e => Fi.keep b o (KB b o e))
  case turn =>
    rintro i v m₁ news₁ own h tk₁ hi ⟨T, vals, rfl, ⟨ti, x, hx, rfl⟩, hT⟩ ⟨hm1, hm2, items, c, rfl, hst⟩ hn1 hown Fi Ni
    have hi10 : i < fmTab.length := by simpa using hi
    obtain ⟨q, hq⟩ : ∃ q, fmTab[i]? = some q := ⟨_, List.getElem?_eq_getElem hi10⟩
    obtain rfl : x = .ref q.1 := by
      have hx' : (fmTab.map fun q => Value.ref q.1)[i]? = some x := by simpa using hx
      rw [List.getElem?_map, hq] at hx'
      exact (Option.some.inj hx').symm
    have hR := XR q (List.mem_of_getElem? hq)
    have hof : ∀ p ∈ own, p.1 ≠ lp := fun p hp => by
      have := hown p hp
      simp only [List.mem_cons, List.not_mem_nil, or_false] at this
      rcases this with e | e | e <;> rw [e] <;> exact (by k_ne)
    have fin1 : ∀ (m' : Str → Option Value) (h' : Heap) (tk' : Nat) (cc : Nat) (t' : Tok) (tail : List (Addr × Obj)), Fr g' L' h' m' → News g' L' h' ((lp, listOf ((List.toArray items).push (.str ⟨#[cc]⟩ t')) (c + 1)) :: tail) → (∀ p ∈ own, p ∈ tail) →
        m' (Str.ofString "perm") = some (.ref lp) → m' (Str.ofString "mode") = some (.int (n : Nat) tkb) → fmPick i (n : Nat) q.2 = cc →
        UEnd g' L' [hp.objs.size + 1, hp.objs.size] own (fun m news => m (Str.ofString "perm") = some (.ref lp) ∧ m (Str.ofString "mode") = some (.int (n : Nat) tkb) ∧ ∃ items c, news = [(lp, listOf (List.toArray items) c)] ∧ StrsAre items (((fmSigns (n : Nat)).take (i + 1)).map sgn)) { s with heap := h, toks := tk₁ } { s with heap := h', toks := tk' } := by
      intro m' h' tk' cc t' tail F' N' ho e1 e2 e3
      refine ⟨h', tk', m', [(lp, listOf ((List.toArray items).push (.str ⟨#[cc]⟩ t')) (c + 1))], rfl, F', fun p hp => ?_, ?_, e1, e2, items ++ [.str ⟨#[cc]⟩ t'], c + 1, ?_, strs_snoc hst (by rw [← e3]; exact signs_at hq)⟩
      · rcases List.mem_append.mp hp with hp | hp
        · rw [List.mem_singleton.mp hp]; exact N' _ (.head _)
        · exact N' _ (.tail _ (ho p hp))
      · intro p hp; rw [List.mem_singleton.mp hp]; exact hn1 (lp, listOf (List.toArray items) c) (List.mem_singleton.mpr rfl)
      · simp
    rw [names2 hm1 hm2] at Fi
    clear hm1 hm2 Fe Ne F1 N1
    refine unpackN_ Fi Ni hT rfl rfl rfl ?_
    intro h2 F2 N2
    clear Fi Ni
    simp only [List.cons_append, List.nil_append] at N2
    (repeat' (first | (with_reducible (((with_reducible show wpAny _ _ (exec (Stmt.For (Expr.Tuple _ _ _) (Expr.Name _ _) (_ :: _) (_ :: _) _) _) _ _ _); (k_dflt (refine wpAny_For ?_ (by intro _; rfl)))))) | (k_end; kc_close) | walk1 | (dsimp only [argC9]; walk1) | (k_unfold; (try dsimp only)) | (dsimp only [then9]) | (leave1; (try dsimp only))))
    (rename Fr g' L' _ _ => F3)
    (rename News g' L' _ _ => N3)
    clear F2 N2
    rename_i hx F0
    refine wpAny_pyIter_tuple (IsTup.keeps hR.1 (Fr.keep F3)) ?_
    have hLx : @LT.lt Nat _ L' hx.objs.size := F3.ns.lt
    have hq1 : @LT.lt Nat _ q.1 g'.objs.size := let ⟨_, e, _⟩ := hR.1; Heap.lt_size e
    have hNx : ∀ p ∈ (lp, listOf (List.toArray items) c) :: own, @LT.lt Nat _ p.1 hx.objs.size := fun p hp => Heap.lt_size (N3 p hp).1
    refine turns_loop (KTurns.ofWalks (Walks.tuple rfl hx.objs.size q.1 ((by k_ne)) _) (fun i v s Q E st q => letGo_tupleiter st.1 q))
      (fun j m news => m (Str.ofString "perm") = some (.ref lp) ∧ m (Str.ofString "mode") = some (.int (n : Nat) tkb) ∧ m (Str.ofString "index") = some (.int (i : Nat) ti) ∧ news = (lp, listOf (List.toArray items) c) :: own ∧ ∀ r ∈ q.2.take j, ¬ fmHit i (n : Nat) r.2.1)
      ?f1 ?f2 ?f3 ⟨⟨_, Heap.get?_push_size _ rfl, rfl, rfl⟩, (IsTup.keeps hR.1 (Fr.keep F3)).push _⟩ (F3.push _) (fun p hp => ⟨Heap.get?_push_of_some _ (N3 p hp).1, (N3 p hp).2⟩) ⟨rfl, rfl, rfl, rfl, by simp⟩ ?turn2 ?done2
    case f1 => show L' ∉ _; simp only [List.mem_cons, List.not_mem_nil, or_false, not_or]; exact ⟨(by k_ne), (by k_ne)⟩
    case f2 => intro b hb; rw [List.mem_singleton.mp hb]; exact nog _ (by show @LE.le Nat _ _ hx.objs.size; lia)
    case f3 => intro p hp hI; rw [List.mem_singleton] at hI; have h9 := hNx p hp; rw [hI] at h9; exact Nat.lt_irrefl _ h9
    case turn2 =>
      rintro j v m₂ news₂ own₂ h₃ tk₃ hj hv ⟨e1, e2, e3, rfl, hno⟩ hn2 hown2 F4 N4
      obtain ⟨r, hr, rfl⟩ : ∃ r, q.2[j]? = some r ∧ v = .ref r.1 := by
        have hv' : (q.2.map fun r => Value.ref r.1)[j]? = some v := by simpa using hv
        rw [List.getElem?_map] at hv'
        cases hq2 : q.2[j]? with
        | none => rw [hq2] at hv'; cases hv'
        | some r => rw [hq2] at hv'; exact ⟨r, rfl, (Option.some.inj hv').symm⟩
      obtain ⟨tb, tc, hrt⟩ := hR.2 r (List.mem_of_getElem? hr)
      have hof2 : ∀ p ∈ own ++ own₂, p.1 ≠ lp := fun p hp => by
        rcases List.mem_append.mp hp with h9 | h9
        · exact hof p h9
        · have h8 := hown2 p h9
          have hl9 := hNx _ (List.mem_cons_self ..)
          simp only [List.mem_cons, List.not_mem_nil, or_false] at h8
          rcases h8 with e | e <;> rw [e]
          · exact (by k_ne)
          · intro h7; have := (N3 _ (List.mem_cons_self ..)).2.2; obtain ⟨o, ho, _⟩ := hR.1; rw [← h7, ho] at this; cases this
      rw [names3 e1 e2 e3] at F4
      clear e1 e2 e3 F3 N3
      refine unpackN_ F4 N4 (IsTup.keeps hrt (Fr.keep F4)) rfl rfl rfl ?_
      intro h5 F5 N5
      clear F4 N4
      simp only [List.cons_append] at N5
      have hitl := hst.length
      have hsz9 : (List.toArray items).size ≤ sizeLine := by
        rw [List.size_toArray, hitl, List.length_map, List.length_take, sizeLine_eq]
        have := hi10
        simp only [fmTab, List.length_cons, List.length_nil] at this
        lia
      (repeat' (first | (with_reducible (((with_reducible show wpAny _ _ (call (Value.builtin "list.append") [Value.ref _, _]) _ _ _); k_dflt (refine append_K (by k_asm) (by k_asm) (by k_upd) ?_ (by assumption); k_whole); intro h' F' N'; (try k_sweep)))) | (with_reducible (((with_reducible show UPost _ _ _ _ _ _ _ _ _); dsimp only [UPost]))) | (k_end; kc_close) | walk1 | (dsimp only [argC9]; walk1) | (k_unfold; (try dsimp only)) | (dsimp only [then9]) | (leave1; (try dsimp only))))
      · exact fin1 _ _ _ _ _ _ (by with_reducible assumption) (by with_reducible assumption) (fun _ hp => List.mem_append_left _ hp) rfl rfl (pick_hit hno hr ((hit0 h0 h1 (by with_reducible assumption)).mpr (by with_reducible assumption)))
      · show UEnd g' L' _ _ _ _ _
        exact ⟨_, _, _, (lp, listOf (List.toArray items) c) :: own, rfl, (by with_reducible assumption), (by assumption), hn2, rfl, rfl, rfl, rfl, miss_snoc hno hr (fun z => absurd ((hit0 h0 h1 (by with_reducible assumption)).mp z) (by with_reducible assumption))⟩
      · exact fin1 _ _ _ _ _ _ (by with_reducible assumption) (by with_reducible assumption) (fun _ hp => List.mem_append_left _ hp) rfl rfl (pick_hit hno hr ((hit1 (by with_reducible assumption)).mpr (by with_reducible assumption)))
      · show UEnd g' L' _ _ _ _ _
        exact ⟨_, _, _, (lp, listOf (List.toArray items) c) :: own, rfl, (by with_reducible assumption), (by assumption), hn2, rfl, rfl, rfl, rfl, miss_snoc hno hr (fun z => absurd ((hit1 (by with_reducible assumption)).mp z) (by with_reducible assumption))⟩
    case done2 =>
      rintro m₂ news₂ h₃ tk₃ ⟨e1, e2, e3, rfl, hno⟩ hn2 F4 N4
      rw [names3 e1 e2 e3] at F4
      clear e1 e2 e3 F3 N3
      have hitl := hst.length
      have hsz9 : (List.toArray items).size ≤ sizeLine := by
        rw [List.size_toArray, hitl, List.length_map, List.length_take, sizeLine_eq]
        have := hi10
        simp only [fmTab, List.length_cons, List.length_nil] at this
        lia
      have hnone : fmPick i (n : Nat) q.2 = if i = 0 then 63 else 45 := pick_none (by simpa using hno)
      (repeat' (first | (with_reducible (((with_reducible show wpAny _ _ (call (Value.builtin "list.append") [Value.ref _, _]) _ _ _); k_dflt (refine append_K (by k_asm) (by k_asm) (by k_upd) ?_ (by assumption); k_whole); intro h' F' N'; (try k_sweep)))) | (with_reducible (((with_reducible show UPost _ _ _ _ _ _ _ _ _); dsimp only [UPost]))) | (k_end; kc_close) | walk1 | (dsimp only [argC9]; walk1) | (k_unfold; (try dsimp only)) | (dsimp only [then9]) | (leave1; (try dsimp only))))
      · exact fin1 _ _ _ 63 _ _ (by assumption) (by rw [show (⟨#[63]⟩ : Str) = Str.ofString "?" from by decide]; assumption) (fun _ hp => hp) rfl rfl (by rw [hnone, if_pos (by lia)])
      · exact fin1 _ _ _ 45 _ _ (by assumption) (by rw [show (⟨#[45]⟩ : Str) = Str.ofString "-" from by decide]; assumption) (fun _ hp => hp) rfl rfl (by rw [hnone, if_neg (by lia)])

theorem resetW1 : True := by w_top off; trivial
theorem counted_le {r d r' : List UInt8} (h : counted r = some (d, r')) : d.length ≤ 255 := by
  cases r with
  | nil => cases h
  | cons b r =>
    by_cases hb : b.toNat ≤ r.length
    · simp only [counted, if_pos hb, Option.some.injEq, Prod.mk.injEq] at h
      obtain ⟨rfl, rfl⟩ := h
      rw [List.length_take]
      have := UInt8.toNat_lt b
      lia
    · simp [counted, if_neg hb] at h
theorem strl_arr (l : List Nat) : (⟨l.toArray⟩ : Str).length = l.length := by simp [Str.length]
theorem strl_blank : (Str.ofString " ").length = 1 := by decide
theorem strl_slash : (Str.ofString "/").length = 1 := by decide
theorem rowOf_len (n : Nat) : (rowOf n).length = 10 := rfl
theorem halt_call {prog : Program} {w : World} {A : Around} {E Q : Value → Shared → Prop} {s : Shared} {v : Value} {args : List Value} (h : Halt (wpAny (model prog w) A (call v args) Q E s)) : wpAny (model prog w) A (call v args) Q E s := h
theorem names5 {m : Str → Option Value} {x1 x2 x3 x4 x5 : Str} {a1 a2 a3 a4 a5 : Value} (h1 : m x1 = some a1) (h2 : m x2 = some a2) (h3 : m x3 = some a3) (h4 : m x4 = some a4) (h5 : m x5 = some a5) :
    m = fun z => if z = x1 then some a1 else if z = x2 then some a2 else if z = x3 then some a3 else if z = x4 then some a4 else if z = x5 then some a5 else m z := by
  funext z
  by_cases k1 : z = x1
  · simp only [if_pos k1]; rw [k1]; exact h1
  by_cases k2 : z = x2
  · simp only [if_neg k1, if_pos k2]; rw [k2]; exact h2
  by_cases k3 : z = x3
  · simp only [if_neg k1, if_neg k2, if_pos k3]; rw [k3]; exact h3
  by_cases k4 : z = x4
  · simp only [if_neg k1, if_neg k2, if_neg k3, if_pos k4]; rw [k4]; exact h4
  by_cases k5 : z = x5
  · simp only [if_neg k1, if_neg k2, if_neg k3, if_neg k4, if_pos k5]; rw [k5]; exact h5
  simp only [if_neg k1, if_neg k2, if_neg k3, if_neg k4, if_neg k5]
abbrev tupOf (vs : Array Value) : Obj := { cls := .type "tuple", data := .seq vs 0 }
/-- the tuple that stands for an item -/
def ItemAt (it : Item) (a : Addr) (o : Obj) : Prop := ∃ t v, ThingVal it.2 v ∧ o = tupOf #[.str it.1 t, v]
inductive Seen : List Item → List Value → List (Addr × Obj) → Prop
  | nil : Seen [] [] []
  | snoc {its : List Item} {vs : List Value} {l : List (Addr × Obj)} {it : Item} {a : Addr} {o : Obj} (h : Seen its vs l) (hi : ItemAt it a o) : Seen (its ++ [it]) (vs ++ [.ref a]) ((a, o) :: l)
theorem Seen.append {its its' : List Item} {vs vs' : List Value} {l l' : List (Addr × Obj)} (h : Seen its vs l) (h' : Seen its' vs' l') : Seen (its ++ its') (vs ++ vs') (l' ++ l) := by
  induction h' with
  | nil => simpa using h
  | snoc _ hi ih => rw [← List.append_assoc, ← List.append_assoc]; exact .snoc ih hi
theorem Seen.length {its : List Item} {vs : List Value} {l : List (Addr × Obj)} (h : Seen its vs l) : vs.length = its.length := by
  induction h with
  | nil => rfl
  | snoc _ _ ih => simp [ih]
def takes (hs ts : List Part) (x : Str) : Bool := allFit hs x 0 && allFit ts x ((x.length : Int) - ts.length)
abbrev partsObj (ps : List Part) (n : Nat) : Obj := listOf (ps.map fun p => Value.str p.1 p.2.2).toArray n
abbrev wled (seen rule hA tA : Addr) (hs ts : List Part) (nh nt : Nat) (vs : Array Value) (sz : Nat) (rest : List (Addr × Obj)) : List (Addr × Obj) :=
  (seen, listOf vs sz) :: (rule, tupOf #[.ref hA, .ref tA]) :: (hA, partsObj hs nh) :: (tA, partsObj ts nt) :: rest
theorem news_ne {h₀ h : Heap} {L : Addr} {news : List (Addr × Obj)} (N : News h₀ L h news) {a b : Addr} {o o' : Obj} (h1 : (a, o) ∈ news) (h2 : (b, o') ∈ news) (hne : o.cls ≠ o'.cls) : a ≠ b := by
  rintro rfl
  have e1 := (N _ h1).1
  have e2 := (N _ h2).1
  rw [e1] at e2
  exact hne (congrArg Obj.cls (Option.some.inj e2))
theorem Seen.cls {its : List Item} {vs : List Value} {l : List (Addr × Obj)} (h : Seen its vs l) : ∀ q ∈ l, q.2.cls = .type "tuple" := by
  induction h with
  | nil => intro q hq; cases hq
  | snoc _ hi ih =>
    intro q hq
    rcases List.mem_cons.mp hq with rfl | hq
    · obtain ⟨t, v, _, e⟩ := hi
      exact e ▸ rfl
    · exact ih q hq
theorem led_skip {S : Sm} {i : Int} {tp : Tok} {n : Nat} {x : Addr × Obj} {l : List (Addr × Obj)} : ∀ q ∈ S.led i tp n l, q ∈ S.led i tp n (x :: l) := by
  exact perm_sub [_, _, _, _, _, _, _, x] l [0, 1, 2, 3, 4, 5, 6] rfl
theorem led_l {S : Sm} {i : Int} {tp : Tok} {n : Nat} {l : List (Addr × Obj)} : (S.l, placeOf i tp n) ∈ S.led i tp n l := .tail _ (.tail _ (.tail _ (.tail _ (.head _))))
theorem led_in {S : Sm} {i : Int} {tp : Tok} {n : Nat} {l : List (Addr × Obj)} : ∀ q ∈ l, q ∈ S.led i tp n l := fun _ hq => .tail _ (.tail _ (.tail _ (.tail _ (.tail _ (.tail _ (.tail _ hq))))))
theorem led_mono {S : Sm} {i : Int} {tp : Tok} {n : Nat} {l l' nl : List (Addr × Obj)} (h : ∀ q ∈ S.led i tp n l, q ∈ nl) (hs : ∀ q ∈ l', q ∈ l) : ∀ q ∈ S.led i tp n l', q ∈ nl := by
  have h2 : ∀ q ∈ l, q ∈ nl := fun q hq => h q (led_in q hq)
  have h3 := List.forall_mem_cons.mp h
  exact List.forall_mem_cons.mpr ⟨h3.1, fun q hq => (List.mem_append (s := [_, _, _, _, _, _]) (t := l')).mp hq |>.elim (fun h4 => h3.2 q ((List.mem_append (s := [_, _, _, _, _, _]) (t := l)).mpr (.inl h4))) (fun h4 => h2 q (hs q h4))⟩
theorem mode_nat (a b : Nat) : Int.toNat ((256 * (a : Int) + (b : Int)) / 4096) = (256 * a + b) / 4096 := rfl
theorem mode4 {a b : Nat} (h : (256 * (a : Int) + (b : Int)) / 4096 = 4) : (256 * a + b) / 4096 = 4 := Int.ofNat.inj h
theorem mode4n {a b : Nat} (h : ¬ (256 * (a : Int) + (b : Int)) / 4096 = 4) : (256 * a + b) / 4096 ≠ 4 := fun e => h (congrArg Int.ofNat e)
theorem len_all {a r its r1 d r' : Nat} (h1 : a + r ≤ 1000) (h2 : its + r1 ≤ r) (h3 : d + r' + 3 ≤ r1) : a + d + 1 + r' ≤ 1000 := by lia
theorem tk2 {a d r : Nat} (h : a + d + 1 + r ≤ 1000) : 10 + 1 + (a + d) ≤ 4000 := by lia
theorem line_eq (b c : UInt8) (above : Str) (d : List UInt8) : (⟨(rowOf (256 * ((b.toNat : Nat) : Int) + ((c.toNat : Nat) : Int)).toNat).toArray⟩ : Str) ++ Str.ofString " " ++ (above ++ ⟨(d.map UInt8.toNat).toArray⟩) = lineOf (256 * b.toNat + c.toNat) (above ++ strOf d) := by
  have e : (256 * ((b.toNat : Nat) : Int) + ((c.toNat : Nat) : Int)).toNat = 256 * b.toNat + c.toNat := rfl
  rw [e]; rfl
section
variable {tk : Str → Bool} {N n : Nat} {a : Str} {h h' : Bool} {r r' r2 : List UInt8} {nm : List UInt8} {b : Nat} {th : Thing} {its its2 ow : List Item} {o : Option (List UInt8)}
theorem Reads.bad' (hn : N = n + 1) (e : nodeOf r = none) : Reads tk N a h r [] none := hn ▸ .bad e
theorem Reads.leaf' (hn : N = n + 1) (e : nodeOf r = some (nm, b, th, r')) (k : b / 4096 ≠ 4) (eh : h' = (h || tk (lineOf b (a ++ strOf nm)))) (ho : own h' (lineOf b (a ++ strOf nm)) th = ow) (more : Reads tk n a h r' its o) : Reads tk N a h r (ow ++ its) o := by
  subst hn ho; exact .leaf e k eh more
theorem Reads.dirBad' (hn : N = n + 1) (e : nodeOf r = some (nm, b, th, r')) (k : b / 4096 = 4) (eh : h' = (h || tk (lineOf b (a ++ strOf nm)))) (ho : own h' (lineOf b (a ++ strOf nm)) th = ow) (within : Reads tk (numOf th) (a ++ strOf nm ++ Str.ofString "/") h' r' its none) : Reads tk N a h r (ow ++ its) none := by
  subst hn ho; exact .dirBad e k eh within
theorem Reads.dir' (hn : N = n + 1) (e : nodeOf r = some (nm, b, th, r')) (k : b / 4096 = 4) (eh : h' = (h || tk (lineOf b (a ++ strOf nm)))) (ho : own h' (lineOf b (a ++ strOf nm)) th = ow) (within : Reads tk (numOf th) (a ++ strOf nm ++ Str.ofString "/") h' r' its (some r2)) (more : Reads tk n a h r2 its2 o) : Reads tk N a h r (ow ++ its ++ its2) o := by
  subst hn ho; exact .dir e k eh within more
end
theorem news_turn {h₀ h : Heap} {L : Addr} {S : Sm} {i : Int} {tp : Tok} {n : Nat} {x : Addr × Obj} {seen rule hA tA : Addr} {hs ts : List Part} {nh nt : Nat} {vs : Array Value} {sz : Nat} {rest : List (Addr × Obj)} (N : News h₀ L h (S.led i tp n (x :: wled seen rule hA tA hs ts nh nt vs sz rest))) :
    News h₀ L h (S.led i tp n (wled seen rule hA tA hs ts nh nt vs sz (x :: rest))) := by
  exact news_sub N (perm_sub [_, _, _, _, _, _, _, x, _, _, _, _] rest [0, 1, 2, 3, 4, 5, 6, 8, 9, 10, 11, 7] rfl)
theorem vis_turn {h₀ h : Heap} {L : Addr} {S : Sm} {i : Int} {tp t : Tok} {n : Nat} {x : Addr × Obj} {seen rule hA tA : Addr} {hs ts : List Part} {nh nt : Nat} {vs : Array Value} {sz : Nat} {rest : List (Addr × Obj)} {D : Addr} {y line : Str} {v : Value} {th : Thing}
    (N : News h₀ L h ((D, tupOf #[.str y t, v]) :: S.led i tp n (wled seen rule hA tA hs ts nh nt (vs.push (.ref D)) sz (x :: rest)))) (hth : ThingVal th v) (hy : y = line) :
    ∃ D o, ItemAt (line, th) D o ∧ News h₀ L h (S.led i tp n (wled seen rule hA tA hs ts nh nt (vs ++ [Value.ref D].toArray) sz (x :: (D, o) :: rest))) := by
  subst hy
  refine ⟨D, _, ⟨t, v, hth, rfl⟩, ?_⟩
  rw [show vs ++ [Value.ref D].toArray = vs.push (.ref D) by simp]
  exact news_sub N (perm_sub [_, _, _, _, _, _, _, _, _, _, _, _, x] rest [1, 2, 3, 4, 5, 6, 7, 8, 9, 10, 11, 12, 0] rfl)
structure Sm.Not (S : Sm) (a : Addr) : Prop where
  x : S.x ≠ a
  d : S.d ≠ a
  f : S.f ≠ a
  c : S.c ≠ a
  l : S.l ≠ a
  p : S.cp ≠ a
  o : S.co ≠ a
theorem led_off {S : Sm} {i1 i2 : Int} {tp1 tp2 : Tok} {n1 n2 : Nat} {seen rule hA tA : Addr} {hs ts : List Part} {nh nt z1 z2 : Nat} {v1 v2 : Array Value} {r1 r2 : List (Addr × Obj)} {I : Addr}
    (h : ∀ q ∈ S.led i1 tp1 n1 (wled seen rule hA tA hs ts nh nt v1 z1 r1), q.1 ≠ I) (hr : ∀ q ∈ r2, q.1 ≠ I) : ∀ q ∈ S.led i2 tp2 n2 (wled seen rule hA tA hs ts nh nt v2 z2 r2), q.1 ≠ I := by
  simp only [Sm.led, wled, List.forall_mem_cons] at h ⊢
  exact ⟨h.1, h.2.1, h.2.2.1, h.2.2.2.1, h.2.2.2.2.1, h.2.2.2.2.2.1, h.2.2.2.2.2.2.1, h.2.2.2.2.2.2.2.1, h.2.2.2.2.2.2.2.2.1, h.2.2.2.2.2.2.2.2.2.1, h.2.2.2.2.2.2.2.2.2.2.1, hr⟩
theorem led_front {S : Sm} {i : Int} {tp : Tok} {n : Nat} {x : Addr × Obj} {l : List (Addr × Obj)} : ∀ q ∈ S.led i tp n (x :: l), q ∈ x :: S.led i tp n l := by
  exact perm_sub [x, _, _, _, _, _, _, _] l [1, 2, 3, 4, 5, 6, 7, 0] rfl
section
variable {seen rule hA tA : Addr} {hs ts : List Part} {nh nt sz : Nat} {vs : Array Value} {r r' : List (Addr × Obj)} {x y : Addr × Obj}
theorem wled_in (h : x ∈ r) : x ∈ wled seen rule hA tA hs ts nh nt vs sz r := .tail _ (.tail _ (.tail _ (.tail _ h)))
theorem wled_mono (h : ∀ q ∈ r, q ∈ r') : ∀ q ∈ wled seen rule hA tA hs ts nh nt vs sz r, q ∈ wled seen rule hA tA hs ts nh nt vs sz r' := by
  simp only [wled]
  intro q hq
  rcases List.mem_cons.mp hq with rfl | hq
  · exact .head _
  rcases List.mem_cons.mp hq with rfl | hq
  · exact .tail _ (.head _)
  rcases List.mem_cons.mp hq with rfl | hq
  · exact .tail _ (.tail _ (.head _))
  rcases List.mem_cons.mp hq with rfl | hq
  · exact .tail _ (.tail _ (.tail _ (.head _)))
  exact wled_in (h q hq)
theorem cons_w : ∀ q ∈ x :: r, q ∈ x :: wled seen rule hA tA hs ts nh nt vs sz r := fun q hq => by
  rcases List.mem_cons.mp hq with rfl | hq
  · exact .head _
  · exact .tail _ (wled_in hq)
theorem mem_mid {a l : List (Addr × Obj)} : x ∈ a ++ x :: l := List.mem_append_right _ (.head _)
theorem app_skip {a l : List (Addr × Obj)} : ∀ q ∈ a ++ l, q ∈ a ++ x :: l := fun q hq => by
  rcases List.mem_append.mp hq with h | h
  · exact List.mem_append_left _ h
  · exact List.mem_append_right _ (.tail _ h)
theorem app_two {a l : List (Addr × Obj)} : ∀ q ∈ a ++ [y] ++ l, q ∈ a ++ x :: y :: l := fun q hq => by
  rw [List.append_assoc] at hq
  exact app_skip q hq
end
/-- how a reading of places ends -/
inductive WalkOk (o : List UInt8) (S : Sm) (seen rule hA tA : Addr) (hs ts : List Part) (nh nt number : Nat) (above : Str) (hidden : Bool) (r : List UInt8) (vs : Array Value) (rest : List (Addr × Obj)) (v : Value) (led' : List (Addr × Obj)) : Prop
  | mk (k0 : v = .none) (its r' i' tp' n' vs' tups sz') (k1 : Reads (takes hs ts) number above hidden r its (some r')) (k2 : At o i' r') (k3 : Seen its vs' tups) (k4 : led' = S.led i' tp' n' (wled seen rule hA tA hs ts nh nt (vs ++ vs'.toArray) sz' (tups ++ rest)))
inductive WalkEr (S : Sm) (seen rule hA tA : Addr) (hs ts : List Part) (nh nt number : Nat) (above : Str) (hidden : Bool) (r : List UInt8) (vs : Array Value) (rest : List (Addr × Obj)) (led' : List (Addr × Obj)) : Prop
  | mk (its i' tp' n' vs' tups sz') (k1 : Reads (takes hs ts) number above hidden r its none) (k3 : Seen its vs' tups) (k4 : led' = S.led i' tp' n' (wled seen rule hA tA hs ts nh nt (vs ++ vs'.toArray) sz' (tups ++ rest)))
/-- between two places -/
inductive WalkJ (o : List UInt8) (S : Sm) (seen rule hA tA : Addr) (hs ts : List Part) (nh nt number : Nat) (above : Str) (hidden : Bool) (r : List UInt8) (vs : Array Value) (rest : List (Addr × Obj)) (ta : Tok) (j : Nat) (m : Str → Option Value) (news : List (Addr × Obj)) : Prop
  | mk (e1 : m (Str.ofString "stream") = some (.ref S.x)) (e2 : m (Str.ofString "above") = some (.str above ta)) (e3 : m (Str.ofString "hidden") = some (.bool hidden)) (e4 : m (Str.ofString "rule") = some (.ref rule)) (e5 : m (Str.ofString "seen") = some (.ref seen))
    (r' i' tp' n' its vs' tups sz') (k1 : news = S.led i' tp' n' (wled seen rule hA tA hs ts nh nt (vs ++ vs'.toArray) sz' (tups ++ rest))) (k2 : At o i' r') (k3 : Seen its vs' tups) (k4 : its.length + r'.length ≤ r.length) (k5 : S.Off (tups ++ rest)) (k6 : ∀ q ∈ tups ++ rest, q.1 ≠ seen)
    (k7 : ∀ its2 oo, Reads (takes hs ts) (number - j) above hidden r' its2 oo → Reads (takes hs ts) number above hidden r (its ++ its2) oo)
theorem walk_ok {w : World} {o : List UInt8} {S : Sm} (hS : S.Ok w o) {seen rule hA tA : Addr} {hs ts : List Part} {nh nt : Nat} (hf : ∀ p ∈ hs, FitOk p.1 p.2.1) (tf : ∀ p ∈ ts, FitOk p.1 p.2.1) (hz : hs.length + ts.length ≤ 11) (hsn : S.Not seen) (hsr : rule ≠ seen) (hsA : hA ≠ seen) (hsT : tA ≠ seen) (hnr : rule ≠ S.l) (hnh : hA ≠ S.l) (hnt : tA ≠ S.l) :
    ∀ (M : Nat) (r : List UInt8) (i : Int) (tp : Tok) (n number : Nat) (above : Str) (hidden : Bool) (tn ta : Tok) (vs : Array Value) (sz : Nat) (rest : List (Addr × Obj)), r.length < M → At o i r → number < 256 → above.length + r.length ≤ 1000 → vs.size + r.length ≤ 1000 → S.Off rest → (∀ q ∈ rest, q.1 ≠ seen) →
    Meet w 207 [.ref S.x, .int (number : Nat) tn, .str above ta, .bool hidden, .ref rule, .ref seen] (40 + M) (400 + 50 * M) (S.led i tp n (wled seen rule hA tA hs ts nh nt vs sz rest))
      (WalkOk o S seen rule hA tA hs ts nh nt number above hidden r vs rest)
      (WalkEr S seen rule hA tA hs ts nh nt number above hidden r vs rest) := by
  intro M
  induction M with
  | zero => intro r _ _ _ _ _ _ _ _ _ _ _ h; exact absurd h (Nat.not_lt_zero _)
  | succ M ih =>
    intro r i tp n number above hidden tn ta vs sz rest hrN hi hnum hab hvz hoff hsee
    have hO : ∀ (vs : Array Value) (sz : Nat) (rest : List (Addr × Obj)), S.Off rest → S.Off (wled seen rule hA tA hs ts nh nt vs sz rest) := by
      intro vs sz rest ho q hq
      simp only [wled, List.mem_cons] at hq
      rcases hq with rfl | rfl | rfl | rfl | hq
      · exact hsn.l.symm
      · exact hnr
      · exact hnh
      · exact hnt
      · exact ho q hq
    have hfill : PySem.Challenge.rw_in0217_01 = PySem.Challenge.rw_in0217_01 ∧ hd.heap_39 = hd.heap_39 := by (k_fill; exact ⟨rfl, rfl⟩)
    clear hfill
    intro p loose mean mg mb dp un gd cn cs a ccd cl outer A₀ base h₀ L m s Q E B F X N T hk hdp hu hret herr
    have CH1 := code171 X
    dsimp only [Sm.led, wled, partsObj] at N
    refine wpAny_call ?_
    k_dflt (first
      | (refine' code_def ?k1 ?k2 ?k3 ?k4 ?k5 ?kA ?kF ?kK ?k6 ?k7 ?k8 ?k9 ?kB ?_ ?c2 ?c3 ?c4 ?c5; (case kA => exact rfl); (case kF => exact rfl); (case kK => assumption); (case k1 => k_asm); (case k2 => k_asm); (case k3 => k_asm); (case k4 => k_asm); (case k5 => k_asm); (case k6 => k_is); (case k7 => k_is); (case k8 => ktr_room); (case k9 => exact BindsTo.of_eq rfl); (case c5 => decide); (case kB => exact locs rfl); (case c2 => exact rfl); (case c3 => exact rfl); (case c4 => exact rfl); k_whole; intro g' L' h' FG' F' N' B' X' T'; (try dsimp only); (try k_lift B'); (try (refine wp_letQ ?_; intro Q9 X9)); (try (refine wp_letA ?_; intro A9)); (try (refine wp_letE ?_; intro E9)))
      | (refine' code_defC ?k1 ?k2 ?k3 ?k4 ?k5 ?kA ?kF ?kK ?k6 ?k7 ?k8 ?k9 ?kB ?kD ?_ ?c2 ?c3 ?c4; (case kA => exact rfl); (case kF => exact rfl); (case kK => assumption); (case k1 => k_asm); (case k2 => k_asm); (case k3 => k_asm); (case k4 => k_asm); (case k5 => k_asm); (case k6 => k_is); (case k7 => k_is); (case k8 => ktr_room); (case k9 => exact BindsTo.of_eq rfl); (case kB => exact rfl); (case kD => decide +kernel); (case c2 => exact rfl); (case c3 => exact rfl); (case c4 => exact rfl); k_whole; intro g' L' h' tk' cells' FG' F' N' Y' B' X' T' l1; (try k_lt l1); k_cells Y'; (try simp only [List.cons_append, List.nil_append] at N'); (try dsimp only); (try k_lift B'); (try (refine wp_letQ ?_; intro Q9 X9)); (try (refine wp_letA ?_; intro A9)); (try (refine wp_letE ?_; intro E9))))
    (repeat' (first | (with_reducible (((with_reducible show wpAny _ _ (exec (Stmt.For (Expr.Name _ _) (Expr.Call _ _ _ _) (_ :: _) [] _) _) _ _ _); (k_dflt (refine wpAny_For ?_ (by intro _; rfl)))))) | (k_end; kc_close) | walk1 | (dsimp only [argC9]; walk1) | (k_unfold; (try dsimp only)) | (dsimp only [then9]) | (leave1; (try dsimp only))))
    (rename Fr g' L' _ _ => F1)
    (rename News g' L' _ _ => N1)
    (rename IsRange _ _ _ _ _ _ _ _ => R1)
    refine range_loopC (WalkJ o S seen rule hA tA hs ts nh nt number above hidden r vs rest ta) R1 (by lia) rfl F1 N1 ?start ?turn ?done
    case start =>
      refine ⟨rfl, rfl, rfl, rfl, rfl, r, i, tp, n, [], [], [], sz, ?_, hi, .nil, by simp, hoff, hsee, fun its2 oo h => h⟩
      rw [show vs ++ ([] : List Value).toArray = vs from by simp]
      rfl
    case turn =>
      rintro j t m₁ news₁ I it h tk hj hic ⟨e1, e2, e3, e4, e5, r1, i1, tp1, n1, its, vs1, tups, sz1, rfl, hat1, hseen, hlen, hoff1, hsee1, cont⟩ hn Fi Ni
      rw [names5 e1 e2 e3 e4 e5] at Fi
      clear e1 e2 e3 e4 e5 F1 N1 R1
      have hvl : (vs ++ vs1.toArray).size + r1.length ≤ 1000 := by
        have := hseen.length
        simp only [Array.size_append, List.size_toArray, this]; lia
      have hIo : I ≠ S.l := fun e => hn _ led_l e.symm
      have hIs : I ≠ seen := fun e => hn (seen, listOf (vs ++ vs1.toArray) sz1) (led_in _ (.head _)) e.symm
      have Nj := news_sub (news' := S.led i1 tp1 n1 ((I, it) :: wled seen rule hA tA hs ts nh nt (vs ++ vs1.toArray) sz1 (tups ++ rest))) Ni led_front
      clear Ni
      have hO1 : S.Off ((I, it) :: wled seen rule hA tA hs ts nh nt (vs ++ vs1.toArray) sz1 (tups ++ rest)) := by
        intro q hq
        rcases List.mem_cons.mp hq with rfl | hq
        · exact hIo
        · exact hO _ _ _ hoff1 q hq
      generalize hvv : vs ++ vs1.toArray = vv at *
      generalize hrr : tups ++ rest = rr at *
      dsimp only [wled, partsObj] at hO1
      dsimp only [Sm.led, wled, partsObj] at Nj
      have fin : ∀ {h' : Heap} {tk' : Nat} {m' : Str → Option Value} {nl : List (Addr × Obj)} {its2 : List Item} {vs2 : List Value} {tups2 : List (Addr × Obj)} {sz2 : Nat} {i2 : Int} {tp2 : Tok} {n2 : Nat} {r2 : List UInt8} {vv2 : Array Value},
          m' (Str.ofString "stream") = some (.ref S.x) → m' (Str.ofString "above") = some (.str above ta) → m' (Str.ofString "hidden") = some (.bool hidden) → m' (Str.ofString "rule") = some (.ref rule) → m' (Str.ofString "seen") = some (.ref seen) →
          Fr g' L' h' m' → News g' L' h' nl → (I, it) ∈ nl → vv2 = vv ++ vs2.toArray → (∀ q ∈ S.led i2 tp2 n2 (wled seen rule hA tA hs ts nh nt vv2 sz2 (tups2 ++ rr)), q ∈ nl) →
          At o i2 r2 → Seen its2 vs2 tups2 → its2.length + r2.length ≤ r1.length →
          (∀ its3 oo, Reads (takes hs ts) (number - (j + 1)) above hidden r2 its3 oo → Reads (takes hs ts) (number - j) above hidden r1 (its2 ++ its3) oo) →
          TEnd g' L' I it (WalkJ o S seen rule hA tA hs ts nh nt number above hidden r vs rest ta (j + 1)) { s with heap := h, toks := tk } { s with heap := h', toks := tk' } := by
        intro h' tk' m' nl its2 vs2 tups2 sz2 i2 tp2 n2 r2 vv2 q1 q2 q3 q4 q5 F' N' hI hv2 hsub hat2 hseen2 hle more
        have hcl := hseen2.cls
        have hsn : ∀ q ∈ tups2, q ∈ nl := fun q hq => hsub q (led_in q (wled_in (List.mem_append_left _ hq)))
        have hw : S.led i2 tp2 n2 (wled seen rule hA tA hs ts nh nt vv2 sz2 (tups2 ++ rr)) = S.led i2 tp2 n2 (wled seen rule hA tA hs ts nh nt (vs ++ (vs1 ++ vs2).toArray) sz2 ((tups2 ++ tups) ++ rest)) := by
          have e : vv2 = vs ++ (vs1 ++ vs2).toArray := by rw [hv2, ← hvv]; simp
          rw [e, ← hrr, List.append_assoc]
        refine ⟨h', tk', m', _, rfl, F', news_sub N' (news' := (I, it) :: S.led i2 tp2 n2 (wled seen rule hA tA hs ts nh nt vv2 sz2 (tups2 ++ rr))) ?_, ?_, q1, q2, q3, q4, q5, r2, i2, tp2, n2, its ++ its2, vs1 ++ vs2, tups2 ++ tups, sz2, hw, hat2, hseen.append hseen2, ?_, ?_, ?_, ?_⟩
        · intro q hq
          rcases List.mem_cons.mp hq with rfl | hq
          · exact hI
          · exact hsub q hq
        · refine led_off hn fun q hq => ?_
          rcases List.mem_append.mp hq with hq | hq
          · exact (news_ne N' hI (hsn q hq) (by rw [hcl q hq, hic]; exact fun e => nomatch (Value.type.inj e))).symm
          · exact hn q (led_in _ (wled_in hq))
        · rw [List.length_append]; lia
        · intro q hq
          rw [List.append_assoc, hrr] at hq
          rcases List.mem_append.mp hq with hq | hq
          · exact news_ne N' (hsn q hq) (hsub _ led_l) (by rw [hcl q hq]; exact fun e => nomatch (Value.type.inj e))
          · exact hoff1 q hq
        · intro q hq
          rw [List.append_assoc, hrr] at hq
          rcases List.mem_append.mp hq with hq | hq
          · exact news_ne N' (hsn q hq) (hsub (seen, listOf vv2 sz2) (led_in _ (.head _))) (by rw [hcl q hq]; exact fun e => nomatch (Value.type.inj e))
          · exact hsee1 q hq
        · intro its3 oo h3
          rw [List.append_assoc]
          exact cont _ _ (more _ _ h3)
      have hnj : number - j = (number - (j + 1)) + 1 := (Nat.sub_add_cancel (Nat.sub_pos_of_lt hj)).symm
      have ferr : ∀ {e : Addr} {h' : Heap} {tk' : Nat} {g₂ : Heap} {nl : List (Addr × Obj)} {its2 : List Item} {vs2 : List Value} {tups2 : List (Addr × Obj)} {sz2 : Nat} {i2 : Int} {tp2 : Tok} {n2 : Nat} {vv2 : Array Value},
          RaisedN base (envX cn cs L a ccd cl :: outer) e (.type "ValueError") nl h' → Fr h₀ L g₂ m → g₂.UpToSlots h' → vv2 = vv ++ vs2.toArray → (∀ q ∈ S.led i2 tp2 n2 (wled seen rule hA tA hs ts nh nt vv2 sz2 (tups2 ++ rr)), q ∈ nl) →
          Seen its2 vs2 tups2 → Reads (takes hs ts) (number - j) above hidden r1 its2 none → E (.ref e) { s with heap := h', toks := tk' } := by
        intro e h' tk' g₂ nl its2 vs2 tups2 sz2 i2 tp2 n2 vv2 R F' U hv2 hsub hseen2 hr
        refine herr e _ h' tk' g₂ ⟨its ++ its2, i2, tp2, n2, vs1 ++ vs2, tups2 ++ tups, sz2, cont _ _ hr, hseen.append hseen2, rfl⟩ (raised_sub R ?_) F' U
        have e : vs ++ (vs1 ++ vs2).toArray = vv2 := by rw [hv2, ← hvv]; simp
        rw [e, List.append_assoc, hrr]
        exact hsub
      (repeat' (first | (with_reducible (((with_reducible show wpAny _ _ (binaryOp Operator.Add (Value.str _ _) (Value.str _ _)) _ _ _); (refine SBL.add (hsz := (by (have hcx := counted_le (by assumption)); simp only [PySem.Str.length_append, strl_arr, strl_blank, strl_slash, rowOf_len, List.length_map, sizeLine_eq]; omega)) ?_); intro _ _ _))) | (with_reducible (((with_reducible show wpAny _ _ (call (Value.ref 207) _) _ _ _); k_dflt (refine halt_call ?_)))) | (with_reducible (((with_reducible show wpAny _ _ (call (Value.ref 193) _) _ _ _); k_dflt (refine halt_call ?_)))) | (with_reducible (((with_reducible show wpAny _ _ (call (Value.ref 165) _) _ _ _); k_dflt (refine MeetP.goT (filemode_ok (by lia) (by lia)) (ret := ?_)); intro t' h' tk' F' N'; (try k_sweep)))) | (with_reducible (((with_reducible show wpAny _ _ (call (Value.ref 200) _) _ _ _); k_dflt (refine thing_go (ret := ?_) (err := ?_)) <;> (intros; (try dsimp only); (try k_sweep))))) | (with_reducible (((with_reducible show wpAny _ _ (call (Value.ref 111) _) _ _ _); k_dflt (refine MeetP.go (S_ISDIR_ok (by lia) (by lia)) (ret := ?_)); intro h' tk' F' N'; (try k_sweep)))) | (with_reducible (((with_reducible show wpAny _ _ (call (Value.ref 45) _) _ _ _); k_dflt (refine string1_go (ret := ?_) (err := ?_)) <;> (intros; (try dsimp only); (try k_sweep))))) | (with_reducible (((with_reducible show wpAny _ _ (call (Value.ref 38) _) _ _ _); k_dflt (refine uint1_go (ret := ?_) (err := ?_)); (intro d' _ _ _ _ _ _ _ hr'; subst hr'; have hb' := UInt8.toNat_lt d'; intros; (try dsimp only); (try k_sweep)); rotate_left; (intros; (try dsimp only)); rotate_left))) | (with_reducible (((with_reducible show TPost _ _ _ _ _ _ _ _ _); dsimp only [TPost]))) | (k_end; kc_close) | walk1 | (dsimp only [argC9]; walk1) | (k_unfold; (try dsimp only)) | (dsimp only [then9]) | (leave1; (try dsimp only))))
      rotate_left 3
      · refine ferr (its2 := []) (vs2 := []) (tups2 := []) (vv2 := vv) (sz2 := sz1) (by assumption) (by with_reducible assumption) (by with_reducible assumption) (by simp) (led_skip (x := (I, it))) .nil (.bad' hnj ?_)
        rename readThing _ _ = none => ht
        exact nodeOf_nothing (by assumption) (mode_nat _ _) ht
      · refine ferr (its2 := []) (vs2 := []) (tups2 := []) (vv2 := vv) (sz2 := sz1) (by assumption) (by with_reducible assumption) (by with_reducible assumption) (by simp) (led_skip (x := (I, it))) .nil (.bad' hnj ?_)
        exact nodeOf_nolo (by assumption) rfl (by assumption)
      · refine ferr (its2 := []) (vs2 := []) (tups2 := []) (vv2 := vv) (sz2 := sz1) (by assumption) (by with_reducible assumption) (by with_reducible assumption) (by simp) (led_skip (x := (I, it))) .nil (.bad' hnj ?_)
        exact nodeOf_nohi (by assumption) (by assumption)
      · refine ferr (its2 := []) (vs2 := []) (tups2 := []) (vv2 := vv) (sz2 := sz1) (by assumption) (by with_reducible assumption) (by with_reducible assumption) (by simp) (led_skip (x := (I, it))) .nil (.bad' hnj ?_)
        exact nodeOf_noname (by assumption)
      all_goals (
        (rename readThing _ _ = some _ => ht)
        (rename counted r1 = some _ => hc)
        (rename ThingVal _ _ => hth)
        have hnode := nodeOf_some hc (mode_nat _ _) ht
        have hlen2 := nodeOf_len hnode
        have hX := len_all hab hlen hlen2
        (rename At o _ _ => hat2)
        (rename News g' L' _ _ => N9)
        (rename Fr g' L' _ _ => F9))
      · rename (_ : Int) / 4096 = 4 => hd4
        rename hidden = true => hid
        rw [hd4] at ht
        obtain ⟨nb, rfl⟩ := readThing_num ht
        obtain ⟨tb, rfl⟩ := hth
        unfold Halt
        refine Meet.use (ih _ _ _ _ _ _ _ _ _ _ _ _ (by lia) hat2 (UInt8.toNat_lt nb) ?h3 ?h4 ?h5 ?h6) (by k_asm) (by k_asm) (by k_asm) (news_turn N9) (by k_asm) (by first | rfl | assumption) (by ktr_room) (by ktr_units) ?ret ?err
        case h3 => simp only [PySem.Str.length_append, strl_arr, strl_slash, List.length_map]; exact hX
        case h4 => lia
        case h5 => exact fun q hq => hO1 q (cons_w q hq)
        case h6 =>
          intro q hq
          rcases List.mem_cons.mp hq with rfl | hq
          · exact hIs
          · exact hsee1 q hq
        case ret =>
          rintro v1 led1 h1 tk1 ⟨rfl, its2, r2, i2, tp2, n2, vs2, tups2, sz2, hR2, hat3, hseen3, rfl⟩ F3 N3
          have hRl := hR2.len
          simp only [Option.elim] at hRl
          (repeat' (first | (with_reducible (((with_reducible show TPost _ _ _ _ _ _ _ _ _); dsimp only [TPost]))) | (k_end; kc_close) | walk1 | (dsimp only [argC9]; walk1) | (k_unfold; (try dsimp only)) | (dsimp only [then9]) | (leave1; (try dsimp only))))
          refine fin (its2 := its2) (vs2 := vs2) (tups2 := tups2) (sz2 := sz2) rfl rfl rfl rfl rfl (by with_reducible assumption) N3 (led_in _ (wled_in mem_mid)) rfl (led_mono (fun q hq => hq) (wled_mono app_skip)) hat3 hseen3 (by lia) ?_
          · intro its3 oo h3
            exact Reads.dir' (ow := []) hnj hnode (mode4 hd4) (h' := hidden) (by simp [hid]) (by rw [hid]; rfl) hR2 h3
        case err =>
          rintro e1 led1 h1 tk1 g₂ ⟨its2, i2, tp2, n2, vs2, tups2, sz2, hR2, hseen3, rfl⟩ R3 F3 U3
          k_steps
          refine ferr (its2 := its2) (vs2 := vs2) (tups2 := tups2) (sz2 := sz2) (by assumption) (by with_reducible assumption) (by with_reducible assumption) rfl (led_mono (fun q hq => hq) (wled_mono app_skip)) hseen3 (Reads.dirBad' (ow := []) (h := hidden) hnj hnode (mode4 hd4) (h' := hidden) (by simp [hid]) (by rw [hid]; rfl) hR2)
      · rename hidden = true => hid
        refine fin (its2 := []) (vs2 := []) (tups2 := []) (vv2 := vv) rfl rfl rfl rfl rfl F9 N9 (by simp only [Sm.led, List.mem_cons, true_or, or_true]) (by simp) (led_skip (x := (I, it))) hat2 .nil (by simp; lia) ?_
        intro its3 oo h3
        refine Reads.leaf' hnj hnode (mode4n (by assumption)) (h' := true) (by rw [hid]; rfl) rfl h3
      · rename hidden = false => hid
        unfold Halt
        refine Meet.use (MeetQ.here (takes_ok hf tf ?l1 ?l2 (by lia) (by lia)) (fun h₀ L h N => ⟨News.isList N (led_in (hA, partsObj hs nh) (by simp only [wled, List.mem_cons, true_or, or_true])), News.isList N (led_in (tA, partsObj ts nt) (by simp only [wled, List.mem_cons, true_or, or_true]))⟩)) (by k_asm) (by k_asm) (by k_asm) (news_turn N9) (by k_asm) (by first | rfl | assumption) (by ktr_room) (by ktr_units) ?_ (fun _ _ _ _ _ h => h.elim)
        case l1 => simp only [PySem.Str.length_append, strl_arr, strl_blank, rowOf_len, List.length_map]; first | exact Nat.le_trans hz (Nat.le_add_right _ _) | exact tk2 hX | lia
        case l2 => simp only [PySem.Str.length_append, strl_arr, strl_blank, rowOf_len, List.length_map]; first | exact Nat.le_trans hz (Nat.le_add_right _ _) | exact tk2 hX | lia
        clear N9 F9
        rintro v1 led1 h1 tk1 ⟨hv1, rfl⟩ F9 N9
        rw [line_eq] at hv1
        have hv2 := hv1
        change _ = Value.bool (takes _ _ _) at hv2
        clear hv1
        generalize htk : takes _ _ _ = tkb at hv2
        subst hv2
        dsimp only [Sm.led, wled, partsObj] at N9
        have hall : ∀ q ∈ (rule, tupOf #[.ref hA, .ref tA]) :: (hA, listOf (hs.map fun p => Value.str p.1 p.2.2).toArray nh) :: (tA, listOf (ts.map fun p => Value.str p.1 p.2.2).toArray nt) :: (I, it) :: rr, q.1 ≠ seen := by
          intro q hq
          simp only [List.mem_cons] at hq
          rcases hq with rfl | rfl | rfl | rfl | hq
          · exact hsr
          · exact hsA
          · exact hsT
          · exact hIs
          · exact hsee1 q hq
        obtain ⟨y1, y2, y3, y4, y5, y6, y7⟩ := hsn
        have hvz1 : vv.size ≤ sizeLine := by rw [sizeLine_eq]; lia
        (repeat' (first | (with_reducible (((with_reducible show wpAny _ _ (binaryOp Operator.Add (Value.str _ _) (Value.str _ _)) _ _ _); (refine SBL.add (hsz := (by (have hcx := counted_le (by assumption)); simp only [PySem.Str.length_append, strl_arr, strl_blank, strl_slash, rowOf_len, List.length_map, sizeLine_eq]; omega)) ?_); intro _ _ _))) | (with_reducible (((with_reducible show wpAny _ _ (call (Value.ref 207) _) _ _ _); k_dflt (refine halt_call ?_)))) | (with_reducible (((with_reducible show wpAny _ _ (call (Value.builtin "list.append") [Value.ref _, _]) _ _ _); k_dflt (refine append_K (by k_asm) (by k_asm) (by k_upd) ?_ (by first | assumption | size_fits); k_whole); intro h' F' N'; (try k_sweep)))) | (with_reducible (((with_reducible show wpAny _ _ (call (Value.ref 111) _) _ _ _); k_dflt (refine MeetP.go (S_ISDIR_ok (by lia) (by lia)) (ret := ?_)); intro h' tk' F' N'; (try k_sweep)))) | (with_reducible (((with_reducible show TPost _ _ _ _ _ _ _ _ _); dsimp only [TPost]))) | (k_end; kc_close) | walk1 | (dsimp only [argC9]; walk1) | (k_unfold; (try dsimp only)) | (dsimp only [then9]) | (leave1; (try dsimp only))))
        · rename News g' L' _ _ => N9
          rename (_ : Int) / 4096 = 4 => hd4
          rename tkb = true => htb
          subst htb
          rw [hd4] at ht
          obtain ⟨nb, rfl⟩ := readThing_num ht
          obtain ⟨tb, rfl⟩ := hth
          unfold Halt
          refine Meet.use (ih _ _ _ _ _ _ _ _ _ _ _ _ (by lia) hat2 (UInt8.toNat_lt nb) ?h3 ?h4 ?h5 ?h6) (by k_asm) (by k_asm) (by k_asm) N9 (by k_asm) (by first | rfl | assumption) (by ktr_room) (by ktr_units) ?ret ?err
          case h3 => simp only [PySem.Str.length_append, strl_arr, strl_slash, List.length_map]; exact hX
          case h4 => lia
          case h5 => exact fun q hq => hO1 q (cons_w q hq)
          case h6 =>
            intro q hq
            rcases List.mem_cons.mp hq with rfl | hq
            · exact hIs
            · exact hsee1 q hq
          case ret =>
            rintro v1 led1 h1 tk1 ⟨rfl, its2, r2, i2, tp2, n2, vs2, tups2, sz2, hR2, hat3, hseen3, rfl⟩ F3 N3
            have hRl := hR2.len
            simp only [Option.elim] at hRl
            (repeat' (first | (with_reducible (((with_reducible show TPost _ _ _ _ _ _ _ _ _); dsimp only [TPost]))) | (k_end; kc_close) | walk1 | (dsimp only [argC9]; walk1) | (k_unfold; (try dsimp only)) | (dsimp only [then9]) | (leave1; (try dsimp only))))
            refine fin (its2 := its2) (vs2 := vs2) (tups2 := tups2) (sz2 := sz2) rfl rfl rfl rfl rfl (by with_reducible assumption) N3 (led_in _ (wled_in mem_mid)) rfl (led_mono (fun q hq => hq) (wled_mono app_skip)) hat3 hseen3 (by lia) ?_
            · intro its3 oo h3
              exact Reads.dir' (ow := []) hnj hnode (mode4 hd4) (h' := true) (by rw [hid, htk]; rfl) rfl hR2 h3
          case err =>
            rintro e1 led1 h1 tk1 g₂ ⟨its2, i2, tp2, n2, vs2, tups2, sz2, hR2, hseen3, rfl⟩ R3 F3 U3
            k_steps
            refine ferr (its2 := its2) (vs2 := vs2) (tups2 := tups2) (sz2 := sz2) (by assumption) (by with_reducible assumption) (by with_reducible assumption) rfl (led_mono (fun q hq => hq) (wled_mono app_skip)) hseen3 (Reads.dirBad' (ow := []) (h := hidden) hnj hnode (mode4 hd4) (h' := true) (by rw [hid, htk]; rfl) rfl hR2)
        · rename News g' L' _ _ => N9
          rename Fr g' L' _ _ => F9
          rename tkb = true => htb
          subst htb
          refine fin (its2 := []) (vs2 := []) (tups2 := []) (vv2 := vv) (sz2 := sz1) rfl rfl rfl rfl rfl F9 N9 (led_in _ (wled_in (.head _))) (by simp) (led_mono (fun q hq => hq) (wled_mono fun q hq => .tail _ hq)) hat2 .nil (by simp; lia) ?_
          · intro its3 oo h3
            refine Reads.leaf' hnj hnode (mode4n (by assumption)) (h' := true) (by rw [hid, htk]; rfl) rfl h3
        · rename News g' L' _ _ => N9
          rename (_ : Int) / 4096 = 4 => hd4
          rename tkb = false => htb
          subst htb
          obtain ⟨D9, o9, hit9, N10⟩ := vis_turn N9 hth (line_eq _ _ _ _)
          clear N9
          rw [hd4] at ht
          obtain ⟨nb, rfl⟩ := readThing_num ht
          obtain ⟨tb, rfl⟩ := hth
          unfold Halt
          refine Meet.use (ih _ _ _ _ _ _ _ _ _ _ _ _ (by lia) hat2 (UInt8.toNat_lt nb) ?h3 ?h4 ?h5 ?h6) (by k_asm) (by k_asm) (by k_asm) N10 (by k_asm) (by first | rfl | assumption) (by ktr_room) (by ktr_units) ?ret ?err
          case h3 => simp only [PySem.Str.length_append, strl_arr, strl_slash, List.length_map]; exact hX
          case h4 => simp only [Array.size_append, List.size_toArray, List.length_cons, List.length_nil]; lia
          case h5 =>
            intro q hq
            rcases List.mem_cons.mp hq with rfl | hq
            · exact hIo
            rcases List.mem_cons.mp hq with rfl | hq
            · exact news_ne N10 (led_in (D9, o9) (by simp only [wled, List.mem_cons, true_or, or_true])) led_l (by obtain ⟨_, _, _, rfl⟩ := hit9; exact fun e => nomatch (Value.type.inj e))
            · exact hO1 q (by simp only [hq, List.mem_cons, or_true])
          case h6 =>
            intro q hq
            rcases List.mem_cons.mp hq with rfl | hq
            · exact hIs
            rcases List.mem_cons.mp hq with rfl | hq
            · exact news_ne N10 (led_in (D9, o9) (by simp only [wled, List.mem_cons, true_or, or_true])) (led_in (seen, listOf (vv ++ [Value.ref D9].toArray) (sz1 + 1)) (by simp only [wled, List.mem_cons, true_or])) (by obtain ⟨_, _, _, rfl⟩ := hit9; exact fun e => nomatch (Value.type.inj e))
            · exact hsee1 q hq
          case ret =>
            rintro v1 led1 h1 tk1 ⟨rfl, its2, r2, i2, tp2, n2, vs2, tups2, sz2, hR2, hat3, hseen3, rfl⟩ F3 N3
            have hRl := hR2.len
            simp only [Option.elim] at hRl
            (repeat' (first | (with_reducible (((with_reducible show TPost _ _ _ _ _ _ _ _ _); dsimp only [TPost]))) | (k_end; kc_close) | walk1 | (dsimp only [argC9]; walk1) | (k_unfold; (try dsimp only)) | (dsimp only [then9]) | (leave1; (try dsimp only))))
            refine fin (its2 := [_] ++ its2) (vs2 := [Value.ref D9] ++ vs2) (tups2 := tups2 ++ [(D9, o9)]) (sz2 := sz2) (vv2 := vv ++ [Value.ref D9].toArray ++ vs2.toArray) rfl rfl rfl rfl rfl (by with_reducible assumption) N3 (led_in _ (wled_in mem_mid)) (by simp) (led_mono (fun q hq => hq) (wled_mono app_two)) hat3 (Seen.append (.snoc .nil hit9) hseen3) (by simp only [List.length_append, List.length_cons, List.length_nil]; lia) ?_
            · intro its3 oo h3
              exact Reads.dir' (ow := [(_, _)]) hnj hnode (mode4 hd4) (h' := false) (by rw [hid, htk]; rfl) rfl hR2 h3
          case err =>
            rintro e1 led1 h1 tk1 g₂ ⟨its2, i2, tp2, n2, vs2, tups2, sz2, hR2, hseen3, rfl⟩ R3 F3 U3
            k_steps
            refine ferr (its2 := [_] ++ its2) (vs2 := [Value.ref D9] ++ vs2) (tups2 := tups2 ++ [(D9, o9)]) (sz2 := sz2) (vv2 := vv ++ [Value.ref D9].toArray ++ vs2.toArray) (by assumption) (by with_reducible assumption) (by with_reducible assumption) (by simp) (led_mono (fun q hq => hq) (wled_mono app_two)) (Seen.append (.snoc .nil hit9) hseen3) (Reads.dirBad' (ow := [(_, _)]) (h := hidden) hnj hnode (mode4 hd4) (h' := false) (by rw [hid, htk]; rfl) rfl hR2)
        · rename News g' L' _ _ => N9
          rename Fr g' L' _ _ => F9
          rename tkb = false => htb
          subst htb
          obtain ⟨D9, o9, hit9, N10⟩ := vis_turn N9 hth (line_eq _ _ _ _)
          refine fin (sz2 := sz1 + 1) rfl rfl rfl rfl rfl F9 N10 (led_in _ (wled_in (.head _))) rfl (led_mono (fun q hq => hq) (wled_mono fun q hq => .tail _ hq)) hat2 (.snoc .nil hit9) (by simp; lia) ?_
          · intro its3 oo h3
            refine Reads.leaf' (ow := [(_, _)]) hnj hnode (mode4n (by assumption)) (h' := false) (by rw [hid, htk]; rfl) rfl h3
    case done =>
      rintro m₁ news₁ h tk1 ⟨e1, e2, e3, e4, e5, r1, i1, tp1, n1, its, vs1, tups, sz1, rfl, hat1, hseen, hlen, hoff1, hsee1, cont⟩ Fi Ni
      rw [names5 e1 e2 e3 e4 e5] at Fi
      clear e1 e2 e3 e4 e5 F1 N1 R1
      have hR := cont [] (some r1) (by rw [Nat.sub_self]; exact .done)
      rw [List.append_nil] at hR
      k_steps
      exact hret _ _ _ _ ⟨rfl, its, r1, i1, tp1, n1, vs1, tups, sz1, hR, hat1, hseen, rfl⟩ (by with_reducible assumption) (by with_reducible assumption)

namespace Bnd
open Builtin
theorem look_append : typeLookup (.type "list") "append" = pure (some (.builtin "list.append")) := by rw [typeLookup_type, builtinLookup_eq_fast]; kernel_rfl
theorem look_md_get : typeLookup (.type "method_descriptor") "__get__" = pure (some (.builtin "method_descriptor.__get__")) := by rw [typeLookup_type, builtinLookup_eq_fast]; kernel_rfl
theorem look_md_set : typeLookup (.type "method_descriptor") "__set__" = pure none := by rw [typeLookup_type, builtinLookup_eq_fast]; kernel_rfl
theorem look_md_del : typeLookup (.type "method_descriptor") "__delete__" = pure none := by rw [typeLookup_type, builtinLookup_eq_fast]; kernel_rfl
theorem entry_mdget : entryFor table "method_descriptor.__get__" = some Builtin.«method_descriptor.__get__» := entryFor_of_tree (by kernel_rfl)
theorem kind_la : builtinKind "list.append" = some Manifest.AttrKind.method := by decide +kernel
theorem slot_get : Slot "method_descriptor" "__get__" "method_descriptor.__get__" :=
  .of (owner := "method_descriptor") (n := "__get__") (by rw [typeLookup_type, builtinLookup_eq_fast]; kernel_rfl) (by decide +kernel) (by decide +kernel) (by decide +kernel)
    (by first | exact .inl (by decide +kernel) | exact .inr (by decide +kernel)) (by rw [isSubtype_type]; kernel_rfl)
theorem args_get (a b c : Value) : argsOk "method_descriptor.__get__" ⟨[a, b, c], []⟩ := by unfold argsOk; kernel_rfl
theorem type_la : typeOf (.builtin "list.append") = pure (.type "method_descriptor") := by show builtinType _ = _; rw [builtinType_eq_fast]; kernel_rfl
theorem entry_la : entryFor table "list.append" = some Builtin.«list.append» := entryFor_of_tree (by kernel_rfl)
theorem quiet_la {as : Args} : (Code.builtin "list.append" as).quiet = true := Code.quiet_builtin _ (by decide +kernel)
abbrev bmObj (d obj : Value) : Obj := { cls := .type "builtin_function_or_method", data := .fields #[d, obj] }
theorem run_get {M : Model} {A : Around} {E : Value → Shared → Prop} {s : Shared} {a : Addr} {P : Fin → Shared → Prop} (hT : s.TypeIs (.ref a) "list") (h : P (.done (.ret (.ref s.heap.objs.size))) { s with heap := s.heap.push (bmObj (.builtin "list.append") (.ref a)) }) :
    wpAny M A (Builtin.«method_descriptor.__get__» ⟨[.builtin "list.append", .ref a, .type "list"], []⟩) P E s := by
  unfold Builtin.«method_descriptor.__get__»
  refine wpAny_bind (wpAny_of_eq (a := (.builtin "list.append", some (.ref a), some (.type "list"))) (by first | rfl | kernel_rfl) ?_)
  have told : Manifest.toldItsClass.contains "list.append" = false := by decide +kernel
  show wpAny M A (if Manifest.toldItsClass.contains "list.append" = true then _ else _) P E s
  rw [told]
  refine wpAny_bind (wpAny_bind (wpAny_of_eq (a := (Str.ofString "append", .type "list")) (by first | rfl | kernel_rfl) ?_)) 
  have hs : isSubtype (.type "list") (.type "list") = pure true := by rw [isSubtype_type]; kernel_rfl
  repeat (any_goals (first | assumption | wp_step))
theorem meets_ga (a : Addr) (xs : Array Value) (k : Nat) (sl : Array (Option Value)) (u : Tok) :
    Meets (Builtin.«object.__getattribute__» ⟨[.ref a, .str "append" u], []⟩) (fun A R s => s.heap.get? a = some { cls := .type "list", dict := none, data := .seq xs k, slots := sl } ∧
      R (.ok (.ret (.ref s.heap.objs.size))) { s with heap := s.heap.push (bmObj (.builtin "list.append") (.ref a)) }) :=
  Meets.of_wp fun prog w A R s hs => by
    obtain ⟨hp, g, d, tk, os⟩ := s
    obtain ⟨hx, hs⟩ := hs
    have hT : (⟨hp, g, d, tk, os⟩ : Shared).TypeIs (.ref a) "list" := ⟨_, hx, rfl⟩
    have hl := look_append
    have hl1 := look_md_get
    have hl2 := look_md_set
    have hl3 := look_md_del
    unfold Builtin.«object.__getattribute__»
    repeat (any_goals (first | assumption | (rw [kind_la]) | ((with_reducible show wpAny _ _ (call (Value.builtin "method_descriptor.__get__") _ _) _ _ _); refine wpAny_call_entry slot_get type_la entry_mdget (run_get hT ⟨_, rfl, ?_⟩) (args_get _ _ _)) | wp_step))
    exact ⟨_, rfl, hs⟩
theorem getAttr_append {prog : Program} {w : World} {A : Around} {E : Value → Shared → Prop} {s : Shared} {a : Addr} {xs : Array Value} {k : Nat} {sl : Array (Option Value)} {Q : Value → Shared → Prop}
    (hx : s.heap.get? a = some { cls := .type "list", dict := none, data := .seq xs k, slots := sl })
    (h : ∀ tk, Q (.ref s.heap.objs.size) { s with heap := s.heap.push (bmObj (.builtin "list.append") (.ref a)), toks := tk }) :
    wpAny (model prog w) A (getAttr (.ref a) "append" true) Q E s := by
  obtain ⟨hp, g, d, tk, os⟩ := s
  have hT : ∀ tk', (⟨hp, g, d, tk', os⟩ : Shared).TypeIs (.ref a) "list" := fun _ => ⟨_, hx, rfl⟩
  have f3 := F.slot_list_getattribute.lookup
  have f4 := F.slot_list_getattribute.bind (.ref a)
  unfold getAttr getAttrBy
  repeat (any_goals (first | assumption | exact hT _ | ((with_reducible show wpAny _ _ (call (Value.builtin "list.__getattribute__") _ _) _ _ _); refine call_meets F.slot_list_getattribute (hT _) am_entry_list_getattribute (F.args_list_getattribute_2 _ _) (meets_ga a _ _ sl _) ⟨hx, ?_⟩) | wp_step))
  exact wpAny_pure (h _)
theorem sig_la : Manifest.signature? "list.append" = Manifest.signature? "list.append" := rfl
theorem call_of {prog : Program} {w : World} {A : Around} {E : Value → Shared → Prop} {s : Shared} {x l : Addr} {its : Array Value} {n : Nat} {v : Value} {Q : Value → Shared → Prop}
    (ho : s.heap.get? x = some (bmObj (.builtin "list.append") (.ref l))) (hl : s.heap.get? l = some (listOf its n)) (hz : its.size ≤ sizeLine)
    (hQ : ∀ h', Heap.SameBut l s.heap h' → h'.get? l = some (listOf (its.push v) (n + 1)) → Q .none { s with heap := h' }) : wpAny (model prog w) A (call (.ref x) [v]) Q E s := by
  refine wpAny_call (codeAny_of_tree ?_)
  show wpAny _ A.in1 (callAny (.ref x) ⟨[v], []⟩) _ _ s
  simp only [callAny]
  refine wpAny_bind (wpAny_load ho ?_)
  simp only [show (Value.type "builtin_function_or_method" == Value.type "method" || Value.type "builtin_function_or_method" == Value.type "builtin_function_or_method" || Value.type "builtin_function_or_method" == Value.type "method-wrapper") = true by decide, if_true]
  refine KFB.if_so (by decide) ?_
  have hT : s.TypeIs (.ref l) "list" := ⟨_, hl, rfl⟩
  refine wpAny_bind ?_
  unfold checkBoundCall
  rw [kind_la]
  repeat (any_goals (first | assumption | exact hT | wp_step))
  have hs : isSubtype (.type "list") (.type "module") = pure false := by rw [isSubtype_type]; kernel_rfl
  refine wpAny_of_eq (a := false) hs ?_
  refine KFB.if_not (by decide +kernel) ?_
  repeat (any_goals (first | assumption | exact hT | ((with_reducible show wpAny _ _ (Bind.checkArgs _ _ _) _ _ _); refine wpAny_of_eq (a := ()) (by first | kernel_rfl | rfl) ?_) | wp_step))
  refine ⟨quiet_la, codeAny_builtin entry_la ?_⟩
  show wpAny _ _ (updateSeq l (·.push v) >>= fun _ => ret .none) _ _ s
  refine wpAny_bind ?_
  refine wpAny_updateSeq hl rfl (wpAny_pure (hQ _ (Heap.SameBut.update ..) ?_))
  rw [Heap.get?_update_self _ hl (by rw [mapSeq_push]; rfl), mapSeq_push]
section
variable {prog : Program} {w : World} {M : Model} {A : Around} {E : Value → Shared → Prop} {s : Shared} {h₀ : Heap} {L : Addr} {m : PySem.Str → Option Value} {news news' : List (Addr × Obj)}
theorem getAttr_K {l : Addr} {its : Array Value} {n : Nat} {Q : Value → Shared → Prop} (F : Fr h₀ L s.heap m) (N : News h₀ L s.heap news) (hm : (l, listOf its n) ∈ news)
    (h : ∀ x h' tk, Fr h₀ L h' m → News h₀ L h' ((x, bmObj (.builtin "list.append") (.ref l)) :: news) → (∀ p ∈ news, p.1 < x) → Q (.ref x) { s with heap := h', toks := tk }) :
    wpAny (model prog w) A (getAttr (.ref l) "append" true) Q E s :=
  getAttr_append (N.get hm) fun tk => h _ _ tk (F.push _) (News.push F N _) fun p hp => Heap.lt_size (N p hp).1
theorem call_K {x D : Addr} {its : Array Value} {n : Nat} {v : Value} {Q : Value → Shared → Prop} (F : Fr h₀ L s.heap m) (N : News h₀ L s.heap news) (hx : (x, bmObj (.builtin "list.append") (.ref D)) ∈ news) (U : Upd D (listOf its n) (listOf (its.push v) (n + 1)) news news')
    (h : ∀ h', Fr h₀ L h' m → News h₀ L h' news' → Q .none { s with heap := h' }) (hsz : its.size ≤ sizeLine := by size_fits) : wpAny (model prog w) A (call (.ref x) [v]) Q E s := by
  obtain ⟨pre, post, rfl, rfl, a, b⟩ := U.split
  have z := N (D, listOf its n) (List.mem_append.mpr (.inr (.head _)))
  exact call_of (N.get hx) z.1 hsz fun h' hs ho' => h h' (F.change hs z.2.1 z.2.2) (news_set N a b hs ho')
def StandsAt (x l : Addr) (h : Heap) : Prop := h.get? x = some (bmObj (.builtin "list.append") (.ref l))
theorem at_of {x l : Addr} {h : Heap} (N : News h₀ L h news) (hm : (x, bmObj (.builtin "list.append") (.ref l)) ∈ news) : StandsAt x l h := N.get hm
theorem callWith_fields {pos : Pos} {u l : Addr} {first : List Value} {args : List (Bool × Sem Value)} {Q : Value → Shared → Prop} (hplain : args.any (·.1) = false)
    (h : wpAny M A (evalArgs (.ref u) true args []) (fun x s₁ => StandsAt u l s₁.heap ∧ wpAny M A (call (.ref u) (first ++ x.pos) x.kw) Q E s₁) E s) : wpAny M A (callWith pos (.ref u) first args []) Q E s := by
  unfold callWith
  refine wpAny_bind (wpAny_holding (wpAny_mono h (fun x s₁ h₁ => wpAny_bind (wpAny_standAt ?_)) fun _ _ x => x))
  obtain ⟨ho, hcall⟩ := h₁
  simp only [hplain, List.any_nil, Bool.or_false]
  refine wpAny_bind (m := keeperOf (.ref u)) ?_
  unfold keeperOf
  refine wpAny_bind (wpAny_load ho ?_)
  simp only [show (Value.type "builtin_function_or_method" != Value.type "method") = true by decide, show (Value.type "builtin_function_or_method" == Value.type "builtin_function_or_method" || Value.type "builtin_function_or_method" == Value.type "method-wrapper") = true by decide, if_true]
  refine wpAny_pure ?_
  exact wpAny_bind (wpAny_mono hcall (fun r s₂ hr => wpAny_bind (wpAny_holding (wpAny_point (wpAny_pure hr)))) fun _ _ x => x)
theorem callWith_bound {pos : Pos} {u l : Addr} {first : List Value} {env : Env} {e : PySem.Expr} {rest : List PySem.Expr} {Q : Value → Shared → Prop} (_N : News h₀ L s.heap news) (_hm : (u, bmObj (.builtin "list.append") (.ref l)) ∈ news)
    (h : wpAny M A (spliced (backTo pos (starEach (e :: rest) env))) (fun vs s₁ => StandsAt u l s₁.heap ∧ wpAny M A (call (.ref u) (first ++ vs)) Q E s₁) E s)
    (he : starEach (e :: rest) env = (false, eval e env) :: starEach rest env := by rfl) (hplain : (backTo pos (starEach rest env)).any (·.1) = false := by rfl) :
    wpAny M A (callWith pos (.ref u) first (backTo pos (starEach (e :: rest) env)) []) Q E s := by
  rw [he] at h ⊢
  refine callWith_fields (l := l) (by show (false || (backTo pos (starEach rest env)).any (·.1)) = false; rw [hplain]; rfl) ?_
  exact evalArgs_plain h
end
end Bnd

namespace Spc
open Builtin Builtin.Str
/-- the entries of the table of special signs -/
noncomputable def es (P : Params) : Array DictEntry := match (hd.heap_39 P).lookup 80 with | some { cls := _, dict := _, data := .dict es _, slots := _ } => es | _ => #[]
theorem look80 (P : Params) : (hd.heap_39 P).lookup 80 = some { cls := .type "dict", data := .dict (es P) 24 } := by kernel_rfl
theorem keys_ok (P : Params) : (es P).all (fun e => match e.key with | .int k _ => decide (e.hash = hashInt k) | _ => false) = true := by kernel_rfl
theorem miss (P : Params) : findBy Value.isInt (es P) 100 = none ∧ findBy Value.isInt (es P) 97 = none ∧ findBy Value.isInt (es P) 47 = none ∧ findBy Value.isInt (es P) 233 = none := by
  refine ⟨?_, ?_, ?_, ?_⟩ <;> kernel_rfl
theorem blank (P : Params) : ∃ t, findBy Value.isInt (es P) 32 = some (.str (Str.ofString "\\ ") t) := ⟨492, by kernel_rfl⟩
theorem mapOf {prog : Program} {w : World} {h : Heap} {P : Params} (X : (hd.heap_39 P).In h) : h.MapOf (intKind prog w) 80 (findBy Value.isInt (es P)) := by
  refine ⟨_, es P, 24, X _ _ (look80 P), ⟨rfl, rfl, rfl⟩, rfl, fun e he => ?_, fun _ => rfl⟩
  have z := (Array.all_eq_true_iff_forall_mem.mp (keys_ok P)) e he
  cases hk : e.key with
  | int k t =>
    rw [hk] at z
    exact ⟨k, by simp [intKind, Value.isInt], by simpa [intKind] using z⟩
  | _ => rw [hk] at z; exact absurd z (by simp)
section
variable {prog : Program} {w : World} {A : Around} {E : Value → Shared → Prop} {s : Shared} {c : Nat}
theorem keep {f : Int → Option Value} {Q : Mapped → Shared → Prop} (hh : A.handled = none) (hm : s.heap.MapOf (intKind prog w) 80 f) (hv : f (c : Int) = none)
    (h : ∀ h' tk e, Heap.NewExc s.heap h' e "KeyError" → Q .keep { s with heap := h', toks := tk }) : wpAny (model prog w) A (tableLookup (.ref 80) c) Q E s := by
  unfold tableLookup
  repeat (any_goals (first | assumption | ((with_reducible show wpAny _ _ (getItem _ _) _ _ _); refine wpAny_getItem_missing_of (knd := intKind prog w) (k := (c : Int)) ?_ (by decide) hh hm hv ?_) | wp_step))
  · simp [intKind, Value.isInt]
  · intro h' e hx
    have hs : isSubtype (.type "KeyError") (.type "LookupError") = pure true := by rw [isSubtype_type]; kernel_rfl
    obtain ⟨ob, t, h1, h2, h3⟩ := hx.there
    have hT : ∀ g d tk os, (⟨h', g, d, tk, os⟩ : Shared).TypeIs (.ref e) "KeyError" := fun _ _ _ _ => ⟨_, h1, h2⟩
    repeat (any_goals (first | assumption | exact hT _ _ _ _ | wp_step))
    rw [h2]
    refine wpAny_of_eq (a := true) hs ?_
    repeat (any_goals (first | assumption | wp_step))
    exact h _ _ e hx
theorem text {f : Int → Option Value} {x : Str} {t : Tok} {Q : Mapped → Shared → Prop} (hm : s.heap.MapOf (intKind prog w) 80 f) (hv : f (c : Int) = some (.str x t))
    (h : ∀ tk, Q (.text x) { s with toks := tk }) : wpAny (model prog w) A (tableLookup (.ref 80) c) Q E s := by
  unfold tableLookup
  repeat (any_goals (first | assumption | ((with_reducible show wpAny _ _ (getItem _ _) _ _ _); refine wpAny_getItem_of (knd := intKind prog w) (k := (c : Int)) ?_ hm hv ?_) | wp_step))
  · simp [intKind, Value.isInt]
  · exact h _
theorem run_keep {f : Int → Option Value} {t : Tok} {P : Fin → Shared → Prop} (hh : A.handled = none) (hm : s.heap.MapOf (intKind prog w) 80 f) (hv : f (c : Int) = none)
    (h : ∀ h' t' tk, (∀ b o, s.heap.get? b = some o → h'.get? b = some o) → P (.done (.ret (.str ⟨#[c]⟩ t'))) { s with heap := h', toks := tk }) :
    wpAny (model prog w) A (Builtin.«str.translate» ⟨[.str ⟨#[c]⟩ t, .ref 80], []⟩) P E s := by
  unfold Builtin.«str.translate»
  repeat (any_goals (first | assumption | wp_step))
  dsimp only
  have ht : ∀ {M : Mapped → Shared → Prop} {s₁ : Shared}, s₁.heap = s.heap → (∀ h' tk e, Heap.NewExc s.heap h' e "KeyError" → M .keep { s₁ with heap := h', toks := tk }) → wpAny (model prog w) A (tableLookup (.ref 80) c) M E s₁ := by
    intro M s₁ e hM
    exact keep hh (by rw [e]; exact hm) hv (fun h' tk x hx => hM h' tk x (by rw [← e]; exact hx))
  by_cases hc : c < 128
  · have ha : (⟨[c].toArray⟩ : Str).cps.all (fun x => decide (x < 128)) = true := by simp [hc]
    rw [ha]
    refine KFB.if_so rfl ?_
    refine wpAny_bind (ht rfl fun h' tk e hx => ?_)
    repeat (any_goals (first | assumption | wp_step))
    exact h h' _ _ hx.keeps
  · have ha : (⟨[c].toArray⟩ : Str).cps.all (fun x => decide (x < 128)) = false := by simp [hc]
    rw [ha]
    refine KFB.if_not rfl ?_
    refine wpAny_bind (ht rfl fun h' tk e hx => ?_)
    repeat (any_goals (first | assumption | wp_step))
    exact h h' _ _ hx.keeps
theorem run_text {f : Int → Option Value} {x : Str} {t u : Tok} {P : Fin → Shared → Prop} (hm : s.heap.MapOf (intKind prog w) 80 f) (hc : c < 128) (hv : f (c : Int) = some (.str x u)) (hx : (x.length == 1) = false) (hx2 : tooLong (0 + x.length) = false) (hx3 : x.length ≤ sizeLine)
    (h : ∀ t' tk, P (.done (.ret (.str x t'))) { s with toks := tk }) :
    wpAny (model prog w) A (Builtin.«str.translate» ⟨[.str ⟨#[c]⟩ t, .ref 80], []⟩) P E s := by
  unfold Builtin.«str.translate»
  have ht : ∀ {M : Mapped → Shared → Prop} {s₁ : Shared}, s₁.heap = s.heap → (∀ tk, M (.text x) { s₁ with toks := tk }) → wpAny (model prog w) A (tableLookup (.ref 80) c) M E s₁ := by
    intro M s₁ e hM
    exact text (by rw [e]; exact hm) hv (fun tk => hM tk)
  repeat (any_goals (first | assumption | ((with_reducible show wpAny _ _ (tableLookup _ _) _ _ _); refine ht rfl fun tk => ?_) | wp_step))
  simp only [hx, Bool.false_and, Bool.false_eq_true, if_false]
  repeat (any_goals (first | assumption | ((with_reducible show wpAny _ _ (tableLookup _ _) _ _ _); refine ht rfl fun tk => ?_) | wp_step))
  refine KFB.if_not hx2 ?_
  have e : (⟨List.foldl (fun (acc : Array Nat) (p : Str) => acc ++ p.cps) #[] [x].reverse⟩ : Str) = x := by simp
  unfold retStr mkStr
  dsimp only
  rw [e, if_neg (by lia)]
  repeat (any_goals (first | assumption | wp_step))
  exact h _ _
theorem getMethod_tr {x : Str} {t : Tok} {pl : Sem Bool} {Q : Value × List Value → Shared → Prop} (h : Q (.builtin "str.translate", [.str x t]) s) : wpAny (model prog w) A (getMethod (.str x t) "translate" pl) Q E s := by
  with_reducible exact GM.of (.str x t) (typeIs_str _ _ _) PySem.F.slot_str_translate PySem.F.type_str_translate GM.noRef h
section
variable {h₀ : Heap} {L : Addr} {m : PySem.Str → Option Value} {news : List (Addr × Obj)} {P : Params}
theorem call_keep {t : Tok} {Q : Value → Shared → Prop} (FF : Fr h₀ L s.heap m) (N : News h₀ L s.heap news) (X : (hd.heap_39 P).In h₀) (hh : A.handled = none) (hv : findBy Value.isInt (es P) (c : Int) = none)
    (h : ∀ h' t' tk, Fr h₀ L h' m → News h₀ L h' news → Q (.str ⟨#[c]⟩ t') { s with heap := h', toks := tk }) :
    wpAny (model prog w) A (call (.builtin "str.translate") [.str ⟨#[c]⟩ t, .ref 80]) Q E s :=
  wpAny_call_entry PySem.F.slot_str_translate (typeIs_str _ _ _) PySem.F.entry_str_translate (run_keep (A := A.in1) hh (mapOf (X.keeps FF.keep)) hv fun h' t' tk k => ⟨_, rfl, h h' t' tk (FF.keptAll k) fun q hq => ⟨k _ _ (N q hq).1, (N q hq).2⟩⟩) (PySem.F.args_str_translate_2 _ _)
theorem call_text {x : Str} {t u : Tok} {Q : Value → Shared → Prop} (FF : Fr h₀ L s.heap m) (N : News h₀ L s.heap news) (X : (hd.heap_39 P).In h₀) (hc : c < 128) (hv : findBy Value.isInt (es P) (c : Int) = some (.str x u)) (hx : (x.length == 1) = false) (hx2 : tooLong (0 + x.length) = false) (hx3 : x.length ≤ sizeLine)
    (h : ∀ t' tk, Q (.str x t') { s with toks := tk }) :
    wpAny (model prog w) A (call (.builtin "str.translate") [.str ⟨#[c]⟩ t, .ref 80]) Q E s :=
  wpAny_call_entry PySem.F.slot_str_translate (typeIs_str _ _ _) PySem.F.entry_str_translate (run_text (A := A.in1) (mapOf (X.keeps FF.keep)) hc hv hx hx2 hx3 fun t' tk => ⟨_, rfl, h t' tk⟩) (PySem.F.args_str_translate_2 _ _)
end
end
end Spc

theorem resetQ3 : True := by w_top off; trivial
theorem escape_keep {w : World} {c : Nat} {t : Tok} (hv : findBy Value.isInt (Spc.es w.params) (c : Int) = none) : MeetP w 90 [.str ⟨#[c]⟩ t] 5 60 (fun r _ => ∃ t', r = .str ⟨#[c]⟩ t') := by
  have hfill : PySem.Challenge.rw_in0217_01 = PySem.Challenge.rw_in0217_01 ∧ hd.heap_39 = hd.heap_39 := by (k_fill; exact ⟨rfl, rfl⟩)
  clear hfill
  intro p loose mean mg mb dp un gd cn cs a ccd cl outer A₀ base h₀ L m s Q E B F X T hk hdp hu hret
  refine wpAny_call ?_
  k_dflt (refine' code_defP ?k1 ?k2 ?k3 ?k5 ?kA ?kF ?kK ?k6 ?k7 ?k8 ?k9 ?kB ?_ ?c2 ?c3 ?c4 ?c5; (case kA => exact rfl); (case kF => exact rfl); (case kK => assumption); (case k1 => k_asm); (case k2 => k_asm); (case k3 => k_asm); (case k5 => k_asm); (case k6 => k_is); (case k7 => k_is); (case k8 => ktr_room); (case k9 => exact BindsTo.of_eq rfl); (case c5 => decide); (case kB => exact locs rfl); (case c2 => exact rfl); (case c3 => exact rfl); (case c4 => exact rfl); k_whole; intro g' L' h' KB FG' F' N' B' X' T'; (try dsimp only); (try k_lift B'); (try (refine wp_letQ ?_; intro Q9 X9)); (try (refine wp_letA ?_; intro A9)); (try (refine wp_letE ?_; intro E9)))
  (repeat' (first | (with_reducible (((with_reducible show wpAny _ _ (call (Value.builtin "str.translate") _) _ _ _); (k_dflt (refine Spc.call_keep (by k_asm) (by k_asm) (by k_asm) (by rfl) (by assumption) ?_); intro h' t' tk' F' N'; (try k_sweep))))) | (with_reducible (((with_reducible show wpAny _ _ (getMethod (Value.str _ _) _ _) _ _ _); (with_reducible refine Spc.getMethod_tr ?_)))) | (k_end; kc_close) | walk1 | (dsimp only [argC9]; walk1) | (k_unfold; (try dsimp only)) | (dsimp only [then9]) | (leave1; (try dsimp only))))
  exact hret _ _ _ _ ⟨_, rfl⟩ (by with_reducible assumption) News.nil (fun b o e => Fr.keep (by assumption) b o (KB b o e))
theorem escape_blank {w : World} {t : Tok} : MeetP w 90 [.str ⟨#[32]⟩ t] 5 60 (fun r _ => ∃ t', r = .str (Str.ofString "\\ ") t') := by
  obtain ⟨u, hv₀⟩ := Spc.blank w.params
  have hv : findBy Value.isInt (Spc.es w.params) ((32 : Nat) : Int) = some (.str (Str.ofString "\\ ") u) := hv₀
  clear hv₀
  have hfill : PySem.Challenge.rw_in0217_01 = PySem.Challenge.rw_in0217_01 ∧ hd.heap_39 = hd.heap_39 := by (k_fill; exact ⟨rfl, rfl⟩)
  clear hfill
  intro p loose mean mg mb dp un gd cn cs a ccd cl outer A₀ base h₀ L m s Q E B F X T hk hdp hu hret
  refine wpAny_call ?_
  k_dflt (refine' code_defP ?k1 ?k2 ?k3 ?k5 ?kA ?kF ?kK ?k6 ?k7 ?k8 ?k9 ?kB ?_ ?c2 ?c3 ?c4 ?c5; (case kA => exact rfl); (case kF => exact rfl); (case kK => assumption); (case k1 => k_asm); (case k2 => k_asm); (case k3 => k_asm); (case k5 => k_asm); (case k6 => k_is); (case k7 => k_is); (case k8 => ktr_room); (case k9 => exact BindsTo.of_eq rfl); (case c5 => decide); (case kB => exact locs rfl); (case c2 => exact rfl); (case c3 => exact rfl); (case c4 => exact rfl); k_whole; intro g' L' h' KB FG' F' N' B' X' T'; (try dsimp only); (try k_lift B'); (try (refine wp_letQ ?_; intro Q9 X9)); (try (refine wp_letA ?_; intro A9)); (try (refine wp_letE ?_; intro E9)))
  (repeat' (first | (with_reducible (((with_reducible show wpAny _ _ (call (Value.builtin "str.translate") _) _ _ _); (k_dflt (refine' Spc.call_text ?F ?N ?X ?hc ?hv ?hx ?hx2 ?hx3 ?_; (case F => k_asm); (case N => k_asm); (case X => k_asm); (case hv => assumption); (case hc => decide); (case hx => first | decide | decide +kernel); (case hx2 => first | decide | decide +kernel); (case hx3 => first | decide | decide +kernel)); intro t' tk'; (try k_sweep))))) | (with_reducible (((with_reducible show wpAny _ _ (getMethod (Value.str _ _) _ _) _ _ _); (with_reducible refine Spc.getMethod_tr ?_)))) | (k_end; kc_close) | walk1 | (dsimp only [argC9]; walk1) | (k_unfold; (try dsimp only)) | (dsimp only [then9]) | (leave1; (try dsimp only))))
  exact hret _ _ _ _ ⟨_, rfl⟩ (by with_reducible assumption) News.nil (fun b o e => Fr.keep (by assumption) b o (KB b o e))

/-- the kinds of signs of a written pattern -/
inductive Kd
  | keep (c : Nat)
  | blank
  | quest
  | star
  | brk (o : Str)
def Kd.sign : Kd → Nat
  | .keep c => c
  | .blank => 32
  | .quest => 63
  | .star => 42
  | .brk _ => 91
/-- what a kind gives -/
def Kd.Out (st : Addr) : Kd → Value → Prop
  | .keep c, v => ∃ t, v = .str ⟨#[c]⟩ t
  | .blank, v => ∃ t, v = .str (Str.ofString "\\ ") t
  | .quest, v => ∃ t, v = .str (Str.ofString ".") t
  | .star, v => v = .ref st
  | .brk o, v => ∃ t, v = .str o t
def OutsL (st : Addr) : List Kd → List Value → Prop
  | [], [] => True
  | k :: ks, v :: vs => k.Out st v ∧ OutsL st ks vs
  | _, _ => False
def Outs (st : Addr) (ks : List Kd) (vs : Array Value) : Prop := OutsL st ks vs.toList
theorem OutsL.snoc {st : Addr} {k : Kd} {v : Value} (ho : k.Out st v) : ∀ {ks : List Kd} {vs : List Value}, OutsL st ks vs → OutsL st (ks ++ [k]) (vs ++ [v])
  | [], [], _ => ⟨ho, trivial⟩
  | _ :: _, _ :: _, h => ⟨h.1, OutsL.snoc ho h.2⟩
  | [], _ :: _, h => h.elim
  | _ :: _, [], h => h.elim
theorem OutsL.length {st : Addr} : ∀ {ks : List Kd} {vs : List Value}, OutsL st ks vs → vs.length = ks.length
  | [], [], _ => rfl
  | _ :: _, _ :: _, h => congrArg (· + 1) (OutsL.length h.2)
  | [], _ :: _, h => h.elim
  | _ :: _, [], h => h.elim
theorem Outs.snoc {st : Addr} {ks : List Kd} {vs : Array Value} {i : Nat} {k : Kd} {v : Value} (h : Outs st (ks.take i) vs) (hk : ks[i]? = some k) (ho : k.Out st v) : Outs st (ks.take (i + 1)) (vs.push v) := by
  unfold Outs at *
  rw [List.take_add_one, hk, Array.toList_push]
  exact h.snoc ho
theorem Outs.size {st : Addr} {ks : List Kd} {vs : Array Value} (h : Outs st ks vs) : vs.size = ks.length := by
  have := OutsL.length h
  simpa using this
theorem OutsL.cut {st : Addr} {k : Kd} : ∀ {ks : List Kd} {vs : List Value}, OutsL st (ks ++ [k]) vs → ∃ vs0 v, vs = vs0 ++ [v] ∧ k.Out st v
  | [], [v], h => ⟨[], v, rfl, h.1⟩
  | [], [], h => h.elim
  | [], _ :: _ :: _, h => h.2.elim
  | _ :: _, v :: vs, h => by
    obtain ⟨vs0, u, rfl, hu⟩ := OutsL.cut h.2
    exact ⟨v :: vs0, u, rfl, hu⟩
  | _ :: _, [], h => h.elim
theorem Outs.last {st : Addr} {ks : List Kd} {vs : Array Value} {i : Nat} {k : Kd} (h : Outs st (ks.take (i + 1)) vs) (hk : ks[i]? = some k) : ∃ vs0 v, vs = Array.push vs0 v ∧ k.Out st v := by
  unfold Outs at h
  rw [List.take_add_one, hk] at h
  obtain ⟨vs0, v, e, hv⟩ := OutsL.cut h
  refine ⟨vs0.toArray, v, ?_, hv⟩
  apply Array.ext'
  rw [e]; simp
def pl (o i : Nat) : Nat := if i = 0 then 0 else i + o
structure TJ (st R x : Addr) (p : Str) (t t' : Tok) (o : Nat) (ks : List Kd) (j : Nat) (m : Str → Option Value) (news : List (Addr × Obj)) : Prop where
  pat : m (Str.ofString "pat") = some (.str p t)
  star : m (Str.ofString "STAR") = some (.ref st)
  quest : m (Str.ofString "QUESTION_MARK") = some (.str (Str.ofString ".") t')
  res : m (Str.ofString "res") = some (.ref R)
  add : m (Str.ofString "add") = some (.ref x)
  i : ∃ ti, m (Str.ofString "i") = some (.int (pl o j : Nat) ti)
  n : ∃ tn, m (Str.ofString "n") = some (.int (p.length : Nat) tn)
  news : ∃ vs n ps, news = [(x, Bnd.bmObj (.builtin "list.append") (.ref R)), (R, listOf vs n), (92, tabObj ps)] ∧ TriplesOk ps.toList ∧ Outs st (ks.take j) vs
section
variable {prog : Program} {w : World} {A : Around} {E : Value → Shared → Prop} {s : Shared} {x y : Str} {t u : Tok} {i : Int} {Q : Value → Shared → Prop} {value slice : PySem.Expr}
theorem item_is (he : Txt.item x i = y := by with_reducible assumption) (h0 : 0 ≤ i := by lia) (h1 : i < (x.length : Nat) := by lia) (hn : x.length ≤ 100 := by lia) (h : ∀ t' tk, Q (.str y t') { s with toks := tk })
    (hs : subscripted slice false (.str x t) (.int i u) = operate [.str x t, .int i u] (getItem (.str x t) (.int i u)) := by with_unfolding_all rfl)
    (ht : ∀ r, letTemporaryGo value (.str x t) r = pure () := by intro _; with_unfolding_all rfl) :
    wpAny (model prog w) A (subscriptTail value slice (.str x t) (.int i u)) Q E s := by
  subst he
  exact KXi.item rfl (by lia) h1 (by lia) (fun _ => h _ _) hs ht
end
/-- a call that may change what stands in X alone, and the generators -/
def MeetXG (w : World) (f : Addr) (args : List Value) (D U : Nat) (X : List (Addr × Obj)) (Ok : Value → List (Addr × Obj) → Prop) : Prop :=
  ∀ (p : Program) (loose : List Str) (mean : ExcName → Option Value) (mg mb : Str → Option Value) (dp un : Nat) (gd : Option (List Code)) (cn : Str) (cs : Scope) (a : Addr) (ccd : Value) (cl : List (Str × Addr)) (outer : List Env) (A₀ : Around) (base h₀ : Heap) (L : Addr) (m : Str → Option Value) (s : Shared)
    (Q E : Value → Shared → Prop),
    Below A₀ base outer h₀ → Fr h₀ L s.heap m → (hd.heap_39 w.params).In h₀ → News h₀ L s.heap X → Top p loose mean mg mb h₀ → cs.kind = .function → dp + D < recursionLimit → un + U < cLine →
    (∀ r led' h' tk' gs', Ok r led' → Fr h₀ L h' m → News h₀ L h' led' → (∀ b o, b ∉ X.map (·.1) → s.heap.get? b = some o → h'.get? b = some o) → BareTo s.gens gs' → Q r { s with heap := h', toks := tk', gens := gs' }) →
    wpAny (model PP w) (ktrTop dp un gd cn cs L a ccd cl outer) (call (.ref f) args) Q E s

namespace Rsub
open Builtin Builtin.Re Builtin.Str
noncomputable def fs78 (P : Params) : Array Value := match (hd.heap_39 P).lookup 78 with | some { cls := _, dict := _, data := .fields fs, slots := _ } => fs | _ => #[]
noncomputable def it77 (P : Params) : Array Value := match (hd.heap_39 P).lookup 77 with | some { cls := _, dict := _, data := .seq xs _, slots := _ } => xs | _ => #[]
noncomputable def n77 (P : Params) : Nat := match (hd.heap_39 P).lookup 77 with | some { cls := _, dict := _, data := .seq _ n, slots := _ } => n | _ => 0
theorem look78 (P : Params) : (hd.heap_39 P).lookup 78 = some { cls := .type "re.Pattern", data := .fields (fs78 P) } := by kernel_rfl
theorem look77 (P : Params) : (hd.heap_39 P).lookup 77 = some { cls := .type "tuple", data := .seq (it77 P) (n77 P) } := by kernel_rfl
theorem f5 (P : Params) : (fs78 P).getD 5 .none = .ref 77 := by kernel_rfl
theorem f6 (P : Params) : reRawNat ((fs78 P).getD 6 .none) = 0 := by kernel_rfl
theorem f2 (P : Params) : reRawNat ((fs78 P).getD 2 .none) = 1 := by kernel_rfl
noncomputable abbrev code (P : Params) : Array Nat := ((it77 P).map reRawOf).map (·.toNat)
noncomputable abbrev mach (P : Params) (x : Array Nat) : Sre.M := Sre.forSearch (code P) x 1 0 x.size false
noncomputable def after (k : Nat) (m : Sre.M) : Sre.M := Nat.rec m (fun _ r => r.runFor 4) k
theorem fail_1 (P : Params) : ((mach P #[33, 100]).runFor 4).outcome = some .failed := by kernel_rfl
theorem fail_2 (P : Params) : ((mach P #[92, 45, 108]).runFor 4).outcome = some .failed := by kernel_rfl
section
variable {M : Model} {A : Around} {E : Value → Shared → Prop} {s : Shared}
theorem drive {m : Sre.M} {Q : Sre.M → Shared → Prop} (h : (m.runFor 4).outcome = some .failed) (hq : Q (m.runFor 4) s) : ∀ n, wpAny M A (reDrive (n + 1) m) Q E s := by
  intro n
  show wpAny M A (if (m.runFor 4).outcome.isSome then pure (m.runFor 4) else (do rule "sre.turn"; reDrive n (m.runFor 4))) Q E s
  rw [h]
  exact wpAny_pure hq
theorem tells {l : List Nat} {f : Nat → PUnit → Sem (ForInStep PUnit)} (hf : ∀ i, ∃ (c : Bool) (tag : String), f i PUnit.unit = if c = true then (rule tag >>= fun _ => pure (ForInStep.yield PUnit.unit)) else pure (ForInStep.yield PUnit.unit)) {Q : PUnit → Shared → Prop} (hq : Q ⟨⟩ s) : wpAny M A (forIn l PUnit.unit f) Q E s := by
  induction l with
  | nil => exact wpAny_pure hq
  | cons i l ih =>
    rw [List.forIn_cons]
    refine wpAny_bind ?_
    obtain ⟨c, tag, e⟩ := hf i
    rw [e]
    cases c
    · exact wpAny_pure ih
    · exact wpAny_bind (wpAny_rule (wpAny_pure ih))
theorem toEnd {m : Sre.M} {Q : Option Sre.M → Shared → Prop} (h : (m.runFor 4).outcome = some .failed) (hq : Q none s) : wpAny M A (reRunToEnd m) Q E s := by
  unfold reRunToEnd
  refine wpAny_bind ?_
  refine drive (n := 18446744073709551615) h ?_
  refine wpAny_bind (tells (fun i => ⟨_, _, rfl⟩) ?_)
  rw [h]
  exact wpAny_pure hq
end
theorem entry_sub : entryFor table "re.Pattern.sub" = some Builtin.«re.Pattern.sub» := entryFor_of_tree (by kernel_rfl)
theorem entry_loop : entryFor table "re.Pattern.sub.loop" = some Builtin.«re.Pattern.sub.loop» := entryFor_of_tree (by kernel_rfl)
theorem quiet_loop {as : Args} : (Code.builtin "re.Pattern.sub.loop" as).quiet = true := Code.quiet_builtin _ (by decide +kernel)
theorem slot_sub : Slot "re.Pattern" "sub" "re.Pattern.sub" :=
  .of (owner := "re.Pattern") (n := "sub") (by rw [typeLookup_type, builtinLookup_eq_fast]; kernel_rfl) (by decide +kernel) (by decide +kernel) (by decide +kernel)
    (by first | exact .inl (by decide +kernel) | exact .inr (by decide +kernel)) (by rw [isSubtype_type]; kernel_rfl)
theorem type_sub : typeOf (.builtin "re.Pattern.sub") = pure (.type "method_descriptor") := by show builtinType _ = _; rw [builtinType_eq_fast]; kernel_rfl
theorem args_sub (a b c : Value) : argsOk "re.Pattern.sub" ⟨[a, b, c], []⟩ := by unfold argsOk; kernel_rfl
theorem plain : PlainAttrs "re.Pattern" :=
  ⟨⟨"object.__getattribute__", by rw [typeLookup_type, builtinLookup_eq_fast]; kernel_rfl, by decide +kernel⟩, by rw [typeLookup_type, builtinLookup_eq_fast]; kernel_rfl⟩
theorem look_call : typeLookup (.type "function") "__call__" = pure (some (.builtin "function.__call__")) := by rw [typeLookup_type, builtinLookup_eq_fast]; kernel_rfl
section
variable {prog : Program} {w : World} {A : Around} {E : Value → Shared → Prop} {s : Shared} {P : Params} {x : Str} {t : Tok} {f : Addr}
theorem whole (h78 : s.heap.get? 78 = some { cls := .type "re.Pattern", data := .fields (fs78 P) }) (h77 : s.heap.get? 77 = some { cls := .type "tuple", data := .seq (it77 P) (n77 P) }) {Q : ReTarget → Shared → Prop}
    (hq : Q { pattern := .ref 78, string := .str x t, code := code P, text := x.cps, kind := 0, groups := 1, pos := 0, lim := x.cps.size } s) : wpAny (model prog w) A (reWholeTarget (.ref 78) (.str x t)) Q E s := by
  unfold reWholeTarget
  have e5 := f5 P
  have e6 := f6 P
  have e2 := f2 P
  repeat (any_goals (first | assumption | wp_step))
theorem join1 {l : Addr} {u : Tok} {Q : Value → Shared → Prop} (hl : s.heap.get? l = some { cls := .type "list", data := .seq #[Value.str x u] 1 }) (hz : x.cps.size ≤ 1000) (h : Q (.str x u) s) : wpAny (model prog w) A (call (.builtin "str.join") [.str Str.empty t, .ref l]) Q E s := by
  refine call_meets F.slot_str_join (typeIs_str _ _ _) F.entry_str_join (F.args_str_join_2 _ _) (meets_str_join_list Str.empty t l [(x, u)] ?_) ⟨⟨_, hl, rfl, 1, rfl⟩, h⟩
  show tooLong (0 + x.length + 0) = false
  unfold tooLong
  have : x.length = x.cps.size := rfl
  rw [sizeLine_eq]
  exact decide_eq_false (by lia)
theorem run_loop {l : Addr} (h78 : s.heap.get? 78 = some { cls := .type "re.Pattern", data := .fields (fs78 P) }) (h77 : s.heap.get? 77 = some { cls := .type "tuple", data := .seq (it77 P) (n77 P) }) (hl : s.heap.get? l = some { cls := .type "list", data := .seq #[] })
    (hn : ((mach P x.cps).runFor 4).outcome = some .failed) (hz : x.cps.size ≠ 0) (hz2 : x.cps.size ≤ 1000) {R : Result → Shared → Prop} (h : ∀ h' t' tk, Heap.SameBut l s.heap h' → R (.ok (.ret (.str x t'))) { s with heap := h', toks := tk }) :
    wpAny (model prog w) A (Builtin.«re.Pattern.sub.loop» ⟨[.ref 78, .str x t, .ref f, rawInt 1, rawInt 0, rawInt 0, rawInt 0, rawInt 0, .bool false, .ref l, .bool false], []⟩) (fun fin s' => match fin with | .done f => R (.ok f) s' | .again c' => False) (fun e s' => R (.error e) s') s := by
  unfold Builtin.«re.Pattern.sub.loop»
  repeat (any_goals (first | assumption | ((with_reducible show wpAny _ _ (reWholeTarget _ _) _ _ _); refine whole (P := P) (by assumption) (by assumption) ?_) | ((with_reducible show wpAny _ _ (reNextFound _ _ _) _ _ _); refine toEnd hn ?_) | wp_step))
  dsimp only
  rw [if_pos (show Int.toNat 0 < x.cps.size by show 0 < _; lia)]
  have e1 : reSlice x.cps 0 (Int.toNat 0) x.cps.size = mkStr x := by
    show mkStr ⟨x.cps.extract 0 x.cps.size⟩ = _
    rw [Array.extract_size]
  have e2 : reSlice x.cps 0 0 0 = mkStr Str.empty := by
    show mkStr ⟨x.cps.extract 0 0⟩ = _
    congr 2
    simp
  rw [e1]
  refine wpAny_bind (wpAny_mkStr ?_ (by rw [sizeLine_eq]; show x.cps.size ≤ _; lia))
  refine wpAny_bind (wpAny_updateSeq hl rfl ?_)
  rw [e2]
  refine wpAny_bind (wpAny_mkStr ?_ (by decide))
  have hu : (s.heap.update l (Obj.mapSeq (·.push (Value.str x s.toks)))).get? l = some { cls := .type "list", data := .seq #[Value.str x s.toks] 1 } := by
    rw [Heap.get?_update_self _ hl (by rw [mapSeq_push]; rfl), mapSeq_push]; rfl
  generalize hg : s.heap.update l (Obj.mapSeq (·.push (Value.str x s.toks))) = g at hu
  have hsame : Heap.SameBut l s.heap g := hg ▸ Heap.SameBut.update ..
  repeat (any_goals (first | assumption | ((with_reducible show wpAny _ _ (call _ _) _ _ _); refine join1 hu hz2 ?_) | wp_step))
  exact h _ _ _ hsame
theorem run_sub (h78 : s.heap.get? 78 = some { cls := .type "re.Pattern", data := .fields (fs78 P) }) (h77 : s.heap.get? 77 = some { cls := .type "tuple", data := .seq (it77 P) (n77 P) }) (hf : s.TypeIs (.ref f) "function")
    (hn : ((mach P x.cps).runFor 4).outcome = some .failed) (hz : x.cps.size ≠ 0) (hz2 : x.cps.size ≤ 1000) {R : Result → Shared → Prop} (h : ∀ h' t' tk, (∀ b o, s.heap.get? b = some o → h'.get? b = some o) → R (.ok (.ret (.str x t'))) { s with heap := h', toks := tk }) :
    wpAny (model prog w) A.in1 (Builtin.«re.Pattern.sub» ⟨[.ref 78, .ref f, .str x t], []⟩) (fun fin s' => match fin with | .done f => R (.ok f) s' | .again c' => c'.quiet = true ∧ codeAny (model prog w) A c' R s') (fun e s' => R (.error e) s') s := by
  have hl := look_call
  have hs1 : isSubtype (.type "str") (.type "bytearray") = pure false := by rw [isSubtype_type]; kernel_rfl
  unfold Builtin.«re.Pattern.sub» reSubstitute
  repeat (any_goals (first | assumption | ((with_reducible show wpAny _ _ (reNamed _ _ _ _ _ _) _ _ _); refine wpAny_of_eq (a := [some (.ref f), some (.str x t), none]) (by first | rfl | kernel_rfl) ?_) | ((with_reducible show wpAny _ _ (reWholeTarget _ _) _ _ _); refine whole (P := P) (by assumption) (by assumption) ?_) | ((with_reducible show wpAny _ _ (isSubtype _ _) _ _ _); refine wpAny_of_eq hs1 ?_) | wp_step))
  refine ⟨quiet_loop, codeAny_builtin entry_loop ?_⟩
  refine wpAny_mono (run_loop (R := R) (P := P) (Heap.get?_push_of_some _ h78) (Heap.get?_push_of_some _ h77) (Heap.get?_push_size _ rfl) hn hz hz2 ?_) ?_ fun _ _ z => z
  · intro h' t' tk hs
    exact h _ _ _ fun b o e => hs.2 b (Nat.ne_of_lt (Heap.lt_size e)) ▸ Heap.get?_push_of_some _ e
  · intro fin s' hf
    cases fin with
    | done f => exact hf
    | again c => exact hf.elim
section
variable {h₀ : Heap} {L : Addr} {m : PySem.Str → Option Value} {news : List (Addr × Obj)}
theorem call_sub {o : Obj} {Q : Value → Shared → Prop} (FF : Fr h₀ L s.heap m) (N : News h₀ L s.heap news) (X : (hd.heap_39 P).In h₀) (hm : (f, o) ∈ news) (hc : o.cls = .type "function")
    (hn : ((mach P x.cps).runFor 4).outcome = some .failed) (hz : x.cps.size ≠ 0) (hz2 : x.cps.size ≤ 1000) (h : ∀ h' t' tk, Fr h₀ L h' m → News h₀ L h' news → Q (.str x t') { s with heap := h', toks := tk }) :
    wpAny (model prog w) A (call (.builtin "re.Pattern.sub") [.ref 78, .ref f, .str x t]) Q E s := by
  have X' := X.keeps FF.keep
  have hT : s.TypeIs (.ref 78) "re.Pattern" := ⟨_, X' _ _ (look78 P), rfl⟩
  refine wpAny_call (codeAny_call_builtin slot_sub.plain entry_sub (slot_sub.check _ _ _ _ _ _ _ _ hT (args_sub _ _ _) ?_))
  refine run_sub (R := fun r s' => match r with | .ok (.ret v) => Q v s' | .ok _ => False | .error e => E e s') (X' _ _ (look78 P)) (X' _ _ (look77 P)) ⟨_, (N _ hm).1, hc⟩ hn hz hz2 fun h' t' tk k => ?_
  exact h _ _ _ (FF.keptAll k) fun q hq => ⟨k _ _ (N q hq).1, (N q hq).2⟩
theorem getMethod_sub {Q : Value × List Value → Shared → Prop} {pl : Sem Bool} (FF : Fr h₀ L s.heap m) (X : (hd.heap_39 P).In h₀) (h : Q (.builtin "re.Pattern.sub", [.ref 78]) s) : wpAny (model prog w) A (getMethod (.ref 78) "sub" pl) Q E s := by
  have X' := X.keeps FF.keep
  have hT : s.TypeIs (.ref 78) "re.Pattern" := ⟨_, X' _ _ (look78 P), rfl⟩
  exact getMethod_builtin hT plain slot_sub type_sub (fun a e => by cases e; exact ⟨_, X' _ _ (look78 P), rfl⟩) h
end
end
end Rsub

namespace Txo
open Builtin Builtin.Str
section
variable {prog : Program} {w : World} {A : Around} {E : Value → Shared → Prop} {s : Shared} {x y z r : Str} {t u v a b : Tok} {i j : Int} {Q : Value → Shared → Prop}
theorem gives_find (x y : Str) (i j : Int) (t u a b : Tok) (h : occurrences x y (fromIndex x.length i) (min (fromIndex x.length j) x.length) 1 = []) : Gives (Builtin.«str.find» ⟨[.str x t, .str y u, .int i a, .int j b], []⟩) (.int (-1)) := by
  show Gives (match occurrences x y (fromIndex x.length i) (min (fromIndex x.length j) x.length) 1 with | k :: _ => retInt k | [] => (do rule "str.find.not-found"; retInt (-1))) _
  rw [h]
  exact .rule (.of_eq rfl)
theorem find_none (h : occurrences x y (fromIndex x.length i) (min (fromIndex x.length j) x.length) 1 = []) (hq : Q (.int (-1) s.toks) { s with toks := s.toks + 1 }) :
    wpAny (model prog w) A (call (.builtin "str.find") [.str x t, .str y u, .int i a, .int j b]) Q E s :=
  call_gives F.slot_str_find (typeIs_str _ _ _) F.entry_str_find (F.args_str_find_4 _ _ _ _) (gives_find x y i j t u a b h) hq
theorem replace_none (h : (occurrences x y 0 x.length (x.length + 1)).isEmpty = true) (hq : Q (.str x t) s) : wpAny (model prog w) A (call (.builtin "str.replace") [.str x t, .str y u, .str z v]) Q E s := by
  have hc : ((occurrences x y 0 x.length (x.length + 1)).isEmpty || (y.length == 0 && z.length == 0)) = true := by rw [h]; rfl
  have g := gives_str_replace x y z t u v (fun e => by rw [hc] at e; cases e)
  rw [hc] at g
  exact call_gives F.slot_str_replace (typeIs_str _ _ _) F.entry_str_replace (F.args_str_replace_3 _ _ _) g hq
theorem replace_some (hc : ((occurrences x y 0 x.length (x.length + 1)).isEmpty || (y.length == 0 && z.length == 0)) = false) (hu : u ≠ 0) (hv : v ≠ 0) (huv : u ≠ v) (hyz : (y == z) = false)
    (hl : tooLong (x.length + (occurrences x y 0 x.length (x.length + 1)).length * z.length) = false) (hr : glued z (partsBetween x (occurrences x y 0 x.length (x.length + 1)) y.length) = r) (hz : r.length ≤ sizeLine) (hq : Q (.str r s.toks) { s with toks := s.toks + 1 }) :
    wpAny (model prog w) A (call (.builtin "str.replace") [.str x t, .str y u, .str z v]) Q E s := by
  have g := gives_str_replace x y z t u v (fun _ => ⟨by simp [hu, hv], by simp [huv], hyz, hl⟩)
  rw [hc, hr] at g
  exact call_gives F.slot_str_replace (typeIs_str _ _ _) F.entry_str_replace (F.args_str_replace_3 _ _ _) g ⟨hz, hq⟩
end
end Txo

namespace Gnx
section
variable {M : Model} {A : Around} {E : Value → Shared → Prop} {s : Shared}
theorem genCode {env : Env} {c P : Addr} {ps : Array Value} {pos : Pos} {qualname : Str} {scope : Scope} {Q : Value → Shared → Prop} (hc : env.code = .ref c) (C : CodeHd s.heap c P) (hP : s.heap.get? P = some (tabObj ps)) (ht : TriplesOk ps.toList)
    (hQ : ∀ code h' tk ps', Heap.ExtBut P s.heap h' → s.heap.objs.size ≤ h'.objs.size → h'.get? P = some (tabObj ps') → TriplesOk ps'.toList → Q code { s with heap := h', toks := tk }) :
    wpAny M A (genexprCode env pos qualname scope) Q E s := by
  cases hnf : codeAmong pos ps.toList with
  | none =>
    refine wpAny_genexprCodeX hc (C.code hP ht) (C.tab hP) hnf fun c' h' tk hx hge hlt hcode' hx2 htab' hx3 => ?_
    refine hQ _ h' tk _ hx (Nat.le_trans hge (Nat.le_of_lt hlt)) htab'.2 ?_
    rw [Array.toList_append]
    exact TriplesOk_snoc _ _ _ _ ht
  | some cv =>
    obtain ⟨o, vs, file, tf, flags, tg, inF, text, tt, op, ho, hd, h11, h2, h7, h9, h10, hop, hpd, htr, hne⟩ := C.code hP ht
    unfold genexprCode codeAt
    rw [hc, if_neg (show ¬ ((Value.ref c == Value.none) = true) from Bool.false_ne_true)]
    refine wpAny_bind (wpAny_fieldsOf ho hd ?_)
    rw [h11]
    refine wpAny_bind (wpAny_fieldsOf hop hpd ?_)
    rw [hnf]
    exact wpAny_pure (hQ cv s.heap s.toks ps (Heap.ExtBut.refl _ _) (Nat.le_refl _) hP ht)
end
section
variable {prog : Program} {w : World} {A : Around} {E : Value → Shared → Prop} {s : Shared} {h₀ : Heap} {L a c P : Addr} {m mg mb : Str → Option Value} {cn : Str} {cs : Scope} {ccd : Value} {cl : List (Str × Addr)} {news : List (Addr × Obj)} {g : Obj → List (Addr × Obj)}
  {p : Program} {loose : List Str} {mean : ExcName → Option Value} {ps : Array Value} {pos : Pos}
/-- the generator at a gives r alone, and join of it leaves the ledger as it is -/
def Ready (prog : Program) (w : World) (A : Around) (h₀ : Heap) (L : Addr) (m : Str → Option Value) (news : List (Addr × Obj)) (a : Addr) (r : Str) (s : Shared) : Prop :=
  ∀ (x : Str) (t : Tok) (Q E : Value → Shared → Prop), x.length ≤ 1000 → (∀ h' t' k gs, Mine.BareTo s.gens gs → Fr h₀ L h' m → News h₀ L h' news → Q (.str r t') { s with heap := h', toks := k, gens := gs }) →
    wpAny (model prog w) A (call (.builtin "str.join") [.str x t, .ref a]) Q E s
theorem join_is {x r : Str} : Txt.join x [r] = r := by
  show (⟨_⟩ : Str) = r
  cases r
  simp [Builtin.Str.glued]
theorem gen_K {elt iter : PySem.Expr} {x : Str} {px : Pos} {scope : Scope} {Q : Value → Shared → Prop} {l : Addr} {x0 r : Str} {t0 : Tok} {n : Nat}
    (F : Fr h₀ L s.heap m) (N : News h₀ L s.heap news) (T : Top p loose mean mg mb h₀) (C : CodeHd h₀ c P) (hcd : ccd = .ref c) (U : UpdF P (tabObj ps) news g) (ht : TriplesOk ps.toList) (hm : (l, listOf #[.str x0 t0] n) ∈ news)
    (hh : A.handled = none) (hco : scope.isCoroutine = false) (hclos : closureFor scope (envX cn cs L a ccd cl) = pure []) (hcell : ∀ y ∈ scope.names, y.2 ≠ .cell) (h0 : scope.names.lookup (".0" : Str) = some NameKind.local)
    (hx : scope.names.lookup x = some .local) (hkind : scope.kind = .function) (hroom : A.depth < recursionLimit) (hz : r.length ≤ 1000)
    (hiter : ∀ Q' : Value → Shared → Prop, Q' (.ref l) s → wpAny (model prog w) A (eval iter (envX cn cs L a ccd cl)) Q' E s)
    (helt : ∀ (C' : Addr) (code : Value) (A' : Around) E' (s₂ : Shared) m₂ t, A'.handled = none → A'.depth ≤ A.depth + 1 → A'.units ≤ A.units + 8 → s₂.heap.Ns C' m₂ → m₂ x = some (.str x0 t) →
      wpAny (model prog w) A' (eval elt (genEnv scope [] C' code builtinsNs (envX cn cs L a ccd cl))) (fun y s₃ => (∃ u, y = .str r u) ∧ Keeps s₂ s₃) E' s₂)
    (hs : ∀ x, genFold iter (envX cn cs L a ccd cl) x = pure x)
    (h : ∀ b h' tk gs ps', Mine.BareTo s.gens gs → Fr h₀ L h' m → News h₀ L h' (g (tabObj ps')) → TriplesOk ps'.toList → Ready prog w A h₀ L m (g (tabObj ps')) b r { s with heap := h', toks := tk, gens := gs } → Q (.ref b) { s with heap := h', toks := tk, gens := gs }) :
    wpAny (model prog w) A (eval (.GeneratorExp elt [⟨.Name x px, iter, [], 0⟩] scope pos) (envX cn cs L a ccd cl)) Q E s := by
  obtain ⟨own, rest, hnews, hgr, u1, u2⟩ := U.split
  have hm0 : (P, tabObj ps) ∈ news := by rw [hnews]; exact List.mem_append_right _ (.head _)
  have hP := N _ hm0
  have hl := N _ hm
  obtain ⟨bm, ob, b1, b2, b3, b4, b5, b6⟩ := T.bmain
  have hbP : bm ≠ P := fun q => by
    have e := F.keep _ _ b3
    rw [q, hP.1] at e; cases e; cases b4
  have hgP : mainGlobals ≠ P := fun q => by
    obtain ⟨o, es, ep, e, hd, _⟩ := T.g.keeps F.keep
    rw [q, hP.1] at e; cases e; cases hd
  have hlP : l ≠ P := fun q => by
    have e := hl.1
    rw [show (l, listOf #[Value.str x0 t0] n).1 = P from q, hP.1] at e
    cases e
  refine wpAny_GeneratorExp_walksQD hh hco hclos hcell h0 hx hkind hroom (hiter _ (wpAny_pyIter_list (items := #[.str x0 t0]) ⟨_, hl.1, rfl, n, rfl⟩ ?_)) hs
  generalize hI : s.heap.objs.size = I
  have hLI : L < I := hI ▸ F.ns.lt
  have kp : ∀ b o, s.heap.get? b = some o → (s.heap.push { cls := .type "list_iterator", data := .fields #[.ref l, .int 0 0] }).get? b = some o := fun b o e => Heap.get?_push_of_some _ e
  generalize hh1 : s.heap.push { cls := .type "list_iterator", data := .fields #[.ref l, .int 0 0] } = h1 at kp
  have hs1 : h1.objs.size = I + 1 := by rw [← hh1, Heap.size_push, hI]
  have hIt : h1.IsListIter I l 0 := by rw [← hh1, ← hI]; exact ⟨_, Heap.get?_push_size _ rfl, rfl, rfl⟩
  have F1 : Fr h₀ L h1 m := ⟨F.ns.keeps kp, fun b o e => kp _ _ (F.keep b o e), F.above⟩
  refine ⟨T.nolimit.keeps F1.keep, genCode hcd (C.keeps F1.keep) (kp _ _ hP.1) ht fun code h2 tk2 ps' hx2 hsz2 hP2 ht2 => ?_⟩
  refine wpAny_builtinsFor ((T.g.keeps F1.keep).extBut hx2 hgP) b1 b2 (hx2 _ _ hbP (F1.keep _ _ b3)) b4 b5 b6 ?_
  have hcP : cStatics ≠ P := fun e => by
    obtain ⟨_, hns, _⟩ := T.nolimit.keeps F1.keep
    obtain ⟨o, es, ep, ho, hd, _⟩ := hns
    rw [e, kp _ _ hP.1] at ho; cases ho; cases hd
  have nl2 : h2.NoLimit := (T.nolimit.keeps F1.keep).extBut hx2 hcP
  have hPI : P < I := hI ▸ Heap.lt_size hP.1
  have hIP : I ≠ P := Nat.ne_of_gt hPI
  have hlI : l < I := hI ▸ Heap.lt_size hl.1
  have hsz2' : h1.objs.size ≤ h2.objs.size := hsz2
  have hI2 : I < h2.objs.size := Nat.lt_of_lt_of_le (hs1 ▸ Nat.lt_succ_self I) hsz2'
  have hcI : cStatics < I := hI ▸ (let ⟨_, hn, _⟩ := T.nolimit.keeps F.keep; hn.lt)
  have st0 : h2.IsListIter I l 0 ∧ h2.IsList l #[Value.str x0 t0] := ⟨hIt.at fun o e => hx2 _ _ hIP e, ⟨_, hx2 _ _ hlP (kp _ _ hl.1), rfl, n, rfl⟩⟩
  refine ⟨I, [I, l], [I], 1, _, _, fun _ => true, fun _ y => ∃ u, y = .str r u, rfl, fun A' hA => Walks.list hA I l (Nat.ne_of_lt hlI) #[.str x0 t0], st0, ?_, nl2, ?_, ?_, ?_⟩
  · intro b hb
    show b < h2.objs.size
    rcases List.mem_cons.mp hb with rfl | hb
    · exact hI2
    · rcases List.mem_cons.mp hb with rfl | hb
      · exact Nat.lt_trans hlI hI2
      · cases hb
  · intro hc
    rcases List.mem_cons.mp hc with e | hc
    · exact Nat.lt_irrefl _ (e ▸ hcI : I < I)
    · cases hc
  · intro href hk
    refine ⟨fun A' E' i v s₂ m₂ hA hd hu hv hns hmx hb => wpAny_pure ⟨rfl, s₂.heap, s₂.toks, rfl, fun _ _ e => e⟩, fun A' E' i v s₂ m₂ hA hd hu hv hp hns hmx hb => ?_⟩
    have hv' : v = .str x0 t0 := by
      have hi : i < 1 := (Array.getElem?_eq_some_iff.mp hv).1
      obtain rfl : i = 0 := by lia
      exact (Option.some.inj hv).symm
    exact helt _ code A' E' s₂ m₂ t0 hA hd hu hns (hv' ▸ hmx)
  · intro b h5 tk gs hbare hlt hsz5 hk5 W G
    have hk5' : ∀ d o, h2.get? d = some o → h5.get? d = some o := hk5
    have F2 : Fr h₀ L h2 m := ⟨F1.ns.extBut hx2 hP.2.1.symm, fun d o e => hx2 _ _ (fun q => by rw [q, hP.2.2] at e; cases e) (F1.keep d o e), F.above⟩
    have F5 : Fr h₀ L h5 m := ⟨F2.ns.keeps hk5', fun d o e => hk5' _ _ (F2.keep d o e), F.above⟩
    have N2 : ∀ q ∈ g (tabObj ps'), (h2.get? q.1 = some q.2 ∧ q.1 ≠ L ∧ h₀.get? q.1 = none) ∧ q.1 < I := by
      intro q hq
      rw [hgr] at hq
      rcases List.mem_append.mp hq with hq | hq
      · have n0 := N q (by rw [hnews]; exact List.mem_append_left _ hq)
        exact ⟨⟨hx2 _ _ (u1 q hq) (kp _ _ n0.1), n0.2⟩, hI ▸ Heap.lt_size n0.1⟩
      · rcases List.mem_cons.mp hq with rfl | hq
        · exact ⟨⟨hP2, hP.2⟩, hPI⟩
        · have n0 := N q (by rw [hnews]; exact List.mem_append_right _ (.tail _ hq))
          exact ⟨⟨hx2 _ _ (u2 q hq) (kp _ _ n0.1), n0.2⟩, hI ▸ Heap.lt_size n0.1⟩
    have N5 : News h₀ L h5 (g (tabObj ps')) := fun q hq => ⟨hk5' _ _ (N2 q hq).1.1, (N2 q hq).1.2⟩
    refine h b h5 tk _ ps' (fun hb => hb.push hbare) F5 N5 ht2 ?_
    intro x' t' Q' E' hxz hq'
    refine SC.joinGen (n := 1) W.of_in1.of_in1 (fun i s' st => ?_) G ?_ (List.mem_cons_self ..) ?_ ?_
    · exact st.1.typeIs
    · intro d hd
      show d < h5.objs.size
      rw [hsz5]
      rcases List.mem_cons.mp hd with rfl | hd
      · exact Nat.lt_succ_self _
      · rcases List.mem_cons.mp hd with rfl | hd
        · exact Nat.lt_succ_of_lt hlt
        · exact Nat.lt_succ_of_lt (Nat.lt_trans (List.mem_range.mp hd) hlt)
    · rintro i v ⟨_, _, u, e⟩
      exact ⟨r, u, e⟩
    · intro s' lst hmv hit
      obtain ⟨y, u, rfl⟩ : ∃ y u, lst = [(y, u)] := by
        have h1 := hit.1
        match lst, h1 with
        | [q], _ => exact ⟨q.1, q.2, rfl⟩
        | [], h1 => exact absurd h1 (by decide)
        | _ :: _ :: _, h1 => exact absurd h1 (by simp [strValues])
      obtain ⟨_, _, u', e⟩ := hit.2 0 (.str y u) rfl
      obtain ⟨rfl, rfl⟩ := Value.str.inj e
      refine ⟨?_, fun t'' k => ?_⟩
      · show (!Builtin.Str.tooLong (0 + y.length + x'.length)) = true
        unfold Builtin.Str.tooLong
        rw [sizeLine_eq]
        simp only [Bool.not_eq_true', decide_eq_false_iff_not]
        lia
      · have hw : ∀ d o, d < I → h5.get? d = some o → s'.heap.get? d = some o := fun d o hd e => hmv.heap d o (by
          intro hm9
          rcases List.mem_cons.mp hm9 with q | hm9
          · exact Nat.lt_irrefl _ (Nat.lt_trans (q ▸ hd : h2.objs.size < I) hI2)
          · rcases List.mem_cons.mp hm9 with q | hm9
            · exact Nat.lt_irrefl _ (q ▸ hd : I < I)
            · cases hm9) e
        have FQ : Fr h₀ L s'.heap m := ⟨F5.ns.at' fun o e => hw _ o hLI e, fun d o e => hw _ _ (Nat.lt_of_lt_of_le (Heap.lt_size e) (Nat.le_of_lt (Nat.lt_of_le_of_lt F.above hLI))) (F5.keep d o e), F.above⟩
        have NQ : News h₀ L s'.heap (g (tabObj ps')) := fun q hq => ⟨hw _ _ (N2 q hq).2 (N5 q hq).1, (N5 q hq).2⟩
        have := hq' s'.heap t'' k s'.gens (fun hb => hb.moved hmv.gens) FQ NQ
        obtain ⟨sh, sg, sd, st, so⟩ := s'
        have e1 : sd = s.drawn := hmv.drawn
        have e2 : so = s.os := hmv.os
        subst e1 e2
        simp only [List.map_cons, List.map_nil, join_is]
        exact this
end
end Gnx

namespace Lmx
section
variable {M : Model} {A : Around} {E : Value → Shared → Prop} {s : Shared} {h₀ : Heap} {L a c P : Addr} {m mg mb : Str → Option Value} {cn : Str} {cs : Scope} {ccd : Value} {cl : List (Str × Addr)} {news : List (Addr × Obj)} {g : Obj → List (Addr × Obj)}
  {p : Program} {loose : List Str} {mean : ExcName → Option Value} {name qual : Str} {params : Arguments} {body : PySem.Expr} {scope : Scope} {ps : Array Value} {pos : Pos} {firstLine : Nat} {clos : List (Str × Addr)}
/-- a lambda, whatever the table of codes holds -/
theorem lam_any {Q : Value → Shared → Prop} (F : Fr h₀ L s.heap m) (N : News h₀ L s.heap news) (T : Top p loose mean mg mb h₀) (C : CodeHd h₀ c P) (hcd : ccd = .ref c) (U : UpdF P (tabObj ps) news g) (ht : TriplesOk ps.toList)
    (hcl : closureFor scope (envX cn cs L a ccd cl) = pure clos)
    (h : ∀ f o ps' h' tk, o.cls = .type "function" → Fr h₀ L h' m → News h₀ L h' ((f, o) :: g (tabObj ps')) → TriplesOk ps'.toList → (∀ q ∈ news, q.1 < f) → Q (.ref f) { s with heap := h', toks := tk }) :
    wpAny M A (makeFunction name qual params (.expr body) scope (envX cn cs L a ccd cl) [] [] [] pos firstLine) Q E s := by
  cases hf : codeAmong pos ps.toList with
  | none =>
    refine kla_nest F N T C hcd U ht hf hcl fun f c' oc vs t ctv h' tk F' N' hd hv hlt hcf => ?_
    refine h f (kla_obj name qual params body scope clos ((mg "__name__").getD .none) c' ctv) (ps ++ #[rawInt pos.line, rawInt pos.col, .ref c']) h' tk rfl F' (news_sub N' fun q hq => ?_) (by rw [Array.toList_append]; exact TriplesOk_snoc _ _ _ _ ht) fun q hq => Nat.lt_trans (hlt q hq) hcf
    rcases List.mem_cons.mp hq with rfl | hq
    · exact .head _
    · exact .tail _ (.tail _ hq)
  | some cv =>
    obtain ⟨own, rest, hnews, hgr, -, -⟩ := U.split
    have hgn : g (tabObj ps) = news := (hgr _).trans hnews.symm
    have hP := N (P, tabObj ps) (by rw [hnews]; exact List.mem_append_right _ (.head _))
    obtain ⟨bm, ob, b1, b2, b3, b4, b5, b6⟩ := T.bmain
    have nP : ∀ {b : Addr} {o : Obj}, h₀.get? b = some o → b ≠ P := fun e q => by rw [q, hP.2.2] at e; cases e
    have hbG : bm ≠ mainGlobals := fun q => by
      obtain ⟨o, es, ep, e, hd, _⟩ := T.g
      rw [q, e] at b3; cases b3; rw [hd] at b6; cases b6
    refine kla_makeFunctionHit (mg := mg) hcl rfl (T.g.keeps F.keep) hcd (C.keeps F.keep) hP.1 ht hf ⟨bm, ob, b1, b2, hbG, nP b3, F.keep _ _ b3, b4, b5, b6⟩ fun ctv h' tk hk hsz => ?_
    have lt : L < h'.objs.size := Nat.lt_of_lt_of_le F.ns.lt hsz
    have k2 : ∀ b o, s.heap.get? b = some o → (h'.push { cls := .type "function", data := .func (kla_fn name qual params body scope clos ((mg "__name__").getD .none) cv ctv) }).get? b = some o := fun b o e => Heap.get?_push_of_some _ (hk b o e)
    refine h h'.objs.size { cls := .type "function", data := .func (kla_fn name qual params body scope clos ((mg "__name__").getD .none) cv ctv) } ps _ tk rfl (F.keptAll k2) (fun q hq => ?_) ht fun q hq => Nat.lt_of_lt_of_le (Heap.lt_size (N q hq).1) hsz
    rw [hgn] at hq
    rcases List.mem_cons.mp hq with rfl | hq
    · exact ⟨Heap.get?_push_size _ rfl, Nat.ne_of_gt lt, Heap.get?_none_of_le (Nat.le_trans F.above (Nat.le_of_lt lt))⟩
    · exact ⟨k2 _ _ (N q hq).1, (N q hq).2⟩
end
end Lmx

theorem resetQ5 : True := by w_top off; trivial
theorem item_at {prog : Program} {w : World} {A : Around} {E : Value → Shared → Prop} {s : Shared} {x y : Str} {t u : Tok} {i : Int} {Q : Value → Shared → Prop} {value slice : PySem.Expr} (k : Int) (hk : i = k := by lia) (he : Txt.item x k = y := by with_reducible assumption) (h0 : 0 ≤ i := by lia) (h1 : i < (x.length : Nat) := by lia) (hn : x.length ≤ 100 := by lia) (h : ∀ t' tk, Q (.str y t') { s with toks := tk })
    (hs : subscripted slice false (.str x t) (.int i u) = operate [.str x t, .int i u] (getItem (.str x t) (.int i u)) := by with_unfolding_all rfl)
    (ht : ∀ r, letTemporaryGo value (.str x t) r = pure () := by intro _; with_unfolding_all rfl) :
    wpAny (model prog w) A (subscriptTail value slice (.str x t) (.int i u)) Q E s := by
  subst hk
  exact item_is he h0 h1 hn h hs ht
theorem kd_no {c d : Nat} (h : c ≠ d) : ((⟨#[c]⟩ : Str) == ⟨#[d]⟩) = false := by
  rw [one_eq, beq_eq_false_iff_ne]
  exact fun e => h e.symm
theorem eq_no {prog : Program} {w : World} {A : Around} {E : Value → Shared → Prop} {s : Shared} {c d : Nat} {x : Str} {t u : Tok} {Q : Value → Shared → Prop} (hx : x = ⟨#[d]⟩) (h : c ≠ d) (hq : Q (.bool false) s) :
    wpAny (model prog w) A (compareOp .Eq (.str ⟨#[c]⟩ t) (.str x u)) Q E s := by
  subst hx
  refine eq_str ?_
  rw [kd_no h]
  exact hq
theorem names7 {m : Str → Option Value} {x1 x2 x3 x4 x5 x6 x7 : Str} {a1 a2 a3 a4 a5 a6 a7 : Value} (h1 : m x1 = some a1) (h2 : m x2 = some a2) (h3 : m x3 = some a3) (h4 : m x4 = some a4) (h5 : m x5 = some a5) (h6 : m x6 = some a6) (h7 : m x7 = some a7) :
    m = fun z => if z = x1 then some a1 else if z = x2 then some a2 else if z = x3 then some a3 else if z = x4 then some a4 else if z = x5 then some a5 else if z = x6 then some a6 else if z = x7 then some a7 else m z := by
  funext z
  by_cases k1 : z = x1
  · simp only [if_pos k1]; rw [k1]; exact h1
  by_cases k2 : z = x2
  · simp only [if_neg k1, if_pos k2]; rw [k2]; exact h2
  by_cases k3 : z = x3
  · simp only [if_neg k1, if_neg k2, if_pos k3]; rw [k3]; exact h3
  by_cases k4 : z = x4
  · simp only [if_neg k1, if_neg k2, if_neg k3, if_pos k4]; rw [k4]; exact h4
  by_cases k5 : z = x5
  · simp only [if_neg k1, if_neg k2, if_neg k3, if_neg k4, if_pos k5]; rw [k5]; exact h5
  by_cases k6 : z = x6
  · simp only [if_neg k1, if_neg k2, if_neg k3, if_neg k4, if_neg k5, if_pos k6]; rw [k6]; exact h6
  by_cases k7 : z = x7
  · simp only [if_neg k1, if_neg k2, if_neg k3, if_neg k4, if_neg k5, if_neg k6, if_pos k7]; rw [k7]; exact h7
  simp only [if_neg k1, if_neg k2, if_neg k3, if_neg k4, if_neg k5, if_neg k6, if_neg k7]
section
variable {prog : Program} {w : World} {A : Around} {E : Value → Shared → Prop} {s : Shared} {value slice : PySem.Expr} {h₀ : Heap} {L l : Addr} {vs : Array Value} {n : Nat} {v : Value} {u : Tok} {news : List (Addr × Obj)}
theorem truthy_push {Q : Bool → Shared → Prop} (N : News h₀ L s.heap news) (hm : (l, listOf (vs.push v) n) ∈ news) (hz : vs.size + 1 ≤ sizeLine) (h : ∀ tk, Q true { s with toks := tk }) : wpAny (model prog w) A (truthy (.ref l)) Q E s := by
  refine wpAny_truthy_list (News.isList N hm) (by rw [Array.size_push]; rw [sizeLine_eq] at hz; lia) ?_
  rw [show (vs.push v).isEmpty = false by simp]
  exact h _
theorem last_push {Q : Value → Shared → Prop} (N : News h₀ L s.heap news) (hm : (l, listOf (vs.push v) n) ∈ news) (h : Q v s)
    (hs : subscripted slice false (.ref l) (.int (-1) u) = operate [.ref l, .int (-1) u] (getItem (.ref l) (.int (-1) u)) := by with_unfolding_all rfl) :
    wpAny (model prog w) A (subscriptTail value slice (.ref l) (.int (-1) u)) Q E s :=
  tail_any (News.isList N hm).typeIs slot_list_getitem.lookup (wpAny_getItem_list_neg (News.isList N hm) (by decide) (by rw [Array.size_push]; lia) (by decide) (by rw [Array.size_push, show (-1 + ((vs.size + 1 : Nat) : Int)).toNat = vs.size by lia]; simp) h) hs
end
section
variable {prog : Program} {w : World} {A : Around} {E : Value → Shared → Prop} {s : Shared} {value slice : PySem.Expr} {h₀ : Heap} {L : Addr} {m : Str → Option Value} {x y z : Str} {t u a b : Tok} {i j : Int} {bb : Bool} {Q : Value → Shared → Prop} {news : List (Addr × Obj)}
theorem slice_is {ui uj : Tok} (hF : Fr h₀ L s.heap m := by k_asm) (hN : News h₀ L s.heap news := by k_asm) (hi : i = 1 := by lia) (hj : j = 3 := by lia) (hy : Txt.slice x (some 1) (some 3) = y := by with_reducible assumption) (hz : x.length ≤ 100 := by lia) (h : ∀ h' t' k, Fr h₀ L h' m → News h₀ L h' news → Q (.str y t') { s with heap := h', toks := k })
    (hs : subscripted slice false (.str x t) (.ref s.heap.objs.size) = operate [.ref s.heap.objs.size, .str x t] (getItem (.str x t) (.ref s.heap.objs.size)) := by with_unfolding_all rfl)
    (ht : ∀ r, letTemporaryGo value (.str x t) r = pure () := by intro _; with_unfolding_all rfl) :
    wpAny (model prog w) A (subscriptTail value slice (.str x t) (.ref s.heap.objs.size)) Q E { s with heap := s.heap.push { cls := .type "slice", data := .fields #[.int i ui, .int j uj, .none] } } := by
  subst hi hj hy
  exact slice_strN_ss hF hN h hs ht (by rw [sizeLine_eq]; lia)
theorem notIn_is (hb : (Builtin.Str.occurrences x y 0 x.length 1).isEmpty = bb) (h : Q (.bool bb) s) : wpAny (model prog w) A (compareOp .NotIn (.str y t) (.str x u)) Q E s := by
  subst hb; exact notIn_str (by rw [Bool.not_not]; exact h)
theorem find_no (hi : i = 2) (hj : j = 3) (hl : 3 ≤ x.length) (h : Builtin.Str.occurrences x y 2 3 1 = []) (hq : Q (.int (-1) s.toks) { s with toks := s.toks + 1 }) :
    wpAny (model prog w) A (call (.builtin "str.find") [.str x t, .str y u, .int i a, .int j b]) Q E s := by
  subst hi hj
  refine Txo.find_none ?_ hq
  have e1 : fromIndex x.length 2 = 2 := rfl
  have e2 : fromIndex x.length 3 = 3 := rfl
  rw [e1, e2, Nat.min_eq_left hl]; exact h
end
theorem halt_any {prog : Program} {w : World} {A : Around} {E Q : Value → Shared → Prop} {s : Shared} {x : Sem Value} (h : Halt (wpAny (model prog w) A x Q E s)) : wpAny (model prog w) A x Q E s := h
theorem news_tail {h₀ h : Heap} {L : Addr} {q : Addr × Obj} {l : List (Addr × Obj)} (N : News h₀ L h (q :: l)) : News h₀ L h l := fun x hx => N x (.tail _ hx)
/-- the facts of a written set of signs -/
def BrkD (pp : Str) : Prop := Txt.item pp 1 = ⟨#[33]⟩ ∧ Txt.item pp 2 = ⟨#[100]⟩ ∧ Txt.item pp 3 = ⟨#[93]⟩ ∧ Txt.slice pp (some 1) (some 3) = Str.ofString "!d"
def BrkL (pp : Str) : Prop := Txt.item pp 1 = ⟨#[45]⟩ ∧ Txt.item pp 2 = ⟨#[108]⟩ ∧ Txt.item pp 3 = ⟨#[93]⟩ ∧ Txt.slice pp (some 1) (some 3) = Str.ofString "-l" ∧ Builtin.Str.occurrences pp (Str.ofString "-") 2 3 1 = []
theorem tr_t {w : World} {st : Addr} {pp : Str} {t t' : Tok} {ks : List Kd} {o : Nat} {ps0 : Array Value} (ht0 : TriplesOk ps0.toList) (hz : pp.length = pl o ks.length) (hz2 : ks.length ≤ 10) (hks : ks ≠ []) (ho : o = 0 ∨ (o = 3 ∧ ∃ b, ks[0]? = some (.brk b)))
    (hat : ∀ i k, ks[i]? = some k → Txt.item pp (pl o i : Nat) = ⟨#[k.sign]⟩)
    (hkeep : ∀ c, Kd.keep c ∈ ks → c ≠ 42 ∧ c ≠ 63 ∧ c ≠ 91 ∧ findBy Value.isInt (Spc.es w.params) (c : Int) = none)
    (hstar : ∀ i, ks[i]? = some .star → ∃ i0 k0, i = i0 + 1 ∧ ks[i0]? = some k0 ∧ k0 ≠ .star)
    (hbrk : ∀ i b, ks[i]? = some (.brk b) → i = 0 ∧ o = 3 ∧ ((b = Str.ofString "[^d]" ∧ BrkD pp) ∨ (b = Str.ofString "[\\-l]" ∧ BrkL pp))) :
    MeetXG w 97 [.str pp t, .ref st, .str (Str.ofString ".") t'] 40 300 [(92, tabObj ps0)] (fun r l => ∃ R vs n ps, r = .ref R ∧ l = [(R, listOf vs n), (92, tabObj ps)] ∧ TriplesOk ps.toList ∧ Outs st ks vs) := by
  have hfill : PySem.Challenge.rw_in0217_01 = PySem.Challenge.rw_in0217_01 ∧ hd.heap_39 = hd.heap_39 := by (k_fill; exact ⟨rfl, rfl⟩)
  clear hfill
  intro p loose mean mg mb dp un gd cn cs a ccd cl outer A₀ base h₀ L m s Q E B F X N T hk hdp hu hret
  have CH1 := code171 X
  have CH2 := code96 X
  refine wpAny_call ?_
  k_dflt (refine' code_defX ?k1 ?k2 ?k3 ?k4 ?k5 ?kA ?kF ?kK ?k6 ?k7 ?k8 ?k9 ?kB ?_ ?c2 ?c3 ?c4 ?c5; (case kA => exact rfl); (case kF => exact rfl); (case kK => assumption); (case k1 => k_asm); (case k2 => k_asm); (case k3 => k_asm); (case k4 => k_asm); (case k5 => k_asm); (case k6 => k_is); (case k7 => k_is); (case k8 => ktr_room); (case k9 => exact BindsTo.of_eq rfl); (case c5 => decide); (case kB => exact locs rfl); (case c2 => exact rfl); (case c3 => exact rfl); (case c4 => exact rfl); k_whole; intro g' L' h' KB FG' F' N' B' X' T' l1; (try k_lt l1); (try dsimp only); (try k_lift B'); (try (refine wp_letQ ?_; intro Q9 X9)); (try (refine wp_letA ?_; intro A9)); (try (refine wp_letE ?_; intro E9)))
  have ho3 : o ≤ 3 := by rcases ho with h | h <;> lia
  have hpl : ∀ i, pl o i ≤ i + 3 := fun i => by unfold pl; split <;> lia
  have hlen0 : 0 < ks.length := List.length_pos_iff.mpr hks
  have hmono : ∀ i, i < ks.length → pl o i < pl o ks.length := fun i hi => by unfold pl; split <;> split <;> lia
  have hpz := hpl ks.length
  (repeat' (first | (with_reducible (((with_reducible show wpAny _ _ (exec (Stmt.While (Expr.Compare _ _ _ _) _ _ _) _) _ _ _); (k_dflt (refine whl_halt 100 ?_))))) | (with_reducible (((with_reducible show wpAny _ _ (getAttr (Value.ref _) _ true) _ _ _); k_dflt (refine Bnd.getAttr_K (by k_asm) (by k_asm) (by k_mem) ?_); intro x' h' tk' F' N' l1; (try k_lt l1); (try k_sweep)))) | (k_end; kc_close) | walk1 | (dsimp only [argC9]; walk1) | (k_unfold; (try dsimp only)) | (dsimp only [then9]) | (leave1; (try dsimp only))))
  unfold Halt
  (rename Fr g' L' _ _ => F1)
  (rename News g' L' _ _ => N1)
  refine while_loop (TJ st _ _ pp t t' o ks) ks.length F1 (news_sub N1 (fun q hq => List.mem_cons_of_mem _ hq)) ⟨rfl, rfl, rfl, rfl, rfl, ⟨_, rfl⟩, ⟨_, rfl⟩, ⟨#[], 0, ps0, rfl, ht0, trivial⟩⟩ ?turn ?done
  case turn =>
    rintro i m₁ news₁ h tk gs hi hBt ⟨e1, e2, e3, e4, e5, ⟨ti, e6⟩, ⟨tn, e7⟩, ⟨vs, n, ps, rfl, htr, hos⟩⟩ Fi Ni
    rw [names7 e1 e2 e3 e4 e5 e6 e7] at Fi
    obtain ⟨k, hk⟩ : ∃ k, ks[i]? = some k := ⟨_, List.getElem?_eq_getElem hi⟩
    have hit := hat i k hk
    have hlt := hmono i hi
    have hvz : vs.size ≤ sizeLine := by
      have := hos.size
      rw [List.length_take] at this
      rw [sizeLine_eq]; lia
    have hnb : (∀ b, k ≠ .brk b) → pl o (i + 1) = pl o i + 1 := fun hb => by
      rcases ho with h | ⟨h, b, hb0⟩
      · have hp0 : ∀ j, pl o j = j := fun j => by unfold pl; split <;> lia
        rw [hp0, hp0]
      · have hi0 : i ≠ 0 := fun e => by rw [e, hb0] at hk; exact hb b (Option.some.inj hk).symm
        unfold pl
        rw [if_neg hi0, if_neg (by lia)]
        lia
    cases k with
    | keep c =>
      obtain ⟨c1, c2, c3, c4⟩ := hkeep c (List.mem_of_getElem? hk)
      have hst := hnb (fun b h => nomatch h)
      clear hnb e1 e2 e3 e4 e5 e6 e7
      dsimp only [Kd.sign] at hit
      (repeat' (first | (with_reducible (((with_reducible show wpAny _ _ (subscriptTail _ _ (Value.str _ _) (Value.int _ _)) _ _ _); (first | refine item_at 1 (h := ?_) | refine item_at 2 (h := ?_) | refine item_at 3 (h := ?_) | refine item_is (h := ?_)); intro _ _))) | (with_reducible (((with_reducible show wpAny _ _ (compareOp CmpOp.Eq (Value.str (Str.mk _) _) (Value.str (Str.ofString _) _)) _ _ _); (refine eq_no (d := 91) rfl (by assumption) ?_)))) | (with_reducible (((with_reducible show wpAny _ _ (compareOp CmpOp.Eq (Value.str (Str.mk _) _) (Value.str (Str.ofString _) _)) _ _ _); (refine eq_no (d := 63) rfl (by assumption) ?_)))) | (with_reducible (((with_reducible show wpAny _ _ (compareOp CmpOp.Eq (Value.str (Str.mk _) _) (Value.str (Str.ofString _) _)) _ _ _); (refine eq_no (d := 42) rfl (by assumption) ?_)))) | (with_reducible (((with_reducible show wpAny _ _ (call (Value.ref 90) _) _ _ _); k_dflt (first | refine MeetP.goT (escape_keep (by assumption)) (ret := ?_) | refine MeetP.goT escape_blank (ret := ?_)); intro t' h' tk' F' N'; (try k_sweep)))) | (with_reducible (((with_reducible show wpAny _ _ (call (Value.ref _) [_]) _ _ _); k_dflt (refine Bnd.call_K (by k_asm) (by k_asm) (by k_mem) (by k_upd) ?_ (by first | assumption | size_fits)); intro h' F' N'; (try k_sweep)))) | (with_reducible (((with_reducible show wpAny _ _ (callWith _ (Value.ref _) _ (backTo _ (starEach (_ :: _) _)) []) _ _ _); k_dflt (refine Bnd.callWith_bound (by k_asm) (by k_mem) ?_)))) | (with_reducible (((with_reducible show WTurn _ _ _ _ _ _ _); dsimp only [WTurn]))) | (with_reducible (((with_reducible show WhlIf _ _ _); (first | (refine WhlIf.yes (by simp only [decide_eq_true_eq]; omega) ?_) | (refine WhlIf.no (by simp only [decide_eq_false_iff_not]; omega) ?_))))) | (with_reducible (((with_reducible show Bnd.StandsAt _ _ _ ∧ _); k_dflt (refine ⟨Bnd.at_of (by k_asm) (by k_mem), ?_⟩); (try dsimp only [List.nil_append, List.cons_append])))) | (k_end; kc_close) | walk1 | (dsimp only [argC9]; walk1) | (k_unfold; (try dsimp only)) | (dsimp only [then9]) | (leave1; (try dsimp only))))
      refine ⟨_, _, _, _, _, rfl, (by assumption), (by assumption), ⟨rfl, rfl, rfl, rfl, rfl, ⟨_, by rw [hst]; rfl⟩, ⟨_, rfl⟩, ⟨_, _, ps, rfl, htr, hos.snoc hk ⟨_, rfl⟩⟩⟩, BareTo.refl⟩
    | blank =>
      have hst := hnb (fun b h => nomatch h)
      clear hnb e1 e2 e3 e4 e5 e6 e7
      dsimp only [Kd.sign] at hit
      (repeat' (first | (with_reducible (((with_reducible show wpAny _ _ (subscriptTail _ _ (Value.str _ _) (Value.int _ _)) _ _ _); (first | refine item_at 1 (h := ?_) | refine item_at 2 (h := ?_) | refine item_at 3 (h := ?_) | refine item_is (h := ?_)); intro _ _))) | (with_reducible (((with_reducible show wpAny _ _ (call (Value.ref 90) _) _ _ _); k_dflt (first | refine MeetP.goT (escape_keep (by assumption)) (ret := ?_) | refine MeetP.goT escape_blank (ret := ?_)); intro t' h' tk' F' N'; (try k_sweep)))) | (with_reducible (((with_reducible show wpAny _ _ (call (Value.ref _) [_]) _ _ _); k_dflt (refine Bnd.call_K (by k_asm) (by k_asm) (by k_mem) (by k_upd) ?_ (by first | assumption | size_fits)); intro h' F' N'; (try k_sweep)))) | (with_reducible (((with_reducible show wpAny _ _ (callWith _ (Value.ref _) _ (backTo _ (starEach (_ :: _) _)) []) _ _ _); k_dflt (refine Bnd.callWith_bound (by k_asm) (by k_mem) ?_)))) | (with_reducible (((with_reducible show WTurn _ _ _ _ _ _ _); dsimp only [WTurn]))) | (with_reducible (((with_reducible show WhlIf _ _ _); (first | (refine WhlIf.yes (by simp only [decide_eq_true_eq]; omega) ?_) | (refine WhlIf.no (by simp only [decide_eq_false_iff_not]; omega) ?_))))) | (with_reducible (((with_reducible show Bnd.StandsAt _ _ _ ∧ _); k_dflt (refine ⟨Bnd.at_of (by k_asm) (by k_mem), ?_⟩); (try dsimp only [List.nil_append, List.cons_append])))) | (k_end; kc_close) | walk1 | (dsimp only [argC9]; walk1) | (k_unfold; (try dsimp only)) | (dsimp only [then9]) | (leave1; (try dsimp only))))
      refine ⟨_, _, _, _, _, rfl, (by assumption), (by assumption), ⟨rfl, rfl, rfl, rfl, rfl, ⟨_, by rw [hst]; rfl⟩, ⟨_, rfl⟩, ⟨_, _, ps, rfl, htr, hos.snoc hk ⟨_, rfl⟩⟩⟩, BareTo.refl⟩
    | quest =>
      have hst := hnb (fun b h => nomatch h)
      clear hnb e1 e2 e3 e4 e5 e6 e7
      dsimp only [Kd.sign] at hit
      (repeat' (first | (with_reducible (((with_reducible show wpAny _ _ (subscriptTail _ _ (Value.str _ _) (Value.int _ _)) _ _ _); (first | refine item_at 1 (h := ?_) | refine item_at 2 (h := ?_) | refine item_at 3 (h := ?_) | refine item_is (h := ?_)); intro _ _))) | (with_reducible (((with_reducible show wpAny _ _ (call (Value.ref _) [_]) _ _ _); k_dflt (refine Bnd.call_K (by k_asm) (by k_asm) (by k_mem) (by k_upd) ?_ (by first | assumption | size_fits)); intro h' F' N'; (try k_sweep)))) | (with_reducible (((with_reducible show wpAny _ _ (callWith _ (Value.ref _) _ (backTo _ (starEach (_ :: _) _)) []) _ _ _); k_dflt (refine Bnd.callWith_bound (by k_asm) (by k_mem) ?_)))) | (with_reducible (((with_reducible show WTurn _ _ _ _ _ _ _); dsimp only [WTurn]))) | (with_reducible (((with_reducible show WhlIf _ _ _); (first | (refine WhlIf.yes (by simp only [decide_eq_true_eq]; omega) ?_) | (refine WhlIf.no (by simp only [decide_eq_false_iff_not]; omega) ?_))))) | (with_reducible (((with_reducible show Bnd.StandsAt _ _ _ ∧ _); k_dflt (refine ⟨Bnd.at_of (by k_asm) (by k_mem), ?_⟩); (try dsimp only [List.nil_append, List.cons_append])))) | (k_end; kc_close) | walk1 | (dsimp only [argC9]; walk1) | (k_unfold; (try dsimp only)) | (dsimp only [then9]) | (leave1; (try dsimp only))))
      refine ⟨_, _, _, _, _, rfl, (by assumption), (by assumption), ⟨rfl, rfl, rfl, rfl, rfl, ⟨_, by rw [hst]; rfl⟩, ⟨_, rfl⟩, ⟨_, _, ps, rfl, htr, hos.snoc hk ⟨_, rfl⟩⟩⟩, BareTo.refl⟩
    | star =>
      have hst := hnb (fun b h => nomatch h)
      clear hnb e1 e2 e3 e4 e5 e6 e7
      dsimp only [Kd.sign] at hit
      obtain ⟨vs0, x0, u0, rfl⟩ : ∃ vs0 x0 u0, vs = Array.push vs0 (.str x0 u0) := by
        obtain ⟨i0, k0, rfl, hk0, hne⟩ := hstar i hk
        obtain ⟨vs0, v0, rfl, hv0⟩ := hos.last hk0
        cases k0 with
        | star => exact absurd rfl hne
        | _ => obtain ⟨u, rfl⟩ := hv0; exact ⟨_, _, _, rfl⟩
      (repeat' (first | (with_reducible (((with_reducible show wpAny _ _ (subscriptTail _ _ (Value.str _ _) (Value.int _ _)) _ _ _); (first | refine item_at 1 (h := ?_) | refine item_at 2 (h := ?_) | refine item_at 3 (h := ?_) | refine item_is (h := ?_)); intro _ _))) | (with_reducible (((with_reducible show wpAny _ _ (truthy (Value.ref _)) _ _ _); k_dflt (refine truthy_push (by k_asm) (by k_mem) (by first | assumption | (rw [← Array.size_push]; assumption)) ?_); intro _))) | (with_reducible (((with_reducible show wpAny _ _ (call (Value.ref _) [_]) _ _ _); k_dflt (refine Bnd.call_K (by k_asm) (by k_asm) (by k_mem) (by k_upd) ?_ (by first | assumption | size_fits)); intro h' F' N'; (try k_sweep)))) | (with_reducible (((with_reducible show wpAny _ _ (callWith _ (Value.ref _) _ (backTo _ (starEach (_ :: _) _)) []) _ _ _); k_dflt (refine Bnd.callWith_bound (by k_asm) (by k_mem) ?_)))) | (with_reducible (((with_reducible show wpAny _ _ (subscriptTail _ _ (Value.ref _) (Value.int _ _)) _ _ _); k_dflt (refine last_push (by k_asm) (by k_mem) ?_)))) | (with_reducible (((with_reducible show WTurn _ _ _ _ _ _ _); dsimp only [WTurn]))) | (with_reducible (((with_reducible show WhlIf _ _ _); (first | (refine WhlIf.yes (by simp only [decide_eq_true_eq]; omega) ?_) | (refine WhlIf.no (by simp only [decide_eq_false_iff_not]; omega) ?_))))) | (with_reducible (((with_reducible show Bnd.StandsAt _ _ _ ∧ _); k_dflt (refine ⟨Bnd.at_of (by k_asm) (by k_mem), ?_⟩); (try dsimp only [List.nil_append, List.cons_append])))) | (k_end; kc_close) | walk1 | (((with_reducible show wpAny _ _ (compareOp CmpOp.IsNot (Value.str _ _) (Value.ref _)) _ _ _); (refine wpAny_isNot_other (by rfl) (by intro x; cases x) ?_))) | (dsimp only [argC9]; walk1) | (k_unfold; (try dsimp only)) | (dsimp only [then9]) | (leave1; (try dsimp only))))
      refine ⟨_, _, _, _, _, rfl, (by assumption), (by assumption), ⟨rfl, rfl, rfl, rfl, rfl, ⟨_, by rw [hst]; rfl⟩, ⟨_, rfl⟩, ⟨_, _, ps, rfl, htr, hos.snoc hk rfl⟩⟩, BareTo.refl⟩
    | brk b =>
      obtain ⟨rfl, rfl, hb⟩ := hbrk i b hk
      obtain rfl : vs = #[] := Array.eq_empty_of_size_eq_zero (by rw [hos.size]; rfl)
      clear hnb e1 e2 e3 e4 e5 e6 e7
      dsimp only [Kd.sign] at hit
      have hpz4 : 4 ≤ pp.length := by rw [hz]; unfold pl; split <;> lia
      have hi0 : ((pl 3 0 : Nat) : Int) = 0 := rfl
      rw [hi0] at hit Fi
      clear hlt hi0
      rcases hb with ⟨rfl, b1, b2, b3, b4⟩ | ⟨rfl, b1, b2, b3, b4, b5⟩
      · (repeat' (first | (with_reducible (((with_reducible show wpAny _ _ (subscriptTail _ (Expr.Slice (some _) (some _) none _) (Value.str _ _) (Value.ref _)) _ _ _); (refine slice_is (s := ⟨_, _, _, _, _⟩) (h := ?_)); intro _ _ _ _ _))) | (with_reducible (((with_reducible show wpAny _ _ (subscriptTail _ _ (Value.str _ _) (Value.int _ _)) _ _ _); (first | refine item_at 1 (h := ?_) | refine item_at 2 (h := ?_) | refine item_at 3 (h := ?_) | refine item_is (h := ?_)); intro _ _))) | (with_reducible (((with_reducible show wpAny _ _ (compareOp CmpOp.NotIn (Value.str _ _) (Value.str _ _)) _ _ _); (first | refine notIn_is (bb := true) (by decide +kernel) ?_ | refine notIn_is (bb := false) (by decide +kernel) ?_)))) | (with_reducible (((with_reducible show wpAny _ _ (exec (Stmt.While (Expr.BoolOp _ _ _) _ _ _) _) _ _ _); (k_dflt (refine whl_start 100 ?_))))) | (with_reducible (((with_reducible show wpAny _ _ (call (Value.builtin "re.Pattern.sub") _) _ _ _); (k_dflt (refine Rsub.call_sub (by k_asm) (by k_asm) (by k_asm) (by k_mem) (by assumption) (by first | exact Rsub.fail_1 _ | exact Rsub.fail_2 _) (by decide) (by decide) ?_); intro h' t' tk' F' N'; (try k_sweep))))) | (with_reducible (((with_reducible show wpAny _ _ (getMethod (Value.ref 78) _ _) _ _ _); k_dflt (refine Rsub.getMethod_sub (by k_asm) (by k_asm) ?_)))) | (with_reducible (((with_reducible show wpAny _ _ (eval (Expr.Lambda _ _ _ _) _) _ _ _); (k_dflt (refine kla_eval (by rfl) ?_); k_dflt (refine' Lmx.lam_any ?F ?N ?T ?C ?cd ?U ?t ?cl ?_; (case F => k_asm); (case N => k_asm); (case T => k_asm); (case cd => exact rfl); (case C => kn_code); (case U => k_updF); (case t => assumption); (case cl => exact rfl)); intro f' o' ps' h' tk' hfc F' N' ht' l1; (try dsimp only at N'); (try k_lt l1))))) | (with_reducible (((with_reducible show wpAny _ _ (call (Value.builtin "str.replace") _) _ _ _); (first | refine Txo.replace_none (by decide +kernel) ?_ | refine Txo.replace_some (r := Str.ofString "\\-l") (by decide +kernel) (by omega) (by omega) (by omega) (by decide +kernel) (by decide +kernel) (by decide +kernel) (by decide +kernel) ?_)))) | (with_reducible (((with_reducible show wpAny _ _ (call (Value.ref _) [_]) _ _ _); k_dflt (refine Bnd.call_K (by k_asm) (by k_asm) (by k_mem) (by k_upd) ?_ (by first | assumption | size_fits)); intro h' F' N'; (try k_sweep)))) | (with_reducible (((with_reducible show wpAny _ _ (callWith _ (Value.ref _) _ (backTo _ (starEach (_ :: _) _)) []) _ _ _); k_dflt (refine Bnd.callWith_bound (by k_asm) (by k_mem) ?_)))) | (with_reducible (((with_reducible show WTurn _ _ _ _ _ _ _); dsimp only [WTurn]))) | (with_reducible (((with_reducible show WhlIf _ _ _); (first | (refine WhlIf.yes (by simp only [decide_eq_true_eq]; omega) ?_) | (refine WhlIf.no (by simp only [decide_eq_false_iff_not]; omega) ?_))))) | (with_reducible (((with_reducible show Bnd.StandsAt _ _ _ ∧ _); k_dflt (refine ⟨Bnd.at_of (by k_asm) (by k_mem), ?_⟩); (try dsimp only [List.nil_append, List.cons_append])))) | (k_end; kc_close) | walk1 | (dsimp only [argC9]; walk1) | (k_unfold; (try dsimp only)) | (dsimp only [then9]) | (leave1; (try dsimp only))))
        rename News _ _ _ _ => N9
        exact ⟨_, _, _, _, _, rfl, (by assumption), news_tail N9, ⟨rfl, rfl, rfl, rfl, rfl, ⟨_, rfl⟩, ⟨_, rfl⟩, ⟨_, _, _, rfl, (by assumption), hos.snoc hk ⟨_, congrArg (fun z => Value.str z _) (by decide +kernel)⟩⟩⟩, BareTo.refl⟩
      · (repeat' (first | (with_reducible (((with_reducible show wpAny _ _ (exec (Stmt.For (Expr.Name _ _) (Expr.Call _ _ _ _) (_ :: _) [] _) _) _ _ _); (k_dflt (refine wpAny_For ?_ (by intro _; rfl)))))) | (with_reducible (((with_reducible show wpAny _ _ (subscriptTail _ (Expr.Slice (some _) (some _) none _) (Value.str _ _) (Value.ref _)) _ _ _); (refine slice_is (s := ⟨_, _, _, _, _⟩) (h := ?_)); intro _ _ _ _ _))) | (with_reducible (((with_reducible show wpAny _ _ (subscriptTail _ _ (Value.str _ _) (Value.int _ _)) _ _ _); (first | refine item_at 1 (h := ?_) | refine item_at 2 (h := ?_) | refine item_at 3 (h := ?_) | refine item_is (h := ?_)); intro _ _))) | (with_reducible (((with_reducible show wpAny _ _ (compareOp CmpOp.NotIn (Value.str _ _) (Value.str _ _)) _ _ _); (first | refine notIn_is (bb := true) (by decide +kernel) ?_ | refine notIn_is (bb := false) (by decide +kernel) ?_)))) | (with_reducible (((with_reducible show wpAny _ _ (exec (Stmt.While (Expr.BoolOp _ _ _) _ _ _) _) _ _ _); (k_dflt (refine whl_start 100 ?_))))) | (with_reducible (((with_reducible show wpAny _ _ (eval (Expr.GeneratorExp _ _ _ _) _) _ _ _); (refine halt_any ?_)))) | (with_reducible (((with_reducible show wpAny _ _ (call (Value.builtin "str.find") _) _ _ _); (refine find_no (by omega) (by omega) (by omega) (by assumption) ?_)))) | (with_reducible (((with_reducible show wpAny _ _ (exec (Stmt.While _ _ _ _) _) _ _ _); (k_dflt (refine whl_start 100 ?_))))) | (with_reducible (((with_reducible show WhlIf _ _ _); (first | (refine WhlIf.yes (by simp only [decide_eq_true_eq]; omega) ?_) | (refine WhlIf.no (by simp only [decide_eq_false_iff_not]; omega) ?_))))) | (k_end; kc_close) | walk1 | (((with_reducible show wpAny _ _ (pyIter (Value.ref _)) _ _ _); (with_reducible rename IsRange _ _ _ _ _ _ _ _ => R'); (with_reducible rename Fr _ _ _ _ => F'); (with_reducible rename News _ _ _ _ => N'); (refine range_none R' (by rfl) (by rfl) rfl F' N' ?_); clear R' F' N'; intro h' tk' F' N')) | (dsimp only [argC9]; walk1) | (k_unfold; (try dsimp only)) | (dsimp only [then9]) | (leave1; (try dsimp only))))
        unfold Halt
        refine' Gnx.gen_K (r := Str.ofString "\\-l") ?F ?N ?T ?C ?cd ?U ?t ?M ?hh ?hco ?hclos ?hcell ?h0 ?hx ?hkind ?hroom ?hz ?hiter ?helt ?hs ?_
        case F => k_asm
        case N => k_asm
        case T => k_asm
        case cd => exact rfl
        case C => kn_code
        case U => k_updF
        case t => assumption
        case M => k_mem
        case hh => rfl
        case hco => rfl
        case hclos => rfl
        case hcell => decide
        case h0 => rfl
        case hx => rfl
        case hkind => rfl
        case hroom => ktr_room
        case hz => decide
        case hs => intro _; with_unfolding_all rfl
        case hiter =>
          intro Q' hq
          walk1
          exact hq
        case helt =>
          intro C' code A' E' s₂ m₂ t9 hA hd hu hns hm
          refine MethodCall_ ?_
          refine MethodCall_ ?_
          refine ldG hns hm ?_
          refine GM.replace ?_
          refine callWith_method1 ?_
          refine spliced_more ?_
          refine Calls.Constant_str ?_
          refine spliced_more ?_
          refine Calls.Constant_str ?_
          refine spliced_none ?_
          refine Txo.replace_none (by decide +kernel) ?_
          refine GM.replace ?_
          refine callWith_method1 ?_
          refine spliced_more ?_
          refine Calls.Constant_str ?_
          refine spliced_more ?_
          refine Calls.Constant_str ?_
          refine spliced_none ?_
          refine Txo.replace_some (r := Str.ofString "\\-l") (by decide +kernel) (Nat.succ_ne_zero _) (Nat.succ_ne_zero _) (Nat.ne_of_lt (Nat.lt_succ_self _)) (by decide +kernel) (by decide +kernel) (by decide +kernel) (by decide +kernel) ?_
          exact ⟨⟨_, rfl⟩, _, _, rfl, fun _ _ e => e⟩
        intro b' h' tk' gs' ps' kB1 F' N' ht' J'
        try dsimp only at N'
        (repeat' (first | (with_reducible (((with_reducible show wpAny _ _ (call (Value.builtin "re.Pattern.sub") _) _ _ _); (k_dflt (refine Rsub.call_sub (by k_asm) (by k_asm) (by k_asm) (by k_mem) (by assumption) (by first | exact Rsub.fail_1 _ | exact Rsub.fail_2 _) (by decide) (by decide) ?_); intro h' t' tk' F' N'; (try k_sweep))))) | (with_reducible (((with_reducible show wpAny _ _ (getMethod (Value.ref 78) _ _) _ _ _); k_dflt (refine Rsub.getMethod_sub (by k_asm) (by k_asm) ?_)))) | (with_reducible (((with_reducible show wpAny _ _ (eval (Expr.Lambda _ _ _ _) _) _ _ _); (k_dflt (refine kla_eval (by rfl) ?_); k_dflt (refine' Lmx.lam_any ?F ?N ?T ?C ?cd ?U ?t ?cl ?_; (case F => k_asm); (case N => k_asm); (case T => k_asm); (case cd => exact rfl); (case C => kn_code); (case U => k_updF); (case t => assumption); (case cl => exact rfl)); intro f' o' ps' h' tk' hfc F' N' ht' l1; (try dsimp only at N'); (try k_lt l1))))) | (with_reducible (((with_reducible show wpAny _ _ (call (Value.ref _) [_]) _ _ _); k_dflt (refine Bnd.call_K (by k_asm) (by k_asm) (by k_mem) (by k_upd) ?_ (by first | assumption | size_fits)); intro h' F' N'; (try k_sweep)))) | (with_reducible (((with_reducible show wpAny _ _ (callWith _ (Value.ref _) _ (backTo _ (starEach (_ :: _) _)) []) _ _ _); k_dflt (refine Bnd.callWith_bound (by k_asm) (by k_mem) ?_)))) | (with_reducible (((with_reducible show WTurn _ _ _ _ _ _ _); dsimp only [WTurn]))) | (with_reducible (((with_reducible show Bnd.StandsAt _ _ _ ∧ _); k_dflt (refine ⟨Bnd.at_of (by k_asm) (by k_mem), ?_⟩); (try dsimp only [List.nil_append, List.cons_append])))) | (k_end; kc_close) | walk1 | (((with_reducible show wpAny _ _ (call (Value.builtin "str.join") _) _ _ _); ((rename Gnx.Ready _ _ _ _ _ _ _ _ _ _ => J'); (refine J' _ _ _ _ (by decide) ?_); clear J'; intro h' t' k gs kB9' F' N'; (try k_sweep)))) | (dsimp only [argC9]; walk1) | (k_unfold; (try dsimp only)) | (dsimp only [then9]) | (leave1; (try dsimp only))))
        rename News _ _ _ _ => N9
        exact ⟨_, _, _, _, _, rfl, (by assumption), news_tail (news_tail (news_tail N9)), ⟨rfl, rfl, rfl, rfl, rfl, ⟨_, rfl⟩, ⟨_, rfl⟩, ⟨_, _, _, rfl, (by assumption), hos.snoc hk ⟨_, congrArg (fun z => Value.str z _) (by decide +kernel)⟩⟩⟩, kB1.trans (by assumption)⟩
  case done =>
    rintro m₁ news₁ h tk gs hBt ⟨e1, e2, e3, e4, e5, ⟨ti, e6⟩, ⟨tn, e7⟩, ⟨vs, n, ps, rfl, htr, hos⟩⟩ Fi Ni
    rw [names7 e1 e2 e3 e4 e5 e6 e7] at Fi
    clear e1 e2 e3 e4 e5 e6 e7
    rw [List.take_length] at hos
    (repeat' (first | (with_reducible (((with_reducible show WhlIf _ _ _); (first | (refine WhlIf.yes (by simp only [decide_eq_true_eq]; omega) ?_) | (refine WhlIf.no (by simp only [decide_eq_false_iff_not]; omega) ?_))))) | (k_end; kc_close) | walk1 | (dsimp only [argC9]; walk1) | (k_unfold; (try dsimp only)) | (dsimp only [then9]) | (leave1; (try dsimp only))))
    rename News h₀ L _ _ => kN
    exact hret _ _ _ _ _ ⟨_, _, _, _, rfl, rfl, htr, hos⟩ (by with_reducible assumption) (news_tail kN) (fun b o hb e => Fi.keep b o (KB b o hb e)) hBt

/-- what stands of the table of _law_stream -/
def TabS (T : List (Addr × Obj)) : Prop := T = [(167, tabObj #[])] ∨ ∃ c oc, T = [(167, tabObj #[rawInt 148, rawInt 4, .ref c]), (c, oc)] ∧ ReadCode oc
theorem law_stream_ok {w : World} {o : List UInt8} {tk : Tok} {T led : List (Addr × Obj)} (hO : o.length < 2 ^ 20) (hT : TabS T) (ht : ∀ p ∈ led, p.1 ≠ 167) (hc : ∀ q ∈ T, q.1 ≠ 167 → ∀ p ∈ led, p.1 ≠ q.1) :
    Meet w 172 [.bytes o.toArray tk] 100 200 (T ++ led) (StreamOk w o led) (fun _ => False) := by
  rcases hT with rfl | ⟨c, oc, rfl, hoc⟩
  · exact law_stream_1 w o tk hO led ht
  · by_cases h7 : c = 167
    · subst h7
      intro p loose mean mg mb dp un gd cn cs a ccd cl outer A₀ base h₀ L m s Q E B F X N T hk hdp hu hret herr
      exfalso
      have e1 := (N _ (.head _)).1
      have e2 := (N _ (.tail _ (.head _))).1
      rw [e1] at e2
      obtain ⟨vs, t, hd, hv⟩ := hoc
      obtain rfl := Option.some.inj e2
      cases hd
      cases hv
    · exact law_stream_2 w o tk hO led c oc hoc h7 ht (fun p hp => hc _ (.tail _ (.head _)) h7 p hp)
def Kd.txt : Kd → Str
  | .keep c => ⟨#[c]⟩
  | .blank => Str.ofString "\\ "
  | .quest => Str.ofString "."
  | .star => Str.empty
  | .brk o => o
def Kd.fit : Kd → Nat → Bool
  | .keep c => (· == c)
  | .blank => (· == 32)
  | .quest => fun _ => true
  | .star => fun _ => false
  | .brk o => if o = Str.ofString "[^d]" then (· != 100) else fun c => c == 92 || c == 45 || c == 108
/-- a written pattern: the kind of its head, and the kinds behind the star -/
structure Pat where
  pp : Str
  o : Nat
  h : Kd
  t : List Kd
abbrev Pat.ks (P : Pat) : List Kd := P.h :: .star :: P.t
structure PatOk (P : Pat) (w : World) : Prop where
  hz : P.pp.length = pl P.o P.ks.length
  hz2 : P.t.length ≤ 2
  ho : P.o = 0 ∨ (P.o = 3 ∧ ∃ b, P.ks[0]? = some (.brk b))
  hat : ∀ i k, P.ks[i]? = some k → Txt.item P.pp (pl P.o i : Nat) = ⟨#[k.sign]⟩
  hkeep : ∀ c, Kd.keep c ∈ P.ks → c ≠ 42 ∧ c ≠ 63 ∧ c ≠ 91 ∧ findBy Value.isInt (Spc.es w.params) (c : Int) = none
  hstar : ∀ i, P.ks[i]? = some .star → ∃ i0 k0, i = i0 + 1 ∧ P.ks[i0]? = some k0 ∧ k0 ≠ .star
  hbrk : ∀ i b, P.ks[i]? = some (.brk b) → i = 0 ∧ P.o = 3 ∧ ((b = Str.ofString "[^d]" ∧ BrkD P.pp) ∨ (b = Str.ofString "[\\-l]" ∧ BrkL P.pp))
  fits : ∀ k ∈ P.h :: P.t, k ≠ .star ∧ FitOk k.txt k.fit
/-- the rule of a pattern -/
def Pat.takes (P : Pat) (x : Str) : Bool := P.h.fit (signAt x 0) && (P.t.zipIdx.all fun q => q.1.fit (signAt x ((x.length : Int) - P.t.length + (q.2 : Nat))))
/-- what _law_list gives: the items, and what is left -/
inductive Listed (P : Pat) (o : List UInt8) : List Item → Option (List UInt8) → Prop
  | noName (h : counted o = none) : Listed P o [] none
  | noNum {d : List UInt8} (h : counted o = some (d, [])) : Listed P o [] none
  | reads {d r : List UInt8} {n : UInt8} {its : List Item} {oo : Option (List UInt8)} (h : counted o = some (d, n :: r)) (R : Reads P.takes n.toNat Str.empty false r its oo) : Listed P o its oo
theorem Kd.out_str {st : Addr} {k : Kd} {v : Value} (hk : k ≠ .star) (h : k.Out st v) : ∃ t, v = .str k.txt t := by
  cases k with
  | star => exact absurd rfl hk
  | _ => exact h
def partsOf (ks : List Kd) (ts : List Tok) : List Part := List.zipWith (fun k t => (k.txt, k.fit, t)) ks ts
theorem outs_parts {st : Addr} : ∀ {ks : List Kd} {vs : List Value}, (∀ k ∈ ks, k ≠ .star) → OutsL st ks vs → ∃ ts : List Tok, ts.length = ks.length ∧ vs = (partsOf ks ts).map fun p => Value.str p.1 p.2.2
  | [], [], _, _ => ⟨[], rfl, rfl⟩
  | k :: ks, v :: vs, hs, h => by
    obtain ⟨t, rfl⟩ := Kd.out_str (hs k (.head _)) h.1
    obtain ⟨ts, e, rfl⟩ := outs_parts (fun k hk => hs k (.tail _ hk)) h.2
    exact ⟨t :: ts, by simp [e], rfl⟩
  | [], _ :: _, _, h => h.elim
  | _ :: _, [], _, h => h.elim
theorem partsOf_length {ks : List Kd} {ts : List Tok} (h : ts.length = ks.length) : (partsOf ks ts).length = ks.length := by
  unfold partsOf; rw [List.length_zipWith, h]; exact Nat.min_self _
theorem partsOf_fit {ks : List Kd} : ∀ {ts : List Tok}, ∀ p ∈ partsOf ks ts, (∀ k ∈ ks, FitOk k.txt k.fit) → FitOk p.1 p.2.1 := by
  induction ks with
  | nil => intro ts p hp; cases ts <;> cases hp
  | cons k ks ih =>
    intro ts p hp hf
    cases ts with
    | nil => cases hp
    | cons t ts =>
      rcases List.mem_cons.mp hp with rfl | hp
      · exact hf k (.head _)
      · exact ih p hp fun k hk => hf k (.tail _ hk)
theorem allFit_parts {ks : List Kd} {x : Str} {b : Int} : ∀ {ts : List Tok} {j : Nat}, ts.length = ks.length → (((partsOf ks ts).zipIdx j).all fun q => q.1.2.1 (signAt x (b + (q.2 : Nat)))) = ((ks.zipIdx j).all fun q => q.1.fit (signAt x (b + (q.2 : Nat)))) := by
  induction ks with
  | nil => intro ts j h; cases ts with | nil => rfl | cons _ _ => cases h
  | cons k ks ih =>
    intro ts j h
    cases ts with
    | nil => cases h
    | cons t ts =>
      show (_ && _) = (_ && _)
      rw [← ih (ts := ts) (j := j + 1) (by simpa using h)]
      rfl
theorem takes_parts {P : Pat} {t0 : Tok} {ts : List Tok} (h : ts.length = P.t.length) (x : Str) : takes (partsOf [P.h] [t0]) (partsOf P.t ts) x = P.takes x := by
  unfold takes Pat.takes allFit
  rw [allFit_parts (ks := [P.h]) (ts := [t0]) rfl, allFit_parts h, partsOf_length h]
  simp

section
variable {prog : Program} {w : World} {A A₀ : Around} {E : Value → Shared → Prop} {s s' : Shared} {K : Frag} {L a e : Addr} {h₀ base g h : Heap} {m mg mb : Str → Option Value} {p : Program} {loose : List Str} {mean : ExcName → Option Value} {news : List (Addr × Obj)}
/-- the end of a call in which an exception was caught: the slots of the caller's frame may be others -/
inductive LeaveT (h₀ : Heap) (L : Addr) (m : Str → Option Value) (g : Heap) (R : Result → Shared → Prop) (v : Value) (s' : Shared) : Prop
  | mk (g' L' m' news') (k1 : KtsTurn [L] g g') (k2 : Fr g' L' s'.heap m') (k3 : News g' L' s'.heap news') (k4 : (Fr h₀ L s'.heap m → News h₀ L s'.heap news' → R (.ok (.ret v)) s'))
theorem leaveT {R : Result → Shared → Prop} {v : Value} (FG : Fr h₀ L g m) (hl : LeaveT h₀ L m g R v s') : R (.ok (.ret v)) s' := by
  obtain ⟨g', L', m', news', T, F', N', k⟩ := hl
  obtain ⟨oL, es, ep, hL, hLd, hLk, hLf⟩ := FG.ns
  obtain ⟨sl, hL'⟩ := T.up hL
  have hne : ∀ b o, h₀.get? b = some o → b ∉ [L] := fun b o q hm => by
    rcases List.mem_cons.mp hm with e | hm
    · exact Nat.lt_irrefl _ (Nat.lt_of_lt_of_le (e ▸ Heap.lt_size q : L < h₀.objs.size) FG.above)
    · cases hm
  refine k ⟨⟨{ oL with slots := sl }, es, ep, F'.keep _ _ hL', hLd, hLk, hLf⟩, fun b o q => F'.keep b o (T.other b o (FG.keep b o q) (hne b o q)), FG.above⟩ fun q hq => ⟨(N' q hq).1, fun z => ?_, ?_⟩
  · have := (N' q hq).2.2
    rw [z, hL'] at this; cases this
  · cases r : h₀.get? q.1 with
    | none => rfl
    | some o =>
      have := T.other _ _ (FG.keep _ _ r) (hne _ _ r)
      rw [(N' q hq).2.2] at this; cases this
theorem code_defT {env : Env} {outer : List Env} {R : Result → Shared → Prop} {name qual : Str} {params : Arguments} {body : List Stmt} {scope : Scope} {dV kV doc pm cdv ct oc : Value} {an od : Option Addr} {osl : Array (Option Value)} {f : Addr} {args : Args} {binds : List (Str × Value)}
    (B : Below A₀ base outer h₀) (F : Fr h₀ L s.heap m) (X₀ : K.In h₀) (N : News h₀ L s.heap news) (T : Top p loose mean mg mb h₀) (hA : A.frames = some (env :: outer)) (hf : env.frame = some L) (hke : env.scope.kind = .function)
    (ho : K.lookup f = some ⟨oc, od, .func (fnOf name qual params body scope dV kV doc pm an cdv ct), osl⟩) (hcd : codeIn K cdv qual = true) (hroom : A.depth < recursionLimit)
    (hbind : BindsTo s (fnOf name qual params body scope dV kV doc pm an cdv ct) args binds) (hkind : (binds.all fun y => scope.names.lookup y.1 == some .local || scope.names.lookup y.1 == some .cell) = true)
    (hnd : ((cellsFrom 0 scope.names []).map (·.1)).Nodup)
    (h : ∀ g L' h₁ tk cells, Fr h₀ L g m → Fr g L' h₁ (bindL (envOfC qual scope L' f cdv).kindOf binds fun _ => none) → News g L' h₁ (cells ++ news) →
      CellsAre (bindC (envOfC qual scope L' f cdv).kindOf binds fun _ => none) (cellsFrom (L' + 1) scope.names []) cells → Below A base (env :: outer) g → K.In g → Top p loose mean mg mb g → (∀ p ∈ news, p.1 < L') →
      wpAny (model prog w) (A.deeper (envOfC qual scope L' f cdv)) (execs body (envOfC qual scope L' f cdv))
        (fun fl s' => LeaveT h₀ L m g R (match fl with | .ret v => v | _ => .none) s')
        (fun e s' => wpAny (model prog w) (A.deeper (envOfC qual scope L' f cdv)) (leaving (envOfC qual scope L' f cdv) e) (fun _ s'' => R (.error e) s'') (fun e' s'' => R (.error e') s'') s')
        { s with heap := h₁, toks := tk })
    (hco : scope.isCoroutine = false) (hgen : scope.isGenerator = false) (hk : scope.kind = .function) : codeAny (model prog w) A (.call (.ref f) args) R s := by
  obtain ⟨FG, BG, st, -⟩ := groundX (R := R) B F N hA hf hke
  refine codeAny_call_function hroom ((X₀.keeps F.keep) _ _ ho) rfl hco hgen rfl (codeRec_of (X₀.keeps F.keep) hcd) (hbind _ _ _ _ ?_)
  refine wpAny_newFunctionEnv_cells hk (kindsX hkind _) fun env' he s' x => ?_
  subst he
  refine ⟨(T.nolimit.keeps F.keep).keeps x.toInCall.keep, codeAny_func ?_⟩
  obtain ⟨h₁, tk, rfl, _⟩ := x.done
  have kept := x.toInCall.keep
  obtain ⟨cells, NC, Y⟩ := Cl.news (h₀ := s.heap) (Nat.le_refl _) fun n c hm => ⟨x.cell n c (lookup_of_mem_nodup (cellsFrom_names scope.names 0 (s.heap.objs.size + 1) [] [] rfl ▸ hnd) hm), x.above n c hm⟩
  refine wpAny_mono (h _ s.heap.objs.size h₁ tk cells FG ⟨x.toInCall.ns, fun b o e => kept b o (of_hideAll _ e), Nat.le_of_eq (hideAll_size _ _)⟩ (fun p hp => ?_) Y BG (X₀.keeps st) (T.keeps st) (fun p hp => Heap.lt_size (N p hp).1)) (fun fl s' hl => leaveT FG hl) fun _ _ y => y
  rcases List.mem_append.mp hp with hp | hp
  · refine ⟨(NC p hp).1, (NC p hp).2.1, ?_⟩
    cases q : (hideAll s.heap (news.map (·.1))).get? p.1 with
    | none => rfl
    | some o => have := of_hideAll _ q; rw [(NC p hp).2.2] at this; cases this
  · exact ⟨kept _ _ (N p hp).1, Nat.ne_of_lt (Heap.lt_size (N p hp).1), hideAll_none _ (List.mem_map_of_mem hp)⟩
/-- the same stack over a wider ground -/
theorem below_hide {envC : Env} (B : Below A base [envC] g) (hf : envC.frame = some L) : Below A (hideAll g [L]) [envC] g :=
  ⟨B.stack, fun b o q => of_hideAll _ q, funFrames_hide B.frames fun env he b hb => by
    rcases List.mem_cons.mp he with rfl | he
    · rw [hf] at hb
      exact Option.some.inj hb ▸ List.mem_cons_self ..
    · cases he⟩
theorem turn_ground {envC : Env} {B h₅ : Heap} {L' : Addr} {m' : Str → Option Value} (K₀ : Below A₀ (hideAll g [L]) [envC] g) (hf : envC.frame = some L) (F : Fr g L' h m') (hB : (hideAll g [L]).StaysIn B) (hBh : B.StaysIn h₅) (hsm : h.UpToSlots h₅) :
    ∃ g₅, KtsTurn [L] g g₅ ∧ Fr g₅ L' h₅ m' := by
  have fr : ∃ o, g.get? L = some o ∧ ∀ vs, o.data ≠ .fields vs := by
    obtain ⟨-, ⟨L₁, o, h1, -, h3, h4⟩, -⟩ := K₀.frames
    rw [hf] at h1
    exact ⟨o, Option.some.inj h1 ▸ h3, h4⟩
  obtain ⟨T, S⟩ := kts_turn_at (h := h₅) (fs := [L]) (g := g)
    (fun b hb => by
      rcases List.mem_cons.mp hb with rfl | hb
      · exact ⟨_, fr.choose_spec.1⟩
      · cases hb)
    (fun b o q nm => hBh b o (hB b o (hideAll_get _ q nm)))
    (fun b o q hm => by
      rcases List.mem_cons.mp hm with rfl | hm
      · obtain ⟨o', h1, h2⟩ := fr
        rw [q] at h1; cases h1
        exact hsm b o (F.keep b o q) h2
      · cases hm)
  exact ⟨_, T, hsm.ns F.ns, S, by rw [T.size]; exact F.above⟩
end
section
variable {prog : Program} {w : World} {A₀ : Around} {E : Value → Shared → Prop} {s' : Shared} {g h : Heap} {L L' a e : Addr} {m : Str → Option Value} {name : Str} {scope : Scope} {cd : Value} {cl : List (Str × Addr)} {envC : Env}
  {b₀ : Stmt} {suite : List Stmt} {pos np : Pos} {rest : List ExceptHandler} {Q : Flow → Shared → Prop} {news : List (Addr × Obj)} {KF : Frag}
  {p : Program} {loose : List Str} {mean : ExcName → Option Value} {mg mb : Str → Option Value} {x : Str} {X T' : String}
/-- an exception that came out of a call, caught in a function that the law has called -/
theorem caught_X (K₀ : Below A₀ (hideAll g [L]) [envC] g) (hfC : envC.frame = some L) (F : Fr g L' h m) (hsm : h.UpToSlots s'.heap) (R : RaisedN (hideAll g [L]) (envX name scope L' a cd cl :: [envC]) e (.type X) news s'.heap)
    (hXT : ∀ g', KtsTurn [L] g g' → KF.In g' ∧ TopRead p loose mg mb g')
    (ex : nsIn KF mainGlobals x = some none) (hv : bootBuiltins x = some (.type T')) (hn' : x ≠ "__name__")
    (hexc : isSubtype (.type T') (.type "BaseException") = pure true) (hnt : isSubtype (.type ((Manifest.find? T').elim "type" fun y => y.metatype)) (.type "tuple") = pure false) (hsub : isSubtype (.type X) (.type T') = pure true)
    (k : ∀ h' g', KtsTurn [L] g g' → Fr g' L' h' m → News g' L' h' news →
      wpAny (model prog w) ((A₀.deeper (envX name scope L' a cd cl)).mark (some (.ref e))) (execs (b₀ :: suite) (envX name scope L' a cd cl)) Q E { s' with heap := h' })
    (hk : scope.kind = .function := by rfl) (hx : (envX name scope L' a cd cl).kindOf x = some .globalImplicit := by rfl) (hd : (x == ("__debug__" : Str)) = false := by decide)
    (hE : PassesOwnAt (model prog w) ((A₀.deeper (envX name scope L' a cd cl)).mark (some (.ref e))) (A₀.deeper (envX name scope L' a cd cl)) (envX name scope L' a cd cl) E := by passes_own) :
    wpAny (model prog w) (A₀.deeper (envX name scope L' a cd cl)) (noteFrame (.ref e) (envX name scope L' a cd cl))
      (fun _ s₂ => wpAny (model prog w) (A₀.deeper (envX name scope L' a cd cl)) (setFlight (.ref e) none) (fun _ s₃ =>
        wpAny (model prog w) (A₀.deeper (envX name scope L' a cd cl)) (handleBy (.ref e) (envX name scope L' a cd cl) (.ExceptHandler (some (.Name x np)) none (b₀ :: suite) pos :: rest)) Q E s₃) E s₂) E s' := by
  obtain ⟨B, a0, hB, hl, hfl⟩ := R
  have hL : B.get? L' = none := by
    obtain ⟨_, ⟨L₁, _, hf, hn', _⟩, _⟩ := hfl.2.2.1
    obtain rfl : L' = L₁ := Option.some.inj hf
    exact hn'
  have hLL : L ≠ L' := fun q => by
    obtain ⟨-, ⟨L₁, o, h1, -, h3, -⟩, -⟩ := K₀.frames
    rw [hfC] at h1
    obtain rfl := Option.some.inj h1
    exact Nat.lt_irrefl _ (Nat.lt_of_lt_of_le (q ▸ Heap.lt_size h3 : L' < g.objs.size) F.above)
  refine wpAny_looks_onW (Around.frames_deeper K₀.stack) rfl hfl fun h₄ held₄ sm₄ => ?_
  refine wpAny_landsW held₄ fun h₅ held₅ sm₅' => ?_
  have sm₅ := hsm.trans (sm₄.trans sm₅')
  obtain ⟨g₅, T₅, F₅⟩ := turn_ground K₀ hfC F hB held₅.1 sm₅
  obtain ⟨X₅, P₅⟩ := hXT g₅ T₅
  obtain ⟨ob, hob, hobc⟩ := held₅.there
  refine wpAny_handleBy_builtin (X := X) (T := T') (b := true) hexc hnt hsub (nameX_B F₅ X₅ P₅ ex hv hn' ⟨rfl, ⟨ob, hob, hobc⟩, ?_⟩ hk hx hd)
  refine lands_againW held₅ fun h₆ fl₆ sm₆ => ?_
  obtain ⟨g₆, T₆, F₆⟩ := turn_ground K₀ hfC F hB fl₆.1 (sm₅.trans sm₆)
  refine wpAny_passesOwnAt hE (k h₆ g₆ T₆ F₆ fun q hq => ⟨fl₆.1 _ _ (hl q hq).1, (fun z => by have := (hl q hq).1; rw [z, hL] at this; cases this), T₆.none_ _ ?_⟩)
  cases r : g.get? q.1 with
  | none => rfl
  | some o =>
    by_cases z : q.1 ∈ [L]
    · exfalso
      rcases List.mem_cons.mp z with z | z
      · have hb := (hl q hq).1
        have : B.get? L = none := by
          obtain ⟨-, -, -, ⟨L₁, _, hf, hn₁, _⟩, -⟩ := hfl.2.2.1
          rw [hfC] at hf
          obtain rfl := Option.some.inj hf
          exact hn₁
        rw [z, this] at hb; cases hb
      · cases z
    · have := (hl q hq).2
      rw [hideAll_get _ r z] at this; cases this
end

theorem resetV1 : True := by w_top off; trivial
theorem len_list {prog : Program} {w : World} {A : Around} {E : Value → Shared → Prop} {s : Shared} {h₀ : Heap} {L l : Addr} {vs : Array Value} {n : Nat} {news : List (Addr × Obj)} {Q : Value → Shared → Prop} (N : News h₀ L s.heap news) (hm : (l, listOf vs n) ∈ news) (hz : vs.size ≤ 1000) (h : ∀ t' k, Q (.int (vs.size : Nat) t') { s with toks := k }) : wpAny (model prog w) A (call (.builtin "len") [.ref l]) Q E s :=
  PySem.Calls.call_len_list (News.isList N hm) (by lia) (h _ _)
/-- the promise of a call that may change the generators, and raises nothing -/
def MeetG (w : World) (f : Addr) (args : List Value) (D U : Nat) (led : List (Addr × Obj)) (Ok : Value → List (Addr × Obj) → Prop) : Prop :=
  ∀ (p : Program) (loose : List Str) (mean : ExcName → Option Value) (mg mb : Str → Option Value) (dp un : Nat) (gd : Option (List Code)) (cn : Str) (cs : Scope) (a : Addr) (ccd : Value) (cl : List (Str × Addr)) (A₀ : Around) (base h₀ : Heap) (L : Addr) (m : Str → Option Value) (s : Shared)
    (Q E : Value → Shared → Prop),
    Below A₀ base [] h₀ → Fr h₀ L s.heap m → (hd.heap_39 w.params).In h₀ → News h₀ L s.heap led → Top p loose mean mg mb h₀ → cs.kind = .function → dp + D < recursionLimit → un + U < cLine →
    (∀ r led' h' tk' gs', Ok r led' → Fr h₀ L h' m → News h₀ L h' led' → BareTo s.gens gs' → Q r { s with heap := h', toks := tk', gens := gs' }) →
    wpAny (model PP w) (ktrTop dp un gd cn cs L a ccd cl []) (call (.ref f) args) Q E s
/-- the last thing of the list -/
def Last : Option (List UInt8) → Value → Prop
  | none, v => ∃ t, v = .str (Str.ofString "short") t
  | some r, v => ∃ t, v = .bytes r.toArray t
theorem allLt_of {d : Addr} : ∀ {l : List (Addr × Obj)}, (∀ q ∈ l, q.1 < d) → AllLt d l
  | [], _ => trivial
  | _ :: _, h => ⟨h _ (.head _), allLt_of fun q hq => h q (.tail _ hq)⟩
theorem news_tab {h₀ h : Heap} {L : Addr} {a1 a2 x : Addr × Obj} {Tb led TL : List (Addr × Obj)} (N : News h₀ L h (a1 :: a2 :: TL)) (hTL : Tb ++ x :: led = TL) : News h₀ L h (Tb ++ a1 :: a2 :: x :: led) := by
  subst hTL
  refine news_sub N fun q hq => ?_
  simp only [List.mem_append, List.mem_cons] at hq ⊢
  rcases hq with h | h | h | h | h <;> simp only [h, true_or, or_true]
theorem At.start (o : List UInt8) : At o 0 o := ⟨0, rfl, Nat.zero_le _, rfl⟩
theorem news_led2 {h₀ h : Heap} {L : Addr} {S : Sm} {i : Int} {tp : Tok} {n : Nat} {a1 a2 : Addr × Obj} {rest : List (Addr × Obj)} (N : News h₀ L h (a1 :: a2 :: S.led i tp n rest)) : News h₀ L h (S.led i tp n (a1 :: a2 :: rest)) := by
  exact news_sub N (perm_sub [a1, a2, _, _, _, _, _, _, _] rest [2, 3, 4, 5, 6, 7, 8, 0, 1] rfl)
theorem off_list {h₀ h : Heap} {L : Addr} {S : Sm} {i : Int} {tp : Tok} {n : Nat} {x1 x2 : Addr} {o1 o2 : Obj} {ps : Array Value} {c1 c2 : Addr} {oc1 oc1' oc2 oc2' : Obj} {ps0 : Array Value} {led : List (Addr × Obj)}
    (N : News h₀ L h ((x1, o1) :: (x2, o2) :: S.led i tp n ((167, tabObj ps) :: (c1, oc1) :: (c2, oc2) :: (92, tabObj ps0) :: led))) (hAp : S.Apart ((c1, oc1') :: (c2, oc2') :: (92, tabObj ps0) :: led)) (h1 : x1 ≠ S.l) (h2 : x2 ≠ S.l) :
    S.Off ((x1, o1) :: (x2, o2) :: (167, tabObj ps) :: (c1, oc1) :: (c2, oc2) :: (92, tabObj ps0) :: led) := by
  intro q hq
  simp only [List.mem_cons] at hq
  rcases hq with rfl | rfl | rfl | rfl | rfl | rfl | hq
  · exact h1
  · exact h2
  · exact news_ne N (.tail _ (.tail _ (led_in _ (.head _)))) (.tail _ (.tail _ led_l)) (by intro e; cases e)
  · exact hAp.l (c1, oc1') (.head _)
  · exact hAp.l (c2, oc2') (.tail _ (.head _))
  · exact hAp.l (92, tabObj ps0) (.tail _ (.tail _ (.head _)))
  · exact hAp.l q (.tail _ (.tail _ (.tail _ hq)))
theorem stays_turn {h₀ g g1 : Heap} {L : Addr} {m : Str → Option Value} (FG : Fr h₀ L g m) (T : KtsTurn [L] g g1) : h₀.StaysIn g1 := fun b o q => T.other b o (FG.keep b o q) fun hm => by
  rcases List.mem_cons.mp hm with e | hm
  · exact Nat.lt_irrefl _ (Nat.lt_of_lt_of_le (e ▸ Heap.lt_size q : L < h₀.objs.size) FG.above)
  · cases hm
theorem news_pick {h₀ h : Heap} {L : Addr} {l : Addr} {lo : Obj} {T X rest : List (Addr × Obj)} {x : Addr × Obj} (N : News h₀ L h ((l, lo) :: X)) (hs : ∀ q ∈ T ++ x :: rest, q ∈ X) : News h₀ L h (T ++ x :: (l, lo) :: rest) := by
  refine news_sub N fun q hq => ?_
  rcases List.mem_append.mp hq with hq | hq
  · exact .tail _ (hs q (List.mem_append_left _ hq))
  rcases List.mem_cons.mp hq with rfl | hq
  · exact .tail _ (hs _ (List.mem_append_right _ (.head _)))
  rcases List.mem_cons.mp hq with rfl | hq
  · exact .head _
  · exact .tail _ (hs q (List.mem_append_right _ (.tail _ hq)))
theorem news_92 {h₀ h : Heap} {L : Addr} {a1 a2 a3 a4 a5 a6 a7 a8 a9 b1 b2 b3 x : Addr × Obj} {led : List (Addr × Obj)} (N : News h₀ L h (a1 :: a2 :: a3 :: a4 :: a5 :: a6 :: a7 :: a8 :: a9 :: b1 :: b2 :: b3 :: x :: led)) : News h₀ L h ([x] ++ (a1 :: a2 :: a3 :: a4 :: a5 :: a6 :: a7 :: a8 :: a9 :: b1 :: b2 :: b3 :: led)) := by
  exact news_sub N (perm_sub [a1, a2, a3, a4, a5, a6, a7, a8, a9, b1, b2, b3, x] led [12, 0, 1, 2, 3, 4, 5, 6, 7, 8, 9, 10, 11] rfl)
theorem MeetXG.use {w : World} {f : Addr} {args : List Value} {D U : Nat} {X : List (Addr × Obj)} {Ok : Value → List (Addr × Obj) → Prop} (H : MeetXG w f args D U X Ok) {rest : List (Addr × Obj)} (hx : ∀ q ∈ rest, q.1 ∉ X.map (·.1))
    {p : Program} {loose : List Str} {mean : ExcName → Option Value} {mg mb : Str → Option Value} {dp un : Nat} {gd : Option (List Code)} {cn : Str} {cs : Scope} {a : Addr} {ccd : Value} {cl : List (Str × Addr)} {outer : List Env} {A₀ : Around} {base h₀ : Heap} {L : Addr} {m : Str → Option Value} {s : Shared}
    {Q E : Value → Shared → Prop} (B : Below A₀ base outer h₀) (F : Fr h₀ L s.heap m) (X' : (hd.heap_39 w.params).In h₀) (N : News h₀ L s.heap (X ++ rest)) (T : Top p loose mean mg mb h₀) (hk : cs.kind = .function) (hdp : dp + D < recursionLimit) (hu : un + U < cLine)
    (ret : ∀ r led' h' tk' gs', Ok r led' → Fr h₀ L h' m → News h₀ L h' (led' ++ rest) → BareTo s.gens gs' → Q r { s with heap := h', toks := tk', gens := gs' }) :
    wpAny (model PP w) (ktrTop dp un gd cn cs L a ccd cl outer) (call (.ref f) args) Q E s := by
  refine H p loose mean mg mb dp un gd cn cs a ccd cl outer A₀ base h₀ L m s Q E B F X' (fun q hq => N q (List.mem_append_left _ hq)) T hk hdp hu fun r led' h' tk' gs' ok F' N' k kb => ret r led' h' tk' gs' ok F' (fun q hq => ?_) kb
  rcases List.mem_append.mp hq with hq | hq
  · exact N' q hq
  · exact ⟨k _ _ (hx q hq) (N q (List.mem_append_right _ hq)).1, (N q (List.mem_append_right _ hq)).2⟩
theorem cell_ne {h₀ h : Heap} {L : Addr} {news : List (Addr × Obj)} (N : News h₀ L h news) {a b : Addr} {vs : Array Value} {n : Nat} {o : Obj} {v : Option Value} (h1 : (a, listOf vs n) ∈ news) (h2 : (b, o) ∈ news) (hd : o.data = .cell v) : a ≠ b := by
  rintro rfl
  have e1 := (N _ h1).1
  have e2 := (N _ h2).1
  rw [e1] at e2
  have e3 := Option.some.inj e2
  dsimp only at e3
  rw [← e3] at hd
  cases hd
theorem comp_range {prog : Program} {w : World} {A : Around} {E : Value → Shared → Prop} {s : Shared} {h₀ : Heap} {L : Addr} {m : Str → Option Value} {env : Env} {elt iter : PySem.Expr} {x : Str} {px : Pos} {ifs : List PySem.Expr} {scope : Scope} {cl : List (Str × Addr)} {pos : Pos} {Q : Value → Shared → Prop} {pz : Int → Bool} {d : Int → PyData}
    (_F : Fr h₀ L s.heap m) (hh : A.handled = none) (hclos : closureFor scope env = pure cl) (hcell : ∀ y ∈ scope.names, y.2 ≠ .cell) (hkind : scope.kind = .function)
    (hnames : ∀ y ∈ scope.names, y.2 = .local → scope.names.lookup y.1 = some .local) (hx : scope.names.lookup x = some .local)
    (h : wpAny (model prog w) A (eval iter env) (fun xv s₁ => Halt (∃ news : List (Addr × Obj), ∃ r a₀ b₀ c₀ t₀ u₀ v₀, ∃ n : Nat, xv = .ref r ∧ IsRange s₁.heap r a₀ b₀ c₀ t₀ u₀ v₀ ∧ Builtin.Range.small a₀ b₀ c₀ = true ∧ Builtin.Range.rangeSize a₀ b₀ c₀ = (n : Int) ∧ n ≤ sizeLine ∧ Fr h₀ L s₁.heap m ∧ News h₀ L s₁.heap news ∧
      (∀ C a v s₂ m₂ E', s₁.heap.objs.size ≤ C → a ∈ rangeInts a₀ c₀ n → ItemKind.int.is a v → s₂.heap.Ns (compEnvC scope cl C env).locals m₂ → m₂ x = some v → (∀ b o, s₁.heap.get? b = some o → s₂.heap.get? b = some o) →
        wpAny (model prog w) A (forIn ifs true fun c r => if r = true then do let ok ← isTrue c (compEnvC scope cl C env) (eval c (compEnvC scope cl C env)); pure (ForInStep.yield ok) else pure (ForInStep.yield r))
          (fun ok s₃ => ok = pz a ∧ Keeps s₂ s₃) E' s₂) ∧
      (∀ C a v s₂ m₂ E', s₁.heap.objs.size ≤ C → a ∈ rangeInts a₀ c₀ n → ItemKind.int.is a v → pz a = true → s₂.heap.Ns (compEnvC scope cl C env).locals m₂ → m₂ x = some v → (∀ b o, s₁.heap.get? b = some o → s₂.heap.get? b = some o) →
        wpAny (model prog w) A (eval elt (compEnvC scope cl C env)) (fun y s₃ => Carried y (d a) ∧ Keeps s₂ s₃) E' s₂) ∧
      (∀ D (ys : List Value) h' tk, Fr h₀ L h' m → News h₀ L h' news → h₀.get? D = none → h'.IsList D ys.toArray → NewPlain h' news D ys.toArray → CarriedAll ys (((rangeInts a₀ c₀ n).filter pz).map d) → Q (.ref D) { s₁ with heap := h', toks := tk }))) E s)
    (hs : ∀ x, foldedSetIterable iter env x = pure x) :
    wpAny (model prog w) A (eval (.ListComp elt [⟨.Name x px, iter, ifs, 0⟩] scope pos) env) Q E s := ListComp_DCr hh hclos hcell hkind hnames hx h hs
theorem shape_of {st : Addr} {P : Pat} {vs : Array Value} (hf : ∀ k ∈ P.h :: P.t, k ≠ .star ∧ FitOk k.txt k.fit) (h : Outs st P.ks vs) : ∃ (t0 : Tok) (ts : List Tok), ts.length = P.t.length ∧ vs = (Value.str P.h.txt t0 :: Value.ref st :: (partsOf P.t ts).map fun p => Value.str p.1 p.2.2).toArray := by
  obtain ⟨l⟩ := vs
  unfold Outs at h
  match l, h with
  | v0 :: v1 :: rest, ⟨h0, h1, h2⟩ =>
    obtain ⟨t0, rfl⟩ := Kd.out_str (hf _ (.head _)).1 h0
    obtain rfl : v1 = .ref st := h1
    obtain ⟨ts, e, rfl⟩ := outs_parts (fun k hk => (hf k (.tail _ hk)).1) h2
    exact ⟨t0, ts, e, rfl⟩
  | [_], ⟨_, h1⟩ => exact h1.elim
  | [], h => exact h.elim
theorem shape_str {P : Pat} {st : Addr} {t0 : Tok} {ts : List Tok} {vs : Array Value} {a : Int} (h : vs = (Value.str P.h.txt t0 :: Value.ref st :: (partsOf P.t ts).map fun p => Value.str p.1 p.2.2).toArray) (h0 : 0 ≤ a) (h1 : a < (vs.size : Nat)) (hne : a ≠ 1) : ∃ x u, vs[a.toNat]? = some (.str x u) := by
  obtain ⟨n, rfl⟩ := Int.eq_ofNat_of_zero_le h0
  rw [Int.toNat_natCast]
  subst h
  match n with
  | 0 => exact ⟨_, _, rfl⟩
  | 1 => exact absurd rfl hne
  | n + 2 =>
    have hl : n < (partsOf P.t ts).length := by
      simp only [List.size_toArray, List.length_cons, List.length_map] at h1
      lia
    refine ⟨(partsOf P.t ts)[n].1, (partsOf P.t ts)[n].2.2, ?_⟩
    rw [List.getElem?_toArray, List.getElem?_cons_succ, List.getElem?_cons_succ, List.getElem?_map, List.getElem?_eq_getElem hl]
    rfl
theorem shape_one {P : Pat} {st : Addr} {t0 : Tok} {ts : List Tok} {vs : Array Value} (h : vs = (Value.str P.h.txt t0 :: Value.ref st :: (partsOf P.t ts).map fun p => Value.str p.1 p.2.2).toArray) : vs[(1 : Int).toNat]? = some (.ref st) := by
  subst h; rfl
theorem at_one {n : Nat} {ys : List Value} (h0 : n ≤ 4) (h1 : 2 ≤ n) (h : CarriedAll ys (List.map (fun a => PyData.int a) (List.filter (fun a => a == 1) (rangeInts 0 1 n)))) : ∃ t, ys = [.int 1 t] := by
  have e : List.map (fun a => PyData.int a) (List.filter (fun a => a == 1) (rangeInts 0 1 n)) = [.int 1] := by
    rcases (show n = 2 ∨ n = 3 ∨ n = 4 by lia) with rfl | rfl | rfl <;> rfl
  rw [e] at h
  cases h with
  | cons hc hr =>
    cases hc
    cases hr
    exact ⟨_, rfl⟩
theorem item_one {prog : Program} {w : World} {A : Around} {E : Value → Shared → Prop} {s : Shared} {value slice : PySem.Expr} {l : Addr} {v : Value} {u : Tok} {Q : Value → Shared → Prop} (hl : s.heap.IsList l [v].toArray) (h : Q v s)
    (hs : subscripted slice false (.ref l) (.int 0 u) = operate [.ref l, .int 0 u] (getItem (.ref l) (.int 0 u)) := by with_unfolding_all rfl) :
    wpAny (model prog w) A (subscriptTail value slice (.ref l) (.int 0 u)) Q E s :=
  tail_any hl.typeIs slot_list_getitem.lookup (wpAny_getItem_list hl (by decide) (by decide) (by rfl) h) hs
theorem pick_head {P : Pat} {st : Addr} {t0 : Tok} {ts : List Tok} {vs : Array Value} (h : vs = (Value.str P.h.txt t0 :: Value.ref st :: (partsOf P.t ts).map fun p => Value.str p.1 p.2.2).toArray) : kms_pick vs.toList none (some 1) = (partsOf [P.h] [t0]).map fun p => Value.str p.1 p.2.2 := by
  subst h
  simp [kms_pick, kms_lo, kms_hi, partsOf]
theorem pick_tail {P : Pat} {st : Addr} {t0 : Tok} {ts : List Tok} {vs : Array Value} (h : vs = (Value.str P.h.txt t0 :: Value.ref st :: (partsOf P.t ts).map fun p => Value.str p.1 p.2.2).toArray) : kms_pick vs.toList (some (1 + 1)) none = (partsOf P.t ts).map fun p => Value.str p.1 p.2.2 := by
  subst h
  unfold kms_pick kms_lo kms_hi
  simp
  exact List.take_of_length_le (by simp)
theorem off92 {S : Sm} {c1 c2 s1 s2 : Addr} {o1 o2 o3 p1 p2 p3 p4 p5 p6 p7 p8 p9 q1 q2 q3 x3 : Obj} {led : List (Addr × Obj)} (hAp : S.Apart ((c1, o1) :: (c2, o2) :: (92, o3) :: led)) (hs : s1 ≠ 92) (ht : s2 ≠ 92) (h1 : c1 ≠ 92) (h2 : c2 ≠ 92) (hl : ∀ q ∈ led, q.1 ≠ 167 ∧ q.1 ≠ 92) :
    ∀ q ∈ (S.x, p1) :: (S.d, p2) :: (S.f, p3) :: (S.c, p4) :: (S.l, p5) :: (S.cp, p6) :: (S.co, p7) :: (s1, p8) :: (s2, p9) :: (167, q1) :: (c1, q2) :: (c2, q3) :: led, q.1 ∉ [((92 : Addr), x3)].map (·.1) := by
  intro q hq hm0
  have hm : q.1 = 92 := by
    rcases List.mem_cons.mp hm0 with e | e
    · exact e
    · cases e
  clear hm0
  have k : ((92 : Addr), o3) ∈ (c1, o1) :: (c2, o2) :: ((92 : Addr), o3) :: led := .tail _ (.tail _ (.head _))
  simp only [List.mem_cons] at hq
  rcases hq with rfl | rfl | rfl | rfl | rfl | rfl | rfl | rfl | rfl | rfl | rfl | rfl | hq
  · exact hAp.x _ k hm.symm
  · exact hAp.d _ k hm.symm
  · exact hAp.f _ k hm.symm
  · exact hAp.c _ k hm.symm
  · exact hAp.l _ k hm.symm
  · exact hAp.p _ k hm.symm
  · exact hAp.o _ k hm.symm
  · exact hs hm
  · exact ht hm
  · exact (by decide : (167 : Nat) ≠ 92) hm
  · exact h1 hm
  · exact h2 hm
  · exact (hl q hq).2 hm
theorem list_ne {h₀ h : Heap} {L : Addr} {news : List (Addr × Obj)} (N : News h₀ L h news) {a b : Addr} {vs ws : Array Value} {n k : Nat} (h1 : (a, listOf vs n) ∈ news) (h2 : (b, listOf ws k) ∈ news) (hz : vs.size ≠ ws.size) : a ≠ b := by
  rintro rfl
  have e1 := (N _ h1).1
  have e2 := (N _ h2).1
  rw [e1] at e2
  have e3 := congrArg Obj.data (Option.some.inj e2)
  exact hz (congrArg Array.size (Data.seq.inj e3).1)
theorem news_walk {h₀ h : Heap} {L : Addr} {S : Sm} {i : Int} {tp : Tok} {n : Nat} {a1 a2 a3 b1 b2 b3 : Addr × Obj} {rest : List (Addr × Obj)} (N : News h₀ L h (a1 :: a2 :: a3 :: S.led i tp n (b1 :: b2 :: b3 :: rest))) : News h₀ L h (S.led i tp n (b3 :: a1 :: a3 :: a2 :: b1 :: b2 :: rest)) := by
  exact news_sub N (perm_sub [a1, a2, a3, _, _, _, _, _, _, _, b1, b2, b3] rest [3, 4, 5, 6, 7, 8, 9, 12, 0, 2, 1, 10, 11] rfl)
theorem off_rest {S : Sm} {x1 x2 x3 x4 x5 x6 x7 : Addr} {o1 o2 o3 o4 o5 o6 o7 p1 p2 p4 p5 p6 p7 : Obj} {led : List (Addr × Obj)} (h : S.Off ((x1, o1) :: (x2, o2) :: (x3, o3) :: (x4, o4) :: (x5, o5) :: (x6, o6) :: (x7, o7) :: led)) : S.Off ((x1, p1) :: (x2, p2) :: (x4, p4) :: (x5, p5) :: (x6, p6) :: (x7, p7) :: led) :=
  apart_perm [(x1, o1), (x2, o2), (x3, o3), (x4, o4), (x5, o5), (x6, o6), (x7, o7)] [(x1, p1), (x2, p2), (x4, p4), (x5, p5), (x6, p6), (x7, p7)] led [0, 1, 3, 4, 5, 6] rfl rfl h
theorem rest_ne {e x1 x2 x4 x5 x6 x7 : Addr} {p1 p2 p4 p5 p6 p7 : Obj} {led : List (Addr × Obj)} (h1 : x1 ≠ e) (h2 : x2 ≠ e) (h4 : x4 ≠ e) (h5 : x5 ≠ e) (h6 : x6 ≠ e) (h7 : x7 ≠ e) (hl : ∀ q ∈ led, q.1 ≠ e) : ∀ q ∈ (x1, p1) :: (x2, p2) :: (x4, p4) :: (x5, p5) :: (x6, p6) :: (x7, p7) :: led, q.1 ≠ e := by
  intro q hq
  simp only [List.mem_cons] at hq
  rcases hq with rfl | rfl | rfl | rfl | rfl | rfl | hq
  · exact h1
  · exact h2
  · exact h4
  · exact h5
  · exact h6
  · exact h7
  · exact hl q hq
theorem reads_pat {P : Pat} {t0 : Tok} {ts : List Tok} (h : ts.length = P.t.length) {n : Nat} {a : Str} {hd : Bool} {r : List UInt8} {its : List Item} {oo : Option (List UInt8)} (R : Reads (takes (partsOf [P.h] [t0]) (partsOf P.t ts)) n a hd r its oo) : Reads P.takes n a hd r its oo :=
  (funext fun x => takes_parts h x : takes (partsOf [P.h] [t0]) (partsOf P.t ts) = P.takes) ▸ R
theorem place_ne {h₀ h : Heap} {L : Addr} {news : List (Addr × Obj)} (N : News h₀ L h news) {a b : Addr} {vs : Array Value} {n k : Nat} {i : Int} {tp : Tok} (h1 : (a, listOf vs n) ∈ news) (h2 : (b, placeOf i tp k) ∈ news) (hz : 2 ≤ vs.size) : a ≠ b := by
  rintro rfl
  have e1 := (N _ h1).1
  have e2 := (N _ h2).1
  rw [e1] at e2
  have e3 := congrArg Obj.data (Option.some.inj e2)
  have e4 : vs = #[Value.int i tp] := (Data.seq.inj e3).1
  rw [e4] at hz
  exact absurd hz (by simp)
theorem off_two {S : Sm} {a1 a2 a3 b1 b2 : Addr × Obj} {o4 o4' oR : Obj} {R : Addr} {led : List (Addr × Obj)} (h : S.Off (a1 :: a2 :: a3 :: b1 :: b2 :: (92, o4') :: led)) (hR : R ≠ S.l) : S.Off ((R, oR) :: (92, o4) :: a1 :: a2 :: a3 :: b1 :: b2 :: led) :=
  apart_perm [(R, oR), a1, a2, a3, b1, b2, (92, o4')] [(R, oR), (92, o4), a1, a2, a3, b1, b2] led [0, 6, 1, 2, 3, 4, 5] rfl rfl (List.forall_mem_cons.mpr ⟨hR, h⟩)
theorem off_any {S : Sm} {l l' : List (Addr × Obj)} (h : S.Off l) (e : l'.map (·.1) = l.map (·.1)) : S.Off l' := by
  intro q hq
  have : q.1 ∈ l.map (·.1) := e ▸ List.mem_map_of_mem hq
  obtain ⟨x, hx, e2⟩ := List.mem_map.mp this
  exact e2 ▸ h x hx
theorem news_in {h₀ h h' : Heap} {L C : Addr} {news : List (Addr × Obj)} (N : News h₀ L h news) (hk : ∀ b o, h.get? b = some o → h'.get? b = some o) (hC : h.objs.size ≤ C) : News h₀ C h' news := fun q hq => ⟨hk _ _ (N q hq).1, Nat.ne_of_lt (Nat.lt_of_lt_of_le (Heap.lt_size (N q hq).1) hC), (N q hq).2.2⟩
section
variable {prog : Program} {w : World} {A : Around} {E : Value → Shared → Prop} {s : Shared} {value slice : PySem.Expr} {h₀ : Heap} {L l : Addr} {vs : Array Value} {n : Nat} {v : Value} {k : Int} {u : Tok} {news : List (Addr × Obj)} {Q : Value → Shared → Prop}
theorem item_arr (N : News h₀ L s.heap news) (hm : (l, listOf vs n) ∈ news) (hx : vs[k.toNat]? = some v) (h0 : 0 ≤ k) (hk : k < 2000) (h : Q v s)
    (hs : subscripted slice false (.ref l) (.int k u) = operate [.ref l, .int k u] (getItem (.ref l) (.int k u)) := by with_unfolding_all rfl) :
    wpAny (model prog w) A (subscriptTail value slice (.ref l) (.int k u)) Q E s :=
  tail_any (News.isList N hm).typeIs slot_list_getitem.lookup (wpAny_getItem_list (News.isList N hm) h0 (by lia) hx h) hs
theorem ldK_elt {scope : Scope} {cl : List (Str × Addr)} {C : Addr} {env : Env} {m : Str → Option Value} {x : Str} {pos : Pos} (hns : s.heap.Ns (compEnvC scope cl C env).locals m) (hmx : m x = some v) (h : Q v s)
    (hk : (compEnvC scope cl C env).scope.kind = .function := by rfl) (hx : (compEnvC scope cl C env).kindOf x = some .local := by rfl) (hb : (x == ("__debug__" : Str)) = false := by decide) :
    wpAny (model prog w) A (eval (.Name x pos) (compEnvC scope cl C env)) Q E s := wpAny_Name (wpAny_loadName_local hk hx hns hmx h) hb
end
theorem At.rest {o r : List UInt8} {i : Int} (h : At o i r) : KBy.picked o.toArray (some i) none = r.toArray := by
  obtain ⟨j, rfl, a, rfl⟩ := h
  rw [KBc.picked_eq]
  congr 1
  simp only [Option.elim, clipAt_nat, List.size_toArray]
  rw [Nat.min_eq_left a]
  exact List.take_of_length_le (by rw [List.length_drop]; exact Nat.le_refl _)
theorem news_fin {h₀ h : Heap} {L : Addr} {S : Sm} {i : Int} {tp : Tok} {n sz2 : Nat} {l b rule hA tA x1 x4 : Addr} {bo o1 o4 so p1 p2 p3 ps : Obj} {vs : List Value} {lv : Value} {c1 c2 : Addr × Obj} {tups led : List (Addr × Obj)} {seen : Addr} {co : Obj}
    (N : News h₀ L h ((l, listOf (vs.toArray.toList ++ (#[lv] : Array Value).toList).toArray sz2) :: (b, bo) :: S.led i tp n ((seen, so) :: (rule, p1) :: (hA, p2) :: (tA, p3) :: (tups ++ ((x1, o1) :: (92, ps) :: (x4, o4) :: (167, co) :: c1 :: c2 :: led))))) :
    News h₀ L h ([(167, co), (S.c, S.oc)] ++ (92, ps) :: (l, listOf (vs ++ [lv]).toArray sz2) :: (tups ++ led)) := by
  refine news_sub N fun q hq => ?_
  simp only [Sm.led, List.mem_cons, List.mem_append, List.not_mem_nil, or_false] at hq ⊢
  rcases hq with (h | h) | h | h | h | h
  · simp only [h, true_or, or_true]
  · simp only [h, true_or, or_true]
  · simp only [h, true_or, or_true]
  · exact .inl h
  · simp only [h, true_or, or_true]
  · simp only [h, true_or, or_true]
/-- what a listing gives back, and what then stands -/
inductive ListOk (P : Pat) (o : List UInt8) (led : List (Addr × Obj)) (r : Value) (led' : List (Addr × Obj)) : Prop
  | mk (l vs sz its oo lv tups Tb' ps) (k1 : r = .ref l) (k2 : Listed P o its oo) (k3 : Seen its vs tups) (k4 : Last oo lv) (k5 : TabS Tb') (k6 : TriplesOk ps.toList) (k7 : led' = Tb' ++ (92, tabObj ps) :: (l, listOf (vs ++ [lv]).toArray sz) :: (tups ++ led))
theorem law_list_ok {w : World} {P : Pat} (hP : PatOk P w) {o : List UInt8} {tk : Tok} (hO : o.length ≤ 100) (hpat : ∀ d r, counted o = some (d, r) → strOf d = P.pp) {Tb led : List (Addr × Obj)} {ps0 : Array Value} (hT : TabS Tb) (ht0 : TriplesOk ps0.toList)
    (hl1 : ∀ p ∈ led, p.1 ≠ 167 ∧ p.1 ≠ 92) (hl2 : ∀ q ∈ Tb, q.1 ≠ 92 ∧ (q.1 ≠ 167 → ∀ p ∈ led, p.1 ≠ q.1)) :
    MeetG w 212 [.bytes o.toArray tk] 300 8000 (Tb ++ (92, tabObj ps0) :: led) (ListOk P o led) := by
  have hfill : PySem.Challenge.rw_in0217_01 = PySem.Challenge.rw_in0217_01 ∧ hd.heap_39 = hd.heap_39 := by (k_fill; exact ⟨rfl, rfl⟩)
  clear hfill
  intro p loose mean mg mb dp un gd cn cs a ccd cl A₀ base h₀ L m s Q E B F X N T hk hdp hu hret
  have CH1 := code171 X
  generalize hTL : Tb ++ (92, tabObj ps0) :: led = TL at N
  refine wpAny_call ?_
  k_dflt (refine' code_defT ?k1 ?k2 ?k3 ?k4 ?k5 ?kA ?kF ?kK ?k6 ?k7 ?k8 ?k9 ?kB ?kD ?_ ?c2 ?c3 ?c4; (case kA => exact rfl); (case kF => exact rfl); (case kK => assumption); (case k1 => k_asm); (case k2 => k_asm); (case k3 => k_asm); (case k4 => k_asm); (case k5 => k_asm); (case k6 => k_is); (case k7 => k_is); (case k8 => ktr_room); (case k9 => exact BindsTo.of_eq rfl); (case kB => exact rfl); (case kD => decide +kernel); (case c2 => exact rfl); (case c3 => exact rfl); (case c4 => exact rfl); k_whole; intro g' L' h' tk' cells' FG' F' N' Y' B' X' T' l1; (try k_lt l1); k_cells Y'; (try simp only [List.cons_append, List.nil_append] at N'); (try dsimp only); (try k_lift B'); (try (refine wp_letQ ?_; intro Q9 X9)); (try (refine wp_letA ?_; intro A9)); (try (refine wp_letE ?_; intro E9)))
  have B9 := below_hide (L := L) B' rfl
  clear B'
  have hlt : ∀ q ∈ TL, q.1 < L' := l1
  have hlt7 : 167 < L' := by
    rcases hT with rfl | ⟨c, oc, rfl, _⟩
    · exact hlt _ (by rw [← hTL]; exact .head _)
    · exact hlt _ (by rw [← hTL]; exact .head _)
  have hltT : ∀ q ∈ Tb, q.1 < L' := fun q hq => hlt q (by rw [← hTL]; exact List.mem_append_left _ hq)
  (repeat' (first | (with_reducible (((with_reducible show wpAny _ _ (call (Value.ref 172) _) _ _ _); k_dflt (refine halt_call ?_)))) | (k_end; kc_close) | walk1 | (dsimp only [argC9]; walk1) | (k_unfold; (try dsimp only)) | (dsimp only [then9]) | (leave1; (try dsimp only))))
  unfold Halt
  rename News g' L' _ _ => N1
  refine Meet.use (law_stream_ok (T := Tb) (by lia) hT ?h1 ?h2) (by k_asm) (by k_asm) (by k_asm) (news_tab N1 hTL) (by k_asm) (by first | rfl | assumption) (by ktr_room) (by ktr_units) ?_ (fun _ _ _ _ _ h => h.elim)
  case h1 =>
    intro q hq
    simp only [List.mem_cons] at hq
    rcases hq with rfl | rfl | rfl | hq
    · exact Nat.ne_of_gt (Nat.lt_trans hlt7 (Nat.lt_succ_of_lt (Nat.lt_succ_self _)))
    · exact Nat.ne_of_gt (Nat.lt_trans hlt7 (Nat.lt_succ_self _))
    · exact (by decide : (92 : Nat) ≠ 167)
    · exact (hl1 q hq).1
  case h2 =>
    intro q hq h7 x hx
    have := hltT q hq
    simp only [List.mem_cons] at hx
    rcases hx with rfl | rfl | rfl | hx
    · exact Nat.ne_of_gt (Nat.lt_trans this (Nat.lt_succ_of_lt (Nat.lt_succ_self _)))
    · exact Nat.ne_of_gt (Nat.lt_trans this (Nat.lt_succ_self _))
    · exact (hl2 q hq).1.symm
    · exact (hl2 q hq).2 h7 x hx
  rintro v1 led1 h1 tk1 ⟨S, tp, n, rfl, rfl, hRC, hAp, hS⟩ F1 N2
  obtain ⟨hl7, -⟩ : AllLt L' [(167, tabObj #[])] := allLt_of fun q hq => by
    rcases List.mem_cons.mp hq with rfl | hq
    · exact hlt7
    · cases hq
  obtain ⟨hlt9, hA9⟩ : AllLt L' ((92, tabObj ps0) :: led) := allLt_of fun q hq => hlt q (by rw [← hTL]; exact List.mem_append_right _ hq)
  have c1 := neN (hAp.x _ (.head _))
  have c2 := neN (hAp.d _ (.head _))
  have c3 := neN (hAp.f _ (.head _))
  have c4 := neN (hAp.c _ (.head _))
  have c5 := neN (hAp.l _ (.head _))
  have c6 := neN (hAp.p _ (.head _))
  have c7 := neN (hAp.o _ (.head _))
  have d1 := neN (hAp.x _ (.tail _ (.head _)))
  have d2 := neN (hAp.d _ (.tail _ (.head _)))
  have d3 := neN (hAp.f _ (.tail _ (.head _)))
  have d4 := neN (hAp.c _ (.tail _ (.head _)))
  have d5 := neN (hAp.l _ (.tail _ (.head _)))
  have d6 := neN (hAp.p _ (.tail _ (.head _)))
  have d7 := neN (hAp.o _ (.tail _ (.head _)))
  dsimp only at hlt9 hl7 c1 c2 c3 c4 c5 c6 c7 d1 d2 d3 d4 d5 d6 d7
  dsimp only [Sm.led] at N2
  (repeat' (first | (with_reducible (((with_reducible show wpAny _ _ (exec (Stmt.Try _ _ _ _ _) _) _ _ _); (k_dflt (refine wpAny_Try_except ?_))))) | (with_reducible (((with_reducible show wpAny _ _ (call (Value.ref 45) _) _ _ _); k_dflt (refine halt_call ?_)))) | (k_end; kc_close) | walk1 | (dsimp only [argC9]; walk1) | (k_unfold; (try dsimp only)) | (dsimp only [then9]) | (leave1; (try dsimp only))))
  unfold Halt
  rename News g' L' _ _ => N3
  have hoff : S.Off _ := off_list N3 hAp ((by k_ne)) ((by k_ne))
  refine string1_go (ok := hS) (N := news_led2 N3) (att := At.start o) (off := hoff) (ret := ?ret1) (err := ?err1)
  case err1 =>
    rintro e h3 tk3 g₂ i3 tp3 n3 hr R3 F3 U3
    refine caught_X (KF := hd.heap_39 w.params) B9 rfl F3 U3 R3 (fun g1 T1 => ⟨X.keeps (stays_turn FG' T1), topRead_of (T.keeps (stays_turn FG' T1))⟩) (by k_is) PyProof.Rows.Boot.«ValueError» (by decide) PySem.F.isExc_ValueError PySem.F.notTuple_ValueError (by rw [isSubtype_type]; kernel_rfl) ?_
    intro h4 g1 T1 F4 N4
    have X1 := X.keeps (stays_turn FG' T1)
    have T2 := T.keeps (stays_turn FG' T1)
    clear F3 U3 R3 X' T' B9 N3
    (try dsimp only [Sm.led] at N4)
    (repeat' (first | (with_reducible (((with_reducible show wpAny _ _ (binaryOp _ (Value.ref _) (Value.ref _)) _ _ _); k_dflt (refine kmk_add_lit (by k_asm) (by k_asm) (by exact News.isList (by k_asm) (by k_mem)) (by exact News.isList (by k_asm) (by k_mem)) (by rfl) ?_ (by (simp only [sizeLine_eq, List.length_cons, List.length_nil]; lia))); intro D' h' F' N' l1; (try k_sweep)))) | (k_end; kc_close) | walk1 | (dsimp only [argC9]; walk1) | (k_unfold; (try dsimp only)) | (dsimp only [then9]) | (leave1; (try dsimp only))))
    rename News g1 L' _ _ => N5
    refine ⟨g1, L', _, _, T1, (by assumption), N5, fun F6 N6 => hret _ _ _ _ _ ⟨_, [], _, [], none, _, [], [(167, tabObj #[rawInt 148, rawInt 4, .ref S.c]), (S.c, S.oc)], ps0, rfl, .noName hr, .nil, ⟨_, rfl⟩, .inr ⟨_, _, rfl, hRC⟩, ht0, rfl⟩ F6 (news_pick N6 ?_) BareTo.refl⟩
    intro q hq
    simp only [List.cons_append, List.nil_append, List.mem_cons] at hq ⊢
    rcases hq with h | h | h | h <;> simp only [h, true_or, or_true]
  case ret1 =>
    rintro d r1 t3 i3 tp3 n3 h3 tk3 hc hat F3 N4
    have hd1 : (⟨(d.map UInt8.toNat).toArray⟩ : Str) = P.pp := hpat d r1 hc
    rw [hd1]
    clear N3
    (try dsimp only [Sm.led] at N4)
    (repeat' (first | (with_reducible (((with_reducible show wpAny _ _ (call (Value.ref 97) _) _ _ _); k_dflt (refine halt_call ?_)))) | (k_end; kc_close) | walk1 | (dsimp only [argC9]; walk1) | (k_unfold; (try dsimp only)) | (dsimp only [then9]) | (leave1; (try dsimp only))))
    unfold Halt
    rename News g' L' _ _ => N5
    refine MeetXG.use (tr_t ht0 hP.hz (by have := hP.hz2; simp only [Pat.ks, List.length_cons]; lia) (List.cons_ne_nil _ _) hP.ho hP.hat hP.hkeep hP.hstar hP.hbrk) ?hx (by k_asm) (by k_asm) (by k_asm) (news_92 N5) (by k_asm) (by first | rfl | assumption) (by ktr_room) (by ktr_units) ?ret2
    case hx => exact off92 hAp ((by k_ne)) ((by k_ne)) ((by k_ne)) ((by k_ne)) hl1
    case ret2 =>
      rintro v2 led2 h5 tk5 gs5 ⟨R, vs, nR, ps, rfl, rfl, htr, hos⟩ F6 N6 hBt
      dsimp only [List.cons_append, List.nil_append] at N6
      have hR1 := neN (cell_ne N6 (.head _) (.tail _ (.tail _ (.tail _ (.tail _ (.tail _ (.tail _ (.tail _ (.tail _ (.tail _ (.tail _ (.tail _ (.tail _ (.head _))))))))))))) (by assumption))
      have hR2 := neN (cell_ne N6 (.head _) (.tail _ (.tail _ (.tail _ (.tail _ (.tail _ (.tail _ (.tail _ (.tail _ (.tail _ (.tail _ (.tail _ (.tail _ (.tail _ (.head _)))))))))))))) (by assumption))
      try dsimp only at hR1 hR2
      obtain ⟨t0, ts, hts, hvs1⟩ := shape_of hP.fits hos
      have hvs : vs.size = P.t.length + 2 := by rw [hos.size]; simp
      have hvz : vs.size ≤ 1000 := by have := hP.hz2; lia
      (repeat' (first | (with_reducible (((with_reducible show wpAny _ _ (eval (Expr.ListComp _ _ _ _) _) _ _ _); (refine halt_any ?_)))) | (k_end; kc_close) | walk1 | (dsimp only [argC9]; walk1) | (k_unfold; (try dsimp only)) | (dsimp only [then9]) | (leave1; (try dsimp only))))
      unfold Halt
      rename Fr g' L' _ _ => F8
      refine' comp_range F8 (pz := fun a => a == 1) (d := fun a => .int a) rfl ?hclos ?hcell rfl ?hnames rfl ?hit ?hs
      case hclos => rfl
      case hcell => decide
      case hnames => decide
      case hs => intro _; rfl
      case hit =>
        (repeat' (first | (with_reducible (((with_reducible show wpAny _ _ (call (Value.builtin "len") [Value.ref _]) _ _ _); k_dflt (refine len_list (by k_asm) (by k_mem) (by assumption) ?_); intro _ _))) | (k_end; kc_close) | walk1 | (dsimp only [argC9]; walk1) | (k_unfold; (try dsimp only)) | (dsimp only [then9]) | (leave1; (try dsimp only))))
        unfold Halt
        rename IsRange _ _ _ _ _ _ _ _ => R9
        rename News g' L' _ _ => N9
        rename Fr g' L' _ _ => F9
        refine ⟨_, _, _, _, _, _, _, _, vs.size, rfl, R9, small_of _ (by lia), by rw [rangeSize_one]; split <;> lia, by rw [sizeLine_eq]; lia, F9, N9, ?tests, ?elt, ?fin⟩
        case tests =>
          rintro C a' v s₂ m₂ E' hC ha ⟨t9, rfl⟩ hns hmx hk
          have hr := mem_rangeInts ha
          have hCL : L' < C := Nat.lt_of_lt_of_le F9.ns.lt hC
          have F8 : Fr g' C s₂.heap (fun z => if z = Str.ofString "k" then some (.int a' t9) else m₂ z) := ⟨names_put hmx ▸ hns, fun b o e => hk _ _ (F9.keep b o e), Nat.le_trans F9.above (Nat.le_of_lt hCL)⟩
          have N8 := news_in N9 hk hC
          rw [List.forIn_cons, if_pos rfl]
          clear F9 N9 hmx hns
          by_cases h1 : a' = 1
          · subst h1
            have hitem := shape_one hvs1
            refine wpAny_bind (wpAny_bind (wpAny_isTrue_Compare1 (Subscript_ ?_)))
            refine' kcf_cell N8 ?c1 ?m1 ?d1 ?_
            case c1 => rfl
            case m1 => k_mem
            case d1 => assumption
            refine ldK_elt F8.ns rfl ?_
            refine item_arr N8 (.head _) hitem (by lia) (by lia) ?_
            refine' kcf_cell N8 ?c2 ?m2 ?d2 ?_
            case c2 => rfl
            case m2 => k_mem
            case d2 => assumption
            refine wpAny_is_ref_self (wpAny_truthy_bool ?_)
            exact wpAny_pure (wpAny_pure ⟨rfl, s₂.heap, _, rfl, fun _ _ e => e⟩)
          · obtain ⟨x9, u9, hitem⟩ := shape_str hvs1 hr.1 (by lia) h1
            refine wpAny_bind (wpAny_bind (wpAny_isTrue_Compare1 (Subscript_ ?_)))
            refine' kcf_cell N8 ?c1 ?m1 ?d1 ?_
            case c1 => rfl
            case m1 => k_mem
            case d1 => assumption
            refine ldK_elt F8.ns rfl ?_
            refine item_arr N8 (.head _) hitem (by lia) (by lia) ?_
            refine' kcf_cell N8 ?c2 ?m2 ?d2 ?_
            case c2 => rfl
            case m2 => k_mem
            case d2 => assumption
            refine wpAny_is_other (by rfl) (by intro x; cases x) (wpAny_truthy_bool ?_)
            exact wpAny_pure (wpAny_pure ⟨by simp [h1], s₂.heap, _, rfl, fun _ _ e => e⟩)
        case elt =>
          rintro C a' v s₂ m₂ E' hC ha ⟨t9, rfl⟩ hp hns hmx hk
          exact ldK_elt hns hmx ⟨.int _ _, s₂.heap, s₂.toks, rfl, fun _ _ e => e⟩
        case fin =>
          intro D ys h9 tk9 F10 N10 hD hlist hplain hcar
          obtain ⟨t9, rfl⟩ := at_one (by have := hP.hz2; lia) (by lia) hcar
          clear hplain hD N9 F9 R9 hcar
          (repeat' (first | (with_reducible (((with_reducible show wpAny _ _ (call (Value.ref 38) _) _ _ _); k_dflt (refine halt_call ?_)))) | (with_reducible (((with_reducible show wpAny _ _ (subscriptTail _ _ (Value.ref _) (Value.int 0 _)) _ _ _); k_dflt (refine item_one (by assumption) ?_)))) | (k_end; kc_close) | walk1 | (dsimp only [argC9]; walk1) | (k_unfold; (try dsimp only)) | (dsimp only [then9]) | (leave1; (try dsimp only))))
          unfold Halt
          rename News g' L' _ _ => N11
          have hRl : R ≠ S.l := place_ne N11 (.head _) (.tail _ (.tail _ led_l)) (by lia)
          have hoff2 := off_two (oR := listOf vs nR) (o4 := tabObj ps) hoff hRl
          have hp1 := pick_head hvs1
          have hp2 := pick_tail hvs1
          have hvz2 : vs.size ≤ sizeLine := by rw [sizeLine_eq]; lia
          have N13 := news_led2 N11
          refine' uint1_go (ok := hS) (N := N13) (att := hat) (off := ?off) (ret := ?ret3) (err := ?err3)
          case off => exact off_any hoff2 rfl
          case err3 =>
            clear N13
            rintro e h12 tk12 g₂ i4 tp4 n4 hr R3 F12 U3
            refine caught_X (KF := hd.heap_39 w.params) B9 rfl F12 U3 R3 (fun g1 T1 => ⟨X.keeps (stays_turn FG' T1), topRead_of (T.keeps (stays_turn FG' T1))⟩) (by k_is) PyProof.Rows.Boot.«ValueError» (by decide) PySem.F.isExc_ValueError PySem.F.notTuple_ValueError (by rw [isSubtype_type]; kernel_rfl) ?_
            intro h4 g1 T1 F4 N4
            have X1 := X.keeps (stays_turn FG' T1)
            have T2 := T.keeps (stays_turn FG' T1)
            clear F12 U3 R3 X' T' B9 N11
            (try dsimp only [Sm.led] at N4)
            (repeat' (first | (with_reducible (((with_reducible show wpAny _ _ (binaryOp _ (Value.ref _) (Value.ref _)) _ _ _); k_dflt (refine kmk_add_lit (by k_asm) (by k_asm) (by exact News.isList (by k_asm) (by k_mem)) (by exact News.isList (by k_asm) (by k_mem)) (by rfl) ?_ (by (simp only [sizeLine_eq, List.length_cons, List.length_nil]; lia))); intro D' h' F' N' l1; (try k_sweep)))) | (k_end; kc_close) | walk1 | (dsimp only [argC9]; walk1) | (k_unfold; (try dsimp only)) | (dsimp only [then9]) | (leave1; (try dsimp only))))
            rename News g1 L' _ _ => N5
            refine ⟨g1, L', _, _, T1, (by assumption), N5, fun F6 N6 => hret _ _ _ _ _ ⟨_, [], _, [], none, _, [], [(167, tabObj #[rawInt 148, rawInt 4, .ref S.c]), (S.c, S.oc)], ps, rfl, .noNum (hr ▸ hc), .nil, ⟨_, rfl⟩, .inr ⟨_, _, rfl, hRC⟩, htr, rfl⟩ F6 (news_pick N6 ?_) hBt⟩
            intro q hq
            simp only [List.cons_append, List.nil_append, List.mem_cons] at hq ⊢
            rcases hq with h | h | h | h <;> simp only [h, true_or, or_true]
          case ret3 =>
            rintro b4 r4 t4 i4 tp4 n4 h12 tk12 hr4 hat4 F12 N12
            clear N11 N13
            (try dsimp only [Sm.led] at N12)
            (repeat' (first | (with_reducible (((with_reducible show wpAny _ _ (subscriptTail _ (PySem.Expr.Slice _ _ none _) (Value.ref _) (Value.ref _)) _ _ _); k_dflt (refine kms_slice_lit (s := ⟨_, _, _, _, _⟩) (by k_asm) (by k_asm) (by exact News.isList (by k_asm) (by k_mem)) (by kmk_part) (by kmk_part) (by assumption) ?_ (by with_unfolding_all rfl) (by kmk_pure) (by assumption)); intro D' h' F' N' l1; (try k_lt l1); (try k_sweep)))) | (with_reducible (((with_reducible show wpAny _ _ (call (Value.ref 207) _) _ _ _); k_dflt (refine halt_call ?_)))) | (k_end; kc_close) | walk1 | (dsimp only [argC9]; walk1) | (k_unfold; (try dsimp only)) | (dsimp only [then9]) | (leave1; (try dsimp only))))
            unfold Halt
            rename News g' L' _ _ => N14
            have N15 := news_walk N14
            have hw4 := hat4.len
            refine' Meet.use (walk_ok hS (hs := partsOf [P.h] [t0]) (ts := partsOf P.t ts) ?hf ?tf ?hzz ?hsn ?hsr ?hsA ?hsT ?hnr ?hnh ?hnt 101 r4 i4 tp4 n4 b4.toNat _ _ _ _ _ _ _ ?hrM hat4 b4.toNat_lt ?hab ?hvz ?hoff ?hsee) (by k_asm) (by k_asm) (by k_asm) N15 (by k_asm) (by first | rfl | assumption) (by ktr_room) (by ktr_units) ?ret4 ?err4
            case hf =>
              refine fun q hq => partsOf_fit q hq fun k hk => ?_
              rcases List.mem_cons.mp hk with rfl | hk
              · exact (hP.fits _ (.head _)).2
              · cases hk
            case tf => exact fun q hq => partsOf_fit q hq fun k hk => (hP.fits _ (.tail _ hk)).2
            case hzz =>
              rw [partsOf_length rfl, partsOf_length hts]
              have := hP.hz2
              simp only [List.length_cons, List.length_nil]
              lia
            case hsn => exact ⟨(by k_ne), (by k_ne), (by k_ne), (by k_ne), (by k_ne), (by k_ne), (by k_ne)⟩
            case hsr => exact (by k_ne)
            case hsA => exact (by k_ne)
            case hsT => exact (by k_ne)
            case hnr => exact (by k_ne)
            case hnh => exact (by k_ne)
            case hnt => exact (by k_ne)
            case hrM => lia
            case hab => rw [show (Str.ofString "").length = 0 from rfl]; lia
            case hvz => rw [show (#[] : Array Value).size = 0 from rfl]; lia
            case hoff => exact off_rest hoff2
            case hsee => exact rest_ne (list_ne N15 (led_in _ (.tail _ (.tail _ (.tail _ (.tail _ (.head _)))))) (led_in _ (.head _)) (by rw [hvs]; exact Nat.succ_ne_zero _)) ((by k_ne)) ((by k_ne)) ((by k_ne)) ((by k_ne)) ((by k_ne)) (fun q hq => Nat.ne_of_lt (Nat.lt_trans (allLt_mem hA9 q hq) (by lia)))
            case err4 =>
              rintro e led5 h13 tk13 g₂ ⟨its, i5, tp5, n5, vs5, tups, sz5, hRd, hSn, rfl⟩ R3 F13 U3
              rw [show (#[] : Array Value) ++ vs5.toArray = vs5.toArray by simp] at R3
              refine caught_X (KF := hd.heap_39 w.params) B9 rfl F13 U3 R3 (fun g1 T1 => ⟨X.keeps (stays_turn FG' T1), topRead_of (T.keeps (stays_turn FG' T1))⟩) (by k_is) PyProof.Rows.Boot.«ValueError» (by decide) PySem.F.isExc_ValueError PySem.F.notTuple_ValueError (by rw [isSubtype_type]; kernel_rfl) ?_
              intro h4 g1 T1 F4 N4
              have X1 := X.keeps (stays_turn FG' T1)
              have T2 := T.keeps (stays_turn FG' T1)
              clear F13 U3 R3 X' T' B9 N14 N15
              have hl5 := hRd.len
              have hl6 := hSn.length
              have hv5 : vs5.length ≤ 1000 := by simp only [Option.elim] at hl5; lia
              dsimp only [Sm.led, wled, partsObj] at N4
              (repeat' (first | (with_reducible (((with_reducible show wpAny _ _ (binaryOp _ (Value.ref _) (Value.ref _)) _ _ _); k_dflt (refine kmk_add_lit (by k_asm) (by k_asm) (by exact News.isList (by k_asm) (by k_mem)) (by exact News.isList (by k_asm) (by k_mem)) (by rfl) ?_ (by (simp only [sizeLine_eq, List.length_cons, List.length_nil]; lia))); intro D' h' F' N' l1; (try k_sweep)))) | (k_end; kc_close) | walk1 | (dsimp only [argC9]; walk1) | (k_unfold; (try dsimp only)) | (dsimp only [then9]) | (leave1; (try dsimp only))))
              rename News g1 L' _ _ => N5
              refine ⟨g1, L', _, _, T1, (by assumption), N5, fun F6 N6 => hret _ _ _ _ _ ⟨_, vs5, _, its, none, _, tups, [(167, tabObj #[rawInt 148, rawInt 4, .ref S.c]), (S.c, S.oc)], ps, rfl, .reads (hr4 ▸ hc) (reads_pat hts hRd), hSn, ⟨_, rfl⟩, .inr ⟨_, _, rfl, hRC⟩, htr, rfl⟩ F6 (news_fin N6) hBt⟩
            case ret4 =>
              rintro v5 led5 h13 tk13 ⟨rfl, its, r5, i5, tp5, n5, vs5, tups, sz5, hRd, hat5, hSn, rfl⟩ F13 N16
              clear N14 N15
              rw [show (#[] : Array Value) ++ vs5.toArray = vs5.toArray by simp] at N16
              have hl5 := hRd.len
              have hl6 := hSn.length
              have hv5 : vs5.length ≤ 1000 := by lia
              have hw5 := hat5.len
              dsimp only [Sm.led, wled, partsObj] at N16
              (repeat' (first | (with_reducible (((with_reducible show wpAny _ _ (binaryOp _ (Value.ref _) (Value.ref _)) _ _ _); k_dflt (refine kmk_add_lit (by k_asm) (by k_asm) (by exact News.isList (by k_asm) (by k_mem)) (by exact News.isList (by k_asm) (by k_mem)) (by rfl) ?_ (by (simp only [sizeLine_eq, List.length_cons, List.length_nil]; lia))); intro D' h' F' N' l1; (try k_sweep)))) | (with_reducible (((with_reducible show wpAny _ _ (subscriptTail _ _ (Value.ref (Sm.l _)) (Value.int 0 _)) _ _ _); k_dflt (refine item_one (by exact News.isList (by k_asm) led_l) ?_)))) | (k_end; kc_close) | walk1 | (dsimp only [argC9]; walk1) | (k_unfold; (try dsimp only)) | (dsimp only [then9]) | (leave1; (try dsimp only))))
              rename News g' L' _ _ => N17
              refine ⟨g', L', _, _, KtsTurn.refl, (by assumption), N17, fun F6 N6 => hret _ _ _ _ _ ⟨_, vs5, _, its, some r5, _, tups, [(167, tabObj #[rawInt 148, rawInt 4, .ref S.c]), (S.c, S.oc)], ps, rfl, .reads (hr4 ▸ hc) (reads_pat hts hRd), hSn, ⟨_, congrArg (Value.bytes · _) hat5.rest⟩, .inr ⟨_, _, rfl, hRC⟩, htr, rfl⟩ F6 (news_fin N6) hBt⟩

section
variable {prog : Program} {w : World} {A : Around} {E : Value → Shared → Prop} {s : Shared} {h₀ : Heap} {L : Addr} {m : Str → Option Value} {env : Env}
/-- a test of numbers, asked of values -/
def intP (pz : Nat → Bool) : Value → Bool
  | .int k _ => pz k.toNat
  | _ => false
theorem paired_pick {pz : Nat → Bool} {vals : List Value} : ∀ {vs : List Value} {i : Nat} {ys : List Value}, (∀ (j : Nat) (v : Value), vs[j]? = some v → ∃ t, v = Value.int ((i + j : Nat) : Int) t) →
    Paired (fun (v r : Value) => ∃ (k : Nat) (t : Tok), v = Value.int k t ∧ vals[k]? = some r) (vs.filter (intP pz)) ys → ys = ((List.range' i vs.length).filter pz).map fun k => vals.getD k .none
  | [], i, ys, _, P => by cases P; rfl
  | v :: vs, i, ys, hv, P => by
    obtain ⟨t, rfl⟩ := hv 0 v rfl
    have hr : ∀ (j : Nat) (v : Value), vs[j]? = some v → ∃ t, v = Value.int ((i + 1 + j : Nat) : Int) t := fun j v h => by
      obtain ⟨t, e⟩ := hv (j + 1) v (by simpa using h)
      exact ⟨t, by rw [e]; congr 2; lia⟩
    rw [List.length_cons, List.range'_succ]
    by_cases hp : pz i = true
    · rw [List.filter_cons_of_pos (by simpa [intP] using hp)] at P
      rw [List.filter_cons_of_pos hp, List.map_cons]
      cases P with
      | cons hF hR =>
        obtain ⟨k, t', e, hk⟩ := hF
        have e2 : i = k := by
          have e3 : ((i + 0 : Nat) : Int) = (k : Int) := (Value.int.inj e).1
          lia
        subst e2
        rw [paired_pick hr hR, List.getD_eq_getElem?_getD, hk]
        rfl
    · rw [List.filter_cons_of_neg (by simpa [intP] using hp)] at P
      rw [List.filter_cons_of_neg hp]
      exact paired_pick hr P
theorem paired_ords : ∀ {vs : List Value} {cs : List Nat} {ys : List Value}, vs.length = cs.length → (∀ (j : Nat) (v : Value), vs[j]? = some v → ∃ c u, cs[j]? = some c ∧ v = Value.str ⟨#[c]⟩ u) →
    Paired (fun (v r : Value) => ∃ (c : Nat) (u t : Tok), v = Value.str ⟨#[c]⟩ u ∧ r = Value.int c t) (vs.filter fun _ => true) ys → IntsAre ys (cs.map fun c : Nat => (c : Int))
  | [], [], ys, _, _, P => by cases P; exact .nil
  | [], _ :: _, _, h, _, _ => nomatch h
  | _ :: _, [], _, h, _, _ => nomatch h
  | v :: vs, c :: cs, ys, hl, hv, P => by
    rw [List.filter_cons_of_pos rfl] at P
    cases P with
    | cons hF hR =>
      obtain ⟨c1, u1, hc, rfl⟩ := hv 0 v rfl
      obtain ⟨c2, u2, t2, e, rfl⟩ := hF
      cases hc
      have e2 : c = c2 := by
        have e3 := congrArg (fun z : Str => z.cps) (Value.str.inj e).1
        simpa using e3
      subst e2
      exact .cons _ _ (paired_ords (Nat.succ.inj hl) (fun j v h => hv (j + 1) v (by simpa using h)) hR)
theorem keep_push {s₁ : Shared} {o : Obj} {h' : Heap} (hk : ∀ b o', b ∉ [s₁.heap.objs.size] → (s₁.heap.push o).get? b = some o' → h'.get? b = some o') : ∀ b o', s₁.heap.get? b = some o' → h'.get? b = some o' :=
  fun b o' e => hk b o' (fun hm => Nat.lt_irrefl _ ((List.mem_singleton.mp hm) ▸ Heap.lt_size e : s₁.heap.objs.size < s₁.heap.objs.size)) (Heap.get?_push_of_some _ e)
theorem news_new {h h' hp : Heap} {D : Addr} {ys : Array Value} {news : List (Addr × Obj)} (hDL : D ≠ L) (hD0 : h₀.get? D = none) (N : News h₀ L h news) (hk : ∀ p ∈ news, h'.get? p.1 = some p.2) (hpl : h'.PlainList D ys) :
    ∃ n, News h₀ L h' ((D, W.listOf ys n) :: news) := by
  obtain ⟨n, e⟩ := hpl
  refine ⟨n, fun p hp => ?_⟩
  rcases List.mem_cons.mp hp with rfl | hp
  · exact ⟨e, hDL, hD0⟩
  · exact ⟨hk p hp, (N p hp).2⟩
inductive OrdsOk (prog : Program) (w : World) (A : Around) (h₀ : Heap) (L : Addr) (m : Str → Option Value) (env : Env) (elt : PySem.Expr) (x : Str) (scope : Scope) (cl : List (Str × Addr)) (Q : Value → Shared → Prop) (xv : Value) (s₁ : Shared) : Prop
  | mk (y : Str) (t : Tok) (news : List (Addr × Obj)) (k1 : xv = .str y t) (k2 : y.length ≤ sizeLine) (k3 : Fr h₀ L s₁.heap m) (k4 : News h₀ L s₁.heap news) (k5 : (∀ C (c : Nat) (u : Tok) (s₂ : Shared) m₂ E', s₁.heap.objs.size ≤ C → s₂.heap.Ns C m₂ → m₂ x = some (.str ⟨#[c]⟩ u) → (∀ b o, s₁.heap.get? b = some o → s₂.heap.get? b = some o) → wpAny (model prog w) A (eval elt (compEnvC scope cl C env)) (fun r s₃ => (∃ t, r = .int c t) ∧ Keeps s₂ s₃) E' s₂)) (k6 : (∀ D n (ys : List Value) h' tk, Fr h₀ L h' m → News h₀ L h' ((D, W.listOf ys.toArray n) :: news) → (∀ p ∈ news, p.1 ≠ D) → IntsAre ys (y.cps.toList.map fun c : Nat => (c : Int)) → Q (.ref D) { s₁ with heap := h', toks := tk }))
/-- the numbers of a text's signs -/
theorem comp_ords {elt iter : PySem.Expr} {x : Str} {px : Pos} {scope : Scope} {cl : List (Str × Addr)} {pos : Pos} {Q : Value → Shared → Prop} (_F : Fr h₀ L s.heap m)
    (hh : A.handled = none) (hclos : closureFor scope env = pure cl) (hcell : ∀ y ∈ scope.names, y.2 ≠ .cell) (hkind : scope.kind = .function)
    (hnames : ∀ y ∈ scope.names, y.2 = .local → scope.names.lookup y.1 = some .local) (hx : scope.names.lookup x = some .local)
    (h : wpAny (model prog w) A (eval iter env) (fun xv s₁ => Halt (OrdsOk prog w A h₀ L m env elt x scope cl Q xv s₁)) E s)
    (hs : ∀ x, foldedSetIterable iter env x = pure x) :
    wpAny (model prog w) A (eval (.ListComp elt [⟨.Name x px, iter, [], 0⟩] scope pos) env) Q E s := by
  refine wpAny_ListComp_free (fun _ => true) (fun v r => ∃ (c : Nat) (u t : Tok), v = .str ⟨#[c]⟩ u ∧ r = .int c t) hclos hcell hkind hnames hx (wpAny_mono h (fun xv s₁ h₁ => ?_) fun _ _ e => e) hs
  obtain ⟨y, t, news, rfl, hsz, F, N, helt, hQ⟩ := h₁
  refine wpAny_pyIter_str fun o St W hst => ?_
  refine ⟨s₁.heap.objs.size, [s₁.heap.objs.size], [s₁.heap.objs.size], y.cps.size, SignAt y, St, rfl, W A hh, hsz, hst, ?_, ⟨?_, ?_⟩, ?_⟩
  · intro b hb
    show b < (s₁.heap.push o).objs.size
    rw [Heap.size_push, List.mem_singleton.mp hb]
    exact Nat.lt_succ_self _
  · intro C i v s₃ m₃ E' hC hP hn hm hk _
    rw [List.forIn_nil]
    exact wpAny_pure ⟨rfl, s₃.heap, s₃.toks, rfl, fun _ _ e => e⟩
  · intro C i v s₃ m₃ E' hC hP hp hn hm hk _
    obtain ⟨c, u, _, rfl⟩ := hP
    exact wpAny_mono (helt C c u s₃ m₃ E' (Nat.le_of_succ_le (by simpa [Heap.size_push] using hC)) hn hm (keep_push hk)) (fun r s₄ h₄ => ⟨by obtain ⟨t, e⟩ := h₄.1; exact ⟨c, u, t, rfl, e⟩, h₄.2⟩) fun _ _ e => e
  · intro D h' tk ys vs hnew hlD hplD hlen hP hF hk
    have keep := keep_push hk
    have hLs : L < s₁.heap.objs.size := F.ns.lt
    have hDL : D ≠ L := by
      rintro rfl
      obtain ⟨o', _, _, e, _⟩ := F.ns
      rw [Heap.get?_push_of_some _ e] at hnew; cases hnew
    have hD0 : h₀.get? D = none := by
      cases e : h₀.get? D with
      | none => rfl
      | some o' => rw [Heap.get?_push_of_some _ (F.keep _ _ e)] at hnew; cases hnew
    obtain ⟨n, N'⟩ := news_new (hp := h') hDL hD0 N (fun p hp => keep _ _ (N p hp).1) hplD
    refine hQ D n ys.toList h' tk (F.keeps keep) (by rw [Array.toArray_toList]; exact N') (fun p hp e => by rw [← e, Heap.get?_push_of_some _ (N p hp).1] at hnew; cases hnew) (paired_ords (by rw [hlen]; simp) (fun j v hv => ?_) hF)
    obtain ⟨c, u, hc, e⟩ := hP j v hv
    exact ⟨c, u, by simpa using hc, e⟩
inductive PickOk (prog : Program) (w : World) (A : Around) (h₀ : Heap) (L : Addr) (m : Str → Option Value) (env : Env) (elt : PySem.Expr) (x : Str) (scope : Scope) (cl : List (Str × Addr)) (ifs : List PySem.Expr) (y : Str) (pz : Nat → Bool) (vals : List Value) (Q : Flow → Shared → Prop) (xv : Value) (s₁ : Shared) : Prop
  | mk (news : List (Addr × Obj)) (r : Addr) (t₀ u₀ v₀ : Tok) (n : Nat) (k1 : xv = .ref r) (k2 : IsRange s₁.heap r 0 (n : Nat) 1 t₀ u₀ v₀) (k3 : n < 1000000) (k4 : n ≤ sizeLine) (k5 : Fr h₀ L s₁.heap m) (k6 : News h₀ L s₁.heap news) (k7 : (∀ C (k : Nat) (t : Tok) (s₂ : Shared) m₂ E', s₁.heap.objs.size ≤ C → k < n → s₂.heap.Ns C m₂ → m₂ x = some (.int (k : Nat) t) → (∀ b o, s₁.heap.get? b = some o → s₂.heap.get? b = some o) → wpAny (model prog w) A (forIn ifs true fun c r => if r = true then do let ok ← isTrue c (compEnvC scope cl C env) (eval c (compEnvC scope cl C env)); pure (ForInStep.yield ok) else pure (ForInStep.yield r)) (fun ok s₃ => ok = pz k ∧ Keeps s₂ s₃) E' s₂)) (k8 : (∀ C (k : Nat) (t : Tok) (s₂ : Shared) m₂ E', s₁.heap.objs.size ≤ C → k < n → s₂.heap.Ns C m₂ → m₂ x = some (.int (k : Nat) t) → (∀ b o, s₁.heap.get? b = some o → s₂.heap.get? b = some o) → wpAny (model prog w) A (eval elt (compEnvC scope cl C env)) (fun r s₃ => vals[k]? = some r ∧ Keeps s₂ s₃) E' s₂)) (k9 : (∀ D z (ys : List Value) h' tk, Fr h₀ L h' (fun z => if z = y then some (.ref D) else m z) → News h₀ L h' ((D, W.listOf ys.toArray z) :: news) → (∀ p ∈ news, p.1 ≠ D) → ys = ((List.range n).filter pz).map (fun k => vals.getD k .none) → Q .next { s₁ with heap := h', toks := tk }))
/-- items of a list picked by a test of their places, bound to a name -/
theorem comp_pick {elt iter : PySem.Expr} {x y : Str} {px py : Pos} {ifs : List PySem.Expr} {scope : Scope} {cl : List (Str × Addr)} {pos spos : Pos} {Q : Flow → Shared → Prop} (_F : Fr h₀ L s.heap m) (pz : Nat → Bool) (vals : List Value)
    (hsw : swapsWith (.ListComp elt [⟨.Name x px, iter, ifs, 0⟩] scope pos) (some (.Name y py)) spos.line env = pure true) (hL : env.locals = L)
    (hh : A.handled = none) (hclos : closureFor scope env = pure cl) (hcell : ∀ z ∈ scope.names, z.2 ≠ .cell) (hkind : scope.kind = .function)
    (hnames : ∀ z ∈ scope.names, z.2 = .local → scope.names.lookup z.1 = some .local) (hx : scope.names.lookup x = some .local)
    (hy : env.kindOf y = some .local) (hp : (env.scope.kind == .class || (env.scope.kind == .module && env.locals != env.globals)) = false)
    (h : wpAny (model prog w) A (eval iter env) (fun xv s₁ => Halt (PickOk prog w A h₀ L m env elt x scope cl ifs y pz vals Q xv s₁)) E s)
    (hs : ∀ x, foldedSetIterable iter env x = pure x) :
    wpAny (model prog w) A (exec (.Assign [.Name y py] (.ListComp elt [⟨.Name x px, iter, ifs, 0⟩] scope pos) spos) env) Q E s := by
  subst hL
  refine wpAny_Assign_ListComp_free (intP pz) (fun v r => ∃ (k : Nat) (t : Tok), v = .int k t ∧ vals[k]? = some r) hsw hclos hcell hkind hnames hx hy hp (wpAny_mono h (fun xv s₁ h₁ => ?_) fun _ _ e => e) hs
  obtain ⟨news, r, t₀, u₀, v₀, n, rfl, hr, hn1, hsz, F, N, htests, helt, hQ⟩ := h₁
  have hn : Builtin.Range.rangeSize 0 (n : Nat) 1 = n := by rw [rangeSize_one]; split <;> lia
  refine wpAny_pyIter_range hr (small_of n hn1) ⟨s₁.heap.objs.size, [s₁.heap.objs.size], [s₁.heap.objs.size], n, _, _, m, rfl, (Walks.range hh _ 0 1 n).bound, hsz, (by show IsRangeIter _ _ _ _ _; rw [hn]; simpa using Heap.get?_push_size _ rfl), ?_, ?_, F.ns.push _, ⟨?_, ?_⟩, ?_⟩
  · intro b hb
    show b < (s₁.heap.push _).objs.size
    rw [Heap.size_push, List.mem_singleton.mp hb]
    exact Nat.lt_succ_self _
  · intro hm
    exact Nat.lt_irrefl _ ((List.mem_singleton.mp hm) ▸ F.ns.lt : s₁.heap.objs.size < s₁.heap.objs.size)
  · intro C i v s₃ m₃ E' hC hP hn' hm hk _
    obtain ⟨hi, t, e⟩ := hP
    have e2 : v = .int (i : Nat) t := by rw [e]; congr 1; lia
    subst e2
    exact htests C i t s₃ m₃ E' (Nat.le_of_succ_le (by simpa [Heap.size_push] using hC)) hi hn' hm (keep_push hk)
  · intro C i v s₃ m₃ E' hC hP hp hn' hm hk _
    obtain ⟨hi, t, e⟩ := hP
    have e2 : v = .int (i : Nat) t := by rw [e]; congr 1; lia
    subst e2
    exact wpAny_mono (helt C i t s₃ m₃ E' (Nat.le_of_succ_le (by simpa [Heap.size_push] using hC)) hi hn' hm (keep_push hk)) (fun y s₄ h₄ => ⟨⟨i, t, rfl, h₄.1⟩, h₄.2⟩) fun _ _ e => e
  · intro D h' tk ys vs' hnew hlD hplD hlen hP hF hNs hk
    have hLs : env.locals < s₁.heap.objs.size := F.ns.lt
    have hDL : D ≠ env.locals := by
      rintro rfl
      obtain ⟨o', _, _, e, _⟩ := F.ns
      rw [Heap.get?_push_of_some _ e] at hnew; cases hnew
    have hD0 : h₀.get? D = none := by
      cases e : h₀.get? D with
      | none => rfl
      | some o' => rw [Heap.get?_push_of_some _ (F.keep _ _ e)] at hnew; cases hnew
    have keep : ∀ b o, b ≠ env.locals → s₁.heap.get? b = some o → h'.get? b = some o := fun b o hb e => hk b o hb (fun hm => Nat.lt_irrefl _ ((List.mem_singleton.mp hm) ▸ Heap.lt_size e : s₁.heap.objs.size < s₁.heap.objs.size)) (Heap.get?_push_of_some _ e)
    obtain ⟨z, N'⟩ := news_new (hp := h') hDL hD0 N (fun p hp => keep _ _ (N p hp).2.1 (N p hp).1) hplD
    refine hQ D z ys.toList h' tk ⟨hNs, fun b o e => keep b o (Nat.ne_of_lt (Nat.lt_of_lt_of_le (Heap.lt_size e) F.above)) (F.keep b o e), F.above⟩ (by rw [Array.toArray_toList]; exact N') (fun p hp e => by rw [← e, Heap.get?_push_of_some _ (N p hp).1] at hnew; cases hnew) ?_
    have := paired_pick (pz := pz) (vals := vals) (i := 0) (fun j v hv => by
      obtain ⟨_, t, e⟩ := hP j v hv
      exact ⟨t, by rw [e]; congr 1; lia⟩) hF
    rw [this, hlen, List.range_eq_range']
end
def AllNe (D : Addr) : List (Addr × Obj) → Prop
  | [] => True
  | p :: r => @Ne Nat p.1 D ∧ AllNe D r
theorem allNe_of {D : Addr} : ∀ {l : List (Addr × Obj)}, (∀ p ∈ l, p.1 ≠ D) → AllNe D l
  | [], _ => trivial
  | p :: _, h => ⟨neN (h p (.head _)), allNe_of fun q hq => h q (.tail _ hq)⟩
theorem halt_any2 {prog : Program} {w : World} {A : Around} {E : Value → Shared → Prop} {α : Type} {s : Shared} {x : Sem α} {Q : α → Shared → Prop} (h : Halt (wpAny (model prog w) A x Q E s)) : wpAny (model prog w) A x Q E s := h

theorem resetX1 : True := by w_top off; trivial
theorem law_1 {w : World} {ws : List Int} (H : LawRest w 6 (J1 (numsOf ws) (totalOf ws))) : LawRest w 0 (J0 ws) := by
  have hfill : PySem.Challenge.rw_in0217_01 = PySem.Challenge.rw_in0217_01 ∧ hd.heap_39 = hd.heap_39 := by (k_fill; exact ⟨rfl, rfl⟩)
  clear hfill
  refine' LawAt.intro ?e ?go
  case e => k_is
  case go =>
    rintro p loose mean mg mb dp un gd fa cd A₀ base g L s m news Q B X T hdp hun hbare hQ F N ⟨sA, vs, o1, o2, o3, o4, e1, hsA, hvs, hwz, ⟨c1, c2, c3, c4⟩, hL, rfl⟩
    have CH1 := code171 X
    have CH2 := code96 X
    rw [names_put e1] at F
    clear e1
    dsimp only [List.drop]
    (repeat' (first | (with_reducible (((with_reducible show wpAny _ _ (exec (Stmt.For (Expr.Name _ _) (Expr.Call _ _ _ _) (_ :: _) [] _) _) _ _ _); (k_dflt (refine wpAny_For ?_ (by intro _; rfl)))))) | (with_reducible (((with_reducible show wpAny _ _ (pyIter (Value.ref _)) _ _ _); (refine halt_any2 ?_)))) | (k_end; kc_close) | walk1 | (dsimp only [argC9]; walk1) | (k_unfold; (try dsimp only)) | (dsimp only [then9]) | (leave1; (try dsimp only))))
    unfold Halt
    (rename News g L _ _ => N1)
    (rename Fr g L _ _ => F1)
    (rename IsRange _ _ _ _ _ _ _ _ => R1)
    (rename IntsAre _ ([12, 62, 24, 25, 11] ++ _) => hnv)
    have hnz := numsOf_len (ws := ws)
    have hl : 1 + 1 + 1 + 1 + 1 + (List.map (fun k' => Int.fmod k' 10000) (List.take 5 ws)).length = (numsOf ws).length := hnz.1.symm
    rw [hl] at R1
    change IntsAre _ (numsOf ws) at hnv
    refine range_loop (n := (numsOf ws).length) (JL1 (numsOf ws) (totalOf ws) [(L + 1 + 1 + 1 + 1, o4), (L + 1 + 1 + 1, o3), (L + 1 + 1, o2), (L + 1, o1), (167, tabObj #[]), (92, tabObj #[])] _ _ _ _) R1 ?z rfl F1 (news_l1 N1) ⟨rfl, ⟨_, rfl⟩, rfl, _, _, _, _, _, rfl, ?lt, .nil, .nil, rfl⟩ ?turn ?done
    case z => omega
    case lt => omega
    case turn =>
      rintro i t m₁ news₁ I it h tk hi ⟨e1, ⟨tT, e2⟩, e3, oA, ovs, oz, uvs, uz, e4, hlt, hov, huv, rfl⟩ hn Fi Ni
      rw [names4 e1 e2 e3 e4] at Fi
      clear e1 e2 e3 e4 F1 N1 R1
      change Fr g L h _ at Fi
      change News g L h _ at Ni
      have hsl := st1_len (numsOf ws) i
      have hyb := numsOf_at (ws := ws) i
      clear H
      generalize hns : numsOf ws = ns at *
      generalize hT : totalOf ws = TT at *
      generalize hst : st1 ns i = st at *
      obtain ⟨op, us⟩ := st
      dsimp only at hov huv hsl
      have hIo := neN (hn _ (.head _))
      have hIu := neN (hn _ (.tail _ (.head _)))
      have hIn := neN (hn _ (.tail _ (.tail _ (.head _))))
      dsimp only at hIo hIu hIn
      have hz1 := hov.length
      have hz2 := huv.length
      (repeat' (first | (with_reducible (((with_reducible show wpAny _ _ (subscriptTail _ _ (Value.ref _) (Value.int (-1) _)) _ _ _); k_dflt (refine item_last (by k_asm) (by k_mem) (by assumption) (by assumption) (by omega) ?_); intro _))) | (with_reducible (((with_reducible show wpAny _ _ (call (Value.builtin "list.append") [Value.ref _, _]) _ _ _); k_dflt (refine append_K (by k_asm) (by k_asm) (by k_upd) ?_ (by first | assumption | (rw [sizeLine_eq, List.size_toArray]; omega)); k_whole); intro h' F' N'; (try k_sweep)))) | (k_end; kc_close) | walk1 | (dsimp only [argC9]; walk1) | (k_unfold; (try dsimp only)) | (dsimp only [then9]) | (leave1; (try dsimp only))))
      all_goals (
        (rename News g L _ _ => N9)
        (rename Fr g L _ _ => F9))
      · exact ⟨_, _, _, _, rfl, F9, news_l1A N9, l1_apart hn ((by k_ne)), JL1.step hst hyb.1 rfl rfl rfl rfl (by omega) rfl (by assumption) (.inl ⟨by assumption, rfl⟩) (last_nil (by assumption)) huv⟩
      · exact ⟨_, _, _, _, rfl, F9, news_l1B N9, l1_apart hn ((by k_ne)), JL1.step hst hyb.1 rfl rfl rfl rfl (by omega) rfl (by assumption) (.inr ⟨by assumption, rfl⟩) (last_nil (by assumption)) huv⟩
      · exact ⟨_, _, _, _, rfl, F9, news_l1A N9, l1_apart hn ((by k_ne)), JL1.step hst hyb.1 rfl rfl rfl rfl (by omega) rfl (by assumption) (.inl ⟨by assumption, rfl⟩) rfl huv⟩
      · exact ⟨_, _, _, _, rfl, F9, news_l1B N9, l1_apart hn ((by k_ne)), JL1.step hst hyb.1 rfl rfl rfl rfl (by omega) rfl (by assumption) (.inr ⟨by assumption, rfl⟩) rfl huv⟩
    case done =>
      rintro m₁ news₁ h tk ⟨e1, ⟨tT, e2⟩, e3, oA, ovs, oz, uvs, uz, e4, hlt, hov, huv, rfl⟩ Fi Ni
      have H2 := H.use (by k_is)
      refine H2 _ _ _ _ _ _ _ _ _ _ _ _ _ _ _ _ _ _ B X T hdp hun hbare hQ.on Fi (news_tail Ni) ⟨_, _, _, _, _, _, _, _, _, _, _, e1, e2, e3, hnv, huv, ⟨c1, c2, c3, c4⟩, hL, ?_, rfl⟩
      constructor <;> omega

/-- the parts of one place, by its number -/
def letterOf (y : Int) : Str := if y / 12 % 2 = 0 then Str.ofString "a" else Str.ofString "é"
def sizeOf2 (y : Int) : Int := y / 24 % 3
def bitsOf (y : Int) : Int := [4, 8, 10, 1].getD (y % 4).toNat 0 * 4096 + y * 37 % 4096
def thingOf (us : List Int) (k : Nat) (y : Int) : Thing :=
  [Thing.num (us.count (k : Int)), .byt (List.replicate (sizeOf2 y).toNat (y % 256).toNat.toUInt8), .txt (List.replicate (sizeOf2 y).toNat 233), .non].getD (y % 4).toNat .non
def bodyOf (us : List Int) (k : Nat) (y : Int) : List UInt8 :=
  [[(us.count (k : Int)).toUInt8], (sizeOf2 y).toNat.toUInt8 :: List.replicate (sizeOf2 y).toNat (y % 256).toNat.toUInt8, (sizeOf2 y).toNat.toUInt8 :: List.replicate (sizeOf2 y).toNat 233, []].getD (y % 4).toNat []
def placeOct (us : List Int) (k : Nat) (y : Int) : List UInt8 :=
  [1, ((letterOf y).cps.getD 0 0).toUInt8, (bitsOf y / 256).toNat.toUInt8, (bitsOf y % 256).toNat.toUInt8] ++ bodyOf us k y
def kindOfT (T y : Int) : Bool := [true, y % 4 == 0, y % 4 != 0, y % 4 == 1 || y % 4 == 2].getD (T % 4).toNat false
def nameOfT (T y up : Int) : Bool := [true, letterOf y == Str.ofString "a", letterOf y == Str.ofString "é" && decide (0 ≤ up), decide (up < 0)].getD (T / 4 % 4).toNat false
structure S2 where
  oct : List UInt8
  paths : List Str
  hide : List Bool
  due : List Item
  ends : List Int
def pathOf (paths : List Str) (y up : Int) : Str := if up < 0 then letterOf y else paths.getD up.toNat Str.empty ++ Str.ofString "/" ++ letterOf y
def hideOf (hide : List Bool) (T y up : Int) : Bool := (kindOfT T y && nameOfT T y up) || (decide (0 ≤ up) && hide.getD up.toNat false)
def step2 (us : List Int) (T : Int) (st : S2) (k : Nat) (y : Int) : S2 :=
  let up := us.getD k 0
  let oct := st.oct ++ placeOct us k y
  { oct := oct, paths := st.paths ++ [pathOf st.paths y up], hide := st.hide ++ [hideOf st.hide T y up],
    due := st.due ++ [(lineOf (bitsOf y).toNat (pathOf st.paths y up), thingOf us k y)], ends := st.ends ++ [(oct.length : Int)] }
def st2 (ns us : List Int) (T : Int) : Nat → S2
  | 0 => ⟨hdrOf T us, [], [], [], []⟩
  | i + 1 => step2 us T (st2 ns us T i) i (ns.getD i 0)
/-- between the turns of the second loop -/
inductive JL2 (ns us : List Int) (T : Int) (L nA uA pA hA dA eA : Addr) (nvs uvs : List Value) (nz uz : Nat) (o1 o2 o3 o4 : Obj) (i : Nat) (m : Str → Option Value) (news : List (Addr × Obj)) : Prop
  | mk (k1 : m (Str.ofString "numbers") = some (.ref nA)) (k2 : (∃ tT, m (Str.ofString "total") = some (.int T tT))) (k3 : m (Str.ofString "ups") = some (.ref uA)) (k4 : m (Str.ofString "paths") = some (.ref pA)) (k5 : (∃ oT, m (Str.ofString "octets") = some (.bytes (List.toArray (st2 ns us T i).oct) oT))) (pvs hvs dvs evs pz hz dz ez tups) (k6 : StrsAre pvs (st2 ns us T i).paths) (k7 : hvs = (st2 ns us T i).hide.map Value.bool) (k8 : Seen (st2 ns us T i).due dvs tups) (k9 : IntsAre evs (st2 ns us T i).ends) (k10 : news = (eA, W.listOf (List.toArray evs) ez) :: (dA, W.listOf (List.toArray dvs) dz) :: (hA, W.listOf (List.toArray hvs) hz) :: (pA, W.listOf (List.toArray pvs) pz) :: (uA, W.listOf (List.toArray uvs) uz) :: (nA, W.listOf (List.toArray nvs) nz) :: (L + 1 + 1 + 1 + 1, o4) :: (L + 1 + 1 + 1, o3) :: (L + 1 + 1, o2) :: (L + 1, o1) :: (167, tabObj #[]) :: (92, tabObj #[]) :: tups)
/-- what stays through the second loop -/
def J2x (L nA uA pA hA dA eA : Addr) (o1 o2 o3 o4 : Obj) : Prop :=
  (o1.data = .cell (some (.ref hA)) ∧ o2.data = .cell (some (.ref dA)) ∧ o3.data = .cell (some (.ref eA)) ∧ o4.data = .cell none) ∧ (@LT.lt Nat _ 167 L ∧ @LT.lt Nat _ 92 L) ∧
    (@LT.lt Nat _ (L + 1 + 1 + 1 + 1) nA ∧ @LT.lt Nat _ (L + 1 + 1 + 1 + 1) uA ∧ @LT.lt Nat _ nA pA ∧ @LT.lt Nat _ uA pA ∧ @LT.lt Nat _ pA hA ∧ @LT.lt Nat _ hA dA ∧ @LT.lt Nat _ dA eA)
/-- the state at the i-th turn of the second loop -/
inductive J2 (ns us : List Int) (T : Int) (i : Nat) (_g : Heap) (_h : Heap) (L : Addr) (m : Str → Option Value) (news : List (Addr × Obj)) : Prop
  | mk (nA uA pA hA dA eA nvs uvs nz uz o1 o2 o3 o4) (k1 : IntsAre nvs ns) (k2 : IntsAre uvs us) (k3 : J2x L nA uA pA hA dA eA o1 o2 o3 o4) (k4 : JL2 ns us T L nA uA pA hA dA eA nvs uvs nz uz o1 o2 o3 o4 i m news)
theorem news_l2 {g h : Heap} {L : Addr} {a1 a2 a3 a4 x1 x2 x3 x4 x5 x6 x7 b1 b2 c1 c2 c3 c4 t1 t2 : Addr × Obj} (N : News g L h [a1, a2, a3, a4, x1, x2, x3, x4, x5, x6, x7, b1, b2, c1, c2, c3, c4, t1, t2]) : News g L h [a1, a2, a3, a4, b1, b2, c1, c2, c3, c4, t1, t2] := by
  exact news_sub N (perm_sub [a1, a2, a3, a4, x1, x2, x3, x4, x5, x6, x7, b1, b2, c1, c2, c3, c4, t1, t2] [] [0, 1, 2, 3, 11, 12, 13, 14, 15, 16, 17, 18] rfl)
theorem st2_len (ns us : List Int) (T : Int) : ∀ i, (st2 ns us T i).paths.length = i ∧ (st2 ns us T i).hide.length = i ∧ (st2 ns us T i).due.length = i ∧ (st2 ns us T i).ends.length = i
  | 0 => ⟨rfl, rfl, rfl, rfl⟩
  | i + 1 => by
    obtain ⟨h1, h2, h3, h4⟩ := st2_len ns us T i
    show (step2 us T (st2 ns us T i) i (ns.getD i 0)).paths.length = _ ∧ (step2 us T (st2 ns us T i) i (ns.getD i 0)).hide.length = _ ∧ (step2 us T (st2 ns us T i) i (ns.getD i 0)).due.length = _ ∧ (step2 us T (st2 ns us T i) i (ns.getD i 0)).ends.length = _
    unfold step2
    simp only [List.length_append, List.length_singleton, h1, h2, h3, h4, and_self]
theorem letterOf_len (y : Int) : (letterOf y).length = 1 := by unfold letterOf; split <;> rfl
theorem body_len (us : List Int) (k : Nat) (y : Int) : (bodyOf us k y).length ≤ 3 := by
  have hs : (sizeOf2 y).toNat ≤ 2 := by unfold sizeOf2; lia
  unfold bodyOf
  generalize (y % 4).toNat = j
  rcases j with _ | _ | _ | _ | j
  · simp
  · simp; lia
  · simp; lia
  · simp
  · simp
theorem place_len (us : List Int) (k : Nat) (y : Int) : (placeOct us k y).length ≤ 7 := by
  have := body_len us k y
  unfold placeOct
  rw [List.length_append]
  simp only [List.length_cons, List.length_nil]
  lia
theorem hdrOf_len (T : Int) (us : List Int) : (hdrOf T us).length = (patOf T).length + 2 := by
  unfold hdrOf hdrI
  simp only [List.length_map, List.length_append, List.length_singleton, Array.length_toList]
  show 1 + Str.length _ + 1 = _
  lia
theorem st2_oct (ns us : List Int) (T : Int) : ∀ i, (st2 ns us T i).oct.length ≤ 11 + 7 * i
  | 0 => by
    show (hdrOf T us).length ≤ _
    have := (patOf_small T).1
    rw [hdrOf_len]; lia
  | i + 1 => by
    have h := st2_oct ns us T i
    have h2 := place_len us i (ns.getD i 0)
    show (step2 us T (st2 ns us T i) i (ns.getD i 0)).oct.length ≤ _
    unfold step2
    rw [List.length_append]
    lia
theorem st2_path (ns us : List Int) (T : Int) (hu : ∀ i < ns.length, us.getD i 0 < i) : ∀ i, i ≤ ns.length → ∀ j, ((st2 ns us T i).paths.getD j Str.empty).length ≤ 2 * j + 1
  | 0, _ => fun j => by
    show (List.getD [] j Str.empty).length ≤ _
    exact Nat.zero_le _
  | i + 1, hi => fun j => by
    have h := st2_path ns us T hu i (by lia)
    have hl := (st2_len ns us T i).1
    show (List.getD ((st2 ns us T i).paths ++ [pathOf (st2 ns us T i).paths (ns.getD i 0) (us.getD i 0)]) j Str.empty).length ≤ _
    by_cases hj : j < i
    · have e : List.getD ((st2 ns us T i).paths ++ [pathOf (st2 ns us T i).paths (ns.getD i 0) (us.getD i 0)]) j Str.empty = (st2 ns us T i).paths.getD j Str.empty := by
        rw [List.getD_eq_getElem?_getD, List.getElem?_append_left (by lia), ← List.getD_eq_getElem?_getD]
      rw [e]; exact h j
    · by_cases hj2 : j = i
      · subst hj2
        have e : List.getD ((st2 ns us T j).paths ++ [pathOf (st2 ns us T j).paths (ns.getD j 0) (us.getD j 0)]) j Str.empty = pathOf (st2 ns us T j).paths (ns.getD j 0) (us.getD j 0) := by
          rw [List.getD_eq_getElem?_getD, List.getElem?_append_right (by lia), hl]; simp
        rw [e]
        unfold pathOf
        have h1 := letterOf_len (ns.getD j 0)
        split
        · lia
        · have h2 := h (us.getD j 0).toNat
          have h3 := hu j (by lia)
          have h4 : (Str.ofString "/").length = 1 := rfl
          rw [PySem.Str.length_append, PySem.Str.length_append]
          lia
      · have e : List.getD ((st2 ns us T i).paths ++ [pathOf (st2 ns us T i).paths (ns.getD i 0) (us.getD i 0)]) j Str.empty = Str.empty := by
          rw [List.getD_eq_getElem?_getD, List.getElem?_eq_none (by rw [List.length_append, List.length_singleton]; lia)]; rfl
        rw [e]
        exact Nat.zero_le _

section
variable {prog : Program} {w : World} {A : Around} {E : Value → Shared → Prop} {s : Shared} {value slice : PySem.Expr} {h₀ : Heap} {L l : Addr} {x y : Int} {n : Nat} {u : Tok} {news : List (Addr × Obj)} {Q : Value → Shared → Prop}
theorem fmod4 (x : Int) : 0 ≤ x.fmod 4 ∧ x.fmod 4 < 4 := by
  have e := Int.fmod_eq_emod_of_nonneg x (b := 4) (by decide)
  lia
theorem four {P : Nat → Prop} {k : Nat} (hk : k < 4) (h0 : P 0) (h1 : P 1) (h2 : P 2) (h3 : P 3) : P k := by
  rcases (show k = 0 ∨ k = 1 ∨ k = 2 ∨ k = 3 by lia) with e | e | e | e <;> subst e <;> assumption
/-- a tuple of four, at a remainder -/
theorem pick_any4 {v0 v1 v2 v3 : Value} (N : News h₀ L s.heap news := by k_asm) (hm : (l, ({ cls := .type "tuple", data := .seq #[v0, v1, v2, v3] n } : Obj)) ∈ news := by k_mem)
    (h : ∀ v, v = [v0, v1, v2, v3].getD (x.fmod 4).toNat .none → Q v s)
    (hs : subscripted slice false (.ref l) (.int (x.fmod 4) u) = operate [.ref l, .int (x.fmod 4) u] (getItem (.ref l) (.int (x.fmod 4) u)) := by with_unfolding_all rfl) :
    wpAny (model prog w) A (subscriptTail value slice (.ref l) (.int (x.fmod 4) u)) Q E s := by
  obtain ⟨h0, h1⟩ := fmod4 x
  refine tail_any (News.isTup N hm).typeIs slot_tuple_getitem.lookup (getItem_tuple (News.isTup N hm) (by lia) (by lia) (seqIndex_of h0 (by show x.fmod 4 < ((4 : Nat) : Int); lia)) (x := [v0, v1, v2, v3].getD (x.fmod 4).toNat .none) ?_ (h _ rfl)) hs
  have hk : (x.fmod 4).toNat < 4 := by lia
  revert hk
  generalize (x.fmod 4).toNat = k
  intro hk
  exact four (P := fun k => (#[v0, v1, v2, v3] : Array Value)[k]? = some ([v0, v1, v2, v3].getD k .none)) hk rfl rfl rfl rfl
theorem pick_int4 {a b c d : Int} {t1 t2 t3 t4 : Tok} (N : News h₀ L s.heap news := by k_asm) (hm : (l, ({ cls := .type "tuple", data := .seq #[.int a t1, .int b t2, .int c t3, .int d t4] n } : Obj)) ∈ news := by k_mem)
    (hz : (0 ≤ a ∧ a ≤ 15) ∧ (0 ≤ b ∧ b ≤ 15) ∧ (0 ≤ c ∧ c ≤ 15) ∧ (0 ≤ d ∧ d ≤ 15) := by decide) (h : ∀ r t, r = [a, b, c, d].getD (x.fmod 4).toNat 0 → 0 ≤ r ∧ r ≤ 15 → Q (.int r t) s)
    (hs : subscripted slice false (.ref l) (.int (x.fmod 4) u) = operate [.ref l, .int (x.fmod 4) u] (getItem (.ref l) (.int (x.fmod 4) u)) := by with_unfolding_all rfl) :
    wpAny (model prog w) A (subscriptTail value slice (.ref l) (.int (x.fmod 4) u)) Q E s := by
  refine pick_any4 N hm (fun v hv => ?_) hs
  have hk : (x.fmod 4).toNat < 4 := by have := fmod4 x; lia
  have key : ∃ r t, v = .int r t ∧ r = [a, b, c, d].getD (x.fmod 4).toNat 0 ∧ 0 ≤ r ∧ r ≤ 15 := by
    subst hv
    revert hk
    generalize (x.fmod 4).toNat = k
    intro hk
    obtain ⟨z1, z2, z3, z4⟩ := hz
    exact four (P := fun k => ∃ r t, [Value.int a t1, .int b t2, .int c t3, .int d t4].getD k .none = .int r t ∧ r = [a, b, c, d].getD k 0 ∧ 0 ≤ r ∧ r ≤ 15) hk ⟨_, _, rfl, rfl, z1⟩ ⟨_, _, rfl, rfl, z2⟩ ⟨_, _, rfl, rfl, z3⟩ ⟨_, _, rfl, rfl, z4⟩
  obtain ⟨r, t, rfl, hr, hb⟩ := key
  exact h r t hr hb
theorem pick_bool4 {a b c d : Bool} (N : News h₀ L s.heap news := by k_asm) (hm : (l, ({ cls := .type "tuple", data := .seq #[.bool a, .bool b, .bool c, .bool d] n } : Obj)) ∈ news := by k_mem)
    (h : ∀ r, r = [a, b, c, d].getD (x.fmod 4).toNat false → Q (.bool r) s)
    (hs : subscripted slice false (.ref l) (.int (x.fmod 4) u) = operate [.ref l, .int (x.fmod 4) u] (getItem (.ref l) (.int (x.fmod 4) u)) := by with_unfolding_all rfl) :
    wpAny (model prog w) A (subscriptTail value slice (.ref l) (.int (x.fmod 4) u)) Q E s := by
  refine pick_any4 N hm (fun v hv => ?_) hs
  have hk : (x.fmod 4).toNat < 4 := by have := fmod4 x; lia
  have key : v = .bool ([a, b, c, d].getD (x.fmod 4).toNat false) := by
    subst hv
    revert hk
    generalize (x.fmod 4).toNat = k
    intro hk
    exact four (P := fun k => [Value.bool a, .bool b, .bool c, .bool d].getD k .none = .bool ([a, b, c, d].getD k false)) hk rfl rfl rfl rfl
  rw [key]
  exact h _ rfl
theorem pick_bytes4 {a b c d : List UInt8} {t1 t2 t3 t4 : Tok} (N : News h₀ L s.heap news := by k_asm) (hm : (l, ({ cls := .type "tuple", data := .seq #[.bytes (List.toArray a) t1, .bytes (List.toArray b) t2, .bytes (List.toArray c) t3, .bytes (List.toArray d) t4] n } : Obj)) ∈ news := by k_mem)
    (hz : a.length ≤ 5 ∧ b.length ≤ 5 ∧ c.length ≤ 5 ∧ d.length ≤ 5 := by (refine ⟨?_, ?_, ?_, ?_⟩ <;> (simp only [List.length_append, List.length_replicate, List.length_cons, List.length_nil]; lia))) (h : ∀ r t, r = [a, b, c, d].getD (x.fmod 4).toNat [] → r.length ≤ 5 → Q (.bytes (List.toArray r) t) s)
    (hs : subscripted slice false (.ref l) (.int (x.fmod 4) u) = operate [.ref l, .int (x.fmod 4) u] (getItem (.ref l) (.int (x.fmod 4) u)) := by with_unfolding_all rfl) :
    wpAny (model prog w) A (subscriptTail value slice (.ref l) (.int (x.fmod 4) u)) Q E s := by
  refine pick_any4 N hm (fun v hv => ?_) hs
  have hk : (x.fmod 4).toNat < 4 := by have := fmod4 x; lia
  have key : ∃ r t, v = .bytes (List.toArray r) t ∧ r = [a, b, c, d].getD (x.fmod 4).toNat [] ∧ r.length ≤ 5 := by
    subst hv
    revert hk
    generalize (x.fmod 4).toNat = k
    intro hk
    obtain ⟨z1, z2, z3, z4⟩ := hz
    exact four (P := fun k => ∃ r t, [Value.bytes (List.toArray a) t1, .bytes (List.toArray b) t2, .bytes (List.toArray c) t3, .bytes (List.toArray d) t4].getD k .none = .bytes (List.toArray r) t ∧ r = [a, b, c, d].getD k [] ∧ r.length ≤ 5) hk ⟨_, _, rfl, rfl, z1⟩ ⟨_, _, rfl, rfl, z2⟩ ⟨_, _, rfl, rfl, z3⟩ ⟨_, _, rfl, rfl, z4⟩
  obtain ⟨r, t, rfl, hr, hb⟩ := key
  exact h r t hr hb
theorem pick_letter {t : Tok} (hy : 0 ≤ y) (h : ∀ r t' tk, r = letterOf y → r.length = 1 → Q (.str r t') { s with toks := tk })
    (hs : subscripted slice false (.str (Str.ofString "aé") t) (.int ((y.fdiv 12).fmod 2) u) = operate [.str (Str.ofString "aé") t, .int ((y.fdiv 12).fmod 2) u] (getItem (.str (Str.ofString "aé") t) (.int ((y.fdiv 12).fmod 2) u)) := by with_unfolding_all rfl)
    (ht : ∀ r, letTemporaryGo value (.str (Str.ofString "aé") t) r = pure () := by intro _; with_unfolding_all rfl) :
    wpAny (model prog w) A (subscriptTail value slice (.str (Str.ofString "aé") t) (.int ((y.fdiv 12).fmod 2) u)) Q E s := by
  have e1 : y.fdiv 12 = y / 12 := Int.fdiv_eq_ediv_of_nonneg y (by decide)
  have e2 : (y.fdiv 12).fmod 2 = y / 12 % 2 := by rw [e1]; exact Int.fmod_eq_emod_of_nonneg _ (by decide)
  have hb : 0 ≤ y / 12 % 2 ∧ y / 12 % 2 < 2 := by lia
  refine KXi.item rfl (by rw [e2]; lia) (by rw [e2]; show y / 12 % 2 < ((2 : Nat) : Int); lia) (by decide) (fun _ => h _ _ _ ?_ ?_) hs ht
  · rw [e2]
    unfold letterOf
    by_cases h0 : y / 12 % 2 = 0
    · rw [if_pos h0, h0]; decide +kernel
    · rw [if_neg h0, show y / 12 % 2 = 1 by lia]; decide +kernel
  · rw [e2]
    by_cases h0 : y / 12 % 2 = 0
    · rw [h0]; decide +kernel
    · rw [show y / 12 % 2 = 1 by lia]; decide +kernel
end
/-- the ends of several ways of one expression, joined -/
inductive Joined (g : Heap) (L : Addr) (m : Str → Option Value) (news : List (Addr × Obj)) (s : Shared) (P : Value → Prop) (v : Value) (s' : Shared) : Prop
  | mk (h' tk') (k1 : P v) (k2 : s' = { s with heap := h', toks := tk' }) (k3 : Fr g L h' m) (k4 : News g L h' news)
theorem join {prog : Program} {w : World} {A : Around} {E : Value → Shared → Prop} {s : Shared} {x : Sem Value} {Q : Value → Shared → Prop} {g : Heap} {L : Addr} {m : Str → Option Value} {news : List (Addr × Obj)} (F : Fr g L s.heap m) (N : News g L s.heap news) (P : Value → Prop)
    (h : wpAny (model prog w) A x (fun v s' => Halt (Joined g L m news s P v s')) E s) (k : ∀ v h' tk', P v → Fr g L h' m → News g L h' news → Q v { s with heap := h', toks := tk' }) : wpAny (model prog w) A x Q E s :=
  wpAny_mono h (fun v s' ⟨h', tk', hP, e, F', N'⟩ => e ▸ k v h' tk' hP F' N') fun _ _ e => e
theorem joined {g : Heap} {L : Addr} {m : Str → Option Value} {news : List (Addr × Obj)} {s : Shared} {P : Value → Prop} {v : Value} {h' : Heap} {tk' : Nat} (hP : P v) (F : Fr g L h' m) (N : News g L h' news) : Joined g L m news s P v { s with heap := h', toks := tk' } := ⟨h', tk', hP, rfl, F, N⟩
/-- a mark in the context: stop at what has several ways -/
structure HM : Prop where
theorem tups_ne {g h : Heap} {L a : Addr} {o : Obj} {news tups : List (Addr × Obj)} (N : News g L h news) (hcl : ∀ q ∈ tups, q.2.cls = .type "tuple") (hsub : ∀ q ∈ tups, q ∈ news) (hm : (a, o) ∈ news) (ho : o.cls ≠ .type "tuple") : ∀ q ∈ tups, q.1 ≠ a :=
  fun q hq => news_ne N (hsub q hq) hm (by rw [hcl q hq]; exact fun e => ho e.symm)
section
variable {prog : Program} {w : World} {A : Around} {E : Value → Shared → Prop} {s : Shared} {Q : Value → Shared → Prop} {t u : Tok} {n : Int}
theorem mul_byte {c : UInt8} (h0 : 0 ≤ n) (hn : n ≤ 2) (h : ∀ t' k, Q (.bytes (List.replicate n.toNat c).toArray t') { s with toks := k }) :
    wpAny (model prog w) A (binaryOp .Mult (.bytes (List.toArray [c]) t) (.int n u)) Q E s :=
  bytes_mul_any (b := [c]) (List.cons_ne_nil _ _) (by lia) (by lia) (by simp) fun t' k => by
    have e : (List.replicate n.toNat [c]).flatten = List.replicate n.toNat c := by
      generalize n.toNat = j
      induction j with
      | zero => rfl
      | succ j ih => rw [List.replicate_succ, List.replicate_succ, List.flatten_cons, ih]; rfl
    rw [e]
    exact h t' k
theorem mul_sign (h0 : 0 ≤ n) (hn : n ≤ 2) (h : ∀ t' k, Q (.str ⟨((List.replicate n.toNat (233 : UInt8)).map UInt8.toNat).toArray⟩ t') { s with toks := k }) :
    wpAny (model prog w) A (binaryOp .Mult (.str (Str.ofString "é") t) (.int n u)) Q E s :=
  KXi.mul (n := 1) (by decide +kernel) (by decide) (by lia) (by lia) fun t' k _ _ => by
    have e : Txt.mul (Str.ofString "é") n = ⟨((List.replicate n.toNat (233 : UInt8)).map UInt8.toNat).toArray⟩ := by
      rcases (show n = 0 ∨ n = 1 ∨ n = 2 by lia) with rfl | rfl | rfl <;> decide +kernel
    rw [e]
    exact h t' k
end
theorem bits_is {y r : Int} (hr : r = [4, 8, 10, 1].getD (y.fmod 4).toNat 0) : r * 4096 + (y * 37).fmod 4096 = bitsOf y := by
  unfold bitsOf
  rw [hr, Int.fmod_eq_emod_of_nonneg _ (by decide), Int.fmod_eq_emod_of_nonneg _ (by decide)]
theorem bits_range {y : Int} : 0 ≤ bitsOf y ∧ bitsOf y < 65536 := by
  unfold bitsOf
  have h : 0 ≤ [(4 : Int), 8, 10, 1].getD (y % 4).toNat 0 ∧ [(4 : Int), 8, 10, 1].getD (y % 4).toNat 0 ≤ 15 := by
    generalize (y % 4).toNat = k
    rcases k with _ | _ | _ | _ | k <;> simp
  lia
theorem size_is {y : Int} : (y.fdiv 24).fmod 3 = sizeOf2 y := by
  unfold sizeOf2
  rw [Int.fdiv_eq_ediv_of_nonneg y (by decide), Int.fmod_eq_emod_of_nonneg _ (by decide)]
theorem size_range {y : Int} : 0 ≤ sizeOf2 y ∧ sizeOf2 y ≤ 2 := by unfold sizeOf2; lia
theorem bytes_one {prog : Program} {w : World} {A : Around} {E : Value → Shared → Prop} {s : Shared} {h₀ : Heap} {L l : Addr} {m : Str → Option Value} {news : List (Addr × Obj)} {x : Int} {t : Tok} {n : Nat} {Q : Value → Shared → Prop} (F : Fr h₀ L s.heap m := by k_asm) (N : News h₀ L s.heap ((l, W.listOf #[.int x t] n) :: news) := by k_asm) (hx : 0 ≤ x ∧ x < 256 := by first | assumption | lia) (hh : A.handled = none := by with_unfolding_all rfl)
    (h : ∀ h' t k, Fr h₀ L h' m → News h₀ L h' news → Q (.bytes (List.toArray [x.toNat.toUInt8]) t) { s with heap := h', toks := k }) : wpAny (model prog w) A (call (.type "bytes") [.ref l]) Q E s :=
  bytes_K (vs := [.int x t]) (ns := [x]) F N (News.isList N (.head _)) (.cons _ _ .nil) (fun n hn => by rw [List.mem_singleton.mp hn]; exact hx) (Nat.le_of_ble_eq_true rfl) hh fun h' t k F' N' _ => h h' t k F' (fun q hq => N' q (.tail _ hq))
theorem bytes_four {prog : Program} {w : World} {A : Around} {E : Value → Shared → Prop} {s : Shared} {h₀ : Heap} {L l : Addr} {m : Str → Option Value} {news : List (Addr × Obj)} {x1 x2 x3 x4 : Int} {t1 t2 t3 t4 : Tok} {n : Nat} {Q : Value → Shared → Prop} (F : Fr h₀ L s.heap m := by k_asm) (N : News h₀ L s.heap ((l, W.listOf #[.int x1 t1, .int x2 t2, .int x3 t3, .int x4 t4] n) :: news) := by k_asm) (h1 : 0 ≤ x1 ∧ x1 < 256 := by first | assumption | lia) (h2 : 0 ≤ x2 ∧ x2 < 256 := by first | assumption | lia) (h3 : 0 ≤ x3 ∧ x3 < 256 := by first | assumption | lia) (h4 : 0 ≤ x4 ∧ x4 < 256 := by first | assumption | lia) (hh : A.handled = none := by with_unfolding_all rfl)
    (h : ∀ h' t k, Fr h₀ L h' m → News h₀ L h' news → Q (.bytes (List.toArray [x1.toNat.toUInt8, x2.toNat.toUInt8, x3.toNat.toUInt8, x4.toNat.toUInt8]) t) { s with heap := h', toks := k }) : wpAny (model prog w) A (call (.type "bytes") [.ref l]) Q E s :=
  bytes_K (vs := [.int x1 t1, .int x2 t2, .int x3 t3, .int x4 t4]) (ns := [x1, x2, x3, x4]) F N (News.isList N (.head _)) (.cons _ _ (.cons _ _ (.cons _ _ (.cons _ _ .nil)))) (fun n hn => by
    simp only [List.mem_cons, List.not_mem_nil, or_false] at hn
    rcases hn with rfl | rfl | rfl | rfl
    · exact h1
    · exact h2
    · exact h3
    · exact h4) (Nat.le_of_ble_eq_true rfl) hh fun h' t k F' N' _ => h h' t k F' (fun q hq => N' q (.tail _ hq))
theorem letterOf_small (y : Int) : (letterOf y).cps.getD 0 0 < 256 := by unfold letterOf; split <;> decide
theorem bits_parts {b : Int} (hb : 0 ≤ b ∧ b < 65536) : (0 ≤ b.fdiv 256 ∧ b.fdiv 256 < 256) ∧ (0 ≤ b.fmod 256 ∧ b.fmod 256 < 256) := by
  rw [Int.fdiv_eq_ediv_of_nonneg b (by decide), Int.fmod_eq_emod_of_nonneg _ (by decide)]
  lia
theorem kind_is {y T : Int} : [true, y.fmod 4 == 0, y.fmod 4 != 0, [(1 : Int), 2].any fun x => x == y.fmod 4].getD (T.fmod 4).toNat false = kindOfT T y := by
  unfold kindOfT
  rw [Int.fmod_eq_emod_of_nonneg y (by decide), Int.fmod_eq_emod_of_nonneg T (by decide)]
  have e : ([(1 : Int), 2].any fun x => x == y % 4) = (y % 4 == 1 || y % 4 == 2) := by
    simp only [List.any_cons, List.any_nil, Bool.or_false]
    rw [Bool.beq_comm (a := (1 : Int)), Bool.beq_comm (a := (2 : Int))]
  rw [e]
theorem name_is {y T up : Int} : [true, letterOf y == Str.ofString "a", letterOf y == Str.ofString "é" && decide (0 ≤ up), decide (up < 0)].getD ((T.fdiv 4).fmod 4).toNat false = nameOfT T y up := by
  unfold nameOfT
  rw [Int.fdiv_eq_ediv_of_nonneg T (by decide), Int.fmod_eq_emod_of_nonneg _ (by decide)]
theorem hide_item {hide : List Bool} {k : Nat} (h : k < hide.length) : (List.toArray (hide.map Value.bool))[k]? = some (.bool (hide.getD k false)) := by
  rw [List.getElem?_toArray, List.getElem?_map, List.getElem?_eq_getElem h, List.getD_eq_getElem?_getD, List.getElem?_eq_getElem h]
  rfl
theorem thing_is {us : List Int} {i : Nat} {y : Int} {v : Value} {t1 t2 t3 : Tok} (h : v = [Value.int ((List.count ((i : Nat) : Int) us : Nat) : Int) t1, .bytes (List.toArray (List.replicate (sizeOf2 y).toNat (y.fmod 256).toNat.toUInt8)) t2, .str ⟨((List.replicate (sizeOf2 y).toNat (233 : UInt8)).map UInt8.toNat).toArray⟩ t3, .none].getD (y.fmod 4).toNat .none) :
    ThingVal (thingOf us i y) v := by
  subst h
  unfold thingOf
  rw [Int.fmod_eq_emod_of_nonneg y (b := 4) (by decide), Int.fmod_eq_emod_of_nonneg y (b := 256) (by decide)]
  have hk : (y % 4).toNat < 4 := by lia
  revert hk
  generalize (y % 4).toNat = k
  intro hk
  exact four (P := fun k => ThingVal ([Thing.num (us.count (i : Int)), .byt (List.replicate (sizeOf2 y).toNat (y % 256).toNat.toUInt8), .txt (List.replicate (sizeOf2 y).toNat 233), .non].getD k .non) ([Value.int ((List.count ((i : Nat) : Int) us : Nat) : Int) t1, .bytes (List.toArray (List.replicate (sizeOf2 y).toNat (y % 256).toNat.toUInt8)) t2, .str ⟨((List.replicate (sizeOf2 y).toNat (233 : UInt8)).map UInt8.toNat).toArray⟩ t3, .none].getD k .none)) hk
    ⟨t1, rfl⟩ ⟨t2, rfl⟩ ⟨t3, rfl⟩ rfl
theorem body_is {us : List Int} {i : Nat} {y : Int} {r : List UInt8} (h : r = [[((List.count ((i : Nat) : Int) us : Nat) : Int).toNat.toUInt8], (sizeOf2 y).toNat.toUInt8 :: List.replicate (sizeOf2 y).toNat (y.fmod 256).toNat.toUInt8, (sizeOf2 y).toNat.toUInt8 :: List.replicate (sizeOf2 y).toNat 233, []].getD (y.fmod 4).toNat []) : r = bodyOf us i y := by
  unfold bodyOf
  rw [h, Int.fmod_eq_emod_of_nonneg y (b := 4) (by decide), Int.fmod_eq_emod_of_nonneg y (b := 256) (by decide), Int.toNat_natCast]
theorem strsAre_snoc {x : Str} {t : Tok} : ∀ {vs : List Value} {xs : List Str}, StrsAre vs xs → StrsAre (vs ++ [.str x t]) (xs ++ [x])
  | _, _, .nil => .cons x t .nil
  | _, _, .cons z u r => .cons z u (strsAre_snoc r)
theorem JL2.step {ns us : List Int} {T : Int} {L nA uA pA hA dA eA : Addr} {nvs uvs pvs hvs dvs evs : List Value} {nz uz pz hz dz ez : Nat} {o1 o2 o3 o4 : Obj} {i : Nat} {m : Str → Option Value} {st : S2} {y up : Int} {rb : List UInt8} {oT tT tr tl te : Tok} {r9 : Str} {v : Value} {D : Addr} {tups : List (Addr × Obj)}
    (hst : st2 ns us T i = st) (hy : ns.getD i 0 = y) (hu : us.getD i 0 = up) (n1 : m (Str.ofString "numbers") = some (.ref nA)) (n2 : m (Str.ofString "total") = some (.int T tT)) (n3 : m (Str.ofString "ups") = some (.ref uA)) (n4 : m (Str.ofString "paths") = some (.ref pA))
    (n5 : m (Str.ofString "octets") = some (.bytes (List.toArray (st.oct ++ [Int.toNat 1 |>.toUInt8, (((letterOf y).cps.getD 0 0 : Nat) : Int).toNat.toUInt8, ((bitsOf y).fdiv 256).toNat.toUInt8, ((bitsOf y).fmod 256).toNat.toUInt8] ++ rb)) oT)) (hrb : rb = bodyOf us i y)
    (hp1 : StrsAre pvs st.paths) (hp2 : hvs = st.hide.map Value.bool) (hp3 : Seen st.due dvs tups) (hp4 : IntsAre evs st.ends) (hr : r9 = pathOf st.paths y up) (hv : ThingVal (thingOf us i y) v) :
    JL2 ns us T L nA uA pA hA dA eA nvs uvs nz uz o1 o2 o3 o4 (i + 1) m
      ((eA, W.listOf ((List.toArray evs).push (.int ((st.oct ++ [Int.toNat 1 |>.toUInt8, (((letterOf y).cps.getD 0 0 : Nat) : Int).toNat.toUInt8, ((bitsOf y).fdiv 256).toNat.toUInt8, ((bitsOf y).fmod 256).toNat.toUInt8] ++ rb).length : Int) te)) ez) :: (dA, W.listOf ((List.toArray dvs).push (.ref D)) dz) :: (hA, W.listOf ((List.toArray hvs).push (.bool (hideOf st.hide T y up))) hz) :: (pA, W.listOf ((List.toArray pvs).push (.str r9 tr)) pz) :: (uA, W.listOf (List.toArray uvs) uz) :: (nA, W.listOf (List.toArray nvs) nz) ::
        (L + 1 + 1 + 1 + 1, o4) :: (L + 1 + 1 + 1, o3) :: (L + 1 + 1, o2) :: (L + 1, o1) :: (167, tabObj #[]) :: (92, tabObj #[]) :: (D, tupOf #[.str ((⟨(rowOf (bitsOf y).toNat).toArray⟩ : Str) ++ Str.ofString " " ++ r9) tl, v]) :: tups) := by
  have hs : st2 ns us T (i + 1) = step2 us T st i y := by rw [← hst, ← hy]; rfl
  have hO : st.oct ++ [Int.toNat 1 |>.toUInt8, (((letterOf y).cps.getD 0 0 : Nat) : Int).toNat.toUInt8, ((bitsOf y).fdiv 256).toNat.toUInt8, ((bitsOf y).fmod 256).toNat.toUInt8] ++ rb = st.oct ++ placeOct us i y := by
    unfold placeOct
    rw [hrb, Int.fdiv_eq_ediv_of_nonneg _ (by decide), Int.fmod_eq_emod_of_nonneg _ (by decide), List.append_assoc]
    rfl
  rw [hO] at n5 ⊢
  refine ⟨n1, ⟨_, n2⟩, n3, n4, ⟨oT, ?_⟩, pvs ++ [.str r9 tr], hvs ++ [.bool (hideOf st.hide T y up)], dvs ++ [.ref D], evs ++ [.int ((st.oct ++ placeOct us i y).length : Int) te], pz, hz, dz, ez, (D, tupOf #[.str ((⟨(rowOf (bitsOf y).toNat).toArray⟩ : Str) ++ Str.ofString " " ++ r9) tl, v]) :: tups, ?_, ?_, ?_, ?_, ?_⟩
  · rw [hs]; exact n5
  · rw [hs]; subst hr hu; exact strsAre_snoc hp1
  · rw [hs]; subst hu; rw [hp2]; simp [step2]
  · rw [hs]; subst hr hu; exact .snoc hp3 ⟨tl, v, hv, rfl⟩
  · rw [hs]; exact intsAre_snoc hp4
  · simp
theorem l2_apart {I e d h p D : Addr} {x1 x1' x2 x2' x3 x3' x4 x4' o : Obj} {u n c4 c3 c2 c1 t1 t2 : Addr × Obj} {tups : List (Addr × Obj)} (hn : ∀ q ∈ (e, x1) :: (d, x2) :: (h, x3) :: (p, x4) :: u :: n :: c4 :: c3 :: c2 :: c1 :: t1 :: t2 :: tups, q.1 ≠ I) (hD : D ≠ I) :
    ∀ q ∈ (e, x1') :: (d, x2') :: (h, x3') :: (p, x4') :: u :: n :: c4 :: c3 :: c2 :: c1 :: t1 :: t2 :: (D, o) :: tups, q.1 ≠ I :=
  apart_perm [(D, o), (e, x1), (d, x2), (h, x3), (p, x4), u, n, c4, c3, c2, c1, t1, t2] [(e, x1'), (d, x2'), (h, x3'), (p, x4'), u, n, c4, c3, c2, c1, t1, t2, (D, o)] tups [1, 2, 3, 4, 5, 6, 7, 8, 9, 10, 11, 12, 0] rfl rfl (List.forall_mem_cons.mpr ⟨hD, hn⟩)
theorem news_l3 {g h : Heap} {L : Addr} {a x1 x2 x3 x4 x5 i e d hh p u n c4 c3 c2 c1 t1 t2 : Addr × Obj} {tups : List (Addr × Obj)} (N : News g L h (a :: x1 :: x2 :: x3 :: x4 :: x5 :: i :: e :: d :: hh :: p :: u :: n :: c4 :: c3 :: c2 :: c1 :: t1 :: t2 :: tups)) :
    News g L h (i :: e :: d :: hh :: p :: u :: n :: c4 :: c3 :: c2 :: c1 :: t1 :: t2 :: a :: tups) := by
  exact news_sub N (perm_sub [a, x1, x2, x3, x4, x5, i, e, d, hh, p, u, n, c4, c3, c2, c1, t1, t2] tups [6, 7, 8, 9, 10, 11, 12, 13, 14, 15, 16, 17, 18, 0] rfl)

open PySem.SeqAt
/-- a value that stands for an item -/
def Has (h : Heap) (it : Item) (v : Value) : Prop := ∃ a o, v = .ref a ∧ h.get? a = some o ∧ ItemAt it a o
inductive Its (h : Heap) : List Item → List Value → Prop
  | nil : Its h [] []
  | cons {it : Item} {v : Value} {its : List Item} {vs : List Value} (x : Has h it v) (r : Its h its vs) : Its h (it :: its) (v :: vs)
theorem Its.snoc {h : Heap} {it : Item} {v : Value} (x : Has h it v) : ∀ {its : List Item} {vs : List Value}, Its h its vs → Its h (its ++ [it]) (vs ++ [v])
  | _, _, .nil => .cons x .nil
  | _, _, .cons y r => .cons y (Its.snoc x r)
theorem Its.of_seen {h : Heap} {its : List Item} {vs : List Value} {tups : List (Addr × Obj)} (hs : Seen its vs tups) (hk : ∀ q ∈ tups, h.get? q.1 = some q.2) : Its h its vs := by
  induction hs with
  | nil => exact .nil
  | snoc _ hi ih => exact .snoc ⟨_, _, rfl, hk _ (.head _), hi⟩ (ih fun q hq => hk q (.tail _ hq))
theorem Its.length {h : Heap} : ∀ {its : List Item} {vs : List Value}, Its h its vs → its.length = vs.length
  | _, _, .nil => rfl
  | _, _, .cons _ r => congrArg (· + 1) r.length
theorem Its.get {h : Heap} : ∀ {its : List Item} {vs : List Value}, Its h its vs → ∀ {j : Nat}, j < its.length → ∃ it v, its[j]? = some it ∧ vs[j]? = some v ∧ Has h it v
  | _, _, .nil, j, hj => absurd hj (Nat.not_lt_zero _)
  | _, _, .cons x r, 0, _ => ⟨_, _, rfl, rfl, x⟩
  | _, _, .cons x r, j + 1, hj => by simpa using r.get (Nat.lt_of_succ_lt_succ hj)
/-- the items at the places that a test takes -/
def pickI (pz : Nat → Bool) (its : List Item) : List Item := ((List.range its.length).filter pz).map fun k => its.getD k (Str.empty, .non)
theorem Its.pick {h : Heap} {its : List Item} {vs : List Value} (H : Its h its vs) (pz : Nat → Bool) : Its h (pickI pz its) (((List.range its.length).filter pz).map fun k => vs.getD k .none) := by
  unfold pickI
  have key : ∀ ks : List Nat, (∀ k ∈ ks, k < its.length) → Its h (ks.map fun k => its.getD k (Str.empty, .non)) (ks.map fun k => vs.getD k .none) := by
    intro ks
    induction ks with
    | nil => intro _; exact .nil
    | cons k ks ih =>
      intro hk
      obtain ⟨it, v, e1, e2, x⟩ := H.get (hk k (.head _))
      refine .cons ?_ (ih fun q hq => hk q (.tail _ hq))
      show Has h (its.getD k _) (vs.getD k _)
      rw [List.getD_eq_getElem?_getD, List.getD_eq_getElem?_getD, e1, e2]
      exact x
  exact key _ fun k hk => List.mem_range.mp (List.mem_filter.mp hk).1
section
variable {A : Around} {s : Shared}
theorem eqAt_bytes {b : Array UInt8} {t u : Tok} : EqAt A s (.bytes b t) (.bytes b u) true := fun prog w E Q h => eqBool_bytes (by rw [decide_eq_true rfl]; exact h)
theorem eqAt_str {x : Str} {t u : Tok} : EqAt A s (.str x t) (.str x u) true := by
  have := EqAt.str_str (A := A) (s := s) x t x u
  rwa [beq_self_eq_true] at this
theorem eqAt_thing {th : Thing} {v v' : Value} (h : ThingVal th v) (h' : ThingVal th v') : EqAt A s v v' true := by
  cases th with
  | num k =>
    obtain ⟨t, rfl⟩ := h
    obtain ⟨u, rfl⟩ := h'
    have := EqAt.int_int (A := A) (s := s) (k : Int) t (k : Int) u
    rwa [beq_self_eq_true] at this
  | byt d =>
    obtain ⟨t, rfl⟩ := h
    obtain ⟨u, rfl⟩ := h'
    exact eqAt_bytes
  | txt d =>
    obtain ⟨t, rfl⟩ := h
    obtain ⟨u, rfl⟩ := h'
    exact eqAt_str
  | non =>
    obtain rfl : v = .none := h
    obtain rfl : v' = .none := h'
    exact EqAt.same _
theorem eqAt_item {it : Item} {v v' : Value} (h : Has s.heap it v) (h' : Has s.heap it v') (hu : A.units < cLine) : EqAt A s v v' true := by
  obtain ⟨a, o, rfl, e, t, w, hw, rfl⟩ := h
  obtain ⟨a', o', rfl, e', t', w', hw', rfl⟩ := h'
  by_cases hne : a = a'
  · subst hne
    exact EqAt.same _
  · refine EqAt.of_refs hne ?_
    have key := RcAt.tuples (A := A) (s := s) (e := fun _ => true) (l := a) (b := a') (items := #[.str it.1 t, w]) (items2 := #[.str it.1 t', w']) ⟨_, e, rfl, _, rfl⟩ ⟨_, e', rfl, _, rfl⟩ hu (fun j h1 h2 => by
      have hj : j < 2 := h1
      rcases (show j = 0 ∨ j = 1 by lia) with rfl | rfl
      · exact eqAt_str
      · exact eqAt_thing hw hw')
    exact key
theorem eq_lists {prog : Program} {w : World} {E Q : Value → Shared → Prop} {l l' : Addr} {its : List Item} {vs vs' : List Value} {lv lv' : Value} (hl : s.heap.IsList l (List.toArray (vs ++ [lv]))) (hl' : s.heap.IsList l' (List.toArray (vs' ++ [lv']))) (H : Its s.heap its vs) (H' : Its s.heap its vs') (hlv : EqAt A.in1 s lv lv' true) (hu : A.units + 1 < cLine)
    (h : Q (.bool true) s) : wpAny (model prog w) A (compareOp .Eq (.ref l) (.ref l')) Q E s := by
  have n1 := H.length
  have n2 := H'.length
  have key := RcAt.lists (A := A) (s := s) (e := fun _ => true) hl hl' (by simp only [List.size_toArray, List.length_append, List.length_singleton]; lia) (by lia) (fun j h1 h2 => by
    have hj : j < its.length + 1 := by simpa [n1] using h1
    by_cases hj2 : j < its.length
    · obtain ⟨it, v, a1, a2, x⟩ := H.get hj2
      obtain ⟨it', v', b1, b2, x'⟩ := H'.get hj2
      rw [a1] at b1
      obtain rfl := Option.some.inj b1
      have e1 : (List.toArray (vs ++ [lv]))[j] = v := by
        have : (vs ++ [lv])[j]? = some v := by rw [List.getElem?_append_left (by lia)]; exact a2
        simpa using (List.getElem?_eq_some_iff.mp this).2
      have e2 : (List.toArray (vs' ++ [lv']))[j] = v' := by
        have : (vs' ++ [lv'])[j]? = some v' := by rw [List.getElem?_append_left (by lia)]; exact b2
        simpa using (List.getElem?_eq_some_iff.mp this).2
      rw [e1, e2]
      exact eqAt_item x x' hu
    · have hj3 : j = its.length := by lia
      have e1 : (List.toArray (vs ++ [lv]))[j] = lv := by
        have : (vs ++ [lv])[j]? = some lv := by rw [List.getElem?_append_right (by lia), show j - vs.length = 0 by lia]; rfl
        simpa using (List.getElem?_eq_some_iff.mp this).2
      have e2 : (List.toArray (vs' ++ [lv']))[j] = lv' := by
        have : (vs' ++ [lv'])[j]? = some lv' := by rw [List.getElem?_append_right (by lia), show j - vs'.length = 0 by lia]; rfl
        simpa using (List.getElem?_eq_some_iff.mp this).2
      rw [e1, e2]
      exact hlv)
  refine key prog w E Q ?_
  rw [show ((List.range (List.toArray (vs ++ [lv])).size).all fun _ => true) = true by simp]
  exact h
end
theorem Seen.seq {its : List Item} {vs : List Value} {l : List (Addr × Obj)} (h : Seen its vs l) : ∀ q ∈ l, ∃ xs n, q.2.data = .seq xs n := by
  induction h with
  | nil => intro q hq; cases hq
  | snoc _ hi ih =>
    intro q hq
    rcases List.mem_cons.mp hq with rfl | hq
    · obtain ⟨t, v, _, e⟩ := hi
      subst e
      exact ⟨_, _, rfl⟩
    · exact ih q hq
theorem tups_ned {g h : Heap} {L a : Addr} {o : Obj} {news tups : List (Addr × Obj)} (N : News g L h news) (hsq : ∀ q ∈ tups, ∃ xs n, q.2.data = .seq xs n) (hsub : ∀ q ∈ tups, q ∈ news) (hm : (a, o) ∈ news) (ho : ∀ xs n, o.data ≠ .seq xs n) : ∀ q ∈ tups, q.1 ≠ a := by
  intro q hq e
  obtain ⟨xs, n, hd⟩ := hsq q hq
  have e1 := (N _ (hsub q hq)).1
  have e2 := (N _ hm).1
  rw [e, e2] at e1
  have e3 := Option.some.inj e1
  dsimp only at e3
  exact ho xs n (by rw [e3]; exact hd)
theorem test_one {prog : Program} {w : World} {A : Around} {E : Value → Shared → Prop} {c : PySem.Expr} {cenv : Env} {b : Bool} {s : Shared} (h : wpAny (model prog w) A (isTrue c cenv (eval c cenv)) (fun ok s₃ => Halt (ok = b ∧ Keeps s s₃)) E s) :
    wpAny (model prog w) A (forIn [c] true fun c r => if r = true then do let ok ← isTrue c cenv (eval c cenv); pure (ForInStep.yield ok) else pure (ForInStep.yield r)) (fun ok s₃ => ok = b ∧ Keeps s s₃) E s := by
  rw [List.forIn_cons, if_pos rfl]
  refine wpAny_bind (wpAny_bind (wpAny_mono h (fun ok s₃ hk => ?_) fun _ _ e => e))
  exact wpAny_pure (wpAny_pure hk)
theorem news_same {g h : Heap} {L a : Addr} {o1 o2 : Obj} {news : List (Addr × Obj)} (N : News g L h news) (h1 : (a, o1) ∈ news) (h2 : (a, o2) ∈ news) : o1 = o2 := by
  have e1 := (N _ h1).1
  have e2 := (N _ h2).1
  rw [e1] at e2
  exact Option.some.inj e2
theorem triples_no {ps : Array Value} (ht : TriplesOk ps.toList) {x : Str} {t : Tok} : ps[1]? ≠ some (.str x t) := by
  obtain ⟨l⟩ := ps
  intro e
  replace e : l[1]? = some (.str x t) := by simpa using e
  replace ht : TriplesOk l := ht
  fun_cases TriplesOk l with
  | case1 => cases e
  | case2 => cases e
  | case3 _ h1 h2 => simp_all [TriplesOk]
theorem tabs_apart {g h : Heap} {L : Addr} {Tb led : List (Addr × Obj)} {ps : Array Value} (N : News g L h (Tb ++ (92, tabObj ps) :: led)) (hT : TabS Tb) (ht : TriplesOk ps.toList) (hF : ∀ q ∈ led, ∀ vs, q.2.data ≠ .fields vs) :
    (∀ p ∈ led, p.1 ≠ 167 ∧ p.1 ≠ 92) ∧ (∀ q ∈ Tb, q.1 ≠ 92 ∧ (q.1 ≠ 167 → ∀ p ∈ led, p.1 ≠ q.1)) := by
  have m167 : ∃ vs, ((167 : Addr), tabObj vs) ∈ Tb := by
    rcases hT with rfl | ⟨c, oc, rfl, _⟩
    · exact ⟨_, .head _⟩
    · exact ⟨_, .head _⟩
  obtain ⟨ts, h167⟩ := m167
  have inT : ∀ q ∈ Tb, q ∈ Tb ++ (92, tabObj ps) :: led := fun q hq => List.mem_append_left _ hq
  have inL : ∀ q ∈ led, q ∈ Tb ++ (92, tabObj ps) :: led := fun q hq => List.mem_append_right _ (.tail _ hq)
  have in92 : ((92 : Addr), tabObj ps) ∈ Tb ++ (92, tabObj ps) :: led := List.mem_append_right _ (.head _)
  have no : ∀ p ∈ led, ∀ a o, (a, o) ∈ Tb ++ (92, tabObj ps) :: led → (∃ vs, o.data = .fields vs) → p.1 ≠ a := by
    rintro ⟨a', o'⟩ hp a o hm ⟨vs, hv⟩ e
    dsimp only at e
    subst e
    exact hF _ hp vs (by rw [news_same N (inL _ hp) hm]; exact hv)
  refine ⟨fun p hp => ⟨no p hp _ _ (inT _ h167) ⟨_, rfl⟩, no p hp _ _ in92 ⟨_, rfl⟩⟩, ?_⟩
  rintro ⟨a, o⟩ hq
  rcases hT with rfl | ⟨c, oc, rfl, hoc⟩
  · rcases List.mem_cons.mp hq with e | hq
    · cases e
      exact ⟨by decide, fun h => absurd rfl h⟩
    · cases hq
  · rcases List.mem_cons.mp hq with e | hq2
    · cases e
      exact ⟨(by decide : (167 : Nat) ≠ 92), fun h => absurd rfl h⟩
    · rcases List.mem_cons.mp hq2 with e | hq2
      · cases e
        obtain ⟨vs, t, hd, hv⟩ := hoc
        refine ⟨?_, fun _ p hp => no p hp _ _ (inT _ hq) ⟨_, hd⟩⟩
        rintro e
        dsimp only at e
        subst e
        have := news_same N (inT _ hq) in92
        rw [this] at hd
        cases hd
        exact triples_no ht hv
      · cases hq2
theorem MeetG.use {w : World} {f : Addr} {args : List Value} {D U : Nat} {led : List (Addr × Obj)} {Ok : Value → List (Addr × Obj) → Prop} (H : MeetG w f args D U led Ok)
    {p : Program} {loose : List Str} {mean : ExcName → Option Value} {mg mb : Str → Option Value} {dp un : Nat} {gd : Option (List Code)} {cn : Str} {cs : Scope} {a : Addr} {ccd : Value} {cl : List (Str × Addr)} {A₀ : Around} {base h₀ : Heap} {L : Addr} {m : Str → Option Value} {s : Shared}
    {Q E : Value → Shared → Prop} (B : Below A₀ base [] h₀) (F : Fr h₀ L s.heap m) (X : (hd.heap_39 w.params).In h₀) (N : News h₀ L s.heap led) (T : Top p loose mean mg mb h₀) (hk : cs.kind = .function) (hdp : dp + D < recursionLimit) (hu : un + U < cLine)
    (ret : ∀ r led' h' tk' gs', Ok r led' → Fr h₀ L h' m → News h₀ L h' led' → BareTo s.gens gs' → Q r { s with heap := h', toks := tk', gens := gs' }) :
    wpAny (model PP w) (ktrTop dp un gd cn cs L a ccd cl []) (call (.ref f) args) Q E s := H p loose mean mg mb dp un gd cn cs a ccd cl A₀ base h₀ L m s Q E B F X N T hk hdp hu ret
theorem picked_take {o : List UInt8} {i : Int} (h0 : 0 ≤ i) (h1 : i < o.length) : KBy.picked o.toArray none (some i) = (o.take i.toNat).toArray := by
  obtain ⟨j, rfl⟩ := Int.eq_ofNat_of_zero_le h0
  rw [KBc.picked_eq]
  congr 1
  simp only [Option.elim, clipAt_nat, List.size_toArray, Int.toNat_natCast, List.drop_zero]
  rw [Nat.min_eq_left (by lia), Nat.sub_zero]
theorem news_c1 {g h : Heap} {L : Addr} {sh ls e d hh p u n c4 c3 c2 c1 t1 t2 : Addr × Obj} {tups : List (Addr × Obj)} (N : News g L h (sh :: ls :: e :: d :: hh :: p :: u :: n :: c4 :: c3 :: c2 :: c1 :: t1 :: t2 :: tups)) : News g L h ([t1] ++ t2 :: (sh :: ls :: c4 :: tups)) := by
  refine news_sub N fun q hq => ?_
  simp only [List.cons_append, List.nil_append, List.mem_cons] at hq ⊢
  rcases hq with h | h | h | h | h | h <;> simp only [h, true_or, or_true]
/-- the ledger behind the first call of _law_list -/
theorem news_c2 {g h : Heap} {L : Addr} {t2 l sh ls c4 : Addr × Obj} {Tb ta tups : List (Addr × Obj)} (N : News g L h (Tb ++ t2 :: l :: (ta ++ (sh :: ls :: c4 :: tups)))) : News g L h (l :: sh :: ls :: c4 :: (Tb ++ t2 :: (ta ++ tups))) := by
  refine news_sub N fun q hq => ?_
  simp only [List.mem_cons, List.mem_append] at hq ⊢
  rcases hq with h | h | h | h | h | h | h | h <;> simp only [h, true_or, or_true]
theorem news_c3 {g h : Heap} {L : Addr} {x1 x2 x3 sh ls c4 t2 : Addr × Obj} {Tb ta tups : List (Addr × Obj)} (N : News g L h (x1 :: x2 :: x3 :: sh :: ls :: c4 :: (Tb ++ t2 :: (ta ++ tups)))) : News g L h (Tb ++ t2 :: (sh :: tups)) := by
  refine news_sub N fun q hq => ?_
  simp only [List.mem_cons, List.mem_append] at hq ⊢
  rcases hq with h | h | h | h <;> simp only [h, true_or, or_true]
theorem news_c4 {g h : Heap} {L : Addr} {t2 l sh : Addr × Obj} {Tb ta tups : List (Addr × Obj)} (N : News g L h (Tb ++ t2 :: l :: (ta ++ (sh :: tups)))) : News g L h (l :: sh :: (Tb ++ t2 :: (ta ++ tups))) := by
  refine news_sub N fun q hq => ?_
  simp only [List.mem_cons, List.mem_append] at hq ⊢
  rcases hq with h | h | h | h | h | h <;> simp only [h, true_or, or_true]
theorem grown_all {g h : Heap} {L : Addr} {ps : Array Value} {Tb pre ta : List (Addr × Obj)} (N : News g L h (pre ++ (Tb ++ (92, tabObj ps) :: ta))) (hT : TabS Tb) : GrownAll [(171, 167), (96, 92)] h := by
  have m167 : ∃ vs, ((167 : Addr), tabObj vs) ∈ Tb := by
    rcases hT with rfl | ⟨c, oc, rfl, _⟩
    · exact ⟨_, .head _⟩
    · exact ⟨_, .head _⟩
  obtain ⟨ts, h167⟩ := m167
  exact ⟨⟨ts, (N _ (List.mem_append_right _ (List.mem_append_left _ h167))).1⟩, ⟨ps, (N _ (List.mem_append_right _ (List.mem_append_right _ (.head _)))).1⟩, trivial⟩

theorem resetX2 : True := by w_top off; trivial
section
variable {prog : Program} {w : World} {A : Around} {E : Value → Shared → Prop} {s : Shared} {value slice : PySem.Expr} {h₀ : Heap} {L l : Addr} {x : Int} {n : Nat} {u : Tok} {news : List (Addr × Obj)} {Q : Value → Shared → Prop}
theorem pick_str4 {a b c d : Str} {t1 t2 t3 t4 : Tok} (N : News h₀ L s.heap news) (hm : (l, ({ cls := .type "tuple", data := .seq #[.str a t1, .str b t2, .str c t3, .str d t4] n } : Obj)) ∈ news) (hz : a.length ≤ 4 ∧ b.length ≤ 4 ∧ c.length ≤ 4 ∧ d.length ≤ 4)
    (h : ∀ r t, r = [a, b, c, d].getD (x.fmod 4).toNat Str.empty → r.length ≤ 4 → Q (.str r t) s)
    (hs : subscripted slice false (.ref l) (.int (x.fmod 4) u) = operate [.ref l, .int (x.fmod 4) u] (getItem (.ref l) (.int (x.fmod 4) u)) := by with_unfolding_all rfl) :
    wpAny (model prog w) A (subscriptTail value slice (.ref l) (.int (x.fmod 4) u)) Q E s := by
  have e := Int.fmod_eq_emod_of_nonneg x (b := 4) (by decide)
  have h0 : 0 ≤ x.fmod 4 := by omega
  have h1 : x.fmod 4 < 4 := by omega
  refine KTb.item_tup (vs := [.str a t1, .str b t2, .str c t3, .str d t4]) (News.isTup N hm) (.cons a t1 (.cons b t2 (.cons c t3 (.cons d t4 .nil)))) h0 h1 (by omega) (fun t hlt => h _ t rfl ?_) hs
  have hk : (x.fmod 4).toNat < 4 := hlt
  obtain ⟨z1, z2, z3, z4⟩ := hz
  rcases (show (x.fmod 4).toNat = 0 ∨ (x.fmod 4).toNat = 1 ∨ (x.fmod 4).toNat = 2 ∨ (x.fmod 4).toNat = 3 by omega) with e | e | e | e <;> rw [e]
  · exact z1
  · exact z2
  · exact z3
  · exact z4
end
theorem law_2 {w : World} {ns : List Int} {TT : Int} (hnz : ns.length ≤ 10) (H : LawRest w 12 (J2 ns (st1 ns ns.length).2 TT 0)) : LawRest w 6 (J1 ns TT) := by
  have hfill : PySem.Challenge.rw_in0217_01 = PySem.Challenge.rw_in0217_01 ∧ hd.heap_39 = hd.heap_39 := by (k_fill; exact ⟨rfl, rfl⟩)
  clear hfill
  refine' LawAt.intro ?e ?go
  case e => k_is
  case go =>
    rintro p loose mean mg mb dp un gd fa cd A₀ base g L s m news Q B X T hdp hun hbare hQ F N ⟨nA, uA, tT, nvs, uvs, nz, uz, o1, o2, o3, o4, e1, e2, e3, hnv, huv, ⟨c1, c2, c3, c4⟩, hL, hLu, rfl⟩
    have CH1 := code171 X
    have CH2 := code96 X
    rw [names_put e1, names_put e2, names_put e3] at F
    clear e1 e2 e3
    dsimp only [List.drop]
    (try (refine wp_letA ?_; intro A9)); (try (refine wp_letE ?_; intro E9))
    (repeat' (first | (with_reducible (((with_reducible show wpAny _ _ (eval (Expr.ListComp _ _ _ _) _) _ _ _); (refine halt_any ?_)))) | (with_reducible (((with_reducible show wpAny _ _ (subscriptTail _ _ (Value.ref _) (Value.int (Int.fmod _ 4) _)) _ _ _); k_dflt (refine pick_str4 (by k_asm) (by k_mem) (by decide) ?_); intro _ _ _ _))) | (k_end; kc_close) | walk1 | (dsimp only [argC9]; walk1) | (k_unfold; (try dsimp only)) | (dsimp only [then9]) | (leave1; (try dsimp only))))
    unfold Halt
    (rename _ = List.getD [Str.ofString "?", _, _, _] _ _ => hx1)
    (rename _ = List.getD [Str.ofString "", _, _, _] _ _ => hx2)
    change _ = headOf TT at hx1
    change _ = tailOf TT at hx2
    subst hx1 hx2
    have hP : headOf TT ++ Str.ofString "*" ++ tailOf TT = patOf TT := rfl
    have hPs := patOf_small TT
    have hlen : (headOf TT).length + (Str.ofString "*").length + (tailOf TT).length = (patOf TT).length := by unfold patOf; simp only [PySem.Str.length_append]
    have hus : (st1 ns ns.length).2.length ≤ 200 := by rw [(st1_len ns ns.length).2]; omega
    rename Fr g L _ _ => F8
    refine' comp_ords F8 rfl ?hclos ?hcell rfl ?hnames rfl ?hit ?hs
    case hclos => rfl
    case hcell => decide
    case hnames => decide
    case hs => intro _; rfl
    case hit =>
      (try (refine wp_letA ?_; intro A9)); (try (refine wp_letE ?_; intro E9))
      k_steps
      unfold Halt
      rename News g L _ _ => N9
      rename Fr g L _ _ => F9
      refine ⟨_, _, _, rfl, ?zz, F9, N9, ?elt, ?fin⟩
      case zz =>
        show (patOf TT).length ≤ 16777216
        omega
      case elt =>
        intro C c u s₂ m₂ E' hC hns hmx hk
        have hCL : L < C := Nat.lt_of_lt_of_le F9.ns.lt hC
        have F8 : Fr g C s₂.heap (fun z => if z = Str.ofString "sign" then some (.str ⟨#[c]⟩ u) else m₂ z) := ⟨names_put hmx ▸ hns, fun b o e => hk _ _ (F9.keep b o e), Nat.le_trans F9.above (Nat.le_of_lt hCL)⟩
        clear F9 N9
        (try (refine wp_letA ?_; intro A9)); (try (refine wp_letE ?_; intro E9))
        (repeat' (first | (with_reducible (((with_reducible show wpAny _ _ (eval (Expr.Name _ _) (compEnvC _ _ _ _)) _ _ _); k_dflt (refine ldK_elt (by assumption) (by assumption) ?_)))) | (k_end; kc_close) | walk1 | (dsimp only [argC9]; walk1) | (k_unfold; (try dsimp only)) | (dsimp only [then9]) | (leave1; (try dsimp only))))
        exact ⟨_, _, rfl, fun _ _ e => e⟩
      case fin =>
        intro D n9 ys h9 tk9 F10 N10 hD hys
        clear F9 N9
        replace hD := allNe_of hD
        simp only [AllNe, and_true] at hD
        have hyl := hys.length
        simp only [List.length_map, Array.length_toList] at hyl
        change ys.length = (patOf TT).length at hyl
        have hyz : ys.length ≤ 9 := by omega
        (try (refine wp_letA ?_; intro A9)); (try (refine wp_letE ?_; intro E9))
        (repeat' (first | (with_reducible (((with_reducible show wpAny _ _ (binaryOp _ (Value.ref _) (Value.ref _)) _ _ _); k_dflt (refine kmk_add_lit (by k_asm) (by k_asm) (by exact News.isList (by k_asm) (by k_mem)) (by exact News.isList (by k_asm) (by k_mem)) (by rfl) ?_ (by (simp only [sizeLine_eq, List.length_append, List.length_cons, List.length_nil]; omega))); intro D' h' F' N' l1; (try k_lt l1); (try k_sweep)))) | (with_reducible (((with_reducible show wpAny _ _ (call (Value.type "bytes") _) _ _ _); (refine halt_any ?_)))) | (with_reducible (((with_reducible show wpAny _ _ (getMethod (Value.ref _) (PySem.Str.ofString "count") _) _ _ _); k_dflt (refine listMethod_K (by k_asm) (by k_mem) PySem.F.slot_list_count PySem.F.type_list_count ?_)))) | (k_end; kc_close) | walk1 | (dsimp only [argC9]; walk1) | (k_unfold; (try dsimp only)) | (dsimp only [then9]) | (leave1; (try dsimp only))))
        unfold Halt
        rename News g L _ _ => N11
        rename Fr g L _ _ => F11
        dsimp only at N11
        refine bytes_K (ns := hdrI TT (st1 ns ns.length).2) F11 N11 (News.isList N11 (.head _)) ?i ?r ?z rfl ?k
        case i =>
          unfold hdrI
          rw [← hlen]
          exact IntsAre.append (IntsAre.append (.cons _ _ .nil) hys) (.cons _ _ .nil)
        case r => exact hdrI_small hus
        case z =>
          simp only [List.length_append, List.length_singleton, sizeLine_eq]
          omega
        case k =>
          intro h12 t12 k12 F12 N12 _
          clear F11 N11
          (try (refine wp_letA ?_; intro A9)); (try (refine wp_letE ?_; intro E9))
          (repeat' (first | (with_reducible (((with_reducible show wpAny _ _ (execs (Stmt.For _ _ _ _ _ :: _) _) _ _ _); refine halt_any2 ?_))) | (k_end; kc_close) | walk1 | (dsimp only [argC9]; walk1) | (k_unfold; (try dsimp only)) | (dsimp only [then9]) | (leave1; (try dsimp only))))
          unfold Halt
          rename News g L _ _ => N13
          rename Fr g L _ _ => F13
          have H2 := H.use (by k_is)
          refine H2 _ _ _ _ _ _ _ _ _ _ _ _ _ _ _ _ _ _ B X T hdp hun hbare hQ.on F13 (news_l2 N13) ⟨_, _, _, _, _, _, _, _, _, _, _, _, _, _, hnv, huv, ⟨⟨by assumption, by assumption, by assumption, c4⟩, hL, ?ord⟩, rfl, ⟨_, rfl⟩, rfl, rfl, ⟨_, rfl⟩, [], [], [], [], 0, 0, 0, 0, [], .nil, rfl, .nil, .nil, rfl⟩
          case ord =>
            refine ⟨hLu.1, hLu.2, ?_, ?_, ?_, ?_, ?_⟩ <;> omega

theorem resetX3 : True := by w_top off; trivial
theorem sz10 {α : Type} {l : List Value} {b : List α} {i n : Nat} (h1 : l.length = b.length) (h2 : b.length = i) (h3 : i < n) (h4 : n ≤ 10) : (List.toArray l).size ≤ sizeLine := by
  rw [sizeLine_eq, List.size_toArray]; lia
theorem oc_small {i n k : Nat} (h : k ≤ 11 + 7 * i) (h3 : i < n) (h4 : n ≤ 10) : k ≤ 1000 := by lia
theorem sm2 {a b : Nat} (h : a ≤ 1000) (hb : Nat.ble b 1000 = true) : a + b ≤ 16777216 := Nat.le_trans (Nat.add_le_add h (Nat.le_of_ble_eq_true hb)) (Nat.le_of_ble_eq_true rfl)
theorem sm3 {a b c k : Nat} (h : a ≤ 1000) (hb : Nat.ble b 1000 = true) (hc : c ≤ k) (hk : Nat.ble k 1000 = true) : a + b + c ≤ 16777216 := Nat.le_trans (Nat.add_le_add (Nat.add_le_add h (Nat.le_of_ble_eq_true hb)) (Nat.le_trans hc (Nat.le_of_ble_eq_true hk))) (Nat.le_of_ble_eq_true rfl)
theorem ord_all {L nA uA pA hA dA eA : Nat} (hL : 167 < L ∧ 92 < L) (ho : L + 1 + 1 + 1 + 1 < nA ∧ L + 1 + 1 + 1 + 1 < uA ∧ nA < pA ∧ uA < pA ∧ pA < hA ∧ hA < dA ∧ dA < eA) :
    (@LT.lt Nat _ uA eA ∧ @LT.lt Nat _ nA eA ∧ @LT.lt Nat _ (L + 1 + 1 + 1 + 1) eA ∧ @LT.lt Nat _ (L + 1 + 1 + 1) eA ∧ @LT.lt Nat _ (L + 1 + 1) eA ∧ @LT.lt Nat _ (L + 1) eA ∧ @LT.lt Nat _ 167 eA ∧ @LT.lt Nat _ 92 eA ∧ @LT.lt Nat _ pA eA ∧ @LT.lt Nat _ hA eA ∧ @LT.lt Nat _ dA eA) ∧ (@LT.lt Nat _ uA dA ∧ @LT.lt Nat _ nA dA ∧ @LT.lt Nat _ (L + 1 + 1 + 1 + 1) dA ∧ @LT.lt Nat _ (L + 1 + 1 + 1) dA ∧ @LT.lt Nat _ (L + 1 + 1) dA ∧ @LT.lt Nat _ (L + 1) dA ∧ @LT.lt Nat _ 167 dA ∧ @LT.lt Nat _ 92 dA ∧ @LT.lt Nat _ pA dA ∧ @LT.lt Nat _ hA dA) ∧ (@LT.lt Nat _ uA hA ∧ @LT.lt Nat _ nA hA ∧ @LT.lt Nat _ (L + 1 + 1 + 1 + 1) hA ∧ @LT.lt Nat _ (L + 1 + 1 + 1) hA ∧ @LT.lt Nat _ (L + 1 + 1) hA ∧ @LT.lt Nat _ (L + 1) hA ∧ @LT.lt Nat _ 167 hA ∧ @LT.lt Nat _ 92 hA ∧ @LT.lt Nat _ pA hA) ∧ (@LT.lt Nat _ uA pA ∧ @LT.lt Nat _ nA pA ∧ @LT.lt Nat _ (L + 1 + 1 + 1 + 1) pA ∧ @LT.lt Nat _ (L + 1 + 1 + 1) pA ∧ @LT.lt Nat _ (L + 1 + 1) pA ∧ @LT.lt Nat _ (L + 1) pA ∧ @LT.lt Nat _ 167 pA ∧ @LT.lt Nat _ 92 pA) := by
  obtain ⟨o1, o2, o3, o4, o5, o6, o7⟩ := ho
  have p4 := Nat.lt_trans o1 o3
  have p3 := Nat.lt_of_succ_lt p4
  have p2 := Nat.lt_of_succ_lt p3
  have p1 := Nat.lt_of_succ_lt p2
  have p0 := Nat.lt_of_succ_lt p1
  have p7 := Nat.lt_trans hL.1 p0
  have p9 := Nat.lt_trans hL.2 p0
  have q := Nat.lt_trans o5 o6
  have r := Nat.lt_trans q o7
  exact ⟨⟨Nat.lt_trans o4 r, Nat.lt_trans o3 r, Nat.lt_trans p4 r, Nat.lt_trans p3 r, Nat.lt_trans p2 r, Nat.lt_trans p1 r, Nat.lt_trans p7 r, Nat.lt_trans p9 r, r, Nat.lt_trans o6 o7, o7⟩,
    ⟨Nat.lt_trans o4 q, Nat.lt_trans o3 q, Nat.lt_trans p4 q, Nat.lt_trans p3 q, Nat.lt_trans p2 q, Nat.lt_trans p1 q, Nat.lt_trans p7 q, Nat.lt_trans p9 q, q, o6⟩,
    ⟨Nat.lt_trans o4 o5, Nat.lt_trans o3 o5, Nat.lt_trans p4 o5, Nat.lt_trans p3 o5, Nat.lt_trans p2 o5, Nat.lt_trans p1 o5, Nat.lt_trans p7 o5, Nat.lt_trans p9 o5, o5⟩,
    ⟨o4, o3, p4, p3, p2, p1, p7, p9⟩⟩
set_option maxHeartbeats 4000000 in
theorem law_3 {w : World} {ns us : List Int} {TT : Int} (hnz : ns.length ≤ 10) (hus : us.length = ns.length) (hnb : ∀ i, 0 ≤ ns.getD i 0 ∧ ns.getD i 0 < 10000) (hub : ∀ i < ns.length, -1 ≤ us.getD i 0 ∧ us.getD i 0 < i) (hT : 0 ≤ TT ∧ TT < 60000) (H : LawRest w 13 (J2 ns us TT ns.length)) : LawRest w 12 (J2 ns us TT 0) := by
  have hfill : PySem.Challenge.rw_in0217_01 = PySem.Challenge.rw_in0217_01 ∧ hd.heap_39 = hd.heap_39 := by (k_fill; exact ⟨rfl, rfl⟩)
  clear hfill
  refine' LawAt.intro ?e ?go
  case e => k_is
  case go =>
    rintro p loose mean mg mb dp un gd fa cd A₀ base g L s m news Q B X T hdp hun hbare hQ F N ⟨nA, uA, pA, hA, dA, eA, nvs, uvs, nz, uz, o1, o2, o3, o4, hnv, huv, ⟨⟨c1, c2, c3, c4⟩, hL, hord⟩, ⟨e1, ⟨tT, e2⟩, e3, e4, ⟨oT, e5⟩, pvs, hvs, dvs, evs, pz, hz, dz, ez, tups, hp1, hp2, hp3, hp4, rfl⟩⟩
    have CH1 := code171 X
    have CH2 := code96 X
    rw [names5 e1 e2 e3 e4 e5] at F
    clear e1 e2 e3 e4 e5
    have hnl := hnv.length
    have hul := huv.length
    dsimp only [List.drop]
    (try (refine wp_letA ?_; intro A9)); (try (refine wp_letE ?_; intro E9))
    (repeat' (first | (with_reducible (((with_reducible show wpAny _ _ (exec (Stmt.For (Expr.Name _ _) (Expr.Call _ _ _ _) (_ :: _) [] _) _) _ _ _); (k_dflt (refine wpAny_For ?_ (by intro _; rfl)))))) | (with_reducible (((with_reducible show wpAny _ _ (pyIter (Value.ref _)) _ _ _); (refine halt_any ?_)))) | (k_end; kc_close) | walk1 | (dsimp only [argC9]; walk1) | (k_unfold; (try dsimp only)) | (dsimp only [then9]) | (leave1; (try dsimp only))))
    unfold Halt
    (rename News g L _ _ => N1)
    (rename Fr g L _ _ => F1)
    (rename IsRange _ _ _ _ _ _ _ _ => R1)
    refine range_loop (n := ns.length) (JL2 ns us TT L nA uA pA hA dA eA nvs uvs nz uz o1 o2 o3 o4) R1 ?z rfl F1 N1 ⟨rfl, ⟨_, rfl⟩, rfl, rfl, ⟨_, rfl⟩, pvs, hvs, dvs, evs, pz, hz, dz, ez, tups, hp1, hp2, hp3, hp4, rfl⟩ ?turn ?done
    case z => lia
    case turn =>
      clear hp1 hp2 hp3 hp4
      rintro i t m₁ news₁ I it h tk hi ⟨e1, ⟨tT, e2⟩, e3, e4, ⟨oT, e5⟩, pvs, hvs, dvs, evs, pz, hz, dz, ez, tups, hp1, hp2, hp3, hp4, rfl⟩ hn Fi Ni
      rw [names5 e1 e2 e3 e4 e5] at Fi
      clear e1 e2 e3 e4 e5 F1 N1 R1 H
      change Fr g L h _ at Fi
      change News g L h _ at Ni
      obtain ⟨hl1, hl2, hl3, hl4⟩ := st2_len ns us TT i
      have hl5 := st2_oct ns us TT i
      have hl6 := st2_path ns us TT (fun i h => (hub i h).2) i (by lia) (us.getD i 0).toNat
      generalize hst : st2 ns us TT i = st at *
      have hyb := hnb i
      have hupb := hub i hi
      have hyb2 : 0 ≤ ns.getD (Int.toNat (i : Nat)) 0 ∧ ns.getD (Int.toNat (i : Nat)) 0 < 10000 := hyb
      have hupb2 : -1 ≤ us.getD (Int.toNat (i : Nat)) 0 ∧ us.getD (Int.toNat (i : Nat)) 0 < i := hupb
      change (st.paths.getD (us.getD (Int.toNat (i : Nat)) 0).toNat Str.empty).length ≤ 2 * (us.getD (Int.toNat (i : Nat)) 0).toNat + 1 at hl6
      have hcnt : List.count ((i : Nat) : Int) us ≤ 10 := by have := List.count_le_length (a := ((i : Nat) : Int)) (l := us); lia
      have hpl := hp1.length
      have hel := hp4.length
      have hdl := hp3.length
      have hvl : hvs.length = st.hide.length := by rw [hp2, List.length_map]
      have hcl := hp3.cls
      have zp := sz10 hpl hl1 hi hnz
      have zh := sz10 hvl hl2 hi hnz
      have zd := sz10 hdl hl3 hi hnz
      have ze := sz10 hel hl4 hi hnz
      have oz := oc_small hl5 hi hnz
      obtain ⟨qe, qd, qh, qp⟩ := ord_all hL hord
      have hsub : ∀ q ∈ tups, q ∈ (I, it) :: (eA, W.listOf (List.toArray evs) ez) :: (dA, W.listOf (List.toArray dvs) dz) :: (hA, W.listOf (List.toArray hvs) hz) :: (pA, W.listOf (List.toArray pvs) pz) :: (uA, W.listOf (List.toArray uvs) uz) :: (nA, W.listOf (List.toArray nvs) nz) ::
        (L + 1 + 1 + 1 + 1, o4) :: (L + 1 + 1 + 1, o3) :: (L + 1 + 1, o2) :: (L + 1, o1) :: (167, tabObj #[]) :: (92, tabObj #[]) :: tups := fun q hq => by simp only [List.mem_cons, hq, or_true]
      have hte := tups_ne Ni hcl hsub (.tail _ (.head _)) (fun e => nomatch (Value.type.inj e))
      have htd := tups_ne Ni hcl hsub (.tail _ (.tail _ (.head _))) (fun e => nomatch (Value.type.inj e))
      have hth := tups_ne Ni hcl hsub (.tail _ (.tail _ (.tail _ (.head _)))) (fun e => nomatch (Value.type.inj e))
      have htp := tups_ne Ni hcl hsub (.tail _ (.tail _ (.tail _ (.tail _ (.head _))))) (fun e => nomatch (Value.type.inj e))
      clear hsub
      have hn0 := hn
      replace hn := allNe_of hn
      simp only [AllNe] at hn
      have hm : HM := ⟨⟩
      dsimp only
      (try (refine wp_letA ?_; intro A9)); (try (refine wp_letE ?_; intro E9))
      (repeat' (first | (with_reducible (((with_reducible show wpAny _ _ (eval (Expr.IfExp _ _ _ _) _) _ _ _); ((rename HM => hm'); refine halt_any ?_)))) | (with_reducible (((with_reducible show wpAny _ _ (subscriptTail _ _ (Value.str _ _) (Value.int (Int.fmod (Int.fdiv _ 12) 2) _)) _ _ _); k_dflt (refine pick_letter (by lia) ?_); intro _ _ _ _ _))) | (with_reducible (((with_reducible show wpAny _ _ (subscriptTail _ _ (Value.ref _) (Value.int (Int.fmod _ 4) _)) _ _ _); k_dflt (first | (refine pick_int4 (h := ?_); intro _ _ _ _) | (refine pick_bool4 (h := ?_); intro _ _) | (refine pick_bytes4 (h := ?_); intro _ _ _ _) | (refine pick_any4 (h := ?_); intro _ _))))) | (k_end; kc_close) | walk1 | (dsimp only [argC9]; walk1) | (k_unfold; (try dsimp only)) | (dsimp only [then9]) | (leave1; (try dsimp only))))
      unfold Halt
      (rename Fr g L _ _ => F2)
      dsimp +zetaDelta only at F2
      (rename _ = List.getD [4, 8, 10, 1] _ _ => hr1)
      (rename _ = letterOf _ => hr2)
      generalize hyy : ns.getD (Int.toNat (i : Nat)) 0 = y at *
      generalize huu : us.getD (Int.toNat (i : Nat)) 0 = up at *
      (rename News g L _ _ => N2)
      rw [bits_is hr1, size_is] at F2
      subst hr2
      have hbb := bits_range (y := y)
      obtain ⟨hsb, hsb2⟩ := size_range (y := y)
      have hsb3 : 0 ≤ sizeOf2 y ∧ sizeOf2 y < 256 := by lia
      have hyr : 0 ≤ y.fmod 256 ∧ y.fmod 256 < 256 := by rw [Int.fmod_eq_emod_of_nonneg _ (by decide)]; lia
      have hcr : 0 ≤ ((List.count ((i : Nat) : Int) us : Nat) : Int) ∧ ((List.count ((i : Nat) : Int) us : Nat) : Int) < 256 := by lia
      have hll := letterOf_len y
      have hlo := letterOf_small y
      obtain ⟨hbq, hbr⟩ := bits_parts hbb
      replace N2 := news_tail N2
      clear hr1 hyb hupb
      refine join F2 N2 (fun v => ∃ r tr, v = .str r tr ∧ r = pathOf st.paths y up ∧ r.length ≤ 30) ?join1 ?on1
      case join1 =>
        (rename HM => hm); clear hm hel hdl hvl hord hn hL hbb hsb hsb2 hsb3 hyr hcr hyb2 hl5 hl2 hl3 hl4 hul hnl hus hcl hte htd hth htp
        (repeat' (first | (with_reducible (((with_reducible show wpAny _ _ (binaryOp Operator.Add (Value.str _ _) (Value.str _ _)) _ _ _); (refine SBL.add (hsz := (by simp only [PySem.Str.length_append, strl_arr, strl_blank, strl_slash, rowOf_len, sizeLine_eq]; omega)) ?_); intro _ _ _))) | (with_reducible (((with_reducible show wpAny _ _ (subscriptTail _ _ (Value.ref _) (Value.int _ _)) _ _ _); k_dflt (refine KTb.item_list (by exact News.isList (by k_asm) (by k_mem)) (by assumption) (by lia) (by lia) (by lia) ?_); intro _ _))) | (k_end; kc_close) | walk1 | (dsimp only [argC9]; walk1) | (k_unfold; (try dsimp only)) | (dsimp only [then9]) | (leave1; (try dsimp only))))
        all_goals unfold Halt
        · (rename up < 0 => hlt)
          exact joined ⟨_, _, rfl, by unfold pathOf; rw [if_pos hlt], by lia⟩ (by assumption) (by assumption)
        · exact joined ⟨_, _, rfl, by unfold pathOf; rw [if_neg (by lia)], by have h1 : (Str.ofString "/").length = 1 := rfl; simp only [PySem.Str.length_append]; lia⟩ (by assumption) (by assumption)
      case on1 =>
        rintro v9 h9 tk9 ⟨r9, tr9, rfl, hr9, hz9⟩ F9 N9
        clear F2 N2 hl6
        (repeat' (first | (with_reducible (((with_reducible show wpAny _ _ (binaryOp Operator.Add (Value.bytes _ _) (Value.bytes _ _)) _ _ _); k_dflt (refine bytes_add_K (by (simp only [List.size_toArray, List.length_append, List.length_replicate, List.length_cons, List.length_nil, List.length_map]; first | exact sm2 (by assumption) rfl | exact sm3 (by assumption) rfl (by assumption) rfl | lia)) rfl ?_); intro _ _))) | (with_reducible (((with_reducible show wpAny _ _ (binaryOp Operator.Mult (Value.str _ _) (Value.int _ _)) _ _ _); k_dflt (refine mul_sign (by first | assumption | lia) (by first | assumption | lia) ?_); intro _ _))) | (with_reducible (((with_reducible show wpAny _ _ (binaryOp Operator.Mult (Value.bytes _ _) (Value.int _ _)) _ _ _); k_dflt (refine mul_byte (by first | assumption | lia) (by first | assumption | lia) ?_); intro _ _))) | (with_reducible (((with_reducible show wpAny _ _ (call (Value.builtin "len") [Value.bytes (List.toArray _) _]) _ _ _); (refine Lat.lenL (by (simp only [List.length_append, List.length_cons, List.length_nil]; omega)) ?_); intro _ _))) | (with_reducible (((with_reducible show wpAny _ _ (call (Value.type "bytes") [Value.ref _]) _ _ _); k_dflt (first | refine bytes_one (h := ?_) | refine bytes_four (h := ?_))); intro h' t' k' F' N')) | (with_reducible (((with_reducible show wpAny _ _ (eval (Expr.BoolOp _ _ _) _) _ _ _); ((rename HM => hm'); refine halt_any ?_)))) | (with_reducible (((with_reducible show wpAny _ _ (call (Value.builtin "list.append") [Value.ref _, _]) _ _ _); k_dflt (refine append_K (by k_asm) (by k_asm) (by k_upd) ?_ (by first | assumption | (rw [sizeLine_eq, List.size_toArray]; lia)); k_whole); intro h' F' N'; (try k_sweep)))) | (with_reducible (((with_reducible show wpAny _ _ (getMethod (Value.ref _) (PySem.Str.ofString "count") _) _ _ _); k_dflt (refine listMethod_K (by k_asm) (by k_mem) PySem.F.slot_list_count PySem.F.type_list_count ?_)))) | (with_reducible (((with_reducible show wpAny _ _ (newList _) _ _ _); k_dflt (refine newList_N (by k_asm) (by k_asm) ?_ (by exact Nat.le_of_ble_eq_true rfl)); intro h' F' N'))) | (with_reducible (((with_reducible show wpAny _ _ (subscriptTail _ _ (Value.ref _) (Value.int (Int.fmod _ 4) _)) _ _ _); k_dflt (first | (refine pick_int4 (h := ?_); intro _ _ _ _) | (refine pick_bool4 (h := ?_); intro _ _) | (refine pick_bytes4 (h := ?_); intro _ _ _ _) | (refine pick_any4 (h := ?_); intro _ _))))) | (k_end; kc_close) | walk1 | (dsimp only [argC9]; walk1) | (k_unfold; (try dsimp only)) | (dsimp only [then9]) | (leave1; (try dsimp only))))
        unfold Halt
        (rename News g L _ _ => N2)
        (rename Fr g L _ _ => F2)
        refine join F2 N2 (fun v => v = .bool (letterOf y == Str.ofString "é" && decide (0 ≤ up))) ?join2 ?on2
        case join2 =>
          (rename HM => hm); clear hm hel hdl hvl hord hn hL hbb hsb hsb2 hsb3 hyr hcr hyb2 hl5 hl2 hl3 hl4 hul hnl hus hcl hte htd hth htp
          k_steps
          all_goals unfold Halt
          · (rename (letterOf y == Str.ofString "é") = true => hq)
            exact joined (by rw [hq]; rfl) (by assumption) (by assumption)
          · (rename (letterOf y == Str.ofString "é") = false => hq)
            exact joined (by rw [hq]; rfl) (by assumption) (by assumption)
        case on2 =>
          rintro v9 h9 tk9 rfl F9 N9
          clear F2 N2
          (repeat' (first | (with_reducible (((with_reducible show wpAny _ _ (eval (Expr.BoolOp _ _ _) _) _ _ _); ((rename HM => hm'); refine halt_any ?_)))) | (with_reducible (((with_reducible show wpAny _ _ (subscriptTail _ _ (Value.ref _) (Value.int (Int.fmod _ 4) _)) _ _ _); k_dflt (first | (refine pick_int4 (h := ?_); intro _ _ _ _) | (refine pick_bool4 (h := ?_); intro _ _) | (refine pick_bytes4 (h := ?_); intro _ _ _ _) | (refine pick_any4 (h := ?_); intro _ _))))) | (k_end; kc_close) | walk1 | (dsimp only [argC9]; walk1) | (k_unfold; (try dsimp only)) | (dsimp only [then9]) | (leave1; (try dsimp only))))
          unfold Halt
          (rename News g L _ _ => N2)
          (rename Fr g L _ _ => F2)
          (rename _ = List.getD [true, Int.fmod y 4 == 0, _, _] _ _ => hkd)
          (rename _ = List.getD [true, letterOf y == _, _, _] _ _ => hnm)
          rw [kind_is] at hkd
          rw [name_is] at hnm
          subst hkd hnm
          refine join F2 N2 (fun v => v = .bool (hideOf st.hide TT y up)) ?join3 ?on3
          case join3 =>
            (rename HM => hm); clear hm hel hdl hord hn hL hbb hsb hsb2 hsb3 hyr hcr hyb2 hl5 hl3 hl4 hul hnl hus hcl hte htd hth htp
            by_cases hup : 0 ≤ up
            · have hx : (List.toArray hvs)[up.toNat]? = some (.bool (st.hide.getD up.toNat false)) := by rw [hp2]; exact hide_item (by lia)
              have hid : hideOf st.hide TT y up = ((kindOfT TT y && nameOfT TT y up) || st.hide.getD up.toNat false) := by unfold hideOf; rw [decide_eq_true hup, Bool.true_and]
              rw [hid]
              (repeat' (first | (with_reducible (((with_reducible show wpAny _ _ (subscriptTail _ _ (Value.ref _) (Value.int _ _)) _ _ _); k_dflt (refine item_arr (by k_asm) (by k_mem) (by assumption) (by lia) (by lia) ?_)))) | (k_end; kc_close) | walk1 | (dsimp only [argC9]; walk1) | (k_unfold; (try dsimp only)) | (dsimp only [then9]) | (leave1; (try dsimp only))))
              all_goals unfold Halt
              all_goals exact joined (by first
                | (simp only [‹kindOfT TT y = true›, ‹nameOfT TT y up = true›, Bool.true_and, Bool.true_or]; done)
                | (simp only [‹kindOfT TT y = true›, ‹nameOfT TT y up = false›, Bool.true_and, Bool.false_or]; done)
                | (simp only [‹kindOfT TT y = false›, Bool.false_and, Bool.false_or]; done)) (by assumption) (by assumption)
            · have hid : hideOf st.hide TT y up = ((kindOfT TT y && nameOfT TT y up) || false) := by unfold hideOf; rw [decide_eq_false hup, Bool.false_and]
              rw [hid]
              k_steps
              all_goals unfold Halt
              all_goals exact joined (by first
                | (simp only [‹kindOfT TT y = true›, ‹nameOfT TT y up = true›, Bool.true_and, Bool.true_or]; done)
                | (simp only [‹kindOfT TT y = true›, ‹nameOfT TT y up = false›, Bool.true_and, Bool.false_or, hup, decide_false]; done)
                | (simp only [‹kindOfT TT y = false›, Bool.false_and, Bool.false_or, hup, decide_false]; done)) (by assumption) (by assumption)
          case on3 =>
            rintro v9 h9 tk9 rfl F9 N9
            clear F2 N2
            have hx9 : ((List.toArray pvs).push (.str r9 tr9))[(Int.toNat (i : Nat))]? = some (.str r9 tr9) := by
              show ((List.toArray pvs).push (.str r9 tr9))[i]? = _
              rw [show i = (List.toArray pvs).size by rw [List.size_toArray, hpl, hl1]]
              exact Array.getElem?_push_size
            (repeat' (first | (with_reducible (((with_reducible show wpAny _ _ (binaryOp Operator.Add (Value.str _ _) (Value.str _ _)) _ _ _); (refine SBL.add (hsz := (by simp only [PySem.Str.length_append, strl_arr, strl_blank, strl_slash, rowOf_len, sizeLine_eq]; omega)) ?_); intro _ _ _))) | (with_reducible (((with_reducible show wpAny _ _ (call (Value.ref 179) _) _ _ _); k_dflt (refine MeetP.goT (law_row_ok (by lia) (by lia)) (ret := ?_)); intro t' h' tk' F' N'; (try k_sweep)))) | (with_reducible (((with_reducible show wpAny _ _ (call (Value.builtin "list.append") [Value.ref _, _]) _ _ _); k_dflt (refine append_K (by k_asm) (by k_asm) (by k_upd) ?_ (by first | assumption | (rw [sizeLine_eq, List.size_toArray]; lia)); k_whole); intro h' F' N'; (try k_sweep)))) | (with_reducible (((with_reducible show wpAny _ _ (subscriptTail _ _ (Value.ref _) (Value.int _ _)) _ _ _); k_dflt (refine item_arr (by k_asm) (by k_mem) (by assumption) (by lia) (by lia) ?_)))) | (k_end; kc_close) | walk1 | (dsimp only [argC9]; walk1) | (k_unfold; (try dsimp only)) | (dsimp only [then9]) | (leave1; (try dsimp only))))
            (rename News g L _ _ => N9)
            (rename Fr g L _ _ => F9)
            (rename _ = List.getD [Value.int _ _, _, _, _] _ _ => hvt)
            (rename _ = List.getD [[_], _, _, _] _ _ => hrb)
            exact ⟨_, _, _, _, rfl, F9, news_l3 N9, l2_apart hn0 ((by k_ne)), JL2.step hst hyy huu rfl rfl rfl rfl rfl (body_is hrb) hp1 hp2 hp3 hp4 hr9 (thing_is hvt)⟩
    case done =>
      rintro m₁ news₁ h tk hJ Fi Ni
      have H2 := H.use (by k_is)
      exact H2 _ _ _ _ _ _ _ _ _ _ _ _ _ _ _ _ _ _ B X T hdp hun hbare hQ.on Fi Ni ⟨_, _, _, _, _, _, _, _, _, _, _, _, _, _, hnv, huv, ⟨⟨c1, c2, c3, c4⟩, hL, hord⟩, hJ⟩

theorem resetX4 : True := by w_top off; trivial
set_option maxHeartbeats 2000000 in
theorem law_4 {w : World} {ns us : List Int} {TT : Int} (hT : 0 ≤ TT ∧ TT < 60000) (hnz : ns.length ≤ 10) {P : Pat} (hP : PatOk P w)
    (hz : (st2 ns us TT ns.length).oct.length ≤ 90 ∧ 0 < (st2 ns us TT ns.length).oct.length)
    (hp1 : ∀ d r, counted ((st2 ns us TT ns.length).oct ++ [5]) = some (d, r) → strOf d = P.pp) (hp2 : ∀ k d r, counted ((st2 ns us TT ns.length).oct.take k) = some (d, r) → strOf d = P.pp)
    (H1 : ∀ its oo, Listed P ((st2 ns us TT ns.length).oct ++ [5]) its oo → its = pickI (fun j => !(st2 ns us TT ns.length).hide.getD j false) (st2 ns us TT ns.length).due ∧ oo = some [5])
    (H2 : ∀ k its oo, k < (st2 ns us TT ns.length).oct.length → Listed P ((st2 ns us TT ns.length).oct.take k) its oo → its = pickI (fun j => !(st2 ns us TT ns.length).hide.getD j false && decide ((st2 ns us TT ns.length).ends.getD j 0 ≤ (k : Int))) (st2 ns us TT ns.length).due ∧ oo = none) :
    LawRest w 13 (J2 ns us TT ns.length) := by
  have hfill : PySem.Challenge.rw_in0217_01 = PySem.Challenge.rw_in0217_01 ∧ hd.heap_39 = hd.heap_39 := by (k_fill; exact ⟨rfl, rfl⟩)
  clear hfill
  refine' LawAt.intro ?e ?go
  case e => k_is
  case go =>
    rintro p loose mean mg mb dp un gd fa cd A₀ base g L s m news Q B X T hdp hun hbare hQ F N ⟨nA, uA, pA, hA, dA, eA, nvs, uvs, nz, uz, o1, o2, o3, o4, hnv, huv, ⟨⟨c1, c2, c3, c4⟩, hL, hord⟩, ⟨e1, ⟨tT, e2⟩, e3, e4, ⟨oT, e5⟩, pvs, hvs, dvs, evs, pz, hz1, dz, ez, tups, hq1, hq2, hq3, hq4, rfl⟩⟩
    have CH1 := code171 X
    have CH2 := code96 X
    rw [names5 e1 e2 e3 e4 e5] at F
    clear e1 e2 e3 e4 e5
    obtain ⟨hl1, hl2, hl3, hl4⟩ := st2_len ns us TT ns.length
    generalize hst : st2 ns us TT ns.length = st at *
    have hel := hq4.length
    have hdl := hq3.length
    have hvl : hvs.length = st.hide.length := by rw [hq2, List.length_map]
    have hcl := hq3.cls
    have hpick : ∀ (h : Heap) (pz : Nat → Bool), (∀ q ∈ tups, h.get? q.1 = some q.2) → Its h (pickI pz st.due) (((List.range ns.length).filter pz).map fun k => dvs.getD k .none) := fun h pz hk => by
      have := (Its.of_seen hq3 hk).pick pz
      rwa [hl3] at this
    have hee : ∀ k < ns.length, ∃ te, (List.toArray evs)[(Int.toNat (k : Nat))]? = some (.int (st.ends.getD k 0) te) := fun k hk => by
      obtain ⟨te, hxe⟩ := intsAre_get hq4 (i := k) (by lia)
      exact ⟨te, by simpa using hxe⟩
    have hsq := hq3.seq
    have ht4 := tups_ned (a := L + 1 + 1 + 1 + 1) (o := o4) N hsq (fun q hq => by simp only [List.mem_cons, hq, or_true]) (by simp only [List.mem_cons, true_or, or_true]) (fun _ _ e => by rw [c4] at e; cases e)
    have hc01 : 0 ≤ (7 * TT + 22).fmod (st.oct.length : Int) ∧ (7 * TT + 22).fmod (st.oct.length : Int) < (st.oct.length : Int) := by
      rw [Int.fmod_eq_emod_of_nonneg _ (by lia)]
      exact ⟨Int.emod_nonneg _ (by lia), Int.emod_lt_of_pos _ (by lia)⟩
    have hcut := picked_take hc01.1 hc01.2
    dsimp only [List.drop]
    (try (refine wp_letA ?_; intro A9)); (try (refine wp_letE ?_; intro E9))
    (repeat' (first | (with_reducible (((with_reducible show wpAny _ _ (exec (Stmt.Assign (_ :: _) (Expr.ListComp _ _ _ _) _) _) _ _ _); (refine halt_any2 ?_)))) | (k_end; kc_close) | walk1 | (dsimp only [argC9]; walk1) | (k_unfold; (try dsimp only)) | (dsimp only [then9]) | (leave1; (try dsimp only))))
    unfold Halt
    have hdn : dvs.length = ns.length := by lia
    have hm : HM := ⟨⟩
    rename Fr g L _ _ => F8
    refine' comp_pick F8 (fun j => !st.hide.getD j false) dvs ?hsw rfl rfl rfl ?hcell rfl ?hnames rfl rfl rfl ?hit ?hs
    case hsw => with_unfolding_all rfl
    case hcell => decide
    case hnames => decide
    case hs => intro _; rfl
    case hit =>
      (try (refine wp_letA ?_; intro A9)); (try (refine wp_letE ?_; intro E9))
      (repeat' (first | (with_reducible (((with_reducible show wpAny _ _ (call (Value.builtin "len") [Value.ref _]) _ _ _); k_dflt (refine len_list (by k_asm) (by k_mem) (by (rw [List.size_toArray]; lia)) ?_); intro _ _))) | (k_end; kc_close) | walk1 | (dsimp only [argC9]; walk1) | (k_unfold; (try dsimp only)) | (dsimp only [then9]) | (leave1; (try dsimp only))))
      unfold Halt
      rename IsRange _ _ _ _ _ _ _ _ => R9
      rename News g L _ _ => N9
      rename Fr g L _ _ => F9
      rw [List.size_toArray, hdn] at R9
      refine ⟨_, _, _, _, _, ns.length, rfl, R9, by lia, by rw [sizeLine_eq]; lia, F9, N9, ?tests, ?elt, ?fin⟩
      case tests =>
        intro C k t s₂ m₂ E' hC hk hns hmx hkeep
        have hCL : L < C := Nat.lt_of_lt_of_le F9.ns.lt hC
        have FC : Fr g C s₂.heap (fun z => if z = Str.ofString "j" then some (.int (k : Nat) t) else m₂ z) := ⟨names_put hmx ▸ hns, fun b o e => hkeep _ _ (F9.keep b o e), Nat.le_trans F9.above (Nat.le_of_lt hCL)⟩
        have NC := news_in N9 hkeep hC
        clear F9 N9 R9
        have hx : (List.toArray hvs)[(Int.toNat (k : Nat))]? = some (.bool (st.hide.getD k false)) := by rw [hq2]; exact hide_item (by lia)
        refine test_one ?_
        (try (refine wp_letA ?_; intro A9)); (try (refine wp_letE ?_; intro E9))
        (repeat' (first | (with_reducible (((with_reducible show wpAny _ _ (eval (Expr.Name _ _) (compEnvC _ _ _ _)) _ _ _); k_dflt (first | refine ldK_elt (by assumption) (by assumption) ?_ | (refine kcf_cell (by k_asm) (by rfl) (by k_mem) (by assumption) ?_))))) | (with_reducible (((with_reducible show wpAny _ _ (subscriptTail _ _ (Value.ref _) (Value.int _ _)) _ _ _); k_dflt (refine item_arr (by k_asm) (by k_mem) (by assumption) (by lia) (by lia) ?_)))) | (k_end; kc_close) | walk1 | (dsimp only [argC9]; walk1) | (k_unfold; (try dsimp only)) | (dsimp only [then9]) | (leave1; (try dsimp only))))
        exact ⟨rfl, s₂.heap, s₂.toks, rfl, fun _ _ e => e⟩
      case elt =>
        intro C k t s₂ m₂ E' hC hk hns hmx hkeep
        have hCL : L < C := Nat.lt_of_lt_of_le F9.ns.lt hC
        have FC : Fr g C s₂.heap (fun z => if z = Str.ofString "j" then some (.int (k : Nat) t) else m₂ z) := ⟨names_put hmx ▸ hns, fun b o e => hkeep _ _ (F9.keep b o e), Nat.le_trans F9.above (Nat.le_of_lt hCL)⟩
        have NC := news_in N9 hkeep hC
        clear F9 N9 R9
        have hx : ∃ v, dvs[k]? = some v := ⟨_, List.getElem?_eq_getElem (by lia)⟩
        obtain ⟨v, hx⟩ := hx
        have hx2 : (List.toArray dvs)[(Int.toNat (k : Nat))]? = some v := by simpa using hx
        rw [hx]
        (try (refine wp_letA ?_; intro A9)); (try (refine wp_letE ?_; intro E9))
        (repeat' (first | (with_reducible (((with_reducible show wpAny _ _ (eval (Expr.Name _ _) (compEnvC _ _ _ _)) _ _ _); k_dflt (first | refine ldK_elt (by assumption) (by assumption) ?_ | (refine kcf_cell (by k_asm) (by rfl) (by k_mem) (by assumption) ?_))))) | (with_reducible (((with_reducible show wpAny _ _ (subscriptTail _ _ (Value.ref _) (Value.int _ _)) _ _ _); k_dflt (refine item_arr (by k_asm) (by k_mem) (by assumption) (by lia) (by lia) ?_)))) | (k_end; kc_close) | walk1 | (dsimp only [argC9]; walk1) | (k_unfold; (try dsimp only)) | (dsimp only [then9]) | (leave1; (try dsimp only))))
        exact ⟨_, _, rfl, fun _ _ e => e⟩
      case fin =>
        intro D z1 ys h9 tk9 F10 N10 hD hys
        clear F9 N9 R9
        replace hD := allNe_of hD
        simp only [AllNe, and_true] at hD
        (try (refine wp_letA ?_; intro A9)); (try (refine wp_letE ?_; intro E9))
        (repeat' (first | (with_reducible (((with_reducible show wpAny _ _ (exec (Stmt.Assign (_ :: _) (Expr.ListComp _ _ _ _) _) _) _ _ _); (refine halt_any2 ?_)))) | (k_end; kc_close) | walk1 | (dsimp only [argC9]; walk1) | (k_unfold; (try dsimp only)) | (dsimp only [then9]) | (leave1; (try dsimp only))))
        unfold Halt
        rename Fr g L _ _ => F8
        refine' comp_pick F8 (fun j => !st.hide.getD j false && decide (st.ends.getD j 0 ≤ (7 * TT + 22).fmod (st.oct.length : Int))) dvs ?hsw rfl rfl rfl ?hcell rfl ?hnames rfl rfl rfl ?hit ?hs
        case hsw => with_unfolding_all rfl
        case hcell => decide
        case hnames => decide
        case hs => intro _; rfl
        case hit =>
          (try (refine wp_letA ?_; intro A9)); (try (refine wp_letE ?_; intro E9))
          (repeat' (first | (with_reducible (((with_reducible show wpAny _ _ (call (Value.builtin "len") [Value.ref _]) _ _ _); k_dflt (refine len_list (by k_asm) (by k_mem) (by (rw [List.size_toArray]; lia)) ?_); intro _ _))) | (k_end; kc_close) | walk1 | (dsimp only [argC9]; walk1) | (k_unfold; (try dsimp only)) | (dsimp only [then9]) | (leave1; (try dsimp only))))
          unfold Halt
          rename IsRange _ _ _ _ _ _ _ _ => R9
          rename News g L _ _ => N9
          rename Fr g L _ _ => F9
          rw [List.size_toArray, hdn] at R9
          refine ⟨_, _, _, _, _, ns.length, rfl, R9, by lia, by rw [sizeLine_eq]; lia, F9, N9, ?tests, ?elt, ?fin⟩
          case tests =>
            intro C k t s₂ m₂ E' hC hk hns hmx hkeep
            have hCL : L < C := Nat.lt_of_lt_of_le F9.ns.lt hC
            have FC : Fr g C s₂.heap (fun z => if z = Str.ofString "j" then some (.int (k : Nat) t) else m₂ z) := ⟨names_put hmx ▸ hns, fun b o e => hkeep _ _ (F9.keep b o e), Nat.le_trans F9.above (Nat.le_of_lt hCL)⟩
            have NC := news_in N9 hkeep hC
            clear F9 N9 R9
            have hx : (List.toArray hvs)[(Int.toNat (k : Nat))]? = some (.bool (st.hide.getD k false)) := by rw [hq2]; exact hide_item (by lia)
            obtain ⟨te, hx2⟩ := hee k hk
            refine test_one ?_
            (try (refine wp_letA ?_; intro A9)); (try (refine wp_letE ?_; intro E9))
            (repeat' (first | (with_reducible (((with_reducible show wpAny _ _ (eval (Expr.Name _ _) (compEnvC _ _ _ _)) _ _ _); k_dflt (first | refine ldK_elt (by assumption) (by assumption) ?_ | (refine kcf_cell (by k_asm) (by rfl) (by k_mem) (by assumption) ?_))))) | (with_reducible (((with_reducible show wpAny _ _ (subscriptTail _ _ (Value.ref _) (Value.int _ _)) _ _ _); k_dflt (refine item_arr (by k_asm) (by k_mem) (by assumption) (by lia) (by lia) ?_)))) | (k_end; kc_close) | walk1 | (dsimp only [argC9]; walk1) | (k_unfold; (try dsimp only)) | (dsimp only [then9]) | (leave1; (try dsimp only))))
            all_goals unfold Halt
            · (rename st.hide.getD k false = true => hh)
              exact ⟨by rw [hh]; rfl, s₂.heap, _, rfl, fun _ _ e => e⟩
            · (rename st.hide.getD k false = false => hh)
              (rename st.ends.getD _ 0 ≤ _ => hle)
              have hle' : st.ends.getD k 0 ≤ (7 * TT + 22).fmod (st.oct.length : Int) := by simpa using hle
              exact ⟨by rw [hh, decide_eq_true hle']; rfl, s₂.heap, _, rfl, fun _ _ e => e⟩
            · (rename st.hide.getD k false = false => hh)
              (rename ¬ st.ends.getD _ 0 ≤ _ => hle)
              have hle' : ¬ st.ends.getD k 0 ≤ (7 * TT + 22).fmod (st.oct.length : Int) := by simpa using hle
              exact ⟨by rw [hh, decide_eq_false hle']; rfl, s₂.heap, _, rfl, fun _ _ e => e⟩
          case elt =>
            intro C k t s₂ m₂ E' hC hk hns hmx hkeep
            have hCL : L < C := Nat.lt_of_lt_of_le F9.ns.lt hC
            have FC : Fr g C s₂.heap (fun z => if z = Str.ofString "j" then some (.int (k : Nat) t) else m₂ z) := ⟨names_put hmx ▸ hns, fun b o e => hkeep _ _ (F9.keep b o e), Nat.le_trans F9.above (Nat.le_of_lt hCL)⟩
            have NC := news_in N9 hkeep hC
            clear F9 N9 R9
            have hx : ∃ v, dvs[k]? = some v := ⟨_, List.getElem?_eq_getElem (by lia)⟩
            obtain ⟨v, hx⟩ := hx
            have hx2 : (List.toArray dvs)[(Int.toNat (k : Nat))]? = some v := by simpa using hx
            rw [hx]
            (try (refine wp_letA ?_; intro A9)); (try (refine wp_letE ?_; intro E9))
            (repeat' (first | (with_reducible (((with_reducible show wpAny _ _ (eval (Expr.Name _ _) (compEnvC _ _ _ _)) _ _ _); k_dflt (first | refine ldK_elt (by assumption) (by assumption) ?_ | (refine kcf_cell (by k_asm) (by rfl) (by k_mem) (by assumption) ?_))))) | (with_reducible (((with_reducible show wpAny _ _ (subscriptTail _ _ (Value.ref _) (Value.int _ _)) _ _ _); k_dflt (refine item_arr (by k_asm) (by k_mem) (by assumption) (by lia) (by lia) ?_)))) | (k_end; kc_close) | walk1 | (dsimp only [argC9]; walk1) | (k_unfold; (try dsimp only)) | (dsimp only [then9]) | (leave1; (try dsimp only))))
            exact ⟨_, _, rfl, fun _ _ e => e⟩
          case fin =>
            intro D2 z2 ys2 h10 tk10 F10 N10 hD2 hys2
            clear F9 N9 R9
            replace hD2 := allNe_of hD2
            simp only [AllNe, and_true] at hD2
            (try (refine wp_letA ?_; intro A9)); (try (refine wp_letE ?_; intro E9))
            (repeat' (first | (with_reducible (((with_reducible show wpAny _ _ (binaryOp Operator.Add (Value.bytes _ _) (Value.bytes _ _)) _ _ _); k_dflt (refine bytes_add_K (by (simp only [List.size_toArray, List.length_append, List.length_replicate, List.length_cons, List.length_nil, List.length_map]; lia)) rfl ?_); intro _ _))) | (with_reducible (((with_reducible show wpAny _ _ (call (Value.ref 212) _) _ _ _); k_dflt (refine halt_call ?_)))) | (k_end; kc_close) | walk1 | (dsimp only [argC9]; walk1) | (k_unfold; (try dsimp only)) | (dsimp only [then9]) | (leave1; (try dsimp only))))
            unfold Halt
            rename News g L _ _ => N11
            rename Fr g L _ _ => F11
            replace N11 := news_c1 N11
            have hF0 : ∀ q ∈ tups, ∀ vs, q.2.data ≠ .fields vs := fun q hq vs e => by obtain ⟨xs, n, hd⟩ := hsq q hq; rw [hd] at e; cases e
            have hap := tabs_apart N11 (.inl rfl) trivial (by
              intro q hq
              rcases List.mem_cons.mp hq with rfl | hq
              · exact fun vs e => nomatch e
              rcases List.mem_cons.mp hq with rfl | hq
              · exact fun vs e => nomatch e
              rcases List.mem_cons.mp hq with rfl | hq
              · (rename _ = Data.cell (some (Value.int _ _)) => hce)
                exact fun vs e => by rw [hce] at e; cases e
              · exact hF0 q hq)
            refine MeetG.use (law_list_ok (o := st.oct ++ [5]) (ps0 := #[]) hP ?hO hp1 (.inl rfl) trivial hap.1 hap.2) (by k_asm) F11 (by k_asm) N11 (by k_asm) (by first | rfl | assumption) (by ktr_room) (by ktr_units) ?ret
            case hO => rw [List.length_append, List.length_singleton]; lia
            case ret =>
              rintro r led' h12 tk12 gs12 ⟨l, vs, sz, its, oo, lv, tupsA, Tb', ps, rfl, hLs, hSn, hLast, hTb, htr, rfl⟩ F12 N12 hBt
              obtain ⟨rfl, rfl⟩ := H1 _ _ hLs
              obtain ⟨t5, rfl⟩ := hLast
              replace N12 := news_c2 N12
              have hyl : ys.length ≤ 10 := by
                rw [hys, List.length_map]
                have := List.length_filter_le (fun j => !st.hide.getD j false) (List.range ns.length)
                rw [List.length_range] at this
                lia
              have hyl2 : ys2.length ≤ 10 := by
                rw [hys2, List.length_map]
                have := List.length_filter_le (fun j => !st.hide.getD j false && decide (st.ends.getD j 0 ≤ (7 * TT + 22).fmod (st.oct.length : Int))) (List.range ns.length)
                rw [List.length_range] at this
                lia
              clear F11 N11
              (try (refine wp_letA ?_; intro A9)); (try (refine wp_letE ?_; intro E9))
              (repeat' (first | (with_reducible (((with_reducible show wpAny _ _ (binaryOp _ (Value.ref _) (Value.ref _)) _ _ _); k_dflt (refine kmk_add_lit (by k_asm) (by k_asm) (by exact News.isList (by k_asm) (by k_mem)) (by exact News.isList (by k_asm) (by k_mem)) (by rfl) ?_ (by (simp only [sizeLine_eq, List.length_append, List.length_cons, List.length_nil]; lia))); intro D' h' F' N' l1; (try k_lt l1); (try k_sweep)))) | (with_reducible (((with_reducible show wpAny _ _ (compareOp CmpOp.Eq (Value.ref _) (Value.ref _)) _ _ _); (refine halt_any ?_)))) | (k_end; kc_close) | walk1 | (dsimp only [argC9]; walk1) | (k_unfold; (try dsimp only)) | (dsimp only [then9]) | (leave1; (try dsimp only))))
              unfold Halt
              rename News g L _ _ => N13
              rename Fr g L _ _ => F13
              refine eq_lists (vs := vs) (vs' := ys) (News.isList N13 (.tail _ (.tail _ (.head _)))) (News.isList N13 (.head _)) (Its.of_seen hSn fun q hq => (N13 q ?in1).1) ?in2 eqAt_bytes ?un ?on
              case in1 => simp only [List.mem_cons, List.mem_append, hq, true_or, or_true]
              case in2 =>
                rw [hys]
                exact hpick _ _ fun q hq => (N13 q (by simp only [List.mem_cons, List.mem_append, hq, or_true])).1
              case un => show un + 1 < cLine; lia
              case on =>
                (try (refine wp_letA ?_; intro A9)); (try (refine wp_letE ?_; intro E9))
                (repeat' (first | (with_reducible (((with_reducible show wpAny _ _ (call (Value.ref 212) _) _ _ _); k_dflt (refine halt_call ?_)))) | (k_end; kc_close) | walk1 | (dsimp only [argC9]; walk1) | (k_unfold; (try dsimp only)) | (dsimp only [then9]) | (leave1; (try dsimp only))))
                unfold Halt
                rename News g L _ _ => N14
                rename Fr g L _ _ => F14
                replace N14 := news_c3 N14
                have hap2 := tabs_apart N14 hTb htr (by
                  intro q hq
                  rcases List.mem_cons.mp hq with rfl | hq
                  · exact fun vs e => nomatch e
                  · exact hF0 q hq)
                refine (congrArg (fun z => wpAny _ _ (call _ [Value.bytes z _]) _ _ _) hcut).mpr ?_
                refine MeetG.use (law_list_ok (o := st.oct.take _) hP ?hO2 (hp2 _) hTb htr hap2.1 hap2.2) (by k_asm) F14 (by k_asm) N14 (by k_asm) (by first | rfl | assumption) (by ktr_room) (by ktr_units) ?ret2
                case hO2 =>
                  have := List.length_take_le ((7 * TT + 22).fmod (st.oct.length : Int)).toNat st.oct
                  lia
                case ret2 =>
                  rintro r led' h15 tk15 gs15 ⟨l2, vs2, sz2, its, oo, lv2, tupsB, Tb2, ps2, rfl, hLs2, hSn2, hLast2, hTb2, htr2, rfl⟩ F15 N15 hBt2
                  obtain ⟨rfl, rfl⟩ := H2 _ _ _ (by lia) hLs2
                  obtain ⟨t6, rfl⟩ := hLast2
                  replace N15 := news_c4 N15
                  rw [Int.toNat_of_nonneg hc01.1] at hSn2
                  (try (refine wp_letA ?_; intro A9)); (try (refine wp_letE ?_; intro E9))
                  (repeat' (first | (with_reducible (((with_reducible show wpAny _ _ (binaryOp _ (Value.ref _) (Value.ref _)) _ _ _); k_dflt (refine kmk_add_lit (by k_asm) (by k_asm) (by exact News.isList (by k_asm) (by k_mem)) (by exact News.isList (by k_asm) (by k_mem)) (by rfl) ?_ (by (simp only [sizeLine_eq, List.length_append, List.length_cons, List.length_nil]; lia))); intro D' h' F' N' l1; (try k_lt l1); (try k_sweep)))) | (with_reducible (((with_reducible show wpAny _ _ (compareOp CmpOp.Eq (Value.ref _) (Value.ref _)) _ _ _); (refine halt_any ?_)))) | (k_end; kc_close) | walk1 | (dsimp only [argC9]; walk1) | (k_unfold; (try dsimp only)) | (dsimp only [then9]) | (leave1; (try dsimp only))))
                  unfold Halt
                  rename News g L _ _ => N16
                  rename Fr g L _ _ => F16
                  refine eq_lists (vs := vs2) (vs' := ys2) (News.isList N16 (.tail _ (.tail _ (.head _)))) (News.isList N16 (.head _)) (Its.of_seen hSn2 fun q hq => (N16 q ?in3).1) ?in4 eqAt_str ?un2 ?on2
                  case in3 => simp only [List.mem_cons, List.mem_append, hq, true_or, or_true]
                  case in4 =>
                    rw [hys2]
                    exact hpick _ _ fun q hq => (N16 q (by simp only [List.mem_cons, List.mem_append, hq, or_true])).1
                  case un2 => show un + 1 < cLine; lia
                  case on2 =>
                    (try (refine wp_letA ?_; intro A9)); (try (refine wp_letE ?_; intro E9))
                    k_steps
                    rename News g L _ _ => N17
                    rename Fr g L _ _ => F17
                    trace_state
                    exact hQ _ _ _ F17.keep (hBt2 (hBt hbare)) (grown_all (pre := [_, _, _, _]) N17 hTb2)

def hdK : Nat → Kd
  | 0 => .quest
  | 1 => .keep 100
  | 2 => .brk (Str.ofString "[^d]")
  | _ => .brk (Str.ofString "[\\-l]")
def tlK : Nat → List Kd
  | 0 => []
  | 1 => [.keep 97]
  | 2 => [.keep 47, .keep 233]
  | _ => [.blank, .quest]
def patK (k j : Nat) : Pat :=
  { pp := [Str.ofString "?", Str.ofString "d", Str.ofString "[!d]", Str.ofString "[-l]"].getD k Str.empty ++ Str.ofString "*" ++ [Str.ofString "", Str.ofString "a", Str.ofString "/é", Str.ofString " ?"].getD j Str.empty,
    o := if k < 2 then 0 else 3, h := hdK k, t := tlK j }
theorem fit_quest : FitOk Kd.quest.txt Kd.quest.fit := fun _ _ _ _ => fits_dot
theorem fit_blank : FitOk Kd.blank.txt Kd.blank.fit := fun _ _ _ _ => fits_blank
theorem fit_d : FitOk (Kd.keep 100).txt (Kd.keep 100).fit := fun w c t t' => by
  have e : (Kd.keep 100).txt = Str.ofString "d" := by decide +kernel
  rw [e]; exact fits_d
theorem fit_a : FitOk (Kd.keep 97).txt (Kd.keep 97).fit := fun w c t t' => by
  have e : (Kd.keep 97).txt = Str.ofString "a" := by decide +kernel
  rw [e]; exact fits_a
theorem fit_slash : FitOk (Kd.keep 47).txt (Kd.keep 47).fit := fun w c t t' => by
  have e : (Kd.keep 47).txt = Str.ofString "/" := by decide +kernel
  rw [e]; exact fits_slash
theorem fit_e : FitOk (Kd.keep 233).txt (Kd.keep 233).fit := fun w c t t' => by
  have e : (Kd.keep 233).txt = Str.ofString "é" := by decide +kernel
  rw [e]; exact fits_e
theorem fit_not : FitOk (Kd.brk (Str.ofString "[^d]")).txt (Kd.brk (Str.ofString "[^d]")).fit := fun w c t t' => by
  have e : (Kd.brk (Str.ofString "[^d]")).fit = fun c => c != 100 := by unfold Kd.fit; exact if_pos rfl
  rw [e]; exact fits_not
theorem fit_in : FitOk (Kd.brk (Str.ofString "[\\-l]")).txt (Kd.brk (Str.ofString "[\\-l]")).fit := fun w c t t' => by
  have e : (Kd.brk (Str.ofString "[\\-l]")).fit = fun c => c == 92 || c == 45 || c == 108 := by unfold Kd.fit; exact if_neg (by decide +kernel)
  rw [e]; exact fits_in
theorem hd_fit : ∀ k, hdK k ≠ .star ∧ FitOk (hdK k).txt (hdK k).fit
  | 0 => ⟨nofun, fit_quest⟩
  | 1 => ⟨nofun, fit_d⟩
  | 2 => ⟨nofun, fit_not⟩
  | _ + 3 => ⟨nofun, fit_in⟩
theorem tl_fit : ∀ j, ∀ q ∈ tlK j, (q ≠ .star ∧ ∀ b, q ≠ .brk b) ∧ FitOk q.txt q.fit
  | 0 => nofun
  | 1 => fun q hq => by
    rcases List.mem_cons.mp hq with rfl | hq
    · exact ⟨⟨nofun, nofun⟩, fit_a⟩
    · cases hq
  | 2 => fun q hq => by
    rcases List.mem_cons.mp hq with rfl | hq
    · exact ⟨⟨nofun, nofun⟩, fit_slash⟩
    rcases List.mem_cons.mp hq with rfl | hq
    · exact ⟨⟨nofun, nofun⟩, fit_e⟩
    · cases hq
  | _ + 3 => fun q hq => by
    rcases List.mem_cons.mp hq with rfl | hq
    · exact ⟨⟨nofun, nofun⟩, fit_blank⟩
    rcases List.mem_cons.mp hq with rfl | hq
    · exact ⟨⟨nofun, nofun⟩, fit_quest⟩
    · cases hq
theorem keep_ok {w : World} {c : Nat} (h : c = 100 ∨ c = 97 ∨ c = 47 ∨ c = 233) : c ≠ 42 ∧ c ≠ 63 ∧ c ≠ 91 ∧ findBy Value.isInt (Spc.es w.params) (c : Int) = none := by
  obtain ⟨m1, m2, m3, m4⟩ := Spc.miss w.params
  rcases h with rfl | rfl | rfl | rfl
  · exact ⟨by decide, by decide, by decide, m1⟩
  · exact ⟨by decide, by decide, by decide, m2⟩
  · exact ⟨by decide, by decide, by decide, m3⟩
  · exact ⟨by decide, by decide, by decide, m4⟩
theorem hd_keep : ∀ k c, hdK k = .keep c → c = 100
  | 0, c, h => by cases h
  | 1, c, h => by cases h; rfl
  | 2, c, h => by cases h
  | _ + 3, c, h => by cases h
theorem tl_keep : ∀ j c, Kd.keep c ∈ tlK j → c = 97 ∨ c = 47 ∨ c = 233
  | 0, c, h => by cases h
  | 1, c, h => by
    rcases List.mem_cons.mp h with e | h
    · cases e; exact .inl rfl
    · cases h
  | 2, c, h => by
    rcases List.mem_cons.mp h with e | h
    · cases e; exact .inr (.inl rfl)
    rcases List.mem_cons.mp h with e | h
    · cases e; exact .inr (.inr rfl)
    · cases h
  | _ + 3, c, h => by
    rcases List.mem_cons.mp h with e | h
    · cases e
    rcases List.mem_cons.mp h with e | h
    · cases e
    · cases h
theorem hd_brk {k j : Nat} (hk : k < 4) (hj : j < 4) : ∀ b, hdK k = .brk b → (patK k j).o = 3 ∧ ((b = Str.ofString "[^d]" ∧ BrkD (patK k j).pp) ∨ (b = Str.ofString "[\\-l]" ∧ BrkL (patK k j).pp)) := by
  intro b h
  rcases (show k = 0 ∨ k = 1 ∨ k = 2 ∨ k = 3 by lia) with rfl | rfl | rfl | rfl
  · cases h
  · cases h
  · cases h
    refine ⟨rfl, .inl ⟨rfl, ?_⟩⟩
    rcases (show j = 0 ∨ j = 1 ∨ j = 2 ∨ j = 3 by lia) with rfl | rfl | rfl | rfl <;> (unfold BrkD; decide +kernel)
  · cases h
    refine ⟨rfl, .inr ⟨rfl, ?_⟩⟩
    rcases (show j = 0 ∨ j = 1 ∨ j = 2 ∨ j = 3 by lia) with rfl | rfl | rfl | rfl <;> (unfold BrkL; decide +kernel)
def patAt (k j i : Nat) : Bool := match (patK k j).ks[i]? with
  | none => true
  | some q => Txt.item (patK k j).pp (pl (patK k j).o i : Nat) == ⟨#[q.sign]⟩
theorem pat_all : ((List.range 4).all fun k => (List.range 4).all fun j => decide ((patK k j).ks.length ≤ 4) && (List.range 4).all fun i => patAt k j i) = true := by decide +kernel
theorem pat_at {k j : Nat} (hk : k < 4) (hj : j < 4) : ∀ i q, (patK k j).ks[i]? = some q → Txt.item (patK k j).pp (pl (patK k j).o i : Nat) = ⟨#[q.sign]⟩ := by
  intro i q h
  have h1 := List.all_eq_true.mp (List.all_eq_true.mp pat_all k (List.mem_range.mpr hk)) j (List.mem_range.mpr hj)
  obtain ⟨h2, h3⟩ := Bool.and_eq_true_iff.mp h1
  obtain ⟨hi, _⟩ := List.getElem?_eq_some_iff.mp h
  have h4 := List.all_eq_true.mp h3 i (List.mem_range.mpr (Nat.lt_of_lt_of_le hi (of_decide_eq_true h2)))
  unfold patAt at h4
  rw [h] at h4
  exact eq_of_beq h4
theorem patK_ok {k j : Nat} (hk : k < 4) (hj : j < 4) (w : World) : PatOk (patK k j) w where
  hz := by
    rcases (show k = 0 ∨ k = 1 ∨ k = 2 ∨ k = 3 by lia) with rfl | rfl | rfl | rfl <;> rcases (show j = 0 ∨ j = 1 ∨ j = 2 ∨ j = 3 by lia) with rfl | rfl | rfl | rfl <;> decide +kernel
  hz2 := by
    show (tlK j).length ≤ 2
    rcases (show j = 0 ∨ j = 1 ∨ j = 2 ∨ j = 3 by lia) with rfl | rfl | rfl | rfl <;> decide
  ho := by
    rcases (show k = 0 ∨ k = 1 ∨ k = 2 ∨ k = 3 by lia) with rfl | rfl | rfl | rfl
    · exact .inl rfl
    · exact .inl rfl
    · exact .inr ⟨rfl, _, rfl⟩
    · exact .inr ⟨rfl, _, rfl⟩
  hat := pat_at hk hj
  hkeep := fun c hc => keep_ok (by
    rcases List.mem_cons.mp hc with e | hc
    · exact .inl (hd_keep k c e.symm)
    rcases List.mem_cons.mp hc with e | hc
    · cases e
    · exact .inr (tl_keep j c hc))
  hstar := fun i h => by
    rcases i with _ | _ | i
    · exact absurd (Option.some.inj h) (hd_fit k).1
    · exact ⟨0, hdK k, rfl, rfl, (hd_fit k).1⟩
    · have hm : Kd.star ∈ tlK j := List.mem_of_getElem? (show (tlK j)[i]? = some .star from h)
      exact absurd rfl (tl_fit j _ hm).1.1
  hbrk := fun i b h => by
    rcases i with _ | _ | i
    · obtain ⟨h1, h2⟩ := hd_brk hk hj b (Option.some.inj h)
      exact ⟨rfl, h1, h2⟩
    · cases h
    · have hm : Kd.brk b ∈ tlK j := List.mem_of_getElem? (show (tlK j)[i]? = some (.brk b) from h)
      exact absurd rfl ((tl_fit j _ hm).1.2 b)
  fits := fun q hq => by
    rcases List.mem_cons.mp hq with rfl | hq
    · exact hd_fit k
    · exact ⟨(tl_fit j q hq).1.1, (tl_fit j q hq).2⟩
def patT (T : Int) : Pat := patK (T.fmod 4).toNat ((T.fdiv 4).fmod 4).toNat
theorem patT_pp (T : Int) : (patT T).pp = patOf T := rfl
theorem patT_ok (T : Int) (w : World) : PatOk (patT T) w := by
  have h1 := Int.fmod_eq_emod_of_nonneg T (b := 4) (by decide)
  have h2 := Int.fmod_eq_emod_of_nonneg (T.fdiv 4) (b := 4) (by decide)
  exact patK_ok (by lia) (by lia) w

/-- signs of a text as a list -/
theorem sign_at {x : Str} {l : List Nat} (h : x.cps = l.toArray) {i : Nat} (hi : i < l.length) : signAt x (i : Int) = l.getD i 0 := by
  unfold signAt Txt.charAt
  have hl : x.length = l.length := by show x.cps.size = _; rw [h]; simp
  rw [hl, seqIndex_of (by lia) (by lia)]
  simp only [Option.bind_some, Int.toNat_natCast]
  rw [h, List.getElem?_toArray, List.getD_eq_getElem?_getD]
theorem str_app (a b : Str) : (a ++ b).cps.toList = a.cps.toList ++ b.cps.toList := by
  show (a.cps ++ b.cps).toList = _
  simp
theorem str_eq {a b : Str} (h : a.cps.toList = b.cps.toList) : a = b := by
  obtain ⟨⟨a⟩⟩ := a
  obtain ⟨⟨b⟩⟩ := b
  cases h
  rfl
theorem line_list (n : Nat) (p : Str) : (lineOf n p).cps.toList = rowOf n ++ 32 :: p.cps.toList := by
  unfold lineOf
  rw [str_app, str_app]
  have e : (Str.ofString " ").cps.toList = [32] := by decide +kernel
  rw [e]
  simp
theorem letter_cases (y : Int) : (letterOf y = Str.ofString "a" ∧ (letterOf y).cps.toList = [97]) ∨ (letterOf y = Str.ofString "é" ∧ (letterOf y).cps.toList = [233]) := by
  unfold letterOf
  split
  · exact .inl ⟨rfl, by decide +kernel⟩
  · exact .inr ⟨rfl, by decide +kernel⟩
theorem kc (k : Nat) {z : Int} (h0 : 0 ≤ z) (h1 : z < 4096) : ((k : Int) * 4096 + z).toNat / 4096 = k := by
  obtain ⟨m, rfl⟩ := Int.eq_ofNat_of_zero_le h0
  show (k * 4096 + m) / 4096 = k
  rw [Nat.mul_comm, Nat.mul_add_div (by decide), Nat.div_eq_of_lt (Int.ofNat_lt.mp h1), Nat.add_zero]
theorem kind_cases {y : Int} : (y % 4 = 0 ∧ (bitsOf y).toNat / 4096 = 4) ∨ (y % 4 = 1 ∧ (bitsOf y).toNat / 4096 = 8) ∨ (y % 4 = 2 ∧ (bitsOf y).toNat / 4096 = 10) ∨ (y % 4 = 3 ∧ (bitsOf y).toNat / 4096 = 1) := by
  unfold bitsOf
  rcases (show y % 4 = 0 ∨ y % 4 = 1 ∨ y % 4 = 2 ∨ y % 4 = 3 by lia) with h | h | h | h <;> rw [h]
  · refine .inl ⟨rfl, ?_⟩
    exact kc 4 (Int.emod_nonneg _ (by decide)) (Int.emod_lt_of_pos _ (by decide))
  · refine .inr (.inl ⟨rfl, ?_⟩)
    exact kc 8 (Int.emod_nonneg _ (by decide)) (Int.emod_lt_of_pos _ (by decide))
  · refine .inr (.inr (.inl ⟨rfl, ?_⟩))
    exact kc 10 (Int.emod_nonneg _ (by decide)) (Int.emod_lt_of_pos _ (by decide))
  · refine .inr (.inr (.inr ⟨rfl, ?_⟩))
    exact kc 1 (Int.emod_nonneg _ (by decide)) (Int.emod_lt_of_pos _ (by decide))
theorem signs_end {l : List Nat} {x : Str} (h : x.cps.toList = l) {a b : Nat} {r : List Nat} (hl : l = r ++ [a, b]) : signAt x ((x.length : Int) - 2) = a ∧ signAt x ((x.length : Int) - 1) = b := by
  have hx : x.cps = l.toArray := by rw [← h]
  have hn : x.length = r.length + 2 := by show x.cps.size = _; rw [hx, hl]; simp
  have e1 : ((x.length : Int) - 2) = ((r.length : Nat) : Int) := by lia
  have e2 : ((x.length : Int) - 1) = ((r.length + 1 : Nat) : Int) := by lia
  rw [e1, e2, sign_at hx (by rw [hl]; simp), sign_at hx (by rw [hl]; simp)]
  subst hl
  constructor
  · simp [List.getD_eq_getElem?_getD]
  · simp [List.getD_eq_getElem?_getD]
/-- what a path ends with -/
def PathEnd (p : Str) (y up : Int) : Prop := (up < 0 ∧ p = letterOf y) ∨ (0 ≤ up ∧ ∃ q : Str, p = q ++ Str.ofString "/" ++ letterOf y)
theorem line_end {y up : Int} {p : Str} {n : Nat} (hp : PathEnd p y up) : ∃ r s, (lineOf n p).cps.toList = r ++ [s, (letterOf y).cps.toList.headD 0] ∧ ((up < 0 ∧ s = 32) ∨ (0 ≤ up ∧ s = 47)) := by
  have hlet : ∃ c, (letterOf y).cps.toList = [c] := by rcases letter_cases y with ⟨_, h⟩ | ⟨_, h⟩ <;> exact ⟨_, h⟩
  obtain ⟨c, hc⟩ := hlet
  rw [line_list, hc]
  rcases hp with ⟨h, rfl⟩ | ⟨h, q, rfl⟩
  · exact ⟨rowOf n, 32, by rw [hc]; rfl, .inl ⟨h, rfl⟩⟩
  · have e : (Str.ofString "/").cps.toList = [47] := by decide +kernel
    refine ⟨rowOf n ++ 32 :: q.cps.toList, 47, ?_, .inr ⟨h, rfl⟩⟩
    rw [str_app, str_app, e, hc]
    simp
theorem fit_brkd (c : Nat) : (Kd.brk (Str.ofString "[^d]")).fit c = (c != 100) := by
  have e : (Kd.brk (Str.ofString "[^d]")).fit = fun c => c != 100 := by unfold Kd.fit; exact if_pos rfl
  rw [e]
theorem fit_brkl (c : Nat) : (Kd.brk (Str.ofString "[\\-l]")).fit c = (c == 92 || c == 45 || c == 108) := by
  have e : (Kd.brk (Str.ofString "[\\-l]")).fit = fun c => c == 92 || c == 45 || c == 108 := by unfold Kd.fit; exact if_neg (by decide +kernel)
  rw [e]
theorem head_takes {T y : Int} {p : Str} : (hdK (T.fmod 4).toNat).fit (signAt (lineOf (bitsOf y).toNat p) 0) = kindOfT T y := by
  have hs : signAt (lineOf (bitsOf y).toNat p) 0 = kindCh ((bitsOf y).toNat / 4096) := by
    have := sign_at (x := lineOf (bitsOf y).toNat p) (l := rowOf (bitsOf y).toNat ++ 32 :: p.cps.toList) (by rw [← line_list]) (i := 0) (by simp; lia)
    exact this
  rw [hs]
  unfold kindOfT
  rw [Int.fmod_eq_emod_of_nonneg T (by decide)]
  have hk : (T % 4).toNat < 4 := by lia
  revert hk
  generalize (T % 4).toNat = k
  intro hk
  rcases kind_cases (y := y) with ⟨h, e⟩ | ⟨h, e⟩ | ⟨h, e⟩ | ⟨h, e⟩ <;> rw [h, e] <;>
    rcases (show k = 0 ∨ k = 1 ∨ k = 2 ∨ k = 3 by lia) with rfl | rfl | rfl | rfl <;>
    first
      | rfl
      | (show (Kd.brk (Str.ofString "[^d]")).fit _ = _; rw [fit_brkd]; rfl)
      | (show (Kd.brk (Str.ofString "[\\-l]")).fit _ = _; rw [fit_brkl]; rfl)
theorem tail_takes {T y up : Int} {n : Nat} {p : Str} (hp : PathEnd p y up) : ((tlK ((T.fdiv 4).fmod 4).toNat).zipIdx.all fun q => q.1.fit (signAt (lineOf n p) (((lineOf n p).length : Int) - (tlK ((T.fdiv 4).fmod 4).toNat).length + (q.2 : Nat)))) = nameOfT T y up := by
  unfold nameOfT
  rw [Int.fdiv_eq_ediv_of_nonneg T (by decide), Int.fmod_eq_emod_of_nonneg _ (by decide)]
  have hk : (T / 4 % 4).toNat < 4 := by lia
  revert hk
  generalize (T / 4 % 4).toNat = k
  intro hk
  obtain ⟨r, s, hl, hs⟩ := line_end (n := n) hp
  obtain ⟨g1, g2⟩ := signs_end hl rfl
  generalize hX : lineOf n p = X at *
  have e0 : ∀ z : Int, z + ((0 : Nat) : Int) = z := fun z => by lia
  have e1 : ((X.length : Int) - 2 + ((1 : Nat) : Int)) = (X.length : Int) - 1 := by lia
  rcases (show k = 0 ∨ k = 1 ∨ k = 2 ∨ k = 3 by lia) with rfl | rfl | rfl | rfl
  · rfl
  · show (Kd.fit (.keep 97) (signAt X ((X.length : Int) - ((1 : Nat) : Int) + ((0 : Nat) : Int))) && true) = (letterOf y == Str.ofString "a")
    rw [e0, Bool.and_true]
    show (signAt X ((X.length : Int) - 1) == 97) = _
    rw [g2]
    rcases letter_cases y with ⟨h, h2⟩ | ⟨h, h2⟩
    · rw [h2, h]; decide +kernel
    · rw [h2, h]; decide +kernel
  · show (Kd.fit (.keep 47) (signAt X ((X.length : Int) - ((2 : Nat) : Int) + ((0 : Nat) : Int))) && (Kd.fit (.keep 233) (signAt X ((X.length : Int) - ((2 : Nat) : Int) + ((1 : Nat) : Int))) && true)) = (letterOf y == Str.ofString "é" && decide (0 ≤ up))
    rw [e0, Bool.and_true]
    show ((signAt X ((X.length : Int) - 2) == 47) && (signAt X ((X.length : Int) - 2 + ((1 : Nat) : Int)) == 233)) = _
    rw [e1, g1, g2, Bool.and_comm]
    congr 1
    · rcases letter_cases y with ⟨h, h2⟩ | ⟨h, h2⟩
      · rw [h2, h]; decide +kernel
      · rw [h2, h]; decide +kernel
    · rcases hs with ⟨h, rfl⟩ | ⟨h, rfl⟩
      · rw [decide_eq_false (by lia)]; rfl
      · rw [decide_eq_true h]; rfl
  · show (Kd.fit .blank (signAt X ((X.length : Int) - ((2 : Nat) : Int) + ((0 : Nat) : Int))) && (Kd.fit .quest (signAt X ((X.length : Int) - ((2 : Nat) : Int) + ((1 : Nat) : Int))) && true)) = decide (up < 0)
    rw [e0, Bool.and_true]
    show ((signAt X ((X.length : Int) - 2) == 32) && true) = _
    rw [g1, Bool.and_true]
    rcases hs with ⟨h, rfl⟩ | ⟨h, rfl⟩
    · rw [decide_eq_true h]; rfl
    · rw [decide_eq_false (by lia)]; rfl
theorem takes_is {T y up : Int} {p : Str} (hp : PathEnd p y up) : (patT T).takes (lineOf (bitsOf y).toNat p) = (kindOfT T y && nameOfT T y up) := by
  show ((hdK (T.fmod 4).toNat).fit (signAt (lineOf (bitsOf y).toNat p) 0) && _) = _
  rw [head_takes]
  congr 1
  exact tail_takes hp

theorem u8_nat {n : Nat} (h : n < 256) : n.toUInt8.toNat = n := by
  show n % 256 = n
  lia
def lb (y : Int) : UInt8 := ((letterOf y).cps.getD 0 0).toUInt8
theorem lb_str (y : Int) : strOf [lb y] = letterOf y := by
  unfold lb letterOf
  split <;> decide +kernel
theorem counted_exact {n : Nat} (hn : n < 256) {d r : List UInt8} (hd : d.length = n) : counted (n.toUInt8 :: (d ++ r)) = some (d, r) := by
  subst hd
  show (if d.length.toUInt8.toNat ≤ (d ++ r).length then some ((d ++ r).take d.length.toUInt8.toNat, (d ++ r).drop d.length.toUInt8.toNat) else none) = _
  rw [u8_nat hn, if_pos (by simp), List.take_left, List.drop_left]
theorem node_place {us : List Int} {k : Nat} {y : Int} {r' : List UInt8} (hc : us.count (k : Int) < 256) : nodeOf (placeOct us k y ++ r') = some ([lb y], (bitsOf y).toNat, thingOf us k y, r') := by
  have hb := bits_range (y := y)
  have hs := size_range (y := y)
  have h1 : (bitsOf y / 256).toNat.toUInt8.toNat = (bitsOf y / 256).toNat := u8_nat (by lia)
  have h2 : (bitsOf y % 256).toNat.toUInt8.toNat = (bitsOf y % 256).toNat := u8_nat (by lia)
  have hsum : 256 * (bitsOf y / 256).toNat.toUInt8.toNat + (bitsOf y % 256).toNat.toUInt8.toNat = (bitsOf y).toNat := by
    obtain ⟨m, hm⟩ := Int.eq_ofNat_of_zero_le hb.1
    rw [h1, h2, hm]
    exact Nat.div_add_mod m 256
  have hcount : counted (placeOct us k y ++ r') = some ([lb y], (bitsOf y / 256).toNat.toUInt8 :: (bitsOf y % 256).toNat.toUInt8 :: (bodyOf us k y ++ r')) := by
    have := counted_exact (n := 1) (by decide) (d := [lb y]) (r := (bitsOf y / 256).toNat.toUInt8 :: (bitsOf y % 256).toNat.toUInt8 :: (bodyOf us k y ++ r')) rfl
    rw [← this]
    unfold placeOct
    rw [List.append_assoc]
    rfl
  have hsz : (sizeOf2 y).toNat < 256 := by lia
  have hread : readThing ((bitsOf y).toNat / 4096) (bodyOf us k y ++ r') = some (thingOf us k y, r') := by
    unfold bodyOf thingOf
    rcases kind_cases (y := y) with ⟨h, e⟩ | ⟨h, e⟩ | ⟨h, e⟩ | ⟨h, e⟩ <;> rw [h, e]
    · show some (Thing.num ((us.count (k : Int)).toUInt8.toNat), r') = some (Thing.num (us.count (k : Int)), r')
      rw [u8_nat hc]
    · show (counted ((sizeOf2 y).toNat.toUInt8 :: (List.replicate (sizeOf2 y).toNat (y % 256).toNat.toUInt8 ++ r'))).map (fun x => (Thing.byt x.1, x.2)) = _
      rw [counted_exact hsz (List.length_replicate ..)]
      rfl
    · show (counted ((sizeOf2 y).toNat.toUInt8 :: (List.replicate (sizeOf2 y).toNat 233 ++ r'))).map (fun x => (Thing.txt x.1, x.2)) = _
      rw [counted_exact hsz (List.length_replicate ..)]
      rfl
    · rfl
  have := nodeOf_some hcount (k := (bitsOf y).toNat / 4096) (by rw [hsum]) hread
  rw [this, hsum]
theorem counted_mono {p d r q : List UInt8} (h : counted p = some (d, r)) : counted (p ++ q) = some (d, r ++ q) := by
  cases p with
  | nil => cases h
  | cons b p =>
    by_cases hb : b.toNat ≤ p.length
    · simp only [counted, if_pos hb, Option.some.injEq, Prod.mk.injEq] at h
      obtain ⟨rfl, rfl⟩ := h
      show (if b.toNat ≤ (p ++ q).length then some ((p ++ q).take b.toNat, (p ++ q).drop b.toNat) else none) = _
      rw [if_pos (by rw [List.length_append]; lia), List.take_append_of_le_length hb, List.drop_append_of_le_length hb]
    · simp [counted, if_neg hb] at h
theorem readThing_mono {k : Nat} {p r q : List UInt8} {th : Thing} (h : readThing k p = some (th, r)) : readThing k (p ++ q) = some (th, r ++ q) := by
  unfold readThing at h ⊢
  split at h
  · rename_i hk
    rw [if_pos hk]
    cases p with
    | nil => cases h
    | cons b p =>
      simp only [Option.some.injEq, Prod.mk.injEq] at h
      obtain ⟨rfl, rfl⟩ := h
      rfl
  · rename_i hk
    rw [if_neg hk]
    split at h
    · rename_i hk2
      rw [if_pos hk2]
      cases hc : counted p with
      | none => rw [hc] at h; cases h
      | some x =>
        rw [hc] at h
        obtain ⟨rfl, rfl⟩ := Prod.mk.inj (Option.some.inj h)
        rw [counted_mono (show counted p = some (x.1, x.2) from hc)]
        rfl
    · rename_i hk2
      rw [if_neg hk2]
      split at h
      · rename_i hk3
        rw [if_pos hk3]
        cases hc : counted p with
        | none => rw [hc] at h; cases h
        | some x =>
          rw [hc] at h
          obtain ⟨rfl, rfl⟩ := Prod.mk.inj (Option.some.inj h)
          rw [counted_mono (show counted p = some (x.1, x.2) from hc)]
          rfl
      · rename_i hk3
        rw [if_neg hk3]
        obtain ⟨rfl, rfl⟩ := Prod.mk.inj (Option.some.inj h)
        rfl
theorem nodeOf_mono {p r q : List UInt8} {d : List UInt8} {b : Nat} {th : Thing} (h : nodeOf p = some (d, b, th, r)) : nodeOf (p ++ q) = some (d, b, th, r ++ q) := by
  unfold nodeOf at h
  split at h
  · cases h
  · cases h
  · cases h
  · rename_i nm b1 c1 r2 hc
    cases hr : readThing ((256 * b1.toNat + c1.toNat) / 4096) r2 with
    | none => rw [hr] at h; cases h
    | some x =>
      rw [hr] at h
      have e := Option.some.inj h
      simp only [Prod.mk.injEq] at e
      obtain ⟨rfl, rfl, rfl, rfl⟩ := e
      exact nodeOf_some (r' := r2 ++ q) (counted_mono hc) rfl (readThing_mono (show readThing _ r2 = some (x.1, x.2) from hr))
/-- a place that is cut within cannot be read -/
theorem node_cut {us : List Int} {k : Nat} {y : Int} (hc : us.count (k : Int) < 256) {j : Nat} (hj : j < (placeOct us k y).length) : nodeOf ((placeOct us k y).take j) = none := by
  cases h : nodeOf ((placeOct us k y).take j) with
  | none => rfl
  | some x =>
    exfalso
    have h1 := nodeOf_mono (q := (placeOct us k y).drop j) (show nodeOf _ = some (x.1, x.2.1, x.2.2.1, x.2.2.2) from h)
    rw [List.take_append_drop] at h1
    have h2 := node_place (us := us) (k := k) (y := y) (r' := []) hc
    rw [List.append_nil, h1] at h2
    have h3 := congrArg (fun z => z.2.2.2.length) (Option.some.inj h2)
    simp only [List.length_append, List.length_drop, List.length_nil] at h3
    lia
/-- a reader of nested folders: what is left to read of each -/
abbrev Fm := Nat × Str × Bool
def RS (tk : Str → Bool) : List Fm → List UInt8 → List Item → Option (List UInt8) → Prop
  | [], r, its, o => its = [] ∧ o = some r
  | f :: st, r, its, o => (∃ its1 r1 its2, Reads tk f.1 f.2.1 f.2.2 r its1 (some r1) ∧ RS tk st r1 its2 o ∧ its = its1 ++ its2) ∨ (Reads tk f.1 f.2.1 f.2.2 r its none ∧ o = none)
theorem RS.pop {tk : Str → Bool} {f : Fm} {st : List Fm} {r : List UInt8} {its : List Item} {o : Option (List UInt8)} (h0 : f.1 = 0) (h : RS tk st r its o) : RS tk (f :: st) r its o := by
  obtain ⟨n, a, hd⟩ := f
  obtain rfl : n = 0 := h0
  exact .inl ⟨[], r, its, .done, h, rfl⟩
theorem RS.pops {tk : Str → Bool} {st : List Fm} {r : List UInt8} {its : List Item} {o : Option (List UInt8)} (h : RS tk st r its o) : ∀ {l : List Fm}, (∀ f ∈ l, f.1 = 0) → RS tk (l ++ st) r its o
  | [], _ => h
  | f :: l, hl => RS.pop (hl f (.head _)) (RS.pops h fun g hg => hl g (.tail _ hg))
theorem RS.bad {tk : Str → Bool} {n : Nat} {a : Str} {hd : Bool} {st : List Fm} {r : List UInt8} (e : nodeOf r = none) : RS tk ((n + 1, a, hd) :: st) r [] none := .inr ⟨.bad e, rfl⟩
theorem RS.leaf {tk : Str → Bool} {n : Nat} {a : Str} {hd h' : Bool} {st : List Fm} {r r' nm : List UInt8} {b : Nat} {th : Thing} {its : List Item} {o : Option (List UInt8)} (e : nodeOf r = some (nm, b, th, r')) (k : b / 4096 ≠ 4) (eh : h' = (hd || tk (lineOf b (a ++ strOf nm))))
    (h : RS tk ((n, a, hd) :: st) r' its o) : RS tk ((n + 1, a, hd) :: st) r (own h' (lineOf b (a ++ strOf nm)) th ++ its) o := by
  rcases h with ⟨its1, r1, its2, h1, h2, rfl⟩ | ⟨h1, rfl⟩
  · exact .inl ⟨_, r1, its2, .leaf e k eh h1, h2, by rw [List.append_assoc]⟩
  · exact .inr ⟨.leaf e k eh h1, rfl⟩
theorem RS.dir {tk : Str → Bool} {n : Nat} {a : Str} {hd h' : Bool} {st : List Fm} {r r' nm : List UInt8} {b : Nat} {th : Thing} {its : List Item} {o : Option (List UInt8)} (e : nodeOf r = some (nm, b, th, r')) (k : b / 4096 = 4) (eh : h' = (hd || tk (lineOf b (a ++ strOf nm))))
    (h : RS tk ((numOf th, a ++ strOf nm ++ Str.ofString "/", h') :: (n, a, hd) :: st) r' its o) : RS tk ((n + 1, a, hd) :: st) r (own h' (lineOf b (a ++ strOf nm)) th ++ its) o := by
  rcases h with ⟨its1, r1, its2, h1, h2, rfl⟩ | ⟨h1, rfl⟩
  · rcases h2 with ⟨its3, r2, its4, h3, h4, rfl⟩ | ⟨h3, rfl⟩
    · exact .inl ⟨_, r2, its4, .dir e k eh h1 h3, h4, by simp only [List.append_assoc]⟩
    · refine .inr ⟨?_, rfl⟩
      have := Reads.dir e k eh h1 h3
      rwa [List.append_assoc] at this
  · exact .inr ⟨.dirBad e k eh h1, rfl⟩
theorem RS.one {tk : Str → Bool} {n : Nat} {a : Str} {hd : Bool} {r : List UInt8} {its : List Item} {o : Option (List UInt8)} (h : RS tk [(n, a, hd)] r its o) : Reads tk n a hd r its o := by
  rcases h with ⟨its1, r1, its2, h1, ⟨rfl, rfl⟩, rfl⟩ | ⟨h1, rfl⟩
  · rw [List.append_nil]; exact h1
  · exact h1

def cl (ns : List Int) (i : Nat) : List Int := (st1 ns i).1.take ((st1 ns i).1.length - (ns.getD i 0 / 4 % 3).toNat)
theorem st1_succ (ns : List Int) (i : Nat) : st1 ns (i + 1) = (if ns.getD i 0 % 4 = 0 then cl ns i ++ [(i : Int)] else cl ns i, (st1 ns i).2 ++ [(cl ns i).getLastD (-1)]) := rfl
theorem getD_snoc {α : Type} {l : List α} {x d : α} : (l ++ [x]).getD l.length d = x := by
  rw [List.getD_eq_getElem?_getD, List.getElem?_append_right (Nat.le_refl _), Nat.sub_self]; rfl
theorem getD_left {α : Type} {l r : List α} {d : α} {j : Nat} (h : j < l.length) : (l ++ r).getD j d = l.getD j d := by
  rw [List.getD_eq_getElem?_getD, List.getElem?_append_left h, List.getD_eq_getElem?_getD]
theorem us_get (ns : List Int) : ∀ m i, i < m → (st1 ns m).2.getD i 0 = (cl ns i).getLastD (-1)
  | m + 1, i, h => by
    rw [st1_succ]
    have hl := (st1_len ns m).2
    by_cases hi : i < m
    · rw [show ((if ns.getD m 0 % 4 = 0 then cl ns m ++ [(m : Int)] else cl ns m, (st1 ns m).2 ++ [(cl ns m).getLastD (-1)]) : List Int × List Int).2 = (st1 ns m).2 ++ [(cl ns m).getLastD (-1)] from rfl, getD_left (by lia)]
      exact us_get ns m i hi
    · obtain rfl : i = m := by lia
      show ((st1 ns i).2 ++ [(cl ns i).getLastD (-1)]).getD i 0 = _
      have := getD_snoc (l := (st1 ns i).2) (x := (cl ns i).getLastD (-1)) (d := 0)
      rwa [hl] at this
theorem cl_sub {ns : List Int} {i : Nat} {a : Int} (h : a ∈ cl ns i) : a ∈ (st1 ns i).1 := List.mem_of_mem_take h
theorem op_lt (ns : List Int) : ∀ i, ∀ a ∈ (st1 ns i).1, 0 ≤ a ∧ a < (i : Int)
  | 0, a, h => by cases h
  | i + 1, a, h => by
    rw [st1_succ] at h
    dsimp only at h
    split at h
    · rcases List.mem_append.mp h with h | h
      · have := op_lt ns i a (cl_sub h); lia
      · rw [List.mem_singleton.mp h]; lia
    · have := op_lt ns i a (cl_sub h); lia
theorem op_pw (ns : List Int) : ∀ i, (st1 ns i).1.Pairwise (· < ·)
  | 0 => List.Pairwise.nil
  | i + 1 => by
    rw [st1_succ]
    dsimp only
    have hc : (cl ns i).Pairwise (· < ·) := (op_pw ns i).sublist (List.take_sublist ..)
    split
    · refine List.pairwise_append.mpr ⟨hc, List.pairwise_singleton .., fun a ha b hb => ?_⟩
      rw [List.mem_singleton.mp hb]
      exact (op_lt ns i a (cl_sub ha)).2
    · exact hc
theorem later (ns : List Int) {i : Nat} : ∀ k, i ≤ k → ∀ a ∈ cl ns k, a ∈ cl ns i ∨ (i : Int) ≤ a
  | 0, h, a, ha => by obtain rfl : i = 0 := by lia
                      exact .inl ha
  | k + 1, h, a, ha => by
    by_cases hk : i = k + 1
    · subst hk; exact .inl ha
    · have h2 := cl_sub ha
      rw [st1_succ] at h2
      dsimp only at h2
      split at h2
      · rcases List.mem_append.mp h2 with h2 | h2
        · exact later ns k (by lia) a h2
        · rw [List.mem_singleton.mp h2]; exact .inr (by lia)
      · exact later ns k (by lia) a h2
theorem last_mem {l : List Int} : l.getLastD (-1) = -1 ∨ l.getLastD (-1) ∈ l := by
  cases l with
  | nil => exact .inl rfl
  | cons a r =>
    rw [List.getLastD_cons]
    right
    cases r with
    | nil => exact .head _
    | cons b r =>
      rw [List.getLastD_eq_getLast?, List.getLast?_eq_some_getLast (by simp)]
      exact .tail _ (List.getLast_mem _)
theorem split_last (l : List Int) : ∃ B, (-1 : Int) :: l = B ++ [l.getLastD (-1)] := by
  cases l with
  | nil => exact ⟨[], rfl⟩
  | cons a r =>
    refine ⟨((-1) :: a :: r).dropLast, ?_⟩
    have h := List.dropLast_concat_getLast (l := (-1 : Int) :: a :: r) (by simp)
    have e : ((-1 : Int) :: a :: r).getLast (by simp) = (a :: r).getLastD (-1) := by
      rw [List.getLastD_eq_getLast?, List.getLast?_eq_some_getLast (by simp)]
      simp
    rw [← e]
    exact h.symm
section
variable {ns us : List Int} {n : Nat} (hn : n = ns.length) (hu : us = (st1 ns n).2)
include hu
theorem us_len : us.length = n := by rw [hu]; exact (st1_len ns n).2
theorem us_up {i : Nat} (hi : i < n) : us.getD i 0 = (cl ns i).getLastD (-1) := by rw [hu]; exact us_get ns n i hi
theorem up_range {i : Nat} (hi : i < n) : -1 ≤ us.getD i 0 ∧ us.getD i 0 < (i : Int) := by
  rw [us_up hu hi]
  rcases last_mem (l := cl ns i) with h | h
  · rw [h]; lia
  · have := op_lt ns i _ (cl_sub h); lia
theorem rem_succ {i : Nat} (hi : i < n) (v : Int) : (us.drop i).count v = (us.drop (i + 1)).count v + (if us.getD i 0 = v then 1 else 0) := by
  have hl := us_len hu
  have e : us.drop i = us.getD i 0 :: us.drop (i + 1) := by
    rw [List.drop_eq_getElem_cons (by lia), List.getD_eq_getElem?_getD, List.getElem?_eq_getElem (by lia)]; rfl
  rw [e, List.count_cons]
  by_cases h : us.getD i 0 = v
  · rw [if_pos (by simpa using h), if_pos h]
  · rw [if_neg (by simpa using h), if_neg h]
theorem mem_drop {i : Nat} {x : Int} (hx : x ∈ us.drop i) : ∃ k, i ≤ k ∧ k < n ∧ x = us.getD k 0 := by
  have hl := us_len hu
  obtain ⟨j, hj, e⟩ := List.getElem_of_mem hx
  rw [List.length_drop] at hj
  refine ⟨i + j, by lia, by lia, ?_⟩
  rw [List.getElem_drop] at e
  rw [List.getD_eq_getElem?_getD, List.getElem?_eq_getElem (by lia)]
  exact e.symm
theorem rem_zero {i : Nat} {v : Int} (h0 : 0 ≤ v) (h1 : v < (i : Int)) (hc : v ∉ cl ns i) : (us.drop i).count v = 0 := by
  refine List.count_eq_zero.mpr fun hv => ?_
  obtain ⟨k, hk, hkn, e⟩ := mem_drop hu hv
  rw [us_up hu hkn] at e
  rcases last_mem (l := cl ns k) with h | h
  · lia
  · rw [← e] at h
    rcases later ns k hk v h with h | h
    · exact hc h
    · lia
theorem rem_self {i : Nat} (hi : i < n) : (us.drop (i + 1)).count (i : Int) = us.count (i : Int) := by
  have hl := us_len hu
  conv => rhs; rw [← List.take_append_drop (i + 1) us, List.count_append]
  have : (us.take (i + 1)).count (i : Int) = 0 := by
    refine List.count_eq_zero.mpr fun hv => ?_
    obtain ⟨j, hj, e⟩ := List.getElem_of_mem hv
    rw [List.length_take] at hj
    rw [List.getElem_take] at e
    have h1 := up_range hu (i := j) (by lia)
    rw [List.getD_eq_getElem?_getD, List.getElem?_eq_getElem (by lia)] at h1
    simp only [Option.getD_some] at h1
    lia
  lia
end
section
variable {ns us : List Int} {T : Int}
theorem st2_paths : ∀ m j, j < m → (st2 ns us T m).paths.getD j Str.empty = pathOf (st2 ns us T j).paths (ns.getD j 0) (us.getD j 0)
  | m + 1, j, h => by
    have hl := (st2_len ns us T m).1
    show ((st2 ns us T m).paths ++ [pathOf (st2 ns us T m).paths (ns.getD m 0) (us.getD m 0)]).getD j Str.empty = _
    by_cases hj : j < m
    · rw [getD_left (by lia)]; exact st2_paths m j hj
    · obtain rfl : j = m := by lia
      have := getD_snoc (l := (st2 ns us T j).paths) (x := pathOf (st2 ns us T j).paths (ns.getD j 0) (us.getD j 0)) (d := Str.empty)
      rwa [hl] at this
theorem st2_hide : ∀ m j, j < m → (st2 ns us T m).hide.getD j false = hideOf (st2 ns us T j).hide T (ns.getD j 0) (us.getD j 0)
  | m + 1, j, h => by
    have hl := (st2_len ns us T m).2.1
    show ((st2 ns us T m).hide ++ [hideOf (st2 ns us T m).hide T (ns.getD m 0) (us.getD m 0)]).getD j false = _
    by_cases hj : j < m
    · rw [getD_left (by lia)]; exact st2_hide m j hj
    · obtain rfl : j = m := by lia
      have := getD_snoc (l := (st2 ns us T j).hide) (x := hideOf (st2 ns us T j).hide T (ns.getD j 0) (us.getD j 0)) (d := false)
      rwa [hl] at this
theorem st2_due : ∀ m j, j < m → (st2 ns us T m).due.getD j (Str.empty, .non) = (lineOf (bitsOf (ns.getD j 0)).toNat (pathOf (st2 ns us T j).paths (ns.getD j 0) (us.getD j 0)), thingOf us j (ns.getD j 0))
  | m + 1, j, h => by
    have hl := (st2_len ns us T m).2.2.1
    show ((st2 ns us T m).due ++ [(lineOf (bitsOf (ns.getD m 0)).toNat (pathOf (st2 ns us T m).paths (ns.getD m 0) (us.getD m 0)), thingOf us m (ns.getD m 0))]).getD j (Str.empty, .non) = _
    by_cases hj : j < m
    · rw [getD_left (by lia)]; exact st2_due m j hj
    · obtain rfl : j = m := by lia
      have := getD_snoc (l := (st2 ns us T j).due) (x := (lineOf (bitsOf (ns.getD j 0)).toNat (pathOf (st2 ns us T j).paths (ns.getD j 0) (us.getD j 0)), thingOf us j (ns.getD j 0))) (d := (Str.empty, .non))
      rwa [hl] at this
theorem st2_ends : ∀ m j, j < m → (st2 ns us T m).ends.getD j 0 = ((st2 ns us T (j + 1)).oct.length : Int)
  | m + 1, j, h => by
    have hl := (st2_len ns us T m).2.2.2
    show ((st2 ns us T m).ends ++ [((st2 ns us T (m + 1)).oct.length : Int)]).getD j 0 = _
    by_cases hj : j < m
    · rw [getD_left (by lia)]; exact st2_ends m j hj
    · obtain rfl : j = m := by lia
      have := getD_snoc (l := (st2 ns us T j).ends) (x := ((st2 ns us T (j + 1)).oct.length : Int)) (d := 0)
      rwa [hl] at this
theorem st2_octs (i : Nat) : (st2 ns us T (i + 1)).oct = (st2 ns us T i).oct ++ placeOct us i (ns.getD i 0) := rfl
end

section
variable {ns us : List Int} {T : Int}
def Pn (ns us : List Int) (T : Int) (a : Int) : Str := (st2 ns us T ns.length).paths.getD a.toNat Str.empty
def Hn (ns us : List Int) (T : Int) (a : Int) : Bool := (st2 ns us T ns.length).hide.getD a.toNat false
def fr (ns us : List Int) (T : Int) (i : Nat) (a : Int) : Fm :=
  ((us.drop i).count a, if a < 0 then Str.empty else Pn ns us T a ++ Str.ofString "/", if a < 0 then false else Hn ns us T a)
def frames (ns us : List Int) (T : Int) (i : Nat) : List Fm := (((-1 : Int) :: (st1 ns i).1).map (fr ns us T i)).reverse
theorem fr_next (hu : us = (st1 ns ns.length).2) {i : Nat} (hi : i < ns.length) {a : Int} (h : us.getD i 0 ≠ a) : fr ns us T i a = fr ns us T (i + 1) a := by
  unfold fr
  rw [rem_succ hu hi, if_neg h, Nat.add_zero]
theorem P_is {i : Nat} (hi : i < ns.length) (hu : us = (st1 ns ns.length).2) : Pn ns us T (i : Int) = (if us.getD i 0 < 0 then Str.empty else Pn ns us T (us.getD i 0) ++ Str.ofString "/") ++ letterOf (ns.getD i 0) := by
  have hr := up_range hu hi
  show (st2 ns us T ns.length).paths.getD i Str.empty = _
  rw [st2_paths _ _ hi]
  unfold pathOf
  split
  · exact (str_eq (by rw [str_app]; rfl)).symm
  · show _ = (st2 ns us T ns.length).paths.getD (us.getD i 0).toNat Str.empty ++ _ ++ _
    rw [st2_paths _ _ (show (us.getD i 0).toNat < i by lia), st2_paths _ _ (show (us.getD i 0).toNat < ns.length by lia)]
theorem H_is {i : Nat} (hi : i < ns.length) (hu : us = (st1 ns ns.length).2) : Hn ns us T (i : Int) = ((kindOfT T (ns.getD i 0) && nameOfT T (ns.getD i 0) (us.getD i 0)) || (if us.getD i 0 < 0 then false else Hn ns us T (us.getD i 0))) := by
  have hr := up_range hu hi
  show (st2 ns us T ns.length).hide.getD i false = _
  rw [st2_hide _ _ hi]
  unfold hideOf
  split
  · rw [decide_eq_false (by lia), Bool.false_and]
  · rw [decide_eq_true (by lia), Bool.true_and]
    show _ = (_ || (st2 ns us T ns.length).hide.getD (us.getD i 0).toNat false)
    rw [st2_hide _ _ (show (us.getD i 0).toNat < i by lia), st2_hide _ _ (show (us.getD i 0).toNat < ns.length by lia)]
theorem path_end {i : Nat} (hi : i < ns.length) (hu : us = (st1 ns ns.length).2) : PathEnd (Pn ns us T (i : Int)) (ns.getD i 0) (us.getD i 0) := by
  rw [P_is hi hu]
  by_cases h : us.getD i 0 < 0
  · rw [if_pos h]
    exact .inl ⟨h, str_eq (by rw [str_app]; rfl)⟩
  · rw [if_neg h]
    exact .inr ⟨by lia, _, rfl⟩
theorem due_is {i : Nat} (hi : i < ns.length) : (st2 ns us T ns.length).due.getD i (Str.empty, .non) = (lineOf (bitsOf (ns.getD i 0)).toNat (Pn ns us T (i : Int)), thingOf us i (ns.getD i 0)) := by
  rw [st2_due _ _ hi]
  show _ = (lineOf _ ((st2 ns us T ns.length).paths.getD i Str.empty), _)
  rw [st2_paths _ _ hi]
/-- the frames at a turn: those to be closed, the parent's, and the rest -/
theorem frames_split (hu : us = (st1 ns ns.length).2) {i : Nat} (hi : i < ns.length) : ∃ (D rest : List Fm),
    frames ns us T i = D ++ ((us.drop (i + 1)).count (us.getD i 0) + 1, (if us.getD i 0 < 0 then Str.empty else Pn ns us T (us.getD i 0) ++ Str.ofString "/"), (if us.getD i 0 < 0 then false else Hn ns us T (us.getD i 0))) :: rest ∧ (∀ f ∈ D, f.1 = 0) ∧
    (((-1 : Int) :: cl ns i).map (fr ns us T (i + 1))).reverse = ((us.drop (i + 1)).count (us.getD i 0), (if us.getD i 0 < 0 then Str.empty else Pn ns us T (us.getD i 0) ++ Str.ofString "/"), (if us.getD i 0 < 0 then false else Hn ns us T (us.getD i 0))) :: rest := by
  obtain ⟨B, hB⟩ := split_last (cl ns i)
  rw [← us_up hu hi] at hB
  have hpw : ((-1 : Int) :: cl ns i).Pairwise (· < ·) := List.pairwise_cons.mpr ⟨fun a ha => by have := (op_lt ns i a (cl_sub ha)).1; lia, (op_pw ns i).sublist (List.take_sublist ..)⟩
  rw [hB] at hpw
  have hBne : ∀ a ∈ B, us.getD i 0 ≠ a := fun a ha => by
    have := (List.pairwise_append.mp hpw).2.2 a ha (us.getD i 0) (.head _)
    lia
  have hBm : B.map (fr ns us T i) = B.map (fr ns us T (i + 1)) := List.map_congr_left fun a ha => fr_next hu hi (hBne a ha)
  have hsplit : (st1 ns i).1 = cl ns i ++ (st1 ns i).1.drop ((st1 ns i).1.length - (ns.getD i 0 / 4 % 3).toNat) := (List.take_append_drop _ _).symm
  have hdis := op_pw ns i
  rw [hsplit] at hdis
  refine ⟨(((st1 ns i).1.drop ((st1 ns i).1.length - (ns.getD i 0 / 4 % 3).toNat)).map (fr ns us T i)).reverse, (B.map (fr ns us T (i + 1))).reverse, ?_, ?_, ?_⟩
  · unfold frames
    conv => lhs; rw [hsplit]
    rw [← List.cons_append, hB, List.map_append, List.reverse_append, List.map_append, List.reverse_append, hBm]
    congr 1
    show fr ns us T i (us.getD i 0) :: _ = _
    congr 1
    unfold fr
    rw [rem_succ hu hi, if_pos rfl]
  · intro f hf
    obtain ⟨a, ha, rfl⟩ := List.mem_map.mp (List.mem_reverse.mp hf)
    have ha2 : a ∈ (st1 ns i).1 := List.mem_of_mem_drop ha
    have hr := op_lt ns i a ha2
    refine rem_zero hu hr.1 hr.2 fun hc => ?_
    have := (List.pairwise_append.mp hdis).2.2 a hc a ha
    lia
  · rw [hB, List.map_append, List.reverse_append]
    rfl
theorem own_item {h : Bool} {l : Str} {th : Thing} : own h l th = if (!h) = true then [(l, th)] else [] := by cases h <;> rfl
/-- one place read -/
theorem RS.place (hu : us = (st1 ns ns.length).2) (hz : ns.length ≤ 10) {i : Nat} (hi : i < ns.length) {r' : List UInt8} {its : List Item} {o : Option (List UInt8)} (h : RS (patT T).takes (frames ns us T (i + 1)) r' its o) :
    RS (patT T).takes (frames ns us T i) (placeOct us i (ns.getD i 0) ++ r') ((if (!Hn ns us T (i : Int)) = true then [(st2 ns us T ns.length).due.getD i (Str.empty, .non)] else []) ++ its) o := by
  obtain ⟨D, rest, e1, e2, e3⟩ := frames_split (T := T) hu hi
  rw [e1]
  refine RS.pops ?_ e2
  have hl := us_len hu
  have hcnt : us.count (i : Int) < 256 := by have := List.count_le_length (a := (i : Int)) (l := us); lia
  have hnode := node_place (us := us) (k := i) (y := ns.getD i 0) (r' := r') hcnt
  have hline : (if us.getD i 0 < 0 then Str.empty else Pn ns us T (us.getD i 0) ++ Str.ofString "/") ++ strOf [lb (ns.getD i 0)] = Pn ns us T (i : Int) := by rw [lb_str, P_is hi hu]
  have htk : Hn ns us T (i : Int) = ((if us.getD i 0 < 0 then false else Hn ns us T (us.getD i 0)) || (patT T).takes (lineOf (bitsOf (ns.getD i 0)).toNat ((if us.getD i 0 < 0 then Str.empty else Pn ns us T (us.getD i 0) ++ Str.ofString "/") ++ strOf [lb (ns.getD i 0)]))) := by
    rw [hline, takes_is (path_end hi hu), Bool.or_comm]
    exact H_is hi hu
  rw [due_is hi, ← own_item]
  have hfr := h
  unfold frames at hfr
  rw [st1_succ] at hfr
  dsimp only at hfr
  by_cases hd : ns.getD i 0 % 4 = 0
  · rw [if_pos hd, ← List.cons_append, List.map_append, List.reverse_append, e3] at hfr
    have hk : (bitsOf (ns.getD i 0)).toNat / 4096 = 4 := by rcases kind_cases (y := ns.getD i 0) with ⟨h, e⟩ | ⟨h, e⟩ | ⟨h, e⟩ | ⟨h, e⟩ <;> lia
    have hth : numOf (thingOf us i (ns.getD i 0)) = us.count (i : Int) := by unfold thingOf; rw [hd]; rfl
    have key := RS.dir hnode hk htk (st := rest) (its := its) (o := o) (by
      rw [hline, hth]
      have e : fr ns us T (i + 1) (i : Int) = (us.count (i : Int), Pn ns us T (i : Int) ++ Str.ofString "/", Hn ns us T (i : Int)) := by
        unfold fr
        rw [rem_self hu hi, if_neg (by lia), if_neg (by lia)]
      rw [← e]
      exact hfr)
    rw [hline] at key
    exact key
  · rw [if_neg hd, e3] at hfr
    have hk : (bitsOf (ns.getD i 0)).toNat / 4096 ≠ 4 := by rcases kind_cases (y := ns.getD i 0) with ⟨h, e⟩ | ⟨h, e⟩ | ⟨h, e⟩ | ⟨h, e⟩ <;> lia
    have key := RS.leaf hnode hk htk hfr
    rw [hline] at key
    exact key
theorem RS.stop (hu : us = (st1 ns ns.length).2) (hz : ns.length ≤ 10) {i : Nat} (hi : i < ns.length) {j : Nat} (hj : j < (placeOct us i (ns.getD i 0)).length) : RS (patT T).takes (frames ns us T i) ((placeOct us i (ns.getD i 0)).take j) [] none := by
  obtain ⟨D, rest, e1, e2, e3⟩ := frames_split (T := T) hu hi
  rw [e1]
  have hl := us_len hu
  refine RS.pops (RS.bad (node_cut ?_ hj)) e2
  have := List.count_le_length (a := (i : Int)) (l := us)
  lia
end

def suf (ns us : List Int) : Nat → Nat → List UInt8
  | _, 0 => []
  | i, m + 1 => placeOct us i (ns.getD i 0) ++ suf ns us (i + 1) m
theorem oct_suf {ns us : List Int} {T : Int} : ∀ m i, (st2 ns us T (i + m)).oct = (st2 ns us T i).oct ++ suf ns us i m
  | 0, i => by simp [suf]
  | m + 1, i => by
    rw [show i + (m + 1) = (i + 1) + m by lia, oct_suf m (i + 1), st2_octs, List.append_assoc]
    rfl
def itsF (ns us : List Int) (T : Int) (pz : Nat → Bool) (i m : Nat) : List Item := ((List.range' i m).filter pz).map fun k => (st2 ns us T ns.length).due.getD k (Str.empty, .non)
theorem itsF_succ {ns us : List Int} {T : Int} {pz : Nat → Bool} {i m : Nat} : itsF ns us T pz i (m + 1) = (if pz i = true then [(st2 ns us T ns.length).due.getD i (Str.empty, .non)] else []) ++ itsF ns us T pz (i + 1) m := by
  unfold itsF
  rw [List.range'_succ]
  by_cases h : pz i = true
  · rw [List.filter_cons_of_pos h, if_pos h]; rfl
  · rw [List.filter_cons_of_neg h, if_neg h]; rfl
theorem frames_end {ns us : List Int} {T : Int} (hu : us = (st1 ns ns.length).2) {tk : Str → Bool} {tl : List UInt8} : RS tk (frames ns us T ns.length) tl [] (some tl) := by
  have hl := us_len hu
  have := RS.pops (tk := tk) (st := []) (r := tl) (its := []) (o := some tl) ⟨rfl, rfl⟩ (l := frames ns us T ns.length) (fun f hf => by
    obtain ⟨a, _, rfl⟩ := List.mem_map.mp (List.mem_reverse.mp hf)
    show (us.drop ns.length).count a = 0
    rw [List.drop_eq_nil_of_le (by lia)]
    rfl)
  rwa [List.append_nil] at this
theorem read_full {ns us : List Int} {T : Int} (hu : us = (st1 ns ns.length).2) (hz : ns.length ≤ 10) {tl : List UInt8} : ∀ m i, i + m = ns.length → RS (patT T).takes (frames ns us T i) (suf ns us i m ++ tl) (itsF ns us T (fun j => !Hn ns us T (j : Int)) i m) (some tl)
  | 0, i, h => by
    obtain rfl : i = ns.length := by lia
    exact frames_end hu
  | m + 1, i, h => by
    have key := RS.place (T := T) hu hz (i := i) (by lia) (read_full hu hz (T := T) (tl := tl) m (i + 1) (by lia))
    rw [itsF_succ]
    show RS _ _ ((placeOct us i (ns.getD i 0) ++ suf ns us (i + 1) m) ++ tl) _ _
    rw [List.append_assoc]
    exact key
theorem off_mono {ns us : List Int} {T : Int} : ∀ {i j : Nat}, i ≤ j → (st2 ns us T i).oct.length ≤ (st2 ns us T j).oct.length := by
  intro i j h
  obtain ⟨m, rfl⟩ := Nat.le.dest h
  rw [oct_suf m i, List.length_append]
  lia
theorem read_cut {ns us : List Int} {T : Int} (hu : us = (st1 ns ns.length).2) (hz : ns.length ≤ 10) {k : Nat} (hk : k < (st2 ns us T ns.length).oct.length) : ∀ m i, i + m = ns.length → (st2 ns us T i).oct.length ≤ k →
    RS (patT T).takes (frames ns us T i) ((suf ns us i m).take (k - (st2 ns us T i).oct.length)) (itsF ns us T (fun j => !Hn ns us T (j : Int) && decide ((st2 ns us T ns.length).ends.getD j 0 ≤ (k : Int))) i m) none
  | 0, i, h, hi => by
    obtain rfl : i = ns.length := by lia
    lia
  | m + 1, i, h, hi => by
    have hin : i < ns.length := by lia
    have hoff : (st2 ns us T (i + 1)).oct.length = (st2 ns us T i).oct.length + (placeOct us i (ns.getD i 0)).length := by rw [st2_octs, List.length_append]
    have hend := st2_ends (ns := ns) (us := us) (T := T) ns.length i hin
    show RS _ _ ((placeOct us i (ns.getD i 0) ++ suf ns us (i + 1) m).take _) _ _
    by_cases hc : (st2 ns us T (i + 1)).oct.length ≤ k
    · have key := RS.place (T := T) hu hz hin (read_cut hu hz hk m (i + 1) (by lia) hc)
      rw [itsF_succ, hend, decide_eq_true (by lia), Bool.and_true, List.take_append, List.take_of_length_le (by lia), show k - (st2 ns us T i).oct.length - (placeOct us i (ns.getD i 0)).length = k - (st2 ns us T (i + 1)).oct.length by lia]
      exact key
    · have key := RS.stop (T := T) hu hz hin (j := k - (st2 ns us T i).oct.length) (by lia)
      rw [List.take_append_of_le_length (by lia)]
      have hnil : itsF ns us T (fun j => !Hn ns us T (j : Int) && decide ((st2 ns us T ns.length).ends.getD j 0 ≤ (k : Int))) i (m + 1) = [] := by
        unfold itsF
        rw [List.filter_eq_nil_iff.mpr]
        · rfl
        · intro j hj
          obtain ⟨h1, h2⟩ := List.mem_range'_1.mp hj
          have he := st2_ends (ns := ns) (us := us) (T := T) ns.length j (by lia)
          have hm := off_mono (ns := ns) (us := us) (T := T) (i := i + 1) (j := j + 1) (by lia)
          rw [he, decide_eq_false (by lia), Bool.and_false]
          exact Bool.false_ne_true
      rw [hnil]
      exact key
section
variable {ns us : List Int} {T : Int}
def pb (T : Int) : List UInt8 := ((patOf T).cps.toList.map fun c : Nat => (c : Int)).map fun n => n.toNat.toUInt8
theorem pb_len (T : Int) : (pb T).length = (patOf T).length := by unfold pb; simp; rfl
theorem pb_str (T : Int) : strOf (pb T) = patOf T := by
  refine str_eq ?_
  show (((pb T).map UInt8.toNat).toArray).toList = _
  unfold pb
  rw [List.map_map, List.map_map]
  have h := (patOf_small T).2
  have e : ∀ l : List Nat, (∀ c ∈ l, c < 256) → l.map (UInt8.toNat ∘ (fun n : Int => n.toNat.toUInt8) ∘ fun c : Nat => (c : Int)) = l := by
    intro l
    induction l with
    | nil => intro _; rfl
    | cons c l ih =>
      intro hl
      rw [List.map_cons, ih fun x hx => hl x (.tail _ hx)]
      congr 1
      exact u8_nat (hl c (.head _))
  exact e _ h
theorem oct_split (m : Nat) : (st2 ns us T m).oct = (patOf T).length.toUInt8 :: (pb T ++ (us.count (-1)).toUInt8 :: suf ns us 0 m) := by
  have h := oct_suf (ns := ns) (us := us) (T := T) m 0
  rw [Nat.zero_add] at h
  rw [h]
  show hdrOf T us ++ _ = _
  unfold hdrOf hdrI pb
  simp
theorem counted_oct (m : Nat) (tl : List UInt8) : counted ((st2 ns us T m).oct ++ tl) = some (pb T, (us.count (-1)).toUInt8 :: (suf ns us 0 m ++ tl)) := by
  have hs := patOf_small T
  rw [oct_split]
  have := counted_exact (n := (patOf T).length) (by lia) (d := pb T) (r := (us.count (-1)).toUInt8 :: (suf ns us 0 m ++ tl)) (pb_len T)
  rw [← this]
  simp
theorem pat_full {d r : List UInt8} (h : counted ((st2 ns us T ns.length).oct ++ [5]) = some (d, r)) : strOf d = (patT T).pp := by
  rw [counted_oct] at h
  obtain ⟨rfl, _⟩ := Prod.mk.inj (Option.some.inj h)
  exact pb_str T
theorem cut_pat {k : Nat} {d r : List UInt8} (h : counted ((st2 ns us T ns.length).oct.take k) = some (d, r)) : d = pb T := by
  have h2 := counted_mono (q := (st2 ns us T ns.length).oct.drop k) h
  rw [List.take_append_drop] at h2
  have h3 := counted_oct (ns := ns) (us := us) (T := T) ns.length []
  rw [List.append_nil, h2] at h3
  exact (Prod.mk.inj (Option.some.inj h3)).1
theorem pat_cut {k : Nat} {d r : List UInt8} (h : counted ((st2 ns us T ns.length).oct.take k) = some (d, r)) : strOf d = (patT T).pp := by
  rw [cut_pat h]; exact pb_str T
theorem pick_its (pz : Nat → Bool) : pickI pz (st2 ns us T ns.length).due = itsF ns us T pz 0 ns.length := by
  unfold pickI itsF
  rw [(st2_len ns us T ns.length).2.2.1, List.range_eq_range']
theorem frames0 : frames ns us T 0 = [(us.count (-1), Str.empty, false)] := rfl
theorem listed_full (hu : us = (st1 ns ns.length).2) (hz : ns.length ≤ 10) {its : List Item} {oo : Option (List UInt8)} (h : Listed (patT T) ((st2 ns us T ns.length).oct ++ [5]) its oo) :
    its = pickI (fun j => !(st2 ns us T ns.length).hide.getD j false) (st2 ns us T ns.length).due ∧ oo = some [5] := by
  have hc := counted_oct (ns := ns) (us := us) (T := T) ns.length [5]
  have hl := us_len hu
  have hcnt : us.count (-1) < 256 := by have := List.count_le_length (a := (-1 : Int)) (l := us); lia
  cases h with
  | noName h => rw [hc] at h; cases h
  | noNum h => rw [hc] at h; cases h
  | reads h R =>
    rw [hc] at h
    obtain ⟨rfl, h2⟩ := Prod.mk.inj (Option.some.inj h)
    obtain ⟨rfl, rfl⟩ := List.cons.inj h2
    have key := read_full (T := T) hu hz (tl := [5]) ns.length 0 (by lia)
    rw [frames0] at key
    have R2 := key.one
    rw [u8_nat hcnt] at R
    obtain ⟨rfl, rfl⟩ := R.det R2
    exact ⟨(pick_its _).symm, rfl⟩
theorem listed_cut (hu : us = (st1 ns ns.length).2) (hz : ns.length ≤ 10) {k : Nat} (hk : k < (st2 ns us T ns.length).oct.length) {its : List Item} {oo : Option (List UInt8)} (h : Listed (patT T) ((st2 ns us T ns.length).oct.take k) its oo) :
    its = pickI (fun j => !(st2 ns us T ns.length).hide.getD j false && decide ((st2 ns us T ns.length).ends.getD j 0 ≤ (k : Int))) (st2 ns us T ns.length).due ∧ oo = none := by
  have hl := us_len hu
  have hcnt : us.count (-1) < 256 := by have := List.count_le_length (a := (-1 : Int)) (l := us); lia
  have hlen0 : (st2 ns us T 0).oct.length = (patOf T).length + 2 := hdrOf_len T us
  rw [pick_its]
  by_cases hb : k < (patOf T).length + 2
  · have hnil : itsF ns us T (fun j => !(st2 ns us T ns.length).hide.getD j false && decide ((st2 ns us T ns.length).ends.getD j 0 ≤ (k : Int))) 0 ns.length = [] := by
      unfold itsF
      rw [List.filter_eq_nil_iff.mpr]
      · rfl
      · intro j hj
        obtain ⟨h1, h2⟩ := List.mem_range'_1.mp hj
        have he := st2_ends (ns := ns) (us := us) (T := T) ns.length j (by lia)
        have hm := off_mono (ns := ns) (us := us) (T := T) (i := 0) (j := j + 1) (by lia)
        rw [he, decide_eq_false (by lia), Bool.and_false]
        exact Bool.false_ne_true
    rw [hnil]
    cases h with
    | noName h => exact ⟨rfl, rfl⟩
    | noNum h => exact ⟨rfl, rfl⟩
    | reads h R =>
      exfalso
      have h1 := counted_len h
      rw [cut_pat h, pb_len, List.length_cons, List.length_take] at h1
      lia
  · have hoct : (st2 ns us T ns.length).oct.take k = (st2 ns us T 0).oct ++ (suf ns us 0 ns.length).take (k - (st2 ns us T 0).oct.length) := by
      have e := oct_suf (ns := ns) (us := us) (T := T) ns.length 0
      rw [Nat.zero_add] at e
      rw [e, List.take_append, List.take_of_length_le (by lia)]
    have hc := counted_oct (ns := ns) (us := us) (T := T) 0 ((suf ns us 0 ns.length).take (k - (st2 ns us T 0).oct.length))
    rw [← hoct] at hc
    cases h with
    | noName h => rw [hc] at h; cases h
    | noNum h => rw [hc] at h; cases h
    | reads h R =>
      rw [hc] at h
      obtain ⟨rfl, h2⟩ := Prod.mk.inj (Option.some.inj h)
      obtain ⟨rfl, rfl⟩ := List.cons.inj h2
      have key := read_cut (T := T) hu hz hk ns.length 0 (by lia) (by lia)
      rw [frames0] at key
      have R2 := key.one
      rw [u8_nat hcnt] at R
      obtain ⟨rfl, rfl⟩ := R.det R2
      exact ⟨rfl, rfl⟩
end

theorem sum_range : ∀ l : List Int, (∀ x ∈ l, 0 ≤ x ∧ x < 10000) → 0 ≤ l.sum ∧ l.sum ≤ 10000 * l.length
  | [], _ => by simp
  | a :: l, h => by
    have h1 := h a (.head _)
    have h2 := sum_range l fun x hx => h x (.tail _ hx)
    rw [List.sum_cons, List.length_cons]
    push_cast
    lia
theorem total_range (ws : List Int) : 0 ≤ totalOf ws ∧ totalOf ws < 60000 := by
  have h := sum_range (drawnOf ws) fun x hx => numsOf_get x (List.mem_append_right _ hx)
  have hl := (numsOf_len (ws := ws)).2
  unfold totalOf
  lia
theorem law_all {w : World} {ws : List Int} : LawRest w 0 (J0 ws) := by
  have hl := numsOf_len (ws := ws)
  have hn : (numsOf ws).length ≤ 10 := by lia
  have hT := total_range ws
  refine law_1 (law_2 hn (law_3 hn (us_len rfl) numsOf_at (fun i hi => up_range rfl hi) hT (law_4 hT hn (patT_ok (totalOf ws) w) ?_ (fun d r => pat_full) (fun k d r => pat_cut) (fun its oo => listed_full rfl hn) (fun k its oo hk => listed_cut rfl hn hk))))
  have h1 := st2_oct (numsOf ws) (st1 (numsOf ws) (numsOf ws).length).2 (totalOf ws) (numsOf ws).length
  refine ⟨by lia, ?_⟩
  rw [oct_split]
  simp
theorem law_use {w : World} {ws : List Int} {vs : List Value} (_h : IntsAre vs ws) : LawRest w 0 (J0 ws) := law_all

theorem law_holds : PySem.Challenge.rw_in0217_01.Holds := by
  refine holds_law hd.said9 fun said => ?_
  refine holds_open (q := hd.view_39) (loose := hd.loose9) (Xt := hd.Xt9) (XP := XL hd.view_39 hd.lv9) (Yf := Hook.obs (kmHook hd.heap_39 hd.as9 (fun _ => by kernel_rfl) [167, 92])) (Ya := Hook.val (kmHook hd.heap_39 hd.as9 (fun _ => by kernel_rfl) [167, 92])) (YP := Hook.says (kmHook hd.heap_39 hd.as9 (fun _ => by kernel_rfl) [167, 92])) (N := hd.NN9) ?hl (Hook.of _) (Hook.keeps _) (fun s e => xl_of s (Bool.and_eq_true_iff.mp e).1) XL.keeps (by rfl) (by rfl) (by rfl) (fun s e => recFacts_of (Bool.and_eq_true_iff.mp e).2) (by rfl) (by first | assumption | decide +kernel) (by decide +kernel) ⟨rfl, rfl, rfl, rfl, rfl, by decide +kernel⟩ ?hw ?hc
  case hl => exact hd.left
  case hw => w_witness2
  clear said
  k_fill
  intro w s₀ s₁ mg mb G Y fa o pm cd doc dV kV ho hd9 hcd hD hmg hg args vals as hpre hlay hrd hwl hlo
  have KX := km_in_of Y
  km_tabs Y
  have X := (Ground.X G).1
  have V := (Ground.X G).2
  refine Ground.open G ?_
  intro T B D TE TW
  try (refine guard_noD D (by decide +kernel) ?_; clear D)
  km_lay T hmg ho hd9 cd
  clear hmg
  wrow_args hpre hlay hrd hwl hlo
  first | refine callC_kw (enter_call ?_) | refine enter_call ?_
  w_top on
  refine kn_postG hT9 (fun _ _ => rfl) (by wrow_post) ?_
  w_call any ho hd9 hcd hD T F
  clear hd9
  kn_ghosts F T
  k_drop
  all_goals try k_fold
  (rename IntsAre _ _ => hI9)
  (rename Heap.IsList (ghostOf _ _) _ _ => hLs)
  (rename Below callerA _ _ _ => B9)
  (rename Frag.In _ (ghostOf _ _) => X9)
  (rename Top _ _ _ _ _ (ghostOf _ _) => T9)
  (rename Fr _ _ _ _ => F9)
  (rename News _ _ _ _ => N9)
  (rename ¬ (_ : Int) < _ => hc63)
  have H1 := law_use (w := w) hI9
  refine wpAny_mono ((H1.use (by k_is)) _ _ _ _ _ _ _ _ _ _ _ _ _ _ _ _ _ _ B9 X9 T9 (by decide) (by decide) (AllBare.of_eq (by assumption)) ?hQ F9 N9 ⟨_, _, _, _, _, _, rfl, hLs, hI9, by lia, ⟨?c1, ?c2, ?c3, ?c4⟩, by assumption, rfl⟩) (fun _ _ h => h) (fun _ _ h => h.elim)
  case hQ =>
    intro h' tk' gs' keep bare grown
    exact ⟨.bool true, rfl, rfl, keep, rfl, bare, grown⟩
  case c1 => assumption
  case c2 => assumption
  case c3 => assumption
  case c4 => assumption

end Mine
theorem PySem.Challenge.cw_in0217_01_holds : PySem.Challenge.rw_in0217_01.Holds := by
  exact Mine.law_holds
