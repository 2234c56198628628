import PyProof.Rows.All
import Wide.All
import OpenK.AllK
import Wide.FinOn
import PyProof.ZipIter
import PyProof.Tail
import PyProof.AttrMissHeap
import KE.KFromBytes
import KE.KEqDat
import PySem.Challenge.RW_ij0185_01
set_option Elab.async false
set_option linter.all false
namespace Mine
section
open PySem PySem.W PySem.Calls PyProof.Rows
set_option Elab.async false
set_option linter.unusedVariables false
set_option maxRecDepth 100000
namespace hd
noncomputable abbrev pg : Program := PySem.Challenge.rw_ij0185_01.row.toRowW.prog
noncomputable def bs (i : Nat) : Stmt := (pg.main.body.drop i).head?.getD default
noncomputable def cs (i j : Nat) : Stmt := match bs i with | .ClassDef _ _ _ b _ _ _ _ _ _ _ => (b.drop j).head?.getD default | _ => default
noncomputable def fa (s : Stmt) : Arguments := match s with | .FunctionDef _ a _ _ _ _ _ _ _ _ => a | _ => default
noncomputable def fb (s : Stmt) : List Stmt := match s with | .FunctionDef _ _ b _ _ _ _ _ _ _ => b | _ => []
noncomputable def fs (s : Stmt) : Scope := match s with | .FunctionDef _ _ _ _ _ _ c _ _ _ => c | _ => default
noncomputable def heap_39 : Params → Frag := (fun p => (((nat_lit 2),⟨.none,(.none ),(.dict #[] 0),#[]⟩) :: ((nat_lit 3),⟨(.type "dict"),(.none ),(.dict #[⟨(PySem.PyData.keyHash p "__name__"),(.str "__name__" 165),(.str "law_ij0185_01" 2025)⟩,⟨(PySem.PyData.keyHash p "__doc__"),(.str "__doc__" 166),.none⟩,⟨(PySem.PyData.keyHash p "__package__"),(.str "__package__" 167),.none⟩,⟨(PySem.PyData.keyHash p "__loader__"),(.str "__loader__" 168),(.builtin "__main__.__loader__#opaque")⟩,⟨(PySem.PyData.keyHash p "__spec__"),(.str "__spec__" 169),.none⟩,⟨(PySem.PyData.keyHash p "__annotations__"),(.str "__annotations__" 170),(.ref 6)⟩,⟨(PySem.PyData.keyHash p "__builtins__"),(.str "__builtins__" 171),(.ref 4)⟩,⟨(PySem.PyData.keyHash p "__file__"),(.str "__file__" 173),(.str "/claim/cut.py" 172)⟩,⟨(PySem.PyData.keyHash p "__cached__"),(.str "__cached__" 174),.none⟩,⟨(PySem.PyData.keyHash p "_wall"),(.str "_wall" 193),(.ref 21)⟩,⟨(PySem.PyData.keyHash p "_pe_doc"),(.str "_pe_doc" 202),(.ref 28)⟩,⟨(PySem.PyData.keyHash p "_plain_name"),(.str "_plain_name" 213),(.ref 35)⟩,⟨(PySem.PyData.keyHash p "ABCMeta"),(.str "ABCMeta" 239),(.ref 52)⟩,⟨(PySem.PyData.keyHash p "_ABCLike"),(.str "_ABCLike" 282),(.ref 85)⟩,⟨(PySem.PyData.keyHash p "_abc_plain_meta"),(.str "_abc_plain_meta" 289),(.ref 94)⟩,⟨(PySem.PyData.keyHash p "fspath"),(.str "fspath" 301),(.ref 101)⟩,⟨(PySem.PyData.keyHash p "_splitext"),(.str "_splitext" 318),(.ref 108)⟩,⟨(PySem.PyData.keyHash p "_check_arg_types"),(.str "_check_arg_types" 329),(.ref 115)⟩,⟨(PySem.PyData.keyHash p "_get_sep"),(.str "_get_sep" 338),(.ref 122)⟩,⟨(PySem.PyData.keyHash p "join"),(.str "join" 350),(.ref 129)⟩,⟨(PySem.PyData.keyHash p "splitext"),(.str "splitext" 359),(.ref 136)⟩,⟨(PySem.PyData.keyHash p "splitroot"),(.str "splitroot" 404),(.ref 146)⟩,⟨(PySem.PyData.keyHash p "normpath"),(.str "normpath" 420),(.ref 153)⟩,⟨(PySem.PyData.keyHash p "CRLF"),(.str "CRLF" 422),(.str "\x0d\n" 421)⟩,⟨(PySem.PyData.keyHash p "NL"),(.str "NL" 424),(.str "\n" 423)⟩,⟨(PySem.PyData.keyHash p "_QUOPRI_MAP"),(.str "_QUOPRI_MAP" 1452),(.ref 156)⟩,⟨(PySem.PyData.keyHash p "_QUOPRI_HEADER_MAP"),(.str "_QUOPRI_HEADER_MAP" 1453),(.ref 161)⟩,⟨(PySem.PyData.keyHash p "_QUOPRI_BODY_MAP"),(.str "_QUOPRI_BODY_MAP" 1454),(.ref 163)⟩,⟨(PySem.PyData.keyHash p "ascii_lowercase"),(.str "ascii_lowercase" 1456),(.str "abcdefghijklmnopqrstuvwxyz" 1455)⟩,⟨(PySem.PyData.keyHash p "ascii_uppercase"),(.str "ascii_uppercase" 1458),(.str "ABCDEFGHIJKLMNOPQRSTUVWXYZ" 1457)⟩,⟨(PySem.PyData.keyHash p "ascii_letters"),(.str "ascii_letters" 1460),(.str "abcdefghijklmnopqrstuvwxyzABCDEFGHIJKLMNOPQRSTUVWXYZ" 1459)⟩,⟨(PySem.PyData.keyHash p "digits"),(.str "digits" 1462),(.str "0123456789" 1461)⟩,⟨(PySem.PyData.keyHash p "hexdigits"),(.str "hexdigits" 1467),(.str "0123456789abcdefABCDEF" 1466)⟩,⟨(PySem.PyData.keyHash p "unquote"),(.str "unquote" 1974),(.ref 176)⟩,⟨(PySem.PyData.keyHash p "quote"),(.str "quote" 1981),(.ref 183)⟩,⟨(PySem.PyData.keyHash p "_QUOPRI_BODY_ENCODE_MAP"),(.str "_QUOPRI_BODY_ENCODE_MAP" 1982),(.ref 185)⟩,⟨(PySem.PyData.keyHash p "body_encode"),(.str "body_encode" 2010),(.ref 196)⟩,⟨(PySem.PyData.keyHash p "decode"),(.str "decode" 2024),(.ref 204)⟩,⟨(PySem.PyData.keyHash p "_law_parts"),(.str "_law_parts" 2037),(.ref 211)⟩,⟨(PySem.PyData.keyHash p "_law_cost"),(.str "_law_cost" 2044),(.ref 218)⟩,⟨(PySem.PyData.keyHash p "_law_marked"),(.str "_law_marked" 2050),(.ref 223)⟩,⟨(PySem.PyData.keyHash p "_law_read"),(.str "_law_read" 2059),(.ref 230)⟩,⟨(PySem.PyData.keyHash p "_law_read_rows"),(.str "_law_read_rows" 2065),(.ref 235)⟩,⟨(PySem.PyData.keyHash p "_law_joined"),(.str "_law_joined" 2071),(.ref 240)⟩,⟨(PySem.PyData.keyHash p "_law_plain"),(.str "_law_plain" 2084),(.ref 247)⟩,⟨(PySem.PyData.keyHash p "_law_halves"),(.str "_law_halves" 2093),(.ref 254)⟩,⟨(PySem.PyData.keyHash p "law"),(.str "law" 2099),(.ref 259)⟩] 49),#[]⟩) :: ((nat_lit 15),⟨(.type "tuple"),(.none ),(.seq #[] 0),#[]⟩) :: ((nat_lit 17),⟨(.type "tuple"),(.none ),(.seq #[(.str "k" 190)] 0),#[]⟩) :: ((nat_lit 18),⟨(.type "tuple"),(.none ),(.seq #[] 0),#[]⟩) :: ((nat_lit 20),⟨(.type "code"),(.none ),(.fields #[(.str "_wall" 187),(.str "_wall" 188),(.str "/claim/cut.py" 189),(.int 1 0),(.int 1 0),(.int 0 0),(.int 0 0),(.int 3 0),(.ref 15),(.bool .true),(.int 181 0),(.ref 16),.none,(.ref 17),(.ref 18),(.ref 19),(.int 191 0),(.int 1 0),(.str "/claim/cut.py" 192)]),#[]⟩) :: ((nat_lit 21),⟨(.type "function"),(.none ),(.func ⟨"_wall","_wall",fa (bs 0),.stmts (fb (bs 0)),fs (bs 0),3,[],.none,.none,.none,(.str "__main__" 164),(.none ),(.ref 20),.none,0⟩),#[]⟩) :: ((nat_lit 29),⟨(.type "tuple"),(.none ),(.seq #[] 0),#[]⟩) :: ((nat_lit 31),⟨(.type "tuple"),(.none ),(.seq #[(.str "x" 208),(.str "what" 209),(.str "kind" 210)] 0),#[]⟩) :: ((nat_lit 32),⟨(.type "tuple"),(.none ),(.seq #[] 0),#[]⟩) :: ((nat_lit 34),⟨(.type "code"),(.none ),(.fields #[(.str "_plain_name" 205),(.str "_plain_name" 206),(.str "/claim/cut.py" 207),(.int 13 0),(.int 2 0),(.int 0 0),(.int 0 0),(.int 3 0),(.ref 29),(.bool .true),(.int 181 0),(.ref 30),.none,(.ref 31),(.ref 32),(.ref 33),(.int 211 0),(.int 13 0),(.str "/claim/cut.py" 212)]),#[]⟩) :: ((nat_lit 35),⟨(.type "function"),(.none ),(.func ⟨"_plain_name","_plain_name",fa (bs 3),.stmts (fb (bs 3)),fs (bs 3),3,[],.none,.none,.none,(.str "os" 203),(.none ),(.ref 34),.none,0⟩),#[]⟩) :: ((nat_lit 36),⟨(.type "tuple"),(.none ),(.seq #[(.type "type")] 0),#[]⟩) :: ((nat_lit 43),⟨(.type "tuple"),(.none ),(.seq #[] 0),#[]⟩) :: ((nat_lit 45),⟨(.type "tuple"),(.none ),(.seq #[(.str "cls" 231),(.str "subclass" 232)] 0),#[]⟩) :: ((nat_lit 46),⟨(.type "tuple"),(.none ),(.seq #[] 0),#[]⟩) :: ((nat_lit 48),⟨(.type "code"),(.none ),(.fields #[(.str "register" 228),(.str "ABCMeta.register" 229),(.str "/claim/cut.py" 230),(.int 21 0),(.int 2 0),(.int 0 0),(.int 0 0),(.int 3 0),(.ref 43),(.bool .true),(.int 181 0),(.ref 44),.none,(.ref 45),(.ref 46),(.ref 47),(.int 233 0),(.int 21 0),(.str "/claim/cut.py" 234)]),#[]⟩) :: ((nat_lit 49),⟨(.type "function"),(.none ),(.func ⟨"register","ABCMeta.register",fa (cs 5 0),.stmts (fb (cs 5 0)),fs (cs 5 0),3,[],.none,.none,.none,(.str "abc" 214),(.none ),(.ref 48),.none,0⟩),#[]⟩) :: ((nat_lit 50),⟨(.type "tuple"),(.none ),(.seq #[] 0),#[]⟩) :: ((nat_lit 51),⟨(.type "dict"),(.none ),(.dict #[⟨(PySem.PyData.keyHash p "__module__"),(.str "__module__" 223),(.str "abc" 214)⟩,⟨(PySem.PyData.keyHash p "__firstlineno__"),(.str "__firstlineno__" 227),(.int 19 226)⟩,⟨(PySem.PyData.keyHash p "register"),(.str "register" 235),(.ref 49)⟩,⟨(PySem.PyData.keyHash p "__static_attributes__"),(.str "__static_attributes__" 236),(.ref 50)⟩,⟨(PySem.PyData.keyHash p "__doc__"),(.str "__doc__" 237),.none⟩] 2),#[]⟩) :: ((nat_lit 52),⟨(.type "type"),(.none ),(.cls ⟨"ABCMeta",[(.type "type")],[(.ref 52),(.type "type"),(.type "object")],51,"ABCMeta",.true,[],[(.ref 85)],.false,(.none ),.false⟩),#[(some (.ref 36)),(.none ),(some (.str "ABCMeta" 216)),(some (.str "ABCMeta" 224)),(some (.builtin "type.__new__")),(some (.bool .true))]⟩) :: ((nat_lit 55),⟨(.type "tuple"),(.none ),(.seq #[(.ref 52)] 0),#[]⟩) :: ((nat_lit 62),⟨(.type "tuple"),(.none ),(.seq #[] 0),#[]⟩) :: ((nat_lit 64),⟨(.type "tuple"),(.none ),(.seq #[(.str "cls" 257),(.str "instance" 258),(.str "C" 259)] 0),#[]⟩) :: ((nat_lit 65),⟨(.type "tuple"),(.none ),(.seq #[] 0),#[]⟩) :: ((nat_lit 67),⟨(.type "code"),(.none ),(.fields #[(.str "__instancecheck__" 254),(.str "_ABCLike.__instancecheck__" 255),(.str "/claim/cut.py" 256),(.int 26 0),(.int 2 0),(.int 0 0),(.int 0 0),(.int 3 0),(.ref 62),(.bool .true),(.int 181 0),(.ref 63),.none,(.ref 64),(.ref 65),(.ref 66),(.int 260 0),(.int 26 0),(.str "/claim/cut.py" 261)]),#[]⟩) :: ((nat_lit 68),⟨(.type "function"),(.none ),(.func ⟨"__instancecheck__","_ABCLike.__instancecheck__",fa (cs 7 0),.stmts (fb (cs 7 0)),fs (cs 7 0),3,[],.none,.none,.none,(.str "collections.abc" 240),(.none ),(.ref 67),.none,0⟩),#[]⟩) :: ((nat_lit 69),⟨(.type "tuple"),(.none ),(.seq #[] 0),#[]⟩) :: ((nat_lit 71),⟨(.type "tuple"),(.none ),(.seq #[(.str "cls" 266),(.str "C" 267)] 0),#[]⟩) :: ((nat_lit 72),⟨(.type "tuple"),(.none ),(.seq #[] 0),#[]⟩) :: ((nat_lit 74),⟨(.type "code"),(.none ),(.fields #[(.str "__subclasscheck__" 263),(.str "_ABCLike.__subclasscheck__" 264),(.str "/claim/cut.py" 265),(.int 32 0),(.int 2 0),(.int 0 0),(.int 0 0),(.int 3 0),(.ref 69),(.bool .true),(.int 181 0),(.ref 70),.none,(.ref 71),(.ref 72),(.ref 73),(.int 268 0),(.int 32 0),(.str "/claim/cut.py" 269)]),#[]⟩) :: ((nat_lit 75),⟨(.type "function"),(.none ),(.func ⟨"__subclasscheck__","_ABCLike.__subclasscheck__",fa (cs 7 1),.stmts (fb (cs 7 1)),fs (cs 7 1),3,[],.none,.none,.none,(.str "collections.abc" 240),(.none ),(.ref 74),.none,0⟩),#[]⟩) :: ((nat_lit 76),⟨(.type "tuple"),(.none ),(.seq #[] 0),#[]⟩) :: ((nat_lit 78),⟨(.type "tuple"),(.none ),(.seq #[(.str "cls" 274),(.str "subclass" 275)] 0),#[]⟩) :: ((nat_lit 79),⟨(.type "tuple"),(.none ),(.seq #[] 0),#[]⟩) :: ((nat_lit 81),⟨(.type "code"),(.none ),(.fields #[(.str "register" 271),(.str "_ABCLike.register" 272),(.str "/claim/cut.py" 273),(.int 37 0),(.int 2 0),(.int 0 0),(.int 0 0),(.int 3 0),(.ref 76),(.bool .true),(.int 181 0),(.ref 77),.none,(.ref 78),(.ref 79),(.ref 80),(.int 276 0),(.int 37 0),(.str "/claim/cut.py" 277)]),#[]⟩) :: ((nat_lit 82),⟨(.type "function"),(.none ),(.func ⟨"register","_ABCLike.register",fa (cs 7 2),.stmts (fb (cs 7 2)),fs (cs 7 2),3,[],.none,.none,.none,(.str "collections.abc" 240),(.none ),(.ref 81),.none,0⟩),#[]⟩) :: ((nat_lit 83),⟨(.type "tuple"),(.none ),(.seq #[] 0),#[]⟩) :: ((nat_lit 84),⟨(.type "dict"),(.none ),(.dict #[⟨(PySem.PyData.keyHash p "__module__"),(.str "__module__" 249),(.str "collections.abc" 240)⟩,⟨(PySem.PyData.keyHash p "__firstlineno__"),(.str "__firstlineno__" 253),(.int 24 252)⟩,⟨(PySem.PyData.keyHash p "__instancecheck__"),(.str "__instancecheck__" 262),(.ref 68)⟩,⟨(PySem.PyData.keyHash p "__subclasscheck__"),(.str "__subclasscheck__" 270),(.ref 75)⟩,⟨(PySem.PyData.keyHash p "register"),(.str "register" 278),(.ref 82)⟩,⟨(PySem.PyData.keyHash p "__static_attributes__"),(.str "__static_attributes__" 279),(.ref 83)⟩,⟨(PySem.PyData.keyHash p "__doc__"),(.str "__doc__" 280),.none⟩] 2),#[]⟩) :: ((nat_lit 85),⟨(.type "type"),(.none ),(.cls ⟨"_ABCLike",[(.ref 52)],[(.ref 85),(.ref 52),(.type "type"),(.type "object")],84,"_ABCLike",.true,[],[],.false,(.none ),.false⟩),#[(some (.ref 55)),(.none ),(some (.str "_ABCLike" 242)),(some (.str "_ABCLike" 250)),(some (.builtin "type.__new__")),(some (.bool .true))]⟩) :: ((nat_lit 88),⟨(.type "tuple"),(.none ),(.seq #[] 0),#[]⟩) :: ((nat_lit 90),⟨(.type "tuple"),(.none ),(.seq #[(.str "C" 286)] 0),#[]⟩) :: ((nat_lit 91),⟨(.type "tuple"),(.none ),(.seq #[] 0),#[]⟩) :: ((nat_lit 93),⟨(.type "code"),(.none ),(.fields #[(.str "_abc_plain_meta" 283),(.str "_abc_plain_meta" 284),(.str "/claim/cut.py" 285),(.int 39 0),(.int 1 0),(.int 0 0),(.int 0 0),(.int 3 0),(.ref 88),(.bool .true),(.int 181 0),(.ref 89),.none,(.ref 90),(.ref 91),(.ref 92),(.int 287 0),(.int 39 0),(.str "/claim/cut.py" 288)]),#[]⟩) :: ((nat_lit 94),⟨(.type "function"),(.none ),(.func ⟨"_abc_plain_meta","_abc_plain_meta",fa (bs 8),.stmts (fb (bs 8)),fs (bs 8),3,[],.none,.none,.none,(.str "collections.abc" 240),(.none ),(.ref 93),.none,0⟩),#[]⟩) :: ((nat_lit 95),⟨(.type "tuple"),(.none ),(.seq #[] 0),#[]⟩) :: ((nat_lit 97),⟨(.type "tuple"),(.none ),(.seq #[(.str "path" 295),(.str "kind" 296),(.str "hook" 297),(.str "given" 298)] 0),#[]⟩) :: ((nat_lit 98),⟨(.type "tuple"),(.none ),(.seq #[] 0),#[]⟩) :: ((nat_lit 100),⟨(.type "code"),(.none ),(.fields #[(.str "fspath" 292),(.str "fspath" 293),(.str "/claim/cut.py" 294),(.int 43 0),(.int 1 0),(.int 0 0),(.int 0 0),(.int 3 0),(.ref 95),(.bool .true),(.int 181 0),(.ref 96),.none,(.ref 97),(.ref 98),(.ref 99),(.int 299 0),(.int 43 0),(.str "/claim/cut.py" 300)]),#[]⟩) :: ((nat_lit 101),⟨(.type "function"),(.none ),(.func ⟨"fspath","fspath",fa (bs 10),.stmts (fb (bs 10)),fs (bs 10),3,[],.none,.none,.none,(.str "os" 290),(.none ),(.ref 100),.none,0⟩),#[]⟩) :: ((nat_lit 102),⟨(.type "tuple"),(.none ),(.seq #[] 0),#[]⟩) :: ((nat_lit 104),⟨(.type "tuple"),(.none ),(.seq #[(.str "p" 307),(.str "sep" 308),(.str "altsep" 309),(.str "extsep" 310),(.str "sepIndex" 311),(.str "altsepIndex" 312),(.str "dotIndex" 313),(.str "filenameIndex" 314)] 0),#[]⟩) :: ((nat_lit 105),⟨(.type "tuple"),(.none ),(.seq #[] 0),#[]⟩) :: ((nat_lit 107),⟨(.type "code"),(.none ),(.fields #[(.str "_splitext" 304),(.str "_splitext" 305),(.str "/claim/cut.py" 306),(.int 60 0),(.int 4 0),(.int 0 0),(.int 0 0),(.int 3 0),(.ref 102),(.bool .true),(.int 181 0),(.ref 103),.none,(.ref 104),(.ref 105),(.ref 106),(.int 315 0),(.int 60 0),(.str "/claim/cut.py" 316)]),#[]⟩) :: ((nat_lit 108),⟨(.type "function"),(.none ),(.func ⟨"_splitext","_splitext",fa (bs 12),.stmts (fb (bs 12)),fs (bs 12),3,[],.none,.none,(.str "Split the extension from a pathname.\n\nExtension is everything from the last dot to the end, ignoring\nleading dots.  Returns \"(root, ext)\"; ext may be empty." 317),(.str "cpy313.genericpath" 302),(.none ),(.ref 107),.none,0⟩),#[]⟩) :: ((nat_lit 109),⟨(.type "tuple"),(.none ),(.seq #[] 0),#[]⟩) :: ((nat_lit 111),⟨(.type "tuple"),(.none ),(.seq #[(.str "funcname" 322),(.str "args" 323),(.str "hasstr" 324),(.str "hasbytes" 325),(.str "s" 326)] 0),#[]⟩) :: ((nat_lit 112),⟨(.type "tuple"),(.none ),(.seq #[] 0),#[]⟩) :: ((nat_lit 114),⟨(.type "code"),(.none ),(.fields #[(.str "_check_arg_types" 319),(.str "_check_arg_types" 320),(.str "/claim/cut.py" 321),(.int 77 0),(.int 1 0),(.int 0 0),(.int 0 0),(.int 7 0),(.ref 109),(.bool .true),(.int 181 0),(.ref 110),.none,(.ref 111),(.ref 112),(.ref 113),(.int 327 0),(.int 77 0),(.str "/claim/cut.py" 328)]),#[]⟩) :: ((nat_lit 115),⟨(.type "function"),(.none ),(.func ⟨"_check_arg_types","_check_arg_types",fa (bs 13),.stmts (fb (bs 13)),fs (bs 13),3,[],.none,.none,.none,(.str "cpy313.genericpath" 302),(.none ),(.ref 114),.none,0⟩),#[]⟩) :: ((nat_lit 116),⟨(.type "tuple"),(.none ),(.seq #[] 0),#[]⟩) :: ((nat_lit 118),⟨(.type "tuple"),(.none ),(.seq #[(.str "path" 335)] 0),#[]⟩) :: ((nat_lit 119),⟨(.type "tuple"),(.none ),(.seq #[] 0),#[]⟩) :: ((nat_lit 121),⟨(.type "code"),(.none ),(.fields #[(.str "_get_sep" 332),(.str "_get_sep" 333),(.str "/claim/cut.py" 334),(.int 89 0),(.int 1 0),(.int 0 0),(.int 0 0),(.int 3 0),(.ref 116),(.bool .true),(.int 181 0),(.ref 117),.none,(.ref 118),(.ref 119),(.ref 120),(.int 336 0),(.int 89 0),(.str "/claim/cut.py" 337)]),#[]⟩) :: ((nat_lit 122),⟨(.type "function"),(.none ),(.func ⟨"_get_sep","_get_sep",fa (bs 15),.stmts (fb (bs 15)),fs (bs 15),3,[],.none,.none,.none,(.str "cpy313.posixpath" 330),(.none ),(.ref 121),.none,0⟩),#[]⟩) :: ((nat_lit 123),⟨(.type "tuple"),(.none ),(.seq #[] 0),#[]⟩) :: ((nat_lit 125),⟨(.type "tuple"),(.none ),(.seq #[(.str "a" 342),(.str "p" 343),(.str "sep" 344),(.str "path" 345),(.str "b" 346)] 0),#[]⟩) :: ((nat_lit 126),⟨(.type "tuple"),(.none ),(.seq #[] 0),#[]⟩) :: ((nat_lit 128),⟨(.type "code"),(.none ),(.fields #[(.str "join" 339),(.str "join" 340),(.str "/claim/cut.py" 341),(.int 94 0),(.int 1 0),(.int 0 0),(.int 0 0),(.int 7 0),(.ref 123),(.bool .true),(.int 181 0),(.ref 124),.none,(.ref 125),(.ref 126),(.ref 127),(.int 347 0),(.int 94 0),(.str "/claim/cut.py" 348)]),#[]⟩) :: ((nat_lit 129),⟨(.type "function"),(.none ),(.func ⟨"join","join",fa (bs 16),.stmts (fb (bs 16)),fs (bs 16),3,[],.none,.none,(.str "Join two or more pathname components, inserting '/' as needed.\nIf any component is an absolute path, all previous path components\nwill be discarded.  An empty last part will result in a path that\nends with a separator." 349),(.str "cpy313.posixpath" 330),(.none ),(.ref 128),.none,0⟩),#[]⟩) :: ((nat_lit 130),⟨(.type "tuple"),(.none ),(.seq #[] 0),#[]⟩) :: ((nat_lit 132),⟨(.type "tuple"),(.none ),(.seq #[(.str "p" 354),(.str "sep" 355),(.str "extsep" 356)] 0),#[]⟩) :: ((nat_lit 133),⟨(.type "tuple"),(.none ),(.seq #[] 0),#[]⟩) :: ((nat_lit 135),⟨(.type "code"),(.none ),(.fields #[(.str "splitext" 351),(.str "splitext" 352),(.str "/claim/cut.py" 353),(.int 115 0),(.int 1 0),(.int 0 0),(.int 0 0),(.int 3 0),(.ref 130),(.bool .true),(.int 181 0),(.ref 131),.none,(.ref 132),(.ref 133),(.ref 134),(.int 357 0),(.int 115 0),(.str "/claim/cut.py" 358)]),#[]⟩) :: ((nat_lit 136),⟨(.type "function"),(.none ),(.func ⟨"splitext","splitext",fa (bs 17),.stmts (fb (bs 17)),fs (bs 17),3,[],.none,.none,(.str "Split the extension from a pathname.\n\nExtension is everything from the last dot to the end, ignoring\nleading dots.  Returns \"(root, ext)\"; ext may be empty." 317),(.str "cpy313.posixpath" 330),(.none ),(.ref 135),.none,0⟩),#[]⟩) :: ((nat_lit 140),⟨(.type "tuple"),(.none ),(.seq #[] 0),#[]⟩) :: ((nat_lit 142),⟨(.type "tuple"),(.none ),(.seq #[(.str "p" 398),(.str "sep" 399),(.str "empty" 400)] 0),#[]⟩) :: ((nat_lit 143),⟨(.type "tuple"),(.none ),(.seq #[] 0),#[]⟩) :: ((nat_lit 145),⟨(.type "code"),(.none ),(.fields #[(.str "splitroot" 395),(.str "splitroot" 396),(.str "/claim/cut.py" 397),(.int 125 0),(.int 1 0),(.int 0 0),(.int 0 0),(.int 3 0),(.ref 140),(.bool .true),(.int 181 0),(.ref 141),.none,(.ref 142),(.ref 143),(.ref 144),(.int 401 0),(.int 125 0),(.str "/claim/cut.py" 402)]),#[]⟩) :: ((nat_lit 146),⟨(.type "function"),(.none ),(.func ⟨"splitroot","splitroot",fa (bs 19),.stmts (fb (bs 19)),fs (bs 19),3,[],.none,.none,(.str "Split a pathname into drive, root and tail.\n\nThe tail contains anything after the root." 403),(.str "cpy313.posixpath" 330),(.none ),(.ref 145),.none,0⟩),#[]⟩) :: ((nat_lit 147),⟨(.type "tuple"),(.none ),(.seq #[] 0),#[]⟩) :: ((nat_lit 149),⟨(.type "tuple"),(.none ),(.seq #[(.str "path" 408),(.str "sep" 409),(.str "dot" 410),(.str "dotdot" 411),(.str "_" 412),(.str "initial_slashes" 413),(.str "comps" 414),(.str "new_comps" 415),(.str "comp" 416)] 0),#[]⟩) :: ((nat_lit 150),⟨(.type "tuple"),(.none ),(.seq #[] 0),#[]⟩) :: ((nat_lit 152),⟨(.type "code"),(.none ),(.fields #[(.str "normpath" 405),(.str "normpath" 406),(.str "/claim/cut.py" 407),(.int 142 0),(.int 1 0),(.int 0 0),(.int 0 0),(.int 3 0),(.ref 147),(.bool .true),(.int 181 0),(.ref 148),.none,(.ref 149),(.ref 150),(.ref 151),(.int 417 0),(.int 142 0),(.str "/claim/cut.py" 418)]),#[]⟩) :: ((nat_lit 153),⟨(.type "function"),(.none ),(.func ⟨"normpath","normpath",fa (bs 20),.stmts (fb (bs 20)),fs (bs 20),3,[],.none,.none,(.str "Normalize path, eliminating double slashes, etc." 419),(.str "cpy313.posixpath" 330),(.none ),(.ref 152),.none,0⟩),#[]⟩) :: ((nat_lit 156),⟨(.type "list"),(.none ),(.seq (List.toArray ((.str "=00" 431) :: (.str "=01" 435) :: (.str "=02" 439) :: (.str "=03" 443) :: (.str "=04" 447) :: (.str "=05" 451) :: (.str "=06" 455) :: (.str "=07" 459) :: (.str "=08" 463) :: (.str "=09" 467) :: (.str "=0A" 471) :: (.str "=0B" 475) :: (.str "=0C" 479) :: (.str "=0D" 483) :: (.str "=0E" 487) :: (.str "=0F" 491) :: (.str "=10" 495) :: (.str "=11" 499) :: (.str "=12" 503) :: (.str "=13" 507) :: (.str "=14" 511) :: (.str "=15" 515) :: (.str "=16" 519) :: (.str "=17" 523) :: (.str "=18" 527) :: (.str "=19" 531) :: (.str "=1A" 535) :: (.str "=1B" 539) :: (.str "=1C" 543) :: (.str "=1D" 547) :: (.str "=1E" 551) :: (.str "=1F" 555) :: (.str "=20" 559) :: (.str "=21" 563) :: (.str "=22" 567) :: (.str "=23" 571) :: (.str "=24" 575) :: (.str "=25" 579) :: (.str "=26" 583) :: (.str "=27" 587) :: (.str "=28" 591) :: (.str "=29" 595) :: (.str "=2A" 599) :: (.str "=2B" 603) :: (.str "=2C" 607) :: (.str "=2D" 611) :: (.str "=2E" 615) :: (.str "=2F" 619) :: (.str "=30" 623) :: (.str "=31" 627) :: (.str "=32" 631) :: (.str "=33" 635) :: (.str "=34" 639) :: (.str "=35" 643) :: (.str "=36" 647) :: (.str "=37" 651) :: (.str "=38" 655) :: (.str "=39" 659) :: (.str "=3A" 663) :: (.str "=3B" 667) :: (.str "=3C" 671) :: (.str "=3D" 675) :: (.str "=3E" 679) :: (.str "=3F" 683) :: (.str "=40" 687) :: (.str "=41" 691) :: (.str "=42" 695) :: (.str "=43" 699) :: (.str "=44" 703) :: (.str "=45" 707) :: (.str "=46" 711) :: (.str "=47" 715) :: (.str "=48" 719) :: (.str "=49" 723) :: (.str "=4A" 727) :: (.str "=4B" 731) :: (.str "=4C" 735) :: (.str "=4D" 739) :: (.str "=4E" 743) :: (.str "=4F" 747) :: (.str "=50" 751) :: (.str "=51" 755) :: (.str "=52" 759) :: (.str "=53" 763) :: (.str "=54" 767) :: (.str "=55" 771) :: (.str "=56" 775) :: (.str "=57" 779) :: (.str "=58" 783) :: (.str "=59" 787) :: (.str "=5A" 791) :: (.str "=5B" 795) :: (.str "=5C" 799) :: (.str "=5D" 803) :: (.str "=5E" 807) :: (.str "=5F" 811) :: (.str "=60" 815) :: (.str "=61" 819) :: (.str "=62" 823) :: (.str "=63" 827) :: (.str "=64" 831) :: (.str "=65" 835) :: (.str "=66" 839) :: (.str "=67" 843) :: (.str "=68" 847) :: (.str "=69" 851) :: (.str "=6A" 855) :: (.str "=6B" 859) :: (.str "=6C" 863) :: (.str "=6D" 867) :: (.str "=6E" 871) :: (.str "=6F" 875) :: (.str "=70" 879) :: (.str "=71" 883) :: (.str "=72" 887) :: (.str "=73" 891) :: (.str "=74" 895) :: (.str "=75" 899) :: (.str "=76" 903) :: (.str "=77" 907) :: (.str "=78" 911) :: (.str "=79" 915) :: (.str "=7A" 919) :: (.str "=7B" 923) :: (.str "=7C" 927) :: (.str "=7D" 931) :: (.str "=7E" 935) :: (.str "=7F" 939) :: (.str "=80" 943) :: (.str "=81" 947) :: (.str "=82" 951) :: (.str "=83" 955) :: (.str "=84" 959) :: (.str "=85" 963) :: (.str "=86" 967) :: (.str "=87" 971) :: (.str "=88" 975) :: (.str "=89" 979) :: (.str "=8A" 983) :: (.str "=8B" 987) :: (.str "=8C" 991) :: (.str "=8D" 995) :: (.str "=8E" 999) :: (.str "=8F" 1003) :: (.str "=90" 1007) :: (.str "=91" 1011) :: (.str "=92" 1015) :: (.str "=93" 1019) :: (.str "=94" 1023) :: (.str "=95" 1027) :: (.str "=96" 1031) :: (.str "=97" 1035) :: (.str "=98" 1039) :: (.str "=99" 1043) :: (.str "=9A" 1047) :: (.str "=9B" 1051) :: (.str "=9C" 1055) :: (.str "=9D" 1059) :: (.str "=9E" 1063) :: (.str "=9F" 1067) :: (.str "=A0" 1071) :: (.str "=A1" 1075) :: (.str "=A2" 1079) :: (.str "=A3" 1083) :: (.str "=A4" 1087) :: (.str "=A5" 1091) :: (.str "=A6" 1095) :: (.str "=A7" 1099) :: (.str "=A8" 1103) :: (.str "=A9" 1107) :: (.str "=AA" 1111) :: (.str "=AB" 1115) :: (.str "=AC" 1119) :: (.str "=AD" 1123) :: (.str "=AE" 1127) :: (.str "=AF" 1131) :: (.str "=B0" 1135) :: (.str "=B1" 1139) :: (.str "=B2" 1143) :: (.str "=B3" 1147) :: (.str "=B4" 1151) :: (.str "=B5" 1155) :: (.str "=B6" 1159) :: (.str "=B7" 1163) :: (.str "=B8" 1167) :: (.str "=B9" 1171) :: (.str "=BA" 1175) :: (.str "=BB" 1179) :: (.str "=BC" 1183) :: (.str "=BD" 1187) :: (.str "=BE" 1191) :: (.str "=BF" 1195) :: (.str "=C0" 1199) :: (.str "=C1" 1203) :: (.str "=C2" 1207) :: (.str "=C3" 1211) :: (.str "=C4" 1215) :: (.str "=C5" 1219) :: (.str "=C6" 1223) :: (.str "=C7" 1227) :: (.str "=C8" 1231) :: (.str "=C9" 1235) :: (.str "=CA" 1239) :: (.str "=CB" 1243) :: (.str "=CC" 1247) :: (.str "=CD" 1251) :: (.str "=CE" 1255) :: (.str "=CF" 1259) :: (.str "=D0" 1263) :: (.str "=D1" 1267) :: (.str "=D2" 1271) :: (.str "=D3" 1275) :: (.str "=D4" 1279) :: (.str "=D5" 1283) :: (.str "=D6" 1287) :: (.str "=D7" 1291) :: (.str "=D8" 1295) :: (.str "=D9" 1299) :: (.str "=DA" 1303) :: (.str "=DB" 1307) :: (.str "=DC" 1311) :: (.str "=DD" 1315) :: (.str "=DE" 1319) :: (.str "=DF" 1323) :: (.str "=E0" 1327) :: (.str "=E1" 1331) :: (.str "=E2" 1335) :: (.str "=E3" 1339) :: (.str "=E4" 1343) :: (.str "=E5" 1347) :: (.str "=E6" 1351) :: (.str "=E7" 1355) :: (.str "=E8" 1359) :: (.str "=E9" 1363) :: (.str "=EA" 1367) :: (.str "=EB" 1371) :: (.str "=EC" 1375) :: (.str "=ED" 1379) :: (.str "=EE" 1383) :: (.str "=EF" 1387) :: (.str "=F0" 1391) :: (.str "=F1" 1395) :: (.str "=F2" 1399) :: (.str "=F3" 1403) :: (.str "=F4" 1407) :: (.str "=F5" 1411) :: (.str "=F6" 1415) :: (.str "=F7" 1419) :: (.str "=F8" 1423) :: (.str "=F9" 1427) :: (.str "=FA" 1431) :: (.str "=FB" 1435) :: (.str "=FC" 1439) :: (.str "=FD" 1443) :: (.str "=FE" 1447) :: (.str "=FF" 1451) :: [])) 256),#[]⟩) :: ((nat_lit 170),⟨(.type "tuple"),(.none ),(.seq #[] 0),#[]⟩) :: ((nat_lit 172),⟨(.type "tuple"),(.none ),(.seq #[(.str "s" 1970)] 0),#[]⟩) :: ((nat_lit 173),⟨(.type "tuple"),(.none ),(.seq #[] 0),#[]⟩) :: ((nat_lit 175),⟨(.type "code"),(.none ),(.fields #[(.str "unquote" 1967),(.str "unquote" 1968),(.str "/claim/cut.py" 1969),(.int 184 0),(.int 1 0),(.int 0 0),(.int 0 0),(.int 3 0),(.ref 170),(.bool .true),(.int 181 0),(.ref 171),.none,(.ref 172),(.ref 173),(.ref 174),(.int 1971 0),(.int 184 0),(.str "/claim/cut.py" 1972)]),#[]⟩) :: ((nat_lit 176),⟨(.type "function"),(.none ),(.func ⟨"unquote","unquote",fa (bs 35),.stmts (fb (bs 35)),fs (bs 35),3,[],.none,.none,(.str "Turn a string in the form =AB to the ASCII character with value 0xab" 1973),(.str "cpy313.email.quoprimime" 1468),(.none ),(.ref 175),.none,0⟩),#[]⟩) :: ((nat_lit 177),⟨(.type "tuple"),(.none ),(.seq #[] 0),#[]⟩) :: ((nat_lit 179),⟨(.type "tuple"),(.none ),(.seq #[(.str "c" 1978)] 0),#[]⟩) :: ((nat_lit 180),⟨(.type "tuple"),(.none ),(.seq #[] 0),#[]⟩) :: ((nat_lit 182),⟨(.type "code"),(.none ),(.fields #[(.str "quote" 1975),(.str "quote" 1976),(.str "/claim/cut.py" 1977),(.int 187 0),(.int 1 0),(.int 0 0),(.int 0 0),(.int 3 0),(.ref 177),(.bool .true),(.int 181 0),(.ref 178),.none,(.ref 179),(.ref 180),(.ref 181),(.int 1979 0),(.int 187 0),(.str "/claim/cut.py" 1980)]),#[]⟩) :: ((nat_lit 183),⟨(.type "function"),(.none ),(.func ⟨"quote","quote",fa (bs 36),.stmts (fb (bs 36)),fs (bs 36),3,[],.none,.none,.none,(.str "cpy313.email.quoprimime" 1468),(.none ),(.ref 182),.none,0⟩),#[]⟩) :: ((nat_lit 185),⟨(.type "list"),(.none ),(.seq (List.toArray ((.str "=00" 431) :: (.str "=01" 435) :: (.str "=02" 439) :: (.str "=03" 443) :: (.str "=04" 447) :: (.str "=05" 451) :: (.str "=06" 455) :: (.str "=07" 459) :: (.str "=08" 463) :: (.str "\t" 1966) :: (.str "\n" 1989) :: (.str "=0B" 475) :: (.str "=0C" 479) :: (.str "\x0d" 1986) :: (.str "=0E" 487) :: (.str "=0F" 491) :: (.str "=10" 495) :: (.str "=11" 499) :: (.str "=12" 503) :: (.str "=13" 507) :: (.str "=14" 511) :: (.str "=15" 515) :: (.str "=16" 519) :: (.str "=17" 523) :: (.str "=18" 527) :: (.str "=19" 531) :: (.str "=1A" 535) :: (.str "=1B" 539) :: (.str "=1C" 543) :: (.str "=1D" 547) :: (.str "=1E" 551) :: (.str "=1F" 555) :: (.str " " 1684) :: (.str "!" 1687) :: (.str "\"" 1690) :: (.str "#" 1693) :: (.str "$" 1696) :: (.str "%" 1699) :: (.str "&" 1702) :: (.str "'" 1705) :: (.str "(" 1708) :: (.str ")" 1711) :: (.str "*" 1714) :: (.str "+" 1717) :: (.str "," 1720) :: (.str "-" 1723) :: (.str "." 1726) :: (.str "/" 1729) :: (.str "0" 1732) :: (.str "1" 1735) :: (.str "2" 1738) :: (.str "3" 1741) :: (.str "4" 1744) :: (.str "5" 1747) :: (.str "6" 1750) :: (.str "7" 1753) :: (.str "8" 1756) :: (.str "9" 1759) :: (.str ":" 1762) :: (.str ";" 1765) :: (.str "<" 1768) :: (.str "=3D" 675) :: (.str ">" 1771) :: (.str "?" 1774) :: (.str "@" 1777) :: (.str "A" 1780) :: (.str "B" 1783) :: (.str "C" 1786) :: (.str "D" 1789) :: (.str "E" 1792) :: (.str "F" 1795) :: (.str "G" 1798) :: (.str "H" 1801) :: (.str "I" 1804) :: (.str "J" 1807) :: (.str "K" 1810) :: (.str "L" 1813) :: (.str "M" 1816) :: (.str "N" 1819) :: (.str "O" 1822) :: (.str "P" 1825) :: (.str "Q" 1828) :: (.str "R" 1831) :: (.str "S" 1834) :: (.str "T" 1837) :: (.str "U" 1840) :: (.str "V" 1843) :: (.str "W" 1846) :: (.str "X" 1849) :: (.str "Y" 1852) :: (.str "Z" 1855) :: (.str "[" 1858) :: (.str "\\" 1861) :: (.str "]" 1864) :: (.str "^" 1867) :: (.str "_" 1870) :: (.str "`" 1873) :: (.str "a" 1876) :: (.str "b" 1879) :: (.str "c" 1882) :: (.str "d" 1885) :: (.str "e" 1888) :: (.str "f" 1891) :: (.str "g" 1894) :: (.str "h" 1897) :: (.str "i" 1900) :: (.str "j" 1903) :: (.str "k" 1906) :: (.str "l" 1909) :: (.str "m" 1912) :: (.str "n" 1915) :: (.str "o" 1918) :: (.str "p" 1921) :: (.str "q" 1924) :: (.str "r" 1927) :: (.str "s" 1930) :: (.str "t" 1933) :: (.str "u" 1936) :: (.str "v" 1939) :: (.str "w" 1942) :: (.str "x" 1945) :: (.str "y" 1948) :: (.str "z" 1951) :: (.str "{" 1954) :: (.str "|" 1957) :: (.str "}" 1960) :: (.str "~" 1963) :: (.str "=7F" 939) :: (.str "=80" 943) :: (.str "=81" 947) :: (.str "=82" 951) :: (.str "=83" 955) :: (.str "=84" 959) :: (.str "=85" 963) :: (.str "=86" 967) :: (.str "=87" 971) :: (.str "=88" 975) :: (.str "=89" 979) :: (.str "=8A" 983) :: (.str "=8B" 987) :: (.str "=8C" 991) :: (.str "=8D" 995) :: (.str "=8E" 999) :: (.str "=8F" 1003) :: (.str "=90" 1007) :: (.str "=91" 1011) :: (.str "=92" 1015) :: (.str "=93" 1019) :: (.str "=94" 1023) :: (.str "=95" 1027) :: (.str "=96" 1031) :: (.str "=97" 1035) :: (.str "=98" 1039) :: (.str "=99" 1043) :: (.str "=9A" 1047) :: (.str "=9B" 1051) :: (.str "=9C" 1055) :: (.str "=9D" 1059) :: (.str "=9E" 1063) :: (.str "=9F" 1067) :: (.str "=A0" 1071) :: (.str "=A1" 1075) :: (.str "=A2" 1079) :: (.str "=A3" 1083) :: (.str "=A4" 1087) :: (.str "=A5" 1091) :: (.str "=A6" 1095) :: (.str "=A7" 1099) :: (.str "=A8" 1103) :: (.str "=A9" 1107) :: (.str "=AA" 1111) :: (.str "=AB" 1115) :: (.str "=AC" 1119) :: (.str "=AD" 1123) :: (.str "=AE" 1127) :: (.str "=AF" 1131) :: (.str "=B0" 1135) :: (.str "=B1" 1139) :: (.str "=B2" 1143) :: (.str "=B3" 1147) :: (.str "=B4" 1151) :: (.str "=B5" 1155) :: (.str "=B6" 1159) :: (.str "=B7" 1163) :: (.str "=B8" 1167) :: (.str "=B9" 1171) :: (.str "=BA" 1175) :: (.str "=BB" 1179) :: (.str "=BC" 1183) :: (.str "=BD" 1187) :: (.str "=BE" 1191) :: (.str "=BF" 1195) :: (.str "=C0" 1199) :: (.str "=C1" 1203) :: (.str "=C2" 1207) :: (.str "=C3" 1211) :: (.str "=C4" 1215) :: (.str "=C5" 1219) :: (.str "=C6" 1223) :: (.str "=C7" 1227) :: (.str "=C8" 1231) :: (.str "=C9" 1235) :: (.str "=CA" 1239) :: (.str "=CB" 1243) :: (.str "=CC" 1247) :: (.str "=CD" 1251) :: (.str "=CE" 1255) :: (.str "=CF" 1259) :: (.str "=D0" 1263) :: (.str "=D1" 1267) :: (.str "=D2" 1271) :: (.str "=D3" 1275) :: (.str "=D4" 1279) :: (.str "=D5" 1283) :: (.str "=D6" 1287) :: (.str "=D7" 1291) :: (.str "=D8" 1295) :: (.str "=D9" 1299) :: (.str "=DA" 1303) :: (.str "=DB" 1307) :: (.str "=DC" 1311) :: (.str "=DD" 1315) :: (.str "=DE" 1319) :: (.str "=DF" 1323) :: (.str "=E0" 1327) :: (.str "=E1" 1331) :: (.str "=E2" 1335) :: (.str "=E3" 1339) :: (.str "=E4" 1343) :: (.str "=E5" 1347) :: (.str "=E6" 1351) :: (.str "=E7" 1355) :: (.str "=E8" 1359) :: (.str "=E9" 1363) :: (.str "=EA" 1367) :: (.str "=EB" 1371) :: (.str "=EC" 1375) :: (.str "=ED" 1379) :: (.str "=EE" 1383) :: (.str "=EF" 1387) :: (.str "=F0" 1391) :: (.str "=F1" 1395) :: (.str "=F2" 1399) :: (.str "=F3" 1403) :: (.str "=F4" 1407) :: (.str "=F5" 1411) :: (.str "=F6" 1415) :: (.str "=F7" 1419) :: (.str "=F8" 1423) :: (.str "=F9" 1427) :: (.str "=FA" 1431) :: (.str "=FB" 1435) :: (.str "=FC" 1439) :: (.str "=FD" 1443) :: (.str "=FE" 1447) :: (.str "=FF" 1451) :: [])) 0),#[]⟩) :: ((nat_lit 189),⟨(.type "tuple"),(.none ),(.seq #[(.int 76 1990),(.str "\n" 423)] 0),#[]⟩) :: ((nat_lit 190),⟨(.type "tuple"),(.none ),(.seq #[] 0),#[]⟩) :: ((nat_lit 192),⟨(.type "tuple"),(.none ),(.seq #[(.str "body" 1994),(.str "maxlinelen" 1995),(.str "eol" 1996),(.str "soft_break" 1997),(.str "maxlinelen1" 1998),(.str "encoded_body" 1999),(.str "append" 2000),(.str "line" 2001),(.str "start" 2002),(.str "laststart" 2003),(.str "stop" 2004),(.str "room" 2005),(.str "q" 2006)] 0),#[]⟩) :: ((nat_lit 193),⟨(.type "tuple"),(.none ),(.seq #[] 0),#[]⟩) :: ((nat_lit 195),⟨(.type "code"),(.none ),(.fields #[(.str "body_encode" 1991),(.str "body_encode" 1992),(.str "/claim/cut.py" 1993),(.int 193 0),(.int 3 0),(.int 0 0),(.int 0 0),(.int 3 0),(.ref 190),(.bool .true),(.int 181 0),(.ref 191),.none,(.ref 192),(.ref 193),(.ref 194),(.int 2007 0),(.int 193 0),(.str "/claim/cut.py" 2008)]),#[]⟩) :: ((nat_lit 196),⟨(.type "function"),(.none ),(.func ⟨"body_encode","body_encode",fa (bs 40),.stmts (fb (bs 40)),fs (bs 40),3,[],(.ref 189),.none,(.str "Encode with quoted-printable, wrapping at maxlinelen characters.\n\nEach line of encoded text will end with eol, which defaults to \"\\n\".  Set\nthis to \"\\r\\n\" if you will be using the result of this function directly\nin an email.\n\nEach line will be wrapped at, at most, maxlinelen characters before the\neol string (maxlinelen defaults to 76 characters, the maximum value\npermitted by RFC 2045).  Long lines will have the 'soft line break'\nquoted-printable character \"=\" appended to them, so the decoded text will\nbe identical to the original text.\n\nThe minimum maxlinelen is 4 to have room for a quoted character (\"=XX\")\nfollowed by a soft line break.  Smaller values will generate a\nValueError.\n\n" 2009),(.str "cpy313.email.quoprimime" 1468),(.none ),(.ref 195),.none,0⟩),#[]⟩) :: ((nat_lit 197),⟨(.type "tuple"),(.none ),(.seq #[(.str "\n" 423)] 0),#[]⟩) :: ((nat_lit 198),⟨(.type "tuple"),(.none ),(.seq #[] 0),#[]⟩) :: ((nat_lit 200),⟨(.type "tuple"),(.none ),(.seq #[(.str "encoded" 2014),(.str "eol" 2015),(.str "decoded" 2016),(.str "line" 2017),(.str "i" 2018),(.str "n" 2019),(.str "c" 2020)] 0),#[]⟩) :: ((nat_lit 201),⟨(.type "tuple"),(.none ),(.seq #[] 0),#[]⟩) :: ((nat_lit 203),⟨(.type "code"),(.none ),(.fields #[(.str "decode" 2011),(.str "decode" 2012),(.str "/claim/cut.py" 2013),(.int 248 0),(.int 2 0),(.int 0 0),(.int 0 0),(.int 3 0),(.ref 198),(.bool .true),(.int 181 0),(.ref 199),.none,(.ref 200),(.ref 201),(.ref 202),(.int 2021 0),(.int 248 0),(.str "/claim/cut.py" 2022)]),#[]⟩) :: ((nat_lit 204),⟨(.type "function"),(.none ),(.func ⟨"decode","decode",fa (bs 41),.stmts (fb (bs 41)),fs (bs 41),3,[],(.ref 197),.none,(.str "Decode a quoted-printable string.\n\nLines are separated with eol, which defaults to \\n.\n" 2023),(.str "cpy313.email.quoprimime" 1468),(.none ),(.ref 203),.none,0⟩),#[]⟩) :: ((nat_lit 205),⟨(.type "tuple"),(.none ),(.seq #[] 0),#[]⟩) :: ((nat_lit 207),⟨(.type "tuple"),(.none ),(.seq #[(.str "numbers" 2030),(.str "parts" 2031),(.str "x" 2032),(.str "kind" 2033),(.str "octet" 2034)] 0),#[]⟩) :: ((nat_lit 208),⟨(.type "tuple"),(.none ),(.seq #[] 0),#[]⟩) :: ((nat_lit 210),⟨(.type "code"),(.none ),(.fields #[(.str "_law_parts" 2027),(.str "_law_parts" 2028),(.str "/claim/cut.py" 2029),(.int 283 0),(.int 1 0),(.int 0 0),(.int 0 0),(.int 3 0),(.ref 205),(.bool .true),(.int 181 0),(.ref 206),.none,(.ref 207),(.ref 208),(.ref 209),(.int 2035 0),(.int 283 0),(.str "/claim/cut.py" 2036)]),#[]⟩) :: ((nat_lit 211),⟨(.type "function"),(.none ),(.func ⟨"_law_parts","_law_parts",fa (bs 43),.stmts (fb (bs 43)),fs (bs 43),3,[],.none,.none,.none,(.str "law_ij0185_01" 2025),(.none ),(.ref 210),.none,0⟩),#[]⟩) :: ((nat_lit 212),⟨(.type "tuple"),(.none ),(.seq #[] 0),#[]⟩) :: ((nat_lit 214),⟨(.type "tuple"),(.none ),(.seq #[(.str "sign" 2041)] 0),#[]⟩) :: ((nat_lit 215),⟨(.type "tuple"),(.none ),(.seq #[] 0),#[]⟩) :: ((nat_lit 217),⟨(.type "code"),(.none ),(.fields #[(.str "_law_cost" 2038),(.str "_law_cost" 2039),(.str "/claim/cut.py" 2040),(.int 297 0),(.int 1 0),(.int 0 0),(.int 0 0),(.int 3 0),(.ref 212),(.bool .true),(.int 181 0),(.ref 213),.none,(.ref 214),(.ref 215),(.ref 216),(.int 2042 0),(.int 297 0),(.str "/claim/cut.py" 2043)]),#[]⟩) :: ((nat_lit 218),⟨(.type "function"),(.none ),(.func ⟨"_law_cost","_law_cost",fa (bs 44),.stmts (fb (bs 44)),fs (bs 44),3,[],.none,.none,.none,(.str "law_ij0185_01" 2025),(.none ),(.ref 217),.none,0⟩),#[]⟩) :: ((nat_lit 219),⟨(.type "tuple"),(.none ),(.seq #[] 0),#[]⟩) :: ((nat_lit 222),⟨(.type "code"),(.none ),(.fields #[(.str "_law_marked" 2045),(.str "_law_marked" 2046),(.str "/claim/cut.py" 2047),(.int 303 0),(.int 2 0),(.int 0 0),(.int 0 0),(.int 3 0),(.ref 219),(.bool .true),(.int 181 0),(.ref 220),.none,.none,.none,(.ref 221),(.int 2048 0),(.int 303 0),(.str "/claim/cut.py" 2049)]),#[]⟩) :: ((nat_lit 223),⟨(.type "function"),(.none ),(.func ⟨"_law_marked","_law_marked",fa (bs 45),.stmts (fb (bs 45)),fs (bs 45),3,[],.none,.none,.none,(.str "law_ij0185_01" 2025),(.none ),(.ref 222),.none,0⟩),#[]⟩) :: ((nat_lit 224),⟨(.type "tuple"),(.none ),(.seq #[] 0),#[]⟩) :: ((nat_lit 226),⟨(.type "tuple"),(.none ),(.seq #[(.str "text" 2054),(.str "rows" 2055),(.str "shown" 2056)] 0),#[]⟩) :: ((nat_lit 227),⟨(.type "tuple"),(.none ),(.seq #[] 0),#[]⟩) :: ((nat_lit 229),⟨(.type "code"),(.none ),(.fields #[(.str "_law_read" 2051),(.str "_law_read" 2052),(.str "/claim/cut.py" 2053),(.int 326 0),(.int 1 0),(.int 0 0),(.int 0 0),(.int 3 0),(.ref 224),(.bool .true),(.int 181 0),(.ref 225),.none,(.ref 226),(.ref 227),(.ref 228),(.int 2057 0),(.int 326 0),(.str "/claim/cut.py" 2058)]),#[]⟩) :: ((nat_lit 230),⟨(.type "function"),(.none ),(.func ⟨"_law_read","_law_read",fa (bs 46),.stmts (fb (bs 46)),fs (bs 46),3,[],.none,.none,.none,(.str "law_ij0185_01" 2025),(.none ),(.ref 229),.none,0⟩),#[]⟩) :: ((nat_lit 231),⟨(.type "tuple"),(.none ),(.seq #[] 0),#[]⟩) :: ((nat_lit 234),⟨(.type "code"),(.none ),(.fields #[(.str "_law_read_rows" 2060),(.str "_law_read_rows" 2061),(.str "/claim/cut.py" 2062),(.int 330 0),(.int 1 0),(.int 0 0),(.int 0 0),(.int 3 0),(.ref 231),(.bool .true),(.int 181 0),(.ref 232),.none,.none,.none,(.ref 233),(.int 2063 0),(.int 330 0),(.str "/claim/cut.py" 2064)]),#[]⟩) :: ((nat_lit 235),⟨(.type "function"),(.none ),(.func ⟨"_law_read_rows","_law_read_rows",fa (bs 47),.stmts (fb (bs 47)),fs (bs 47),3,[],.none,.none,.none,(.str "law_ij0185_01" 2025),(.none ),(.ref 234),.none,0⟩),#[]⟩) :: ((nat_lit 236),⟨(.type "tuple"),(.none ),(.seq #[] 0),#[]⟩) :: ((nat_lit 239),⟨(.type "code"),(.none ),(.fields #[(.str "_law_joined" 2066),(.str "_law_joined" 2067),(.str "/claim/cut.py" 2068),(.int 333 0),(.int 1 0),(.int 0 0),(.int 0 0),(.int 3 0),(.ref 236),(.bool .true),(.int 181 0),(.ref 237),.none,.none,.none,(.ref 238),(.int 2069 0),(.int 333 0),(.str "/claim/cut.py" 2070)]),#[]⟩) :: ((nat_lit 240),⟨(.type "function"),(.none ),(.func ⟨"_law_joined","_law_joined",fa (bs 48),.stmts (fb (bs 48)),fs (bs 48),3,[],.none,.none,.none,(.str "law_ij0185_01" 2025),(.none ),(.ref 239),.none,0⟩),#[]⟩) :: ((nat_lit 241),⟨(.type "tuple"),(.none ),(.seq #[] 0),#[]⟩) :: ((nat_lit 243),⟨(.type "tuple"),(.none ),(.seq #[(.str "text" 2075),(.str "slashes" 2076),(.str "root" 2077),(.str "debt" 2078),(.str "kept" 2079),(.str "piece" 2080),(.str "made" 2081)] 0),#[]⟩) :: ((nat_lit 244),⟨(.type "tuple"),(.none ),(.seq #[] 0),#[]⟩) :: ((nat_lit 246),⟨(.type "code"),(.none ),(.fields #[(.str "_law_plain" 2072),(.str "_law_plain" 2073),(.str "/claim/cut.py" 2074),(.int 340 0),(.int 1 0),(.int 0 0),(.int 0 0),(.int 3 0),(.ref 241),(.bool .true),(.int 181 0),(.ref 242),.none,(.ref 243),(.ref 244),(.ref 245),(.int 2082 0),(.int 340 0),(.str "/claim/cut.py" 2083)]),#[]⟩) :: ((nat_lit 247),⟨(.type "function"),(.none ),(.func ⟨"_law_plain","_law_plain",fa (bs 49),.stmts (fb (bs 49)),fs (bs 49),3,[],.none,.none,.none,(.str "law_ij0185_01" 2025),(.none ),(.ref 246),.none,0⟩),#[]⟩) :: ((nat_lit 248),⟨(.type "tuple"),(.none ),(.seq #[] 0),#[]⟩) :: ((nat_lit 250),⟨(.type "tuple"),(.none ),(.seq #[(.str "text" 2088),(.str "words" 2089),(.str "ending" 2090)] 0),#[]⟩) :: ((nat_lit 251),⟨(.type "tuple"),(.none ),(.seq #[] 0),#[]⟩) :: ((nat_lit 253),⟨(.type "code"),(.none ),(.fields #[(.str "_law_halves" 2085),(.str "_law_halves" 2086),(.str "/claim/cut.py" 2087),(.int 359 0),(.int 1 0),(.int 0 0),(.int 0 0),(.int 3 0),(.ref 248),(.bool .true),(.int 181 0),(.ref 249),.none,(.ref 250),(.ref 251),(.ref 252),(.int 2091 0),(.int 359 0),(.str "/claim/cut.py" 2092)]),#[]⟩) :: ((nat_lit 254),⟨(.type "function"),(.none ),(.func ⟨"_law_halves","_law_halves",fa (bs 50),.stmts (fb (bs 50)),fs (bs 50),3,[],.none,.none,.none,(.str "law_ij0185_01" 2025),(.none ),(.ref 253),.none,0⟩),#[]⟩) :: ((nat_lit 255),⟨(.type "tuple"),(.none ),(.seq #[] 0),#[]⟩) :: ((nat_lit 258),⟨(.type "code"),(.none ),(.fields #[(.str "law" 2094),(.str "law" 2095),(.str "/claim/cut.py" 2096),(.int 363 0),(.int 1 0),(.int 0 0),(.int 0 0),(.int 3 0),(.ref 255),(.bool .true),(.int 181 0),(.ref 256),.none,.none,.none,(.ref 257),(.int 2097 0),(.int 363 0),(.str "/claim/cut.py" 2098)]),#[]⟩) :: ((nat_lit 259),⟨(.type "function"),(.none ),(.func ⟨"law","law",fa (bs 51),.stmts (fb (bs 51)),fs (bs 51),3,[],.none,.none,.none,(.str "law_ij0185_01" 2025),(.none ),(.ref 258),.none,0⟩),#[]⟩) :: []))
def adrs : List Addr := ((nat_lit 2) :: (nat_lit 3) :: (nat_lit 15) :: (nat_lit 17) :: (nat_lit 18) :: (nat_lit 20) :: (nat_lit 21) :: (nat_lit 29) :: (nat_lit 31) :: (nat_lit 32) :: (nat_lit 34) :: (nat_lit 35) :: (nat_lit 36) :: (nat_lit 43) :: (nat_lit 45) :: (nat_lit 46) :: (nat_lit 48) :: (nat_lit 49) :: (nat_lit 50) :: (nat_lit 51) :: (nat_lit 52) :: (nat_lit 55) :: (nat_lit 62) :: (nat_lit 64) :: (nat_lit 65) :: (nat_lit 67) :: (nat_lit 68) :: (nat_lit 69) :: (nat_lit 71) :: (nat_lit 72) :: (nat_lit 74) :: (nat_lit 75) :: (nat_lit 76) :: (nat_lit 78) :: (nat_lit 79) :: (nat_lit 81) :: (nat_lit 82) :: (nat_lit 83) :: (nat_lit 84) :: (nat_lit 85) :: (nat_lit 88) :: (nat_lit 90) :: (nat_lit 91) :: (nat_lit 93) :: (nat_lit 94) :: (nat_lit 95) :: (nat_lit 97) :: (nat_lit 98) :: (nat_lit 100) :: (nat_lit 101) :: (nat_lit 102) :: (nat_lit 104) :: (nat_lit 105) :: (nat_lit 107) :: (nat_lit 108) :: (nat_lit 109) :: (nat_lit 111) :: (nat_lit 112) :: (nat_lit 114) :: (nat_lit 115) :: (nat_lit 116) :: (nat_lit 118) :: (nat_lit 119) :: (nat_lit 121) :: (nat_lit 122) :: (nat_lit 123) :: (nat_lit 125) :: (nat_lit 126) :: (nat_lit 128) :: (nat_lit 129) :: (nat_lit 130) :: (nat_lit 132) :: (nat_lit 133) :: (nat_lit 135) :: (nat_lit 136) :: (nat_lit 140) :: (nat_lit 142) :: (nat_lit 143) :: (nat_lit 145) :: (nat_lit 146) :: (nat_lit 147) :: (nat_lit 149) :: (nat_lit 150) :: (nat_lit 152) :: (nat_lit 153) :: (nat_lit 156) :: (nat_lit 170) :: (nat_lit 172) :: (nat_lit 173) :: (nat_lit 175) :: (nat_lit 176) :: (nat_lit 177) :: (nat_lit 179) :: (nat_lit 180) :: (nat_lit 182) :: (nat_lit 183) :: (nat_lit 185) :: (nat_lit 189) :: (nat_lit 190) :: (nat_lit 192) :: (nat_lit 193) :: (nat_lit 195) :: (nat_lit 196) :: (nat_lit 197) :: (nat_lit 198) :: (nat_lit 200) :: (nat_lit 201) :: (nat_lit 203) :: (nat_lit 204) :: (nat_lit 205) :: (nat_lit 207) :: (nat_lit 208) :: (nat_lit 210) :: (nat_lit 211) :: (nat_lit 212) :: (nat_lit 214) :: (nat_lit 215) :: (nat_lit 217) :: (nat_lit 218) :: (nat_lit 219) :: (nat_lit 222) :: (nat_lit 223) :: (nat_lit 224) :: (nat_lit 226) :: (nat_lit 227) :: (nat_lit 229) :: (nat_lit 230) :: (nat_lit 231) :: (nat_lit 234) :: (nat_lit 235) :: (nat_lit 236) :: (nat_lit 239) :: (nat_lit 240) :: (nat_lit 241) :: (nat_lit 243) :: (nat_lit 244) :: (nat_lit 246) :: (nat_lit 247) :: (nat_lit 248) :: (nat_lit 250) :: (nat_lit 251) :: (nat_lit 253) :: (nat_lit 254) :: (nat_lit 255) :: (nat_lit 258) :: (nat_lit 259) :: [])
def keep : List Nat := [0, 1, 3, 5, 7, 8, 10, 12, 13, 15, 16, 17, 19, 20, 21, 22, 23, 24, 25, 26, 27, 28, 29, 30, 35, 36, 37, 43, 44, 45, 46, 47, 48, 49, 50, 51]
noncomputable def view_39 : Program := { pg with main := { pg.main with body := [bs 0, bs 1, bs 3, bs 5, bs 7, bs 8, bs 10, bs 12, bs 13, bs 15, bs 16, bs 17, bs 19, bs 20, bs 21, bs 22, bs 23, bs 24, bs 25, bs 26, bs 27, bs 28, bs 29, bs 30, bs 35, bs 36, bs 37, bs 43, bs 44, bs 45, bs 46, bs 47, bs 48, bs 49, bs 50, bs 51] } }
def loose : List Str := ["_QUOPRI_MAP","_QUOPRI_HEADER_MAP","_QUOPRI_BODY_MAP","ascii_letters","hexdigits","_QUOPRI_BODY_ENCODE_MAP","body_encode","decode"]
def lv : List (Str × WData) := [("ascii_letters",(.str ⟨#[97,98,99,100,101,102,103,104,105,106,107,108,109,110,111,112,113,114,115,116,117,118,119,120,121,122,65,66,67,68,69,70,71,72,73,74,75,76,77,78,79,80,81,82,83,84,85,86,87,88,89,90]⟩)),("hexdigits",(.str ⟨#[48,49,50,51,52,53,54,55,56,57,97,98,99,100,101,102,65,66,67,68,69,70]⟩))]
noncomputable def kat (j : Nat) (p : Params) : Obj := ((heap_39 p).drop j).head?.elim default (·.2)
noncomputable def o0 : Params → Obj := (fun p => ⟨(.type "dict"),(.none ),(.dict (List.toArray (⟨(PySem.PyData.keyHash p "__name__"),(.str "__name__" 1),(.str "builtins" 160)⟩ :: ⟨(PySem.PyData.keyHash p "__doc__"),(.str "__doc__" 2),(.builtin "builtins.__doc__:str#opaque")⟩ :: ⟨(PySem.PyData.keyHash p "__package__"),(.str "__package__" 3),(.builtin "builtins.__package__:str#opaque")⟩ :: ⟨(PySem.PyData.keyHash p "__loader__"),(.str "__loader__" 4),(.builtin "builtins.__loader__:shared#opaque")⟩ :: ⟨(PySem.PyData.keyHash p "__spec__"),(.str "__spec__" 5),(.builtin "builtins.__spec__#opaque")⟩ :: ⟨(PySem.PyData.keyHash p "__build_class__"),(.str "__build_class__" 6),(.builtin "__build_class__")⟩ :: ⟨(PySem.PyData.keyHash p "__import__"),(.str "__import__" 7),(.builtin "__import__")⟩ :: ⟨(PySem.PyData.keyHash p "abs"),(.str "abs" 8),(.builtin "abs")⟩ :: ⟨(PySem.PyData.keyHash p "all"),(.str "all" 9),(.builtin "all")⟩ :: ⟨(PySem.PyData.keyHash p "any"),(.str "any" 10),(.builtin "any")⟩ :: ⟨(PySem.PyData.keyHash p "ascii"),(.str "ascii" 11),(.builtin "ascii")⟩ :: ⟨(PySem.PyData.keyHash p "bin"),(.str "bin" 12),(.builtin "bin")⟩ :: ⟨(PySem.PyData.keyHash p "breakpoint"),(.str "breakpoint" 13),(.builtin "breakpoint")⟩ :: ⟨(PySem.PyData.keyHash p "callable"),(.str "callable" 14),(.builtin "callable")⟩ :: ⟨(PySem.PyData.keyHash p "chr"),(.str "chr" 15),(.builtin "chr")⟩ :: ⟨(PySem.PyData.keyHash p "compile"),(.str "compile" 16),(.builtin "compile")⟩ :: ⟨(PySem.PyData.keyHash p "delattr"),(.str "delattr" 17),(.builtin "delattr")⟩ :: ⟨(PySem.PyData.keyHash p "dir"),(.str "dir" 18),(.builtin "dir")⟩ :: ⟨(PySem.PyData.keyHash p "divmod"),(.str "divmod" 19),(.builtin "divmod")⟩ :: ⟨(PySem.PyData.keyHash p "eval"),(.str "eval" 20),(.builtin "eval")⟩ :: ⟨(PySem.PyData.keyHash p "exec"),(.str "exec" 21),(.builtin "exec")⟩ :: ⟨(PySem.PyData.keyHash p "format"),(.str "format" 22),(.builtin "format")⟩ :: ⟨(PySem.PyData.keyHash p "getattr"),(.str "getattr" 23),(.builtin "getattr")⟩ :: ⟨(PySem.PyData.keyHash p "globals"),(.str "globals" 24),(.builtin "globals")⟩ :: ⟨(PySem.PyData.keyHash p "hasattr"),(.str "hasattr" 25),(.builtin "hasattr")⟩ :: ⟨(PySem.PyData.keyHash p "hash"),(.str "hash" 26),(.builtin "hash")⟩ :: ⟨(PySem.PyData.keyHash p "hex"),(.str "hex" 27),(.builtin "hex")⟩ :: ⟨(PySem.PyData.keyHash p "id"),(.str "id" 28),(.builtin "id")⟩ :: ⟨(PySem.PyData.keyHash p "input"),(.str "input" 29),(.builtin "input")⟩ :: ⟨(PySem.PyData.keyHash p "isinstance"),(.str "isinstance" 30),(.builtin "isinstance")⟩ :: ⟨(PySem.PyData.keyHash p "issubclass"),(.str "issubclass" 31),(.builtin "issubclass")⟩ :: ⟨(PySem.PyData.keyHash p "iter"),(.str "iter" 32),(.builtin "iter")⟩ :: ⟨(PySem.PyData.keyHash p "aiter"),(.str "aiter" 33),(.builtin "aiter")⟩ :: ⟨(PySem.PyData.keyHash p "len"),(.str "len" 34),(.builtin "len")⟩ :: ⟨(PySem.PyData.keyHash p "locals"),(.str "locals" 35),(.builtin "locals")⟩ :: ⟨(PySem.PyData.keyHash p "max"),(.str "max" 36),(.builtin "max")⟩ :: ⟨(PySem.PyData.keyHash p "min"),(.str "min" 37),(.builtin "min")⟩ :: ⟨(PySem.PyData.keyHash p "next"),(.str "next" 38),(.builtin "next")⟩ :: ⟨(PySem.PyData.keyHash p "anext"),(.str "anext" 39),(.builtin "anext")⟩ :: ⟨(PySem.PyData.keyHash p "oct"),(.str "oct" 40),(.builtin "oct")⟩ :: ⟨(PySem.PyData.keyHash p "ord"),(.str "ord" 41),(.builtin "ord")⟩ :: ⟨(PySem.PyData.keyHash p "pow"),(.str "pow" 42),(.builtin "pow")⟩ :: ⟨(PySem.PyData.keyHash p "print"),(.str "print" 43),(.builtin "print")⟩ :: ⟨(PySem.PyData.keyHash p "repr"),(.str "repr" 44),(.builtin "repr")⟩ :: ⟨(PySem.PyData.keyHash p "round"),(.str "round" 45),(.builtin "round")⟩ :: ⟨(PySem.PyData.keyHash p "setattr"),(.str "setattr" 46),(.builtin "setattr")⟩ :: ⟨(PySem.PyData.keyHash p "sorted"),(.str "sorted" 47),(.builtin "sorted")⟩ :: ⟨(PySem.PyData.keyHash p "sum"),(.str "sum" 48),(.builtin "sum")⟩ :: ⟨(PySem.PyData.keyHash p "vars"),(.str "vars" 49),(.builtin "vars")⟩ :: ⟨(PySem.PyData.keyHash p "None"),(.str "None" 50),.none⟩ :: ⟨(PySem.PyData.keyHash p "Ellipsis"),(.str "Ellipsis" 51),.ellipsis⟩ :: ⟨(PySem.PyData.keyHash p "NotImplemented"),(.str "NotImplemented" 52),.notImplemented⟩ :: ⟨(PySem.PyData.keyHash p "False"),(.str "False" 53),(.bool .false)⟩ :: ⟨(PySem.PyData.keyHash p "True"),(.str "True" 54),(.bool .true)⟩ :: ⟨(PySem.PyData.keyHash p "bool"),(.str "bool" 55),(.type "bool")⟩ :: ⟨(PySem.PyData.keyHash p "memoryview"),(.str "memoryview" 56),(.type "memoryview")⟩ :: ⟨(PySem.PyData.keyHash p "bytearray"),(.str "bytearray" 57),(.type "bytearray")⟩ :: ⟨(PySem.PyData.keyHash p "bytes"),(.str "bytes" 58),(.type "bytes")⟩ :: ⟨(PySem.PyData.keyHash p "classmethod"),(.str "classmethod" 59),(.type "classmethod")⟩ :: ⟨(PySem.PyData.keyHash p "complex"),(.str "complex" 60),(.type "complex")⟩ :: ⟨(PySem.PyData.keyHash p "dict"),(.str "dict" 61),(.type "dict")⟩ :: ⟨(PySem.PyData.keyHash p "enumerate"),(.str "enumerate" 62),(.type "enumerate")⟩ :: ⟨(PySem.PyData.keyHash p "filter"),(.str "filter" 63),(.type "filter")⟩ :: ⟨(PySem.PyData.keyHash p "float"),(.str "float" 64),(.type "float")⟩ :: ⟨(PySem.PyData.keyHash p "frozenset"),(.str "frozenset" 65),(.type "frozenset")⟩ :: ⟨(PySem.PyData.keyHash p "property"),(.str "property" 66),(.type "property")⟩ :: ⟨(PySem.PyData.keyHash p "int"),(.str "int" 67),(.type "int")⟩ :: ⟨(PySem.PyData.keyHash p "list"),(.str "list" 68),(.type "list")⟩ :: ⟨(PySem.PyData.keyHash p "map"),(.str "map" 69),(.type "map")⟩ :: ⟨(PySem.PyData.keyHash p "object"),(.str "object" 70),(.type "object")⟩ :: ⟨(PySem.PyData.keyHash p "range"),(.str "range" 71),(.type "range")⟩ :: ⟨(PySem.PyData.keyHash p "reversed"),(.str "reversed" 72),(.type "reversed")⟩ :: ⟨(PySem.PyData.keyHash p "set"),(.str "set" 73),(.type "set")⟩ :: ⟨(PySem.PyData.keyHash p "slice"),(.str "slice" 74),(.type "slice")⟩ :: ⟨(PySem.PyData.keyHash p "staticmethod"),(.str "staticmethod" 75),(.type "staticmethod")⟩ :: ⟨(PySem.PyData.keyHash p "str"),(.str "str" 76),(.type "str")⟩ :: ⟨(PySem.PyData.keyHash p "super"),(.str "super" 77),(.type "super")⟩ :: ⟨(PySem.PyData.keyHash p "tuple"),(.str "tuple" 78),(.type "tuple")⟩ :: ⟨(PySem.PyData.keyHash p "type"),(.str "type" 79),(.type "type")⟩ :: ⟨(PySem.PyData.keyHash p "zip"),(.str "zip" 80),(.type "zip")⟩ :: ⟨(PySem.PyData.keyHash p "__debug__"),(.str "__debug__" 81),(.bool .true)⟩ :: ⟨(PySem.PyData.keyHash p "BaseException"),(.str "BaseException" 82),(.type "BaseException")⟩ :: ⟨(PySem.PyData.keyHash p "BaseExceptionGroup"),(.str "BaseExceptionGroup" 83),(.type "BaseExceptionGroup")⟩ :: ⟨(PySem.PyData.keyHash p "Exception"),(.str "Exception" 84),(.type "Exception")⟩ :: ⟨(PySem.PyData.keyHash p "GeneratorExit"),(.str "GeneratorExit" 85),(.type "GeneratorExit")⟩ :: ⟨(PySem.PyData.keyHash p "KeyboardInterrupt"),(.str "KeyboardInterrupt" 86),(.type "KeyboardInterrupt")⟩ :: ⟨(PySem.PyData.keyHash p "SystemExit"),(.str "SystemExit" 87),(.type "SystemExit")⟩ :: ⟨(PySem.PyData.keyHash p "ArithmeticError"),(.str "ArithmeticError" 88),(.type "ArithmeticError")⟩ :: ⟨(PySem.PyData.keyHash p "AssertionError"),(.str "AssertionError" 89),(.type "AssertionError")⟩ :: ⟨(PySem.PyData.keyHash p "AttributeError"),(.str "AttributeError" 90),(.type "AttributeError")⟩ :: ⟨(PySem.PyData.keyHash p "BufferError"),(.str "BufferError" 91),(.type "BufferError")⟩ :: ⟨(PySem.PyData.keyHash p "EOFError"),(.str "EOFError" 92),(.type "EOFError")⟩ :: ⟨(PySem.PyData.keyHash p "ImportError"),(.str "ImportError" 93),(.type "ImportError")⟩ :: ⟨(PySem.PyData.keyHash p "LookupError"),(.str "LookupError" 94),(.type "LookupError")⟩ :: ⟨(PySem.PyData.keyHash p "MemoryError"),(.str "MemoryError" 95),(.type "MemoryError")⟩ :: ⟨(PySem.PyData.keyHash p "NameError"),(.str "NameError" 96),(.type "NameError")⟩ :: ⟨(PySem.PyData.keyHash p "OSError"),(.str "OSError" 97),(.type "OSError")⟩ :: ⟨(PySem.PyData.keyHash p "ReferenceError"),(.str "ReferenceError" 98),(.type "ReferenceError")⟩ :: ⟨(PySem.PyData.keyHash p "RuntimeError"),(.str "RuntimeError" 99),(.type "RuntimeError")⟩ :: ⟨(PySem.PyData.keyHash p "StopAsyncIteration"),(.str "StopAsyncIteration" 100),(.type "StopAsyncIteration")⟩ :: ⟨(PySem.PyData.keyHash p "StopIteration"),(.str "StopIteration" 101),(.type "StopIteration")⟩ :: ⟨(PySem.PyData.keyHash p "SyntaxError"),(.str "SyntaxError" 102),(.type "SyntaxError")⟩ :: ⟨(PySem.PyData.keyHash p "SystemError"),(.str "SystemError" 103),(.type "SystemError")⟩ :: ⟨(PySem.PyData.keyHash p "TypeError"),(.str "TypeError" 104),(.type "TypeError")⟩ :: ⟨(PySem.PyData.keyHash p "ValueError"),(.str "ValueError" 105),(.type "ValueError")⟩ :: ⟨(PySem.PyData.keyHash p "Warning"),(.str "Warning" 106),(.type "Warning")⟩ :: ⟨(PySem.PyData.keyHash p "FloatingPointError"),(.str "FloatingPointError" 107),(.type "FloatingPointError")⟩ :: ⟨(PySem.PyData.keyHash p "OverflowError"),(.str "OverflowError" 108),(.type "OverflowError")⟩ :: ⟨(PySem.PyData.keyHash p "ZeroDivisionError"),(.str "ZeroDivisionError" 109),(.type "ZeroDivisionError")⟩ :: ⟨(PySem.PyData.keyHash p "BytesWarning"),(.str "BytesWarning" 110),(.type "BytesWarning")⟩ :: ⟨(PySem.PyData.keyHash p "DeprecationWarning"),(.str "DeprecationWarning" 111),(.type "DeprecationWarning")⟩ :: ⟨(PySem.PyData.keyHash p "EncodingWarning"),(.str "EncodingWarning" 112),(.type "EncodingWarning")⟩ :: ⟨(PySem.PyData.keyHash p "FutureWarning"),(.str "FutureWarning" 113),(.type "FutureWarning")⟩ :: ⟨(PySem.PyData.keyHash p "ImportWarning"),(.str "ImportWarning" 114),(.type "ImportWarning")⟩ :: ⟨(PySem.PyData.keyHash p "PendingDeprecationWarning"),(.str "PendingDeprecationWarning" 115),(.type "PendingDeprecationWarning")⟩ :: ⟨(PySem.PyData.keyHash p "ResourceWarning"),(.str "ResourceWarning" 116),(.type "ResourceWarning")⟩ :: ⟨(PySem.PyData.keyHash p "RuntimeWarning"),(.str "RuntimeWarning" 117),(.type "RuntimeWarning")⟩ :: ⟨(PySem.PyData.keyHash p "SyntaxWarning"),(.str "SyntaxWarning" 118),(.type "SyntaxWarning")⟩ :: ⟨(PySem.PyData.keyHash p "UnicodeWarning"),(.str "UnicodeWarning" 119),(.type "UnicodeWarning")⟩ :: ⟨(PySem.PyData.keyHash p "UserWarning"),(.str "UserWarning" 120),(.type "UserWarning")⟩ :: ⟨(PySem.PyData.keyHash p "BlockingIOError"),(.str "BlockingIOError" 121),(.type "BlockingIOError")⟩ :: ⟨(PySem.PyData.keyHash p "ChildProcessError"),(.str "ChildProcessError" 122),(.type "ChildProcessError")⟩ :: ⟨(PySem.PyData.keyHash p "ConnectionError"),(.str "ConnectionError" 123),(.type "ConnectionError")⟩ :: ⟨(PySem.PyData.keyHash p "FileExistsError"),(.str "FileExistsError" 124),(.type "FileExistsError")⟩ :: ⟨(PySem.PyData.keyHash p "FileNotFoundError"),(.str "FileNotFoundError" 125),(.type "FileNotFoundError")⟩ :: ⟨(PySem.PyData.keyHash p "InterruptedError"),(.str "InterruptedError" 126),(.type "InterruptedError")⟩ :: ⟨(PySem.PyData.keyHash p "IsADirectoryError"),(.str "IsADirectoryError" 127),(.type "IsADirectoryError")⟩ :: ⟨(PySem.PyData.keyHash p "NotADirectoryError"),(.str "NotADirectoryError" 128),(.type "NotADirectoryError")⟩ :: ⟨(PySem.PyData.keyHash p "PermissionError"),(.str "PermissionError" 129),(.type "PermissionError")⟩ :: ⟨(PySem.PyData.keyHash p "ProcessLookupError"),(.str "ProcessLookupError" 130),(.type "ProcessLookupError")⟩ :: ⟨(PySem.PyData.keyHash p "TimeoutError"),(.str "TimeoutError" 131),(.type "TimeoutError")⟩ :: ⟨(PySem.PyData.keyHash p "IndentationError"),(.str "IndentationError" 132),(.type "IndentationError")⟩ :: ⟨(PySem.PyData.keyHash p "_IncompleteInputError"),(.str "_IncompleteInputError" 133),(.type "_IncompleteInputError")⟩ :: ⟨(PySem.PyData.keyHash p "IndexError"),(.str "IndexError" 134),(.type "IndexError")⟩ :: ⟨(PySem.PyData.keyHash p "KeyError"),(.str "KeyError" 135),(.type "KeyError")⟩ :: ⟨(PySem.PyData.keyHash p "ModuleNotFoundError"),(.str "ModuleNotFoundError" 136),(.type "ModuleNotFoundError")⟩ :: ⟨(PySem.PyData.keyHash p "NotImplementedError"),(.str "NotImplementedError" 137),(.type "NotImplementedError")⟩ :: ⟨(PySem.PyData.keyHash p "PythonFinalizationError"),(.str "PythonFinalizationError" 138),(.type "PythonFinalizationError")⟩ :: ⟨(PySem.PyData.keyHash p "RecursionError"),(.str "RecursionError" 139),(.type "RecursionError")⟩ :: ⟨(PySem.PyData.keyHash p "UnboundLocalError"),(.str "UnboundLocalError" 140),(.type "UnboundLocalError")⟩ :: ⟨(PySem.PyData.keyHash p "UnicodeError"),(.str "UnicodeError" 141),(.type "UnicodeError")⟩ :: ⟨(PySem.PyData.keyHash p "BrokenPipeError"),(.str "BrokenPipeError" 142),(.type "BrokenPipeError")⟩ :: ⟨(PySem.PyData.keyHash p "ConnectionAbortedError"),(.str "ConnectionAbortedError" 143),(.type "ConnectionAbortedError")⟩ :: ⟨(PySem.PyData.keyHash p "ConnectionRefusedError"),(.str "ConnectionRefusedError" 144),(.type "ConnectionRefusedError")⟩ :: ⟨(PySem.PyData.keyHash p "ConnectionResetError"),(.str "ConnectionResetError" 145),(.type "ConnectionResetError")⟩ :: ⟨(PySem.PyData.keyHash p "TabError"),(.str "TabError" 146),(.type "TabError")⟩ :: ⟨(PySem.PyData.keyHash p "UnicodeDecodeError"),(.str "UnicodeDecodeError" 147),(.type "UnicodeDecodeError")⟩ :: ⟨(PySem.PyData.keyHash p "UnicodeEncodeError"),(.str "UnicodeEncodeError" 148),(.type "UnicodeEncodeError")⟩ :: ⟨(PySem.PyData.keyHash p "UnicodeTranslateError"),(.str "UnicodeTranslateError" 149),(.type "UnicodeTranslateError")⟩ :: ⟨(PySem.PyData.keyHash p "ExceptionGroup"),(.str "ExceptionGroup" 150),(.type "ExceptionGroup")⟩ :: ⟨(PySem.PyData.keyHash p "EnvironmentError"),(.str "EnvironmentError" 151),(.type "OSError")⟩ :: ⟨(PySem.PyData.keyHash p "IOError"),(.str "IOError" 152),(.type "OSError")⟩ :: ⟨(PySem.PyData.keyHash p "open"),(.str "open" 153),(.builtin "open")⟩ :: ⟨(PySem.PyData.keyHash p "quit"),(.str "quit" 154),(.builtin "builtins.quit#opaque")⟩ :: ⟨(PySem.PyData.keyHash p "exit"),(.str "exit" 155),(.builtin "builtins.exit#opaque")⟩ :: ⟨(PySem.PyData.keyHash p "copyright"),(.str "copyright" 156),(.builtin "builtins.copyright#opaque")⟩ :: ⟨(PySem.PyData.keyHash p "credits"),(.str "credits" 157),(.builtin "builtins.credits#opaque")⟩ :: ⟨(PySem.PyData.keyHash p "license"),(.str "license" 158),(.builtin "builtins.license#opaque")⟩ :: ⟨(PySem.PyData.keyHash p "help"),(.str "help" 159),(.builtin "builtins.help#opaque")⟩ :: [])) 159),#[]⟩)
noncomputable def o1 : Params → Obj := (fun p => ⟨(.type "dict"),(.none ),(.dict #[⟨(PySem.PyData.keyHash p "builtins"),(.str "builtins" 162),(.ref 4)⟩,⟨(PySem.PyData.keyHash p "__main__"),(.str "__main__" 163),(.ref 5)⟩] 2),#[]⟩)
noncomputable def o2 : Params → Obj := (fun p => ⟨(.type "dict"),(.none ),(.dict #[⟨(PySem.PyData.keyHash p "__name__"),(.str "__name__" 165),(.str "__main__" 164)⟩,⟨(PySem.PyData.keyHash p "__doc__"),(.str "__doc__" 166),.none⟩,⟨(PySem.PyData.keyHash p "__package__"),(.str "__package__" 167),.none⟩,⟨(PySem.PyData.keyHash p "__loader__"),(.str "__loader__" 168),(.builtin "__main__.__loader__#opaque")⟩,⟨(PySem.PyData.keyHash p "__spec__"),(.str "__spec__" 169),.none⟩,⟨(PySem.PyData.keyHash p "__annotations__"),(.str "__annotations__" 170),(.ref 6)⟩,⟨(PySem.PyData.keyHash p "__builtins__"),(.str "__builtins__" 171),(.ref 4)⟩,⟨(PySem.PyData.keyHash p "__file__"),(.str "__file__" 173),(.str "/claim/cut.py" 172)⟩,⟨(PySem.PyData.keyHash p "__cached__"),(.str "__cached__" 174),.none⟩] 9),#[]⟩)
noncomputable def o3 : Params → Obj := (fun p => ⟨(.type "module"),(some 0),.plain,#[]⟩)
noncomputable def o4 : Params → Obj := (fun p => ⟨(.type "module"),(some 3),.plain,#[]⟩)
noncomputable def o5 : Params → Obj := (fun p => ⟨(.type "dict"),(.none ),(.dict #[] 0),#[]⟩)
noncomputable def o6 : Params → Obj := (fun p => ⟨(.type "tuple"),(.none ),(.seq #[] 0),#[]⟩)
noncomputable def o7 : Params → Obj := (fun p => ⟨.none,(.none ),(.fields #[]),#[]⟩)
noncomputable def o8 : Params → Obj := (fun p => ⟨(.type "code"),(.none ),(.fields #[(.str "<module>" 176),(.str "<module>" 177),(.str "/claim/cut.py" 178),(.int 1 0),(.int 0 0),(.int 0 0),(.int 0 0),(.int 0 0),(.ref 7),(.bool .false),(.int 175 0),(.ref 8),.none,.none,.none,.none,(.int 179 0),(.int 1 0),(.str "/claim/cut.py" 180)]),#[]⟩)
noncomputable def o9 : Params → Obj := (fun p => ⟨(.type "frame"),(.none ),.plain,#[(some (.ref 9)),(some (.ref 3)),(some (.ref 3)),(.none ),(some (.str "__main__" 164)),(.none ),(some (.ref 0))]⟩)
noncomputable def o10 : Params → Obj := (fun p => ⟨(.type "code"),(.none ),(.fields #[(.str "<module>" 182),(.str "<module>" 183),(.str "/claim/cut.py" 184),(.int 1 0),(.int 0 0),(.int 0 0),(.int 0 0),(.int 0 0),(.ref 11),(.bool .false),(.int 181 0),(.ref 12),.none,.none,.none,.none,(.int 185 0),(.int 1 0),(.str "/claim/cut.py" 186)]),#[]⟩)
noncomputable def o11 : Params → Obj := (fun p => ⟨(.type "frame"),(.none ),.plain,#[(some (.ref 13)),(some (.ref 3)),(some (.ref 3)),(.none ),(some (.str "__main__" 164)),(.none ),(some (.ref 0))]⟩)
noncomputable def o12 : Params → Obj := (fun p => ⟨(.type "dict"),(.none ),(.dict #[⟨(PySem.PyData.keyHash p "__name__"),(.str "__name__" 165),(.str "cpy313.posixpath" 330)⟩,⟨(PySem.PyData.keyHash p "__doc__"),(.str "__doc__" 166),.none⟩,⟨(PySem.PyData.keyHash p "__package__"),(.str "__package__" 167),.none⟩,⟨(PySem.PyData.keyHash p "__loader__"),(.str "__loader__" 168),(.builtin "__main__.__loader__#opaque")⟩,⟨(PySem.PyData.keyHash p "__spec__"),(.str "__spec__" 169),.none⟩,⟨(PySem.PyData.keyHash p "__annotations__"),(.str "__annotations__" 170),(.ref 6)⟩,⟨(PySem.PyData.keyHash p "__builtins__"),(.str "__builtins__" 171),(.ref 4)⟩,⟨(PySem.PyData.keyHash p "__file__"),(.str "__file__" 173),(.str "/claim/cut.py" 172)⟩,⟨(PySem.PyData.keyHash p "__cached__"),(.str "__cached__" 174),.none⟩,⟨(PySem.PyData.keyHash p "_wall"),(.str "_wall" 193),(.ref 21)⟩,⟨(PySem.PyData.keyHash p "_pe_doc"),(.str "_pe_doc" 202),(.ref 28)⟩,⟨(PySem.PyData.keyHash p "_plain_name"),(.str "_plain_name" 213),(.ref 35)⟩,⟨(PySem.PyData.keyHash p "ABCMeta"),(.str "ABCMeta" 239),(.ref 52)⟩,⟨(PySem.PyData.keyHash p "_ABCLike"),(.str "_ABCLike" 282),(.ref 85)⟩,⟨(PySem.PyData.keyHash p "_abc_plain_meta"),(.str "_abc_plain_meta" 289),(.ref 94)⟩,⟨(PySem.PyData.keyHash p "fspath"),(.str "fspath" 301),(.ref 101)⟩,⟨(PySem.PyData.keyHash p "_splitext"),(.str "_splitext" 318),(.ref 108)⟩,⟨(PySem.PyData.keyHash p "_check_arg_types"),(.str "_check_arg_types" 329),(.ref 115)⟩,⟨(PySem.PyData.keyHash p "_get_sep"),(.str "_get_sep" 338),(.ref 122)⟩,⟨(PySem.PyData.keyHash p "join"),(.str "join" 350),(.ref 129)⟩,⟨(PySem.PyData.keyHash p "splitext"),(.str "splitext" 359),(.ref 136)⟩] 21),#[]⟩)
noncomputable def o13 : Params → Obj := (fun p => ⟨.none,(.none ),(.fields #[(.int 1 0),(.int 0 0),(.ref 20),(.int 4 0),(.int 0 0),(.ref 27),(.int 13 0),(.int 0 0),(.ref 34),(.int 19 0),(.int 0 0),(.ref 41),(.int 24 0),(.int 0 0),(.ref 60),(.int 39 0),(.int 0 0),(.ref 93),(.int 43 0),(.int 0 0),(.ref 100),(.int 60 0),(.int 0 0),(.ref 107),(.int 77 0),(.int 0 0),(.ref 114),(.int 89 0),(.int 0 0),(.ref 121),(.int 94 0),(.int 0 0),(.ref 128),(.int 115 0),(.int 0 0),(.ref 135)]),#[]⟩)
noncomputable def o14 : Params → Obj := (fun p => ⟨.none,(.none ),(.func ⟨"_wall","_wall",fa (bs 0),.stmts (fb (bs 0)),fs (bs 0),0,[],.none,.none,.none,.none,(.none ),.none,.none,0⟩),#[]⟩)
noncomputable def o15 : Params → Obj := (fun p => ⟨(.type "tuple"),(.none ),(.seq #[(.str "x" 197),(.str "t" 198),(.str "f" 199)] 0),#[]⟩)
noncomputable def o16 : Params → Obj := (fun p => ⟨.none,(.none ),(.func ⟨"_pe_doc","_pe_doc",fa (bs 1),.stmts (fb (bs 1)),fs (bs 1),0,[],.none,.none,.none,.none,(.none ),.none,.none,0⟩),#[]⟩)
noncomputable def o17 : Params → Obj := (fun p => ⟨(.type "code"),(.none ),(.fields #[(.str "_pe_doc" 194),(.str "_pe_doc" 195),(.str "/claim/cut.py" 196),(.int 4 0),(.int 1 0),(.int 0 0),(.int 0 0),(.int 3 0),(.ref 22),(.bool .true),(.int 181 0),(.ref 23),.none,(.ref 24),(.ref 25),(.ref 26),(.int 200 0),(.int 4 0),(.str "/claim/cut.py" 201)]),#[]⟩)
noncomputable def o18 : Params → Obj := (fun p => ⟨(.type "function"),(.none ),(.func ⟨"_pe_doc","_pe_doc",fa (bs 1),.stmts (fb (bs 1)),fs (bs 1),3,[],.none,.none,.none,(.str "__main__" 164),(.none ),(.ref 27),.none,0⟩),#[]⟩)
noncomputable def o19 : Params → Obj := (fun p => ⟨.none,(.none ),(.func ⟨"_plain_name","_plain_name",fa (bs 3),.stmts (fb (bs 3)),fs (bs 3),0,[],.none,.none,.none,.none,(.none ),.none,.none,0⟩),#[]⟩)
noncomputable def o20 : Params → Obj := (fun p => ⟨(.type "builtin_function_or_method"),(.none ),(.fields #[(.builtin "type.__prepare__"),(.type "type")]),#[]⟩)
noncomputable def o21 : Params → Obj := (fun p => ⟨(.type "dict"),(.none ),(.dict #[⟨(PySem.PyData.keyHash p "__module__"),(.str "__module__" 223),(.str "abc" 214)⟩,⟨(PySem.PyData.keyHash p "__qualname__"),(.str "__qualname__" 225),(.str "ABCMeta" 224)⟩,⟨(PySem.PyData.keyHash p "__firstlineno__"),(.str "__firstlineno__" 227),(.int 19 226)⟩,⟨(PySem.PyData.keyHash p "register"),(.str "register" 235),(.ref 49)⟩,⟨(PySem.PyData.keyHash p "__static_attributes__"),(.str "__static_attributes__" 236),(.ref 50)⟩] 5),#[]⟩)
noncomputable def o22 : Params → Obj := (fun p => ⟨.none,(.none ),(.fields #[(.int 21 0),(.int 4 0),(.ref 48)]),#[]⟩)
noncomputable def o23 : Params → Obj := (fun p => ⟨(.type "code"),(.none ),(.fields #[(.str "ABCMeta" 218),(.str "ABCMeta" 219),(.str "/claim/cut.py" 220),(.int 19 0),(.int 0 0),(.int 0 0),(.int 0 0),(.int 0 0),(.ref 39),(.bool .false),(.int 181 0),(.ref 40),.none,.none,.none,.none,(.int 221 0),(.int 19 0),(.str "/claim/cut.py" 222)]),#[]⟩)
noncomputable def o24 : Params → Obj := (fun p => ⟨(.type "frame"),(.none ),.plain,#[(some (.ref 41)),(some (.ref 3)),(some (.ref 38)),(.none ),(some (.str "abc" 214)),(.none ),(some (.ref 0))]⟩)
noncomputable def o25 : Params → Obj := (fun p => ⟨.none,(.none ),(.func ⟨"register","ABCMeta.register",fa (cs 5 0),.stmts (fb (cs 5 0)),fs (cs 5 0),0,[],.none,.none,.none,.none,(.none ),.none,.none,0⟩),#[]⟩)
noncomputable def o26 : Params → Obj := (fun p => ⟨(.type "super"),(.none ),(.fields #[(.ref 52),(.ref 52),(.ref 52)]),#[]⟩)
noncomputable def o27 : Params → Obj := (fun p => ⟨(.type "builtin_function_or_method"),(.none ),(.fields #[(.builtin "object.__init_subclass__"),(.ref 52)]),#[]⟩)
noncomputable def o28 : Params → Obj := (fun p => ⟨(.type "dict"),(.none ),(.dict #[⟨(PySem.PyData.keyHash p "__module__"),(.str "__module__" 249),(.str "collections.abc" 240)⟩,⟨(PySem.PyData.keyHash p "__qualname__"),(.str "__qualname__" 251),(.str "_ABCLike" 250)⟩,⟨(PySem.PyData.keyHash p "__firstlineno__"),(.str "__firstlineno__" 253),(.int 24 252)⟩,⟨(PySem.PyData.keyHash p "__instancecheck__"),(.str "__instancecheck__" 262),(.ref 68)⟩,⟨(PySem.PyData.keyHash p "__subclasscheck__"),(.str "__subclasscheck__" 270),(.ref 75)⟩,⟨(PySem.PyData.keyHash p "register"),(.str "register" 278),(.ref 82)⟩,⟨(PySem.PyData.keyHash p "__static_attributes__"),(.str "__static_attributes__" 279),(.ref 83)⟩] 7),#[]⟩)
noncomputable def o29 : Params → Obj := (fun p => ⟨.none,(.none ),(.fields #[(.int 26 0),(.int 4 0),(.ref 67),(.int 32 0),(.int 4 0),(.ref 74),(.int 37 0),(.int 4 0),(.ref 81)]),#[]⟩)
noncomputable def o30 : Params → Obj := (fun p => ⟨(.type "code"),(.none ),(.fields #[(.str "_ABCLike" 244),(.str "_ABCLike" 245),(.str "/claim/cut.py" 246),(.int 24 0),(.int 0 0),(.int 0 0),(.int 0 0),(.int 0 0),(.ref 58),(.bool .false),(.int 181 0),(.ref 59),.none,.none,.none,.none,(.int 247 0),(.int 24 0),(.str "/claim/cut.py" 248)]),#[]⟩)
noncomputable def o31 : Params → Obj := (fun p => ⟨(.type "frame"),(.none ),.plain,#[(some (.ref 60)),(some (.ref 3)),(some (.ref 57)),(.none ),(some (.str "collections.abc" 240)),(.none ),(some (.ref 0))]⟩)
noncomputable def o32 : Params → Obj := (fun p => ⟨.none,(.none ),(.func ⟨"__instancecheck__","_ABCLike.__instancecheck__",fa (cs 7 0),.stmts (fb (cs 7 0)),fs (cs 7 0),0,[],.none,.none,.none,.none,(.none ),.none,.none,0⟩),#[]⟩)
noncomputable def o33 : Params → Obj := (fun p => ⟨.none,(.none ),(.func ⟨"__subclasscheck__","_ABCLike.__subclasscheck__",fa (cs 7 1),.stmts (fb (cs 7 1)),fs (cs 7 1),0,[],.none,.none,.none,.none,(.none ),.none,.none,0⟩),#[]⟩)
noncomputable def o34 : Params → Obj := (fun p => ⟨.none,(.none ),(.func ⟨"register","_ABCLike.register",fa (cs 7 2),.stmts (fb (cs 7 2)),fs (cs 7 2),0,[],.none,.none,.none,.none,(.none ),.none,.none,0⟩),#[]⟩)
noncomputable def o35 : Params → Obj := (fun p => ⟨(.type "super"),(.none ),(.fields #[(.ref 85),(.ref 85),(.ref 85)]),#[]⟩)
noncomputable def o36 : Params → Obj := (fun p => ⟨(.type "builtin_function_or_method"),(.none ),(.fields #[(.builtin "object.__init_subclass__"),(.ref 85)]),#[]⟩)
noncomputable def o37 : Params → Obj := (fun p => ⟨.none,(.none ),(.func ⟨"_abc_plain_meta","_abc_plain_meta",fa (bs 8),.stmts (fb (bs 8)),fs (bs 8),0,[],.none,.none,.none,.none,(.none ),.none,.none,0⟩),#[]⟩)
noncomputable def o38 : Params → Obj := (fun p => ⟨.none,(.none ),(.func ⟨"fspath","fspath",fa (bs 10),.stmts (fb (bs 10)),fs (bs 10),0,[],.none,.none,.none,.none,(.none ),.none,.none,0⟩),#[]⟩)
noncomputable def o39 : Params → Obj := (fun p => ⟨.none,(.none ),(.func ⟨"_splitext","_splitext",fa (bs 12),.stmts (fb (bs 12)),fs (bs 12),0,[],.none,.none,.none,.none,(.none ),.none,.none,0⟩),#[]⟩)
noncomputable def o40 : Params → Obj := (fun p => ⟨.none,(.none ),(.func ⟨"_check_arg_types","_check_arg_types",fa (bs 13),.stmts (fb (bs 13)),fs (bs 13),0,[],.none,.none,.none,.none,(.none ),.none,.none,0⟩),#[]⟩)
noncomputable def o41 : Params → Obj := (fun p => ⟨.none,(.none ),(.func ⟨"_get_sep","_get_sep",fa (bs 15),.stmts (fb (bs 15)),fs (bs 15),0,[],.none,.none,.none,.none,(.none ),.none,.none,0⟩),#[]⟩)
noncomputable def o42 : Params → Obj := (fun p => ⟨.none,(.none ),(.func ⟨"join","join",fa (bs 16),.stmts (fb (bs 16)),fs (bs 16),0,[],.none,.none,.none,.none,(.none ),.none,.none,0⟩),#[]⟩)
noncomputable def o43 : Params → Obj := (fun p => ⟨.none,(.none ),(.func ⟨"splitext","splitext",fa (bs 17),.stmts (fb (bs 17)),fs (bs 17),0,[],.none,.none,.none,.none,(.none ),.none,.none,0⟩),#[]⟩)
noncomputable def o44 : Params → Obj := (fun p => ⟨(.type "function"),(.none ),(.func ⟨"splitext","splitext",fa (bs 17),.stmts (fb (bs 17)),fs (bs 17),3,[],.none,.none,.none,(.str "cpy313.posixpath" 330),(.none ),(.ref 135),.none,0⟩),#[]⟩)
noncomputable def o45 : Params → Obj := (fun p => ⟨(.type "dict"),(.none ),(.dict #[⟨(PySem.PyData.keyHash p "__name__"),(.str "__name__" 165),(.str "cpy313.posixpath" 330)⟩,⟨(PySem.PyData.keyHash p "__doc__"),(.str "__doc__" 166),.none⟩,⟨(PySem.PyData.keyHash p "__package__"),(.str "__package__" 167),.none⟩,⟨(PySem.PyData.keyHash p "__loader__"),(.str "__loader__" 168),(.builtin "__main__.__loader__#opaque")⟩,⟨(PySem.PyData.keyHash p "__spec__"),(.str "__spec__" 169),.none⟩,⟨(PySem.PyData.keyHash p "__annotations__"),(.str "__annotations__" 170),(.ref 6)⟩,⟨(PySem.PyData.keyHash p "__builtins__"),(.str "__builtins__" 171),(.ref 4)⟩,⟨(PySem.PyData.keyHash p "__file__"),(.str "__file__" 173),(.str "/claim/cut.py" 172)⟩,⟨(PySem.PyData.keyHash p "__cached__"),(.str "__cached__" 174),.none⟩,⟨(PySem.PyData.keyHash p "_wall"),(.str "_wall" 193),(.ref 21)⟩,⟨(PySem.PyData.keyHash p "_pe_doc"),(.str "_pe_doc" 202),(.ref 28)⟩,⟨(PySem.PyData.keyHash p "_plain_name"),(.str "_plain_name" 213),(.ref 35)⟩,⟨(PySem.PyData.keyHash p "ABCMeta"),(.str "ABCMeta" 239),(.ref 52)⟩,⟨(PySem.PyData.keyHash p "_ABCLike"),(.str "_ABCLike" 282),(.ref 85)⟩,⟨(PySem.PyData.keyHash p "_abc_plain_meta"),(.str "_abc_plain_meta" 289),(.ref 94)⟩,⟨(PySem.PyData.keyHash p "fspath"),(.str "fspath" 301),(.ref 101)⟩,⟨(PySem.PyData.keyHash p "_splitext"),(.str "_splitext" 318),(.ref 108)⟩,⟨(PySem.PyData.keyHash p "_check_arg_types"),(.str "_check_arg_types" 329),(.ref 115)⟩,⟨(PySem.PyData.keyHash p "_get_sep"),(.str "_get_sep" 338),(.ref 122)⟩,⟨(PySem.PyData.keyHash p "join"),(.str "join" 350),(.ref 129)⟩,⟨(PySem.PyData.keyHash p "splitext"),(.str "splitext" 359),(.ref 136)⟩,⟨(PySem.PyData.keyHash p "splitroot"),(.str "splitroot" 404),(.ref 146)⟩,⟨(PySem.PyData.keyHash p "normpath"),(.str "normpath" 420),(.ref 153)⟩,⟨(PySem.PyData.keyHash p "CRLF"),(.str "CRLF" 422),(.str "\x0d\n" 421)⟩,⟨(PySem.PyData.keyHash p "NL"),(.str "NL" 424),(.str "\n" 423)⟩] 25),#[]⟩)
noncomputable def o46 : Params → Obj := (fun p => ⟨.none,(.none ),(.fields #[(.int 1 0),(.int 0 0),(.ref 20),(.int 4 0),(.int 0 0),(.ref 27),(.int 13 0),(.int 0 0),(.ref 34),(.int 19 0),(.int 0 0),(.ref 41),(.int 24 0),(.int 0 0),(.ref 60),(.int 39 0),(.int 0 0),(.ref 93),(.int 43 0),(.int 0 0),(.ref 100),(.int 60 0),(.int 0 0),(.ref 107),(.int 77 0),(.int 0 0),(.ref 114),(.int 89 0),(.int 0 0),(.ref 121),(.int 94 0),(.int 0 0),(.ref 128),(.int 115 0),(.int 0 0),(.ref 135),(.int 125 0),(.int 0 0),(.ref 145),(.int 142 0),(.int 0 0),(.ref 152)]),#[]⟩)
noncomputable def o47 : Params → Obj := (fun p => ⟨(.type "frame"),(.none ),(.dict #[⟨(PySem.PyData.keyHash p "x"),(.str "x" 360),(.ref 108)⟩,⟨(PySem.PyData.keyHash p "t"),(.str "t" 362),(.type "function")⟩,⟨(PySem.PyData.keyHash p "f"),(.str "f" 375),(.ref 108)⟩] 3),#[]⟩)
noncomputable def o48 : Params → Obj := (fun p => ⟨(.type "tuple"),(.none ),(.seq #[(.str "abc" 365),(.str "collections.abc" 366),(.str "os" 367),(.str "string" 368)] 0),#[]⟩)
noncomputable def o49 : Params → Obj := (fun p => ⟨(.type "tuple"),(.none ),(.seq #[(.str "abc" 383),(.str "collections.abc" 384),(.str "os" 385),(.str "string" 386)] 0),#[]⟩)
noncomputable def o50 : Params → Obj := (fun p => ⟨.none,(.none ),(.func ⟨"splitroot","splitroot",fa (bs 19),.stmts (fb (bs 19)),fs (bs 19),0,[],.none,.none,.none,.none,(.none ),.none,.none,0⟩),#[]⟩)
noncomputable def o51 : Params → Obj := (fun p => ⟨.none,(.none ),(.func ⟨"normpath","normpath",fa (bs 20),.stmts (fb (bs 20)),fs (bs 20),0,[],.none,.none,.none,.none,(.none ),.none,.none,0⟩),#[]⟩)
noncomputable def o52 : Params → Obj := (fun p => ⟨(.type "dict"),(.none ),(.dict #[⟨(PySem.PyData.keyHash p "__name__"),(.str "__name__" 165),(.str "cpy313.posixpath" 330)⟩,⟨(PySem.PyData.keyHash p "__doc__"),(.str "__doc__" 166),.none⟩,⟨(PySem.PyData.keyHash p "__package__"),(.str "__package__" 167),.none⟩,⟨(PySem.PyData.keyHash p "__loader__"),(.str "__loader__" 168),(.builtin "__main__.__loader__#opaque")⟩,⟨(PySem.PyData.keyHash p "__spec__"),(.str "__spec__" 169),.none⟩,⟨(PySem.PyData.keyHash p "__annotations__"),(.str "__annotations__" 170),(.ref 6)⟩,⟨(PySem.PyData.keyHash p "__builtins__"),(.str "__builtins__" 171),(.ref 4)⟩,⟨(PySem.PyData.keyHash p "__file__"),(.str "__file__" 173),(.str "/claim/cut.py" 172)⟩,⟨(PySem.PyData.keyHash p "__cached__"),(.str "__cached__" 174),.none⟩,⟨(PySem.PyData.keyHash p "_wall"),(.str "_wall" 193),(.ref 21)⟩,⟨(PySem.PyData.keyHash p "_pe_doc"),(.str "_pe_doc" 202),(.ref 28)⟩,⟨(PySem.PyData.keyHash p "_plain_name"),(.str "_plain_name" 213),(.ref 35)⟩,⟨(PySem.PyData.keyHash p "ABCMeta"),(.str "ABCMeta" 239),(.ref 52)⟩,⟨(PySem.PyData.keyHash p "_ABCLike"),(.str "_ABCLike" 282),(.ref 85)⟩,⟨(PySem.PyData.keyHash p "_abc_plain_meta"),(.str "_abc_plain_meta" 289),(.ref 94)⟩,⟨(PySem.PyData.keyHash p "fspath"),(.str "fspath" 301),(.ref 101)⟩,⟨(PySem.PyData.keyHash p "_splitext"),(.str "_splitext" 318),(.ref 108)⟩,⟨(PySem.PyData.keyHash p "_check_arg_types"),(.str "_check_arg_types" 329),(.ref 115)⟩,⟨(PySem.PyData.keyHash p "_get_sep"),(.str "_get_sep" 338),(.ref 122)⟩,⟨(PySem.PyData.keyHash p "join"),(.str "join" 350),(.ref 129)⟩,⟨(PySem.PyData.keyHash p "splitext"),(.str "splitext" 359),(.ref 136)⟩,⟨(PySem.PyData.keyHash p "splitroot"),(.str "splitroot" 404),(.ref 146)⟩,⟨(PySem.PyData.keyHash p "normpath"),(.str "normpath" 420),(.ref 153)⟩,⟨(PySem.PyData.keyHash p "CRLF"),(.str "CRLF" 422),(.str "\x0d\n" 421)⟩,⟨(PySem.PyData.keyHash p "NL"),(.str "NL" 424),(.str "\n" 423)⟩,⟨(PySem.PyData.keyHash p "_QUOPRI_MAP"),(.str "_QUOPRI_MAP" 1452),(.ref 156)⟩] 26),#[]⟩)
noncomputable def o53 : Params → Obj := (fun p => ⟨(.type "range"),(.none ),(.fields #[(.int 0 426),(.int 256 425),(.int 1 427)]),#[]⟩)
noncomputable def o54 : Params → Obj := (fun p => ⟨(.type "range_iterator"),(.none ),(.fields #[(.int 256 0),(.int 0 0),(.int 1 0)]),#[]⟩)
noncomputable def o55 : Params → Obj := (fun p => ⟨(.type "dict"),(.none ),(.dict #[] 2),#[]⟩)
noncomputable def o56 : Params → Obj := (fun p => ⟨(.type "StopIteration"),(.none ),(.fields #[(.ref 158),.none,.none,.none,(.bool .false),.none]),#[]⟩)
noncomputable def o57 : Params → Obj := (fun p => ⟨(.type "range_iterator"),(.none ),(.fields #[(.int 1 0),(.int 255 0),(.int 1 0)]),#[]⟩)
noncomputable def o58 : Params → Obj := (fun p => ⟨(.type "list"),(.none ),(.seq #[(.str "=00" 431)] 1),#[]⟩)
noncomputable def o59 : Params → Obj := (fun p => ⟨(.type "dict"),(.none ),(.dict #[⟨(PySem.PyData.keyHash p "c"),(.str "c" 429),(.int 0 428)⟩] 1),#[]⟩)
noncomputable def o60 : Params → Obj := (fun p => ⟨(.type "range_iterator"),(.none ),(.fields #[(.int 65 0),(.int 191 0),(.int 1 0)]),#[]⟩)
noncomputable def o61 : Params → Obj := (fun p => ⟨(.type "list"),(.none ),(.seq (List.toArray ((.str "=00" 431) :: (.str "=01" 435) :: (.str "=02" 439) :: (.str "=03" 443) :: (.str "=04" 447) :: (.str "=05" 451) :: (.str "=06" 455) :: (.str "=07" 459) :: (.str "=08" 463) :: (.str "=09" 467) :: (.str "=0A" 471) :: (.str "=0B" 475) :: (.str "=0C" 479) :: (.str "=0D" 483) :: (.str "=0E" 487) :: (.str "=0F" 491) :: (.str "=10" 495) :: (.str "=11" 499) :: (.str "=12" 503) :: (.str "=13" 507) :: (.str "=14" 511) :: (.str "=15" 515) :: (.str "=16" 519) :: (.str "=17" 523) :: (.str "=18" 527) :: (.str "=19" 531) :: (.str "=1A" 535) :: (.str "=1B" 539) :: (.str "=1C" 543) :: (.str "=1D" 547) :: (.str "=1E" 551) :: (.str "=1F" 555) :: (.str "=20" 559) :: (.str "=21" 563) :: (.str "=22" 567) :: (.str "=23" 571) :: (.str "=24" 575) :: (.str "=25" 579) :: (.str "=26" 583) :: (.str "=27" 587) :: (.str "=28" 591) :: (.str "=29" 595) :: (.str "=2A" 599) :: (.str "=2B" 603) :: (.str "=2C" 607) :: (.str "=2D" 611) :: (.str "=2E" 615) :: (.str "=2F" 619) :: (.str "=30" 623) :: (.str "=31" 627) :: (.str "=32" 631) :: (.str "=33" 635) :: (.str "=34" 639) :: (.str "=35" 643) :: (.str "=36" 647) :: (.str "=37" 651) :: (.str "=38" 655) :: (.str "=39" 659) :: (.str "=3A" 663) :: (.str "=3B" 667) :: (.str "=3C" 671) :: (.str "=3D" 675) :: (.str "=3E" 679) :: (.str "=3F" 683) :: (.str "=40" 687) :: [])) 65),#[]⟩)
noncomputable def o62 : Params → Obj := (fun p => ⟨(.type "dict"),(.none ),(.dict #[⟨(PySem.PyData.keyHash p "c"),(.str "c" 429),(.int 64 684)⟩] 1),#[]⟩)
noncomputable def o63 : Params → Obj := (fun p => ⟨(.type "range_iterator"),(.none ),(.fields #[(.int 129 0),(.int 127 0),(.int 1 0)]),#[]⟩)
noncomputable def o64 : Params → Obj := (fun p => ⟨(.type "list"),(.none ),(.seq (List.toArray ((.str "=00" 431) :: (.str "=01" 435) :: (.str "=02" 439) :: (.str "=03" 443) :: (.str "=04" 447) :: (.str "=05" 451) :: (.str "=06" 455) :: (.str "=07" 459) :: (.str "=08" 463) :: (.str "=09" 467) :: (.str "=0A" 471) :: (.str "=0B" 475) :: (.str "=0C" 479) :: (.str "=0D" 483) :: (.str "=0E" 487) :: (.str "=0F" 491) :: (.str "=10" 495) :: (.str "=11" 499) :: (.str "=12" 503) :: (.str "=13" 507) :: (.str "=14" 511) :: (.str "=15" 515) :: (.str "=16" 519) :: (.str "=17" 523) :: (.str "=18" 527) :: (.str "=19" 531) :: (.str "=1A" 535) :: (.str "=1B" 539) :: (.str "=1C" 543) :: (.str "=1D" 547) :: (.str "=1E" 551) :: (.str "=1F" 555) :: (.str "=20" 559) :: (.str "=21" 563) :: (.str "=22" 567) :: (.str "=23" 571) :: (.str "=24" 575) :: (.str "=25" 579) :: (.str "=26" 583) :: (.str "=27" 587) :: (.str "=28" 591) :: (.str "=29" 595) :: (.str "=2A" 599) :: (.str "=2B" 603) :: (.str "=2C" 607) :: (.str "=2D" 611) :: (.str "=2E" 615) :: (.str "=2F" 619) :: (.str "=30" 623) :: (.str "=31" 627) :: (.str "=32" 631) :: (.str "=33" 635) :: (.str "=34" 639) :: (.str "=35" 643) :: (.str "=36" 647) :: (.str "=37" 651) :: (.str "=38" 655) :: (.str "=39" 659) :: (.str "=3A" 663) :: (.str "=3B" 667) :: (.str "=3C" 671) :: (.str "=3D" 675) :: (.str "=3E" 679) :: (.str "=3F" 683) :: (.str "=40" 687) :: (.str "=41" 691) :: (.str "=42" 695) :: (.str "=43" 699) :: (.str "=44" 703) :: (.str "=45" 707) :: (.str "=46" 711) :: (.str "=47" 715) :: (.str "=48" 719) :: (.str "=49" 723) :: (.str "=4A" 727) :: (.str "=4B" 731) :: (.str "=4C" 735) :: (.str "=4D" 739) :: (.str "=4E" 743) :: (.str "=4F" 747) :: (.str "=50" 751) :: (.str "=51" 755) :: (.str "=52" 759) :: (.str "=53" 763) :: (.str "=54" 767) :: (.str "=55" 771) :: (.str "=56" 775) :: (.str "=57" 779) :: (.str "=58" 783) :: (.str "=59" 787) :: (.str "=5A" 791) :: (.str "=5B" 795) :: (.str "=5C" 799) :: (.str "=5D" 803) :: (.str "=5E" 807) :: (.str "=5F" 811) :: (.str "=60" 815) :: (.str "=61" 819) :: (.str "=62" 823) :: (.str "=63" 827) :: (.str "=64" 831) :: (.str "=65" 835) :: (.str "=66" 839) :: (.str "=67" 843) :: (.str "=68" 847) :: (.str "=69" 851) :: (.str "=6A" 855) :: (.str "=6B" 859) :: (.str "=6C" 863) :: (.str "=6D" 867) :: (.str "=6E" 871) :: (.str "=6F" 875) :: (.str "=70" 879) :: (.str "=71" 883) :: (.str "=72" 887) :: (.str "=73" 891) :: (.str "=74" 895) :: (.str "=75" 899) :: (.str "=76" 903) :: (.str "=77" 907) :: (.str "=78" 911) :: (.str "=79" 915) :: (.str "=7A" 919) :: (.str "=7B" 923) :: (.str "=7C" 927) :: (.str "=7D" 931) :: (.str "=7E" 935) :: (.str "=7F" 939) :: (.str "=80" 943) :: [])) 129),#[]⟩)
noncomputable def o65 : Params → Obj := (fun p => ⟨(.type "dict"),(.none ),(.dict #[⟨(PySem.PyData.keyHash p "c"),(.str "c" 429),(.int 128 940)⟩] 1),#[]⟩)
noncomputable def o66 : Params → Obj := (fun p => ⟨(.type "range_iterator"),(.none ),(.fields #[(.int 193 0),(.int 63 0),(.int 1 0)]),#[]⟩)
noncomputable def o67 : Params → Obj := (fun p => ⟨(.type "list"),(.none ),(.seq (List.toArray ((.str "=00" 431) :: (.str "=01" 435) :: (.str "=02" 439) :: (.str "=03" 443) :: (.str "=04" 447) :: (.str "=05" 451) :: (.str "=06" 455) :: (.str "=07" 459) :: (.str "=08" 463) :: (.str "=09" 467) :: (.str "=0A" 471) :: (.str "=0B" 475) :: (.str "=0C" 479) :: (.str "=0D" 483) :: (.str "=0E" 487) :: (.str "=0F" 491) :: (.str "=10" 495) :: (.str "=11" 499) :: (.str "=12" 503) :: (.str "=13" 507) :: (.str "=14" 511) :: (.str "=15" 515) :: (.str "=16" 519) :: (.str "=17" 523) :: (.str "=18" 527) :: (.str "=19" 531) :: (.str "=1A" 535) :: (.str "=1B" 539) :: (.str "=1C" 543) :: (.str "=1D" 547) :: (.str "=1E" 551) :: (.str "=1F" 555) :: (.str "=20" 559) :: (.str "=21" 563) :: (.str "=22" 567) :: (.str "=23" 571) :: (.str "=24" 575) :: (.str "=25" 579) :: (.str "=26" 583) :: (.str "=27" 587) :: (.str "=28" 591) :: (.str "=29" 595) :: (.str "=2A" 599) :: (.str "=2B" 603) :: (.str "=2C" 607) :: (.str "=2D" 611) :: (.str "=2E" 615) :: (.str "=2F" 619) :: (.str "=30" 623) :: (.str "=31" 627) :: (.str "=32" 631) :: (.str "=33" 635) :: (.str "=34" 639) :: (.str "=35" 643) :: (.str "=36" 647) :: (.str "=37" 651) :: (.str "=38" 655) :: (.str "=39" 659) :: (.str "=3A" 663) :: (.str "=3B" 667) :: (.str "=3C" 671) :: (.str "=3D" 675) :: (.str "=3E" 679) :: (.str "=3F" 683) :: (.str "=40" 687) :: (.str "=41" 691) :: (.str "=42" 695) :: (.str "=43" 699) :: (.str "=44" 703) :: (.str "=45" 707) :: (.str "=46" 711) :: (.str "=47" 715) :: (.str "=48" 719) :: (.str "=49" 723) :: (.str "=4A" 727) :: (.str "=4B" 731) :: (.str "=4C" 735) :: (.str "=4D" 739) :: (.str "=4E" 743) :: (.str "=4F" 747) :: (.str "=50" 751) :: (.str "=51" 755) :: (.str "=52" 759) :: (.str "=53" 763) :: (.str "=54" 767) :: (.str "=55" 771) :: (.str "=56" 775) :: (.str "=57" 779) :: (.str "=58" 783) :: (.str "=59" 787) :: (.str "=5A" 791) :: (.str "=5B" 795) :: (.str "=5C" 799) :: (.str "=5D" 803) :: (.str "=5E" 807) :: (.str "=5F" 811) :: (.str "=60" 815) :: (.str "=61" 819) :: (.str "=62" 823) :: (.str "=63" 827) :: (.str "=64" 831) :: (.str "=65" 835) :: (.str "=66" 839) :: (.str "=67" 843) :: (.str "=68" 847) :: (.str "=69" 851) :: (.str "=6A" 855) :: (.str "=6B" 859) :: (.str "=6C" 863) :: (.str "=6D" 867) :: (.str "=6E" 871) :: (.str "=6F" 875) :: (.str "=70" 879) :: (.str "=71" 883) :: (.str "=72" 887) :: (.str "=73" 891) :: (.str "=74" 895) :: (.str "=75" 899) :: (.str "=76" 903) :: (.str "=77" 907) :: (.str "=78" 911) :: (.str "=79" 915) :: (.str "=7A" 919) :: (.str "=7B" 923) :: (.str "=7C" 927) :: (.str "=7D" 931) :: (.str "=7E" 935) :: (.str "=7F" 939) :: (.str "=80" 943) :: (.str "=81" 947) :: (.str "=82" 951) :: (.str "=83" 955) :: (.str "=84" 959) :: (.str "=85" 963) :: (.str "=86" 967) :: (.str "=87" 971) :: (.str "=88" 975) :: (.str "=89" 979) :: (.str "=8A" 983) :: (.str "=8B" 987) :: (.str "=8C" 991) :: (.str "=8D" 995) :: (.str "=8E" 999) :: (.str "=8F" 1003) :: (.str "=90" 1007) :: (.str "=91" 1011) :: (.str "=92" 1015) :: (.str "=93" 1019) :: (.str "=94" 1023) :: (.str "=95" 1027) :: (.str "=96" 1031) :: (.str "=97" 1035) :: (.str "=98" 1039) :: (.str "=99" 1043) :: (.str "=9A" 1047) :: (.str "=9B" 1051) :: (.str "=9C" 1055) :: (.str "=9D" 1059) :: (.str "=9E" 1063) :: (.str "=9F" 1067) :: (.str "=A0" 1071) :: (.str "=A1" 1075) :: (.str "=A2" 1079) :: (.str "=A3" 1083) :: (.str "=A4" 1087) :: (.str "=A5" 1091) :: (.str "=A6" 1095) :: (.str "=A7" 1099) :: (.str "=A8" 1103) :: (.str "=A9" 1107) :: (.str "=AA" 1111) :: (.str "=AB" 1115) :: (.str "=AC" 1119) :: (.str "=AD" 1123) :: (.str "=AE" 1127) :: (.str "=AF" 1131) :: (.str "=B0" 1135) :: (.str "=B1" 1139) :: (.str "=B2" 1143) :: (.str "=B3" 1147) :: (.str "=B4" 1151) :: (.str "=B5" 1155) :: (.str "=B6" 1159) :: (.str "=B7" 1163) :: (.str "=B8" 1167) :: (.str "=B9" 1171) :: (.str "=BA" 1175) :: (.str "=BB" 1179) :: (.str "=BC" 1183) :: (.str "=BD" 1187) :: (.str "=BE" 1191) :: (.str "=BF" 1195) :: (.str "=C0" 1199) :: [])) 193),#[]⟩)
noncomputable def o68 : Params → Obj := (fun p => ⟨(.type "dict"),(.none ),(.dict #[⟨(PySem.PyData.keyHash p "c"),(.str "c" 429),(.int 192 1196)⟩] 1),#[]⟩)
noncomputable def o69 : Params → Obj := (fun p => ⟨(.type "dict"),(.none ),(.dict #[⟨(PySem.PyData.keyHash p "__name__"),(.str "__name__" 165),(.str "cpy313.email.quoprimime" 1468)⟩,⟨(PySem.PyData.keyHash p "__doc__"),(.str "__doc__" 166),.none⟩,⟨(PySem.PyData.keyHash p "__package__"),(.str "__package__" 167),.none⟩,⟨(PySem.PyData.keyHash p "__loader__"),(.str "__loader__" 168),(.builtin "__main__.__loader__#opaque")⟩,⟨(PySem.PyData.keyHash p "__spec__"),(.str "__spec__" 169),.none⟩,⟨(PySem.PyData.keyHash p "__annotations__"),(.str "__annotations__" 170),(.ref 6)⟩,⟨(PySem.PyData.keyHash p "__builtins__"),(.str "__builtins__" 171),(.ref 4)⟩,⟨(PySem.PyData.keyHash p "__file__"),(.str "__file__" 173),(.str "/claim/cut.py" 172)⟩,⟨(PySem.PyData.keyHash p "__cached__"),(.str "__cached__" 174),.none⟩,⟨(PySem.PyData.keyHash p "_wall"),(.str "_wall" 193),(.ref 21)⟩,⟨(PySem.PyData.keyHash p "_pe_doc"),(.str "_pe_doc" 202),(.ref 28)⟩,⟨(PySem.PyData.keyHash p "_plain_name"),(.str "_plain_name" 213),(.ref 35)⟩,⟨(PySem.PyData.keyHash p "ABCMeta"),(.str "ABCMeta" 239),(.ref 52)⟩,⟨(PySem.PyData.keyHash p "_ABCLike"),(.str "_ABCLike" 282),(.ref 85)⟩,⟨(PySem.PyData.keyHash p "_abc_plain_meta"),(.str "_abc_plain_meta" 289),(.ref 94)⟩,⟨(PySem.PyData.keyHash p "fspath"),(.str "fspath" 301),(.ref 101)⟩,⟨(PySem.PyData.keyHash p "_splitext"),(.str "_splitext" 318),(.ref 108)⟩,⟨(PySem.PyData.keyHash p "_check_arg_types"),(.str "_check_arg_types" 329),(.ref 115)⟩,⟨(PySem.PyData.keyHash p "_get_sep"),(.str "_get_sep" 338),(.ref 122)⟩,⟨(PySem.PyData.keyHash p "join"),(.str "join" 350),(.ref 129)⟩,⟨(PySem.PyData.keyHash p "splitext"),(.str "splitext" 359),(.ref 136)⟩,⟨(PySem.PyData.keyHash p "splitroot"),(.str "splitroot" 404),(.ref 146)⟩,⟨(PySem.PyData.keyHash p "normpath"),(.str "normpath" 420),(.ref 153)⟩,⟨(PySem.PyData.keyHash p "CRLF"),(.str "CRLF" 422),(.str "\x0d\n" 421)⟩,⟨(PySem.PyData.keyHash p "NL"),(.str "NL" 424),(.str "\n" 423)⟩,⟨(PySem.PyData.keyHash p "_QUOPRI_MAP"),(.str "_QUOPRI_MAP" 1452),(.ref 156)⟩,⟨(PySem.PyData.keyHash p "_QUOPRI_HEADER_MAP"),(.str "_QUOPRI_HEADER_MAP" 1453),(.ref 161)⟩,⟨(PySem.PyData.keyHash p "_QUOPRI_BODY_MAP"),(.str "_QUOPRI_BODY_MAP" 1454),(.ref 163)⟩,⟨(PySem.PyData.keyHash p "ascii_lowercase"),(.str "ascii_lowercase" 1456),(.str "abcdefghijklmnopqrstuvwxyz" 1455)⟩,⟨(PySem.PyData.keyHash p "ascii_uppercase"),(.str "ascii_uppercase" 1458),(.str "ABCDEFGHIJKLMNOPQRSTUVWXYZ" 1457)⟩,⟨(PySem.PyData.keyHash p "ascii_letters"),(.str "ascii_letters" 1460),(.str "abcdefghijklmnopqrstuvwxyzABCDEFGHIJKLMNOPQRSTUVWXYZ" 1459)⟩,⟨(PySem.PyData.keyHash p "digits"),(.str "digits" 1462),(.str "0123456789" 1461)⟩,⟨(PySem.PyData.keyHash p "hexdigits"),(.str "hexdigits" 1467),(.str "0123456789abcdefABCDEF" 1466)⟩] 33),#[]⟩)
noncomputable def o70 : Params → Obj := (fun p => ⟨(.type "slice"),(.none ),(.fields #[.none,.none,.none]),#[]⟩)
noncomputable def o71 : Params → Obj := (fun p => ⟨(.type "list"),(.none ),(.seq (List.toArray ((.str "=00" 431) :: (.str "=01" 435) :: (.str "=02" 439) :: (.str "=03" 443) :: (.str "=04" 447) :: (.str "=05" 451) :: (.str "=06" 455) :: (.str "=07" 459) :: (.str "=08" 463) :: (.str "=09" 467) :: (.str "=0A" 471) :: (.str "=0B" 475) :: (.str "=0C" 479) :: (.str "=0D" 483) :: (.str "=0E" 487) :: (.str "=0F" 491) :: (.str "=10" 495) :: (.str "=11" 499) :: (.str "=12" 503) :: (.str "=13" 507) :: (.str "=14" 511) :: (.str "=15" 515) :: (.str "=16" 519) :: (.str "=17" 523) :: (.str "=18" 527) :: (.str "=19" 531) :: (.str "=1A" 535) :: (.str "=1B" 539) :: (.str "=1C" 543) :: (.str "=1D" 547) :: (.str "=1E" 551) :: (.str "=1F" 555) :: (.str "=20" 559) :: (.str "=21" 563) :: (.str "=22" 567) :: (.str "=23" 571) :: (.str "=24" 575) :: (.str "=25" 579) :: (.str "=26" 583) :: (.str "=27" 587) :: (.str "=28" 591) :: (.str "=29" 595) :: (.str "=2A" 599) :: (.str "=2B" 603) :: (.str "=2C" 607) :: (.str "=2D" 611) :: (.str "=2E" 615) :: (.str "=2F" 619) :: (.str "=30" 623) :: (.str "=31" 627) :: (.str "=32" 631) :: (.str "=33" 635) :: (.str "=34" 639) :: (.str "=35" 643) :: (.str "=36" 647) :: (.str "=37" 651) :: (.str "=38" 655) :: (.str "=39" 659) :: (.str "=3A" 663) :: (.str "=3B" 667) :: (.str "=3C" 671) :: (.str "=3D" 675) :: (.str "=3E" 679) :: (.str "=3F" 683) :: (.str "=40" 687) :: (.str "=41" 691) :: (.str "=42" 695) :: (.str "=43" 699) :: (.str "=44" 703) :: (.str "=45" 707) :: (.str "=46" 711) :: (.str "=47" 715) :: (.str "=48" 719) :: (.str "=49" 723) :: (.str "=4A" 727) :: (.str "=4B" 731) :: (.str "=4C" 735) :: (.str "=4D" 739) :: (.str "=4E" 743) :: (.str "=4F" 747) :: (.str "=50" 751) :: (.str "=51" 755) :: (.str "=52" 759) :: (.str "=53" 763) :: (.str "=54" 767) :: (.str "=55" 771) :: (.str "=56" 775) :: (.str "=57" 779) :: (.str "=58" 783) :: (.str "=59" 787) :: (.str "=5A" 791) :: (.str "=5B" 795) :: (.str "=5C" 799) :: (.str "=5D" 803) :: (.str "=5E" 807) :: (.str "=5F" 811) :: (.str "=60" 815) :: (.str "=61" 819) :: (.str "=62" 823) :: (.str "=63" 827) :: (.str "=64" 831) :: (.str "=65" 835) :: (.str "=66" 839) :: (.str "=67" 843) :: (.str "=68" 847) :: (.str "=69" 851) :: (.str "=6A" 855) :: (.str "=6B" 859) :: (.str "=6C" 863) :: (.str "=6D" 867) :: (.str "=6E" 871) :: (.str "=6F" 875) :: (.str "=70" 879) :: (.str "=71" 883) :: (.str "=72" 887) :: (.str "=73" 891) :: (.str "=74" 895) :: (.str "=75" 899) :: (.str "=76" 903) :: (.str "=77" 907) :: (.str "=78" 911) :: (.str "=79" 915) :: (.str "=7A" 919) :: (.str "=7B" 923) :: (.str "=7C" 927) :: (.str "=7D" 931) :: (.str "=7E" 935) :: (.str "=7F" 939) :: (.str "=80" 943) :: (.str "=81" 947) :: (.str "=82" 951) :: (.str "=83" 955) :: (.str "=84" 959) :: (.str "=85" 963) :: (.str "=86" 967) :: (.str "=87" 971) :: (.str "=88" 975) :: (.str "=89" 979) :: (.str "=8A" 983) :: (.str "=8B" 987) :: (.str "=8C" 991) :: (.str "=8D" 995) :: (.str "=8E" 999) :: (.str "=8F" 1003) :: (.str "=90" 1007) :: (.str "=91" 1011) :: (.str "=92" 1015) :: (.str "=93" 1019) :: (.str "=94" 1023) :: (.str "=95" 1027) :: (.str "=96" 1031) :: (.str "=97" 1035) :: (.str "=98" 1039) :: (.str "=99" 1043) :: (.str "=9A" 1047) :: (.str "=9B" 1051) :: (.str "=9C" 1055) :: (.str "=9D" 1059) :: (.str "=9E" 1063) :: (.str "=9F" 1067) :: (.str "=A0" 1071) :: (.str "=A1" 1075) :: (.str "=A2" 1079) :: (.str "=A3" 1083) :: (.str "=A4" 1087) :: (.str "=A5" 1091) :: (.str "=A6" 1095) :: (.str "=A7" 1099) :: (.str "=A8" 1103) :: (.str "=A9" 1107) :: (.str "=AA" 1111) :: (.str "=AB" 1115) :: (.str "=AC" 1119) :: (.str "=AD" 1123) :: (.str "=AE" 1127) :: (.str "=AF" 1131) :: (.str "=B0" 1135) :: (.str "=B1" 1139) :: (.str "=B2" 1143) :: (.str "=B3" 1147) :: (.str "=B4" 1151) :: (.str "=B5" 1155) :: (.str "=B6" 1159) :: (.str "=B7" 1163) :: (.str "=B8" 1167) :: (.str "=B9" 1171) :: (.str "=BA" 1175) :: (.str "=BB" 1179) :: (.str "=BC" 1183) :: (.str "=BD" 1187) :: (.str "=BE" 1191) :: (.str "=BF" 1195) :: (.str "=C0" 1199) :: (.str "=C1" 1203) :: (.str "=C2" 1207) :: (.str "=C3" 1211) :: (.str "=C4" 1215) :: (.str "=C5" 1219) :: (.str "=C6" 1223) :: (.str "=C7" 1227) :: (.str "=C8" 1231) :: (.str "=C9" 1235) :: (.str "=CA" 1239) :: (.str "=CB" 1243) :: (.str "=CC" 1247) :: (.str "=CD" 1251) :: (.str "=CE" 1255) :: (.str "=CF" 1259) :: (.str "=D0" 1263) :: (.str "=D1" 1267) :: (.str "=D2" 1271) :: (.str "=D3" 1275) :: (.str "=D4" 1279) :: (.str "=D5" 1283) :: (.str "=D6" 1287) :: (.str "=D7" 1291) :: (.str "=D8" 1295) :: (.str "=D9" 1299) :: (.str "=DA" 1303) :: (.str "=DB" 1307) :: (.str "=DC" 1311) :: (.str "=DD" 1315) :: (.str "=DE" 1319) :: (.str "=DF" 1323) :: (.str "=E0" 1327) :: (.str "=E1" 1331) :: (.str "=E2" 1335) :: (.str "=E3" 1339) :: (.str "=E4" 1343) :: (.str "=E5" 1347) :: (.str "=E6" 1351) :: (.str "=E7" 1355) :: (.str "=E8" 1359) :: (.str "=E9" 1363) :: (.str "=EA" 1367) :: (.str "=EB" 1371) :: (.str "=EC" 1375) :: (.str "=ED" 1379) :: (.str "=EE" 1383) :: (.str "=EF" 1387) :: (.str "=F0" 1391) :: (.str "=F1" 1395) :: (.str "=F2" 1399) :: (.str "=F3" 1403) :: (.str "=F4" 1407) :: (.str "=F5" 1411) :: (.str "=F6" 1415) :: (.str "=F7" 1419) :: (.str "=F8" 1423) :: (.str "=F9" 1427) :: (.str "=FA" 1431) :: (.str "=FB" 1435) :: (.str "=FC" 1439) :: (.str "=FD" 1443) :: (.str "=FE" 1447) :: (.str "=FF" 1451) :: [])) 0),#[]⟩)
noncomputable def o72 : Params → Obj := (fun p => ⟨(.type "dict"),(.none ),(.dict #[⟨(PySem.PyData.keyHash p "__name__"),(.str "__name__" 165),(.str "cpy313.email.quoprimime" 1468)⟩,⟨(PySem.PyData.keyHash p "__doc__"),(.str "__doc__" 166),.none⟩,⟨(PySem.PyData.keyHash p "__package__"),(.str "__package__" 167),.none⟩,⟨(PySem.PyData.keyHash p "__loader__"),(.str "__loader__" 168),(.builtin "__main__.__loader__#opaque")⟩,⟨(PySem.PyData.keyHash p "__spec__"),(.str "__spec__" 169),.none⟩,⟨(PySem.PyData.keyHash p "__annotations__"),(.str "__annotations__" 170),(.ref 6)⟩,⟨(PySem.PyData.keyHash p "__builtins__"),(.str "__builtins__" 171),(.ref 4)⟩,⟨(PySem.PyData.keyHash p "__file__"),(.str "__file__" 173),(.str "/claim/cut.py" 172)⟩,⟨(PySem.PyData.keyHash p "__cached__"),(.str "__cached__" 174),.none⟩,⟨(PySem.PyData.keyHash p "_wall"),(.str "_wall" 193),(.ref 21)⟩,⟨(PySem.PyData.keyHash p "_pe_doc"),(.str "_pe_doc" 202),(.ref 28)⟩,⟨(PySem.PyData.keyHash p "_plain_name"),(.str "_plain_name" 213),(.ref 35)⟩,⟨(PySem.PyData.keyHash p "ABCMeta"),(.str "ABCMeta" 239),(.ref 52)⟩,⟨(PySem.PyData.keyHash p "_ABCLike"),(.str "_ABCLike" 282),(.ref 85)⟩,⟨(PySem.PyData.keyHash p "_abc_plain_meta"),(.str "_abc_plain_meta" 289),(.ref 94)⟩,⟨(PySem.PyData.keyHash p "fspath"),(.str "fspath" 301),(.ref 101)⟩,⟨(PySem.PyData.keyHash p "_splitext"),(.str "_splitext" 318),(.ref 108)⟩,⟨(PySem.PyData.keyHash p "_check_arg_types"),(.str "_check_arg_types" 329),(.ref 115)⟩,⟨(PySem.PyData.keyHash p "_get_sep"),(.str "_get_sep" 338),(.ref 122)⟩,⟨(PySem.PyData.keyHash p "join"),(.str "join" 350),(.ref 129)⟩,⟨(PySem.PyData.keyHash p "splitext"),(.str "splitext" 359),(.ref 136)⟩,⟨(PySem.PyData.keyHash p "splitroot"),(.str "splitroot" 404),(.ref 146)⟩,⟨(PySem.PyData.keyHash p "normpath"),(.str "normpath" 420),(.ref 153)⟩,⟨(PySem.PyData.keyHash p "CRLF"),(.str "CRLF" 422),(.str "\x0d\n" 421)⟩,⟨(PySem.PyData.keyHash p "NL"),(.str "NL" 424),(.str "\n" 423)⟩,⟨(PySem.PyData.keyHash p "_QUOPRI_MAP"),(.str "_QUOPRI_MAP" 1452),(.ref 156)⟩,⟨(PySem.PyData.keyHash p "_QUOPRI_HEADER_MAP"),(.str "_QUOPRI_HEADER_MAP" 1453),(.ref 161)⟩,⟨(PySem.PyData.keyHash p "_QUOPRI_BODY_MAP"),(.str "_QUOPRI_BODY_MAP" 1454),(.ref 163)⟩,⟨(PySem.PyData.keyHash p "ascii_lowercase"),(.str "ascii_lowercase" 1456),(.str "abcdefghijklmnopqrstuvwxyz" 1455)⟩,⟨(PySem.PyData.keyHash p "ascii_uppercase"),(.str "ascii_uppercase" 1458),(.str "ABCDEFGHIJKLMNOPQRSTUVWXYZ" 1457)⟩,⟨(PySem.PyData.keyHash p "ascii_letters"),(.str "ascii_letters" 1460),(.str "abcdefghijklmnopqrstuvwxyzABCDEFGHIJKLMNOPQRSTUVWXYZ" 1459)⟩,⟨(PySem.PyData.keyHash p "digits"),(.str "digits" 1462),(.str "0123456789" 1461)⟩,⟨(PySem.PyData.keyHash p "hexdigits"),(.str "hexdigits" 1467),(.str "0123456789abcdefABCDEF" 1466)⟩,⟨(PySem.PyData.keyHash p "c"),(.str "c" 1478),(.int 57 1675)⟩] 34),#[]⟩)
noncomputable def o73 : Params → Obj := (fun p => ⟨(.type "list"),(.none ),(.seq (List.toArray ((.str "=00" 431) :: (.str "=01" 435) :: (.str "=02" 439) :: (.str "=03" 443) :: (.str "=04" 447) :: (.str "=05" 451) :: (.str "=06" 455) :: (.str "=07" 459) :: (.str "=08" 463) :: (.str "=09" 467) :: (.str "=0A" 471) :: (.str "=0B" 475) :: (.str "=0C" 479) :: (.str "=0D" 483) :: (.str "=0E" 487) :: (.str "=0F" 491) :: (.str "=10" 495) :: (.str "=11" 499) :: (.str "=12" 503) :: (.str "=13" 507) :: (.str "=14" 511) :: (.str "=15" 515) :: (.str "=16" 519) :: (.str "=17" 523) :: (.str "=18" 527) :: (.str "=19" 531) :: (.str "=1A" 535) :: (.str "=1B" 539) :: (.str "=1C" 543) :: (.str "=1D" 547) :: (.str "=1E" 551) :: (.str "=1F" 555) :: (.str "_" 1678) :: (.str "!" 1482) :: (.str "=22" 567) :: (.str "=23" 571) :: (.str "=24" 575) :: (.str "=25" 579) :: (.str "=26" 583) :: (.str "=27" 587) :: (.str "=28" 591) :: (.str "=29" 595) :: (.str "*" 1485) :: (.str "+" 1488) :: (.str "=2C" 607) :: (.str "-" 1479) :: (.str "=2E" 615) :: (.str "/" 1491) :: (.str "0" 1650) :: (.str "1" 1653) :: (.str "2" 1656) :: (.str "3" 1659) :: (.str "4" 1662) :: (.str "5" 1665) :: (.str "6" 1668) :: (.str "7" 1671) :: (.str "8" 1674) :: (.str "9" 1677) :: (.str "=3A" 663) :: (.str "=3B" 667) :: (.str "=3C" 671) :: (.str "=3D" 675) :: (.str "=3E" 679) :: (.str "=3F" 683) :: (.str "=40" 687) :: (.str "A" 1572) :: (.str "B" 1575) :: (.str "C" 1578) :: (.str "D" 1581) :: (.str "E" 1584) :: (.str "F" 1587) :: (.str "G" 1590) :: (.str "H" 1593) :: (.str "I" 1596) :: (.str "J" 1599) :: (.str "K" 1602) :: (.str "L" 1605) :: (.str "M" 1608) :: (.str "N" 1611) :: (.str "O" 1614) :: (.str "P" 1617) :: (.str "Q" 1620) :: (.str "R" 1623) :: (.str "S" 1626) :: (.str "T" 1629) :: (.str "U" 1632) :: (.str "V" 1635) :: (.str "W" 1638) :: (.str "X" 1641) :: (.str "Y" 1644) :: (.str "Z" 1647) :: (.str "=5B" 795) :: (.str "=5C" 799) :: (.str "=5D" 803) :: (.str "=5E" 807) :: (.str "=5F" 811) :: (.str "=60" 815) :: (.str "a" 1494) :: (.str "b" 1497) :: (.str "c" 1500) :: (.str "d" 1503) :: (.str "e" 1506) :: (.str "f" 1509) :: (.str "g" 1512) :: (.str "h" 1515) :: (.str "i" 1518) :: (.str "j" 1521) :: (.str "k" 1524) :: (.str "l" 1527) :: (.str "m" 1530) :: (.str "n" 1533) :: (.str "o" 1536) :: (.str "p" 1539) :: (.str "q" 1542) :: (.str "r" 1545) :: (.str "s" 1548) :: (.str "t" 1551) :: (.str "u" 1554) :: (.str "v" 1557) :: (.str "w" 1560) :: (.str "x" 1563) :: (.str "y" 1566) :: (.str "z" 1569) :: (.str "=7B" 923) :: (.str "=7C" 927) :: (.str "=7D" 931) :: (.str "=7E" 935) :: (.str "=7F" 939) :: (.str "=80" 943) :: (.str "=81" 947) :: (.str "=82" 951) :: (.str "=83" 955) :: (.str "=84" 959) :: (.str "=85" 963) :: (.str "=86" 967) :: (.str "=87" 971) :: (.str "=88" 975) :: (.str "=89" 979) :: (.str "=8A" 983) :: (.str "=8B" 987) :: (.str "=8C" 991) :: (.str "=8D" 995) :: (.str "=8E" 999) :: (.str "=8F" 1003) :: (.str "=90" 1007) :: (.str "=91" 1011) :: (.str "=92" 1015) :: (.str "=93" 1019) :: (.str "=94" 1023) :: (.str "=95" 1027) :: (.str "=96" 1031) :: (.str "=97" 1035) :: (.str "=98" 1039) :: (.str "=99" 1043) :: (.str "=9A" 1047) :: (.str "=9B" 1051) :: (.str "=9C" 1055) :: (.str "=9D" 1059) :: (.str "=9E" 1063) :: (.str "=9F" 1067) :: (.str "=A0" 1071) :: (.str "=A1" 1075) :: (.str "=A2" 1079) :: (.str "=A3" 1083) :: (.str "=A4" 1087) :: (.str "=A5" 1091) :: (.str "=A6" 1095) :: (.str "=A7" 1099) :: (.str "=A8" 1103) :: (.str "=A9" 1107) :: (.str "=AA" 1111) :: (.str "=AB" 1115) :: (.str "=AC" 1119) :: (.str "=AD" 1123) :: (.str "=AE" 1127) :: (.str "=AF" 1131) :: (.str "=B0" 1135) :: (.str "=B1" 1139) :: (.str "=B2" 1143) :: (.str "=B3" 1147) :: (.str "=B4" 1151) :: (.str "=B5" 1155) :: (.str "=B6" 1159) :: (.str "=B7" 1163) :: (.str "=B8" 1167) :: (.str "=B9" 1171) :: (.str "=BA" 1175) :: (.str "=BB" 1179) :: (.str "=BC" 1183) :: (.str "=BD" 1187) :: (.str "=BE" 1191) :: (.str "=BF" 1195) :: (.str "=C0" 1199) :: (.str "=C1" 1203) :: (.str "=C2" 1207) :: (.str "=C3" 1211) :: (.str "=C4" 1215) :: (.str "=C5" 1219) :: (.str "=C6" 1223) :: (.str "=C7" 1227) :: (.str "=C8" 1231) :: (.str "=C9" 1235) :: (.str "=CA" 1239) :: (.str "=CB" 1243) :: (.str "=CC" 1247) :: (.str "=CD" 1251) :: (.str "=CE" 1255) :: (.str "=CF" 1259) :: (.str "=D0" 1263) :: (.str "=D1" 1267) :: (.str "=D2" 1271) :: (.str "=D3" 1275) :: (.str "=D4" 1279) :: (.str "=D5" 1283) :: (.str "=D6" 1287) :: (.str "=D7" 1291) :: (.str "=D8" 1295) :: (.str "=D9" 1299) :: (.str "=DA" 1303) :: (.str "=DB" 1307) :: (.str "=DC" 1311) :: (.str "=DD" 1315) :: (.str "=DE" 1319) :: (.str "=DF" 1323) :: (.str "=E0" 1327) :: (.str "=E1" 1331) :: (.str "=E2" 1335) :: (.str "=E3" 1339) :: (.str "=E4" 1343) :: (.str "=E5" 1347) :: (.str "=E6" 1351) :: (.str "=E7" 1355) :: (.str "=E8" 1359) :: (.str "=E9" 1363) :: (.str "=EA" 1367) :: (.str "=EB" 1371) :: (.str "=EC" 1375) :: (.str "=ED" 1379) :: (.str "=EE" 1383) :: (.str "=EF" 1387) :: (.str "=F0" 1391) :: (.str "=F1" 1395) :: (.str "=F2" 1399) :: (.str "=F3" 1403) :: (.str "=F4" 1407) :: (.str "=F5" 1411) :: (.str "=F6" 1415) :: (.str "=F7" 1419) :: (.str "=F8" 1423) :: (.str "=F9" 1427) :: (.str "=FA" 1431) :: (.str "=FB" 1435) :: (.str "=FC" 1439) :: (.str "=FD" 1443) :: (.str "=FE" 1447) :: (.str "=FF" 1451) :: [])) 0),#[]⟩)
noncomputable def o74 : Params → Obj := (fun p => ⟨(.type "bytes_iterator"),(.none ),(.fields #[.none,(.int 67 0)]),#[]⟩)
noncomputable def o75 : Params → Obj := (fun p => ⟨(.type "StopIteration"),(.none ),(.fields #[(.ref 165),.none,.none,.none,(.bool .false),.none]),#[]⟩)
noncomputable def o76 : Params → Obj := (fun p => ⟨(.type "dict"),(.none ),(.dict #[⟨(PySem.PyData.keyHash p "__name__"),(.str "__name__" 165),(.str "cpy313.email.quoprimime" 1468)⟩,⟨(PySem.PyData.keyHash p "__doc__"),(.str "__doc__" 166),.none⟩,⟨(PySem.PyData.keyHash p "__package__"),(.str "__package__" 167),.none⟩,⟨(PySem.PyData.keyHash p "__loader__"),(.str "__loader__" 168),(.builtin "__main__.__loader__#opaque")⟩,⟨(PySem.PyData.keyHash p "__spec__"),(.str "__spec__" 169),.none⟩,⟨(PySem.PyData.keyHash p "__annotations__"),(.str "__annotations__" 170),(.ref 6)⟩,⟨(PySem.PyData.keyHash p "__builtins__"),(.str "__builtins__" 171),(.ref 4)⟩,⟨(PySem.PyData.keyHash p "__file__"),(.str "__file__" 173),(.str "/claim/cut.py" 172)⟩,⟨(PySem.PyData.keyHash p "__cached__"),(.str "__cached__" 174),.none⟩,⟨(PySem.PyData.keyHash p "_wall"),(.str "_wall" 193),(.ref 21)⟩,⟨(PySem.PyData.keyHash p "_pe_doc"),(.str "_pe_doc" 202),(.ref 28)⟩,⟨(PySem.PyData.keyHash p "_plain_name"),(.str "_plain_name" 213),(.ref 35)⟩,⟨(PySem.PyData.keyHash p "ABCMeta"),(.str "ABCMeta" 239),(.ref 52)⟩,⟨(PySem.PyData.keyHash p "_ABCLike"),(.str "_ABCLike" 282),(.ref 85)⟩,⟨(PySem.PyData.keyHash p "_abc_plain_meta"),(.str "_abc_plain_meta" 289),(.ref 94)⟩,⟨(PySem.PyData.keyHash p "fspath"),(.str "fspath" 301),(.ref 101)⟩,⟨(PySem.PyData.keyHash p "_splitext"),(.str "_splitext" 318),(.ref 108)⟩,⟨(PySem.PyData.keyHash p "_check_arg_types"),(.str "_check_arg_types" 329),(.ref 115)⟩,⟨(PySem.PyData.keyHash p "_get_sep"),(.str "_get_sep" 338),(.ref 122)⟩,⟨(PySem.PyData.keyHash p "join"),(.str "join" 350),(.ref 129)⟩,⟨(PySem.PyData.keyHash p "splitext"),(.str "splitext" 359),(.ref 136)⟩,⟨(PySem.PyData.keyHash p "splitroot"),(.str "splitroot" 404),(.ref 146)⟩,⟨(PySem.PyData.keyHash p "normpath"),(.str "normpath" 420),(.ref 153)⟩,⟨(PySem.PyData.keyHash p "CRLF"),(.str "CRLF" 422),(.str "\x0d\n" 421)⟩,⟨(PySem.PyData.keyHash p "NL"),(.str "NL" 424),(.str "\n" 423)⟩,⟨(PySem.PyData.keyHash p "_QUOPRI_MAP"),(.str "_QUOPRI_MAP" 1452),(.ref 156)⟩,⟨(PySem.PyData.keyHash p "_QUOPRI_HEADER_MAP"),(.str "_QUOPRI_HEADER_MAP" 1453),(.ref 161)⟩,⟨(PySem.PyData.keyHash p "_QUOPRI_BODY_MAP"),(.str "_QUOPRI_BODY_MAP" 1454),(.ref 163)⟩,⟨(PySem.PyData.keyHash p "ascii_lowercase"),(.str "ascii_lowercase" 1456),(.str "abcdefghijklmnopqrstuvwxyz" 1455)⟩,⟨(PySem.PyData.keyHash p "ascii_uppercase"),(.str "ascii_uppercase" 1458),(.str "ABCDEFGHIJKLMNOPQRSTUVWXYZ" 1457)⟩,⟨(PySem.PyData.keyHash p "ascii_letters"),(.str "ascii_letters" 1460),(.str "abcdefghijklmnopqrstuvwxyzABCDEFGHIJKLMNOPQRSTUVWXYZ" 1459)⟩,⟨(PySem.PyData.keyHash p "digits"),(.str "digits" 1462),(.str "0123456789" 1461)⟩,⟨(PySem.PyData.keyHash p "hexdigits"),(.str "hexdigits" 1467),(.str "0123456789abcdefABCDEF" 1466)⟩,⟨(PySem.PyData.keyHash p "c"),(.str "c" 1478),(.int 9 1964)⟩,⟨(PySem.PyData.keyHash p "unquote"),(.str "unquote" 1974),(.ref 176)⟩,⟨(PySem.PyData.keyHash p "quote"),(.str "quote" 1981),(.ref 183)⟩,⟨(PySem.PyData.keyHash p "_QUOPRI_BODY_ENCODE_MAP"),(.str "_QUOPRI_BODY_ENCODE_MAP" 1982),(.ref 185)⟩] 37),#[]⟩)
noncomputable def o77 : Params → Obj := (fun p => ⟨.none,(.none ),(.fields #[(.int 1 0),(.int 0 0),(.ref 20),(.int 4 0),(.int 0 0),(.ref 27),(.int 13 0),(.int 0 0),(.ref 34),(.int 19 0),(.int 0 0),(.ref 41),(.int 24 0),(.int 0 0),(.ref 60),(.int 39 0),(.int 0 0),(.ref 93),(.int 43 0),(.int 0 0),(.ref 100),(.int 60 0),(.int 0 0),(.ref 107),(.int 77 0),(.int 0 0),(.ref 114),(.int 89 0),(.int 0 0),(.ref 121),(.int 94 0),(.int 0 0),(.ref 128),(.int 115 0),(.int 0 0),(.ref 135),(.int 125 0),(.int 0 0),(.ref 145),(.int 142 0),(.int 0 0),(.ref 152),(.int 184 0),(.int 0 0),(.ref 175),(.int 187 0),(.int 0 0),(.ref 182)]),#[]⟩)
noncomputable def o78 : Params → Obj := (fun p => ⟨(.type "list"),(.none ),(.seq (List.toArray ((.str "=00" 431) :: (.str "=01" 435) :: (.str "=02" 439) :: (.str "=03" 443) :: (.str "=04" 447) :: (.str "=05" 451) :: (.str "=06" 455) :: (.str "=07" 459) :: (.str "=08" 463) :: (.str "\t" 1966) :: (.str "=0A" 471) :: (.str "=0B" 475) :: (.str "=0C" 479) :: (.str "=0D" 483) :: (.str "=0E" 487) :: (.str "=0F" 491) :: (.str "=10" 495) :: (.str "=11" 499) :: (.str "=12" 503) :: (.str "=13" 507) :: (.str "=14" 511) :: (.str "=15" 515) :: (.str "=16" 519) :: (.str "=17" 523) :: (.str "=18" 527) :: (.str "=19" 531) :: (.str "=1A" 535) :: (.str "=1B" 539) :: (.str "=1C" 543) :: (.str "=1D" 547) :: (.str "=1E" 551) :: (.str "=1F" 555) :: (.str " " 1684) :: (.str "!" 1687) :: (.str "\"" 1690) :: (.str "#" 1693) :: (.str "$" 1696) :: (.str "%" 1699) :: (.str "&" 1702) :: (.str "'" 1705) :: (.str "(" 1708) :: (.str ")" 1711) :: (.str "*" 1714) :: (.str "+" 1717) :: (.str "," 1720) :: (.str "-" 1723) :: (.str "." 1726) :: (.str "/" 1729) :: (.str "0" 1732) :: (.str "1" 1735) :: (.str "2" 1738) :: (.str "3" 1741) :: (.str "4" 1744) :: (.str "5" 1747) :: (.str "6" 1750) :: (.str "7" 1753) :: (.str "8" 1756) :: (.str "9" 1759) :: (.str ":" 1762) :: (.str ";" 1765) :: (.str "<" 1768) :: (.str "=3D" 675) :: (.str ">" 1771) :: (.str "?" 1774) :: (.str "@" 1777) :: (.str "A" 1780) :: (.str "B" 1783) :: (.str "C" 1786) :: (.str "D" 1789) :: (.str "E" 1792) :: (.str "F" 1795) :: (.str "G" 1798) :: (.str "H" 1801) :: (.str "I" 1804) :: (.str "J" 1807) :: (.str "K" 1810) :: (.str "L" 1813) :: (.str "M" 1816) :: (.str "N" 1819) :: (.str "O" 1822) :: (.str "P" 1825) :: (.str "Q" 1828) :: (.str "R" 1831) :: (.str "S" 1834) :: (.str "T" 1837) :: (.str "U" 1840) :: (.str "V" 1843) :: (.str "W" 1846) :: (.str "X" 1849) :: (.str "Y" 1852) :: (.str "Z" 1855) :: (.str "[" 1858) :: (.str "\\" 1861) :: (.str "]" 1864) :: (.str "^" 1867) :: (.str "_" 1870) :: (.str "`" 1873) :: (.str "a" 1876) :: (.str "b" 1879) :: (.str "c" 1882) :: (.str "d" 1885) :: (.str "e" 1888) :: (.str "f" 1891) :: (.str "g" 1894) :: (.str "h" 1897) :: (.str "i" 1900) :: (.str "j" 1903) :: (.str "k" 1906) :: (.str "l" 1909) :: (.str "m" 1912) :: (.str "n" 1915) :: (.str "o" 1918) :: (.str "p" 1921) :: (.str "q" 1924) :: (.str "r" 1927) :: (.str "s" 1930) :: (.str "t" 1933) :: (.str "u" 1936) :: (.str "v" 1939) :: (.str "w" 1942) :: (.str "x" 1945) :: (.str "y" 1948) :: (.str "z" 1951) :: (.str "{" 1954) :: (.str "|" 1957) :: (.str "}" 1960) :: (.str "~" 1963) :: (.str "=7F" 939) :: (.str "=80" 943) :: (.str "=81" 947) :: (.str "=82" 951) :: (.str "=83" 955) :: (.str "=84" 959) :: (.str "=85" 963) :: (.str "=86" 967) :: (.str "=87" 971) :: (.str "=88" 975) :: (.str "=89" 979) :: (.str "=8A" 983) :: (.str "=8B" 987) :: (.str "=8C" 991) :: (.str "=8D" 995) :: (.str "=8E" 999) :: (.str "=8F" 1003) :: (.str "=90" 1007) :: (.str "=91" 1011) :: (.str "=92" 1015) :: (.str "=93" 1019) :: (.str "=94" 1023) :: (.str "=95" 1027) :: (.str "=96" 1031) :: (.str "=97" 1035) :: (.str "=98" 1039) :: (.str "=99" 1043) :: (.str "=9A" 1047) :: (.str "=9B" 1051) :: (.str "=9C" 1055) :: (.str "=9D" 1059) :: (.str "=9E" 1063) :: (.str "=9F" 1067) :: (.str "=A0" 1071) :: (.str "=A1" 1075) :: (.str "=A2" 1079) :: (.str "=A3" 1083) :: (.str "=A4" 1087) :: (.str "=A5" 1091) :: (.str "=A6" 1095) :: (.str "=A7" 1099) :: (.str "=A8" 1103) :: (.str "=A9" 1107) :: (.str "=AA" 1111) :: (.str "=AB" 1115) :: (.str "=AC" 1119) :: (.str "=AD" 1123) :: (.str "=AE" 1127) :: (.str "=AF" 1131) :: (.str "=B0" 1135) :: (.str "=B1" 1139) :: (.str "=B2" 1143) :: (.str "=B3" 1147) :: (.str "=B4" 1151) :: (.str "=B5" 1155) :: (.str "=B6" 1159) :: (.str "=B7" 1163) :: (.str "=B8" 1167) :: (.str "=B9" 1171) :: (.str "=BA" 1175) :: (.str "=BB" 1179) :: (.str "=BC" 1183) :: (.str "=BD" 1187) :: (.str "=BE" 1191) :: (.str "=BF" 1195) :: (.str "=C0" 1199) :: (.str "=C1" 1203) :: (.str "=C2" 1207) :: (.str "=C3" 1211) :: (.str "=C4" 1215) :: (.str "=C5" 1219) :: (.str "=C6" 1223) :: (.str "=C7" 1227) :: (.str "=C8" 1231) :: (.str "=C9" 1235) :: (.str "=CA" 1239) :: (.str "=CB" 1243) :: (.str "=CC" 1247) :: (.str "=CD" 1251) :: (.str "=CE" 1255) :: (.str "=CF" 1259) :: (.str "=D0" 1263) :: (.str "=D1" 1267) :: (.str "=D2" 1271) :: (.str "=D3" 1275) :: (.str "=D4" 1279) :: (.str "=D5" 1283) :: (.str "=D6" 1287) :: (.str "=D7" 1291) :: (.str "=D8" 1295) :: (.str "=D9" 1299) :: (.str "=DA" 1303) :: (.str "=DB" 1307) :: (.str "=DC" 1311) :: (.str "=DD" 1315) :: (.str "=DE" 1319) :: (.str "=DF" 1323) :: (.str "=E0" 1327) :: (.str "=E1" 1331) :: (.str "=E2" 1335) :: (.str "=E3" 1339) :: (.str "=E4" 1343) :: (.str "=E5" 1347) :: (.str "=E6" 1351) :: (.str "=E7" 1355) :: (.str "=E8" 1359) :: (.str "=E9" 1363) :: (.str "=EA" 1367) :: (.str "=EB" 1371) :: (.str "=EC" 1375) :: (.str "=ED" 1379) :: (.str "=EE" 1383) :: (.str "=EF" 1387) :: (.str "=F0" 1391) :: (.str "=F1" 1395) :: (.str "=F2" 1399) :: (.str "=F3" 1403) :: (.str "=F4" 1407) :: (.str "=F5" 1411) :: (.str "=F6" 1415) :: (.str "=F7" 1419) :: (.str "=F8" 1423) :: (.str "=F9" 1427) :: (.str "=FA" 1431) :: (.str "=FB" 1435) :: (.str "=FC" 1439) :: (.str "=FD" 1443) :: (.str "=FE" 1447) :: (.str "=FF" 1451) :: [])) 0),#[]⟩)
noncomputable def o79 : Params → Obj := (fun p => ⟨(.type "bytes_iterator"),(.none ),(.fields #[.none,(.int 95 0)]),#[]⟩)
noncomputable def o80 : Params → Obj := (fun p => ⟨(.type "StopIteration"),(.none ),(.fields #[(.ref 168),.none,.none,.none,(.bool .false),.none]),#[]⟩)
noncomputable def o81 : Params → Obj := (fun p => ⟨.none,(.none ),(.func ⟨"unquote","unquote",fa (bs 35),.stmts (fb (bs 35)),fs (bs 35),0,[],.none,.none,.none,.none,(.none ),.none,.none,0⟩),#[]⟩)
noncomputable def o82 : Params → Obj := (fun p => ⟨.none,(.none ),(.func ⟨"quote","quote",fa (bs 36),.stmts (fb (bs 36)),fs (bs 36),0,[],.none,.none,.none,.none,(.none ),.none,.none,0⟩),#[]⟩)
noncomputable def o83 : Params → Obj := (fun p => ⟨.none,(.none ),(.fields (List.toArray ((.int 1 0) :: (.int 0 0) :: (.ref 20) :: (.int 4 0) :: (.int 0 0) :: (.ref 27) :: (.int 13 0) :: (.int 0 0) :: (.ref 34) :: (.int 19 0) :: (.int 0 0) :: (.ref 41) :: (.int 24 0) :: (.int 0 0) :: (.ref 60) :: (.int 39 0) :: (.int 0 0) :: (.ref 93) :: (.int 43 0) :: (.int 0 0) :: (.ref 100) :: (.int 60 0) :: (.int 0 0) :: (.ref 107) :: (.int 77 0) :: (.int 0 0) :: (.ref 114) :: (.int 89 0) :: (.int 0 0) :: (.ref 121) :: (.int 94 0) :: (.int 0 0) :: (.ref 128) :: (.int 115 0) :: (.int 0 0) :: (.ref 135) :: (.int 125 0) :: (.int 0 0) :: (.ref 145) :: (.int 142 0) :: (.int 0 0) :: (.ref 152) :: (.int 184 0) :: (.int 0 0) :: (.ref 175) :: (.int 187 0) :: (.int 0 0) :: (.ref 182) :: (.int 193 0) :: (.int 0 0) :: (.ref 195) :: (.int 248 0) :: (.int 0 0) :: (.ref 203) :: (.int 283 0) :: (.int 0 0) :: (.ref 210) :: (.int 297 0) :: (.int 0 0) :: (.ref 217) :: (.int 303 0) :: (.int 0 0) :: (.ref 222) :: (.int 326 0) :: (.int 0 0) :: (.ref 229) :: (.int 330 0) :: (.int 0 0) :: (.ref 234) :: (.int 333 0) :: (.int 0 0) :: (.ref 239) :: (.int 340 0) :: (.int 0 0) :: (.ref 246) :: (.int 359 0) :: (.int 0 0) :: (.ref 253) :: (.int 363 0) :: (.int 0 0) :: (.ref 258) :: []))),#[]⟩)
noncomputable def o84 : Params → Obj := (fun p => ⟨(.type "bytes_iterator"),(.none ),(.fields #[.none,(.int 2 0)]),#[]⟩)
noncomputable def o85 : Params → Obj := (fun p => ⟨(.type "StopIteration"),(.none ),(.fields #[(.ref 187),.none,.none,.none,(.bool .false),.none]),#[]⟩)
noncomputable def o86 : Params → Obj := (fun p => ⟨.none,(.none ),(.func ⟨"body_encode","body_encode",fa (bs 40),.stmts (fb (bs 40)),fs (bs 40),0,[],.none,.none,.none,.none,(.none ),.none,.none,0⟩),#[]⟩)
noncomputable def o87 : Params → Obj := (fun p => ⟨.none,(.none ),(.func ⟨"decode","decode",fa (bs 41),.stmts (fb (bs 41)),fs (bs 41),0,[],.none,.none,.none,.none,(.none ),.none,.none,0⟩),#[]⟩)
noncomputable def o88 : Params → Obj := (fun p => ⟨.none,(.none ),(.func ⟨"_law_parts","_law_parts",fa (bs 43),.stmts (fb (bs 43)),fs (bs 43),0,[],.none,.none,.none,.none,(.none ),.none,.none,0⟩),#[]⟩)
noncomputable def o89 : Params → Obj := (fun p => ⟨.none,(.none ),(.func ⟨"_law_cost","_law_cost",fa (bs 44),.stmts (fb (bs 44)),fs (bs 44),0,[],.none,.none,.none,.none,(.none ),.none,.none,0⟩),#[]⟩)
noncomputable def o90 : Params → Obj := (fun p => ⟨.none,(.none ),(.func ⟨"_law_marked","_law_marked",fa (bs 45),.stmts (fb (bs 45)),fs (bs 45),0,[],.none,.none,.none,.none,(.none ),.none,.none,0⟩),#[]⟩)
noncomputable def o91 : Params → Obj := (fun p => ⟨.none,(.none ),(.func ⟨"_law_read","_law_read",fa (bs 46),.stmts (fb (bs 46)),fs (bs 46),0,[],.none,.none,.none,.none,(.none ),.none,.none,0⟩),#[]⟩)
noncomputable def o92 : Params → Obj := (fun p => ⟨.none,(.none ),(.func ⟨"_law_read_rows","_law_read_rows",fa (bs 47),.stmts (fb (bs 47)),fs (bs 47),0,[],.none,.none,.none,.none,(.none ),.none,.none,0⟩),#[]⟩)
noncomputable def o93 : Params → Obj := (fun p => ⟨.none,(.none ),(.func ⟨"_law_joined","_law_joined",fa (bs 48),.stmts (fb (bs 48)),fs (bs 48),0,[],.none,.none,.none,.none,(.none ),.none,.none,0⟩),#[]⟩)
noncomputable def o94 : Params → Obj := (fun p => ⟨.none,(.none ),(.func ⟨"_law_plain","_law_plain",fa (bs 49),.stmts (fb (bs 49)),fs (bs 49),0,[],.none,.none,.none,.none,(.none ),.none,.none,0⟩),#[]⟩)
noncomputable def o95 : Params → Obj := (fun p => ⟨.none,(.none ),(.func ⟨"_law_halves","_law_halves",fa (bs 50),.stmts (fb (bs 50)),fs (bs 50),0,[],.none,.none,.none,.none,(.none ),.none,.none,0⟩),#[]⟩)
noncomputable def o96 : Params → Obj := (fun p => ⟨.none,(.none ),(.func ⟨"law","law",fa (bs 51),.stmts (fb (bs 51)),fs (bs 51),0,[],.none,.none,.none,.none,(.none ),.none,.none,0⟩),#[]⟩)
noncomputable def He : Params → Heap := fun p => ⟨⟨[(o0 p),(o1 p),(kat 0 p),(o2 p),(o3 p),(o4 p),(o5 p),(o6 p),(o7 p),(o8 p),(o9 p)]⟩, ⟨[],[],[],0,[],[],.false,#[],[],0,.false,.false,.false,0,[2000,10,10],.false,0,.true,[],[],0,.false⟩⟩
noncomputable def T0 : Params → BT := fun p => (.node (o0 p) (.node (o1 p) (.node (o2 p) (.node (o6 p) .nil .nil) .nil) (.node (o4 p) (.node (o8 p) .nil .nil) .nil)) (.node (kat 0 p) (.node (o3 p) (.node (o7 p) .nil .nil) .nil) (.node (o5 p) (.node (o9 p) .nil .nil) .nil)))
noncomputable def H0 : Params → Heap := fun p => absHeap (T0 p) (nat_lit 11) ⟨[],[],[],0,[],[],.false,#[],[],0,.false,.false,.false,0,[2000,10,10],.false,0,.true,[],[],0,.false⟩
noncomputable def D0 (w : World) (os : OsState) : SharedT := ⟨T0 w.params, (nat_lit 11), ⟨[],[],[],0,[],[],.false,#[],[],0,.false,.false,.false,0,[2000,10,10],.false,0,.true,[],[],0,.false⟩, ⟨[]⟩, ⟨0,0,0,0⟩, (nat_lit 181), os⟩
noncomputable def Ta : Params → BT := fun p => (.node (o0 p) (.node (o1 p) (.node (o2 p) (.node (o6 p) .nil .nil) (.node (o6 p) .nil .nil)) (.node (o4 p) (.node (o8 p) .nil .nil) (.node (o10 p) .nil .nil))) (.node (kat 0 p) (.node (o3 p) (.node (o7 p) .nil .nil) (.node (o7 p) .nil .nil)) (.node (o5 p) (.node (o9 p) .nil .nil) (.node (o11 p) .nil .nil))))
noncomputable def Ha : Params → Heap := fun p => absHeap (Ta p) (nat_lit 15) ⟨[],[],[],0,[],[],.false,#[],[],0,.false,.false,.false,0,[2000,10,10],.false,0,.true,[],[],0,.false⟩
noncomputable def Da (w : World) (os : OsState) : SharedT := ⟨Ta w.params, (nat_lit 15), ⟨[],[],[],0,[],[],.false,#[],[],0,.false,.false,.false,0,[2000,10,10],.false,0,.true,[],[],0,.false⟩, ⟨[]⟩, ⟨0,0,0,0⟩, (nat_lit 187), os⟩
noncomputable def Tb : Params → BT := fun p => (.node (o0 p) (.node (o1 p) (.node (o2 p) (.node (o6 p) .nil .nil) (.node (o6 p) .nil .nil)) (.node (o4 p) (.node (o8 p) .nil .nil) (.node (o10 p) .nil .nil))) (.node (kat 0 p) (.node (o3 p) (.node (o7 p) .nil .nil) (.node (o7 p) .nil .nil)) (.node (o5 p) (.node (o9 p) .nil .nil) (.node (o11 p) .nil .nil))))
noncomputable def Hb : Params → Heap := fun p => absHeap (Tb p) (nat_lit 15) ⟨[],[],[],0,[],[],.false,#[],[],0,.false,.false,.false,0,[2000,10,10],.false,0,.true,[],[],0,.false⟩
noncomputable def Db (w : World) (os : OsState) : SharedT := ⟨Tb w.params, (nat_lit 15), ⟨[],[],[],0,[],[],.false,#[],[],0,.false,.false,.false,0,[2000,10,10],.false,0,.true,[],[],0,.false⟩, ⟨[]⟩, ⟨0,0,0,0⟩, (nat_lit 187), os⟩
noncomputable def T1 : Params → BT := fun p => (.node (o0 p) (.node (o1 p) (.node (o12 p) (.node (o6 p) (.node (kat 2 p) (.node (kat 8 p) (.node (o7 p) (.node (o42 p) .nil .nil) .nil) (.node (kat 45 p) .nil .nil)) (.node (o25 p) (.node (kat 34 p) .nil .nil) (.node (kat 56 p) .nil .nil))) (.node (o7 p) (.node (o6 p) (.node (kat 28 p) (.node (kat 73 p) .nil .nil) .nil) (.node (o7 p) .nil .nil)) (.node (kat 21 p) (.node (o36 p) .nil .nil) (.node (kat 62 p) .nil .nil)))) (.node (o6 p) (.node (o14 p) (.node (kat 11 p) (.node (kat 25 p) (.node (o7 p) .nil .nil) .nil) (.node (o38 p) .nil .nil)) (.node (kat 19 p) (.node (kat 37 p) .nil .nil) (.node (kat 59 p) .nil .nil))) (.node (o17 p) (.node (kat 13 p) (.node (kat 31 p) .nil .nil) (.node (kat 53 p) .nil .nil)) (.node (o29 p) (.node (kat 42 p) .nil .nil) (.node (kat 65 p) .nil .nil))))) (.node (o4 p) (.node (o8 p) (.node (kat 3 p) (.node (o19 p) (.node (kat 24 p) (.node (kat 69 p) .nil .nil) .nil) (.node (kat 46 p) .nil .nil)) (.node (kat 17 p) (.node (kat 35 p) .nil .nil) (.node (o40 p) .nil .nil))) (.node (o6 p) (.node (o23 p) (.node (o33 p) .nil .nil) (.node (kat 52 p) .nil .nil)) (.node (o28 p) (.node (o7 p) .nil .nil) (.node (kat 63 p) .nil .nil)))) (.node (o10 p) (.node (kat 6 p) (.node (o20 p) (.node (kat 27 p) (.node (kat 72 p) .nil .nil) .nil) (.node (kat 49 p) .nil .nil)) (.node (o26 p) (.node (kat 39 p) .nil .nil) (.node (o7 p) .nil .nil))) (.node (kat 7 p) (.node (kat 14 p) (.node (o7 p) .nil .nil) (.node (kat 55 p) .nil .nil)) (.node (o31 p) (.node (kat 43 p) .nil .nil) (.node (kat 66 p) .nil .nil)))))) (.node (kat 0 p) (.node (o3 p) (.node (o7 p) (.node (o7 p) (.node (kat 9 p) (.node (kat 23 p) (.node (kat 68 p) .nil .nil) .nil) (.node (o7 p) .nil .nil)) (.node (kat 16 p) (.node (o34 p) .nil .nil) (.node (kat 57 p) .nil .nil))) (.node (o15 p) (.node (o22 p) (.node (kat 29 p) (.node (o44 p) .nil .nil) .nil) (.node (kat 51 p) .nil .nil)) (.node (o20 p) (.node (kat 40 p) .nil .nil) (.node (o41 p) .nil .nil)))) (.node (o13 p) (.node (kat 5 p) (.node (kat 12 p) (.node (kat 26 p) (.node (kat 71 p) .nil .nil) .nil) (.node (kat 48 p) .nil .nil)) (.node (kat 20 p) (.node (kat 38 p) .nil .nil) (.node (kat 60 p) .nil .nil))) (.node (o18 p) (.node (o7 p) (.node (kat 32 p) .nil .nil) (.node (kat 54 p) .nil .nil)) (.node (o30 p) (.node (o37 p) .nil .nil) (.node (o7 p) .nil .nil))))) (.node (o5 p) (.node (o9 p) (.node (kat 4 p) (.node (kat 10 p) (.node (o32 p) (.node (kat 70 p) .nil .nil) .nil) (.node (kat 47 p) .nil .nil)) (.node (kat 18 p) (.node (kat 36 p) .nil .nil) (.node (kat 58 p) .nil .nil))) (.node (o16 p) (.node (o24 p) (.node (kat 30 p) .nil .nil) (.node (o39 p) .nil .nil)) (.node (o6 p) (.node (kat 41 p) .nil .nil) (.node (kat 64 p) .nil .nil)))) (.node (o11 p) (.node (o6 p) (.node (o21 p) (.node (o7 p) (.node (o43 p) .nil .nil) .nil) (.node (kat 50 p) .nil .nil)) (.node (o27 p) (.node (o35 p) .nil .nil) (.node (kat 61 p) .nil .nil))) (.node (o7 p) (.node (kat 15 p) (.node (kat 33 p) .nil .nil) (.node (o7 p) .nil .nil)) (.node (kat 22 p) (.node (kat 44 p) .nil .nil) (.node (kat 67 p) .nil .nil)))))))
noncomputable def H1 : Params → Heap := fun p => absHeap (T1 p) (nat_lit 137) ⟨[],[],[],0,[],[],.false,#[],[],0,.false,.false,.false,0,[2000,10,10],.false,0,.true,[],[],0,.false⟩
noncomputable def D1 (w : World) (os : OsState) : SharedT := ⟨T1 w.params, (nat_lit 137), ⟨[],[],[],0,[],[],.false,#[],[],0,.false,.false,.false,0,[2000,10,10],.false,0,.true,[],[],0,.false⟩, ⟨[]⟩, ⟨0,0,0,0⟩, (nat_lit 360), os⟩
noncomputable def T2 : Params → BT := fun p => (.node (o0 p) (.node (o1 p) (.node (o45 p) (.node (o6 p) (.node (kat 2 p) (.node (kat 8 p) (.node (o7 p) (.node (o42 p) .nil .nil) .nil) (.node (kat 45 p) .nil .nil)) (.node (o25 p) (.node (kat 34 p) (.node (kat 77 p) .nil .nil) .nil) (.node (kat 56 p) .nil .nil))) (.node (o7 p) (.node (o6 p) (.node (kat 28 p) (.node (kat 73 p) .nil .nil) .nil) (.node (o7 p) .nil .nil)) (.node (kat 21 p) (.node (o36 p) (.node (o51 p) .nil .nil) .nil) (.node (kat 62 p) .nil .nil)))) (.node (o6 p) (.node (o14 p) (.node (kat 11 p) (.node (kat 25 p) (.node (o7 p) .nil .nil) .nil) (.node (o38 p) .nil .nil)) (.node (kat 19 p) (.node (kat 37 p) (.node (kat 80 p) .nil .nil) .nil) (.node (kat 59 p) .nil .nil))) (.node (o17 p) (.node (kat 13 p) (.node (kat 31 p) (.node (o49 p) .nil .nil) .nil) (.node (kat 53 p) .nil .nil)) (.node (o29 p) (.node (kat 42 p) .nil .nil) (.node (kat 65 p) .nil .nil))))) (.node (o4 p) (.node (o8 p) (.node (kat 3 p) (.node (o19 p) (.node (kat 24 p) (.node (kat 69 p) .nil .nil) .nil) (.node (kat 46 p) .nil .nil)) (.node (kat 17 p) (.node (kat 35 p) (.node (kat 78 p) .nil .nil) .nil) (.node (o40 p) .nil .nil))) (.node (o6 p) (.node (o23 p) (.node (o33 p) (.node (o47 p) .nil .nil) .nil) (.node (kat 52 p) .nil .nil)) (.node (o28 p) (.node (o7 p) (.node (kat 84 p) .nil .nil) .nil) (.node (kat 63 p) .nil .nil)))) (.node (o10 p) (.node (kat 6 p) (.node (o20 p) (.node (kat 27 p) (.node (kat 72 p) .nil .nil) .nil) (.node (kat 49 p) .nil .nil)) (.node (o26 p) (.node (kat 39 p) (.node (kat 81 p) .nil .nil) .nil) (.node (o7 p) .nil .nil))) (.node (kat 7 p) (.node (kat 14 p) (.node (o7 p) (.node (o7 p) .nil .nil) .nil) (.node (kat 55 p) .nil .nil)) (.node (o31 p) (.node (kat 43 p) .nil .nil) (.node (kat 66 p) .nil .nil)))))) (.node (kat 0 p) (.node (o3 p) (.node (o7 p) (.node (o7 p) (.node (kat 9 p) (.node (kat 23 p) (.node (kat 68 p) .nil .nil) .nil) (.node (o7 p) .nil .nil)) (.node (kat 16 p) (.node (o34 p) (.node (o50 p) .nil .nil) .nil) (.node (kat 57 p) .nil .nil))) (.node (o15 p) (.node (o22 p) (.node (kat 29 p) (.node (kat 74 p) .nil .nil) .nil) (.node (kat 51 p) .nil .nil)) (.node (o20 p) (.node (kat 40 p) (.node (kat 83 p) .nil .nil) .nil) (.node (o41 p) .nil .nil)))) (.node (o46 p) (.node (kat 5 p) (.node (kat 12 p) (.node (kat 26 p) (.node (kat 71 p) .nil .nil) .nil) (.node (kat 48 p) .nil .nil)) (.node (kat 20 p) (.node (kat 38 p) (.node (o7 p) .nil .nil) .nil) (.node (kat 60 p) .nil .nil))) (.node (o18 p) (.node (o7 p) (.node (kat 32 p) (.node (kat 75 p) .nil .nil) .nil) (.node (kat 54 p) .nil .nil)) (.node (o30 p) (.node (o37 p) .nil .nil) (.node (o7 p) .nil .nil))))) (.node (o5 p) (.node (o9 p) (.node (kat 4 p) (.node (kat 10 p) (.node (o32 p) (.node (kat 70 p) .nil .nil) .nil) (.node (kat 47 p) .nil .nil)) (.node (kat 18 p) (.node (kat 36 p) (.node (kat 79 p) .nil .nil) .nil) (.node (kat 58 p) .nil .nil))) (.node (o16 p) (.node (o24 p) (.node (kat 30 p) (.node (o48 p) .nil .nil) .nil) (.node (o39 p) .nil .nil)) (.node (o6 p) (.node (kat 41 p) .nil .nil) (.node (kat 64 p) .nil .nil)))) (.node (o11 p) (.node (o6 p) (.node (o21 p) (.node (o7 p) (.node (o43 p) .nil .nil) .nil) (.node (kat 50 p) .nil .nil)) (.node (o27 p) (.node (o35 p) (.node (kat 82 p) .nil .nil) .nil) (.node (kat 61 p) .nil .nil))) (.node (o7 p) (.node (kat 15 p) (.node (kat 33 p) (.node (kat 76 p) .nil .nil) .nil) (.node (o7 p) .nil .nil)) (.node (kat 22 p) (.node (kat 44 p) .nil .nil) (.node (kat 67 p) .nil .nil)))))))
noncomputable def H2 : Params → Heap := fun p => absHeap (T2 p) (nat_lit 154) ⟨[],[],[],0,[],[],.false,#[],[],0,.false,.false,.false,0,[2000,10,10],.false,0,.true,[],[],0,.false⟩
noncomputable def D2 (w : World) (os : OsState) : SharedT := ⟨T2 w.params, (nat_lit 154), ⟨[],[],[],0,[],[],.false,#[],[],0,.false,.false,.false,0,[2000,10,10],.false,0,.true,[],[],0,.false⟩, ⟨[]⟩, ⟨0,0,0,0⟩, (nat_lit 425), os⟩
noncomputable def T3 : Params → BT := fun p => (.node (o0 p) (.node (o1 p) (.node (o52 p) (.node (o6 p) (.node (kat 2 p) (.node (kat 8 p) (.node (o7 p) (.node (o42 p) .nil .nil) .nil) (.node (kat 45 p) (.node (o56 p) .nil .nil) .nil)) (.node (o25 p) (.node (kat 34 p) (.node (kat 77 p) .nil .nil) .nil) (.node (kat 56 p) .nil .nil))) (.node (o7 p) (.node (o6 p) (.node (kat 28 p) (.node (kat 73 p) .nil .nil) .nil) (.node (o7 p) .nil .nil)) (.node (kat 21 p) (.node (o36 p) (.node (o51 p) .nil .nil) .nil) (.node (kat 62 p) .nil .nil)))) (.node (o6 p) (.node (o14 p) (.node (kat 11 p) (.node (kat 25 p) (.node (o7 p) .nil .nil) .nil) (.node (o38 p) .nil .nil)) (.node (kat 19 p) (.node (kat 37 p) (.node (kat 80 p) .nil .nil) .nil) (.node (kat 59 p) .nil .nil))) (.node (o17 p) (.node (kat 13 p) (.node (kat 31 p) (.node (o49 p) .nil .nil) .nil) (.node (kat 53 p) .nil .nil)) (.node (o29 p) (.node (kat 42 p) (.node (o54 p) .nil .nil) .nil) (.node (kat 65 p) .nil .nil))))) (.node (o4 p) (.node (o8 p) (.node (kat 3 p) (.node (o19 p) (.node (kat 24 p) (.node (kat 69 p) .nil .nil) .nil) (.node (kat 46 p) .nil .nil)) (.node (kat 17 p) (.node (kat 35 p) (.node (kat 78 p) .nil .nil) .nil) (.node (o40 p) .nil .nil))) (.node (o6 p) (.node (o23 p) (.node (o33 p) (.node (o47 p) .nil .nil) .nil) (.node (kat 52 p) .nil .nil)) (.node (o28 p) (.node (o7 p) (.node (kat 84 p) .nil .nil) .nil) (.node (kat 63 p) .nil .nil)))) (.node (o10 p) (.node (kat 6 p) (.node (o20 p) (.node (kat 27 p) (.node (kat 72 p) .nil .nil) .nil) (.node (kat 49 p) .nil .nil)) (.node (o26 p) (.node (kat 39 p) (.node (kat 81 p) .nil .nil) .nil) (.node (o7 p) .nil .nil))) (.node (kat 7 p) (.node (kat 14 p) (.node (o7 p) (.node (o7 p) .nil .nil) .nil) (.node (kat 55 p) .nil .nil)) (.node (o31 p) (.node (kat 43 p) (.node (o55 p) .nil .nil) .nil) (.node (kat 66 p) .nil .nil)))))) (.node (kat 0 p) (.node (o3 p) (.node (o7 p) (.node (o7 p) (.node (kat 9 p) (.node (kat 23 p) (.node (kat 68 p) .nil .nil) .nil) (.node (o7 p) .nil .nil)) (.node (kat 16 p) (.node (o34 p) (.node (o50 p) .nil .nil) .nil) (.node (kat 57 p) .nil .nil))) (.node (o15 p) (.node (o22 p) (.node (kat 29 p) (.node (kat 74 p) .nil .nil) .nil) (.node (kat 51 p) .nil .nil)) (.node (o20 p) (.node (kat 40 p) (.node (kat 83 p) .nil .nil) .nil) (.node (o41 p) .nil .nil)))) (.node (o46 p) (.node (kat 5 p) (.node (kat 12 p) (.node (kat 26 p) (.node (kat 71 p) .nil .nil) .nil) (.node (kat 48 p) .nil .nil)) (.node (kat 20 p) (.node (kat 38 p) (.node (o7 p) .nil .nil) .nil) (.node (kat 60 p) .nil .nil))) (.node (o18 p) (.node (o7 p) (.node (kat 32 p) (.node (kat 75 p) .nil .nil) .nil) (.node (kat 54 p) .nil .nil)) (.node (o30 p) (.node (o37 p) (.node (kat 85 p) .nil .nil) .nil) (.node (o7 p) .nil .nil))))) (.node (o5 p) (.node (o9 p) (.node (kat 4 p) (.node (kat 10 p) (.node (o32 p) (.node (kat 70 p) .nil .nil) .nil) (.node (kat 47 p) .nil .nil)) (.node (kat 18 p) (.node (kat 36 p) (.node (kat 79 p) .nil .nil) .nil) (.node (kat 58 p) .nil .nil))) (.node (o16 p) (.node (o24 p) (.node (kat 30 p) (.node (o48 p) .nil .nil) .nil) (.node (o39 p) .nil .nil)) (.node (o6 p) (.node (kat 41 p) (.node (o53 p) .nil .nil) .nil) (.node (kat 64 p) .nil .nil)))) (.node (o11 p) (.node (o6 p) (.node (o21 p) (.node (o7 p) (.node (o43 p) .nil .nil) .nil) (.node (kat 50 p) .nil .nil)) (.node (o27 p) (.node (o35 p) (.node (kat 82 p) .nil .nil) .nil) (.node (kat 61 p) .nil .nil))) (.node (o7 p) (.node (kat 15 p) (.node (kat 33 p) (.node (kat 76 p) .nil .nil) .nil) (.node (o7 p) .nil .nil)) (.node (kat 22 p) (.node (kat 44 p) (.node (o6 p) .nil .nil) .nil) (.node (kat 67 p) .nil .nil)))))))
noncomputable def H3 : Params → Heap := fun p => absHeap (T3 p) (nat_lit 160) ⟨[],[],[],0,[],[],.false,#[],[],0,.false,.false,.false,0,[2000,10,10],.false,0,.true,[],[],0,.false⟩
noncomputable def D3 (w : World) (os : OsState) : SharedT := ⟨T3 w.params, (nat_lit 160), ⟨[],[],[],0,[],[],.false,#[],[],0,.false,.false,.false,0,[2000,10,10],.false,0,.true,[],[],0,.false⟩, ⟨[]⟩, ⟨0,0,0,0⟩, (nat_lit 1453), os⟩
noncomputable def Tm0 : Params → BT := fun p => (.node (o0 p) (.node (o1 p) (.node (o45 p) (.node (o6 p) (.node (kat 2 p) (.node (kat 8 p) (.node (o7 p) (.node (o42 p) .nil .nil) .nil) (.node (kat 45 p) .nil .nil)) (.node (o25 p) (.node (kat 34 p) (.node (kat 77 p) .nil .nil) .nil) (.node (kat 56 p) .nil .nil))) (.node (o7 p) (.node (o6 p) (.node (kat 28 p) (.node (kat 73 p) .nil .nil) .nil) (.node (o7 p) .nil .nil)) (.node (kat 21 p) (.node (o36 p) (.node (o51 p) .nil .nil) .nil) (.node (kat 62 p) .nil .nil)))) (.node (o6 p) (.node (o14 p) (.node (kat 11 p) (.node (kat 25 p) (.node (o7 p) .nil .nil) .nil) (.node (o38 p) .nil .nil)) (.node (kat 19 p) (.node (kat 37 p) (.node (kat 80 p) .nil .nil) .nil) (.node (kat 59 p) .nil .nil))) (.node (o17 p) (.node (kat 13 p) (.node (kat 31 p) (.node (o49 p) .nil .nil) .nil) (.node (kat 53 p) .nil .nil)) (.node (o29 p) (.node (kat 42 p) (.node (o57 p) .nil .nil) .nil) (.node (kat 65 p) .nil .nil))))) (.node (o4 p) (.node (o8 p) (.node (kat 3 p) (.node (o19 p) (.node (kat 24 p) (.node (kat 69 p) .nil .nil) .nil) (.node (kat 46 p) .nil .nil)) (.node (kat 17 p) (.node (kat 35 p) (.node (kat 78 p) .nil .nil) .nil) (.node (o40 p) .nil .nil))) (.node (o6 p) (.node (o23 p) (.node (o33 p) (.node (o47 p) .nil .nil) .nil) (.node (kat 52 p) .nil .nil)) (.node (o28 p) (.node (o7 p) (.node (kat 84 p) .nil .nil) .nil) (.node (kat 63 p) .nil .nil)))) (.node (o10 p) (.node (kat 6 p) (.node (o20 p) (.node (kat 27 p) (.node (kat 72 p) .nil .nil) .nil) (.node (kat 49 p) .nil .nil)) (.node (o26 p) (.node (kat 39 p) (.node (kat 81 p) .nil .nil) .nil) (.node (o7 p) .nil .nil))) (.node (kat 7 p) (.node (kat 14 p) (.node (o7 p) (.node (o7 p) .nil .nil) .nil) (.node (kat 55 p) .nil .nil)) (.node (o31 p) (.node (kat 43 p) (.node (o59 p) .nil .nil) .nil) (.node (kat 66 p) .nil .nil)))))) (.node (kat 0 p) (.node (o3 p) (.node (o7 p) (.node (o7 p) (.node (kat 9 p) (.node (kat 23 p) (.node (kat 68 p) .nil .nil) .nil) (.node (o7 p) .nil .nil)) (.node (kat 16 p) (.node (o34 p) (.node (o50 p) .nil .nil) .nil) (.node (kat 57 p) .nil .nil))) (.node (o15 p) (.node (o22 p) (.node (kat 29 p) (.node (kat 74 p) .nil .nil) .nil) (.node (kat 51 p) .nil .nil)) (.node (o20 p) (.node (kat 40 p) (.node (kat 83 p) .nil .nil) .nil) (.node (o41 p) .nil .nil)))) (.node (o46 p) (.node (kat 5 p) (.node (kat 12 p) (.node (kat 26 p) (.node (kat 71 p) .nil .nil) .nil) (.node (kat 48 p) .nil .nil)) (.node (kat 20 p) (.node (kat 38 p) (.node (o7 p) .nil .nil) .nil) (.node (kat 60 p) .nil .nil))) (.node (o18 p) (.node (o7 p) (.node (kat 32 p) (.node (kat 75 p) .nil .nil) .nil) (.node (kat 54 p) .nil .nil)) (.node (o30 p) (.node (o37 p) (.node (o58 p) .nil .nil) .nil) (.node (o7 p) .nil .nil))))) (.node (o5 p) (.node (o9 p) (.node (kat 4 p) (.node (kat 10 p) (.node (o32 p) (.node (kat 70 p) .nil .nil) .nil) (.node (kat 47 p) .nil .nil)) (.node (kat 18 p) (.node (kat 36 p) (.node (kat 79 p) .nil .nil) .nil) (.node (kat 58 p) .nil .nil))) (.node (o16 p) (.node (o24 p) (.node (kat 30 p) (.node (o48 p) .nil .nil) .nil) (.node (o39 p) .nil .nil)) (.node (o6 p) (.node (kat 41 p) (.node (o53 p) .nil .nil) .nil) (.node (kat 64 p) .nil .nil)))) (.node (o11 p) (.node (o6 p) (.node (o21 p) (.node (o7 p) (.node (o43 p) .nil .nil) .nil) (.node (kat 50 p) .nil .nil)) (.node (o27 p) (.node (o35 p) (.node (kat 82 p) .nil .nil) .nil) (.node (kat 61 p) .nil .nil))) (.node (o7 p) (.node (kat 15 p) (.node (kat 33 p) (.node (kat 76 p) .nil .nil) .nil) (.node (o7 p) .nil .nil)) (.node (kat 22 p) (.node (kat 44 p) .nil .nil) (.node (kat 67 p) .nil .nil)))))))
noncomputable def Hm0 : Params → Heap := fun p => absHeap (Tm0 p) (nat_lit 158) ⟨[],[],[],0,[],[],.false,#[],[],0,.false,.false,.false,0,[2000,10,10],.false,0,.true,[],[],0,.false⟩
noncomputable def Dm0 (w : World) (os : OsState) : SharedT := ⟨Tm0 w.params, (nat_lit 158), ⟨[],[],[],0,[],[],.false,#[],[],0,.false,.false,.false,0,[2000,10,10],.false,0,.true,[],[],0,.false⟩, ⟨[]⟩, ⟨0,0,0,0⟩, (nat_lit 432), os⟩
noncomputable def Tm1 : Params → BT := fun p => (.node (o0 p) (.node (o1 p) (.node (o45 p) (.node (o6 p) (.node (kat 2 p) (.node (kat 8 p) (.node (o7 p) (.node (o42 p) .nil .nil) .nil) (.node (kat 45 p) .nil .nil)) (.node (o25 p) (.node (kat 34 p) (.node (kat 77 p) .nil .nil) .nil) (.node (kat 56 p) .nil .nil))) (.node (o7 p) (.node (o6 p) (.node (kat 28 p) (.node (kat 73 p) .nil .nil) .nil) (.node (o7 p) .nil .nil)) (.node (kat 21 p) (.node (o36 p) (.node (o51 p) .nil .nil) .nil) (.node (kat 62 p) .nil .nil)))) (.node (o6 p) (.node (o14 p) (.node (kat 11 p) (.node (kat 25 p) (.node (o7 p) .nil .nil) .nil) (.node (o38 p) .nil .nil)) (.node (kat 19 p) (.node (kat 37 p) (.node (kat 80 p) .nil .nil) .nil) (.node (kat 59 p) .nil .nil))) (.node (o17 p) (.node (kat 13 p) (.node (kat 31 p) (.node (o49 p) .nil .nil) .nil) (.node (kat 53 p) .nil .nil)) (.node (o29 p) (.node (kat 42 p) (.node (o60 p) .nil .nil) .nil) (.node (kat 65 p) .nil .nil))))) (.node (o4 p) (.node (o8 p) (.node (kat 3 p) (.node (o19 p) (.node (kat 24 p) (.node (kat 69 p) .nil .nil) .nil) (.node (kat 46 p) .nil .nil)) (.node (kat 17 p) (.node (kat 35 p) (.node (kat 78 p) .nil .nil) .nil) (.node (o40 p) .nil .nil))) (.node (o6 p) (.node (o23 p) (.node (o33 p) (.node (o47 p) .nil .nil) .nil) (.node (kat 52 p) .nil .nil)) (.node (o28 p) (.node (o7 p) (.node (kat 84 p) .nil .nil) .nil) (.node (kat 63 p) .nil .nil)))) (.node (o10 p) (.node (kat 6 p) (.node (o20 p) (.node (kat 27 p) (.node (kat 72 p) .nil .nil) .nil) (.node (kat 49 p) .nil .nil)) (.node (o26 p) (.node (kat 39 p) (.node (kat 81 p) .nil .nil) .nil) (.node (o7 p) .nil .nil))) (.node (kat 7 p) (.node (kat 14 p) (.node (o7 p) (.node (o7 p) .nil .nil) .nil) (.node (kat 55 p) .nil .nil)) (.node (o31 p) (.node (kat 43 p) (.node (o62 p) .nil .nil) .nil) (.node (kat 66 p) .nil .nil)))))) (.node (kat 0 p) (.node (o3 p) (.node (o7 p) (.node (o7 p) (.node (kat 9 p) (.node (kat 23 p) (.node (kat 68 p) .nil .nil) .nil) (.node (o7 p) .nil .nil)) (.node (kat 16 p) (.node (o34 p) (.node (o50 p) .nil .nil) .nil) (.node (kat 57 p) .nil .nil))) (.node (o15 p) (.node (o22 p) (.node (kat 29 p) (.node (kat 74 p) .nil .nil) .nil) (.node (kat 51 p) .nil .nil)) (.node (o20 p) (.node (kat 40 p) (.node (kat 83 p) .nil .nil) .nil) (.node (o41 p) .nil .nil)))) (.node (o46 p) (.node (kat 5 p) (.node (kat 12 p) (.node (kat 26 p) (.node (kat 71 p) .nil .nil) .nil) (.node (kat 48 p) .nil .nil)) (.node (kat 20 p) (.node (kat 38 p) (.node (o7 p) .nil .nil) .nil) (.node (kat 60 p) .nil .nil))) (.node (o18 p) (.node (o7 p) (.node (kat 32 p) (.node (kat 75 p) .nil .nil) .nil) (.node (kat 54 p) .nil .nil)) (.node (o30 p) (.node (o37 p) (.node (o61 p) .nil .nil) .nil) (.node (o7 p) .nil .nil))))) (.node (o5 p) (.node (o9 p) (.node (kat 4 p) (.node (kat 10 p) (.node (o32 p) (.node (kat 70 p) .nil .nil) .nil) (.node (kat 47 p) .nil .nil)) (.node (kat 18 p) (.node (kat 36 p) (.node (kat 79 p) .nil .nil) .nil) (.node (kat 58 p) .nil .nil))) (.node (o16 p) (.node (o24 p) (.node (kat 30 p) (.node (o48 p) .nil .nil) .nil) (.node (o39 p) .nil .nil)) (.node (o6 p) (.node (kat 41 p) (.node (o53 p) .nil .nil) .nil) (.node (kat 64 p) .nil .nil)))) (.node (o11 p) (.node (o6 p) (.node (o21 p) (.node (o7 p) (.node (o43 p) .nil .nil) .nil) (.node (kat 50 p) .nil .nil)) (.node (o27 p) (.node (o35 p) (.node (kat 82 p) .nil .nil) .nil) (.node (kat 61 p) .nil .nil))) (.node (o7 p) (.node (kat 15 p) (.node (kat 33 p) (.node (kat 76 p) .nil .nil) .nil) (.node (o7 p) .nil .nil)) (.node (kat 22 p) (.node (kat 44 p) .nil .nil) (.node (kat 67 p) .nil .nil)))))))
noncomputable def Hm1 : Params → Heap := fun p => absHeap (Tm1 p) (nat_lit 158) ⟨[],[],[],0,[],[],.false,#[],[],0,.false,.false,.false,0,[2000,10,10],.false,0,.true,[],[],0,.false⟩
noncomputable def Dm1 (w : World) (os : OsState) : SharedT := ⟨Tm1 w.params, (nat_lit 158), ⟨[],[],[],0,[],[],.false,#[],[],0,.false,.false,.false,0,[2000,10,10],.false,0,.true,[],[],0,.false⟩, ⟨[]⟩, ⟨0,0,0,0⟩, (nat_lit 688), os⟩
noncomputable def Tm2 : Params → BT := fun p => (.node (o0 p) (.node (o1 p) (.node (o45 p) (.node (o6 p) (.node (kat 2 p) (.node (kat 8 p) (.node (o7 p) (.node (o42 p) .nil .nil) .nil) (.node (kat 45 p) .nil .nil)) (.node (o25 p) (.node (kat 34 p) (.node (kat 77 p) .nil .nil) .nil) (.node (kat 56 p) .nil .nil))) (.node (o7 p) (.node (o6 p) (.node (kat 28 p) (.node (kat 73 p) .nil .nil) .nil) (.node (o7 p) .nil .nil)) (.node (kat 21 p) (.node (o36 p) (.node (o51 p) .nil .nil) .nil) (.node (kat 62 p) .nil .nil)))) (.node (o6 p) (.node (o14 p) (.node (kat 11 p) (.node (kat 25 p) (.node (o7 p) .nil .nil) .nil) (.node (o38 p) .nil .nil)) (.node (kat 19 p) (.node (kat 37 p) (.node (kat 80 p) .nil .nil) .nil) (.node (kat 59 p) .nil .nil))) (.node (o17 p) (.node (kat 13 p) (.node (kat 31 p) (.node (o49 p) .nil .nil) .nil) (.node (kat 53 p) .nil .nil)) (.node (o29 p) (.node (kat 42 p) (.node (o63 p) .nil .nil) .nil) (.node (kat 65 p) .nil .nil))))) (.node (o4 p) (.node (o8 p) (.node (kat 3 p) (.node (o19 p) (.node (kat 24 p) (.node (kat 69 p) .nil .nil) .nil) (.node (kat 46 p) .nil .nil)) (.node (kat 17 p) (.node (kat 35 p) (.node (kat 78 p) .nil .nil) .nil) (.node (o40 p) .nil .nil))) (.node (o6 p) (.node (o23 p) (.node (o33 p) (.node (o47 p) .nil .nil) .nil) (.node (kat 52 p) .nil .nil)) (.node (o28 p) (.node (o7 p) (.node (kat 84 p) .nil .nil) .nil) (.node (kat 63 p) .nil .nil)))) (.node (o10 p) (.node (kat 6 p) (.node (o20 p) (.node (kat 27 p) (.node (kat 72 p) .nil .nil) .nil) (.node (kat 49 p) .nil .nil)) (.node (o26 p) (.node (kat 39 p) (.node (kat 81 p) .nil .nil) .nil) (.node (o7 p) .nil .nil))) (.node (kat 7 p) (.node (kat 14 p) (.node (o7 p) (.node (o7 p) .nil .nil) .nil) (.node (kat 55 p) .nil .nil)) (.node (o31 p) (.node (kat 43 p) (.node (o65 p) .nil .nil) .nil) (.node (kat 66 p) .nil .nil)))))) (.node (kat 0 p) (.node (o3 p) (.node (o7 p) (.node (o7 p) (.node (kat 9 p) (.node (kat 23 p) (.node (kat 68 p) .nil .nil) .nil) (.node (o7 p) .nil .nil)) (.node (kat 16 p) (.node (o34 p) (.node (o50 p) .nil .nil) .nil) (.node (kat 57 p) .nil .nil))) (.node (o15 p) (.node (o22 p) (.node (kat 29 p) (.node (kat 74 p) .nil .nil) .nil) (.node (kat 51 p) .nil .nil)) (.node (o20 p) (.node (kat 40 p) (.node (kat 83 p) .nil .nil) .nil) (.node (o41 p) .nil .nil)))) (.node (o46 p) (.node (kat 5 p) (.node (kat 12 p) (.node (kat 26 p) (.node (kat 71 p) .nil .nil) .nil) (.node (kat 48 p) .nil .nil)) (.node (kat 20 p) (.node (kat 38 p) (.node (o7 p) .nil .nil) .nil) (.node (kat 60 p) .nil .nil))) (.node (o18 p) (.node (o7 p) (.node (kat 32 p) (.node (kat 75 p) .nil .nil) .nil) (.node (kat 54 p) .nil .nil)) (.node (o30 p) (.node (o37 p) (.node (o64 p) .nil .nil) .nil) (.node (o7 p) .nil .nil))))) (.node (o5 p) (.node (o9 p) (.node (kat 4 p) (.node (kat 10 p) (.node (o32 p) (.node (kat 70 p) .nil .nil) .nil) (.node (kat 47 p) .nil .nil)) (.node (kat 18 p) (.node (kat 36 p) (.node (kat 79 p) .nil .nil) .nil) (.node (kat 58 p) .nil .nil))) (.node (o16 p) (.node (o24 p) (.node (kat 30 p) (.node (o48 p) .nil .nil) .nil) (.node (o39 p) .nil .nil)) (.node (o6 p) (.node (kat 41 p) (.node (o53 p) .nil .nil) .nil) (.node (kat 64 p) .nil .nil)))) (.node (o11 p) (.node (o6 p) (.node (o21 p) (.node (o7 p) (.node (o43 p) .nil .nil) .nil) (.node (kat 50 p) .nil .nil)) (.node (o27 p) (.node (o35 p) (.node (kat 82 p) .nil .nil) .nil) (.node (kat 61 p) .nil .nil))) (.node (o7 p) (.node (kat 15 p) (.node (kat 33 p) (.node (kat 76 p) .nil .nil) .nil) (.node (o7 p) .nil .nil)) (.node (kat 22 p) (.node (kat 44 p) .nil .nil) (.node (kat 67 p) .nil .nil)))))))
noncomputable def Hm2 : Params → Heap := fun p => absHeap (Tm2 p) (nat_lit 158) ⟨[],[],[],0,[],[],.false,#[],[],0,.false,.false,.false,0,[2000,10,10],.false,0,.true,[],[],0,.false⟩
noncomputable def Dm2 (w : World) (os : OsState) : SharedT := ⟨Tm2 w.params, (nat_lit 158), ⟨[],[],[],0,[],[],.false,#[],[],0,.false,.false,.false,0,[2000,10,10],.false,0,.true,[],[],0,.false⟩, ⟨[]⟩, ⟨0,0,0,0⟩, (nat_lit 944), os⟩
noncomputable def Tm3 : Params → BT := fun p => (.node (o0 p) (.node (o1 p) (.node (o45 p) (.node (o6 p) (.node (kat 2 p) (.node (kat 8 p) (.node (o7 p) (.node (o42 p) .nil .nil) .nil) (.node (kat 45 p) .nil .nil)) (.node (o25 p) (.node (kat 34 p) (.node (kat 77 p) .nil .nil) .nil) (.node (kat 56 p) .nil .nil))) (.node (o7 p) (.node (o6 p) (.node (kat 28 p) (.node (kat 73 p) .nil .nil) .nil) (.node (o7 p) .nil .nil)) (.node (kat 21 p) (.node (o36 p) (.node (o51 p) .nil .nil) .nil) (.node (kat 62 p) .nil .nil)))) (.node (o6 p) (.node (o14 p) (.node (kat 11 p) (.node (kat 25 p) (.node (o7 p) .nil .nil) .nil) (.node (o38 p) .nil .nil)) (.node (kat 19 p) (.node (kat 37 p) (.node (kat 80 p) .nil .nil) .nil) (.node (kat 59 p) .nil .nil))) (.node (o17 p) (.node (kat 13 p) (.node (kat 31 p) (.node (o49 p) .nil .nil) .nil) (.node (kat 53 p) .nil .nil)) (.node (o29 p) (.node (kat 42 p) (.node (o66 p) .nil .nil) .nil) (.node (kat 65 p) .nil .nil))))) (.node (o4 p) (.node (o8 p) (.node (kat 3 p) (.node (o19 p) (.node (kat 24 p) (.node (kat 69 p) .nil .nil) .nil) (.node (kat 46 p) .nil .nil)) (.node (kat 17 p) (.node (kat 35 p) (.node (kat 78 p) .nil .nil) .nil) (.node (o40 p) .nil .nil))) (.node (o6 p) (.node (o23 p) (.node (o33 p) (.node (o47 p) .nil .nil) .nil) (.node (kat 52 p) .nil .nil)) (.node (o28 p) (.node (o7 p) (.node (kat 84 p) .nil .nil) .nil) (.node (kat 63 p) .nil .nil)))) (.node (o10 p) (.node (kat 6 p) (.node (o20 p) (.node (kat 27 p) (.node (kat 72 p) .nil .nil) .nil) (.node (kat 49 p) .nil .nil)) (.node (o26 p) (.node (kat 39 p) (.node (kat 81 p) .nil .nil) .nil) (.node (o7 p) .nil .nil))) (.node (kat 7 p) (.node (kat 14 p) (.node (o7 p) (.node (o7 p) .nil .nil) .nil) (.node (kat 55 p) .nil .nil)) (.node (o31 p) (.node (kat 43 p) (.node (o68 p) .nil .nil) .nil) (.node (kat 66 p) .nil .nil)))))) (.node (kat 0 p) (.node (o3 p) (.node (o7 p) (.node (o7 p) (.node (kat 9 p) (.node (kat 23 p) (.node (kat 68 p) .nil .nil) .nil) (.node (o7 p) .nil .nil)) (.node (kat 16 p) (.node (o34 p) (.node (o50 p) .nil .nil) .nil) (.node (kat 57 p) .nil .nil))) (.node (o15 p) (.node (o22 p) (.node (kat 29 p) (.node (kat 74 p) .nil .nil) .nil) (.node (kat 51 p) .nil .nil)) (.node (o20 p) (.node (kat 40 p) (.node (kat 83 p) .nil .nil) .nil) (.node (o41 p) .nil .nil)))) (.node (o46 p) (.node (kat 5 p) (.node (kat 12 p) (.node (kat 26 p) (.node (kat 71 p) .nil .nil) .nil) (.node (kat 48 p) .nil .nil)) (.node (kat 20 p) (.node (kat 38 p) (.node (o7 p) .nil .nil) .nil) (.node (kat 60 p) .nil .nil))) (.node (o18 p) (.node (o7 p) (.node (kat 32 p) (.node (kat 75 p) .nil .nil) .nil) (.node (kat 54 p) .nil .nil)) (.node (o30 p) (.node (o37 p) (.node (o67 p) .nil .nil) .nil) (.node (o7 p) .nil .nil))))) (.node (o5 p) (.node (o9 p) (.node (kat 4 p) (.node (kat 10 p) (.node (o32 p) (.node (kat 70 p) .nil .nil) .nil) (.node (kat 47 p) .nil .nil)) (.node (kat 18 p) (.node (kat 36 p) (.node (kat 79 p) .nil .nil) .nil) (.node (kat 58 p) .nil .nil))) (.node (o16 p) (.node (o24 p) (.node (kat 30 p) (.node (o48 p) .nil .nil) .nil) (.node (o39 p) .nil .nil)) (.node (o6 p) (.node (kat 41 p) (.node (o53 p) .nil .nil) .nil) (.node (kat 64 p) .nil .nil)))) (.node (o11 p) (.node (o6 p) (.node (o21 p) (.node (o7 p) (.node (o43 p) .nil .nil) .nil) (.node (kat 50 p) .nil .nil)) (.node (o27 p) (.node (o35 p) (.node (kat 82 p) .nil .nil) .nil) (.node (kat 61 p) .nil .nil))) (.node (o7 p) (.node (kat 15 p) (.node (kat 33 p) (.node (kat 76 p) .nil .nil) .nil) (.node (o7 p) .nil .nil)) (.node (kat 22 p) (.node (kat 44 p) .nil .nil) (.node (kat 67 p) .nil .nil)))))))
noncomputable def Hm3 : Params → Heap := fun p => absHeap (Tm3 p) (nat_lit 158) ⟨[],[],[],0,[],[],.false,#[],[],0,.false,.false,.false,0,[2000,10,10],.false,0,.true,[],[],0,.false⟩
noncomputable def Dm3 (w : World) (os : OsState) : SharedT := ⟨Tm3 w.params, (nat_lit 158), ⟨[],[],[],0,[],[],.false,#[],[],0,.false,.false,.false,0,[2000,10,10],.false,0,.true,[],[],0,.false⟩, ⟨[]⟩, ⟨0,0,0,0⟩, (nat_lit 1200), os⟩
noncomputable def T4 : Params → BT := fun p => (.node (o0 p) (.node (o1 p) (.node (o69 p) (.node (o6 p) (.node (kat 2 p) (.node (kat 8 p) (.node (o7 p) (.node (o42 p) .nil .nil) .nil) (.node (kat 45 p) (.node (o56 p) .nil .nil) .nil)) (.node (o25 p) (.node (kat 34 p) (.node (kat 77 p) .nil .nil) .nil) (.node (kat 56 p) .nil .nil))) (.node (o7 p) (.node (o6 p) (.node (kat 28 p) (.node (kat 73 p) .nil .nil) .nil) (.node (o7 p) .nil .nil)) (.node (kat 21 p) (.node (o36 p) (.node (o51 p) .nil .nil) .nil) (.node (kat 62 p) .nil .nil)))) (.node (o6 p) (.node (o14 p) (.node (kat 11 p) (.node (kat 25 p) (.node (o7 p) .nil .nil) .nil) (.node (o38 p) (.node (o71 p) .nil .nil) .nil)) (.node (kat 19 p) (.node (kat 37 p) (.node (kat 80 p) .nil .nil) .nil) (.node (kat 59 p) .nil .nil))) (.node (o17 p) (.node (kat 13 p) (.node (kat 31 p) (.node (o49 p) .nil .nil) .nil) (.node (kat 53 p) .nil .nil)) (.node (o29 p) (.node (kat 42 p) (.node (o54 p) .nil .nil) .nil) (.node (kat 65 p) .nil .nil))))) (.node (o4 p) (.node (o8 p) (.node (kat 3 p) (.node (o19 p) (.node (kat 24 p) (.node (kat 69 p) .nil .nil) .nil) (.node (kat 46 p) (.node (o71 p) .nil .nil) .nil)) (.node (kat 17 p) (.node (kat 35 p) (.node (kat 78 p) .nil .nil) .nil) (.node (o40 p) .nil .nil))) (.node (o6 p) (.node (o23 p) (.node (o33 p) (.node (o47 p) .nil .nil) .nil) (.node (kat 52 p) .nil .nil)) (.node (o28 p) (.node (o7 p) (.node (kat 84 p) .nil .nil) .nil) (.node (kat 63 p) .nil .nil)))) (.node (o10 p) (.node (kat 6 p) (.node (o20 p) (.node (kat 27 p) (.node (kat 72 p) .nil .nil) .nil) (.node (kat 49 p) .nil .nil)) (.node (o26 p) (.node (kat 39 p) (.node (kat 81 p) .nil .nil) .nil) (.node (o7 p) .nil .nil))) (.node (kat 7 p) (.node (kat 14 p) (.node (o7 p) (.node (o7 p) .nil .nil) .nil) (.node (kat 55 p) .nil .nil)) (.node (o31 p) (.node (kat 43 p) (.node (o55 p) .nil .nil) .nil) (.node (kat 66 p) .nil .nil)))))) (.node (kat 0 p) (.node (o3 p) (.node (o7 p) (.node (o7 p) (.node (kat 9 p) (.node (kat 23 p) (.node (kat 68 p) .nil .nil) .nil) (.node (o7 p) (.node (o70 p) .nil .nil) .nil)) (.node (kat 16 p) (.node (o34 p) (.node (o50 p) .nil .nil) .nil) (.node (kat 57 p) .nil .nil))) (.node (o15 p) (.node (o22 p) (.node (kat 29 p) (.node (kat 74 p) .nil .nil) .nil) (.node (kat 51 p) .nil .nil)) (.node (o20 p) (.node (kat 40 p) (.node (kat 83 p) .nil .nil) .nil) (.node (o41 p) .nil .nil)))) (.node (o46 p) (.node (kat 5 p) (.node (kat 12 p) (.node (kat 26 p) (.node (kat 71 p) .nil .nil) .nil) (.node (kat 48 p) .nil .nil)) (.node (kat 20 p) (.node (kat 38 p) (.node (o7 p) .nil .nil) .nil) (.node (kat 60 p) .nil .nil))) (.node (o18 p) (.node (o7 p) (.node (kat 32 p) (.node (kat 75 p) .nil .nil) .nil) (.node (kat 54 p) .nil .nil)) (.node (o30 p) (.node (o37 p) (.node (kat 85 p) .nil .nil) .nil) (.node (o7 p) .nil .nil))))) (.node (o5 p) (.node (o9 p) (.node (kat 4 p) (.node (kat 10 p) (.node (o32 p) (.node (kat 70 p) .nil .nil) .nil) (.node (kat 47 p) (.node (o70 p) .nil .nil) .nil)) (.node (kat 18 p) (.node (kat 36 p) (.node (kat 79 p) .nil .nil) .nil) (.node (kat 58 p) .nil .nil))) (.node (o16 p) (.node (o24 p) (.node (kat 30 p) (.node (o48 p) .nil .nil) .nil) (.node (o39 p) .nil .nil)) (.node (o6 p) (.node (kat 41 p) (.node (o53 p) .nil .nil) .nil) (.node (kat 64 p) .nil .nil)))) (.node (o11 p) (.node (o6 p) (.node (o21 p) (.node (o7 p) (.node (o43 p) .nil .nil) .nil) (.node (kat 50 p) .nil .nil)) (.node (o27 p) (.node (o35 p) (.node (kat 82 p) .nil .nil) .nil) (.node (kat 61 p) .nil .nil))) (.node (o7 p) (.node (kat 15 p) (.node (kat 33 p) (.node (kat 76 p) .nil .nil) .nil) (.node (o7 p) .nil .nil)) (.node (kat 22 p) (.node (kat 44 p) (.node (o6 p) .nil .nil) .nil) (.node (kat 67 p) .nil .nil)))))))
noncomputable def H4 : Params → Heap := fun p => absHeap (T4 p) (nat_lit 164) ⟨[],[],[],0,[],[],.false,#[],[],0,.false,.false,.false,0,[2000,10,10],.false,0,.true,[],[],0,.false⟩
noncomputable def D4 (w : World) (os : OsState) : SharedT := ⟨T4 w.params, (nat_lit 164), ⟨[],[],[],0,[],[],.false,#[],[],0,.false,.false,.false,0,[2000,10,10],.false,0,.true,[],[],0,.false⟩, ⟨[]⟩, ⟨0,0,0,0⟩, (nat_lit 1470), os⟩
noncomputable def T5 : Params → BT := fun p => (.node (o0 p) (.node (o1 p) (.node (o72 p) (.node (o6 p) (.node (kat 2 p) (.node (kat 8 p) (.node (o7 p) (.node (o42 p) .nil .nil) .nil) (.node (kat 45 p) (.node (o56 p) .nil .nil) .nil)) (.node (o25 p) (.node (kat 34 p) (.node (kat 77 p) .nil .nil) .nil) (.node (kat 56 p) .nil .nil))) (.node (o7 p) (.node (o6 p) (.node (kat 28 p) (.node (kat 73 p) .nil .nil) .nil) (.node (o7 p) .nil .nil)) (.node (kat 21 p) (.node (o36 p) (.node (o51 p) .nil .nil) .nil) (.node (kat 62 p) .nil .nil)))) (.node (o6 p) (.node (o14 p) (.node (kat 11 p) (.node (kat 25 p) (.node (o7 p) .nil .nil) .nil) (.node (o38 p) (.node (o71 p) .nil .nil) .nil)) (.node (kat 19 p) (.node (kat 37 p) (.node (kat 80 p) .nil .nil) .nil) (.node (kat 59 p) .nil .nil))) (.node (o17 p) (.node (kat 13 p) (.node (kat 31 p) (.node (o49 p) .nil .nil) .nil) (.node (kat 53 p) .nil .nil)) (.node (o29 p) (.node (kat 42 p) (.node (o54 p) .nil .nil) .nil) (.node (kat 65 p) .nil .nil))))) (.node (o4 p) (.node (o8 p) (.node (kat 3 p) (.node (o19 p) (.node (kat 24 p) (.node (kat 69 p) .nil .nil) .nil) (.node (kat 46 p) (.node (o73 p) .nil .nil) .nil)) (.node (kat 17 p) (.node (kat 35 p) (.node (kat 78 p) .nil .nil) .nil) (.node (o40 p) .nil .nil))) (.node (o6 p) (.node (o23 p) (.node (o33 p) (.node (o47 p) .nil .nil) .nil) (.node (kat 52 p) .nil .nil)) (.node (o28 p) (.node (o7 p) (.node (kat 84 p) .nil .nil) .nil) (.node (kat 63 p) .nil .nil)))) (.node (o10 p) (.node (kat 6 p) (.node (o20 p) (.node (kat 27 p) (.node (kat 72 p) .nil .nil) .nil) (.node (kat 49 p) (.node (o6 p) .nil .nil) .nil)) (.node (o26 p) (.node (kat 39 p) (.node (kat 81 p) .nil .nil) .nil) (.node (o7 p) .nil .nil))) (.node (kat 7 p) (.node (kat 14 p) (.node (o7 p) (.node (o7 p) .nil .nil) .nil) (.node (kat 55 p) .nil .nil)) (.node (o31 p) (.node (kat 43 p) (.node (o55 p) .nil .nil) .nil) (.node (kat 66 p) .nil .nil)))))) (.node (kat 0 p) (.node (o3 p) (.node (o7 p) (.node (o7 p) (.node (kat 9 p) (.node (kat 23 p) (.node (kat 68 p) .nil .nil) .nil) (.node (o7 p) (.node (o70 p) .nil .nil) .nil)) (.node (kat 16 p) (.node (o34 p) (.node (o50 p) .nil .nil) .nil) (.node (kat 57 p) .nil .nil))) (.node (o15 p) (.node (o22 p) (.node (kat 29 p) (.node (kat 74 p) .nil .nil) .nil) (.node (kat 51 p) .nil .nil)) (.node (o20 p) (.node (kat 40 p) (.node (kat 83 p) .nil .nil) .nil) (.node (o41 p) .nil .nil)))) (.node (o46 p) (.node (kat 5 p) (.node (kat 12 p) (.node (kat 26 p) (.node (kat 71 p) .nil .nil) .nil) (.node (kat 48 p) (.node (o74 p) .nil .nil) .nil)) (.node (kat 20 p) (.node (kat 38 p) (.node (o7 p) .nil .nil) .nil) (.node (kat 60 p) .nil .nil))) (.node (o18 p) (.node (o7 p) (.node (kat 32 p) (.node (kat 75 p) .nil .nil) .nil) (.node (kat 54 p) .nil .nil)) (.node (o30 p) (.node (o37 p) (.node (kat 85 p) .nil .nil) .nil) (.node (o7 p) .nil .nil))))) (.node (o5 p) (.node (o9 p) (.node (kat 4 p) (.node (kat 10 p) (.node (o32 p) (.node (kat 70 p) .nil .nil) .nil) (.node (kat 47 p) (.node (o70 p) .nil .nil) .nil)) (.node (kat 18 p) (.node (kat 36 p) (.node (kat 79 p) .nil .nil) .nil) (.node (kat 58 p) .nil .nil))) (.node (o16 p) (.node (o24 p) (.node (kat 30 p) (.node (o48 p) .nil .nil) .nil) (.node (o39 p) .nil .nil)) (.node (o6 p) (.node (kat 41 p) (.node (o53 p) .nil .nil) .nil) (.node (kat 64 p) .nil .nil)))) (.node (o11 p) (.node (o6 p) (.node (o21 p) (.node (o7 p) (.node (o43 p) .nil .nil) .nil) (.node (kat 50 p) (.node (o75 p) .nil .nil) .nil)) (.node (o27 p) (.node (o35 p) (.node (kat 82 p) .nil .nil) .nil) (.node (kat 61 p) .nil .nil))) (.node (o7 p) (.node (kat 15 p) (.node (kat 33 p) (.node (kat 76 p) .nil .nil) .nil) (.node (o7 p) .nil .nil)) (.node (kat 22 p) (.node (kat 44 p) (.node (o6 p) .nil .nil) .nil) (.node (kat 67 p) .nil .nil)))))))
noncomputable def H5 : Params → Heap := fun p => absHeap (T5 p) (nat_lit 167) ⟨[],[],[],0,[],[],.false,#[],[],0,.false,.false,.false,0,[2000,10,10],.false,0,.true,[],[],0,.false⟩
noncomputable def D5 (w : World) (os : OsState) : SharedT := ⟨T5 w.params, (nat_lit 167), ⟨[],[],[],0,[],[],.false,#[],[],0,.false,.false,.false,0,[2000,10,10],.false,0,.true,[],[],0,.false⟩, ⟨[]⟩, ⟨0,0,0,0⟩, (nat_lit 1681), os⟩
noncomputable def T6 : Params → BT := fun p => (.node (o0 p) (.node (o1 p) (.node (o76 p) (.node (o6 p) (.node (kat 2 p) (.node (kat 8 p) (.node (o7 p) (.node (o42 p) .nil .nil) .nil) (.node (kat 45 p) (.node (o56 p) .nil .nil) .nil)) (.node (o25 p) (.node (kat 34 p) (.node (kat 77 p) .nil .nil) .nil) (.node (kat 56 p) (.node (kat 89 p) .nil .nil) .nil))) (.node (o7 p) (.node (o6 p) (.node (kat 28 p) (.node (kat 73 p) .nil .nil) .nil) (.node (o7 p) (.node (o79 p) .nil .nil) .nil)) (.node (kat 21 p) (.node (o36 p) (.node (o51 p) .nil .nil) .nil) (.node (kat 62 p) (.node (kat 95 p) .nil .nil) .nil)))) (.node (o6 p) (.node (o14 p) (.node (kat 11 p) (.node (kat 25 p) (.node (o7 p) .nil .nil) .nil) (.node (o38 p) (.node (o78 p) .nil .nil) .nil)) (.node (kat 19 p) (.node (kat 37 p) (.node (kat 80 p) .nil .nil) .nil) (.node (kat 59 p) (.node (kat 92 p) .nil .nil) .nil))) (.node (o17 p) (.node (kat 13 p) (.node (kat 31 p) (.node (o49 p) .nil .nil) .nil) (.node (kat 53 p) (.node (o7 p) .nil .nil) .nil)) (.node (o29 p) (.node (kat 42 p) (.node (o54 p) .nil .nil) .nil) (.node (kat 65 p) .nil .nil))))) (.node (o4 p) (.node (o8 p) (.node (kat 3 p) (.node (o19 p) (.node (kat 24 p) (.node (kat 69 p) .nil .nil) .nil) (.node (kat 46 p) (.node (o73 p) .nil .nil) .nil)) (.node (kat 17 p) (.node (kat 35 p) (.node (kat 78 p) .nil .nil) .nil) (.node (o40 p) (.node (kat 91 p) .nil .nil) .nil))) (.node (o6 p) (.node (o23 p) (.node (o33 p) (.node (o47 p) .nil .nil) .nil) (.node (kat 52 p) (.node (o80 p) .nil .nil) .nil)) (.node (o28 p) (.node (o7 p) (.node (kat 84 p) .nil .nil) .nil) (.node (kat 63 p) (.node (o78 p) .nil .nil) .nil)))) (.node (o10 p) (.node (kat 6 p) (.node (o20 p) (.node (kat 27 p) (.node (kat 72 p) .nil .nil) .nil) (.node (kat 49 p) (.node (o6 p) .nil .nil) .nil)) (.node (o26 p) (.node (kat 39 p) (.node (kat 81 p) .nil .nil) .nil) (.node (o7 p) (.node (o82 p) .nil .nil) .nil))) (.node (kat 7 p) (.node (kat 14 p) (.node (o7 p) (.node (o7 p) .nil .nil) .nil) (.node (kat 55 p) (.node (kat 88 p) .nil .nil) .nil)) (.node (o31 p) (.node (kat 43 p) (.node (o55 p) .nil .nil) .nil) (.node (kat 66 p) .nil .nil)))))) (.node (kat 0 p) (.node (o3 p) (.node (o7 p) (.node (o7 p) (.node (kat 9 p) (.node (kat 23 p) (.node (kat 68 p) .nil .nil) .nil) (.node (o7 p) (.node (o70 p) .nil .nil) .nil)) (.node (kat 16 p) (.node (o34 p) (.node (o50 p) .nil .nil) .nil) (.node (kat 57 p) (.node (kat 90 p) .nil .nil) .nil))) (.node (o15 p) (.node (o22 p) (.node (kat 29 p) (.node (kat 74 p) .nil .nil) .nil) (.node (kat 51 p) (.node (o6 p) .nil .nil) .nil)) (.node (o20 p) (.node (kat 40 p) (.node (kat 83 p) .nil .nil) .nil) (.node (o41 p) (.node (o70 p) .nil .nil) .nil)))) (.node (o77 p) (.node (kat 5 p) (.node (kat 12 p) (.node (kat 26 p) (.node (kat 71 p) .nil .nil) .nil) (.node (kat 48 p) (.node (o74 p) .nil .nil) .nil)) (.node (kat 20 p) (.node (kat 38 p) (.node (o7 p) .nil .nil) .nil) (.node (kat 60 p) (.node (kat 93 p) .nil .nil) .nil))) (.node (o18 p) (.node (o7 p) (.node (kat 32 p) (.node (kat 75 p) .nil .nil) .nil) (.node (kat 54 p) (.node (kat 87 p) .nil .nil) .nil)) (.node (o30 p) (.node (o37 p) (.node (kat 85 p) .nil .nil) .nil) (.node (o7 p) .nil .nil))))) (.node (o5 p) (.node (o9 p) (.node (kat 4 p) (.node (kat 10 p) (.node (o32 p) (.node (kat 70 p) .nil .nil) .nil) (.node (kat 47 p) (.node (o70 p) .nil .nil) .nil)) (.node (kat 18 p) (.node (kat 36 p) (.node (kat 79 p) .nil .nil) .nil) (.node (kat 58 p) (.node (o7 p) .nil .nil) .nil))) (.node (o16 p) (.node (o24 p) (.node (kat 30 p) (.node (o48 p) .nil .nil) .nil) (.node (o39 p) (.node (kat 86 p) .nil .nil) .nil)) (.node (o6 p) (.node (kat 41 p) (.node (o53 p) .nil .nil) .nil) (.node (kat 64 p) .nil .nil)))) (.node (o11 p) (.node (o6 p) (.node (o21 p) (.node (o7 p) (.node (o43 p) .nil .nil) .nil) (.node (kat 50 p) (.node (o75 p) .nil .nil) .nil)) (.node (o27 p) (.node (o35 p) (.node (kat 82 p) .nil .nil) .nil) (.node (kat 61 p) (.node (kat 94 p) .nil .nil) .nil))) (.node (o7 p) (.node (kat 15 p) (.node (kat 33 p) (.node (kat 76 p) .nil .nil) .nil) (.node (o7 p) (.node (o81 p) .nil .nil) .nil)) (.node (kat 22 p) (.node (kat 44 p) (.node (o6 p) .nil .nil) .nil) (.node (kat 67 p) .nil .nil)))))))
noncomputable def H6 : Params → Heap := fun p => absHeap (T6 p) (nat_lit 186) ⟨[],[],[],0,[],[],.false,#[],[],0,.false,.false,.false,0,[2000,10,10],.false,0,.true,[],[],0,.false⟩
noncomputable def D6 (w : World) (os : OsState) : SharedT := ⟨T6 w.params, (nat_lit 186), ⟨[],[],[],0,[],[],.false,#[],[],0,.false,.false,.false,0,[2000,10,10],.false,0,.true,[],[],0,.false⟩, ⟨[]⟩, ⟨0,0,0,0⟩, (nat_lit 1983), os⟩
noncomputable def T7 : Params → BT := fun p => (.node (o0 p) (.node (o1 p) (.node (kat 1 p) (.node (o6 p) (.node (kat 2 p) (.node (kat 8 p) (.node (o7 p) (.node (o42 p) (.node (kat 143 p) .nil .nil) .nil) (.node (o7 p) .nil .nil)) (.node (kat 45 p) (.node (o56 p) .nil .nil) (.node (kat 121 p) .nil .nil))) (.node (o25 p) (.node (kat 34 p) (.node (kat 77 p) .nil .nil) (.node (kat 110 p) .nil .nil)) (.node (kat 56 p) (.node (kat 89 p) .nil .nil) (.node (kat 131 p) .nil .nil)))) (.node (o7 p) (.node (o6 p) (.node (kat 28 p) (.node (kat 73 p) .nil .nil) (.node (o7 p) .nil .nil)) (.node (o7 p) (.node (o79 p) .nil .nil) (.node (kat 127 p) .nil .nil))) (.node (kat 21 p) (.node (o36 p) (.node (o51 p) .nil .nil) (.node (kat 116 p) .nil .nil)) (.node (kat 62 p) (.node (kat 95 p) .nil .nil) (.node (kat 137 p) .nil .nil))))) (.node (o6 p) (.node (o14 p) (.node (kat 11 p) (.node (kat 25 p) (.node (o7 p) (.node (kat 145 p) .nil .nil) .nil) (.node (kat 101 p) .nil .nil)) (.node (o38 p) (.node (o78 p) .nil .nil) (.node (kat 124 p) .nil .nil))) (.node (kat 19 p) (.node (kat 37 p) (.node (kat 80 p) .nil .nil) (.node (kat 113 p) .nil .nil)) (.node (kat 59 p) (.node (kat 92 p) .nil .nil) (.node (kat 134 p) .nil .nil)))) (.node (o17 p) (.node (kat 13 p) (.node (kat 31 p) (.node (o49 p) .nil .nil) (.node (kat 107 p) .nil .nil)) (.node (kat 53 p) (.node (o7 p) .nil .nil) (.node (kat 129 p) .nil .nil))) (.node (o29 p) (.node (kat 42 p) (.node (o54 p) .nil .nil) (.node (kat 119 p) .nil .nil)) (.node (kat 65 p) (.node (o6 p) .nil .nil) (.node (kat 140 p) .nil .nil)))))) (.node (o4 p) (.node (o8 p) (.node (kat 3 p) (.node (o19 p) (.node (kat 24 p) (.node (kat 69 p) (.node (o96 p) .nil .nil) .nil) (.node (kat 100 p) .nil .nil)) (.node (kat 46 p) (.node (o73 p) .nil .nil) (.node (o7 p) .nil .nil))) (.node (kat 17 p) (.node (kat 35 p) (.node (kat 78 p) .nil .nil) (.node (o88 p) .nil .nil)) (.node (o40 p) (.node (kat 91 p) .nil .nil) (.node (kat 133 p) .nil .nil)))) (.node (o6 p) (.node (o23 p) (.node (o33 p) (.node (o47 p) .nil .nil) (.node (kat 106 p) .nil .nil)) (.node (kat 52 p) (.node (o80 p) .nil .nil) (.node (o92 p) .nil .nil))) (.node (o28 p) (.node (o7 p) (.node (kat 84 p) .nil .nil) (.node (kat 117 p) .nil .nil)) (.node (kat 63 p) (.node (kat 96 p) .nil .nil) (.node (o7 p) .nil .nil))))) (.node (o10 p) (.node (kat 6 p) (.node (o20 p) (.node (kat 27 p) (.node (kat 72 p) .nil .nil) (.node (kat 103 p) .nil .nil)) (.node (kat 49 p) (.node (o6 p) .nil .nil) (.node (kat 125 p) .nil .nil))) (.node (o26 p) (.node (kat 39 p) (.node (kat 81 p) .nil .nil) (.node (o7 p) .nil .nil)) (.node (o7 p) (.node (o82 p) .nil .nil) (.node (o94 p) .nil .nil)))) (.node (kat 7 p) (.node (kat 14 p) (.node (o7 p) (.node (o7 p) .nil .nil) (.node (kat 109 p) .nil .nil)) (.node (kat 55 p) (.node (kat 88 p) .nil .nil) (.node (o7 p) .nil .nil))) (.node (o31 p) (.node (kat 43 p) (.node (o55 p) .nil .nil) (.node (o90 p) .nil .nil)) (.node (kat 66 p) (.node (kat 97 p) .nil .nil) (.node (kat 141 p) .nil .nil))))))) (.node (kat 0 p) (.node (o3 p) (.node (o7 p) (.node (o7 p) (.node (kat 9 p) (.node (kat 23 p) (.node (kat 68 p) (.node (o7 p) .nil .nil) .nil) (.node (kat 99 p) .nil .nil)) (.node (o7 p) (.node (o70 p) .nil .nil) (.node (kat 122 p) .nil .nil))) (.node (kat 16 p) (.node (o34 p) (.node (o50 p) .nil .nil) (.node (kat 111 p) .nil .nil)) (.node (kat 57 p) (.node (kat 90 p) .nil .nil) (.node (kat 132 p) .nil .nil)))) (.node (o15 p) (.node (o22 p) (.node (kat 29 p) (.node (kat 74 p) .nil .nil) (.node (kat 105 p) .nil .nil)) (.node (kat 51 p) (.node (o6 p) .nil .nil) (.node (o7 p) .nil .nil))) (.node (o20 p) (.node (kat 40 p) (.node (kat 83 p) .nil .nil) (.node (o89 p) .nil .nil)) (.node (o41 p) (.node (o70 p) .nil .nil) (.node (kat 138 p) .nil .nil))))) (.node (o83 p) (.node (kat 5 p) (.node (kat 12 p) (.node (kat 26 p) (.node (kat 71 p) .nil .nil) (.node (kat 102 p) .nil .nil)) (.node (kat 48 p) (.node (o74 p) .nil .nil) (.node (o91 p) .nil .nil))) (.node (kat 20 p) (.node (kat 38 p) (.node (o7 p) .nil .nil) (.node (kat 114 p) .nil .nil)) (.node (kat 60 p) (.node (kat 93 p) .nil .nil) (.node (kat 135 p) .nil .nil)))) (.node (o18 p) (.node (o7 p) (.node (kat 32 p) (.node (kat 75 p) .nil .nil) (.node (kat 108 p) .nil .nil)) (.node (kat 54 p) (.node (kat 87 p) .nil .nil) (.node (kat 130 p) .nil .nil))) (.node (o30 p) (.node (o37 p) (.node (kat 85 p) .nil .nil) (.node (o7 p) .nil .nil)) (.node (o7 p) (.node (o85 p) .nil .nil) (.node (o95 p) .nil .nil)))))) (.node (o5 p) (.node (o9 p) (.node (kat 4 p) (.node (kat 10 p) (.node (o32 p) (.node (kat 70 p) (.node (kat 144 p) .nil .nil) .nil) (.node (o86 p) .nil .nil)) (.node (kat 47 p) (.node (o70 p) .nil .nil) (.node (kat 123 p) .nil .nil))) (.node (kat 18 p) (.node (kat 36 p) (.node (kat 79 p) .nil .nil) (.node (kat 112 p) .nil .nil)) (.node (kat 58 p) (.node (o7 p) .nil .nil) (.node (o7 p) .nil .nil)))) (.node (o16 p) (.node (o24 p) (.node (kat 30 p) (.node (o48 p) .nil .nil) (.node (o87 p) .nil .nil)) (.node (o39 p) (.node (kat 86 p) .nil .nil) (.node (kat 128 p) .nil .nil))) (.node (o6 p) (.node (kat 41 p) (.node (o53 p) .nil .nil) (.node (kat 118 p) .nil .nil)) (.node (kat 64 p) (.node (o84 p) .nil .nil) (.node (kat 139 p) .nil .nil))))) (.node (o11 p) (.node (o6 p) (.node (o21 p) (.node (o7 p) (.node (o43 p) .nil .nil) (.node (kat 104 p) .nil .nil)) (.node (kat 50 p) (.node (o75 p) .nil .nil) (.node (kat 126 p) .nil .nil))) (.node (o27 p) (.node (o35 p) (.node (kat 82 p) .nil .nil) (.node (kat 115 p) .nil .nil)) (.node (kat 61 p) (.node (kat 94 p) .nil .nil) (.node (kat 136 p) .nil .nil)))) (.node (o7 p) (.node (kat 15 p) (.node (kat 33 p) (.node (kat 76 p) .nil .nil) (.node (o7 p) .nil .nil)) (.node (o7 p) (.node (o81 p) .nil .nil) (.node (o93 p) .nil .nil))) (.node (kat 22 p) (.node (kat 44 p) (.node (o6 p) .nil .nil) (.node (kat 120 p) .nil .nil)) (.node (kat 67 p) (.node (kat 98 p) .nil .nil) (.node (kat 142 p) .nil .nil))))))))
noncomputable def H7 : Params → Heap := fun p => absHeap (T7 p) (nat_lit 260) ⟨[],[],[],0,[],[],.false,#[],[],0,.false,.false,.false,0,[2000,10,10],.false,0,.true,[],[],0,.false⟩
noncomputable def D7 (w : World) (os : OsState) : SharedT := ⟨T7 w.params, (nat_lit 260), ⟨[],[],[],0,[],[],.false,#[],[],0,.false,.false,.false,0,[2000,10,10],.false,0,.true,[],[],0,.false⟩, ⟨[]⟩, ⟨0,0,0,0⟩, (nat_lit 2100), os⟩
noncomputable def env : Env := { scope := pg.main.scope, locals := mainNs, globals := mainNs, cells := [], code := (.ref 13), frame := some 14 }
def ann : Option Value := (some (.ref 6))
noncomputable def thenRun (tb : String → Option Builtin) (p : Program) (w : World) (n₀ : Nat) (ann : Option Value) (b N : Nat) (x : Option (SharedT × Thread)) : Option (Flow × SharedT × Code × Pos) := match x with
  | some (s, t) => segRunT tb p w n₀ ann b N s t
  | none => none
section
variable {tb : String → Option Builtin} {p : Program} {w w0 : World} {n₀ : Nat} {a : Option Value} {b : Nat}
theorem segRun_mono (k : Nat) : ∀ (n : Nat) (s : Shared) (t : Thread) (r : Flow × Shared × Code × Pos), segRun tb p w n₀ a b n s t = some r → segRun tb p w n₀ a b (n + k) s t = some r
  | 0, _, _, _, h => by simp [segRun] at h
  | n + 1, s, t, r, h => by
    rw [Nat.add_right_comm]
    unfold segRun at h ⊢
    cases he : endAt b t with
    | some f => rw [he] at h; exact h
    | none =>
      rw [he] at h
      cases hk : stepOk n₀ a t with
      | false => rw [hk] at h; cases h
      | true =>
        rw [hk] at h
        cases hs : step (denote tb) p w s t with
        | halt o s' => rw [hs] at h; cases h
        | go s' t' => rw [hs] at h; exact segRun_mono k n s' t' r h
theorem seg_pre {n m N e : Nat} {s s2 : SharedT} {t : Thread} {f : Flow} {c : Code} {q : Pos} (h : segGoT tb p w n₀ a b n s t = segGoT tb p w0 n₀ a b m s t)
    (g : thenRun tb p w n₀ a b N (segGoT tb p w0 n₀ a b m s t) = some (f, s2, c, q)) : segRun tb p w n₀ a b (n + N + e) s.abs t = some (f, s2.abs, c, q) := by
  rw [← h] at g
  cases hh : segGoT tb p w n₀ a b n s t with
  | none => rw [hh] at g; cases g
  | some x => obtain ⟨s', t'⟩ := x; rw [hh] at g; exact segRun_mono e _ _ _ _ (seg_go (segGo_of hh) (segRun_of g))
noncomputable def thenGo (tb : String → Option Builtin) (p : Program) (w : World) (n₀ : Nat) (ann : Option Value) (b N : Nat) (x : Option (SharedT × Thread)) : Option (SharedT × Thread) := match x with
  | some (s, t) => segGoT tb p w n₀ ann b N s t
  | none => none
theorem seg_pre2 {n m N M e : Nat} {s s1 : SharedT} {t t1 : Thread} {r : Flow × Shared × Code × Pos} (h : segGoT tb p w n₀ a b n s t = segGoT tb p w0 n₀ a b m s t)
    (k : thenGo tb p w n₀ a b N (segGoT tb p w0 n₀ a b m s t) = some (s1, t1)) (g : segRun tb p w n₀ a b M s1.abs t1 = some r) : segRun tb p w n₀ a b (n + (N + M) + e) s.abs t = some r := by
  rw [← h] at k
  cases hh : segGoT tb p w n₀ a b n s t with
  | none => rw [hh] at k; cases k
  | some x => obtain ⟨s', t'⟩ := x; rw [hh] at k; exact segRun_mono e _ _ _ _ (seg_go (segGo_of hh) (seg_go (segGo_of k) g))
end
noncomputable def st1 : List Stmt := ((behindTheImports pg).drop 0).take 18
noncomputable def st2 : List Stmt := ((behindTheImports pg).drop 18).take 5
noncomputable def st3 : List Stmt := ((behindTheImports pg).drop 23).take 1
noncomputable def st4 : List Stmt := ((behindTheImports pg).drop 24).take 8
noncomputable def st5 : List Stmt := ((behindTheImports pg).drop 32).take 2
noncomputable def st6 : List Stmt := ((behindTheImports pg).drop 34).take 4
noncomputable def st7 : List Stmt := ((behindTheImports pg).drop 38).take 14
noncomputable def bE : List Stmt := st1 ++ (st2 ++ (st3 ++ (st4 ++ (st5 ++ (st6 ++ (st7 ++ ([])))))))
noncomputable def cE : Code := Code.body bE env
theorem q1 (w : World) : (fun os => segRunT treeTable pg w (nat_lit 11) ann (nat_lit 1) (nat_lit 889) (Db w os) (piecesOf st1 env cE ⟨0,0,0,0⟩ [topFrame ⟨0,0,0,0⟩])) = fun os => some (Flow.next, D1 w os, cE, ⟨115,0,123,42⟩) := by rewrite [PySem.W.Fast.te10110043849684766642, PySem.W.Fast.te14364793385576792824]; kernel_rfl
def Q2 (w : World) : Prop := ∀ os, segRun treeTable pg w (nat_lit 11) ann (nat_lit 1) (nat_lit 413) (D1 w os).abs (piecesOf st2 env cE ⟨115,0,123,42⟩ [topFrame ⟨0,0,0,0⟩]) = some (Flow.next, (D2 w os).abs, cE, ⟨169,0,169,2⟩)
theorem q2r (w : World) : (fun os => thenRun treeTable pg w (nat_lit 11) ann (nat_lit 1) (nat_lit 107) (segGoT treeTable pg (w.withFollow "special-get-raises" false) (nat_lit 11) ann (nat_lit 1) (nat_lit 306) (D1 w os) (piecesOf st2 env cE ⟨115,0,123,42⟩ [topFrame ⟨0,0,0,0⟩]))) = fun os => some (Flow.next, D2 w os, cE, ⟨169,0,169,2⟩) := by unfold thenRun; rewrite [PySem.W.Fast.te10110043849684766642, PySem.W.Fast.te14364793385576792824, PySem.W.Fast.te10295753902157049106]; kernel_rfl
theorem q2p0 (w : World) : (fun os => segGoT treeTable pg (w.withFollow "special-get-raises" false) (nat_lit 11) ann (nat_lit 1) (nat_lit 306) (D1 (w.withFollow "special-get-raises" false) os) (piecesOf st2 env cE ⟨115,0,123,42⟩ [topFrame ⟨0,0,0,0⟩])) = fun os => segGoT treeTable pg ((w.withFollow "special-get-raises" false).withFollow "special-get-raises" false) (nat_lit 11) ann (nat_lit 1) (nat_lit 306) (D1 (w.withFollow "special-get-raises" false) os) (piecesOf st2 env cE ⟨115,0,123,42⟩ [topFrame ⟨0,0,0,0⟩]) := by rewrite [PySem.W.Fast.te14364793385576792824, PySem.W.Fast.te10295753902157049106]; kernel_rfl
theorem q2p1 (w : World) : (fun os => segGoT treeTable pg (w.withFollow "special-get-raises" true) (nat_lit 11) ann (nat_lit 1) (nat_lit 306) (D1 (w.withFollow "special-get-raises" true) os) (piecesOf st2 env cE ⟨115,0,123,42⟩ [topFrame ⟨0,0,0,0⟩])) = fun os => segGoT treeTable pg ((w.withFollow "special-get-raises" true).withFollow "special-get-raises" false) (nat_lit 11) ann (nat_lit 1) (nat_lit 306) (D1 (w.withFollow "special-get-raises" true) os) (piecesOf st2 env cE ⟨115,0,123,42⟩ [topFrame ⟨0,0,0,0⟩]) := by rewrite [PySem.W.Fast.te14364793385576792824, PySem.W.Fast.te10295753902157049106]; kernel_rfl
theorem q2 : ∀ w : World, Q2 w := (byRow2 "special-get-raises" (fun w os => seg_pre (n := nat_lit 306) (N := nat_lit 107) (e := nat_lit 0) (congrFun (q2p0 w) os) (congrFun (q2r (w.withFollow "special-get-raises" false)) os)) (fun w os => seg_pre (n := nat_lit 306) (N := nat_lit 107) (e := nat_lit 0) (congrFun (q2p1 w) os) (congrFun (q2r (w.withFollow "special-get-raises" true)) os)))
def Q3 (w : World) : Prop := ∀ os, segRun treeTable pg w (nat_lit 11) ann (nat_lit 1) (nat_lit 9552) (D2 w os).abs (piecesOf st3 env cE ⟨169,0,169,2⟩ [topFrame ⟨0,0,0,0⟩]) = some (Flow.next, (D3 w os).abs, cE, ⟨170,0,170,11⟩)
noncomputable def thA (w : World) (os : OsState) : Thread := (PySem.W.Fast.tw10295753902157049106 PySem.W.Fast.tw14364793385576792824 pg ((w.withFollow "comprehension-iter-twice" false).withFollow "special-get-raises" false) (nat_lit 11) ann (nat_lit 1) (nat_lit 90) (D2 w os) (piecesOf st3 env cE ⟨169,0,169,2⟩ [topFrame ⟨0,0,0,0⟩])).elim (piecesOf st3 env cE ⟨169,0,169,2⟩ [topFrame ⟨0,0,0,0⟩]) (·.2)
theorem q3a (w : World) : (fun os => thenGo treeTable pg w (nat_lit 11) ann (nat_lit 1) (nat_lit 15) (segGoT treeTable pg ((w.withFollow "comprehension-iter-twice" false).withFollow "special-get-raises" false) (nat_lit 11) ann (nat_lit 1) (nat_lit 75) (D2 w os) (piecesOf st3 env cE ⟨169,0,169,2⟩ [topFrame ⟨0,0,0,0⟩]))) = fun os => some (Dm0 w os, thA w os) := by unfold thenGo; rewrite [PySem.W.Fast.te14364793385576792824, PySem.W.Fast.te10295753902157049106]; kernel_rfl
theorem q3m0 (w : World) : (fun os => segGoT treeTable pg w (nat_lit 11) ann (nat_lit 1) (nat_lit 2368) (Dm0 w os) (thA w os)) = fun os => some (Dm1 w os, thA w os) := by rewrite [PySem.W.Fast.te14364793385576792824, PySem.W.Fast.te10295753902157049106]; kernel_rfl
theorem q3m1 (w : World) : (fun os => segGoT treeTable pg w (nat_lit 11) ann (nat_lit 1) (nat_lit 2368) (Dm1 w os) (thA w os)) = fun os => some (Dm2 w os, thA w os) := by rewrite [PySem.W.Fast.te14364793385576792824, PySem.W.Fast.te10295753902157049106]; kernel_rfl
theorem q3m2 (w : World) : (fun os => segGoT treeTable pg w (nat_lit 11) ann (nat_lit 1) (nat_lit 2368) (Dm2 w os) (thA w os)) = fun os => some (Dm3 w os, thA w os) := by rewrite [PySem.W.Fast.te14364793385576792824, PySem.W.Fast.te10295753902157049106]; kernel_rfl
theorem q3z (w : World) : (fun os => segRunT treeTable pg w (nat_lit 11) ann (nat_lit 1) (nat_lit 2358) (Dm3 w os) (thA w os)) = fun os => some (Flow.next, D3 w os, cE, ⟨170,0,170,11⟩) := by rewrite [PySem.W.Fast.te10110043849684766642, PySem.W.Fast.te14364793385576792824]; kernel_rfl
theorem q3w (w : World) (os : OsState) : segRun treeTable pg w (nat_lit 11) ann (nat_lit 1) ((nat_lit 2368) + ((nat_lit 2368) + ((nat_lit 2368) + (nat_lit 2358)))) (Dm0 w os).abs (thA w os) = some (Flow.next, (D3 w os).abs, cE, ⟨170,0,170,11⟩) := (seg_go (segGo_of (congrFun (q3m0 w) os)) (seg_go (segGo_of (congrFun (q3m1 w) os)) (seg_go (segGo_of (congrFun (q3m2 w) os)) (segRun_of (congrFun (q3z w) os)))))
theorem q3p0 (w : World) : (fun os => segGoT treeTable pg ((w.withFollow "special-get-raises" false).withFollow "comprehension-iter-twice" false) (nat_lit 11) ann (nat_lit 1) (nat_lit 75) (D2 ((w.withFollow "special-get-raises" false).withFollow "comprehension-iter-twice" false) os) (piecesOf st3 env cE ⟨169,0,169,2⟩ [topFrame ⟨0,0,0,0⟩])) = fun os => segGoT treeTable pg ((((w.withFollow "special-get-raises" false).withFollow "comprehension-iter-twice" false).withFollow "comprehension-iter-twice" false).withFollow "special-get-raises" false) (nat_lit 11) ann (nat_lit 1) (nat_lit 75) (D2 ((w.withFollow "special-get-raises" false).withFollow "comprehension-iter-twice" false) os) (piecesOf st3 env cE ⟨169,0,169,2⟩ [topFrame ⟨0,0,0,0⟩]) := by rewrite [PySem.W.Fast.te14364793385576792824, PySem.W.Fast.te10295753902157049106]; kernel_rfl
theorem q3p1 (w : World) : (fun os => segGoT treeTable pg ((w.withFollow "special-get-raises" true).withFollow "comprehension-iter-twice" false) (nat_lit 11) ann (nat_lit 1) (nat_lit 75) (D2 ((w.withFollow "special-get-raises" true).withFollow "comprehension-iter-twice" false) os) (piecesOf st3 env cE ⟨169,0,169,2⟩ [topFrame ⟨0,0,0,0⟩])) = fun os => segGoT treeTable pg ((((w.withFollow "special-get-raises" true).withFollow "comprehension-iter-twice" false).withFollow "comprehension-iter-twice" false).withFollow "special-get-raises" false) (nat_lit 11) ann (nat_lit 1) (nat_lit 75) (D2 ((w.withFollow "special-get-raises" true).withFollow "comprehension-iter-twice" false) os) (piecesOf st3 env cE ⟨169,0,169,2⟩ [topFrame ⟨0,0,0,0⟩]) := by rewrite [PySem.W.Fast.te14364793385576792824, PySem.W.Fast.te10295753902157049106]; kernel_rfl
theorem q3p2 (w : World) : (fun os => segGoT treeTable pg ((w.withFollow "special-get-raises" false).withFollow "comprehension-iter-twice" true) (nat_lit 11) ann (nat_lit 1) (nat_lit 65) (D2 ((w.withFollow "special-get-raises" false).withFollow "comprehension-iter-twice" true) os) (piecesOf st3 env cE ⟨169,0,169,2⟩ [topFrame ⟨0,0,0,0⟩])) = fun os => segGoT treeTable pg ((((w.withFollow "special-get-raises" false).withFollow "comprehension-iter-twice" true).withFollow "comprehension-iter-twice" false).withFollow "special-get-raises" false) (nat_lit 11) ann (nat_lit 1) (nat_lit 75) (D2 ((w.withFollow "special-get-raises" false).withFollow "comprehension-iter-twice" true) os) (piecesOf st3 env cE ⟨169,0,169,2⟩ [topFrame ⟨0,0,0,0⟩]) := by rewrite [PySem.W.Fast.te14364793385576792824, PySem.W.Fast.te10295753902157049106]; kernel_rfl
theorem q3p3 (w : World) : (fun os => segGoT treeTable pg ((w.withFollow "special-get-raises" true).withFollow "comprehension-iter-twice" true) (nat_lit 11) ann (nat_lit 1) (nat_lit 65) (D2 ((w.withFollow "special-get-raises" true).withFollow "comprehension-iter-twice" true) os) (piecesOf st3 env cE ⟨169,0,169,2⟩ [topFrame ⟨0,0,0,0⟩])) = fun os => segGoT treeTable pg ((((w.withFollow "special-get-raises" true).withFollow "comprehension-iter-twice" true).withFollow "comprehension-iter-twice" false).withFollow "special-get-raises" false) (nat_lit 11) ann (nat_lit 1) (nat_lit 75) (D2 ((w.withFollow "special-get-raises" true).withFollow "comprehension-iter-twice" true) os) (piecesOf st3 env cE ⟨169,0,169,2⟩ [topFrame ⟨0,0,0,0⟩]) := by rewrite [PySem.W.Fast.te14364793385576792824, PySem.W.Fast.te10295753902157049106]; kernel_rfl
theorem q3 : ∀ w : World, Q3 w := (byRow2 "comprehension-iter-twice" (byRow2 "special-get-raises" (fun w os => seg_pre2 (n := nat_lit 75) (N := nat_lit 15) (M := ((nat_lit 2368) + ((nat_lit 2368) + ((nat_lit 2368) + (nat_lit 2358))))) (e := nat_lit 0) (congrFun (q3p0 w) os) (congrFun (q3a ((w.withFollow "special-get-raises" false).withFollow "comprehension-iter-twice" false)) os) (q3w ((w.withFollow "special-get-raises" false).withFollow "comprehension-iter-twice" false) os)) (fun w os => seg_pre2 (n := nat_lit 75) (N := nat_lit 15) (M := ((nat_lit 2368) + ((nat_lit 2368) + ((nat_lit 2368) + (nat_lit 2358))))) (e := nat_lit 0) (congrFun (q3p1 w) os) (congrFun (q3a ((w.withFollow "special-get-raises" true).withFollow "comprehension-iter-twice" false)) os) (q3w ((w.withFollow "special-get-raises" true).withFollow "comprehension-iter-twice" false) os))) (byRow2 "special-get-raises" (fun w os => seg_pre2 (n := nat_lit 65) (N := nat_lit 15) (M := ((nat_lit 2368) + ((nat_lit 2368) + ((nat_lit 2368) + (nat_lit 2358))))) (e := nat_lit 10) (congrFun (q3p2 w) os) (congrFun (q3a ((w.withFollow "special-get-raises" false).withFollow "comprehension-iter-twice" true)) os) (q3w ((w.withFollow "special-get-raises" false).withFollow "comprehension-iter-twice" true) os)) (fun w os => seg_pre2 (n := nat_lit 65) (N := nat_lit 15) (M := ((nat_lit 2368) + ((nat_lit 2368) + ((nat_lit 2368) + (nat_lit 2358))))) (e := nat_lit 10) (congrFun (q3p3 w) os) (congrFun (q3a ((w.withFollow "special-get-raises" true).withFollow "comprehension-iter-twice" true)) os) (q3w ((w.withFollow "special-get-raises" true).withFollow "comprehension-iter-twice" true) os))))
theorem q4 (w : World) : (fun os => segRunT treeTable pg w (nat_lit 11) ann (nat_lit 1) (nat_lit 133) (D3 w os) (piecesOf st4 env cE ⟨170,0,170,11⟩ [topFrame ⟨0,0,0,0⟩])) = fun os => some (Flow.next, D4 w os, cE, ⟨178,0,178,8⟩) := by rewrite [PySem.W.Fast.te10110043849684766642, PySem.W.Fast.te14364793385576792824]; kernel_rfl
def Q5 (w : World) : Prop := ∀ os, segRun treeTable pg w (nat_lit 11) ann (nat_lit 1) (nat_lit 3101) (D4 w os).abs (piecesOf st5 env cE ⟨178,0,178,8⟩ [topFrame ⟨0,0,0,0⟩]) = some (Flow.next, (D5 w os).abs, cE, ⟨181,0,181,28⟩)
theorem q5r (w : World) : (fun os => thenRun treeTable pg w (nat_lit 11) ann (nat_lit 1) (nat_lit 3039) (segGoT treeTable pg (w.withFollow "special-get-raises" false) (nat_lit 11) ann (nat_lit 1) (nat_lit 62) (D4 w os) (piecesOf st5 env cE ⟨178,0,178,8⟩ [topFrame ⟨0,0,0,0⟩]))) = fun os => some (Flow.next, D5 w os, cE, ⟨181,0,181,28⟩) := by unfold thenRun; rewrite [PySem.W.Fast.te10110043849684766642, PySem.W.Fast.te14364793385576792824, PySem.W.Fast.te10295753902157049106]; kernel_rfl
theorem q5p0 (w : World) : (fun os => segGoT treeTable pg (w.withFollow "special-get-raises" false) (nat_lit 11) ann (nat_lit 1) (nat_lit 62) (D4 (w.withFollow "special-get-raises" false) os) (piecesOf st5 env cE ⟨178,0,178,8⟩ [topFrame ⟨0,0,0,0⟩])) = fun os => segGoT treeTable pg ((w.withFollow "special-get-raises" false).withFollow "special-get-raises" false) (nat_lit 11) ann (nat_lit 1) (nat_lit 62) (D4 (w.withFollow "special-get-raises" false) os) (piecesOf st5 env cE ⟨178,0,178,8⟩ [topFrame ⟨0,0,0,0⟩]) := by rewrite [PySem.W.Fast.te14364793385576792824, PySem.W.Fast.te10295753902157049106]; kernel_rfl
theorem q5p1 (w : World) : (fun os => segGoT treeTable pg (w.withFollow "special-get-raises" true) (nat_lit 11) ann (nat_lit 1) (nat_lit 62) (D4 (w.withFollow "special-get-raises" true) os) (piecesOf st5 env cE ⟨178,0,178,8⟩ [topFrame ⟨0,0,0,0⟩])) = fun os => segGoT treeTable pg ((w.withFollow "special-get-raises" true).withFollow "special-get-raises" false) (nat_lit 11) ann (nat_lit 1) (nat_lit 62) (D4 (w.withFollow "special-get-raises" true) os) (piecesOf st5 env cE ⟨178,0,178,8⟩ [topFrame ⟨0,0,0,0⟩]) := by rewrite [PySem.W.Fast.te14364793385576792824, PySem.W.Fast.te10295753902157049106]; kernel_rfl
theorem q5 : ∀ w : World, Q5 w := (byRow2 "special-get-raises" (fun w os => seg_pre (n := nat_lit 62) (N := nat_lit 3039) (e := nat_lit 0) (congrFun (q5p0 w) os) (congrFun (q5r (w.withFollow "special-get-raises" false)) os)) (fun w os => seg_pre (n := nat_lit 62) (N := nat_lit 3039) (e := nat_lit 0) (congrFun (q5p1 w) os) (congrFun (q5r (w.withFollow "special-get-raises" true)) os)))
def Q6 (w : World) : Prop := ∀ os, segRun treeTable pg w (nat_lit 11) ann (nat_lit 1) (nat_lit 4389) (D5 w os).abs (piecesOf st6 env cE ⟨181,0,181,28⟩ [topFrame ⟨0,0,0,0⟩]) = some (Flow.next, (D6 w os).abs, cE, ⟨189,0,189,23⟩)
theorem q6r (w : World) : (fun os => thenRun treeTable pg w (nat_lit 11) ann (nat_lit 1) (nat_lit 4361) (segGoT treeTable pg (w.withFollow "special-get-raises" false) (nat_lit 11) ann (nat_lit 1) (nat_lit 28) (D5 w os) (piecesOf st6 env cE ⟨181,0,181,28⟩ [topFrame ⟨0,0,0,0⟩]))) = fun os => some (Flow.next, D6 w os, cE, ⟨189,0,189,23⟩) := by unfold thenRun; rewrite [PySem.W.Fast.te10110043849684766642, PySem.W.Fast.te14364793385576792824, PySem.W.Fast.te10295753902157049106]; kernel_rfl
theorem q6p0 (w : World) : (fun os => segGoT treeTable pg (w.withFollow "special-get-raises" false) (nat_lit 11) ann (nat_lit 1) (nat_lit 28) (D5 (w.withFollow "special-get-raises" false) os) (piecesOf st6 env cE ⟨181,0,181,28⟩ [topFrame ⟨0,0,0,0⟩])) = fun os => segGoT treeTable pg ((w.withFollow "special-get-raises" false).withFollow "special-get-raises" false) (nat_lit 11) ann (nat_lit 1) (nat_lit 28) (D5 (w.withFollow "special-get-raises" false) os) (piecesOf st6 env cE ⟨181,0,181,28⟩ [topFrame ⟨0,0,0,0⟩]) := by rewrite [PySem.W.Fast.te14364793385576792824, PySem.W.Fast.te10295753902157049106]; kernel_rfl
theorem q6p1 (w : World) : (fun os => segGoT treeTable pg (w.withFollow "special-get-raises" true) (nat_lit 11) ann (nat_lit 1) (nat_lit 28) (D5 (w.withFollow "special-get-raises" true) os) (piecesOf st6 env cE ⟨181,0,181,28⟩ [topFrame ⟨0,0,0,0⟩])) = fun os => segGoT treeTable pg ((w.withFollow "special-get-raises" true).withFollow "special-get-raises" false) (nat_lit 11) ann (nat_lit 1) (nat_lit 28) (D5 (w.withFollow "special-get-raises" true) os) (piecesOf st6 env cE ⟨181,0,181,28⟩ [topFrame ⟨0,0,0,0⟩]) := by rewrite [PySem.W.Fast.te14364793385576792824, PySem.W.Fast.te10295753902157049106]; kernel_rfl
theorem q6 : ∀ w : World, Q6 w := (byRow2 "special-get-raises" (fun w os => seg_pre (n := nat_lit 28) (N := nat_lit 4361) (e := nat_lit 0) (congrFun (q6p0 w) os) (congrFun (q6r (w.withFollow "special-get-raises" false)) os)) (fun w os => seg_pre (n := nat_lit 28) (N := nat_lit 4361) (e := nat_lit 0) (congrFun (q6p1 w) os) (congrFun (q6r (w.withFollow "special-get-raises" true)) os)))
def Q7 (w : World) : Prop := ∀ os, segRun treeTable pg w (nat_lit 11) ann (nat_lit 1) (nat_lit 481) (D6 w os).abs (piecesOf st7 env cE ⟨189,0,189,23⟩ [topFrame ⟨0,0,0,0⟩]) = some (Flow.next, (D7 w os).abs, cE, ⟨363,0,380,95⟩)
theorem q7r (w : World) : (fun os => thenRun treeTable pg w (nat_lit 11) ann (nat_lit 1) (nat_lit 453) (segGoT treeTable pg (w.withFollow "special-get-raises" false) (nat_lit 11) ann (nat_lit 1) (nat_lit 28) (D6 w os) (piecesOf st7 env cE ⟨189,0,189,23⟩ [topFrame ⟨0,0,0,0⟩]))) = fun os => some (Flow.next, D7 w os, cE, ⟨363,0,380,95⟩) := by unfold thenRun; rewrite [PySem.W.Fast.te10110043849684766642, PySem.W.Fast.te14364793385576792824, PySem.W.Fast.te10295753902157049106]; kernel_rfl
theorem q7p0 (w : World) : (fun os => segGoT treeTable pg (w.withFollow "special-get-raises" false) (nat_lit 11) ann (nat_lit 1) (nat_lit 28) (D6 (w.withFollow "special-get-raises" false) os) (piecesOf st7 env cE ⟨189,0,189,23⟩ [topFrame ⟨0,0,0,0⟩])) = fun os => segGoT treeTable pg ((w.withFollow "special-get-raises" false).withFollow "special-get-raises" false) (nat_lit 11) ann (nat_lit 1) (nat_lit 28) (D6 (w.withFollow "special-get-raises" false) os) (piecesOf st7 env cE ⟨189,0,189,23⟩ [topFrame ⟨0,0,0,0⟩]) := by rewrite [PySem.W.Fast.te14364793385576792824, PySem.W.Fast.te10295753902157049106]; kernel_rfl
theorem q7p1 (w : World) : (fun os => segGoT treeTable pg (w.withFollow "special-get-raises" true) (nat_lit 11) ann (nat_lit 1) (nat_lit 28) (D6 (w.withFollow "special-get-raises" true) os) (piecesOf st7 env cE ⟨189,0,189,23⟩ [topFrame ⟨0,0,0,0⟩])) = fun os => segGoT treeTable pg ((w.withFollow "special-get-raises" true).withFollow "special-get-raises" false) (nat_lit 11) ann (nat_lit 1) (nat_lit 28) (D6 (w.withFollow "special-get-raises" true) os) (piecesOf st7 env cE ⟨189,0,189,23⟩ [topFrame ⟨0,0,0,0⟩]) := by rewrite [PySem.W.Fast.te14364793385576792824, PySem.W.Fast.te10295753902157049106]; kernel_rfl
theorem q7 : ∀ w : World, Q7 w := (byRow2 "special-get-raises" (fun w os => seg_pre (n := nat_lit 28) (N := nat_lit 453) (e := nat_lit 0) (congrFun (q7p0 w) os) (congrFun (q7r (w.withFollow "special-get-raises" false)) os)) (fun w os => seg_pre (n := nat_lit 28) (N := nat_lit 453) (e := nat_lit 0) (congrFun (q7p1 w) os) (congrFun (q7r (w.withFollow "special-get-raises" true)) os)))
theorem opens (w : World) : importEnds treeTable (opening pg) w (nat_lit 391) (start (opening pg)).1 (start (opening pg)).2 = some ⟨He w.params, ⟨[]⟩, ⟨0,0,0,0⟩, (nat_lit 181), (start (opening pg)).1.os⟩ := by rewrite [PySem.W.Fast.te10274390034422433532, PySem.W.Fast.te14364793385576792824, PySem.W.Fast.te1435165496053646825]; kernel_rfl
theorem fenced (w : World) : (fun os => (fenceModules? pg ⟨He w.params, ⟨[]⟩, ⟨0,0,0,0⟩, (nat_lit 181), os⟩).map (fun s => (s.heap, s.gens, s.drawn, s.toks))) = fun _ => some (H0 w.params, ⟨[]⟩, ⟨0,0,0,0⟩, (nat_lit 181)) := by rewrite [PySem.W.Fast.te14289696077712309145]; kernel_rfl
theorem pre (w : World) (os : OsState) : topGo treeTable pg w (nat_lit 11) ann (nat_lit 12) (D0 w os).abs (topStub pg) = some ((Da w os).abs, ⟨denote treeTable cE, cE, ⟨0,0,0,0⟩, [topFrame ⟨0,0,0,0⟩]⟩) := by rewrite [PySem.W.Fast.te15667345088766844465, PySem.W.Fast.te14364793385576792824, PySem.W.Fast.te11892475500146522536]; kernel_rfl
theorem block (w : World) (os : OsState) : segRun treeTable pg w (nat_lit 11) ann (nat_lit 1) (nat_lit 1) (Da w os).abs (blockOf bE env cE ⟨0,0,0,0⟩ [topFrame ⟨0,0,0,0⟩]) = some (Flow.next, (Db w os).abs, cE, ⟨0,0,0,0⟩) := by rewrite [PySem.W.Fast.te14374325043358763698, PySem.W.Fast.te14364793385576792824]; kernel_rfl
theorem ends (w : World) (os : OsState) : topRun treeTable pg w (nat_lit 11) ann (nat_lit 2) (D7 w os).abs ⟨doneF .next, cE, ⟨363,0,380,95⟩, [topFrame ⟨0,0,0,0⟩]⟩ = some (D7 w os).abs := by rewrite [PySem.W.Fast.te14082659384304107361, PySem.W.Fast.te14364793385576792824]; kernel_rfl
theorem runs (w : World) (os : OsState) : topRun treeTable pg w (nat_lit 11) ann ((nat_lit 12) + ((nat_lit 1) + ((nat_lit 889) + ((nat_lit 413) + ((nat_lit 9552) + ((nat_lit 133) + ((nat_lit 3101) + ((nat_lit 4389) + ((nat_lit 481) + (nat_lit 2)))))))))) (D0 w os).abs (topStub pg) = some (D7 w os).abs := go_top (pre w os) (piece_block (block w os) (piece_app (segRun_of (congrFun (q1 w) os)) (piece_app (q2 w os) (piece_app (q3 w os) (piece_app (segRun_of (congrFun (q4 w) os)) (piece_app (q5 w os) (piece_app (q6 w os) (piece_app (q7 w os) (piece_nil (ends w os))))))))))
theorem size (w : World) : ((H0 w.params).isNs mainGlobals && (⟨[]⟩ : Array GenState).size == 0, (H0 w.params).objs.size, (H0 w.params).nsMap mainGlobals "__annotations__") = (true, (nat_lit 11), ann) := by rewrite [PySem.W.Fast.te8920871248978507458]; kernel_rfl
theorem adrsOk : ∀ P, adrs = (heap_39 P).map (·.1) := fun _ => by kernel_rfl
noncomputable abbrev xt (s : Shared) : Bool := xlAt view_39 lv s && recOk (RowW.records PySem.Challenge.rw_ij0185_01.row.toRowW) s
theorem looks (w : World) : (fun os => ((staticsOk (importedModules pg.main.body) (H0 w.params) (H7 w.params) && namesBound pg (H7 w.params) && gensDone (⟨H7 w.params, ⟨[]⟩, ⟨0,0,0,0⟩, (nat_lit 2100), os⟩ : Shared) && laidKept (H0 w.params) (H7 w.params)), openSeen view_39 loose (importedModules pg.main.body) xt true (⟨H7 w.params, ⟨[]⟩, ⟨0,0,0,0⟩, (nat_lit 2100), os⟩ : Shared), Hook.obs (kHook heap_39 adrs adrsOk) (⟨H7 w.params, ⟨[]⟩, ⟨0,0,0,0⟩, (nat_lit 2100), os⟩ : Shared))) = fun _ => (true, openGood view_39 loose, Hook.val (kHook heap_39 adrs adrsOk) w) := by rewrite [PySem.W.Fast.te4187177175401517315, PySem.W.Fast.te5923862056798008813]; kernel_rfl
theorem left : LeftO pg view_39 loose xt (Hook.obs (kHook heap_39 adrs adrsOk)) (Hook.val (kHook heap_39 adrs adrsOk)) (nat_lit 38028) true := LeftO.of_pieces (open_cut opens (by kernel_rfl) fenced) size runs (by kernel_rfl) looks
set_option maxHeartbeats 8000000 in
theorem well : PySem.Challenge.rw_ij0185_01.wellSaid = true := by
  unfold OpenLaw.wellSaid OpenRow.wellSaid OpenRow.partSaid looksOpen
  repeat' (with_reducible refine Bool.and_eq_true_iff.mpr ⟨?_, ?_⟩)
  all_goals decide +kernel
end hd
end
section
open PySem PySem.Builtin.Str PySem.StrLaws
set_option Elab.async false
set_option maxRecDepth 100000
abbrev T := List Nat
abbrev tl (x : Str) : T := x.cps.toList
noncomputable def S (x : T) : Str := ⟨x.toArray⟩
theorem S_cps (x : T) : (S x).cps.toList = x := rfl
theorem S_of (x : Str) : S x.cps.toList = x := by simp [S]
theorem S_len (x : T) : (S x).length = x.length := rfl
theorem len_tl (x : Str) : x.length = x.cps.toList.length := by simp [Str.length]
theorem S_inj {x y : T} : S x = S y ↔ x = y := ⟨fun h => by have := congrArg (fun s : Str => s.cps.toList) h; simpa [S_cps] using this, fun h => by rw [h]⟩
theorem S_beq (x y : T) : (S x == S y) = (x == y) := by
  cases h : x == y
  · rw [beq_eq_false_iff_ne] at h ⊢; exact fun e => h (S_inj.mp e)
  · rw [beq_iff_eq] at h ⊢; rw [h]
theorem eq_S {x : Str} {l : T} (h : x.cps.toList = l) : x = S l := by rw [← h, S_of]
theorem S_app (x y : T) : S x ++ S y = S (x ++ y) := eq_S (by rw [Str.cps_append]; simp [S_cps])
noncomputable def clipN (v : Option Int) (d n : Nat) : Nat := match v with
  | none => d
  | some i => (max 0 (min (if i < 0 then i + n else i) (n : Int))).toNat
theorem slice_gen (x : Str) (l u : Option Int) : Txt.slice x l u = S (((tl x).take (clipN u x.length x.length)).drop (clipN l 0 x.length)) := by
  have hA : ∀ v : Option Int, (match v with | none => (0 : Int) | some i => max (0 : Int) (min (if i < 0 then i + (x.length : Int) else i) (x.length : Int)) : Int) = ((clipN v 0 x.length : Nat) : Int) := by
    intro v; cases v with
    | none => rfl
    | some i => show max 0 _ = (((max 0 _ : Int)).toNat : Int); lia
  have hB : ∀ v : Option Int, (match v with | none => (x.length : Int) | some i => max (0 : Int) (min (if i < 0 then i + (x.length : Int) else i) (x.length : Int)) : Int) = ((clipN v x.length x.length : Nat) : Int) := by
    intro v; cases v with
    | none => rfl
    | some i => show max 0 _ = (((max 0 _ : Int)).toNat : Int); lia
  have hBle : clipN u x.length x.length ≤ x.length := by
    cases u with
    | none => exact Nat.le_refl _
    | some i => show (max 0 _ : Int).toNat ≤ _; lia
  have hidx : strSliceIndices l u 1 x.length = sliceRange (clipN l 0 x.length : Nat) (clipN u x.length x.length : Nat) 1 := by
    rw [← hA l, ← hB u]; rfl
  by_cases hab : clipN l 0 x.length ≤ clipN u x.length x.length
  · have e : strSliceIndices l u 1 x.length = strSliceIndices (some ((clipN l 0 x.length : Nat) : Int)) (some ((clipN u x.length x.length : Nat) : Int)) 1 x.length := by
      rw [hidx]
      have h1 : ¬ (((clipN l 0 x.length : Nat) : Int) < 0) := by lia
      have h2 : ¬ (((clipN u x.length x.length : Nat) : Int) < 0) := by lia
      have e1 : max (0 : Int) (min ((clipN l 0 x.length : Nat) : Int) (x.length : Int)) = (clipN l 0 x.length : Nat) := by lia
      have e2 : max (0 : Int) (min ((clipN u x.length x.length : Nat) : Int) (x.length : Int)) = (clipN u x.length x.length : Nat) := by lia
      simp only [strSliceIndices, h1, h2, if_false, e1, e2, show ((1 : Int) > 0) = True from by simp, if_true]
    have e2 : Txt.slice x l u = sliceText x (some ((clipN l 0 x.length : Nat) : Int)) (some ((clipN u x.length x.length : Nat) : Int)) := by
      unfold Txt.slice sliceText; rw [e]
    rw [e2, sliceText_nat x hab hBle]
    show S _ = _
    rw [List.drop_take]
  · have e : strSliceIndices l u 1 x.length = [] := by
      rw [hidx]
      unfold sliceRange
      rw [if_pos (by decide), if_neg (by lia)]
      rfl
    unfold Txt.slice
    rw [e]
    have hd : ((tl x).take (clipN u x.length x.length)).drop (clipN l 0 x.length) = [] := by
      apply List.drop_eq_nil_of_le
      rw [List.length_take]; lia
    rw [hd]
    split
    · rename_i h
      have : x.length = 0 := by
        simp at h; lia
      exact eq_S (by rw [len_tl] at this; exact List.length_eq_zero_iff.mp this)
    · rfl
theorem mm_nat {j : Int} {n : Nat} (h : 0 ≤ j) : (max 0 (min (if j < 0 then j + (n : Int) else j) (n : Int))).toNat = min j.toNat n := by
  rw [if_neg (Int.not_lt.mpr h)]; lia
theorem mm_back {n : Nat} : (max 0 (min (-1 + (n : Int)) (n : Int))).toNat = n - 1 := by lia
theorem tk_min (x : T) (k : Nat) : x.take (min k x.length) = x.take k := by rw [← List.take_take, List.take_length]
theorem dp_min (x y : T) (k : Nat) (h : y.length ≤ x.length) : y.drop (min k x.length) = y.drop k := by
  by_cases hi : k ≤ x.length
  · rw [Nat.min_eq_left hi]
  · have hi := Nat.le_of_lt (Nat.not_le.mp hi)
    rw [Nat.min_eq_right hi, List.drop_eq_nil_of_le h, List.drop_eq_nil_of_le (Nat.le_trans h hi)]
theorem slice_to (x : Str) {j : Int} (h : 0 ≤ j) : Txt.slice x none (some j) = S ((tl x).take j.toNat) := by
  rw [slice_gen]
  show S (((tl x).take ((max 0 (min (if j < 0 then j + (x.length : Int) else j) (x.length : Int))).toNat)).drop 0) = _
  rw [mm_nat h, List.drop_zero, len_tl, tk_min]
theorem slice_from (x : Str) {i : Int} (h : 0 ≤ i) : Txt.slice x (some i) none = S ((tl x).drop i.toNat) := by
  rw [slice_gen]
  show S (((tl x).take x.length).drop ((max 0 (min (if i < 0 then i + (x.length : Int) else i) (x.length : Int))).toNat)) = _
  rw [mm_nat h, len_tl, List.take_length, dp_min _ _ _ (Nat.le_refl _)]
theorem slice_mid (x : Str) {i j : Int} (h : 0 ≤ i) (h2 : 0 ≤ j) : Txt.slice x (some i) (some j) = S (((tl x).take j.toNat).drop i.toNat) := by
  rw [slice_gen]
  show S (((tl x).take ((max 0 (min (if j < 0 then j + (x.length : Int) else j) (x.length : Int))).toNat)).drop ((max 0 (min (if i < 0 then i + (x.length : Int) else i) (x.length : Int))).toNat)) = _
  rw [mm_nat h, mm_nat h2, len_tl, tk_min, dp_min _ _ _ (List.length_take_le' _ _)]
theorem slice_back (x : Str) {i : Int} (h : 0 ≤ i) : Txt.slice x (some i) (some (-1)) = S ((tl x).dropLast.drop i.toNat) := by
  rw [slice_gen]
  show S (((tl x).take ((max 0 (min (-1 + (x.length : Int)) (x.length : Int))).toNat)).drop ((max 0 (min (if i < 0 then i + (x.length : Int) else i) (x.length : Int))).toNat)) = _
  rw [mm_nat h, mm_back, len_tl, List.dropLast_eq_take, dp_min _ _ _ (List.length_take_le' _ _)]
theorem slice_butlast (x : Str) : Txt.slice x none (some (-1)) = S (tl x).dropLast := by
  rw [slice_gen]
  show S (((tl x).take ((max 0 (min (-1 + (x.length : Int)) (x.length : Int))).toNat)).drop 0) = _
  rw [mm_back, List.drop_zero, len_tl, List.dropLast_eq_take]
noncomputable def splitL (c : Nat) : T → List T
  | [] => [[]]
  | d :: r => if d = c then [] :: splitL c r else match splitL c r with
    | p :: ps => (d :: p) :: ps
    | [] => [[d]]
theorem splitL_ne (c : Nat) : ∀ x, splitL c x ≠ []
  | [] => by simp [splitL]
  | d :: r => by
    unfold splitL
    split
    · simp
    · split <;> simp
noncomputable def joinL (sep : T) : List T → T
  | [] => []
  | [p] => p
  | p :: q :: r => p ++ sep ++ joinL sep (q :: r)
theorem joinL_cons (sep p : T) {ps : List T} (h : ps ≠ []) : joinL sep (p :: ps) = p ++ sep ++ joinL sep ps := by
  cases ps with
  | nil => exact absurd rfl h
  | cons q r => rfl
theorem splitL_free (c : Nat) : ∀ (p : T), c ∉ p → splitL c p = [p]
  | [], _ => rfl
  | d :: r, h => by
    unfold splitL
    rw [if_neg (by intro e; exact h (by rw [e]; exact .head _)), splitL_free c r (fun m => h (.tail _ m))]
theorem splitL_app (c : Nat) : ∀ (p q : T), c ∉ p → splitL c (p ++ c :: q) = p :: splitL c q
  | [], q, _ => by simp [splitL]
  | d :: r, q, h => by
    show splitL c (d :: (r ++ c :: q)) = _
    rw [splitL, if_neg (by intro e; exact h (by rw [e]; exact .head _)), splitL_app c r q (fun m => h (.tail _ m))]
theorem splitL_join (c : Nat) : ∀ (ps : List T), ps ≠ [] → (∀ p ∈ ps, c ∉ p) → splitL c (joinL [c] ps) = ps
  | [], h, _ => absurd rfl h
  | [p], _, h => splitL_free c p (h p (.head _))
  | p :: q :: r, _, h => by
    show splitL c (p ++ [c] ++ joinL [c] (q :: r)) = _
    rw [List.append_assoc]
    show splitL c (p ++ c :: joinL [c] (q :: r)) = _
    rw [splitL_app c p _ (h p (.head _)), splitL_join c (q :: r) (by simp) fun p' hp => h p' (.tail _ hp)]
theorem join_splitL (c : Nat) : ∀ x : T, joinL [c] (splitL c x) = x
  | [] => rfl
  | d :: r => by
    have ih := join_splitL c r
    unfold splitL
    split
    · rename_i e
      rw [joinL_cons _ _ (splitL_ne c r), ih, e]; rfl
    · cases hs : splitL c r with
      | nil => exact absurd hs (splitL_ne c r)
      | cons p ps =>
        rw [hs] at ih
        show joinL [c] ((d :: p) :: ps) = _
        cases ps with
        | nil => show d :: p = d :: r; rw [← ih]; rfl
        | cons q t => show d :: p ++ [c] ++ joinL [c] (q :: t) = d :: r; rw [← ih]; rfl
theorem splitL_mem_free (c : Nat) : ∀ x : T, ∀ p ∈ splitL c x, c ∉ p
  | [], p, h => by simp [splitL] at h; simp [h]
  | d :: r, p, h => by
    have ih := splitL_mem_free c r
    unfold splitL at h
    split at h
    · rcases List.mem_cons.mp h with rfl | h
      · simp
      · exact ih p h
    · rename_i hd
      cases hs : splitL c r with
      | nil => rw [hs] at h; simp at h; subst h; simp; exact fun e => hd e.symm
      | cons q ps =>
        rw [hs] at h ih
        rcases List.mem_cons.mp h with rfl | h
        · intro m; rcases List.mem_cons.mp m with e | m
          · exact hd e.symm
          · exact ih q (.head _) m
        · exact ih p (.tail _ h)
theorem tl_join (sep : Str) : ∀ ps : List Str, tl (Str.join sep ps) = joinL (tl sep) (ps.map tl)
  | [] => rfl
  | [p] => rfl
  | p :: q :: r => by
    show tl (p ++ sep ++ Str.join sep (q :: r)) = tl p ++ tl sep ++ joinL (tl sep) ((q :: r).map tl)
    rw [← tl_join sep (q :: r)]
    simp only [tl, Str.cps_append, Array.toList_append]
theorem txt_join (sep : Str) (ps : List Str) : Txt.join sep ps = S (joinL (tl sep) (ps.map tl)) := by
  show glued sep ps = _
  rw [glued_eq_join]
  exact eq_S (tl_join sep ps)
theorem split_ne (x y : Str) : Txt.split x y ≠ [] := by
  unfold Txt.split
  split
  · simp
  · split
    · simp
    · intro h
      have h1 := partsBetween_eq x (occurrences x y 0 x.length (x.length + 1)) y.length
      obtain ⟨p, r, e⟩ := partsFrom_ne x y.length 0 (occurrences x y 0 x.length (x.length + 1))
      rw [h, e] at h1; cases h1
theorem txt_split (x : Str) (c : Nat) : Txt.split x ⟨#[c]⟩ = (splitL c (tl x)).map S := by
  have hj := join_split x ⟨#[c]⟩
  have hf := split_free x c
  have hn := split_ne x ⟨#[c]⟩
  generalize Txt.split x ⟨#[c]⟩ = ps at hj hf hn
  have h1 : tl x = joinL [c] (ps.map tl) := by rw [← hj]; exact tl_join _ _
  rw [h1, splitL_join c (ps.map tl) (by simpa using hn) (by
    intro p hp
    obtain ⟨q, hq, rfl⟩ := List.mem_map.mp hp
    exact hf q hq), List.map_map]
  have : (S ∘ tl) = _root_.id := by funext x; exact S_of x
  rw [this, List.map_id]
theorem txt_replace (x : Str) (c d : Nat) : Txt.replace x ⟨#[c]⟩ ⟨#[d]⟩ = S ((tl x).map fun k => if k = c then d else k) := by
  rw [replace_one, txt_split]
  refine eq_S ?_
  show tl _ = _
  rw [tl_join, List.map_map]
  have e : (tl ∘ S) = (_root_.id : T → T) := by funext x; exact S_cps x
  rw [e, List.map_id]
  show joinL [d] _ = _
  generalize tl x = l
  induction l with
  | nil => rfl
  | cons a r ih =>
    unfold splitL
    split
    · rename_i h
      rw [joinL_cons _ _ (splitL_ne c r), ih, List.map_cons, if_pos h]; rfl
    · rename_i h
      cases hs : splitL c r with
      | nil => exact absurd hs (splitL_ne c r)
      | cons p ps =>
        rw [hs] at ih
        rw [List.map_cons, if_neg h, ← ih]
        cases ps <;> rfl
noncomputable def rstripP (p : Nat → Bool) (x : T) : T := (x.reverse.dropWhile p).reverse
theorem takeWhile_len_drop {α : Type} (p : α → Bool) : ∀ l : List α, l.drop (l.takeWhile p).length = l.dropWhile p
  | [] => rfl
  | a :: r => by
    cases h : p a
    · simp [List.takeWhile_cons, List.dropWhile_cons, h]
    · simp [List.takeWhile_cons, List.dropWhile_cons, h, takeWhile_len_drop p r]
theorem strip_right (goes : Nat → Bool) (x : Str) : Txt.stripBy goes false true x = S (rstripP goes (tl x)) := by
  have key : stripped goes false true x = S (rstripP goes (tl x)) := by
    refine eq_S ?_
    show (strSub x 0 (x.length - ((x.cps.toList.drop 0).reverse.takeWhile goes).length)).cps.toList = _
    rw [strSub_toList, List.drop_zero, Nat.sub_zero]
    unfold rstripP
    rw [← takeWhile_len_drop, List.drop_reverse, List.reverse_reverse, len_tl]
  unfold Txt.stripBy
  split
  · rename_i h
    rw [← key]
    unfold stripSame at h
    simp only [Bool.and_eq_true, beq_iff_eq] at h
    obtain ⟨h1, h2⟩ := h
    unfold stripped
    rw [h2, h1]
    exact (sub_whole x).symm
  · exact key
theorem strip_left (goes : Nat → Bool) (x : Str) : Txt.stripBy goes true false x = S ((tl x).dropWhile goes) := by
  have key : stripped goes true false x = S ((tl x).dropWhile goes) := by
    refine eq_S ?_
    show (strSub x ((x.cps.toList.takeWhile goes).length) x.length).cps.toList = _
    rw [strSub_toList, takeWhile_len_drop, len_tl, List.take_of_length_le]
    rw [← takeWhile_len_drop, List.length_drop]; exact Nat.le_refl _
  unfold Txt.stripBy
  split
  · rename_i h
    rw [← key]
    unfold stripSame at h
    simp only [Bool.and_eq_true, beq_iff_eq] at h
    obtain ⟨h1, h2⟩ := h
    unfold stripped
    rw [h2, h1]
    exact (sub_whole x).symm
  · exact key
theorem sw_one (x : Str) (c : Nat) : Txt.startswith x ⟨#[c]⟩ = ((tl x).take 1 == [c]) := by
  unfold Txt.startswith
  rw [subAt_eq, len_tl]
  show (decide (0 + 1 ≤ (tl x).length) && ((List.drop 0 (tl x)).take 1 == [c])) = _
  cases h : tl x with
  | nil => rfl
  | cons a r => simp
theorem ew_one (x : Str) (c : Nat) : Txt.endswith x ⟨#[c]⟩ = ((tl x).getLast? == some c) := by
  unfold Txt.endswith
  rw [subAt_eq, len_tl]
  show (decide (0 + 1 ≤ (tl x).length) && ((List.drop ((tl x).length - 1) (tl x)).take 1 == [c])) = _
  cases h : tl x with
  | nil => rfl
  | cons a r =>
    have e1 : (a :: r).drop ((a :: r).length - 1) = [(a :: r).getLast (by simp)] := by
      conv => lhs; arg 2; rw [← List.dropLast_concat_getLast (l := a :: r) (by simp)]
      rw [List.drop_append]
      simp
    rw [e1, List.getLast?_eq_some_getLast (by simp)]
    simp
theorem in_one (x : Str) (c : Nat) : Txt.contains x ⟨#[c]⟩ = decide (c ∈ tl x) := found_one x c
theorem item_nat (x : Str) {i : Nat} {c : Nat} (h : (tl x)[i]? = some c) : Txt.item x (i : Int) = S [c] := by
  unfold Txt.item Txt.charAt
  rw [at_nonneg (by lia) (by simpa [← Array.getElem?_toList] using h)]
  rfl
theorem item_last (x : Str) {c : Nat} (h : (tl x).getLast? = some c) : Txt.item x (-1) = S [c] := by
  unfold Txt.item Txt.charAt
  have hl : 1 ≤ x.length := by
    rw [len_tl]
    cases e : tl x with
    | nil => rw [e] at h; cases h
    | cons a r => show 1 ≤ (tl x).length; rw [e]; simp
  rw [at_neg (by lia) (by lia) (n := c) ?_]
  · rfl
  · rw [← Array.getElem?_toList]
    rw [List.getLast?_eq_getElem?] at h
    have : (-1 + (x.length : Int)).toNat = (tl x).length - 1 := by
      show (-1 + (x.length : Int)).toNat = x.cps.toList.length - 1
      rw [← len_tl]; lia
    rw [this]; exact h
theorem at_one (x : Str) (c i : Nat) : At x ⟨#[c]⟩ x.length i ↔ (tl x)[i]? = some c := subAt_one x c i
theorem rfind_one (x : Str) (c : Nat) : (Txt.rfind x ⟨#[c]⟩ = -1 ∧ c ∉ tl x) ∨ ∃ i : Nat, Txt.rfind x ⟨#[c]⟩ = (i : Int) ∧ (tl x)[i]? = some c ∧ ∀ k, i < k → (tl x)[k]? ≠ some c := by
  unfold Txt.rfind
  rcases last_spec x ⟨#[c]⟩ with ⟨e, h⟩ | ⟨i, e, h1, h2⟩
  · left
    rw [e]
    refine ⟨rfl, fun hm => ?_⟩
    obtain ⟨j, hj⟩ := List.getElem?_of_mem hm
    exact h j ((at_one x c j).mpr hj)
  · right
    rw [e]
    exact ⟨i, rfl, (at_one x c i).mp h1, fun k hk hj => h2 k hk ((at_one x c k).mpr hj)⟩
noncomputable def linesL : T → List T
  | [] => []
  | d :: r => if d = 10 then [] :: linesL r else match linesL r with
    | p :: ps => (d :: p) :: ps
    | [] => [[d]]
noncomputable def linesP : T → T → List T
  | pre, [] => if pre = [] then [] else [pre]
  | pre, d :: r => if d = 10 then pre :: linesP [] r else linesP (pre ++ [d]) r
theorem linesP_eq : ∀ (x pre : T), linesP pre x = match linesL x with
    | [] => if pre = [] then [] else [pre]
    | p :: ps => (pre ++ p) :: ps
  | [], pre => rfl
  | d :: r, pre => by
    unfold linesP linesL
    split
    · rw [linesP_eq r []]
      simp only [List.append_nil, if_true, List.nil_append]
      cases linesL r <;> rfl
    · rw [linesP_eq r (pre ++ [d])]
      cases linesL r <;> simp
theorem linesP_nil (x : T) : linesP [] x = linesL x := by
  rw [linesP_eq]; cases linesL x <;> simp
noncomputable def spansG : T → Nat → Nat → List (Nat × Nat)
  | [], cur, start => if start < cur then [(start, cur)] else []
  | d :: r, cur, start => if d = 10 then (start, cur) :: spansG r (cur + 1) (cur + 1) else spansG r (cur + 1) start
theorem spans_run (x : Str) (hb : ∀ c ∈ tl x, Unicode.isLineBreak c = true → c = 10) : ∀ (m cur : Nat) (st : LsSt), cur + m = x.length → st.snd ≤ cur →
    (lsEnd x (Id.run (forIn (m := Id) (List.range' cur m) st (lsBody x)))).map (fun p => (p.1, p.2.1)) = st.fst.toList.map (fun p => (p.1, p.2.1)) ++ spansG ((tl x).drop cur) cur st.snd
  | 0, cur, st, hm, hs => by
    have hd : (tl x).drop cur = [] := List.drop_eq_nil_of_le (by show x.cps.toList.length ≤ cur; rw [← len_tl]; lia)
    rw [hd]
    show (lsEnd x st).map _ = _
    unfold lsEnd spansG
    have e : x.length = cur := by lia
    rw [e]
    split <;> simp
  | m + 1, cur, st, hm, hs => by
    have hlt : cur < (tl x).length := by show cur < x.cps.toList.length; rw [← len_tl]; lia
    have hlt' : cur < x.cps.size := by simpa using hlt
    rw [List.range'_succ, List.forIn_cons, List.drop_eq_getElem_cons hlt]
    have hget : x.cps.getD cur 0 = (tl x)[cur] := by simp [Array.getD, hlt']
    have hlb : Unicode.isLineBreak (x.cps.getD cur 0) = true ↔ (tl x)[cur] = 10 := by
      rw [hget]
      exact ⟨hb _ (List.getElem_mem hlt), fun e => by rw [e]; decide +kernel⟩
    unfold spansG
    by_cases h10 : (tl x)[cur] = 10
    · have hbody : lsBody x cur st = pure (.yield (st.fst.push (st.snd, cur, cur + 1), cur + 1)) := by
        unfold lsBody lsNext
        rw [if_pos (by rw [Bool.and_eq_true]; exact ⟨by simpa using hs, hlb.mpr h10⟩)]
        have : (x.cps.getD cur 0 == 13) = false := by rw [hget, h10]; rfl
        simp only [this, Bool.false_and, Bool.false_eq_true, if_false]
      rw [hbody, if_pos h10]
      show (lsEnd x (Id.run (forIn (m := Id) (List.range' (cur + 1) m) (st.fst.push (st.snd, cur, cur + 1), cur + 1) (lsBody x)))).map _ = _
      rw [spans_run x hb m (cur + 1) _ (by lia) (Nat.le_refl _)]
      simp
    · have hbody : lsBody x cur st = pure (.yield st) := by
        unfold lsBody
        rw [if_neg (by rw [Bool.and_eq_true]; exact fun h => h10 (hlb.mp h.2))]
      rw [hbody, if_neg h10]
      show (lsEnd x (Id.run (forIn (m := Id) (List.range' (cur + 1) m) st (lsBody x)))).map _ = _
      rw [spans_run x hb m (cur + 1) _ (by lia) (by lia)]
theorem spans_sub (x : Str) : ∀ (r : T) (cur start : Nat), (tl x).drop cur = r → start ≤ cur → cur ≤ x.length →
    (spansG r cur start).map (fun p => tl (strSub x p.1 p.2)) = linesP (((tl x).take cur).drop start) r
  | [], cur, start, hr, hs, hc => by
    unfold spansG linesP
    have hl : x.length = (tl x).length := len_tl x
    by_cases h : start < cur
    · rw [if_pos h, if_neg (by intro e; have := congrArg List.length e; rw [List.length_drop, List.length_take] at this; simp only [List.length_nil] at this; lia)]
      show [tl (strSub x start cur)] = _
      show [(strSub x start cur).cps.toList] = _
      rw [strSub_toList, List.drop_take]
    · rw [if_neg h, if_pos (by apply List.drop_eq_nil_of_le; rw [List.length_take]; lia)]
      rfl
  | d :: r, cur, start, hr, hs, hc => by
    have hl : x.length = (tl x).length := len_tl x
    have hlt : cur < (tl x).length := by
      apply Decidable.byContradiction; intro h
      rw [List.drop_eq_nil_of_le (by lia)] at hr; cases hr
    rw [List.drop_eq_getElem_cons hlt] at hr
    injection hr with hd hr
    unfold spansG linesP
    split
    · show tl (strSub x start cur) :: (spansG r (cur + 1) (cur + 1)).map _ = _
      rw [spans_sub x r (cur + 1) (cur + 1) hr (Nat.le_refl _) (by lia)]
      have e0 : ((tl x).take (cur + 1)).drop (cur + 1) = [] := by apply List.drop_eq_nil_of_le; rw [List.length_take]; lia
      rw [e0]
      show (strSub x start cur).cps.toList :: _ = _
      rw [strSub_toList, List.drop_take]
    · rw [spans_sub x r (cur + 1) start hr (by lia) (by lia)]
      congr 1
      rw [List.take_succ_eq_append_getElem hlt, hd, List.drop_append_of_le_length (by rw [List.length_take]; lia)]
theorem txt_lines (x : Str) (hb : ∀ c ∈ tl x, Unicode.isLineBreak c = true → c = 10) : Txt.lines x = (linesL (tl x)).map S := by
  have h1 := spans_run x hb x.length 0 (#[], 0) (by lia) (Nat.le_refl _)
  rw [← ls_eq] at h1
  simp only [List.drop_zero, List.map_nil, List.nil_append] at h1
  have h2 := spans_sub x (tl x) 0 0 rfl (Nat.le_refl _) (by lia)
  simp only [List.take_zero, List.drop_nil] at h2
  have hcuts : lineCuts x = spansG (tl x) 0 0 := by
    rw [← h1]; unfold lineCuts; congr 1
  have key : linesOf x = (linesL (tl x)).map S := by
    unfold linesOf
    rw [hcuts, ← linesP_nil, ← h2, List.map_map]
    apply List.map_congr_left
    intro p _
    exact (S_of _).symm
  unfold Txt.lines
  split
  · rename_i h
    rw [← key]
    unfold linesOf
    rw [beq_iff_eq] at h
    rw [h]
    show [x] = [strSub x 0 x.length]
    rw [sub_whole]
  · exact key
end
section
open PySem PySem.W PyProof.Rows PySem.Spec PySem.Calls
set_option Elab.async false
abbrev P0 : Program := PySem.Challenge.rw_ij0185_01.row.toRowW.prog
noncomputable def Pu (w : World) (D U : Nat) (f : Addr) (Pre : Heap → Prop) (args : List Value) (Ret : Value → Heap → Heap → Prop) : Prop :=
  ∀ (p : Program) (loose : List Str) (mean : ExcName → Option Value) (mg mb : Str → Option Value) (A : Around) (base : Heap) (l : List Env) (s : Shared) (Q E : Value → Shared → Prop),
    Below A base l s.heap → (hd.heap_39 w.params).In s.heap → Top p loose mean mg mb s.heap → A.handled = none → A.depth + D < recursionLimit → A.units + U < cLine → Pre s.heap →
    (∀ (v : Value) (h' : Heap) (tk' : Nat), s.heap.StaysIn h' → Ret v s.heap h' → Q v { s with heap := h', toks := tk' }) →
    wpAny (model P0 w) A (call (.ref f) args) Q E s
noncomputable def RStr (x : T) : Value → Heap → Heap → Prop := fun v _ _ => ∃ t, v = .str (S x) t
noncomputable def RInt (x : Int) : Value → Heap → Heap → Prop := fun v _ _ => ∃ t, v = .int x t
theorem RStr.of {x : T} {y : Str} {t : Tok} {h h' : Heap} (e : y = S x) : RStr x (.str y t) h h' := ⟨t, by rw [e]⟩
theorem RInt.of {x y : Int} {t : Tok} {h h' : Heap} (e : y = x) : RInt x (.int y t) h h' := ⟨t, by rw [e]⟩
noncomputable def RSeq (cls : String) (xs : List T) : Value → Heap → Heap → Prop := fun v h h' => ∃ D vs n, v = .ref D ∧ h.get? D = none ∧ h'.get? D = some { cls := .type cls, data := .seq vs.toArray n } ∧ StrsAre vs (xs.map S)
theorem news_add {h₀ h h' : Heap} {L D : Addr} {o : Obj} {m : Str → Option Value} {news : List (Addr × Obj)} (F : Fr h₀ L h m) (N : News h₀ L h' news) (hn : h.get? D = none) (hD : h'.get? D = some o) : News h₀ L h' ((D, o) :: news) := by
  intro q hq
  rcases List.mem_cons.mp hq with rfl | hq
  · refine ⟨hD, fun e => ?_, ?_⟩
    · obtain ⟨oL, _, _, hL, _⟩ := F.ns
      have e' : D = L := e
      rw [← e', hn] at hL; cases hL
    · cases e : h₀.get? D with
      | none => rfl
      | some o' => have := F.keep _ _ e; rw [hn] at this; cases this
  · exact N q hq
theorem ret_seq {cls : String} {xs : List T} {h₀ h' : Heap} {L D : Addr} {vs : List Value} {n : Nat} {news : List (Addr × Obj)} (N : News h₀ L h' news) (hm : (D, ({ cls := .type cls, data := .seq vs.toArray n } : Obj)) ∈ news) (hs : StrsAre vs (xs.map S)) : RSeq cls xs (.ref D) h₀ h' :=
  ⟨D, vs, n, rfl, (N _ hm).2.2, (N _ hm).1, hs⟩
theorem seq_up {cls : String} {xs : List T} {v : Value} {h₀ h h' : Heap} {L : Addr} {m : Str → Option Value} (F : Fr h₀ L h m) (r : RSeq cls xs v h h') : RSeq cls xs v h₀ h' := by
  obtain ⟨D, vs, n, e, hn, hD, hs⟩ := r
  refine ⟨D, vs, n, e, ?_, hD, hs⟩
  cases q : h₀.get? D with
  | none => rfl
  | some o => have := F.keep _ _ q; rw [hn] at this; cases this
theorem strs2 {a b : Str} {t1 t2 : Tok} {p q : T} (e1 : a = S p) (e2 : b = S q) : StrsAre [.str a t1, .str b t2] ([p, q].map S) := by
  subst e1 e2; exact .cons _ _ (.cons _ _ .nil)
theorem strs3 {a b c : Str} {t1 t2 t3 : Tok} {p q r : T} (e1 : a = S p) (e2 : b = S q) (e3 : c = S r) : StrsAre [.str a t1, .str b t2, .str c t3] ([p, q, r].map S) := by
  subst e1 e2 e3; exact .cons _ _ (.cons _ _ (.cons _ _ .nil))
theorem S_bne (x y : T) : (S x != S y) = (x != y) := by show (!(S x == S y)) = _; rw [S_beq]; rfl
section
variable {prog : Program} {w : World} {A : Around} {Q E : Value → Shared → Prop} {s : Shared} {K : Frag} {base : Heap} {p : Program} {loose : List Str} {mean : ExcName → Option Value} {mg mb : Str → Option Value} {l : List Env}
theorem pu_enter {name qual : Str} {params : Arguments} {body : List Stmt} {scope : Scope} {dV kV doc pm cdv ct oc : Value} {an od : Option Addr} {osl : Array (Option Value)} {f : Addr} {args : List Value} {binds : List (Str × Value)}
    (B : Below A base l s.heap) (X : K.In s.heap) (T : Top p loose mean mg mb s.heap)
    (ho : K.lookup f = some ⟨oc, od, .func (fnOf name qual params body scope dV kV doc pm an cdv ct), osl⟩) (hcd : codeIn K cdv qual = true) (hroom : A.depth < recursionLimit)
    (hbind : BindsTo s (fnOf name qual params body scope dV kV doc pm an cdv ct) ⟨args, []⟩ binds) (hloc : ∀ y ∈ binds, scope.names.lookup y.1 = some .local)
    (h : ∀ L' h₁, Fr s.heap L' h₁ (fun y => binds.reverse.lookup y) → News s.heap L' h₁ [] →
      wpAny (model prog w) (A.deeper (envOf qual scope L' f cdv)) (execs body (envOf qual scope L' f cdv))
        (fun fl s' => Q (match fl with | .ret v => v | _ => .none) s')
        (fun e s' => wpAny (model prog w) (A.deeper (envOf qual scope L' f cdv)) (leaving (envOf qual scope L' f cdv) e) (fun _ s'' => E e s'') (fun e' s'' => E e' s'') s')
        { s with heap := h₁, toks := s.toks + binds.length })
    (hco : scope.isCoroutine = false) (hgen : scope.isGenerator = false) (hk : scope.kind = .function)
    (hcell : ∀ x ∈ scope.names, x.2 ≠ .cell) : wpAny (model prog w) A (call (.ref f) args) Q E s := by
  refine wpAny_call ?_
  refine codeAny_call_def (fd := fnOf name qual params body scope dV kV doc pm an cdv ct) (body := body) (binds := binds) hroom (X _ _ ho) rfl T.nolimit (codeRec_of X hcd) rfl hbind hcell hloc (fun h₁ hns hk₁ => ?_) hco hgen hk
  exact h _ h₁ ⟨hns, hk₁, Nat.le_refl _⟩ News.nil
theorem below_push {A₀ : Around} {h₀ : Heap} {outer : List Env} {env : Env} {L : Addr} {h : Heap} {m : Str → Option Value}
    (B : Below A₀ base outer h₀) (F : Fr h₀ L h m) (hf : env.frame = some L) (hk : env.scope.kind = .function) : Below (A₀.deeper env) base (env :: outer) h := by
  have hnew : base.get? L = none := by
    cases hq : base.get? L with
    | none => rfl
    | some o => exact absurd (Nat.lt_of_lt_of_le (Heap.lt_size (B.stays L o hq)) F.above) (Nat.lt_irrefl _)
  refine ⟨Around.frames_deeper B.stack, fun b o e => F.keep b o (B.stays b o e), ?_⟩
  exact .cons (by rw [hk]; decide) hf F.ns hnew (B.frames.of_keeps fun b o e _ => ⟨o, F.keep b o e, rfl⟩)
theorem pu_use {A₀ : Around} {h₀ : Heap} {outer : List Env} {env : Env} {L : Addr} {m : Str → Option Value} {news : List (Addr × Obj)} {D U : Nat} {f : Addr} {Pre : Heap → Prop} {args : List Value} {Ret : Value → Heap → Heap → Prop}
    (C : Pu w D U f Pre args Ret) (B : Below A₀ base outer h₀) (F : Fr h₀ L s.heap m) (X : (hd.heap_39 w.params).In h₀) (N : News h₀ L s.heap news) (T : Top p loose mean mg mb h₀)
    (hf : env.frame = some L) (hk : env.scope.kind = .function) (hh : A₀.handled = none) (hdp : A₀.depth + (D + 1) < recursionLimit) (hu : A₀.units + (U + 3) < cLine) (hpre : Pre s.heap)
    (h : ∀ (v : Value) (h' : Heap) (tk' : Nat), Fr h₀ L h' m → News h₀ L h' news → s.heap.StaysIn h' → Ret v s.heap h' → Q v { s with heap := h', toks := tk' }) :
    wpAny (model P0 w) (A₀.deeper env) (call (.ref f) args) Q E s :=
  C _ _ _ _ _ _ _ _ _ _ _ (below_push B F hf hk) (X.keeps F.keep) (T.keeps F.keep) hh (by show A₀.depth + 1 + D < _; lia) (by show A₀.units + 3 + U < _; lia) hpre
    fun v h' tk' k r => h v h' tk' (F.keeps k) (N.grown k) k r
theorem pu_mono {D D' U U' : Nat} {f : Addr} {Pre : Heap → Prop} {args : List Value} {Ret : Value → Heap → Heap → Prop} (C : Pu w D U f Pre args Ret) (h1 : D ≤ D') (h2 : U ≤ U') : Pu w D' U' f Pre args Ret :=
  fun _ _ _ _ _ _ _ _ _ _ _ B X T hh hd hu hp hr => C _ _ _ _ _ _ _ _ _ _ _ B X T hh (by lia) (by lia) hp hr
end
theorem RStr.ob {x : T} {v : Value} {h h' : Heap} (r : RStr x v h h') : ∃ t, v = .str (S x) t := r
theorem RInt.ob {x : Int} {v : Value} {h h' : Heap} (r : RInt x v h h') : ∃ t, v = .int x t := r
theorem RSeq.ob {cls : String} {xs : List T} {v : Value} {h h' : Heap} (r : RSeq cls xs v h h') : ∃ D vs n, v = .ref D ∧ h.get? D = none ∧ h'.get? D = some { cls := .type cls, data := .seq vs.toArray n } ∧ StrsAre vs (xs.map S) := r
theorem news_addL {h₀ h h' : Heap} {L D : Addr} {vs : List Value} {n : Nat} {m : Str → Option Value} {news : List (Addr × Obj)} (F : Fr h₀ L h m) (N : News h₀ L h' news) (hn : h.get? D = none) (hD : h'.get? D = some { cls := .type "list", data := .seq vs.toArray n }) : News h₀ L h' ((D, listOf vs.toArray n) :: news) := news_add F N hn hD
theorem ne_of_new {h₀ h : Heap} {L D : Addr} {news : List (Addr × Obj)} (N : News h₀ L h news) (hn : h.get? D = none) : ∀ p ∈ news, @Ne Nat p.1 D := by
  intro p hp e
  have := (N p hp).1
  rw [show p.1 = D from e, hn] at this; cases this
section
variable {prog : Program} {w : World} {A : Around} {Q E : Value → Shared → Prop} {s : Shared} {K : Frag} {base : Heap} {p : Program} {loose : List Str} {mean : ExcName → Option Value} {mg mb : Str → Option Value} {l : List Env}
theorem x_enter {name qual : Str} {params : Arguments} {body : List Stmt} {scope : Scope} {dV kV doc pm cdv ct oc : Value} {an od : Option Addr} {osl : Array (Option Value)} {f : Addr} {args : List Value} {binds : List (Str × Value)}
    (B : Below A base l s.heap) (X : K.In s.heap) (T : Top p loose mean mg mb s.heap)
    (h : ∀ L' h₁, Fr s.heap L' h₁ (fun y => binds.reverse.lookup y) → News s.heap L' h₁ [] →
      wpAny (model prog w) (A.deeper (envOf qual scope L' f cdv)) (execs body (envOf qual scope L' f cdv))
        (fun fl s' => Q (match fl with | .ret v => v | _ => .none) s')
        (fun e s' => wpAny (model prog w) (A.deeper (envOf qual scope L' f cdv)) (leaving (envOf qual scope L' f cdv) e) (fun _ s'' => E e s'') (fun e' s'' => E e' s'') s')
        { s with heap := h₁, toks := s.toks + binds.length })
    (ho : K.lookup f = some ⟨oc, od, .func (fnOf name qual params body scope dV kV doc pm an cdv ct), osl⟩ := by k_dflt (k_is)) (hcd : codeIn K cdv qual = true := by k_dflt (k_is)) (hroom : A.depth < recursionLimit := by k_dflt (k_extra "room"))
    (hbind : BindsTo s (fnOf name qual params body scope dV kV doc pm an cdv ct) ⟨args, []⟩ binds := by k_dflt (first | exact BindsTo.of_eq rfl | exact binds_K (by k_asm) rfl (by k_is) rfl rfl rfl)) (hloc : ∀ y ∈ binds, scope.names.lookup y.1 = some .local := by k_dflt (exact locs rfl))
    (hco : scope.isCoroutine = false := by k_dflt (exact rfl)) (hgen : scope.isGenerator = false := by k_dflt (exact rfl)) (hk : scope.kind = .function := by k_dflt (exact rfl))
    (hcell : ∀ x ∈ scope.names, x.2 ≠ .cell := by k_dflt (decide)) : wpAny (model prog w) A (call (.ref f) args) Q E s := pu_enter B X T ho hcd hroom hbind hloc h hco hgen hk hcell
theorem x_use {hp : Heap} {gs : Array GenState} {dr : Drawn} {tk : Nat} {os : OsState} {A₀ : Around} {h₀ : Heap} {outer : List Env} {env : Env} {L : Addr} {m : Str → Option Value} {news : List (Addr × Obj)} {D U : Nat} {f : Addr} {Pre : Heap → Prop} {args : List Value} {Ret : Value → Heap → Heap → Prop}
    (C : Pu w D U f Pre args Ret) (h : ∀ (v : Value) (h' : Heap) (tk' : Nat), Fr h₀ L h' m → News h₀ L h' news → hp.StaysIn h' → Ret v hp h' → Q v ⟨h', gs, dr, tk', os⟩)
    (B : Below A₀ base outer h₀ := by k_dflt (k_asm)) (F : Fr h₀ L hp m := by k_dflt (k_asm)) (X : (hd.heap_39 w.params).In h₀ := by k_dflt (k_asm)) (N : News h₀ L hp news := by k_dflt (k_asm)) (T : Top p loose mean mg mb h₀ := by k_dflt (k_asm))
    (hf : env.frame = some L := by k_dflt (exact rfl)) (hk : env.scope.kind = .function := by k_dflt (exact rfl)) (hh : A₀.handled = none := by k_dflt (first | exact rfl | assumption)) (hdp : A₀.depth + (D + 1) < recursionLimit := by k_dflt (k_extra "room")) (hu : A₀.units + (U + 3) < cLine := by k_dflt (k_extra "units")) (hpre : Pre hp := by k_dflt (k_extra "kp")) :
    wpAny (model P0 w) (A₀.deeper env) (call (.ref f) args) Q E ⟨hp, gs, dr, tk, os⟩ := pu_use C B F X N T hf hk hh hdp hu hpre h
end
section
variable {h₀ hh : Heap} {L : Addr} {m : Str → Option Value} {news : List (Addr × Obj)} {P : Value → Heap → Nat → Prop}
theorem useE {c : Value} (H : ∀ h' tk', Fr h₀ L h' m → News h₀ L h' news → hh.StaysIn h' → P c h' tk') : ∀ v h' tk', Fr h₀ L h' m → News h₀ L h' news → hh.StaysIn h' → v = c → P v h' tk' := by
  intro v h' tk' F N k e; subst e; exact H h' tk' F N k
theorem useS {x : T} (H : ∀ t h' tk', Fr h₀ L h' m → News h₀ L h' news → hh.StaysIn h' → P (.str (S x) t) h' tk') : ∀ v h' tk', Fr h₀ L h' m → News h₀ L h' news → hh.StaysIn h' → RStr x v hh h' → P v h' tk' := by
  rintro v h' tk' F N k ⟨t, rfl⟩; exact H t h' tk' F N k
theorem useI {x : Int} (H : ∀ t h' tk', Fr h₀ L h' m → News h₀ L h' news → hh.StaysIn h' → P (.int x t) h' tk') : ∀ v h' tk', Fr h₀ L h' m → News h₀ L h' news → hh.StaysIn h' → RInt x v hh h' → P v h' tk' := by
  rintro v h' tk' F N k ⟨t, rfl⟩; exact H t h' tk' F N k
theorem useL {xs : List T} (F0 : Fr h₀ L hh m) (N0 : News h₀ L hh news) (H : ∀ D vs n h' tk', Fr h₀ L h' m → News h₀ L h' ((D, listOf vs.toArray n) :: news) → hh.StaysIn h' → StrsAre vs (xs.map S) → (∀ p ∈ news, @Ne Nat p.1 D) → P (.ref D) h' tk') :
    ∀ v h' tk', Fr h₀ L h' m → News h₀ L h' news → hh.StaysIn h' → RSeq "list" xs v hh h' → P v h' tk' := by
  rintro v h' tk' F N k ⟨D, vs, n, rfl, hn, hD, hs⟩; exact H D vs n h' tk' F (news_addL F0 N hn hD) k hs (ne_of_new N0 hn)
theorem useT {cls : String} {xs : List T} (F0 : Fr h₀ L hh m) (N0 : News h₀ L hh news) (H : ∀ D vs n h' tk', Fr h₀ L h' m → News h₀ L h' ((D, { cls := .type cls, data := .seq vs.toArray n }) :: news) → hh.StaysIn h' → StrsAre vs (xs.map S) → (∀ p ∈ news, @Ne Nat p.1 D) → P (.ref D) h' tk') :
    ∀ v h' tk', Fr h₀ L h' m → News h₀ L h' news → hh.StaysIn h' → RSeq cls xs v hh h' → P v h' tk' := by
  rintro v h' tk' F N k ⟨D, vs, n, rfl, hn, hD, hs⟩; exact H D vs n h' tk' F (news_add F0 N hn hD) k hs (ne_of_new N0 hn)
end
end
section
open PySem PySem.Builtin.Str PySem.StrLaws
set_option Elab.async false
set_option maxRecDepth 100000
noncomputable def hexd (n : Nat) : Nat := if n < 10 then 48 + n else 55 + n
noncomputable def quoteT (c : Nat) : T := [61, hexd (c / 16), hexd (c % 16)]
noncomputable def safe (c : Nat) : Bool := c == 9 || (32 ≤ c && c ≤ 126 && c != 61)
noncomputable def bodyT (c : Nat) : T := if safe c || c == 10 || c == 13 then [c] else quoteT c
noncomputable def cost (c : Nat) : Int := if c = 9 then 1 else if 32 ≤ c ∧ c ≤ 126 ∧ c ≠ 61 then 1 else 3
noncomputable def isBl (c : Nat) : Bool := c == 32 || c == 9
noncomputable def unq1 (c : Nat) : Nat := if c = 288 then 32 else c
noncomputable def unq2 (c : Nat) : Nat := if c = 265 then 9 else c
noncomputable def readL (x : T) : T := (((splitL 10 x).dropLast.flatten ++ rstripP isBl ((splitL 10 x).getLastD [])).map unq1).map unq2
noncomputable def readRowsL (x : T) : List T := ((splitL 10 x).dropLast.map fun r => readL (r ++ [10])) ++ [readL ((splitL 10 x).getLastD [])]
noncomputable def splitrootL (x : T) : T × T :=
  if x.take 1 ≠ [47] then ([], x) else if (x.take 2).drop 1 ≠ [47] ∨ (x.take 3).drop 2 = [47] then ([47], x.drop 1) else (x.take 2, x.drop 2)
noncomputable def stepN (init : Bool) (st : List T) (comp : T) : List T :=
  if comp = [] ∨ comp = [46] then st
  else if comp ≠ [46, 46] ∨ (init = false ∧ st = []) ∨ (st ≠ [] ∧ st.getLastD [] = [46, 46]) then st ++ [comp]
  else if st ≠ [] then st.dropLast else st
noncomputable def normL (x : T) : T :=
  if x = [] then [46] else
  let path := (splitrootL x).1 ++ joinL [47] ((splitL 47 (splitrootL x).2).foldl (stepN (!(splitrootL x).1.isEmpty)) [])
  if path = [] then [46] else path
noncomputable def extL (x : T) : T :=
  let words := splitL 46 ((splitL 47 x).getLastD [])
  if words.dropLast.flatten ≠ [] then 46 :: words.getLastD [] else []
noncomputable def halvesL (x : T) : List T := [x.take (x.length - (extL x).length), extL x]
noncomputable def stepJ (path b : T) : T := if b.take 1 = [47] ∨ path = [] then b else if path.getLast? = some 47 then path ++ b else path ++ 47 :: b
noncomputable def joinPy (a : T) (ps : List T) : T := ps.foldl stepJ a
noncomputable def beginL : List T → Nat → Nat → Nat
  | [], _, b => b
  | x :: r, i, b => beginL r (i + 1) (if x.take 1 = [47] then i else b)
noncomputable def addSlash (x : T) : T := if x.getLast? = some 47 then x else x ++ [47]
noncomputable def joinedL (ts : List T) : T := (((ts.dropLast.drop (beginL ts 0 0)).filter (· != [])).map addSlash).flatten ++ ts.getLastD []
end
section
open PySem PySem.Builtin.Str PySem.StrLaws
set_option Elab.async false
set_option maxRecDepth 100000
theorem splitL_sep (c : Nat) : ∀ (p q : T), splitL c (p ++ c :: q) = splitL c p ++ splitL c q
  | [], q => by
    show splitL c (c :: q) = [[]] ++ splitL c q
    rw [splitL, if_pos rfl]; rfl
  | d :: r, q => by
    show splitL c (d :: (r ++ c :: q)) = _
    rw [splitL, splitL_sep c r q]
    conv => rhs; rw [splitL]
    split
    · rfl
    · cases h : splitL c r with
      | nil => exact absurd h (splitL_ne c r)
      | cons p ps => rfl
theorem splitL_flat (c : Nat) : ∀ p : T, (splitL c p).flatten = p.filter (· != c)
  | [] => rfl
  | d :: r => by
    have ih := splitL_flat c r
    rw [splitL]
    split
    · rename_i h
      rw [List.filter_cons, if_neg (by simp [h])]
      show [] ++ _ = _
      rw [List.nil_append, ih]
    · rename_i h
      rw [List.filter_cons, if_pos (by simpa using h), ← ih]
      cases hs : splitL c r with
      | nil => exact absurd hs (splitL_ne c r)
      | cons p ps => rfl
theorem splitL_last (c : Nat) {p pre name : T} (hp : p = pre ++ name) (hpre : pre = [] ∨ ∃ q, pre = q ++ [c]) (hn : c ∉ name) : (splitL c p).getLastD [] = name := by
  rcases hpre with rfl | ⟨q, rfl⟩
  · rw [hp, List.nil_append, splitL_free c name hn]; rfl
  · rw [hp, List.append_assoc]
    show (splitL c (q ++ c :: name)).getLastD [] = name
    rw [splitL_sep, splitL_free c name hn]
    simp
theorem last_cut (x : Str) (c : Nat) : ∃ pre name, tl x = pre ++ name ∧ c ∉ name ∧ Txt.rfind x ⟨#[c]⟩ = (pre.length : Int) - 1 ∧ (pre = [] ∨ ∃ q, pre = q ++ [c]) := by
  rcases rfind_one x c with ⟨e, h⟩ | ⟨i, e, h1, h2⟩
  · exact ⟨[], tl x, rfl, h, by rw [e]; rfl, .inl rfl⟩
  · have hlt : i < (tl x).length := by
      apply Decidable.byContradiction; intro hh
      rw [List.getElem?_eq_none (by lia)] at h1; cases h1
    have hi : (tl x)[i] = c := by rw [List.getElem?_eq_getElem hlt] at h1; exact Option.some.inj h1
    refine ⟨(tl x).take (i + 1), (tl x).drop (i + 1), (List.take_append_drop _ _).symm, fun hm => ?_, ?_, .inr ⟨(tl x).take i, ?_⟩⟩
    · obtain ⟨j, hj⟩ := List.getElem?_of_mem hm
      rw [List.getElem?_drop] at hj
      exact h2 (i + 1 + j) (by lia) hj
    · rw [e, List.length_take]; lia
    · rw [List.take_succ_eq_append_getElem hlt, hi]
theorem rfind_ge (x : Str) (c : Nat) : -1 ≤ Txt.rfind x ⟨#[c]⟩ := by rcases rfind_one x c with ⟨e, _⟩ | ⟨i, e, _⟩ <;> rw [e] <;> lia
theorem halvesL_nil {p : T} (h : extL p = []) : halvesL p = [p, []] := by unfold halvesL; rw [h]; simp
theorem ext_none {x : Str} (h : ¬ Txt.rfind x ⟨#[47]⟩ < Txt.rfind x ⟨#[46]⟩) : halvesL (tl x) = [tl x, []] := by
  obtain ⟨pre, name, hp, hn, hr, hq⟩ := last_cut x 47
  obtain ⟨pre2, e, hp2, hn2, hr2, hq2⟩ := last_cut x 46
  have hlen : pre2.length ≤ pre.length := by lia
  have hname : 46 ∉ name := by
    intro hm
    apply hn2
    have : name = e.drop (pre.length - pre2.length) := by
      have h1 : name = (tl x).drop pre.length := by rw [hp]; simp
      rw [h1, hp2, List.drop_append, List.drop_eq_nil_of_le hlen, List.nil_append]
    rw [this] at hm
    exact List.mem_of_mem_drop hm
  have hx : extL (tl x) = [] := by
    unfold extL
    rw [splitL_last 47 hp hq hn, splitL_free 46 name hname]
    simp
  exact halvesL_nil hx
theorem ext_cut {x : Str} (h : Txt.rfind x ⟨#[47]⟩ < Txt.rfind x ⟨#[46]⟩) : ∃ pre w e : T, tl x = pre ++ (w ++ 46 :: e) ∧ Txt.rfind x ⟨#[47]⟩ + 1 = (pre.length : Int) ∧ Txt.rfind x ⟨#[46]⟩ = ((pre.length + w.length : Nat) : Int) ∧
    extL (tl x) = if (w.filter (· != 46)) ≠ [] then 46 :: e else [] := by
  obtain ⟨pre, name, hp, hn, hr, hq⟩ := last_cut x 47
  obtain ⟨pre2, e, hp2, hn2, hr2, hq2⟩ := last_cut x 46
  rcases hq2 with rfl | ⟨q, rfl⟩
  · simp only [List.length_nil] at hr2; lia
  · have hlen : pre.length ≤ q.length := by rw [List.length_append] at hr2; simp only [List.length_singleton] at hr2; lia
    have hq' : q = pre ++ q.drop pre.length := by
      have h1 : pre = (tl x).take pre.length := by rw [hp]; simp
      have h2 : (tl x).take pre.length = q.take pre.length := by rw [hp2, List.append_assoc, List.take_append_of_le_length hlen]
      rw [h2] at h1
      conv => lhs; rw [← List.take_append_drop pre.length q]
      rw [← h1]
    have hname : name = q.drop pre.length ++ 46 :: e := by
      have h1 : name = (tl x).drop pre.length := by rw [hp]; simp
      rw [h1, hp2, List.append_assoc, List.drop_append_of_le_length hlen]; rfl
    refine ⟨pre, q.drop pre.length, e, by rw [hp, hname], by lia, ?_, ?_⟩
    · rw [hr2, List.length_append, List.length_drop]; simp only [List.length_singleton]; lia
    · unfold extL
      rw [splitL_last 47 hp hq hn]
      simp only
      rw [hname, splitL_sep, splitL_free 46 e hn2]
      rw [List.dropLast_append_of_ne_nil (by simp)]
      simp only [List.dropLast_singleton, List.append_nil, splitL_flat]
      simp
theorem slice_at {x : Str} {pre w z : T} {k : Nat} (hx : tl x = pre ++ (w ++ z)) (hk : k < w.length) : Txt.slice x (some ((pre.length : Int) + 1 * (k : Int))) (some ((pre.length : Int) + 1 * (k : Int) + 1)) = S [w[k]] := by
  have e : (pre.length : Int) + 1 * (k : Int) = ((pre.length + k : Nat) : Int) := by rw [Int.one_mul, Int.natCast_add]
  rw [e]
  refine (slice_mid x (Int.natCast_nonneg (pre.length + k)) (Int.natCast_nonneg (pre.length + k + 1))).trans ?_
  rw [hx]
  show S (((pre ++ (w ++ z)).take (pre.length + k + 1)).drop (pre.length + k)) = _
  rw [List.drop_take, Nat.add_sub_cancel_left, List.drop_append, List.drop_eq_nil_of_le (Nat.le_add_right _ _), List.nil_append, Nat.add_sub_cancel_left, List.drop_append_of_le_length (Nat.le_of_lt hk), List.drop_eq_getElem_cons hk]
  rfl
theorem ext_in {p w k : Nat} (h : (p : Int) + 1 * (k : Int) < ((p + w : Nat) : Int)) : k < w := by lia
theorem ext_out {p w k : Nat} {n : Int} (h : ((p + w : Nat) : Int) ≤ (p : Int) + 1 * n) (hk : k < w) : (k : Int) < n := by lia
theorem ext_yes {x : Str} {n : Int} (h : Txt.rfind x ⟨#[47]⟩ < Txt.rfind x ⟨#[46]⟩) (h0 : 0 ≤ n) (h1 : Txt.rfind x ⟨#[47]⟩ + 1 + 1 * n < Txt.rfind x ⟨#[46]⟩)
    (hc : (Txt.slice x (some (Txt.rfind x ⟨#[47]⟩ + 1 + 1 * n)) (some (Txt.rfind x ⟨#[47]⟩ + 1 + 1 * n + 1)) != S [46]) = true) :
    halvesL (tl x) = [(tl x).take (Txt.rfind x ⟨#[46]⟩).toNat, (tl x).drop (Txt.rfind x ⟨#[46]⟩).toNat] := by
  obtain ⟨pre, w, e, hx, ha, hb, hext⟩ := ext_cut h
  have hne : w.filter (· != 46) ≠ [] := by
    intro hf
    obtain ⟨k, rfl⟩ := Int.eq_ofNat_of_zero_le h0
    rw [ha, hb] at h1
    have hk : k < w.length := ext_in h1
    rw [ha, slice_at hx hk] at hc
    have := List.filter_eq_nil_iff.mp hf w[k] (List.getElem_mem hk)
    have h46 : w[k] = 46 := by simpa using this
    rw [h46] at hc
    simp at hc
  rw [if_pos hne] at hext
  unfold halvesL
  rw [hext, hb, hx, Int.toNat_natCast]
  congr 1
  · congr 1
    simp only [List.length_append, List.length_cons]
    rw [← Nat.add_assoc, Nat.add_sub_cancel]
  · congr 1
    rw [← List.append_assoc, ← List.length_append, List.drop_left']
    rfl
theorem ext_no {x : Str} {n : Int} (h : Txt.rfind x ⟨#[47]⟩ < Txt.rfind x ⟨#[46]⟩) (h0 : 0 ≤ n) (h1 : Txt.rfind x ⟨#[46]⟩ ≤ Txt.rfind x ⟨#[47]⟩ + 1 + 1 * n)
    (hc : ∀ j : Int, 0 ≤ j → j < n → (Txt.slice x (some (Txt.rfind x ⟨#[47]⟩ + 1 + 1 * j)) (some (Txt.rfind x ⟨#[47]⟩ + 1 + 1 * j + 1)) != S [46]) = false) :
    halvesL (tl x) = [tl x, []] := by
  obtain ⟨pre, w, e, hx, ha, hb, hext⟩ := ext_cut h
  have hne : w.filter (· != 46) = [] := by
    rw [List.filter_eq_nil_iff]
    intro a hm
    obtain ⟨k, hk, rfl⟩ := List.mem_iff_getElem.mp hm
    rw [ha, hb] at h1
    have := hc k (Int.natCast_nonneg k) (ext_out h1 hk)
    rw [ha, slice_at hx hk, bne_eq_false_iff_eq, S_inj] at this
    injection this with this
    simp [this]
  rw [if_neg (by rw [hne]; simp)] at hext
  exact halvesL_nil hext
theorem beginL_snoc : ∀ (pre : List T) (a : T) (i b : Nat), beginL (pre ++ [a]) i b = if a.take 1 = [47] then i + pre.length else beginL pre i b
  | [], a, i, b => by simp [beginL]
  | x :: r, a, i, b => by
    show beginL (r ++ [a]) (i + 1) _ = _
    rw [beginL_snoc r a]
    split
    · simp only [List.length_cons]; lia
    · rfl
theorem beginL_le : ∀ (ts : List T) (i b : Nat), b ≤ i → beginL ts i b ≤ i + ts.length
  | [], i, b, h => by simpa [beginL] using h
  | x :: r, i, b, h => by
    show beginL r (i + 1) _ ≤ _
    have := beginL_le r (i + 1) (if x.take 1 = [47] then i else b) (by split <;> lia)
    simp only [List.length_cons]; lia
theorem beginL_lt {ts : List T} (h : ts ≠ []) : beginL ts 0 0 < ts.length := by
  rcases List.eq_nil_or_concat ts with rfl | ⟨r, y, rfl⟩
  · exact absurd rfl h
  · simp only [List.concat_eq_append] at *
    rw [beginL_snoc]
    have := beginL_le r 0 0 (Nat.le_refl _)
    simp only [List.length_append, List.length_singleton]
    split <;> lia
theorem begin_step {ts : List T} {i : Nat} (hi : i < ts.length) : beginL (ts.take (i + 1)) 0 0 = if (ts.getD i []).take 1 = [47] then i else beginL (ts.take i) 0 0 := by
  rw [List.take_succ_eq_append_getElem hi, beginL_snoc]
  have e1 : ts.getD i [] = ts[i] := by rw [List.getD_eq_getElem?_getD, List.getElem?_eq_getElem hi]; rfl
  have e2 : 0 + (ts.take i).length = i := by rw [List.length_take]; lia
  rw [e1, e2]
end
section
set_option Elab.async false
theorem room_of {a k j L : Nat} (h : a + k < L) (hj : j ≤ k) : a + j < L := Nat.lt_of_le_of_lt (Nat.add_le_add_left hj a) h
theorem room_0 {a k L : Nat} (h : a + k < L) : a < L := Nat.lt_of_le_of_lt (Nat.le_add_right a k) h
theorem tn1 {i : Int} (h : 0 ≤ i) : (i + 1).toNat = i.toNat + 1 := by lia
theorem tn2 {i : Int} (h : 0 ≤ i) : (i + 2).toNat = i.toNat + 2 := by lia
theorem tn3 {i : Int} (h : 0 ≤ i) : (i + 3).toNat = i.toNat + 3 := by lia
theorem tnm1 {i : Int} : i.toNat - 1 = (i - 1).toNat := by lia
theorem meas1 {i : Int} {n : Nat} (h0 : 0 ≤ i) (h : i < n) : n - (i + 1).toNat < n - i.toNat := by lia
theorem meas3 {i : Int} {n : Nat} (h0 : 0 ≤ i) (h : i < n) : n - (i + 3).toNat < n - i.toNat := by lia
theorem tlt1 {i : Int} {n : Nat} (h0 : 0 ≤ i) (h : i < n) : i.toNat < n := by lia
theorem tlt2 {i : Int} {n : Nat} (h0 : 0 ≤ i) (h : i + 1 < n) : i.toNat + 1 < n := by lia
theorem tlt3 {i : Int} {n : Nat} (h0 : 0 ≤ i) (h : i + 2 < n) : i.toNat + 2 < n := by lia
theorem teq1 {i : Int} {n : Nat} (h0 : 0 ≤ i) (h : i + 1 = n) : i.toNat + 1 = n := by lia
theorem nlt_le {i : Int} {n : Nat} (h : ¬ i < n) : (n : Int) ≤ i := Int.not_lt.mp h
theorem le1 {i n : Int} (h : i < n) : i + 1 ≤ n := h
theorem le3 {i n : Int} (h : i + 2 < n) : i + 3 ≤ n := by lia
section
variable {y d : Nat} {i : Int}
theorem yl1 (h0 : 0 ≤ i) (h : y ≤ d + i.toNat) : y + (0 + 1) ≤ d + (i + 1).toNat := by rw [tn1 h0]; exact Nat.succ_le_succ h
theorem yl1' (h0 : 0 ≤ i) (h : y ≤ d + i.toNat) : y + (0 + 1) ≤ d + (i + 1).toNat + 1 := Nat.le_succ_of_le (yl1 h0 h)
theorem yl2 (h0 : 0 ≤ i) (h : y ≤ d + i.toNat) : y + (0 + 1) + (0 + 1) ≤ d + (i + 1).toNat + 1 := Nat.succ_le_succ (yl1 h0 h)
theorem yl0 (h0 : 0 ≤ i) (h : y ≤ d + i.toNat) : y ≤ d + (i + 1).toNat + 1 := Nat.le_trans (Nat.le_add_right y 1) (yl1' h0 h)
theorem yl3 (h0 : 0 ≤ i) (h : y ≤ d + i.toNat) : y + (0 + 1) ≤ d + (i + 3).toNat := by rw [tn3 h0]; exact Nat.le_trans (Nat.succ_le_succ h) (Nat.le_add_right (d + i.toNat + 1) 2)
theorem yl3' (h0 : 0 ≤ i) (h : y ≤ d + i.toNat) : y + (0 + 1) ≤ d + (i + 3).toNat + 1 := Nat.le_succ_of_le (yl3 h0 h)
theorem yl4 (h0 : 0 ≤ i) (h : y ≤ d + i.toNat) : y + (0 + 1) + (0 + 1) ≤ d + (i + 3).toNat + 1 := Nat.succ_le_succ (yl3 h0 h)
end
end
section
open PySem PySem.W PyProof.Rows PySem.Spec PySem.Calls
set_option Elab.async false
set_option maxRecDepth 100000
section
variable {prog : Program} {w : World} {A : Around} {E : Value → Shared → Prop} {s : Shared} {h₀ : Heap} {L : Addr} {m : Str → Option Value} {news : List (Addr × Obj)} {Q : Value → Shared → Prop} {hp : Heap} {gs : Array GenState} {dr : Drawn} {tk : Nat} {os : OsState}
theorem toks_gen {α : Type} {M : Model} {t : Sem α} {Q : α → Shared → Prop} {h : Heap} {g : Array GenState} {d : Drawn} {o : OsState} {X : Nat} (H : ∀ tk : Nat, 1 ≤ tk → wpAny M A t Q E ⟨h, g, d, tk, o⟩) : wpAny M A t Q E ⟨h, g, d, X + 1, o⟩ := H (X + 1) (Nat.le_add_left 1 X)
theorem strs_of {l : List (Str × Tok)} {ys : List Str} (e : l.map (·.1) = ys) : StrsAre (strValues l) ys := by
  subst e
  induction l with
  | nil => exact .nil
  | cons p r ih => exact .cons p.1 p.2 ih
theorem strs_to : ∀ {vs : List Value} {ys : List Str}, StrsAre vs ys → ∃ l : List (Str × Tok), vs = strValues l ∧ l.map (·.1) = ys
  | _, _, .nil => ⟨[], rfl, rfl⟩
  | _, _, .cons y t h => by
    obtain ⟨l, e1, e2⟩ := strs_to h
    exact ⟨(y, t) :: l, by rw [e1]; rfl, by rw [← e2]; rfl⟩
theorem strs_dropLast {vs : List Value} {ys : List Str} (h : StrsAre vs ys) : StrsAre vs.dropLast ys.dropLast := by
  induction h with
  | nil => exact .nil
  | cons y t h ih =>
    cases h with
    | nil => exact .nil
    | cons y2 t2 h => exact .cons y t ih
theorem strs_rev {vs : List Value} {ys : List Str} (h : StrsAre vs ys) : StrsAre vs.reverse ys.reverse := by
  induction h with
  | nil => exact .nil
  | cons y t h ih => simp only [List.reverse_cons]; exact ih.append' (.cons y t .nil)
theorem split_rule {x y : Str} {c : Nat} {t u : Tok} (F : Fr h₀ L hp m) (N : News h₀ L hp news) (hy : y = ⟨#[c]⟩)
    (h : ∀ D vs h' k, tk ≤ k → StrsAre vs ((splitL c (tl x)).map S) → Fr h₀ L h' m → News h₀ L h' ((D, listOf (List.toArray vs) 0) :: news) → (∀ p ∈ news, p.1 < D) → Q (.ref D) ⟨h', gs, dr, k, os⟩)
    (hsz : x.length + 2 ≤ 16000000) : wpAny (model prog w) A (call (.builtin "str.split") [.str x t, .str y u]) Q E ⟨hp, gs, dr, tk, os⟩ := by
  subst hy
  refine wpAny_with_toks (Nat.le_refl _) (splitN1 F N rfl (fun l h' k e F' N' hk => h _ (strValues l) h' k hk ?_ F' N' fun p hp => Heap.lt_size (N p hp).1) (Nat.le_trans hsz (by decide)))
  rw [txt_split] at e
  exact strs_of e
theorem lines_rule {x : Str} {t : Tok} (F : Fr h₀ L hp m) (N : News h₀ L hp news) (hb : ∀ c ∈ tl x, Unicode.isLineBreak c = true → c = 10)
    (h : ∀ D vs h' k, tk ≤ k → StrsAre vs ((linesL (tl x)).map S) → Fr h₀ L h' m → News h₀ L h' ((D, listOf (List.toArray vs) 0) :: news) → (∀ p ∈ news, p.1 < D) → Q (.ref D) ⟨h', gs, dr, k, os⟩)
    (hsz : x.length + 2 ≤ 16000000) : wpAny (model prog w) A (call (.builtin "str.splitlines") [.str x t]) Q E ⟨hp, gs, dr, tk, os⟩ := by
  refine wpAny_with_toks (Nat.le_refl _) (splitlinesN F N (fun l h' k e F' N' hk => h _ (strValues l) h' k hk ?_ F' N' fun p hp => Heap.lt_size (N p hp).1) (Nat.le_trans (by lia) (Nat.le_trans hsz (by decide))) (Nat.le_trans (lineCuts_le x) (Nat.le_trans (by lia) (Nat.le_trans hsz (by decide)))))
  rw [txt_lines x hb] at e
  exact strs_of e
def plainIx : PySem.Expr → Bool
  | .Slice _ _ none _ => false
  | _ => true
theorem sub_plain {slice : PySem.Expr} (h : plainIx slice = true) (o i : Value) : subscripted slice false o i = operate [o, i] (getItem o i) := by
  cases slice with
  | Slice a b c d => cases c with
    | none => cases h
    | some e => rfl
  | _ => rfl
abbrev nm0 : PySem.Expr := .Name (Str.ofString "_") ⟨0, 0, 0, 0⟩
theorem turn {value slice : PySem.Expr} {o i : Value} (h : wpAny (model prog w) A (subscriptTail nm0 slice o i) Q E s) : wpAny (model prog w) A (subscriptTail value slice o i) Q E s := kba_turn (fun _ => rfl) h
theorem item_last_rule {value slice : PySem.Expr} {a : Addr} {vs : List Value} {xs : List T} {u : Tok} (hl : hp.IsList a vs.toArray) (hs : StrsAre vs (xs.map S)) (hne : xs ≠ [])
    (h : ∀ t, Q (.str (S (xs.getLastD [])) t) ⟨hp, gs, dr, tk, os⟩) (hs' : plainIx slice = true) :
    wpAny (model prog w) A (subscriptTail value slice (.ref a) (.int (-1) u)) Q E ⟨hp, gs, dr, tk, os⟩ := by
  have hlen : vs.length = xs.length := by rw [hs.len_eq, List.length_map]
  have hpos : 0 < xs.length := List.length_pos_iff.mpr hne
  have hx : (xs.map S)[xs.length - 1]? = some (S (xs.getLastD [])) := by
    rw [List.getElem?_map, List.getElem?_eq_getElem (by lia)]
    rw [List.getLastD_eq_getLast?, List.getLast?_eq_getElem?, List.getElem?_eq_getElem (by lia)]
    rfl
  obtain ⟨t, ht⟩ := hs.at hx
  refine turn (subscriptTail_builtin hl.typeIs slot_list_getitem.lookup (wpAny_getItem_list_neg hl (by decide) (by rw [List.size_toArray]; lia) (by decide) ?_ (h t)) (sub_plain hs' _ _) (fun _ => rfl))
  have : ((-1 : Int) + (vs.toArray.size : Int)).toNat = xs.length - 1 := by rw [List.size_toArray]; lia
  rw [this]
  simpa using ht
theorem item_nat_rule {value slice : PySem.Expr} {a : Addr} {vs : List Value} {xs : List T} {i : Nat} {k : Int} {u : Tok} (hl : hp.IsList a vs.toArray) (hs : StrsAre vs (xs.map S)) (hk : k = (i : Int)) (hi : i < xs.length) (hsz : xs.length ≤ 16000000)
    (h : ∀ t, Q (.str (S (xs.getD i [])) t) ⟨hp, gs, dr, tk, os⟩) (hs' : plainIx slice = true) :
    wpAny (model prog w) A (subscriptTail value slice (.ref a) (.int k u)) Q E ⟨hp, gs, dr, tk, os⟩ := by
  subst hk
  have hx : (xs.map S)[i]? = some (S (xs.getD i [])) := by
    rw [List.getElem?_map, List.getElem?_eq_getElem hi, List.getD_eq_getElem?_getD, List.getElem?_eq_getElem hi]; rfl
  obtain ⟨t, ht⟩ := hs.at hx
  exact turn (item_listL hl (by lia) (by lia) (by simpa using ht) (h t) (sub_plain hs' _ _) (fun _ => rfl))
section
variable {value : PySem.Expr} {lo up : Option PySem.Expr} {ps : Pos} {x : Str} {t : Tok} {i j : Int} {ui uj : Tok}
theorem sslice_to (F : Fr h₀ L hp m) (N : News h₀ L hp news) (hj : 0 ≤ j) (hsz : x.length ≤ 16000000) (h : ∀ h' t' k, Fr h₀ L h' m → News h₀ L h' news → Q (.str (S ((tl x).take j.toNat)) t') ⟨h', gs, dr, k, os⟩) :
    wpAny (model prog w) A (subscriptTail value (.Slice lo up none ps) (.str x t) (.ref hp.objs.size)) Q E ⟨hp.push { cls := .type "slice", data := .fields #[.none, .int j uj, .none] }, gs, dr, tk, os⟩ :=
  turn (slice_strN_ns (s := ⟨hp, gs, dr, tk, os⟩) F N (fun h' t' k F' N' => by rw [slice_to x hj]; exact h h' t' k F' N') rfl (fun _ => rfl) (Nat.le_trans hsz (by decide)))
theorem sslice_butlast (F : Fr h₀ L hp m) (N : News h₀ L hp news) (hsz : x.length ≤ 16000000) (h : ∀ h' t' k, Fr h₀ L h' m → News h₀ L h' news → Q (.str (S ((tl x).dropLast)) t') ⟨h', gs, dr, k, os⟩) :
    wpAny (model prog w) A (subscriptTail value (.Slice lo up none ps) (.str x t) (.ref hp.objs.size)) Q E ⟨hp.push { cls := .type "slice", data := .fields #[.none, .int (-1) uj, .none] }, gs, dr, tk, os⟩ :=
  turn (slice_strN_ns (s := ⟨hp, gs, dr, tk, os⟩) F N (fun h' t' k F' N' => by rw [slice_butlast x]; exact h h' t' k F' N') rfl (fun _ => rfl) (Nat.le_trans hsz (by decide)))
theorem sslice_from (F : Fr h₀ L hp m) (N : News h₀ L hp news) (hi : 0 ≤ i) (hsz : x.length ≤ 16000000) (h : ∀ h' t' k, Fr h₀ L h' m → News h₀ L h' news → Q (.str (S ((tl x).drop i.toNat)) t') ⟨h', gs, dr, k, os⟩) :
    wpAny (model prog w) A (subscriptTail value (.Slice lo up none ps) (.str x t) (.ref hp.objs.size)) Q E ⟨hp.push { cls := .type "slice", data := .fields #[.int i ui, .none, .none] }, gs, dr, tk, os⟩ :=
  turn (slice_strN_sn (s := ⟨hp, gs, dr, tk, os⟩) F N (fun h' t' k F' N' => by rw [slice_from x hi]; exact h h' t' k F' N') rfl (fun _ => rfl) (Nat.le_trans hsz (by decide)))
theorem sslice_mid (F : Fr h₀ L hp m) (N : News h₀ L hp news) (hi : 0 ≤ i) (hj : 0 ≤ j) (hsz : x.length ≤ 16000000) (h : ∀ h' t' k, Fr h₀ L h' m → News h₀ L h' news → Q (.str (S (((tl x).take j.toNat).drop i.toNat)) t') ⟨h', gs, dr, k, os⟩) :
    wpAny (model prog w) A (subscriptTail value (.Slice lo up none ps) (.str x t) (.ref hp.objs.size)) Q E ⟨hp.push { cls := .type "slice", data := .fields #[.int i ui, .int j uj, .none] }, gs, dr, tk, os⟩ :=
  turn (slice_strN_ss (s := ⟨hp, gs, dr, tk, os⟩) F N (fun h' t' k F' N' => by rw [slice_mid x hi hj]; exact h h' t' k F' N') rfl (fun _ => rfl) (Nat.le_trans hsz (by decide)))
theorem sslice_midback (F : Fr h₀ L hp m) (N : News h₀ L hp news) (hi : 0 ≤ i) (hsz : x.length ≤ 16000000) (h : ∀ h' t' k, Fr h₀ L h' m → News h₀ L h' news → Q (.str (S ((tl x).dropLast.drop i.toNat)) t') ⟨h', gs, dr, k, os⟩) :
    wpAny (model prog w) A (subscriptTail value (.Slice lo up none ps) (.str x t) (.ref hp.objs.size)) Q E ⟨hp.push { cls := .type "slice", data := .fields #[.int i ui, .int (-1) uj, .none] }, gs, dr, tk, os⟩ :=
  turn (slice_strN_ss (s := ⟨hp, gs, dr, tk, os⟩) F N (fun h' t' k F' N' => by rw [slice_back x hi]; exact h h' t' k F' N') rfl (fun _ => rfl) (Nat.le_trans hsz (by decide)))
end
theorem sitem_rule {value slice : PySem.Expr} {x : Str} {t u : Tok} {k : Int} {c : Nat} (hc : (tl x)[k.toNat]? = some c) (h0 : 0 ≤ k) (hsz : x.length ≤ 16000000) (h : ∀ t' k', Q (.str (S [c]) t') ⟨hp, gs, dr, k', os⟩) (hs' : plainIx slice = true) :
    wpAny (model prog w) A (subscriptTail value slice (.str x t) (.int k u)) Q E ⟨hp, gs, dr, tk, os⟩ := by
  have hlt : k.toNat < (tl x).length := by
    apply Decidable.byContradiction; intro hh
    rw [List.getElem?_eq_none (by lia)] at hc; cases hc
  have hl : x.length = (tl x).length := len_tl x
  refine turn (subscriptTail_builtin (typeIs_str _ _ _) F.slot_str_getitem.lookup (P.getItem_str (c := c) ?_ ?_ (h _ _)) (sub_plain hs' _ _) (fun _ => rfl))
  · have h1 : ¬ k < -(2 ^ 63 : Int) := by lia
    have h2 : ¬ k ≥ 2 ^ 63 := by lia
    simp only [h1, h2, decide_false, Bool.or_self]
  · exact StrLaws.at_nonneg h0 (by simpa [← Array.getElem?_toList] using hc)
theorem sitem_last_rule {value slice : PySem.Expr} {x : Str} {t u : Tok} {c : Nat} (hc : (tl x).getLast? = some c) (hsz : x.length ≤ 16000000) (h : ∀ t' k', Q (.str (S [c]) t') ⟨hp, gs, dr, k', os⟩) (hs' : plainIx slice = true) :
    wpAny (model prog w) A (subscriptTail value slice (.str x t) (.int (-1) u)) Q E ⟨hp, gs, dr, tk, os⟩ := by
  have hl : x.length = (tl x).length := len_tl x
  have hl1 : 1 ≤ (tl x).length := by
    cases e : tl x with
    | nil => rw [e] at hc; cases hc
    | cons a r => simp
  refine turn (subscriptTail_builtin (typeIs_str _ _ _) F.slot_str_getitem.lookup (P.getItem_str (c := c) (by decide) ?_ (h _ _)) (sub_plain hs' _ _) (fun _ => rfl))
  refine StrLaws.at_neg (by decide) (by lia) ?_
  rw [← Array.getElem?_toList]
  rw [List.getLast?_eq_getElem?] at hc
  have : (-1 + (x.length : Int)).toNat = (tl x).length - 1 := by lia
  rw [this]; exact hc
theorem slice_rule {value : PySem.Expr} {sl su : Option PySem.Expr} {ps : Pos} {l : Addr} {vs : List Value} {ys : List Str} {vl vu : Value} {lo hi : Option Int} (F : Fr h₀ L hp m) (N : News h₀ L hp news) (hl : hp.IsList l vs.toArray) (hs : StrsAre vs ys) (pl : IsPart vl lo) (pu : IsPart vu hi)
    (h : ∀ D ws h', StrsAre ws ((ys.drop (kms_lo lo ys.length)).take (kms_hi hi ys.length - kms_lo lo ys.length)) → Fr h₀ L h' m → News h₀ L h' ((D, listOf (List.toArray ws) 0) :: news) → (∀ p ∈ news, p.1 < D) → Q (.ref D) ⟨h', gs, dr, tk, os⟩)
    (hsz : vs.length ≤ 16000000) :
    wpAny (model prog w) A (subscriptTail value (.Slice sl su none ps) (.ref l) (.ref hp.objs.size)) Q E ⟨hp.push { cls := .type "slice", data := .fields #[vl, vu, .none] }, gs, dr, tk, os⟩ := by
  refine turn (kms_slice_lit (s := ⟨hp, gs, dr, tk, os⟩) F N hl pl pu rfl (fun D h' F' N' l1 => h D _ h' ?_ F' N' l1) rfl (fun _ => rfl) (by rw [List.size_toArray]; exact Nat.le_trans hsz (by decide)))
  unfold kms_pick
  have : vs.toArray.toList = vs := by simp
  rw [this, hs.len_eq]
  exact (hs.drop' _).take' _
theorem slice_back_rule {value : PySem.Expr} {sl su : Option PySem.Expr} {ps : Pos} {l : Addr} {vs : List Value} {xs : List T} {vu : Value} (F : Fr h₀ L hp m) (N : News h₀ L hp news) (hl : hp.IsList l vs.toArray) (hs : StrsAre vs (xs.map S)) (pu : IsPart vu (some (-1)))
    (h : ∀ D ws h', StrsAre ws (xs.dropLast.map S) → Fr h₀ L h' m → News h₀ L h' ((D, listOf (List.toArray ws) 0) :: news) → (∀ p ∈ news, p.1 < D) → Q (.ref D) ⟨h', gs, dr, tk, os⟩)
    (hsz : xs.length ≤ 16000000) :
    wpAny (model prog w) A (subscriptTail value (.Slice sl su none ps) (.ref l) (.ref hp.objs.size)) Q E ⟨hp.push { cls := .type "slice", data := .fields #[.none, vu, .none] }, gs, dr, tk, os⟩ := by
  refine slice_rule F N hl hs .none pu (fun D ws h' e => h D ws h' ?_) (by rw [hs.len_eq, List.length_map]; exact hsz)
  have e2 : (((xs.map S).drop (kms_lo none (xs.map S).length)).take (kms_hi (some (-1)) (xs.map S).length - kms_lo none (xs.map S).length)) = xs.dropLast.map S := by
    show ((xs.map S).drop 0).take (((xs.map S).length - 1) - 0) = _
    rw [List.drop_zero, Nat.sub_zero, List.dropLast_eq_take, List.length_map, List.map_take]
  rw [e2] at e; exact e
theorem slice_midback_rule {value : PySem.Expr} {sl su : Option PySem.Expr} {ps : Pos} {l : Addr} {vs : List Value} {xs : List T} {vl vu : Value} {b : Nat} (F : Fr h₀ L hp m) (N : News h₀ L hp news) (hl : hp.IsList l vs.toArray) (hs : StrsAre vs (xs.map S)) (pl : IsPart vl (some (b : Int))) (pu : IsPart vu (some (-1))) (hb : b ≤ xs.length)
    (h : ∀ D ws h', StrsAre ws ((xs.dropLast.drop b).map S) → Fr h₀ L h' m → News h₀ L h' ((D, listOf (List.toArray ws) 0) :: news) → (∀ p ∈ news, p.1 < D) → Q (.ref D) ⟨h', gs, dr, tk, os⟩)
    (hsz : xs.length ≤ 16000000) :
    wpAny (model prog w) A (subscriptTail value (.Slice sl su none ps) (.ref l) (.ref hp.objs.size)) Q E ⟨hp.push { cls := .type "slice", data := .fields #[vl, vu, .none] }, gs, dr, tk, os⟩ := by
  refine slice_rule F N hl hs pl pu (fun D ws h' e => h D ws h' ?_) (by rw [hs.len_eq, List.length_map]; exact hsz)
  have e2 : (((xs.map S).drop (kms_lo (some (b : Int)) (xs.map S).length)).take (kms_hi (some (-1)) (xs.map S).length - kms_lo (some (b : Int)) (xs.map S).length)) = (xs.dropLast.drop b).map S := by
    have e3 : kms_lo (some (b : Int)) (xs.map S).length = b := by
      unfold kms_lo; simp only; rw [if_neg (by lia), List.length_map]; lia
    rw [e3]
    show ((xs.map S).drop b).take (((xs.map S).length - 1) - b) = _
    rw [List.dropLast_eq_take, List.drop_take, List.length_map, List.map_take, List.map_drop]
  rw [e2] at e; exact e
theorem slice_rev_rule {value : PySem.Expr} {sl su : Option PySem.Expr} {ps : Pos} {st : PySem.Expr} {l : Addr} {vs : List Value} {xs : List T} {vk : Value} (F : Fr h₀ L hp m) (N : News h₀ L hp news) (hl : hp.IsList l vs.toArray) (hs : StrsAre vs (xs.map S)) (pk : IsPart vk (some (-1)))
    (h : ∀ D ws h', StrsAre ws (xs.reverse.map S) → Fr h₀ L h' m → News h₀ L h' ((D, listOf (List.toArray ws) 0) :: news) → (∀ p ∈ news, p.1 < D) → Q (.ref D) ⟨h', gs, dr, tk, os⟩)
    (hsz : xs.length ≤ 16000000) :
    wpAny (model prog w) A (subscriptTail value (.Slice sl su (some st) ps) (.ref l) (.ref hp.objs.size)) Q E ⟨hp.push { cls := .type "slice", data := .fields #[.none, .none, vk] }, gs, dr, tk, os⟩ := by
  refine turn (krv_lit (s := ⟨hp, gs, dr, tk, os⟩) F N hl pk rfl (fun D h' F' N' l1 => h D _ h' ?_ F' N' l1) rfl (fun _ => rfl) (by rw [List.size_toArray, hs.len_eq, List.length_map]; exact Nat.le_trans hsz (by decide)))
  have : vs.toArray.toList = vs := by simp
  rw [this, List.map_reverse]
  exact strs_rev hs
theorem join_rule {sep : Str} {ts : Tok} {D : Addr} {vs : List Value} {xs : List T} (hl : hp.IsList D vs.toArray) (hs : StrsAre vs (xs.map S))
    (hsz : (xs.map List.length).sum + xs.length * sep.length ≤ 16000000) (h : ∀ t k, tk ≤ k → Q (.str (S (joinL (tl sep) xs)) t) ⟨hp, gs, dr, k, os⟩) :
    wpAny (model prog w) A (call (.builtin "str.join") [.str sep ts, .ref D]) Q E ⟨hp, gs, dr, tk, os⟩ := by
  obtain ⟨l, rfl, e⟩ := strs_to hs
  refine wpAny_with_toks (Nat.le_refl _) (SC.join hl e ?_ (fun t k hk => ?_))
  · unfold JoinOk PySem.Builtin.Str.tooLong
    rw [StrLaws.joinTotal, List.map_map, List.length_map]
    have e2 : (Str.length ∘ S) = (List.length : T → Nat) := by funext x; exact S_len x
    rw [e2, Bool.not_eq_true', decide_eq_false_iff_not]
    have : (16000000 : Nat) ≤ sizeLine := by decide
    lia
  · rw [txt_join, List.map_map]
    have e2 : (tl ∘ S) = (_root_.id : T → T) := by funext x; exact S_cps x
    rw [e2, List.map_id]
    exact h t k hk
theorem add_rule {x y : Str} {t u : Tok} (hsz : x.length + y.length ≤ 16000000) (h : ∀ t' k, tk ≤ k → Q (.str (x ++ y) t') ⟨hp, gs, dr, k, os⟩) : wpAny (model prog w) A (binaryOp .Add (.str x t) (.str y u)) Q E ⟨hp, gs, dr, tk, os⟩ :=
  wpAny_with_toks (Nat.le_refl _) (PyProof.Rows.add_str (fun t' k hk => h t' k hk) (Nat.le_trans hsz (by decide)))
theorem len_rule {x : Str} {t : Tok} (hsz : x.length ≤ 16000000) (h : ∀ t' k, tk ≤ k → Q (.int (x.length : Nat) t') ⟨hp, gs, dr, k, os⟩) : wpAny (model prog w) A (call (.builtin "len") [.str x t]) Q E ⟨hp, gs, dr, tk, os⟩ :=
  P.len_str (by lia) (h _ _ (by lia))
theorem iadd_rule {x y : Str} {t u : Tok} (hsz : x.length + y.length ≤ 16000000) (h : ∀ t' k, tk ≤ k → Q (.str (x ++ y) t') ⟨hp, gs, dr, k, os⟩) : wpAny (model prog w) A (inplaceOp .Add (.str x t) (.str y u)) Q E ⟨hp, gs, dr, tk, os⟩ :=
  wpAny_with_toks (Nat.le_refl _) (PyProof.Rows.iadd_str (fun t' k hk => h t' k hk) (Nat.le_trans hsz (by decide)))
theorem rstripc_rule {x y : Str} {t u : Tok} (hsz : x.length ≤ 16000000) (h : ∀ t' k, tk ≤ k → Q (.str (S (rstripP y.cps.contains (tl x))) t') ⟨hp, gs, dr, k, os⟩) : wpAny (model prog w) A (call (.builtin "str.rstrip") [.str x t, .str y u]) Q E ⟨hp, gs, dr, tk, os⟩ :=
  wpAny_with_toks (Nat.le_refl _) (SC.rstripChars (fun t' k hk => by rw [show Txt.rstripChars x y = S (rstripP y.cps.contains (tl x)) from strip_right _ x]; exact h t' k hk) (Nat.le_trans hsz (by decide)))
theorem rstrip_rule {x : Str} {t : Tok} (hsz : x.length ≤ 16000000) (h : ∀ t' k, tk ≤ k → Q (.str (S (rstripP Unicode.isSpace (tl x))) t') ⟨hp, gs, dr, k, os⟩) : wpAny (model prog w) A (call (.builtin "str.rstrip") [.str x t]) Q E ⟨hp, gs, dr, tk, os⟩ :=
  wpAny_with_toks (Nat.le_refl _) (SC.rstrip (fun t' k hk => by rw [show Txt.rstrip x = S (rstripP Unicode.isSpace (tl x)) from strip_right _ x]; exact h t' k hk) (Nat.le_trans hsz (by decide)))
theorem lstripc_rule {x y : Str} {t u : Tok} (hsz : x.length ≤ 16000000) (h : ∀ t' k, tk ≤ k → Q (.str (S ((tl x).dropWhile y.cps.contains)) t') ⟨hp, gs, dr, k, os⟩) : wpAny (model prog w) A (call (.builtin "str.lstrip") [.str x t, .str y u]) Q E ⟨hp, gs, dr, tk, os⟩ :=
  wpAny_with_toks (Nat.le_refl _) (SC.lstripChars (fun t' k hk => by rw [show Txt.lstripChars x y = S ((tl x).dropWhile y.cps.contains) from strip_left _ x]; exact h t' k hk) (Nat.le_trans hsz (by decide)))
theorem chr_rule {i : Int} {t : Tok} (h0 : 0 ≤ i) (h1 : i ≤ 1114111) (h : Q (.str (S [i.toNat]) tk) ⟨hp, gs, dr, tk + 1, os⟩) : wpAny (model prog w) A (call (.builtin "chr") [.int i t]) Q E ⟨hp, gs, dr, tk, os⟩ :=
  chr_of_range h0 h1 h
theorem replace_rule {x y z : Str} {c d : Nat} {t u v : Tok} (hy : y = S [c]) (hz : z = S [d]) (hcd : c ≠ d) (hu : @Ne Nat u 0) (hv : @Ne Nat v 0) (huv : @Ne Nat u v) (hsz : x.length ≤ 8000000)
    (h : ∀ t' k, tk ≤ k → Q (.str (S ((tl x).map fun k => if k = c then d else k)) t') ⟨hp, gs, dr, k, os⟩) : wpAny (model prog w) A (call (.builtin "str.replace") [.str x t, .str y u, .str z v]) Q E ⟨hp, gs, dr, tk, os⟩ := by
  subst hy hz
  refine wpAny_with_toks (Nat.le_refl _) (SC.replace hu hv huv ?_ ?_ (fun t' k hk => ?_))
  · rw [S_beq]; simpa using hcd
  · show x.length + (x.length + 1) * 1 ≤ _; lia
  · rw [show Txt.replace x (S [c]) (S [d]) = _ from txt_replace x c d]; exact h t' k hk
end
theorem eS32 : Str.ofString " " = S [32] := by decide +kernel
theorem eS9 : Str.ofString "\t" = S [9] := by decide +kernel
theorem eS47 : Str.ofString "/" = S [47] := by decide +kernel
theorem eS46 : Str.ofString "." = S [46] := by decide +kernel
theorem eS0 : Str.ofString "" = S [] := by decide +kernel
theorem eS10 : Str.ofString "\n" = S [10] := by decide +kernel
theorem eS61 : Str.ofString "=" = S [61] := by decide +kernel
theorem eSdd : Str.ofString ".." = S [46, 46] := by decide +kernel
section
variable {prog : Program} {w : World} {A : Around} {E : Value → Shared → Prop} {s : Shared} {Q : Value → Shared → Prop} {hp : Heap} {gs : Array GenState} {dr : Drawn} {tk : Nat} {os : OsState}
theorem addS_rule {a b : Str} {x y : T} {t u : Tok} (ea : a = S x) (eb : b = S y) (hsz : x.length + y.length ≤ 16000000) (h : ∀ t' k, tk ≤ k → Q (.str (S (x ++ y)) t') ⟨hp, gs, dr, k, os⟩) : wpAny (model prog w) A (binaryOp .Add (.str a t) (.str b u)) Q E ⟨hp, gs, dr, tk, os⟩ := by
  subst ea eb; exact add_rule hsz (fun t' k hk => by rw [S_app]; exact h t' k hk)
theorem iaddS_rule {a b : Str} {x y : T} {t u : Tok} (ea : a = S x) (eb : b = S y) (hsz : x.length + y.length ≤ 16000000) (h : ∀ t' k, tk ≤ k → Q (.str (S (x ++ y)) t') ⟨hp, gs, dr, k, os⟩) : wpAny (model prog w) A (inplaceOp .Add (.str a t) (.str b u)) Q E ⟨hp, gs, dr, tk, os⟩ := by
  subst ea eb; exact iadd_rule hsz (fun t' k hk => by rw [S_app]; exact h t' k hk)
end
theorem strs1 (a : T) (t : Tok) : StrsAre [.str (S a) t] (([a] : List T).map S) := .cons _ _ .nil
section
variable {prog : Program} {w : World} {A : Around} {E : Value → Shared → Prop} {s : Shared} {h₀ : Heap} {L : Addr} {m : Str → Option Value} {news : List (Addr × Obj)} {Q : Value → Shared → Prop} {hp : Heap} {gs : Array GenState} {dr : Drawn} {tk : Nat} {os : OsState}
theorem llen_rule {l : Addr} {vs : List Value} {xs : List T} (hl : hp.IsList l vs.toArray) (h1 : StrsAre vs (xs.map S)) (hsz : xs.length ≤ 16000000) (h : ∀ t' k, tk ≤ k → Q (.int (xs.length : Nat) t') ⟨hp, gs, dr, k, os⟩) : wpAny (model prog w) A (call (.builtin "len") [.ref l]) Q E ⟨hp, gs, dr, tk, os⟩ := by
  have e1 : vs.length = xs.length := by rw [h1.len_eq, List.length_map]
  refine Calls.call_len_list hl (by rw [List.size_toArray, e1]; lia) ?_
  rw [List.size_toArray, e1]
  exact h _ _ (by lia)
theorem ladd_rule {l b : Addr} {vs ws : List Value} {xs ys : List T} (F : Fr h₀ L hp m) (N : News h₀ L hp news) (hl : hp.IsList l vs.toArray) (hb : hp.IsList b ws.toArray) (h1 : StrsAre vs (xs.map S)) (h2 : StrsAre ws (ys.map S))
    (hsz : xs.length + ys.length ≤ 16000000)
    (h : ∀ D h', StrsAre (vs ++ ws) ((xs ++ ys).map S) → Fr h₀ L h' m → News h₀ L h' ((D, listOf (List.toArray (vs ++ ws)) 0) :: news) → (∀ p ∈ news, p.1 < D) → Q (.ref D) ⟨h', gs, dr, tk, os⟩) :
    wpAny (model prog w) A (binaryOp .Add (.ref l) (.ref b)) Q E ⟨hp, gs, dr, tk, os⟩ := by
  have e1 : vs.length = xs.length := by rw [h1.len_eq, List.length_map]
  have e2 : ws.length = ys.length := by rw [h2.len_eq, List.length_map]
  refine add_arrays F N hl hb (fun h' F' N' => h _ h' ?_ F' (by simpa using N') fun p hp => Heap.lt_size (N p hp).1) (by simp only [List.size_toArray]; rw [e1, e2]; exact Nat.le_trans hsz (by decide))
  rw [List.map_append]; exact h1.append' h2
end
theorem news_list {h₀ h : Heap} {L D : Addr} {news : List (Addr × Obj)} {xs : Array Value} {n : Nat} (N : News h₀ L h news) (hm : (D, listOf xs n) ∈ news) : h.IsList D xs := ⟨_, (N _ hm).1, rfl, n, rfl⟩
theorem fr_list {h₀ h : Heap} {L l : Addr} {m : Str → Option Value} {xs : Array Value} (F : Fr h₀ L h m) (hl : h₀.IsList l xs) : h.IsList l xs := hl.at fun o e => F.keep l o e
theorem joinL_nil : ∀ xs : List T, joinL [] xs = xs.flatten
  | [] => rfl
  | [p] => by simp [joinL]
  | p :: q :: r => by
    show p ++ [] ++ joinL [] (q :: r) = _
    rw [joinL_nil (q :: r), List.append_nil]; rfl
theorem splitL_sum (c : Nat) : ∀ x : T, ((splitL c x).map List.length).sum + (splitL c x).length = x.length + 1
  | [] => rfl
  | d :: r => by
    have ih := splitL_sum c r
    rw [splitL]
    split
    · simp only [List.map_cons, List.sum_cons, List.length_cons, List.length_nil]; lia
    · cases hs : splitL c r with
      | nil => exact absurd hs (splitL_ne c r)
      | cons p ps =>
        rw [hs] at ih
        simp only [List.map_cons, List.sum_cons, List.length_cons] at ih ⊢; lia
theorem len_le_sum {xs : List T} {x : T} (h : x ∈ xs) : x.length ≤ (xs.map List.length).sum := by
  induction xs with
  | nil => cases h
  | cons y r ih =>
    simp only [List.map_cons, List.sum_cons]
    rcases List.mem_cons.mp h with rfl | h
    · lia
    · have := ih h; lia
theorem splitL_len (c : Nat) (x : T) : (splitL c x).length ≤ x.length + 1 := by have := splitL_sum c x; lia
theorem splitL_item (c : Nat) {x p : T} (h : p ∈ splitL c x) : p.length ≤ x.length := by
  have h1 := splitL_sum c x
  have h2 := len_le_sum h
  have h3 : 1 ≤ (splitL c x).length := List.length_pos_iff.mpr (List.ne_nil_of_mem h)
  lia
theorem getLastD_mem {xs : List T} (h : xs ≠ []) : xs.getLastD [] ∈ xs := by
  rw [List.getLastD_eq_getLast?, List.getLast?_eq_some_getLast h]
  exact List.getLast_mem h
theorem splitL_last_len (c : Nat) (x : T) : ((splitL c x).getLastD []).length ≤ x.length := splitL_item c (getLastD_mem (splitL_ne c x))
theorem sum_dropLast (xs : List T) : (xs.dropLast.map List.length).sum ≤ (xs.map List.length).sum := by
  rcases List.eq_nil_or_concat xs with rfl | ⟨r, y, rfl⟩
  · exact Nat.le_refl _
  · simp
theorem extL_len (p : T) : (extL p).length ≤ p.length := by
  unfold extL
  simp only
  split
  · rename_i h
    have b1 := splitL_last_len 47 p
    have b2 := splitL_sum 46 ((splitL 47 p).getLastD [])
    have b3 := len_le_sum (getLastD_mem (splitL_ne 46 ((splitL 47 p).getLastD [])))
    have b4 : 2 ≤ (splitL 46 ((splitL 47 p).getLastD [])).length := by
      apply Decidable.byContradiction
      intro hh
      apply h
      have : (splitL 46 ((splitL 47 p).getLastD [])).dropLast = [] := by
        apply List.length_eq_zero_iff.mp
        rw [List.length_dropLast]; lia
      rw [this]; rfl
    rw [List.length_cons]; lia
  · simp
theorem rstripP_len (p : Nat → Bool) (x : T) : (rstripP p x).length ≤ x.length := by
  unfold rstripP
  rw [List.length_reverse, ← takeWhile_len_drop, List.length_drop, List.length_reverse]; lia
theorem joinL_len (sep : T) : ∀ xs : List T, (joinL sep xs).length ≤ (xs.map List.length).sum + xs.length * sep.length
  | [] => Nat.zero_le _
  | [p] => by simp [joinL]
  | p :: q :: r => by
    have ih := joinL_len sep (q :: r)
    rw [joinL]
    simp only [List.length_append, List.map_cons, List.sum_cons, List.length_cons, Nat.succ_mul] at ih ⊢
    lia
theorem blcont : (Str.ofString " \t").cps.contains = isBl := by
  have e : Str.ofString " \t" = S [32, 9] := by decide +kernel
  funext c
  rw [e]
  show (#[32, 9] : Array Nat).contains c = _
  have : (#[32, 9] : Array Nat).contains c = ([32, 9] : List Nat).contains c := by simp
  rw [this]
  show ((c == 32) || ((c == 9) || false)) = _
  rw [Bool.or_false]; rfl
theorem getD_len (ts : List T) (i : Nat) : (ts.getD i []).length ≤ (ts.map List.length).sum := by
  rw [List.getD_eq_getElem?_getD]
  cases h : ts[i]? with
  | none => simp
  | some y => exact len_le_sum (List.mem_of_getElem? h)
theorem sum_filter (p : T → Bool) : ∀ xs : List T, ((xs.filter p).map List.length).sum ≤ (xs.map List.length).sum
  | [] => Nat.le_refl _
  | y :: r => by
    have := sum_filter p r
    rw [List.filter_cons]
    split <;> simp only [List.map_cons, List.sum_cons] <;> lia
theorem sum_drop (n : Nat) : ∀ xs : List T, ((xs.drop n).map List.length).sum ≤ (xs.map List.length).sum := by
  intro xs
  conv => rhs; rw [← List.take_append_drop n xs]
  rw [List.map_append, List.sum_append]; lia
end
section
open PySem PySem.W PyProof.Rows PySem.Spec PySem.Calls
set_option Elab.async false
set_option maxRecDepth 100000
noncomputable def isText (x : T) : Value → Bool
  | .str y _ => y.cps.toList == x
  | _ => false
noncomputable def okMap (f : Nat → T) (l : List Value) : Bool := (List.range 256).all fun c => match l[c]? with | some v => isText (f c) v | none => false
theorem okMap_at {f : Nat → T} {l : List Value} (h : okMap f l = true) {c : Nat} (hc : c < 256) : ∃ t, l[c]? = some (.str (S (f c)) t) := by
  have := List.all_eq_true.mp h c (by simpa using hc)
  cases e : l[c]? with
  | none => rw [e] at this; cases this
  | some v =>
    rw [e] at this
    cases v with
    | str y t => 
      have h2 : y.cps.toList = f c := by simpa [isText] using this
      exact ⟨t, by rw [← h2, S_of]⟩
    | _ => cases this
noncomputable def bodyOk (c : Nat) : T := bodyT c
set_option maxHeartbeats 4000000 in
theorem map_quo (w : World) (h : Heap) : ∀ rw : OpenLaw, rw = PySem.Challenge.rw_ij0185_01 → (hd.heap_39 w.params).In h → ∃ l : List Value, h.IsList 156 l.toArray ∧ okMap quoteT l = true := by
  k_fill
  intro rw _ X
  refine' ⟨_, lstK X ?a, ?b⟩
  case a => k_is
  case b => decide +kernel
set_option maxHeartbeats 4000000 in
theorem map_body (w : World) (h : Heap) : ∀ rw : OpenLaw, rw = PySem.Challenge.rw_ij0185_01 → (hd.heap_39 w.params).In h → ∃ l : List Value, h.IsList 185 l.toArray ∧ okMap bodyT l = true := by
  k_fill
  intro rw _ X
  refine' ⟨_, lstK X ?a, ?b⟩
  case a => k_is
  case b => decide +kernel
section
variable {prog : Program} {w : World} {A : Around} {Q : Value → Shared → Prop} {E : Value → Shared → Prop} {s : Shared}
theorem tab_item {f : Nat → T} {a : Addr} {value slice : PySem.Expr} {c : Nat} {k : Int} {u : Tok} {l : List Value} (hL : s.heap.IsList a l.toArray) (ok : okMap f l = true) (hc : c < 256) (hk : k = (c : Int))
    (h : ∀ t, Q (.str (S (f c)) t) s) (hs : plainIx slice = true := by exact rfl) :
    wpAny (model prog w) A (subscriptTail value slice (.ref a) (.int k u)) Q E s := by
  obtain ⟨t, ht⟩ := okMap_at ok hc
  exact tail_any hL.typeIs slot_list_getitem.lookup (wpAny_getItem_list hL (by lia) (by lia) (by rw [hk]; simpa using ht) (h t)) (sub_plain hs _ _)
theorem quo_item {h₀ : Heap} {L : Addr} {m : Str → Option Value} {value slice : PySem.Expr} {c : Nat} {k : Int} {u : Tok} (X : (hd.heap_39 w.params).In h₀) (F : Fr h₀ L s.heap m) (hc : c < 256) (hk : k = (c : Int))
    (h : ∀ t, Q (.str (S (quoteT c)) t) s) (hs : plainIx slice = true := by exact rfl) :
    wpAny (model prog w) A (subscriptTail value slice (.ref 156) (.int k u)) Q E s := by
  obtain ⟨l, hL, ok⟩ := map_quo w h₀ _ rfl X
  exact tab_item (hL.at fun o e => F.keep _ _ e) ok hc hk h hs
end
end
section
open PySem PySem.W PyProof.Rows PySem.Spec PySem.Calls
set_option Elab.async false
set_option maxRecDepth 100000
section
variable {prog : Program} {w : World} {A : Around} {E : Value → Shared → Prop} {s : Shared}
theorem ty_str : typeOf (.type "str") = pure (.type "type") := by kernel_rfl
theorem sub_str : isSubtype (.type "str") (.type "str") = pure true := by rw [isSubtype_type]; kernel_rfl
theorem sub_type : isSubtype (.type "type") (.type "type") = pure true := by rw [isSubtype_type]; kernel_rfl
theorem kind_issn : builtinKind "issubclass.nested" = none := by decide +kernel
theorem plain_issn : plainId "issubclass.nested" = true := by decide +kernel
theorem args_issn (a b c : Value) : argsOk "issubclass.nested" ⟨[a, b, c], []⟩ := by unfold argsOk; kernel_rfl
theorem issn_self {k : Value} {dep : Int} {tk : Tok} {Q : Fin → Shared → Prop} (hk : k = .int dep tk) (hq : Q (.done (.ret (.bool true))) s) :
    wpAny (model prog w) A (Builtin.«issubclass.nested» ⟨[.type "str", .type "str", k], []⟩) Q E s := by
  subst hk
  have hm := ty_str
  have hself := sub_str
  have hm2 := sub_type
  repeat (any_goals (first | assumption | (rw [if_pos hm]) | (rw [hself]) | wp_step))
theorem issn_meets (dep : Int) (tk : Tok) : Meets (Builtin.«issubclass.nested» ⟨[.type "str", .type "str", .int dep tk], []⟩) (fun _ R s => R (.ok (.ret (.bool true))) s) :=
  fun _ _ _ _ _ hs => issn_self rfl hs
theorem issn_tuple {tp : Addr} {tk : Tok} {Q : Fin → Shared → Prop} {cs : List Value} (hcs : cs = [.type "str", .type "bytes"]) (htp : s.heap.get? tp = some { cls := .type "tuple", data := .seq cs.toArray })
    (hq : Q (.done (.ret (.bool true))) s) : wpAny (model prog w) A (Builtin.«issubclass.nested» ⟨[.type "str", .ref tp, .int 0 tk], []⟩) Q E s := by
  obtain ⟨h, g, d, t, os⟩ := s
  have hT2 : (⟨h, g, d, t, os⟩ : Shared).TypeIs (.ref tp) "tuple" := ⟨_, htp, rfl⟩
  have f1 := F.isi_sub_tuple
  repeat (any_goals (first | assumption | wp_step))
  refine wpAny_arrayLoop ?_
  simp only [Option.getD_some, List.toList_toArray]
  subst hcs
  rw [List.forIn_cons]
  refine wpAny_bind (wpAny_bind (call_function_meets kind_issn plain_issn F.entry_issubclass_nested (args_issn _ _ _) (issn_meets _ _) ?_))
  show wpAny _ _ (truthy (.bool true) >>= _) _ _ _
  refine wpAny_bind (m := truthy (.bool true)) (wpAny_pure ?_)
  repeat (any_goals (first | assumption | wp_step))
theorem iss_tuple {tp : Addr} : Meets (Builtin.«issubclass» ⟨[.type "str", .ref tp], []⟩) (fun _ R s => s.heap.get? tp = some { cls := .type "tuple", data := .seq #[.type "str", .type "bytes"] } ∧ R (.ok (.ret (.bool true))) s) :=
  fun _ _ _ _ _ hs => issubclass_outer (issn_tuple rfl hs.1 hs.2)
theorem iss_call {tp : Addr} {Q : Value → Shared → Prop} (htp : s.heap.get? tp = some { cls := .type "tuple", data := .seq #[.type "str", .type "bytes"] }) (h : Q (.bool true) s) :
    wpAny (model prog w) A (call (.builtin "issubclass") [.type "str", .ref tp]) Q E s :=
  call_issubclass iss_tuple ⟨htp, h⟩
end
end
section
open PySem PySem.W PyProof.Rows PySem.Spec PySem.Calls
set_option Elab.async false
set_option maxRecDepth 100000
section
variable {prog : Program} {w : World} {A : Around} {E : Value → Shared → Prop} {s : Shared} {h₀ : Heap} {L : Addr} {env : Env}
noncomputable def TestG (P : Prop) : Prop := P
noncomputable def EltG (P : Prop) : Prop := P
noncomputable def FinG (P : Prop) : Prop := P
theorem paired_mem {α β : Type} {R : α → β → Prop} : ∀ {as : List α} {vs : List β}, Paired R as vs → ∀ {v}, v ∈ vs → ∃ a ∈ as, R a v
  | _, _, .cons (a := a) h r, v, hv => by
    rcases List.mem_cons.mp hv with rfl | hv
    · exact ⟨a, .head _, h⟩
    · obtain ⟨b, hb, hR⟩ := paired_mem r hv
      exact ⟨b, .tail _ hb, hR⟩
theorem paired_len {α β : Type} {R : α → β → Prop} : ∀ {as : List α} {vs : List β}, Paired R as vs → as.length = vs.length
  | _, _, .nil => rfl
  | _, _, .cons _ r => by simp [paired_len r]
theorem paired_comp {α : Type} {R G : α → Value → Prop} {pz : α → Bool} {p : Value → Bool} (hp : ∀ a v, R a v → p v = pz a) (hu : ∀ a b v, R a v → R b v → a = b) : ∀ {as : List α} {vs ys : List Value}, Paired R as vs → Paired (fun v y => ∃ a, R a v ∧ G a y) (vs.filter p) ys → Paired G (as.filter pz) ys
  | _, _, _, .nil, h => by cases h; exact .nil
  | a :: as, v :: vs, ys, .cons h r, hq => by
    rw [List.filter_cons] at hq ⊢
    rw [hp a v h] at hq
    cases hz : pz a with
    | true =>
      rw [hz] at hq
      simp only [if_true] at hq ⊢
      cases hq with
      | cons hg hr =>
        obtain ⟨b, hb, hG⟩ := hg
        rw [hu a b v h hb]
        exact .cons hG (paired_comp hp hu r hr)
    | false =>
      rw [hz] at hq
      simp only [Bool.false_eq_true, if_false] at hq ⊢
      exact paired_comp hp hu r hq
open Classical in
noncomputable def liftP {α : Type} (R : α → Value → Prop) (pz : α → Bool) (v : Value) : Bool := if h : ∃ a, R a v then pz (Classical.choose h) else false
theorem liftP_is {α : Type} {R : α → Value → Prop} {pz : α → Bool} (hu : ∀ a b v, R a v → R b v → a = b) {a : α} {v : Value} (h : R a v) : liftP R pz v = pz a := by
  unfold liftP
  have hex : ∃ a, R a v := ⟨a, h⟩
  rw [dif_pos hex, hu _ _ _ (Classical.choose_spec hex) h]
noncomputable def RT (y : T) (v : Value) : Prop := ∃ t : Tok, v = .str (S y) t
theorem RT.of {x : T} {y : Str} {t : Tok} (e : y = S x) : RT x (.str y t) := ⟨t, by rw [e]⟩
theorem RT_inj (a b : T) (v : Value) (h : RT a v) (h2 : RT b v) : a = b := by
  obtain ⟨t, rfl⟩ := h
  obtain ⟨u, e⟩ := h2
  injection e with e _
  exact S_inj.mp e
theorem paired_of_strs : ∀ {xs : List T} {vs : List Value}, StrsAre vs (xs.map S) → Paired RT xs vs
  | [], vs, h => by cases h; exact .nil
  | x :: xs, vs, h => by
    obtain ⟨t, vs', rfl, h'⟩ := StrsAre.cons_inv h
    exact .cons ⟨t, rfl⟩ (paired_of_strs h')
theorem strs_of_paired {g : T → T} : ∀ {xs : List T} {vs : List Value}, Paired (fun y v => RT (g y) v) xs vs → StrsAre vs ((xs.map g).map S)
  | _, _, .nil => .nil
  | _, _, .cons h r => by
    obtain ⟨t, rfl⟩ := h
    exact .cons _ t (strs_of_paired r)
theorem tests_nil {env' : Env} {s₂ : Shared} {E' : Value → Shared → Prop} : wpAny (model prog w) A (forIn ([] : List PySem.Expr) true fun c r => if r = true then do let ok ← isTrue c env' (eval c env'); pure (ForInStep.yield ok) else pure (ForInStep.yield r))
        (fun ok s₃ => ok = true ∧ Keeps s₂ s₃) E' s₂ := wpAny_pure ⟨rfl, s₂.heap, s₂.toks, rfl, fun _ _ e => e⟩
theorem filter_tt {α : Type} (l : List α) : l.filter (fun _ => true) = l := by simp
theorem keeps_refl (s : Shared) : Keeps s s := ⟨s.heap, s.toks, rfl, fun _ _ e => e⟩
theorem tests_one {env' : Env} {s₂ : Shared} {E' : Value → Shared → Prop} {c : PySem.Expr} {b : Bool} (h : wpAny (model prog w) A (isTrue c env' (eval c env')) (fun ok s₃ => ok = b ∧ Keeps s₂ s₃) E' s₂) :
    wpAny (model prog w) A (forIn [c] true fun c r => if r = true then do let ok ← isTrue c env' (eval c env'); pure (ForInStep.yield ok) else pure (ForInStep.yield r))
        (fun ok s₃ => ok = b ∧ Keeps s₂ s₃) E' s₂ := by
  rw [List.forIn_cons]
  simp only [if_true]
  refine wpAny_bind (wpAny_bind (wpAny_mono h (fun ok s₃ h₃ => wpAny_pure ?_) fun _ _ e => e))
  exact wpAny_pure h₃
end
end
section
open PySem PySem.W PyProof.Rows PySem.Spec PySem.Calls
set_option Elab.async false
set_option maxRecDepth 100000
noncomputable def AtIter (P : Prop) : Prop := P
theorem AtIter.on {P : Prop} (h : AtIter P) : P := h
section
variable {prog : Program} {w : World} {A : Around} {E : Value → Shared → Prop} {s : Shared} {h₀ : Heap} {env : Env} {x : Str} {body : List Stmt} {Q : Flow → Shared → Prop}
noncomputable def LoopEnd {σ : Type} (h₀ : Heap) (L : Addr) (Led : σ → List (Addr × Obj)) (ps : σ → List (Str × Value)) (stored : List Str) (x : Str) (m₀ : Str → Option Value) (P : σ → Prop) (rest own : List (Addr × Obj)) (s₁ s₂ : Shared) : Prop :=
  ∃ (c : σ) (h' : Heap) (tk : Nat) (m' : Str → Option Value) (news' : List (Addr × Obj)), s₂ = { s₁ with heap := h', toks := tk } ∧ Fr h₀ L h' m' ∧ News h₀ L h' news' ∧ (∀ p ∈ Led c, p ∈ news') ∧ (∀ p ∈ rest, p ∈ news') ∧ (∀ p ∈ own, p ∈ news') ∧
    (∀ p ∈ ps c, m' p.1 = some p.2) ∧ (∀ z, z ≠ x → (∀ p ∈ ps c, z ≠ p.1) → stored.contains z = false → m' z = m₀ z) ∧ P c
noncomputable def LoopPost {σ : Type} (h₀ : Heap) (L : Addr) (Led : σ → List (Addr × Obj)) (ps : σ → List (Str × Value)) (stored : List Str) (x : Str) (m₀ : Str → Option Value) (P : σ → Prop) (rest own : List (Addr × Obj)) (s₁ : Shared) (Q : Flow → Shared → Prop) (f : Flow) (s₂ : Shared) : Prop :=
  match f with
  | .ret v => Q (.ret v) s₂
  | .brk => Q .next s₂
  | _ => LoopEnd h₀ L Led ps stored x m₀ P rest own s₁ s₂
theorem loop_walk {σ : Type} {it : Obj} {ext : List Addr} {n : Nat} {Pv : Nat → Value → Prop} {St : Nat → Heap → Prop} {m₀ : Str → Option Value}
    (Led : σ → List (Addr × Obj)) (ps : σ → List (Str × Value)) (stored : List Str) (P : Nat → σ → Prop) (rest : List (Addr × Obj)) (c₀ : σ)
    (hf : it.isFreed = false) (hadr : ∀ c, (Led c).map (·.1) = (Led c₀).map (·.1))
    (W : Walks prog w A s.heap.objs.size (s.heap.objs.size :: ext) [s.heap.objs.size] n Pv St) (hst : St 0 (s.heap.push it)) (hext : ∀ b ∈ ext, b ≠ env.locals)
    (F : Fr h₀ env.locals s.heap m₀) (N : News h₀ env.locals s.heap (Led c₀ ++ rest)) (hk : ∀ p ∈ ps c₀, m₀ p.1 = some p.2) (hp : P 0 c₀)
    (hoffL : ∀ p ∈ Led c₀, p.1 ∉ ext)
    (turn : ∀ (c : σ) (i : Nat) v (u : Str → Option Value) h tk own, i < n → Pv i v → P i c → OwnOff own ((Led c₀).map (·.1)) →
      Fr h₀ env.locals h (fun y => if y = x then some v else kstB (fun z => if stored.contains z then u z else m₀ z) (ps c) y) → News h₀ env.locals h (Led c ++ (rest ++ own)) →
      wpAny (model prog w) A (execs body env) (LoopPost h₀ env.locals Led ps stored x m₀ (P (i + 1)) rest own { s with heap := h, toks := tk } Q) E { s with heap := h, toks := tk })
    (done : ∀ (c : σ) (u : Str → Option Value) h tk, P n c → Fr h₀ env.locals h (fun y => if y = x then u y else kstB (fun z => if stored.contains z then u z else m₀ z) (ps c) y) → News h₀ env.locals h (Led c ++ rest) → Q .next { s with heap := h, toks := tk }) :
    LoopAtV prog w A h₀ env x body Q E (.ref s.heap.objs.size) { s with heap := s.heap.push it } := by
  let J : Nat → (Str → Option Value) → List (Addr × Obj) → Prop := fun i m₁ news₁ => ∃ c, news₁ = Led c ++ rest ∧ (∀ p ∈ ps c, m₁ p.1 = some p.2) ∧ (∀ z, z ≠ x → (∀ p ∈ ps c, z ≠ p.1) → stored.contains z = false → m₁ z = m₀ z) ∧ P i c
  have hIL : s.heap.objs.size ≠ env.locals := fun e => absurd F.ns.lt (e ▸ Nat.lt_irrefl _)
  have offI : ∀ c, ∀ p ∈ Led c ++ rest, p.1 ∉ [s.heap.objs.size] := by
    intro c p hp hm
    have e := List.mem_singleton.mp hm
    have hp' : p.1 ∈ (Led c₀ ++ rest).map (·.1) := by
      rw [List.map_append, List.mem_append, ← hadr c, ← List.mem_append, ← List.map_append]
      exact List.mem_map_of_mem hp
    obtain ⟨q, hq, e2⟩ := List.mem_map.mp hp'
    have := Heap.lt_size (N q hq).1
    rw [e2, e] at this
    exact Nat.lt_irrefl _ this
  refine ⟨s.heap.objs.size, _, _, n, Pv, St, m₀, Led c₀ ++ rest, J, rfl, W, ?_, ?_, offI c₀, hst, F.push _, N.pushKeep _, ⟨c₀, rfl, hk, fun _ _ _ _ => rfl, hp⟩, ?_, ?_⟩
  · intro hm
    rcases List.mem_cons.mp hm with e | hm
    · exact hIL e.symm
    · exact hext _ hm rfl
  · intro b hb
    rw [List.mem_singleton.mp hb]
    exact next_is_new F
  · rintro i v m₁ news₁ s₁ own ⟨hh', tk', rfl⟩ hin hP ⟨c, rfl, h1, h2, hp'⟩ hw hown hownat hownall hst' F₁ N₁
    have N₂ : News h₀ env.locals hh' (Led c ++ (rest ++ own)) := fun p hp => N₁ p (by
      rcases List.mem_append.mp hp with h | h
      · exact List.mem_append.mpr (.inr (List.mem_append.mpr (.inl h)))
      · rcases List.mem_append.mp h with h | h
        · exact List.mem_append.mpr (.inr (List.mem_append.mpr (.inr h)))
        · exact List.mem_append.mpr (.inl h))
    have hsep : OwnOff own ((Led c₀).map (·.1)) := by
      intro p hp b hb e
      obtain ⟨q, hq, rfl⟩ := List.mem_map.mp hb
      rcases List.mem_cons.mp (hown p hp) with h1 | h1
      · have := Heap.lt_size (N q (List.mem_append_left _ hq)).1
        rw [← e, h1] at this
        exact Nat.lt_irrefl _ this
      · rw [e] at h1
        exact hoffL q hq h1
    refine wpAny_mono (turn c i v m₁ hh' tk' own hin hP hp' hsep (kst_fr h1 h2 F₁) N₂) (fun f s₂ p => ?_) fun _ _ e => e
    have fin : LoopEnd h₀ env.locals Led ps stored x m₀ (P (i + 1)) rest own { s with heap := hh', toks := tk' } s₂ → LoopStepU h₀ env.locals [s.heap.objs.size] own (J (i + 1)) { s with heap := hh', toks := tk' } .next s₂ := by
      rintro ⟨c', h', tk, m', news', e, F', N', hn, hr, ho, hk', hz, hP'⟩
      refine ⟨rfl, h', tk, m', Led c' ++ rest, e, F', fun p hp => N' p ?_, offI c', c', rfl, hk', hz, hP'⟩
      rcases List.mem_append.mp hp with h | h
      · exact ho p h
      · rcases List.mem_append.mp h with h | h
        · exact hn p h
        · exact hr p h
    cases f with
    | ret v => exact .ret p
    | brk => exact .brk p
    | next => exact .next (fin p)
    | cont => exact .cont (fin p)
  · rintro h' tk m' news' F' N' _ ⟨c, rfl, h1, h2, hp'⟩
    exact done c m' h' tk hp' (kst_frOut h1 h2 F') N'
theorem paired_at {α β : Type} {R : α → β → Prop} : ∀ {as : List α} {vs : List β}, Paired R as vs → ∀ {i : Nat} {v : β}, vs[i]? = some v → ∃ pre a post, as = pre ++ a :: post ∧ pre.length = i ∧ R a v
  | _, _, .cons (a := a) (l₁ := l) h r, 0, v, e => by
    simp only [List.getElem?_cons_zero, Option.some.injEq] at e
    subst e
    exact ⟨[], a, l, rfl, rfl, h⟩
  | _, _, .cons (a := a) h r, i + 1, v, e => by
    simp only [List.getElem?_cons_succ] at e
    obtain ⟨pre, b, post, e1, e2, e3⟩ := paired_at r e
    exact ⟨a :: pre, b, post, by rw [e1]; rfl, by rw [List.length_cons, e2], e3⟩
theorem take_pre {α : Type} {as pre post : List α} {a : α} {i : Nat} (e : as = pre ++ a :: post) (hi : pre.length = i) : as.take i = pre ∧ as.take (i + 1) = pre ++ [a] := by
  subst e hi
  constructor
  · simp
  · rw [List.take_append, List.take_of_length_le (by lia)]
    congr 1
    have : pre.length + 1 - pre.length = 1 := by lia
    rw [this]; rfl
theorem ne_locals {a : Addr} {h : Heap} {m : Str → Option Value} {o : Obj} {L : Addr} {items : Array Value} {n : Nat} (F : h.Ns L m) (ho : h.get? a = some o) (hd : o.data = .seq items n) : a ≠ L := by
  rintro rfl
  obtain ⟨oL, es, ep, hL, hLd, _⟩ := F
  rw [ho] at hL
  cases hL
  rw [hd] at hLd; cases hLd
theorem loop_pairs {α σ : Type} {R : α → Value → Prop} {as : List α} {vs : List Value} {l : Addr} {m₀ : Str → Option Value}
    (Led : σ → List (Addr × Obj)) (ps : σ → List (Str × Value)) (stored : List Str) (P : List α → σ → Prop) (rest : List (Addr × Obj)) (c₀ : σ)
    (hh : A.handled = none) (hl : s.heap.IsList l vs.toArray) (hr : Paired R as vs)
    (F : Fr h₀ env.locals s.heap m₀) (N : News h₀ env.locals s.heap (Led c₀ ++ rest)) (hk : ∀ p ∈ ps c₀, m₀ p.1 = some p.2) (hp : P [] c₀)
    (hadr : ∀ c, (Led c).map (·.1) = (Led c₀).map (·.1)) (hoffL : ∀ p ∈ Led c₀, p.1 ≠ l)
    (turn : ∀ (c : σ) pre a post v (u : Str → Option Value) h tk own, as = pre ++ a :: post → R a v → P pre c → OwnOff own ((Led c₀).map (·.1)) →
      Fr h₀ env.locals h (fun y => if y = x then some v else kstB (fun z => if stored.contains z then u z else m₀ z) (ps c) y) → News h₀ env.locals h (Led c ++ (rest ++ own)) →
      ∀ QQ : Flow → Shared → Prop, (∀ f s₂, LoopPost h₀ env.locals Led ps stored x m₀ (P (pre ++ [a])) rest own { s with heap := h, toks := tk } Q f s₂ → QQ f s₂) → wpAny (model prog w) A (execs body env) QQ E { s with heap := h, toks := tk })
    (done : ∀ (c : σ) (u : Str → Option Value) h tk, P as c → Fr h₀ env.locals h (fun y => if y = x then u y else kstB (fun z => if stored.contains z then u z else m₀ z) (ps c) y) → News h₀ env.locals h (Led c ++ rest) → Q .next { s with heap := h, toks := tk }) :
    AtIter (wpAny (model prog w) A (pyIter (.ref l)) (fun it s₂ => LoopAtV prog w A h₀ env x body Q E it s₂) E s) := by
  show wpAny _ _ _ _ _ _
  obtain ⟨ol, hol, hcl, nl, hdl⟩ := id hl
  have hne : l ≠ s.heap.objs.size := Nat.ne_of_lt (Heap.lt_size hol)
  refine wpAny_pyIter_list hl ?_
  have hlen := paired_len hr
  refine loop_walk (ext := [l]) Led ps stored (fun i c => P (as.take i) c) rest c₀ rfl hadr (Walks.list (prog := prog) (w := w) hh s.heap.objs.size l hne vs.toArray)
    ⟨⟨_, Heap.get?_push_size _ rfl, rfl, rfl⟩, hl.at fun o e => Heap.get?_push_of_some _ e⟩ (fun b hb => by rw [List.mem_singleton.mp hb]; exact ne_locals F.ns hol hdl) F N hk (by simpa using hp) (fun p hp hm => hoffL p hp (List.mem_singleton.mp hm)) ?_ ?_
  · intro c i v u h tk own hi hv hP hoff F₁ N₁
    obtain ⟨pre, a, post, e1, e2, e3⟩ := paired_at hr (by simpa using hv)
    obtain ⟨t1, t2⟩ := take_pre e1 e2
    rw [t1] at hP
    simp only [t2]
    exact turn c pre a post v u h tk own e1 e3 hP hoff F₁ N₁ _ (fun _ _ q => q)
  · intro c u h tk hP F₁ N₁
    have : as.take vs.toArray.size = as := by rw [List.size_toArray, ← hlen, List.take_length]
    rw [this] at hP
    exact done c u h tk hP F₁ N₁
theorem loop_range {σ : Type} {n : Nat} {r : Addr} {t₀ u₀ v₀ : Tok} {m₀ : Str → Option Value}
    (Led : σ → List (Addr × Obj)) (ps : σ → List (Str × Value)) (stored : List Str) (P : Nat → σ → Prop) (rest : List (Addr × Obj)) (c₀ : σ)
    (hh : A.handled = none) (hr : IsRange s.heap r 0 (n : Int) 1 t₀ u₀ v₀) (hn : n ≤ 16000000)
    (F : Fr h₀ env.locals s.heap m₀) (N : News h₀ env.locals s.heap (Led c₀ ++ rest)) (hk : ∀ p ∈ ps c₀, m₀ p.1 = some p.2) (hp : P 0 c₀)
    (hadr : ∀ c, (Led c).map (·.1) = (Led c₀).map (·.1))
    (turn : ∀ (c : σ) (i : Nat) t (u : Str → Option Value) h tk own, i < n → P i c → OwnOff own ((Led c₀).map (·.1)) →
      Fr h₀ env.locals h (fun y => if y = x then some (.int (i : Int) t) else kstB (fun z => if stored.contains z then u z else m₀ z) (ps c) y) → News h₀ env.locals h (Led c ++ (rest ++ own)) →
      ∀ QQ : Flow → Shared → Prop, (∀ f s₂, LoopPost h₀ env.locals Led ps stored x m₀ (P (i + 1)) rest own { s with heap := h, toks := tk } Q f s₂ → QQ f s₂) → wpAny (model prog w) A (execs body env) QQ E { s with heap := h, toks := tk })
    (done : ∀ (c : σ) (u : Str → Option Value) h tk, P n c → Fr h₀ env.locals h (fun y => if y = x then u y else kstB (fun z => if stored.contains z then u z else m₀ z) (ps c) y) → News h₀ env.locals h (Led c ++ rest) → Q .next { s with heap := h, toks := tk }) :
    AtIter (wpAny (model prog w) A (pyIter (.ref r)) (fun it s₂ => LoopAtV prog w A h₀ env x body Q E it s₂) E s) := by
  show wpAny _ _ _ _ _ _
  have hsize : Builtin.Range.rangeSize 0 (n : Int) 1 = (n : Int) := by
    unfold Builtin.Range.rangeSize
    simp only [show (1 : Int) > 0 by decide, if_true]
    split <;> lia
  have hsmall : Builtin.Range.small 0 (n : Int) 1 = true := small_one (by lia) (by lia) (by lia) (by lia)
  refine wpAny_pyIter_range hr hsmall ?_
  refine loop_walk (ext := []) Led ps stored P rest c₀ rfl hadr (Walks.range (prog := prog) (w := w) hh s.heap.objs.size 0 1 n) (by show IsRangeIter _ _ _ _ _; rw [hsize]; simpa using Heap.get?_push_size _ rfl) (fun b hb => by cases hb) F N hk hp (fun p hp hm => by cases hm) ?_ done
  intro c i v u h tk own hi hv hP hoff F₁ N₁
  obtain ⟨t, rfl⟩ := hv
  have e1 : (0 : Int) + (i : Int) * 1 = (i : Int) := by lia
  rw [e1] at F₁
  exact turn c i t u h tk own hi hP hoff F₁ N₁ _ (fun _ _ q => q)
theorem LoopEnd.intro {σ : Type} {L : Addr} {Led : σ → List (Addr × Obj)} {ps : σ → List (Str × Value)} {stored : List Str} {m₀ : Str → Option Value} {P : σ → Prop} {rest own news' : List (Addr × Obj)} {s₁ : Shared} {h' : Heap} {tk : Nat} {m' : Str → Option Value} (c : σ)
    (F : Fr h₀ L h' m') (N : News h₀ L h' news') (hn : ∀ p ∈ Led c, p ∈ news') (hr : ∀ p ∈ rest, p ∈ news') (ho : ∀ p ∈ own, p ∈ news') (hk : ∀ p ∈ ps c, m' p.1 = some p.2)
    (hz : ∀ z, z ≠ x → (∀ p ∈ ps c, z ≠ p.1) → stored.contains z = false → m' z = m₀ z) (hp : P c) : LoopEnd h₀ L Led ps stored x m₀ P rest own s₁ { s₁ with heap := h', toks := tk } :=
  ⟨c, h', tk, m', news', rfl, F, N, hn, hr, ho, hk, hz, hp⟩
theorem sub_nil {α : Type} {l : List α} : ∀ p ∈ ([] : List α), p ∈ l := fun _ h => nomatch h
theorem sub_cons {α : Type} {a : α} {r l : List α} (h : a ∈ l) (H : ∀ p ∈ r, p ∈ l) : ∀ p ∈ a :: r, p ∈ l := List.forall_mem_cons.mpr ⟨h, H⟩
theorem sub_tail {α : Type} {a : α} {r l : List α} (H : ∀ p ∈ r, p ∈ l) : ∀ p ∈ r, p ∈ a :: l := fun p h => .tail _ (H p h)
def Same (ks st : List Str) (m₀ m' : Str → Option Value) : Prop := ∀ z, (∀ k ∈ ks, z ≠ k) → st.contains z = false → m' z = m₀ z
theorem same_if {ks st : List Str} {m₀ m' : Str → Option Value} {k : Str} {v : Option Value} (h : k ∈ ks) (H : Same ks st m₀ m') : Same ks st m₀ (fun z => if z = k then v else m' z) := by
  intro z h1 h2
  show (if z = k then v else m' z) = m₀ z
  rw [if_neg (h1 k h)]; exact H z h1 h2
theorem same_st {ks st : List Str} {m₀ m' : Str → Option Value} {k : Str} {v : Option Value} (h : k ∈ st) (H : Same ks st m₀ m') : Same ks st m₀ (fun z => if z = k then v else m' z) := by
  intro z h1 h2
  show (if z = k then v else m' z) = m₀ z
  rw [if_neg (by rintro rfl; rw [List.contains_iff_mem.mpr h] at h2; cases h2)]; exact H z h1 h2
theorem same_refl {ks st : List Str} {m₀ : Str → Option Value} : Same ks st m₀ m₀ := fun _ _ _ => rfl
theorem same_u {ks st : List Str} {m₀ u : Str → Option Value} : Same ks st m₀ (fun z => if st.contains z then u z else m₀ z) := by
  intro z _ h2
  show (if st.contains z then u z else m₀ z) = m₀ z
  rw [h2]; rfl
theorem same_ins {ks st st2 : List Str} {m₀ m u : Str → Option Value} (h : ∀ k ∈ st2, k ∈ st) (H : Same ks st m₀ m) : Same ks st m₀ (fun z => if st2.contains z then u z else m z) := by
  intro z h1 h2
  show (if st2.contains z then u z else m z) = m₀ z
  cases e : st2.contains z with
  | true => rw [List.contains_iff_mem.mpr (h z (List.contains_iff_mem.mp e))] at h2; cases h2
  | false => exact H z h1 h2
theorem same_kcons {ks st : List Str} {m₀ b : Str → Option Value} {k : Str} {v : Value} {r : List (Str × Value)} (h : k ∈ ks) (H : Same ks st m₀ (kstB b r)) : Same ks st m₀ (kstB b ((k, v) :: r)) := same_if (v := some v) h H
theorem same_knil {ks st : List Str} {m₀ b : Str → Option Value} (H : Same ks st m₀ b) : Same ks st m₀ (kstB b []) := H
theorem x_end {σ : Type} {L : Addr} {Led : σ → List (Addr × Obj)} {ps : σ → List (Str × Value)} {stored : List Str} {m₀ : Str → Option Value} {P : σ → Prop} {rest own news' : List (Addr × Obj)} {s₁ : Shared} {h' : Heap} {tk : Nat} {m' : Str → Option Value} (c : σ) (hp : P c)
    (F : Fr h₀ L h' m' := by k_dflt (k_asm)) (N : News h₀ L h' news' := by k_dflt (k_asm)) (hn : ∀ p ∈ Led c, p ∈ news' := by k_dflt (k_extra "sub")) (hr : ∀ p ∈ rest, p ∈ news' := by k_dflt (k_extra "sub")) (ho : ∀ p ∈ own, p ∈ news' := by k_dflt (k_extra "sub")) (hk : ∀ p ∈ ps c, m' p.1 = some p.2 := by k_dflt (kst_all))
    (hz : Same (x :: (ps c).map (·.1)) stored m₀ m' := by k_dflt (k_extra "fz")) : LoopEnd h₀ L Led ps stored x m₀ P rest own s₁ { s₁ with heap := h', toks := tk } :=
  LoopEnd.intro c F N hn hr ho hk (fun z h1 h2 h3 => hz z (List.forall_mem_cons.mpr ⟨h1, fun k hk => by obtain ⟨p, hp, e⟩ := List.mem_map.mp hk; rw [← e]; exact h2 p hp⟩) h3) hp
end
end
section
open PySem PySem.Builtin.Str PySem.StrLaws
set_option Elab.async false
set_option maxRecDepth 100000
noncomputable def hv (c : Nat) : Nat := if c < 58 then c - 48 else if c < 71 then c - 55 else c - 87
noncomputable def isHex (c : Nat) : Bool := (48 ≤ c && c ≤ 57) || (65 ≤ c && c ≤ 70) || (97 ≤ c && c ≤ 102)
noncomputable def dd : T := [46, 46]
noncomputable def stepP (st : Nat × List T) (p : T) : Nat × List T :=
  if p = dd then (st.1 + 1, st.2) else if p ≠ [] ∧ p ≠ [46] then (if 0 < st.1 then (st.1 - 1, st.2) else (st.1, st.2 ++ [p])) else st
noncomputable def rootL (x : T) : T :=
  let n := x.length - (x.dropWhile (· == 47)).length
  if n = 2 then [47, 47] else List.replicate (min n 1) 47
noncomputable def madeL (x : T) : T :=
  let st := (splitL 47 x).reverse.foldl stepP (0, [])
  let kept := if rootL x = [] then st.2 ++ List.replicate st.1 dd else st.2
  rootL x ++ joinL [47] kept.reverse
noncomputable def plainL (x : T) : T := if madeL x ≠ [] then madeL x else [46]
noncomputable def takeRow : Int → T → T × T
  | _, [] => ([], [])
  | room, c :: r => if cost c ≤ room then (c :: (takeRow (room - cost c) r).1, (takeRow (room - cost c) r).2) else ([], c :: r)
noncomputable def costs (x : T) : Int := (x.map cost).sum
noncomputable def rowsF (width : Int) : Nat → T → List T × T
  | 0, x => ([], x)
  | n + 1, x => if width < costs x then ((takeRow (width - 1) x).1 :: (rowsF width n (takeRow (width - 1) x).2).1, (rowsF width n (takeRow (width - 1) x).2).2) else ([], x)
noncomputable def tailM (width : Int) (part rest : T) : List T :=
  if part.getLast? = some 32 ∨ part.getLast? = some 9 then
    if width - costs rest > 1 then [rest.dropLast ++ [256 + part.getLastD 0]]
    else if width - costs rest = 1 then [rest, []]
    else [rest.dropLast, [256 + part.getLastD 0]]
  else [rest]
noncomputable def markedL (width : Int) (part : T) : T := joinL [10] ((rowsF width part.length part).1 ++ tailM width part (rowsF width part.length part).2)
noncomputable def encF (width : Nat) : Nat → T → List T × T
  | 0, r => ([], r)
  | n + 1, r => if width < r.length then
      if r.getD (width - 3) 0 = 61 then let p := encF width n (r.drop (width - 3)); (r.take (width - 2) :: p.1, p.2)
      else if r.getD (width - 2) 0 = 61 then let p := encF width n (r.drop (width - 2)); (r.take (width - 1) :: p.1, p.2)
      else let p := encF width n (r.drop (width - 1)); ((r.take (width - 1) ++ [61]) :: p.1, p.2)
    else ([], r)
noncomputable def tailE (width : Nat) (r : T) : T :=
  if r.getLast? = some 32 ∨ r.getLast? = some 9 then
    r.dropLast ++ (if r.length + 2 ≤ width then quoteT (r.getLastD 0) else if r.length + 1 = width then r.getLastD 0 :: [61, 10] else [61, 10] ++ quoteT (r.getLastD 0))
  else r
noncomputable def encL (width : Nat) (part : T) : T :=
  if part = [] then [] else
  let r := (part.map bodyT).flatten
  joinL [10] ((encF width r.length r).1 ++ [tailE width (encF width r.length r).2])
noncomputable def decF : Nat → T → T
  | 0, _ => []
  | _, [] => []
  | n + 1, c :: r =>
    if c ≠ 61 then c :: (if r = [] then [10] else decF n r)
    else if r = [] then []
    else match r with
      | a :: b :: q => if isHex a && isHex b then (16 * hv a + hv b) :: (if q = [] then [10] else decF n q) else c :: decF n r
      | _ => c :: decF n r
noncomputable def decLine (line : T) : T := if rstripP Unicode.isSpace line = [] then [10] else decF (rstripP Unicode.isSpace line).length (rstripP Unicode.isSpace line)
noncomputable def decodeL (x : T) : T :=
  if x = [] then [] else
  let d := ((linesL x).map decLine).flatten
  if x.getLast? ≠ some 10 ∧ d.getLast? = some 10 then d.dropLast else d
noncomputable def kindT (k : Nat) : T := [[], [47], [46], [47, 46, 46], [97], [32], [46, 46, 47], [233]].getD k []
noncomputable def stepParts (parts : List T) (x : Int) : List T :=
  let kind := (x % 9).toNat
  let octet := (x / 9 % 256).toNat
  if kind = 0 then parts ++ [[]]
  else if kind < 8 then parts.dropLast ++ [parts.getLastD [] ++ kindT kind]
  else if octet = 10 ∨ octet = 13 then parts.dropLast ++ [parts.getLastD [] ++ [47]]
  else parts.dropLast ++ [parts.getLastD [] ++ [octet]]
noncomputable def partsL (ns : List Int) : List T := ns.foldl stepParts [[]]
end
section
open PySem PySem.W PyProof.Rows PySem.Spec PySem.Calls
set_option Elab.async false
set_option maxRecDepth 100000
theorem item_at {x : T} {k : Int} (h0 : 0 ≤ k) (h1 : k < (x.length : Int)) : (tl (S x))[k.toNat]? = some (x.getD k.toNat 0) := by
  show (S x).cps.toList[k.toNat]? = _
  rw [S_cps, List.getD_eq_getElem?_getD, List.getElem?_eq_getElem (by lia)]; rfl
noncomputable def AtWhile (P : Prop) : Prop := P
theorem AtWhile.on {P : Prop} (h : AtWhile P) : P := h
theorem strs_last : ∀ {vs : List Value} {xs : List T}, StrsAre vs (xs.map S) → xs ≠ [] → ∃ ws t, vs = ws ++ [.str (S (xs.getLastD [])) t] ∧ StrsAre ws (xs.dropLast.map S)
  | _, [], _, hne => absurd rfl hne
  | vs, [x], h, _ => by
    obtain ⟨t, vs', rfl, h'⟩ := StrsAre.cons_inv h
    cases h'
    exact ⟨[], t, rfl, .nil⟩
  | vs, x :: y :: r, h, _ => by
    obtain ⟨t, vs', rfl, h'⟩ := StrsAre.cons_inv h
    obtain ⟨ws, u, e, h2⟩ := strs_last (xs := y :: r) h' (by simp)
    refine ⟨.str (S x) t :: ws, u, by rw [e]; rfl, ?_⟩
    exact .cons _ _ h2
theorem strs2_inv {vs : List Value} {a b : T} (h : StrsAre vs ([a, b].map S)) : ∃ ta tb, vs = [.str (S a) ta, .str (S b) tb] := by
  obtain ⟨ta, v1, rfl, h1⟩ := StrsAre.cons_inv h
  obtain ⟨tb, v2, rfl, h2⟩ := StrsAre.cons_inv h1
  cases h2
  exact ⟨ta, tb, rfl⟩
theorem strs3_inv {vs : List Value} {a b c : T} (h : StrsAre vs ([a, b, c].map S)) : ∃ ta tb tc, vs = [.str (S a) ta, .str (S b) tb, .str (S c) tc] := by
  obtain ⟨ta, v1, rfl, h1⟩ := StrsAre.cons_inv h
  obtain ⟨tb, v2, rfl, h2⟩ := StrsAre.cons_inv h1
  obtain ⟨tc, v3, rfl, h3⟩ := StrsAre.cons_inv h2
  cases h3
  exact ⟨ta, tb, tc, rfl⟩
theorem kl_last_snoc : ∀ (ws : List Value) (y : Value), kl_last (ws ++ [y]) = some (ws, y)
  | [], y => rfl
  | x :: r, y => by
    show kl_last (x :: (r ++ [y])) = _
    unfold kl_last
    rw [kl_last_snoc r y]
theorem ki_setL_snoc : ∀ (ws : List Value) (y z : Value), ki_setL (ws ++ [y]) ws.length z = some (ws ++ [z])
  | [], y, z => rfl
  | x :: r, y, z => by
    show ki_setL (x :: (r ++ [y])) (r.length + 1) z = _
    unfold ki_setL
    rw [ki_setL_snoc r y z]
    rfl
section
variable {prog : Program} {w : World} {A : Around} {E : Value → Shared → Prop} {s : Shared} {h₀ : Heap} {L D : Addr} {m : Str → Option Value} {news news' : List (Addr × Obj)}
theorem pop_rule {vs ws : List Value} {y : Value} {n : Nat} {Q : Value → Shared → Prop} (F : Fr h₀ L s.heap m) (N : News h₀ L s.heap news) (hv : vs = ws ++ [y]) (U : Upd D (listOf vs.toArray n) (listOf ws.toArray (n + 1)) news news') (hsz : vs.length ≤ 16000000)
    (h : ∀ h', Fr h₀ L h' m → News h₀ L h' news' → Q y { s with heap := h' }) : wpAny (model prog w) A (call (.builtin "list.pop") [.ref D]) Q E s := by
  subst hv
  exact kl_pop F N (kl_last_snoc ws y) U (Nat.le_trans hsz (by decide)) h
theorem popS_rule {hp : Heap} {gs : Array GenState} {dr : Drawn} {tk : Nat} {os : OsState} {vs : List Value} {xs : List T} {n : Nat} {Q : Value → Shared → Prop} (F : Fr h₀ L hp m) (N : News h₀ L hp news) (hs : StrsAre vs (xs.map S)) (hne : xs ≠ []) (U : Upd D (listOf vs.toArray n) (listOf vs.dropLast.toArray (n + 1)) news news') (hsz : xs.length ≤ 16000000)
    (h : ∀ h' t, Fr h₀ L h' m → News h₀ L h' news' → Q (.str (S (xs.getLastD [])) t) ⟨h', gs, dr, tk, os⟩) : wpAny (model prog w) A (call (.builtin "list.pop") [.ref D]) Q E ⟨hp, gs, dr, tk, os⟩ := by
  have hlen : vs.length = xs.length := by rw [hs.len_eq, List.length_map]
  obtain ⟨ws, t, rfl, h2⟩ := strs_last hs hne
  refine pop_rule (ws := ws) F N rfl (by simpa using U) (by lia) fun h' F' N' => h h' t F' N'
theorem setlast_rule {vs ws : List Value} {y v : Value} {n : Nat} {u : Tok} {Q : Unit → Shared → Prop} (F : Fr h₀ L s.heap m) (N : News h₀ L s.heap news) (hv : vs = ws ++ [y]) (U : Upd D (listOf vs.toArray n) (listOf (ws ++ [v]).toArray n) news news')
    (h : ∀ h', Fr h₀ L h' m → News h₀ L h' news' → Q () { s with heap := h' }) : wpAny (model prog w) A (setItem (.ref D) (.int (-1) u) v) Q E s := by
  subst hv
  refine ki_setNeg (j := ws.length) F N (by decide) (by decide) ?_ (ki_setL_snoc ws y v) U h
  have := PySem.seqIndex_neg (k := (-1 : Int)) (n := (ws ++ [y]).toArray.size) (by decide) (by rw [List.size_toArray, List.length_append, List.length_singleton]; lia)
  rw [this]
  simp
  lia
theorem setlastS_rule {hp : Heap} {gs : Array GenState} {dr : Drawn} {tk : Nat} {os : OsState} {vs : List Value} {xs : List T} {v : Value} {n : Nat} {u : Tok} {Q : Unit → Shared → Prop} (F : Fr h₀ L hp m) (N : News h₀ L hp news) (hs : StrsAre vs (xs.map S)) (hne : xs ≠ []) (U : Upd D (listOf vs.toArray n) (listOf (vs.dropLast ++ [v]).toArray n) news news')
    (h : ∀ h', Fr h₀ L h' m → News h₀ L h' news' → Q () ⟨h', gs, dr, tk, os⟩) : wpAny (model prog w) A (setItem (.ref D) (.int (-1) u) v) Q E ⟨hp, gs, dr, tk, os⟩ := by
  obtain ⟨ws, t, rfl, h2⟩ := strs_last hs hne
  exact setlast_rule (ws := ws) F N rfl (by simpa using U) h
theorem truthyL_rule {hp : Heap} {gs : Array GenState} {dr : Drawn} {tk : Nat} {os : OsState} {l : Addr} {vs : List Value} {xs : List T} {Q : Bool → Shared → Prop} (hl : hp.IsList l vs.toArray) (hs : StrsAre vs (xs.map S)) (hsz : xs.length ≤ 16000000)
    (h : Q (decide (xs ≠ [])) ⟨hp, gs, dr, tk + 1 + 1, os⟩) : wpAny (model prog w) A (truthy (.ref l)) Q E ⟨hp, gs, dr, tk, os⟩ := by
  have hlen : vs.length = xs.length := by rw [hs.len_eq, List.length_map]
  refine wpAny_truthy_list hl (by rw [List.size_toArray]; lia) ?_
  have e : (!vs.toArray.isEmpty) = decide (xs ≠ []) := by
    rw [List.isEmpty_toArray]
    cases vs with
    | nil => cases xs with
      | nil => rfl
      | cons a r => simp at hlen
    | cons a r => cases xs with
      | nil => simp at hlen
      | cons b q => simp
  rw [e]; exact h
theorem truthyS_rule {hp : Heap} {gs : Array GenState} {dr : Drawn} {tk : Nat} {os : OsState} {x : T} {t : Tok} {Q : Bool → Shared → Prop} (hsz : x.length ≤ 16000000)
    (h : Q (decide (x ≠ [])) ⟨hp, gs, dr, tk + 1 + 1, os⟩) : wpAny (model prog w) A (truthy (.str (S x) t)) Q E ⟨hp, gs, dr, tk, os⟩ := by
  refine P.truthy_str (by rw [S_len]; lia) ?_
  have e : (((S x).length : Int) != 0) = decide (x ≠ []) := by
    rw [S_len]
    cases x with
    | nil => rfl
    | cons a r => simp; lia
  rw [e]; exact h
theorem min_rule {hp : Heap} {gs : Array GenState} {dr : Drawn} {tk : Nat} {os : OsState} {a b : Int} {t u : Tok} {Q : Value → Shared → Prop} (hh : A.handled = none) (F : Fr h₀ L hp m) (N : News h₀ L hp news)
    (h : ∀ h' tk9 t', Fr h₀ L h' m → News h₀ L h' news → Q (.int (min a b) t') ⟨h', gs, dr, tk9, os⟩) : wpAny (model prog w) A (call (.builtin "min") [.int a t, .int b u]) Q E ⟨hp, gs, dr, tk, os⟩ := by
  refine min_two_ints hh fun h' tk hk => ?_
  have h2 := fun t' => h h' tk t' (F.grownK hk) (N.grown hk)
  by_cases e : b < a
  · rw [if_pos e]; have := h2 u; rwa [show min a b = b by lia] at this
  · rw [if_neg e]; have := h2 t; rwa [show min a b = a by lia] at this
theorem smul_rule {hp : Heap} {gs : Array GenState} {dr : Drawn} {tk : Nat} {os : OsState} {x : Str} {c : Nat} {k : Int} {t u : Tok} {Q : Value → Shared → Prop} (hx : x = S [c]) (h0 : 0 ≤ k) (h1 : k ≤ 1)
    (h : ∀ t' k', Q (.str (S (List.replicate k.toNat c)) t') ⟨hp, gs, dr, k', os⟩) : wpAny (model prog w) A (binaryOp .Mult (.str x t) (.int k u)) Q E ⟨hp, gs, dr, tk, os⟩ := by
  have hk : k = 0 ∨ k = 1 := by lia
  subst hx
  rcases hk with rfl | rfl
  · exact SB.mul ⟨by decide, fun h => absurd (by decide) h, fun h => absurd (by decide) h⟩ fun t' k' => h t' k'
  · exact SB.mul ⟨by decide, (fun _ h => nomatch h), (fun _ h => nomatch h)⟩ fun t' k' => h t' k'
theorem lmul_rule {hp : Heap} {gs : Array GenState} {dr : Drawn} {tk : Nat} {os : OsState} {l : Addr} {x : T} {t u : Tok} {k : Int} {Q : Value → Shared → Prop} (F : Fr h₀ L hp m) (N : News h₀ L hp news) (hl : hp.IsList l #[.str (S x) t]) (h0 : 0 ≤ k) (h1 : k ≤ 256)
    (h : ∀ D h' ws, StrsAre ws ((List.replicate k.toNat x).map S) → Fr h₀ L h' m → News h₀ L h' ((D, listOf (List.toArray ws) 0) :: news) → (∀ p ∈ news, p.1 < D) → Q (.ref D) ⟨h', gs, dr, tk, os⟩) : wpAny (model prog w) A (binaryOp .Mult (.ref l) (.int k u)) Q E ⟨hp, gs, dr, tk, os⟩ := by
  refine KMa.mul F N (vs := [.str (S x) t]) hl (by lia) (by lia) (by simp; lia) rfl fun D h' F' N' l1 => h D h' _ ?_ F' N' l1
  generalize k.toNat = n
  induction n with
  | zero => exact .nil
  | succ n ih => exact .cons _ _ ih
theorem forV_rule {env : Env} {Q : Flow → Shared → Prop} {x : Str} {px pos : Pos} {iter : PySem.Expr} {body : List Stmt} (_F : Fr h₀ env.locals s.heap m) (hx : env.kindOf x = some .local)
    (hp : (env.scope.kind == .class || (env.scope.kind == .module && env.locals != env.globals)) = false)
    (h : wpAny (model prog w) A (eval iter env) (fun xv s₁ => wpAny (model prog w) A (pyIter xv) (fun it s₂ => LoopAtV prog w A h₀ env x body Q E it s₂) E s₁) E s)
    (hs : ∀ x, foldedSetIterable iter env x = pure x := by k_dflt (intro _; rfl))
    (hE : PassesOwn (model prog w) A env E := by k_dflt (passes_own)) :
    wpAny (model prog w) A (exec (.For (.Name x px) iter body [] pos) env) Q E s := For_invV h₀ hx hp h hs hE
end
noncomputable def WEnd {σ : Type} (h₀ : Heap) (L : Addr) (s : Shared) (Led : σ → List (Addr × Obj)) (ps : σ → List (Str × Value)) (stored : List Str) (m₀ : Str → Option Value) (P : σ → Prop) (μ : σ → Nat) (c : σ) (s₂ : Shared) : Prop := KswEnd h₀ L s Led ps (fun _ => True) stored m₀ P μ c s₂
noncomputable def WPost {σ : Type} (h₀ : Heap) (L : Addr) (s : Shared) (Led : σ → List (Addr × Obj)) (ps : σ → List (Str × Value)) (stored : List Str) (m₀ : Str → Option Value) (P : σ → Prop) (μ : σ → Nat) (Q : Flow → Shared → Prop) (c : σ) (f : Flow) (s₂ : Shared) : Prop :=
  match f with
  | .ret v => Q (.ret v) s₂
  | .brk => Q .next s₂
  | _ => WEnd h₀ L s Led ps stored m₀ P μ c s₂
section
variable {prog : Program} {w : World} {A : Around} {E : Value → Shared → Prop} {Q : Flow → Shared → Prop} {s : Shared} {env : Env} {h₀ : Heap} {L : Addr}
theorem WEnd.intro {σ : Type} {Led : σ → List (Addr × Obj)} {ps : σ → List (Str × Value)} {stored : List Str} {m₀ m' : Str → Option Value} {P : σ → Prop} {μ : σ → Nat} {c : σ} {h' : Heap} {tk : Nat} {news' : List (Addr × Obj)} (c' : σ)
    (F : Fr h₀ L h' m') (N : News h₀ L h' news') (hn : ∀ p ∈ Led c', p ∈ news') (hk : ∀ p ∈ ps c', m' p.1 = some p.2) (hr : ∀ z, (∀ p ∈ ps c', z ≠ p.1) → stored.contains z = false → m' z = m₀ z) (hp : P c') (hm : μ c' < μ c) :
    WEnd h₀ L s Led ps stored m₀ P μ c { s with heap := h', toks := tk } := ksw_end c' F N hn trivial hk hr hp hm
theorem x_wend {σ : Type} {Led : σ → List (Addr × Obj)} {ps : σ → List (Str × Value)} {stored : List Str} {m₀ m' : Str → Option Value} {P : σ → Prop} {μ : σ → Nat} {c : σ} {h' : Heap} {tk : Nat} {news' : List (Addr × Obj)} (c' : σ) (hp : P c') (hm : μ c' < μ c)
    (F : Fr h₀ L h' m' := by k_dflt (k_asm)) (N : News h₀ L h' news' := by k_dflt (k_asm)) (hn : ∀ p ∈ Led c', p ∈ news' := by k_dflt (k_extra "sub")) (hk : ∀ p ∈ ps c', m' p.1 = some p.2 := by k_dflt (kst_all)) (hr : Same ((ps c').map (·.1)) stored m₀ m' := by k_dflt (k_extra "fz")) :
    WEnd h₀ L s Led ps stored m₀ P μ c { s with heap := h', toks := tk } :=
  WEnd.intro c' F N hn hk (fun z h2 h3 => hr z (fun k hk => by obtain ⟨p, hp, e⟩ := List.mem_map.mp hk; rw [← e]; exact h2 p hp) h3) hp hm
theorem while_walk {σ : Type} {test : PySem.Expr} {body : List Stmt} {pos : Pos} {m₀ : Str → Option Value} (Led : σ → List (Addr × Obj)) (ps : σ → List (Str × Value)) (stored : List Str) (P : σ → Prop) (μ : σ → Nat) (c₀ : σ)
    (F : Fr h₀ env.locals s.heap m₀) (N : News h₀ env.locals s.heap (Led c₀)) (hk : ∀ p ∈ ps c₀, m₀ p.1 = some p.2) (hp : P c₀)
    (turn : ∀ (c : σ) (u : Str → Option Value) h tk, P c → Fr h₀ env.locals h (kstB (fun z => if stored.contains z then u z else m₀ z) (ps c)) → News h₀ env.locals h (Led c) →
      ∀ QQ : Flow → Shared → Prop, (∀ f s₂, WPost h₀ env.locals s Led ps stored m₀ P μ Q c f s₂ → QQ f s₂) → wpAny (model prog w) A (isTrue test env (eval test env)) (fun b s₂ =>
        if b = true then wpAny (model prog w) A (execs body env) QQ E s₂ else Q .next s₂) E { s with heap := h, toks := tk })
    (hE : PassesOwn (model prog w) A env E := by k_dflt (passes_own)) :
    AtWhile (wpAny (model prog w) A (exec (.While test body [] pos) env) Q E s) := by
  refine ksw_while Led ps (fun _ => True) stored P μ c₀ F N trivial hk hp (fun c u h tk _ hp F N => ?_) hE
  refine wpAny_mono (turn c u h tk hp F N _ (fun _ _ q => q)) (fun b s₂ q => ?_) fun _ _ x => x
  cases b with
  | false => simpa using q
  | true =>
    simp only [if_true] at q ⊢
    refine wpAny_mono q (fun f s₃ q => ?_) fun _ _ x => x
    cases f <;> exact q
end
end
section
open PySem PySem.W PyProof.Rows PySem.Spec PySem.Calls
set_option Elab.async false
set_option maxRecDepth 100000
section
variable {prog : Program} {w : World} {A : Around} {Q E : Value → Shared → Prop} {s : Shared} {K : Frag} {base : Heap} {p : Program} {loose : List Str} {mean : ExcName → Option Value} {mg mb : Str → Option Value} {l : List Env}
theorem pu_enterR {name qual : Str} {params : Arguments} {body : List Stmt} {scope : Scope} {dV kV doc pm cdv ct oc : Value} {an od : Option Addr} {osl : Array (Option Value)} {f : Addr} {args vs : List Value} {front : List (Str × Value)} {nm : Str}
    (_B : Below A base l s.heap) (X : K.In s.heap) (T : Top p loose mean mg mb s.heap)
    (ho : K.lookup f = some ⟨oc, od, .func (fnOf name qual params body scope dV kV doc pm an cdv ct), osl⟩) (hcd : codeIn K cdv qual = true) (hroom : A.depth < recursionLimit)
    (hbind : bindArgs (fnOf name qual params body scope dV kV doc pm an cdv ct) ⟨args, []⟩ = (newTuple vs >>= fun r => pure (front ++ [(nm, r)]))) (hsz : vs.length ≤ 16000000)
    (hloc : ∀ D, ∀ y ∈ front ++ [(nm, Value.ref D)], scope.names.lookup y.1 = some .local)
    (h : ∀ D L' h₁, s.heap.get? D = none → Fr s.heap L' h₁ (fun y => (front ++ [(nm, Value.ref D)]).reverse.lookup y) → News s.heap L' h₁ [(D, ({ cls := .type "tuple", data := .seq vs.toArray } : Obj))] →
      wpAny (model prog w) (A.deeper (envOf qual scope L' f cdv)) (execs body (envOf qual scope L' f cdv))
        (fun fl s' => Q (match fl with | .ret v => v | _ => .none) s')
        (fun e s' => wpAny (model prog w) (A.deeper (envOf qual scope L' f cdv)) (leaving (envOf qual scope L' f cdv) e) (fun _ s'' => E e s'') (fun e' s'' => E e' s'') s')
        { s with heap := h₁, toks := s.toks + (front.length + 1) })
    (hco : scope.isCoroutine = false) (hgen : scope.isGenerator = false) (hk : scope.kind = .function)
    (hcell : ∀ x ∈ scope.names, x.2 ≠ .cell) : wpAny (model prog w) A (call (.ref f) args) Q E s := by
  refine wpAny_call ?_
  refine codeAny_call_function (fd := fnOf name qual params body scope dV kV doc pm an cdv ct) (body := body) hroom (X _ _ ho) rfl hco hgen rfl (codeRec_of X hcd) ?_
  rw [hbind]
  have kp : ∀ b o, s.heap.get? b = some o → (s.heap.push { cls := .type "tuple", data := .seq vs.toArray }).get? b = some o := fun b o e => Heap.get?_push_of_some _ e
  refine wpAny_bind (wpAny_newTuple (wpAny_pure ?_) (Nat.le_trans hsz (by decide)))
  refine wpAny_newFunctionEnv (s := { s with heap := s.heap.push { cls := .type "tuple", data := .seq vs.toArray } }) hcell (hloc _) (fun h₀ hns₀ hsb₀ => ⟨(T.keeps kp).nolimit.fresh _ hsb₀, codeAny_func ?_⟩) hk
  have e1 : (s.heap.push { cls := .type "tuple", data := .seq vs.toArray }).objs.size = s.heap.objs.size + 1 := Heap.size_push ..
  have up : ∀ b o, (s.heap.push { cls := .type "tuple", data := .seq vs.toArray }).get? b = some o → h₀.get? b = some o := fun b o e =>
    hsb₀.extBut b o (Nat.ne_of_lt (Heap.lt_size e)) (Heap.get?_push_of_some _ e)
  have hn : s.heap.get? s.heap.objs.size = none := by
    cases e : s.heap.get? s.heap.objs.size with
    | none => rfl
    | some o => exact absurd (Heap.lt_size e) (Nat.lt_irrefl _)
  have hlen : (front ++ [(nm, Value.ref s.heap.objs.size)]).length = front.length + 1 := by simp
  have := h s.heap.objs.size _ h₀ hn ⟨hns₀, fun b o e => up b o (kp b o e), by show s.heap.objs.size ≤ (s.heap.push _).objs.size; rw [e1]; exact Nat.le_succ _⟩ (by
    intro q hq
    rw [List.mem_singleton.mp hq]
    refine ⟨up _ _ (Heap.get?_push_size _ rfl), ?_, hn⟩
    show s.heap.objs.size ≠ (s.heap.push _).objs.size
    rw [e1]; exact Nat.ne_of_lt (Nat.lt_succ_self _))
  rw [← hlen] at this
  exact this
end
section
variable {prog : Program} {w : World} {A : Around} {E : Value → Shared → Prop} {s : Shared} {h₀ : Heap} {env : Env} {x : Str} {body : List Stmt} {Q : Flow → Shared → Prop}
theorem loop_pairsT {α σ : Type} {R : α → Value → Prop} {as : List α} {vs : List Value} {l : Addr} {m₀ : Str → Option Value}
    (Led : σ → List (Addr × Obj)) (ps : σ → List (Str × Value)) (stored : List Str) (P : List α → σ → Prop) (rest : List (Addr × Obj)) (c₀ : σ)
    (hh : A.handled = none) (hl : s.heap.IsTuple l vs.toArray) (hr : Paired R as vs)
    (F : Fr h₀ env.locals s.heap m₀) (N : News h₀ env.locals s.heap (Led c₀ ++ rest)) (hk : ∀ p ∈ ps c₀, m₀ p.1 = some p.2) (hp : P [] c₀)
    (hadr : ∀ c, (Led c).map (·.1) = (Led c₀).map (·.1)) (hoffL : ∀ p ∈ Led c₀, p.1 ≠ l)
    (turn : ∀ (c : σ) pre a post v (u : Str → Option Value) h tk own, as = pre ++ a :: post → R a v → P pre c → OwnOff own ((Led c₀).map (·.1)) →
      Fr h₀ env.locals h (fun y => if y = x then some v else kstB (fun z => if stored.contains z then u z else m₀ z) (ps c) y) → News h₀ env.locals h (Led c ++ (rest ++ own)) →
      ∀ QQ : Flow → Shared → Prop, (∀ f s₂, LoopPost h₀ env.locals Led ps stored x m₀ (P (pre ++ [a])) rest own { s with heap := h, toks := tk } Q f s₂ → QQ f s₂) → wpAny (model prog w) A (execs body env) QQ E { s with heap := h, toks := tk })
    (done : ∀ (c : σ) (u : Str → Option Value) h tk, P as c → Fr h₀ env.locals h (fun y => if y = x then u y else kstB (fun z => if stored.contains z then u z else m₀ z) (ps c) y) → News h₀ env.locals h (Led c ++ rest) → Q .next { s with heap := h, toks := tk }) :
    AtIter (wpAny (model prog w) A (pyIter (.ref l)) (fun it s₂ => LoopAtV prog w A h₀ env x body Q E it s₂) E s) := by
  show wpAny _ _ _ _ _ _
  obtain ⟨ol, hol, hcl, nl, hdl⟩ := id hl
  have hne : l ≠ s.heap.objs.size := Nat.ne_of_lt (Heap.lt_size hol)
  refine wpAny_pyIter_tuple hl ?_
  have hlen := paired_len hr
  refine loop_walk (ext := [l]) Led ps stored (fun i c => P (as.take i) c) rest c₀ rfl hadr (Walks.tuple (prog := prog) (w := w) hh s.heap.objs.size l hne vs.toArray)
    ⟨⟨_, Heap.get?_push_size _ rfl, rfl, rfl⟩, hl.at fun o e => Heap.get?_push_of_some _ e⟩ (fun b hb => by rw [List.mem_singleton.mp hb]; exact ne_locals F.ns hol hdl) F N hk (by simpa using hp) (fun p hp hm => hoffL p hp (List.mem_singleton.mp hm)) ?_ ?_
  · intro c i v u h tk own hi hv hP hoff F₁ N₁
    obtain ⟨pre, a, post, e1, e2, e3⟩ := paired_at hr (by simpa using hv)
    obtain ⟨t1, t2⟩ := take_pre e1 e2
    rw [t1] at hP
    simp only [t2]
    exact turn c pre a post v u h tk own e1 e3 hP hoff F₁ N₁ _ (fun _ _ q => q)
  · intro c u h tk hP F₁ N₁
    have : as.take vs.toArray.size = as := by rw [List.size_toArray, ← hlen, List.take_length]
    rw [this] at hP
    exact done c u h tk hP F₁ N₁
end
end
section
open PySem PySem.W PyProof.Rows PySem.Spec PySem.Calls
set_option Elab.async false
set_option maxRecDepth 100000
theorem last_some {x : T} (h : x ≠ []) : x.getLast? = some (x.getLastD 0) := by cases x with | nil => exact absurd rfl h | cons a r => simp [List.getLast?_cons]
theorem strs_snoc {us : List Value} {R : List T} {y : T} {t : Tok} (h : StrsAre us (R.map S)) : StrsAre (us ++ [.str (S y) t]) ((R ++ [y]).map S) := by rw [List.map_append]; exact h.append' (.cons _ _ .nil)
theorem e10l : tl (Str.ofString "\n") = [10] := by rw [eS10]; exact S_cps _
theorem crlf_tl : tl (Str.ofString "\r\n") = [13, 10] := by decide +kernel
theorem crlf_in (c : Nat) : Txt.contains (Str.ofString "\r\n") (S [c]) = decide (c = 13 ∨ c = 10) := by
  have h := in_one (Str.ofString "\r\n") c
  rw [show (⟨#[c]⟩ : Str) = S [c] from rfl] at h
  rw [h, crlf_tl]
  simp
theorem crlf_yes {c : Nat} (h : (Builtin.Str.occurrences (Str.ofString "\r\n") (S [c]) 0 (Str.ofString "\r\n").length 1).isEmpty = false) : c = 13 ∨ c = 10 := by
  have h2 := crlf_in c; unfold Txt.contains at h2; rw [h] at h2; simpa using h2
end
section
open PySem PySem.W PyProof.Rows PySem.Spec PySem.Calls
set_option Elab.async false
set_option maxRecDepth 100000
noncomputable def Placed {α : Type} (R : α → Value → Prop) (as : List α) (P : Nat → Value → Prop) : Prop := ∀ j v, P j v → ∀ h : j < as.length, R as[j] v
theorem paired_places {α : Type} {R : α → Value → Prop} : ∀ {as : List α} {vs : List Value}, vs.length = as.length → (∀ j v, vs[j]? = some v → ∀ h : j < as.length, R as[j] v) → Paired R as vs
  | [], [], _, _ => .nil
  | [], _ :: _, h, _ => by simp at h
  | _ :: _, [], h, _ => by simp at h
  | a :: as, v :: vs, h, hp => .cons (hp 0 v rfl (by simp)) (paired_places (by simpa using h) fun j u e hj => hp (j + 1) u (by simpa using e) (by simpa using hj))
section
variable {prog : Program} {w : World} {A : Around} {E : Value → Shared → Prop} {s : Shared} {h₀ : Heap} {L : Addr} {env : Env}
noncomputable def SrcOk {α : Type} (prog : Program) (w : World) (A : Around) (R : α → Value → Prop) (as : List α) (xv : Value) (s₁ : Shared) : Prop :=
  ∀ (Q E : Value → Shared → Prop), (∀ (o : Obj) (ext : List Addr) (P : Nat → Value → Prop) (St : Nat → Heap → Prop), Walks prog w A s₁.heap.objs.size (s₁.heap.objs.size :: ext) [s₁.heap.objs.size] as.length P St → (∀ b ∈ ext, b < s₁.heap.objs.size) → St 0 (s₁.heap.push o) →
    (∀ j v, P j v → ∀ h : j < as.length, R as[j] v) → Q (.ref s₁.heap.objs.size) { s₁ with heap := s₁.heap.push o }) → wpAny (model prog w) A (pyIter xv) Q E s₁
theorem src_list {α : Type} {R : α → Value → Prop} {as : List α} {vs : List Value} {ax : Addr} (hh : A.handled = none) (hl : s.heap.IsList ax vs.toArray) (hi : Paired R as vs) : SrcOk prog w A R as (.ref ax) s := by
  intro Q E h
  have hlt : ax < s.heap.objs.size := by obtain ⟨_, e, _⟩ := hl; exact Heap.lt_size e
  have hn := paired_len hi
  have W := Walks.list (prog := prog) (w := w) hh s.heap.objs.size ax (Nat.ne_of_lt hlt) vs.toArray
  have e : vs.toArray.size = as.length := by simp [hn]
  rw [e] at W
  refine wpAny_pyIter_list hl (h _ [ax] _ _ W (fun b hb => by rw [List.mem_singleton.mp hb]; exact hlt) ⟨⟨_, Heap.get?_push_size _ rfl, rfl, rfl⟩, hl.push _⟩ ?_)
  intro j v hj hlt
  obtain ⟨pre, a, post, e1, e2, e3⟩ := paired_at hi (show vs[j]? = some v by simpa using hj)
  subst e1
  have : (pre ++ a :: post)[j] = a := by subst e2; simp
  rw [this]; exact e3
noncomputable def RS (c : Nat) (v : Value) : Prop := ∃ t : Tok, v = .str ⟨#[c]⟩ t
theorem RS_inj (a b : Nat) (v : Value) (h : RS a v) (h2 : RS b v) : a = b := by
  obtain ⟨t, rfl⟩ := h
  obtain ⟨u, e⟩ := h2
  injection e with e _
  have := congrArg (fun s : Str => s.cps.toList) e
  simpa using this
theorem src_str {x : Str} {t : Tok} (hh : A.handled = none) : SrcOk prog w A RS (tl x) (.str x t) s := by
  intro Q E h
  refine wpAny_pyIter_str fun o St W h0 => ?_
  have W := W A hh
  have e : x.cps.size = (tl x).length := by simp
  rw [e] at W
  refine h o [] (SignAt x) St W (fun b hb => by cases hb) h0 ?_
  · rintro j v ⟨c, u, e1, rfl⟩ hj
    have : (tl x)[j]? = some c := by rw [← e1]; simp
    rw [List.getElem?_eq_getElem hj] at this
    injection this with this
    exact ⟨u, by rw [this]⟩
noncomputable def RN (n : Nat) (v : Value) : Prop := ∃ t : Tok, v = .int (n : Int) t
theorem RN_inj (a b : Nat) (v : Value) (h : RN a v) (h2 : RN b v) : a = b := by
  obtain ⟨t, rfl⟩ := h
  obtain ⟨u, e⟩ := h2
  injection e with e _
  lia
theorem src_range {n : Nat} {r : Addr} {t₀ u₀ v₀ : Tok} (hh : A.handled = none) (hr : IsRange s.heap r 0 (n : Int) 1 t₀ u₀ v₀) (hn : n ≤ 16000000) : SrcOk prog w A RN (List.range n) (.ref r) s := by
  intro Q E h
  have hsize : Builtin.Range.rangeSize 0 (n : Int) 1 = (n : Int) := by
    unfold Builtin.Range.rangeSize
    simp only [show (1 : Int) > 0 by decide, if_true]
    split <;> lia
  have hsmall : Builtin.Range.small 0 (n : Int) 1 = true := small_one (by lia) (by lia) (by lia) (by lia)
  have W := Walks.range (prog := prog) (w := w) hh s.heap.objs.size 0 1 n
  have e : (List.range n).length = n := List.length_range
  have h0 : IsRangeIter (s.heap.push { cls := .type "range_iterator", data := .fields #[rawInt 0, rawInt (Builtin.Range.rangeSize 0 (n : Int) 1), rawInt 1] }) s.heap.objs.size (0 + ((0 : Nat) : Int) * 1) ((n : Int) - ((0 : Nat) : Int)) 1 := by
    rw [hsize]; simpa using Heap.get?_push_size _ rfl
  refine wpAny_pyIter_range hr hsmall (h _ [] _ _ (by rw [e]; exact W) (fun b hb => by cases hb) h0 ?_)
  intro j v hv hj
  obtain ⟨t, e2⟩ := hv
  rw [List.getElem_range]
  have e3 : (0 : Int) + (j : Int) * 1 = (j : Int) := by lia
  rw [e3] at e2
  exact ⟨t, e2⟩
theorem bounded {I : Addr} {fp wr : List Addr} {n : Nat} {P : Nat → Value → Prop} {St : Nat → Heap → Prop} (W : Walks prog w A I fp wr n P St) : Walks prog w A I fp wr n (fun i v => i < n ∧ P i v) St where
  sub := W.sub
  frame := W.frame
  item := fun i s Q E hi st hQ => W.item i s Q E hi st fun v h' tk hp => hQ v h' tk ⟨hi, hp⟩
  done := W.done
  self := W.self
structure CompInG {α : Type} (prog : Program) (w : World) (A : Around) (h₀ : Heap) (L : Addr) (env : Env) (scope : Scope) (cl : List (Str × Addr)) (x : Str) (ifs : List PySem.Expr) (elt : PySem.Expr) (R G : α → Value → Prop) (pz : α → Bool)
    (Fin : (Str → Option Value) → List (Addr × Obj) → List α → Shared → Prop) (xv : Value) (s₁ : Shared) : Prop where
  ex : ∃ (m : Str → Option Value) (news : List (Addr × Obj)) (as : List α), SrcOk prog w A R as xv s₁ ∧ as.length ≤ 16000000 ∧ Fr h₀ L s₁.heap m ∧ News h₀ L s₁.heap news ∧
    TestG (∀ C a v s₂ m₂ E', a ∈ as → R a v → s₂.heap.Ns C m₂ → m₂ x = some v → Fr h₀ L s₂.heap m → News h₀ L s₂.heap news → s₁.toks ≤ s₂.toks →
      wpAny (model prog w) A (forIn ifs true fun c r => if r = true then do let ok ← isTrue c (compEnvC scope cl C env) (eval c (compEnvC scope cl C env)); pure (ForInStep.yield ok) else pure (ForInStep.yield r))
        (fun ok s₃ => ok = pz a ∧ Keeps s₂ s₃) E' s₂) ∧
    EltG (∀ C a v s₂ m₂ E', a ∈ as → R a v → pz a = true → s₂.heap.Ns C m₂ → m₂ x = some v → Fr h₀ L s₂.heap m → News h₀ L s₂.heap news → s₁.toks ≤ s₂.toks →
      wpAny (model prog w) A (eval elt (compEnvC scope cl C env)) (fun y s₃ => G a y ∧ Keeps s₂ s₃) E' s₂) ∧
    FinG (Fin m news as s₁)
theorem comp_evalG {α : Type} {elt iter : PySem.Expr} {x : Str} {px : Pos} {ifs : List PySem.Expr} {scope : Scope} {cl : List (Str × Addr)} {pos : Pos} {Q : Value → Shared → Prop} {R G : α → Value → Prop} {pz : α → Bool}
    {m₀ : Str → Option Value} (_F₀ : Fr h₀ L s.heap m₀) (hu : ∀ a b v, R a v → R b v → a = b)
    (hclos : closureFor scope env = pure cl) (hcell : ∀ y ∈ scope.names, y.2 ≠ .cell) (hkind : scope.kind = .function)
    (hnames : ∀ y ∈ scope.names, y.2 = .local → scope.names.lookup y.1 = some .local) (hx : scope.names.lookup x = some .local)
    (hs : ∀ x, foldedSetIterable iter env x = pure x)
    (h : wpAny (model prog w) A (eval iter env) (CompInG prog w A h₀ L env scope cl x ifs elt R G pz (fun m news as s₁ =>
      ∀ D (ys : List Value) n h' tk, Paired G (as.filter pz) ys → Fr h₀ L h' m → News h₀ L h' ((D, listOf ys.toArray n) :: news) → (∀ p ∈ news, @Ne Nat p.1 D) → Q (.ref D) { s₁ with heap := h', toks := tk })) E s) :
    wpAny (model prog w) A (eval (.ListComp elt [⟨.Name x px, iter, ifs, 0⟩] scope pos) env) Q E s := by
  refine wpAny_ListComp_free (liftP R pz) (fun v y => ∃ a, R a v ∧ G a y) hclos hcell hkind hnames hx (wpAny_mono h (fun xv s₁ h₁ => ?_) fun _ _ e => e) hs
  obtain ⟨m, news, as, hsrc, hsz, F, N, htests, helt, hQ⟩ := h₁.ex
  refine hsrc _ _ fun o ext P St W hext h0 hP => ?_
  have up : ∀ (s₃ : Shared), (∀ b o', b ∉ [s₁.heap.objs.size] → (s₁.heap.push o).get? b = some o' → s₃.heap.get? b = some o') → ∀ b o', s₁.heap.get? b = some o' → s₃.heap.get? b = some o' :=
    fun s₃ hk b o' e => hk b o' (fun hm => by rcases List.mem_cons.mp hm with rfl | hm; exact Nat.lt_irrefl _ (Heap.lt_size e); cases hm) (Heap.get?_push_of_some _ e)
  refine ⟨s₁.heap.objs.size, _, _, _, _, St, rfl, bounded W, Nat.le_trans hsz (by decide), h0, ?_, ⟨?_, ?_⟩, ?_⟩
  · intro b hb
    show b < (s₁.heap.push _).objs.size
    rw [Heap.size_push]
    rcases List.mem_cons.mp hb with rfl | hb
    · exact Nat.lt_succ_self _
    · exact Nat.lt_succ_of_lt (hext b hb)
  · intro C i v s₃ m₃ E' hC hPv hn hm hk htk
    have ha := hP i v hPv.2 hPv.1
    rw [liftP_is hu ha]
    exact htests C _ v s₃ m₃ E' (List.getElem_mem _) ha hn hm (F.keeps (up s₃ hk)) (N.grown (up s₃ hk)) htk
  · intro C i v s₃ m₃ E' hC hPv hp hn hm hk htk
    have ha := hP i v hPv.2 hPv.1
    rw [liftP_is hu ha] at hp
    exact wpAny_mono (helt C _ v s₃ m₃ E' (List.getElem_mem _) ha hp hn hm (F.keeps (up s₃ hk)) (N.grown (up s₃ hk)) htk) (fun y s₄ h₄ => ⟨⟨_, ha, h₄.1⟩, h₄.2⟩) fun _ _ e => e
  · intro D h' tk ys vs' hnew hlD hplD hlen hPv hF hk
    have hi : Paired R as vs' := paired_places hlen fun j v e hj => hP j v (hPv j v e).2 hj
    have keep : ∀ b o', s₁.heap.get? b = some o' → h'.get? b = some o' := up { s₁ with heap := h' } hk
    obtain ⟨n, hD⟩ := hplD
    have hnew' : s₁.heap.get? D = none := by
      cases e : s₁.heap.get? D with
      | none => rfl
      | some o' => rw [Heap.get?_push_of_some _ e] at hnew; cases hnew
    refine hQ D ys.toList n h' tk (paired_comp (fun a v h => liftP_is hu h) hu hi hF) (F.keeps keep) (news_add F (N.grown keep) hnew' (by simpa using hD)) fun p hp e => ?_
    have e' : p.1 = D := e
    rw [← e', (N p hp).1] at hnew'; cases hnew'
theorem comp_assignG {α : Type} {elt iter : PySem.Expr} {x y : Str} {px py : Pos} {ifs : List PySem.Expr} {scope : Scope} {cl : List (Str × Addr)} {pos spos : Pos} {Q : Flow → Shared → Prop} {R G : α → Value → Prop} {pz : α → Bool}
    {m₀ : Str → Option Value} (_F₀ : Fr h₀ L s.heap m₀) (hu : ∀ a b v, R a v → R b v → a = b)
    (hsw : swapsWith (.ListComp elt [⟨.Name x px, iter, ifs, 0⟩] scope pos) (some (.Name y py)) spos.line env = pure true) (hL : env.locals = L)
    (hclos : closureFor scope env = pure cl) (hcell : ∀ y ∈ scope.names, y.2 ≠ .cell) (hkind : scope.kind = .function)
    (hnames : ∀ y ∈ scope.names, y.2 = .local → scope.names.lookup y.1 = some .local) (hx : scope.names.lookup x = some .local)
    (hy : env.kindOf y = some .local) (hp : (env.scope.kind == .class || (env.scope.kind == .module && env.locals != env.globals)) = false)
    (hs : ∀ x, foldedSetIterable iter env x = pure x)
    (h : wpAny (model prog w) A (eval iter env) (CompInG prog w A h₀ L env scope cl x ifs elt R G pz (fun m news as s₁ =>
      ∀ D (ys : List Value) n h' tk, Paired G (as.filter pz) ys → Fr h₀ L h' (fun z => if z = y then some (.ref D) else m z) → News h₀ L h' ((D, listOf ys.toArray n) :: news) → (∀ p ∈ news, @Ne Nat p.1 D) → Q .next { s₁ with heap := h', toks := tk })) E s) :
    wpAny (model prog w) A (exec (.Assign [.Name y py] (.ListComp elt [⟨.Name x px, iter, ifs, 0⟩] scope pos) spos) env) Q E s := by
  subst hL
  refine wpAny_Assign_ListComp_free (liftP R pz) (fun v y => ∃ a, R a v ∧ G a y) hsw hclos hcell hkind hnames hx hy hp (wpAny_mono h (fun xv s₁ h₁ => ?_) fun _ _ e => e) hs
  obtain ⟨m, news, as, hsrc, hsz, F, N, htests, helt, hQ⟩ := h₁.ex
  refine hsrc _ _ fun o ext P St W hext h0 hP => ?_
  have up : ∀ (s₃ : Shared), (∀ b o', b ∉ [s₁.heap.objs.size] → (s₁.heap.push o).get? b = some o' → s₃.heap.get? b = some o') → ∀ b o', s₁.heap.get? b = some o' → s₃.heap.get? b = some o' :=
    fun s₃ hk b o' e => hk b o' (fun hm => by rcases List.mem_cons.mp hm with rfl | hm; exact Nat.lt_irrefl _ (Heap.lt_size e); cases hm) (Heap.get?_push_of_some _ e)
  refine ⟨s₁.heap.objs.size, _, _, _, _, St, m, rfl, bounded W, Nat.le_trans hsz (by decide), h0, ?_, ?_, F.ns.push _, ⟨?_, ?_⟩, ?_⟩
  · intro b hb
    show b < (s₁.heap.push _).objs.size
    rw [Heap.size_push]
    rcases List.mem_cons.mp hb with rfl | hb
    · exact Nat.lt_succ_self _
    · exact Nat.lt_succ_of_lt (hext b hb)
  · intro hm
    rcases List.mem_cons.mp hm with e | hm
    · exact Nat.lt_irrefl _ (e ▸ F.ns.lt)
    · cases hm
  · intro C i v s₃ m₃ E' hC hPv hn hm hk htk
    have ha := hP i v hPv.2 hPv.1
    rw [liftP_is hu ha]
    exact htests C _ v s₃ m₃ E' (List.getElem_mem _) ha hn hm (F.keeps (up s₃ hk)) (N.grown (up s₃ hk)) htk
  · intro C i v s₃ m₃ E' hC hPv hp hn hm hk htk
    have ha := hP i v hPv.2 hPv.1
    rw [liftP_is hu ha] at hp
    exact wpAny_mono (helt C _ v s₃ m₃ E' (List.getElem_mem _) ha hp hn hm (F.keeps (up s₃ hk)) (N.grown (up s₃ hk)) htk) (fun y s₄ h₄ => ⟨⟨_, ha, h₄.1⟩, h₄.2⟩) fun _ _ e => e
  · intro D h' tk ys vs' hnew hlD hplD hlen hPv hF hn' hk
    have hi : Paired R as vs' := paired_places hlen fun j v e hj => hP j v (hPv j v e).2 hj
    obtain ⟨n, hD⟩ := hplD
    have hnew' : s₁.heap.get? D = none := by
      cases e : s₁.heap.get? D with
      | none => rfl
      | some o' => rw [Heap.get?_push_of_some _ e] at hnew; cases hnew
    have keep : ∀ b o', b ≠ env.locals → s₁.heap.get? b = some o' → h'.get? b = some o' := fun b o' hb e =>
      hk b o' hb (fun hm => by rcases List.mem_cons.mp hm with rfl | hm; exact Nat.lt_irrefl _ (Heap.lt_size e); cases hm) (Heap.get?_push_of_some _ e)
    have keep0 : ∀ b o', h₀.get? b = some o' → h'.get? b = some o' := fun b o' e => keep b o' (Nat.ne_of_lt (Nat.lt_of_lt_of_le (Heap.lt_size e) F.above)) (F.keep b o' e)
    have hDL : D ≠ env.locals := by
      intro e
      obtain ⟨oL, _, _, hoL, _⟩ := F.ns
      rw [e, hoL] at hnew'; cases hnew'
    refine hQ D ys.toList n h' tk (paired_comp (fun a v h => liftP_is hu h) hu hi hF) ⟨hn', keep0, F.above⟩ ?_ fun p hp e => ?_
    · intro q hq
      rcases List.mem_cons.mp hq with rfl | hq
      · refine ⟨by simpa using hD, hDL, ?_⟩
        cases e : h₀.get? D with
        | none => rfl
        | some o' => have := F.keep _ _ e; rw [hnew'] at this; cases this
      · exact ⟨keep q.1 q.2 (N q hq).2.1 (N q hq).1, (N q hq).2⟩
    · have e' : p.1 = D := e
      rw [← e', (N p hp).1] at hnew'; cases hnew'
end
end
section
open PySem PySem.W PyProof.Rows PySem.Spec PySem.Calls
set_option Elab.async false
set_option maxRecDepth 100000
set_option linter.unusedVariables false
theorem neLt {news : List (Addr × Obj)} {D a : Addr} {o : Obj} (h : ∀ p ∈ news, p.1 < D) (hm : (a, o) ∈ news) : @Ne Nat a D := Nat.ne_of_lt (h _ hm)
theorem neGt {news : List (Addr × Obj)} {D a : Addr} {o : Obj} (h : ∀ p ∈ news, p.1 < D) (hm : (a, o) ∈ news) : @Ne Nat D a := Nat.ne_of_gt (h _ hm)
theorem neOf {news : List (Addr × Obj)} {D a : Addr} {o : Obj} (h : ∀ p ∈ news, @Ne Nat p.1 D) (hm : (a, o) ∈ news) : @Ne Nat a D := h _ hm
theorem neOf' {news : List (Addr × Obj)} {D a : Addr} {o : Obj} (h : ∀ p ∈ news, @Ne Nat p.1 D) (hm : (a, o) ∈ news) : @Ne Nat D a := (h _ hm).symm
section
variable {prog : Program} {w : World} {A : Around} {E : Value → Shared → Prop} {h₀ : Heap} {L : Addr} {m : Str → Option Value} {news news' : List (Addr × Obj)} {Q : Value → Shared → Prop} {hp : Heap} {gs : Array GenState} {dr : Drawn} {tk : Nat} {os : OsState} {a b y z : Str} {x x2 : T} {c d : Nat} {t u v : Tok} {l l2 D : Addr} {vs ws : List Value} {xs ys : List T} {n : Nat} {k : Int}
theorem x_split (h : ∀ D vs h' k, tk ≤ k → StrsAre vs ((splitL c x).map S) → Fr h₀ L h' m → News h₀ L h' ((D, listOf (List.toArray vs) 0) :: news) → (∀ p ∈ news, p.1 < D) → Q (.ref D) ⟨h', gs, dr, k, os⟩)
    (F : Fr h₀ L hp m := by k_dflt (k_asm)) (N : News h₀ L hp news := by k_dflt (k_asm)) (ea : a = S x := by k_dflt (k_extra "es")) (ey : y = S [c] := by k_dflt (k_extra "es")) (hsz : x.length + 2 ≤ 16000000 := by k_dflt (k_extra "oml")) :
    wpAny (model prog w) A (call (.builtin "str.split") [.str a t, .str y u]) Q E ⟨hp, gs, dr, tk, os⟩ := by subst ea; exact split_rule F N ey h hsz
theorem x_lines (h : ∀ D vs h' k, tk ≤ k → StrsAre vs ((linesL x).map S) → Fr h₀ L h' m → News h₀ L h' ((D, listOf (List.toArray vs) 0) :: news) → (∀ p ∈ news, p.1 < D) → Q (.ref D) ⟨h', gs, dr, k, os⟩)
    (F : Fr h₀ L hp m := by k_dflt (k_asm)) (N : News h₀ L hp news := by k_dflt (k_asm)) (ea : a = S x := by k_dflt (k_extra "es")) (hb : ∀ c ∈ x, Unicode.isLineBreak c = true → c = 10 := by k_dflt (assumption)) (hsz : x.length + 2 ≤ 16000000 := by k_dflt (k_extra "oml")) :
    wpAny (model prog w) A (call (.builtin "str.splitlines") [.str a t]) Q E ⟨hp, gs, dr, tk, os⟩ := by subst ea; exact lines_rule F N hb h hsz
theorem x_join (h : ∀ t k, tk ≤ k → Q (.str (S (joinL x xs)) t) ⟨hp, gs, dr, k, os⟩)
    (hl : hp.IsList D vs.toArray := by k_dflt (k_extra "ls")) (ea : a = S x := by k_dflt (k_extra "es")) (hs : StrsAre vs (xs.map S) := by k_dflt (k_extra "ss")) (hsz : (xs.map List.length).sum + xs.length * x.length ≤ 16000000 := by k_dflt (k_extra "oml")) :
    wpAny (model prog w) A (call (.builtin "str.join") [.str a t, .ref D]) Q E ⟨hp, gs, dr, tk, os⟩ := by subst ea; exact join_rule hl hs hsz h
theorem x_add (h : ∀ t' k, tk ≤ k → Q (.str (S (x ++ x2)) t') ⟨hp, gs, dr, k, os⟩) (ea : a = S x := by k_dflt (k_extra "es")) (eb : b = S x2 := by k_dflt (k_extra "es")) (hsz : x.length + x2.length ≤ 16000000 := by k_dflt (k_extra "oml")) :
    wpAny (model prog w) A (binaryOp .Add (.str a t) (.str b u)) Q E ⟨hp, gs, dr, tk, os⟩ := addS_rule ea eb hsz h
theorem x_iadd (h : ∀ t' k, tk ≤ k → Q (.str (S (x ++ x2)) t') ⟨hp, gs, dr, k, os⟩) (ea : a = S x := by k_dflt (k_extra "es")) (eb : b = S x2 := by k_dflt (k_extra "es")) (hsz : x.length + x2.length ≤ 16000000 := by k_dflt (k_extra "oml")) :
    wpAny (model prog w) A (inplaceOp .Add (.str a t) (.str b u)) Q E ⟨hp, gs, dr, tk, os⟩ := iaddS_rule ea eb hsz h
theorem x_len (h : ∀ t' k, tk ≤ k → Q (.int (x.length : Nat) t') ⟨hp, gs, dr, k, os⟩) (ea : a = S x := by k_dflt (k_extra "es")) (hsz : x.length ≤ 16000000 := by k_dflt (k_extra "oml")) :
    wpAny (model prog w) A (call (.builtin "len") [.str a t]) Q E ⟨hp, gs, dr, tk, os⟩ := by subst ea; exact len_rule hsz h
theorem x_llen (h : ∀ t' k, tk ≤ k → Q (.int (xs.length : Nat) t') ⟨hp, gs, dr, k, os⟩) (hl : hp.IsList l vs.toArray := by k_dflt (k_extra "ls")) (hs : StrsAre vs (xs.map S) := by k_dflt (k_extra "ss")) (hsz : xs.length ≤ 16000000 := by k_dflt (k_extra "oml")) :
    wpAny (model prog w) A (call (.builtin "len") [.ref l]) Q E ⟨hp, gs, dr, tk, os⟩ := llen_rule hl hs hsz h
theorem x_rstripc (h : ∀ t' k, tk ≤ k → Q (.str (S (rstripP y.cps.contains x)) t') ⟨hp, gs, dr, k, os⟩) (ea : a = S x := by k_dflt (k_extra "es")) (hsz : x.length ≤ 16000000 := by k_dflt (k_extra "oml")) :
    wpAny (model prog w) A (call (.builtin "str.rstrip") [.str a t, .str y u]) Q E ⟨hp, gs, dr, tk, os⟩ := by subst ea; exact rstripc_rule hsz h
theorem x_rstrip (h : ∀ t' k, tk ≤ k → Q (.str (S (rstripP Unicode.isSpace x)) t') ⟨hp, gs, dr, k, os⟩) (ea : a = S x := by k_dflt (k_extra "es")) (hsz : x.length ≤ 16000000 := by k_dflt (k_extra "oml")) :
    wpAny (model prog w) A (call (.builtin "str.rstrip") [.str a t]) Q E ⟨hp, gs, dr, tk, os⟩ := by subst ea; exact rstrip_rule hsz h
theorem x_lstripc (h : ∀ t' k, tk ≤ k → Q (.str (S (x.dropWhile y.cps.contains)) t') ⟨hp, gs, dr, k, os⟩) (ea : a = S x := by k_dflt (k_extra "es")) (hsz : x.length ≤ 16000000 := by k_dflt (k_extra "oml")) :
    wpAny (model prog w) A (call (.builtin "str.lstrip") [.str a t, .str y u]) Q E ⟨hp, gs, dr, tk, os⟩ := by subst ea; exact lstripc_rule hsz h
theorem x_chr (h : Q (.str (S [k.toNat]) tk) ⟨hp, gs, dr, tk + 1, os⟩) (h0 : 0 ≤ k := by k_dflt (k_extra "omd")) (h1 : k ≤ 1114111 := by k_dflt (k_extra "omd")) :
    wpAny (model prog w) A (call (.builtin "chr") [.int k t]) Q E ⟨hp, gs, dr, tk, os⟩ := chr_rule h0 h1 h
theorem x_replace (h : ∀ t' k, tk ≤ k → Q (.str (S (x.map fun k => if k = c then d else k)) t') ⟨hp, gs, dr, k, os⟩)
    (ea : a = S x := by k_dflt (k_extra "es")) (hy : y = S [c] := by k_dflt (k_extra "es")) (hz : z = S [d] := by k_dflt (k_extra "es")) (hcd : c ≠ d := by k_dflt (decide)) (hu : @Ne Nat u 0 := by k_dflt (k_extra "om")) (hv : @Ne Nat v 0 := by k_dflt (k_extra "om")) (huv : @Ne Nat u v := by k_dflt (k_extra "om")) (hsz : x.length ≤ 8000000 := by k_dflt (k_extra "oml")) :
    wpAny (model prog w) A (call (.builtin "str.replace") [.str a t, .str y u, .str z v]) Q E ⟨hp, gs, dr, tk, os⟩ := by subst ea; exact replace_rule hy hz hcd hu hv huv hsz h
theorem x_ladd (h : ∀ D h', StrsAre (vs ++ ws) ((xs ++ ys).map S) → Fr h₀ L h' m → News h₀ L h' ((D, listOf (List.toArray (vs ++ ws)) 0) :: news) → (∀ p ∈ news, p.1 < D) → Q (.ref D) ⟨h', gs, dr, tk, os⟩)
    (F : Fr h₀ L hp m := by k_dflt (k_asm)) (N : News h₀ L hp news := by k_dflt (k_asm)) (hl : hp.IsList l vs.toArray := by k_dflt (k_extra "ls")) (hb : hp.IsList l2 ws.toArray := by k_dflt (k_extra "ls")) (h1 : StrsAre vs (xs.map S) := by k_dflt (k_extra "ss")) (h2 : StrsAre ws (ys.map S) := by k_dflt (k_extra "ss")) (hsz : xs.length + ys.length ≤ 16000000 := by k_dflt (k_extra "oml")) :
    wpAny (model prog w) A (binaryOp .Add (.ref l) (.ref l2)) Q E ⟨hp, gs, dr, tk, os⟩ := ladd_rule F N hl hb h1 h2 hsz h
theorem x_smul (h : ∀ t' k', Q (.str (S (List.replicate k.toNat c)) t') ⟨hp, gs, dr, k', os⟩) (hx : a = S [c] := by k_dflt (k_extra "es")) (h0 : 0 ≤ k := by k_dflt (k_extra "om")) (h1 : k ≤ 1 := by k_dflt (k_extra "om")) :
    wpAny (model prog w) A (binaryOp .Mult (.str a t) (.int k u)) Q E ⟨hp, gs, dr, tk, os⟩ := smul_rule hx h0 h1 h
theorem x_lmul (h : ∀ D h' ws, StrsAre ws ((List.replicate k.toNat x).map S) → Fr h₀ L h' m → News h₀ L h' ((D, listOf (List.toArray ws) 0) :: news) → (∀ p ∈ news, p.1 < D) → Q (.ref D) ⟨h', gs, dr, tk, os⟩)
    (F : Fr h₀ L hp m := by k_dflt (k_asm)) (N : News h₀ L hp news := by k_dflt (k_asm)) (hl : hp.IsList l #[.str a t] := by k_dflt (k_extra "ls")) (ea : a = S x := by k_dflt (k_extra "es")) (h0 : 0 ≤ k := by k_dflt (k_extra "om")) (h1 : k ≤ 256 := by k_dflt (k_extra "om")) :
    wpAny (model prog w) A (binaryOp .Mult (.ref l) (.int k u)) Q E ⟨hp, gs, dr, tk, os⟩ := by subst ea; exact lmul_rule F N hl h0 h1 h
theorem x_pop (h : ∀ h' t, Fr h₀ L h' m → News h₀ L h' news' → Q (.str (S (xs.getLastD [])) t) ⟨h', gs, dr, tk, os⟩)
    (F : Fr h₀ L hp m := by k_dflt (k_asm)) (N : News h₀ L hp news := by k_dflt (k_asm)) (U : Upd D (listOf vs.toArray n) (listOf vs.dropLast.toArray (n + 1)) news news' := by k_dflt (k_upd)) (hs : StrsAre vs (xs.map S) := by k_dflt (k_extra "ss")) (hne : xs ≠ [] := by k_dflt (assumption)) (hsz : xs.length ≤ 16000000 := by k_dflt (k_extra "oml")) :
    wpAny (model prog w) A (call (.builtin "list.pop") [.ref D]) Q E ⟨hp, gs, dr, tk, os⟩ := popS_rule F N hs hne U hsz h
theorem x_setlast {v : Value} {Q : Unit → Shared → Prop} (h : ∀ h', Fr h₀ L h' m → News h₀ L h' news' → Q () ⟨h', gs, dr, tk, os⟩)
    (F : Fr h₀ L hp m := by k_dflt (k_asm)) (N : News h₀ L hp news := by k_dflt (k_asm)) (U : Upd D (listOf vs.toArray n) (listOf (vs.dropLast ++ [v]).toArray n) news news' := by k_dflt (k_upd)) (hs : StrsAre vs (xs.map S) := by k_dflt (k_extra "ss")) (hne : xs ≠ [] := by k_dflt (k_extra "nn")) :
    wpAny (model prog w) A (setItem (.ref D) (.int (-1) u) v) Q E ⟨hp, gs, dr, tk, os⟩ := setlastS_rule F N hs hne U h
theorem x_truthyL {Q : Bool → Shared → Prop} (h : Q (decide (xs ≠ [])) ⟨hp, gs, dr, tk + 1 + 1, os⟩) (hl : hp.IsList l vs.toArray := by k_dflt (k_extra "ls")) (hs : StrsAre vs (xs.map S) := by k_dflt (k_extra "ss")) (hsz : xs.length ≤ 16000000 := by k_dflt (k_extra "oml")) :
    wpAny (model prog w) A (truthy (.ref l)) Q E ⟨hp, gs, dr, tk, os⟩ := truthyL_rule hl hs hsz h
theorem x_truthyS {Q : Bool → Shared → Prop} (h : Q (decide (x ≠ [])) ⟨hp, gs, dr, tk + 1 + 1, os⟩) (ea : a = S x := by k_dflt (k_extra "es")) (hsz : x.length ≤ 16000000 := by k_dflt (k_extra "oml")) :
    wpAny (model prog w) A (truthy (.str a t)) Q E ⟨hp, gs, dr, tk, os⟩ := by subst ea; exact truthyS_rule hsz h
theorem x_append {v : Value} (h : ∀ h', Fr h₀ L h' m → News h₀ L h' news' → Q .none ⟨h', gs, dr, tk, os⟩)
    (F : Fr h₀ L hp m := by k_dflt (k_asm)) (N : News h₀ L hp news := by k_dflt (k_asm)) (U : Upd D (listOf vs.toArray n) (listOf (vs ++ [v]).toArray (n + 1)) news news' := by k_dflt (k_upd)) (hsz : vs.length ≤ 16000000 := by k_dflt (k_extra "oml")) :
    wpAny (model prog w) A (call (.builtin "list.append") [.ref D, v]) Q E ⟨hp, gs, dr, tk, os⟩ :=
  append_K (s := ⟨hp, gs, dr, tk, os⟩) F N (by rw [List.push_toArray]; exact U) h (by rw [List.size_toArray]; exact Nat.le_trans hsz (by decide))
theorem x_min {i j : Int} (h : ∀ h' tk9 t', Fr h₀ L h' m → News h₀ L h' news → Q (.int (min i j) t') ⟨h', gs, dr, tk9, os⟩) (F : Fr h₀ L hp m := by k_dflt (k_asm)) (N : News h₀ L hp news := by k_dflt (k_asm)) (hh : A.handled = none := by k_dflt (assumption)) :
    wpAny (model prog w) A (call (.builtin "min") [.int i t, .int j u]) Q E ⟨hp, gs, dr, tk, os⟩ := min_rule hh F N h
theorem x_for {env : Env} {Q : Flow → Shared → Prop} {s : Shared} {x : Str} {px pos : Pos} {iter : PySem.Expr} {body : List Stmt}
    (h : wpAny (model prog w) A (eval iter env) (fun xv s₁ => wpAny (model prog w) A (pyIter xv) (fun it s₂ => LoopAtV prog w A h₀ env x body Q E it s₂) E s₁) E s)
    (F : Fr h₀ env.locals s.heap m := by k_dflt (k_asm)) (hx : env.kindOf x = some .local := by k_dflt (exact rfl))
    (hp : (env.scope.kind == .class || (env.scope.kind == .module && env.locals != env.globals)) = false := by k_dflt (exact rfl))
    (hs : ∀ x, foldedSetIterable iter env x = pure x := by k_dflt (intro _; rfl)) (hE : PassesOwn (model prog w) A env E := by k_dflt (passes_own)) :
    wpAny (model prog w) A (exec (.For (.Name x px) iter body [] pos) env) Q E s := forV_rule F hx hp h hs hE
theorem x_unpack {s : Shared} {env : Env} {elts : List PySem.Expr} {ec : Nat} {pos : Pos} {items : Array Value} {Q : Unit → Shared → Prop} (h : ∀ h', Fr h₀ L h' m → News h₀ L h' news → wpAny (model prog w) A (assignInOrder ((assignEach elts env).map (·.2)) items.toList) Q E { s with heap := h' })
    (F : Fr h₀ L s.heap m := by k_dflt (k_asm)) (N : News h₀ L s.heap news := by k_dflt (k_asm)) (ht : IsTup s.heap l items := by k_dflt (exact News.isTup (by k_asm) (by k_mem))) (hh : A.handled = none := by k_dflt (assumption))
    (hn : (assignEach elts env).length = items.size := by k_dflt (exact rfl)) (hstar : (assignEach elts env).findIdx? (·.1) = none := by k_dflt (exact rfl)) :
    wpAny (model prog w) A (assign (.Tuple elts ec pos) env (.ref l)) Q E s := unpackN_ F N ht hh hn hstar h
section
variable {value slice : PySem.Expr} {lo up : Option PySem.Expr} {st : PySem.Expr} {ps : Pos} {i j : Int} {ui uj : Tok}
theorem p_to (k : a = S x ∧ Fr h₀ L hp m ∧ News h₀ L hp news ∧ 0 ≤ j ∧ x.length ≤ 16000000) (h : ∀ h' t' k, Fr h₀ L h' m → News h₀ L h' news → Q (.str (S (x.take j.toNat)) t') ⟨h', gs, dr, k, os⟩) :
    wpAny (model prog w) A (subscriptTail value (.Slice lo up none ps) (.str a t) (.ref hp.objs.size)) Q E ⟨hp.push { cls := .type "slice", data := .fields #[.none, .int j uj, .none] }, gs, dr, tk, os⟩ := by
  obtain ⟨rfl, F, N, hj, hsz⟩ := k; exact sslice_to F N hj hsz h
theorem p_butlast (k : a = S x ∧ Fr h₀ L hp m ∧ News h₀ L hp news ∧ x.length ≤ 16000000) (h : ∀ h' t' k, Fr h₀ L h' m → News h₀ L h' news → Q (.str (S x.dropLast) t') ⟨h', gs, dr, k, os⟩) :
    wpAny (model prog w) A (subscriptTail value (.Slice lo up none ps) (.str a t) (.ref hp.objs.size)) Q E ⟨hp.push { cls := .type "slice", data := .fields #[.none, .int (-1) uj, .none] }, gs, dr, tk, os⟩ := by
  obtain ⟨rfl, F, N, hsz⟩ := k; exact sslice_butlast F N hsz h
theorem p_from (k : a = S x ∧ Fr h₀ L hp m ∧ News h₀ L hp news ∧ 0 ≤ i ∧ x.length ≤ 16000000) (h : ∀ h' t' k, Fr h₀ L h' m → News h₀ L h' news → Q (.str (S (x.drop i.toNat)) t') ⟨h', gs, dr, k, os⟩) :
    wpAny (model prog w) A (subscriptTail value (.Slice lo up none ps) (.str a t) (.ref hp.objs.size)) Q E ⟨hp.push { cls := .type "slice", data := .fields #[.int i ui, .none, .none] }, gs, dr, tk, os⟩ := by
  obtain ⟨rfl, F, N, hi, hsz⟩ := k; exact sslice_from F N hi hsz h
theorem p_last (k : a = S x ∧ Fr h₀ L hp m ∧ News h₀ L hp news ∧ x.length ≤ 16000000) (h : ∀ h' t' k, Fr h₀ L h' m → News h₀ L h' news → Q (.str (S (x.drop (x.length - 1))) t') ⟨h', gs, dr, k, os⟩) :
    wpAny (model prog w) A (subscriptTail value (.Slice lo up none ps) (.str a t) (.ref hp.objs.size)) Q E ⟨hp.push { cls := .type "slice", data := .fields #[.int (-1) ui, .none, .none] }, gs, dr, tk, os⟩ := by
  obtain ⟨rfl, F, N, hsz⟩ := k
  have e : Txt.slice (S x) (some (-1)) none = S (x.drop (x.length - 1)) := by
    rw [slice_gen, show tl (S x) = x from S_cps x]
    show S ((x.take (S x).length).drop ((max 0 (min (-1 + ((S x).length : Int)) ((S x).length : Int))).toNat)) = _
    rw [S_len, List.take_length]
    congr 2; lia
  exact turn (slice_strN_sn (s := ⟨hp, gs, dr, tk, os⟩) F N (fun h' t' k F' N' => by rw [e]; exact h h' t' k F' N') rfl (fun _ => rfl) (by rw [S_len]; exact Nat.le_trans hsz (by decide)))
theorem p_mid (k : a = S x ∧ Fr h₀ L hp m ∧ News h₀ L hp news ∧ 0 ≤ i ∧ 0 ≤ j ∧ x.length ≤ 16000000) (h : ∀ h' t' k, Fr h₀ L h' m → News h₀ L h' news → Q (.str (S ((x.take j.toNat).drop i.toNat)) t') ⟨h', gs, dr, k, os⟩) :
    wpAny (model prog w) A (subscriptTail value (.Slice lo up none ps) (.str a t) (.ref hp.objs.size)) Q E ⟨hp.push { cls := .type "slice", data := .fields #[.int i ui, .int j uj, .none] }, gs, dr, tk, os⟩ := by
  obtain ⟨rfl, F, N, hi, hj, hsz⟩ := k; exact sslice_mid F N hi hj hsz h
theorem p_midback (k : a = S x ∧ Fr h₀ L hp m ∧ News h₀ L hp news ∧ 0 ≤ i ∧ x.length ≤ 16000000) (h : ∀ h' t' k, Fr h₀ L h' m → News h₀ L h' news → Q (.str (S (x.dropLast.drop i.toNat)) t') ⟨h', gs, dr, k, os⟩) :
    wpAny (model prog w) A (subscriptTail value (.Slice lo up none ps) (.str a t) (.ref hp.objs.size)) Q E ⟨hp.push { cls := .type "slice", data := .fields #[.int i ui, .int (-1) uj, .none] }, gs, dr, tk, os⟩ := by
  obtain ⟨rfl, F, N, hi, hsz⟩ := k; exact sslice_midback F N hi hsz h
theorem q_back (k : Fr h₀ L hp m ∧ News h₀ L hp news ∧ hp.IsList l vs.toArray ∧ StrsAre vs (xs.map S) ∧ xs.length ≤ 16000000)
    (h : ∀ D ws h', StrsAre ws (xs.dropLast.map S) → Fr h₀ L h' m → News h₀ L h' ((D, listOf (List.toArray ws) 0) :: news) → (∀ p ∈ news, p.1 < D) → Q (.ref D) ⟨h', gs, dr, tk, os⟩) :
    wpAny (model prog w) A (subscriptTail value (.Slice lo up none ps) (.ref l) (.ref hp.objs.size)) Q E ⟨hp.push { cls := .type "slice", data := .fields #[.none, .int (-1) uj, .none] }, gs, dr, tk, os⟩ :=
  slice_back_rule k.1 k.2.1 k.2.2.1 k.2.2.2.1 (.int _ _) h k.2.2.2.2
theorem q_midback {b : Nat} (k : Fr h₀ L hp m ∧ News h₀ L hp news ∧ hp.IsList l vs.toArray ∧ StrsAre vs (xs.map S) ∧ b ≤ xs.length ∧ xs.length ≤ 16000000)
    (h : ∀ D ws h', StrsAre ws ((xs.dropLast.drop b).map S) → Fr h₀ L h' m → News h₀ L h' ((D, listOf (List.toArray ws) 0) :: news) → (∀ p ∈ news, p.1 < D) → Q (.ref D) ⟨h', gs, dr, tk, os⟩) :
    wpAny (model prog w) A (subscriptTail value (.Slice lo up none ps) (.ref l) (.ref hp.objs.size)) Q E ⟨hp.push { cls := .type "slice", data := .fields #[.int (b : Int) ui, .int (-1) uj, .none] }, gs, dr, tk, os⟩ :=
  slice_midback_rule k.1 k.2.1 k.2.2.1 k.2.2.2.1 (.int _ _) (.int _ _) k.2.2.2.2.1 h k.2.2.2.2.2
theorem q_rev (k : Fr h₀ L hp m ∧ News h₀ L hp news ∧ hp.IsList l vs.toArray ∧ StrsAre vs (xs.map S) ∧ xs.length ≤ 16000000)
    (h : ∀ D ws h', StrsAre ws (xs.reverse.map S) → Fr h₀ L h' m → News h₀ L h' ((D, listOf (List.toArray ws) 0) :: news) → (∀ p ∈ news, p.1 < D) → Q (.ref D) ⟨h', gs, dr, tk, os⟩) :
    wpAny (model prog w) A (subscriptTail value (.Slice lo up (some st) ps) (.ref l) (.ref hp.objs.size)) Q E ⟨hp.push { cls := .type "slice", data := .fields #[.none, .none, .int (-1) uj] }, gs, dr, tk, os⟩ :=
  slice_rev_rule k.1 k.2.1 k.2.2.1 k.2.2.2.1 (.int _ _) h k.2.2.2.2
theorem i_last (k : hp.IsList l vs.toArray ∧ StrsAre vs (xs.map S) ∧ xs ≠ [] ∧ plainIx slice = true) (h : ∀ t, Q (.str (S (xs.getLastD [])) t) ⟨hp, gs, dr, tk, os⟩) :
    wpAny (model prog w) A (subscriptTail value slice (.ref l) (.int (-1) u)) Q E ⟨hp, gs, dr, tk, os⟩ := item_last_rule k.1 k.2.1 k.2.2.1 h k.2.2.2
theorem i_nat {i : Nat} (k : hp.IsList l vs.toArray ∧ StrsAre vs (xs.map S) ∧ i < xs.length ∧ xs.length ≤ 16000000 ∧ plainIx slice = true) (h : ∀ t, Q (.str (S (xs.getD i [])) t) ⟨hp, gs, dr, tk, os⟩) :
    wpAny (model prog w) A (subscriptTail value slice (.ref l) (.int (i : Int) u)) Q E ⟨hp, gs, dr, tk, os⟩ := item_nat_rule k.1 k.2.1 rfl k.2.2.1 k.2.2.2.1 h k.2.2.2.2
theorem i_slast (k : a = S x ∧ x ≠ [] ∧ x.length ≤ 16000000 ∧ plainIx slice = true) (h : ∀ t' k', Q (.str (S [x.getLastD 0]) t') ⟨hp, gs, dr, k', os⟩) :
    wpAny (model prog w) A (subscriptTail value slice (.str a t) (.int (-1) u)) Q E ⟨hp, gs, dr, tk, os⟩ := by
  obtain ⟨rfl, hne, hsz, hs⟩ := k; exact sitem_last_rule (last_some hne) hsz h hs
theorem i_sat {k : Int} (q : a = S x ∧ 0 ≤ k ∧ k < (x.length : Int) ∧ x.length ≤ 16000000 ∧ plainIx slice = true) (h : ∀ t' k', Q (.str (S [x.getD k.toNat 0]) t') ⟨hp, gs, dr, k', os⟩) :
    wpAny (model prog w) A (subscriptTail value slice (.str a t) (.int k u)) Q E ⟨hp, gs, dr, tk, os⟩ := by
  obtain ⟨rfl, h0, h1, hsz, hs⟩ := q; exact sitem_rule (item_at h0 h1) h0 hsz h hs
end
end
section
variable {prog : Program} {w : World} {A : Around} {E : Value → Shared → Prop} {s : Shared} {h₀ : Heap} {L : Addr} {env : Env}
theorem x_compE {α : Type} {elt iter : PySem.Expr} {x : Str} {px : Pos} {ifs : List PySem.Expr} {scope : Scope} {cl : List (Str × Addr)} {pos : Pos} {Q : Value → Shared → Prop} {R G : α → Value → Prop} {pz : α → Bool}
    {m₀ : Str → Option Value} (hu : ∀ a b v, R a v → R b v → a = b)
    (h : wpAny (model prog w) A (eval iter env) (CompInG prog w A h₀ L env scope cl x ifs elt R G pz (fun m news as s₁ =>
      ∀ D (ys : List Value) n h' tk, Paired G (as.filter pz) ys → Fr h₀ L h' m → News h₀ L h' ((D, listOf ys.toArray n) :: news) → (∀ p ∈ news, @Ne Nat p.1 D) → Q (.ref D) { s₁ with heap := h', toks := tk })) E s)
    (F₀ : Fr h₀ L s.heap m₀ := by k_dflt (k_asm)) (hclos : closureFor scope env = pure cl := by k_dflt (with_unfolding_all rfl)) (hcell : ∀ y ∈ scope.names, y.2 ≠ .cell := by k_dflt (decide)) (hkind : scope.kind = .function := by k_dflt (rfl))
    (hnames : ∀ y ∈ scope.names, y.2 = .local → scope.names.lookup y.1 = some .local := by k_dflt (decide)) (hx : scope.names.lookup x = some .local := by k_dflt (rfl)) (hs : ∀ x, foldedSetIterable iter env x = pure x := by k_dflt (intro _; rfl)) :
    wpAny (model prog w) A (eval (.ListComp elt [⟨.Name x px, iter, ifs, 0⟩] scope pos) env) Q E s := comp_evalG F₀ hu hclos hcell hkind hnames hx hs h
theorem x_compA {α : Type} {elt iter : PySem.Expr} {x y : Str} {px py : Pos} {ifs : List PySem.Expr} {scope : Scope} {cl : List (Str × Addr)} {pos spos : Pos} {Q : Flow → Shared → Prop} {R G : α → Value → Prop} {pz : α → Bool}
    {m₀ : Str → Option Value} (hu : ∀ a b v, R a v → R b v → a = b)
    (h : wpAny (model prog w) A (eval iter env) (CompInG prog w A h₀ L env scope cl x ifs elt R G pz (fun m news as s₁ =>
      ∀ D (ys : List Value) n h' tk, Paired G (as.filter pz) ys → Fr h₀ L h' (fun z => if z = y then some (.ref D) else m z) → News h₀ L h' ((D, listOf ys.toArray n) :: news) → (∀ p ∈ news, @Ne Nat p.1 D) → Q .next { s₁ with heap := h', toks := tk })) E s)
    (F₀ : Fr h₀ L s.heap m₀ := by k_dflt (k_asm)) (hsw : swapsWith (.ListComp elt [⟨.Name x px, iter, ifs, 0⟩] scope pos) (some (.Name y py)) spos.line env = pure true := by k_dflt (with_unfolding_all rfl)) (hL : env.locals = L := by k_dflt (rfl))
    (hclos : closureFor scope env = pure cl := by k_dflt (with_unfolding_all rfl)) (hcell : ∀ y ∈ scope.names, y.2 ≠ .cell := by k_dflt (decide)) (hkind : scope.kind = .function := by k_dflt (rfl))
    (hnames : ∀ y ∈ scope.names, y.2 = .local → scope.names.lookup y.1 = some .local := by k_dflt (decide)) (hx : scope.names.lookup x = some .local := by k_dflt (rfl))
    (hy : env.kindOf y = some .local := by k_dflt (rfl)) (hp : (env.scope.kind == .class || (env.scope.kind == .module && env.locals != env.globals)) = false := by k_dflt (rfl))
    (hs : ∀ x, foldedSetIterable iter env x = pure x := by k_dflt (intro _; rfl)) :
    wpAny (model prog w) A (exec (.Assign [.Name y py] (.ListComp elt [⟨.Name x px, iter, ifs, 0⟩] scope pos) spos) env) Q E s := comp_assignG F₀ hu hsw hL hclos hcell hkind hnames hx hy hp hs h
theorem x_src {α : Type} {scope : Scope} {cl : List (Str × Addr)} {x : Str} {ifs : List PySem.Expr} {elt : PySem.Expr} {R G : α → Value → Prop} {pz : α → Bool} {Fin : (Str → Option Value) → List (Addr × Obj) → List α → Shared → Prop} {xv : Value} {as : List α} {m : Str → Option Value} {news : List (Addr × Obj)}
    (ht : TestG (∀ C a v s₂ m₂ E', a ∈ as → R a v → s₂.heap.Ns C m₂ → m₂ x = some v → Fr h₀ L s₂.heap m → News h₀ L s₂.heap news → s.toks ≤ s₂.toks →
      wpAny (model prog w) A (forIn ifs true fun c r => if r = true then do let ok ← isTrue c (compEnvC scope cl C env) (eval c (compEnvC scope cl C env)); pure (ForInStep.yield ok) else pure (ForInStep.yield r))
        (fun ok s₃ => ok = pz a ∧ Keeps s₂ s₃) E' s₂))
    (he : EltG (∀ C a v s₂ m₂ E', a ∈ as → R a v → pz a = true → s₂.heap.Ns C m₂ → m₂ x = some v → Fr h₀ L s₂.heap m → News h₀ L s₂.heap news → s.toks ≤ s₂.toks →
      wpAny (model prog w) A (eval elt (compEnvC scope cl C env)) (fun y s₃ => G a y ∧ Keeps s₂ s₃) E' s₂))
    (hf : FinG (Fin m news as s)) (hsrc : SrcOk prog w A R as xv s := by k_dflt (k_extra "src")) (F : Fr h₀ L s.heap m := by k_dflt (k_asm)) (N : News h₀ L s.heap news := by k_dflt (k_asm)) (hsz : as.length ≤ 16000000 := by k_dflt (k_extra "oml")) :
    CompInG prog w A h₀ L env scope cl x ifs elt R G pz Fin xv s := ⟨⟨m, news, as, hsrc, hsz, F, N, ht, he, hf⟩⟩
theorem x_list {α : Type} {R : α → Value → Prop} {as : List α} {vs : List Value} {ax : Addr} (hh : A.handled = none := by k_dflt (first | assumption | exact rfl)) (hl : s.heap.IsList ax vs.toArray := by k_dflt (k_extra "ls")) (hi : Paired R as vs := by k_dflt (exact paired_of_strs (by assumption))) : SrcOk prog w A R as (.ref ax) s := src_list hh hl hi
theorem test_none {α : Type} {as : List α} {R : α → Value → Prop} {x : Str} {m : Str → Option Value} {news : List (Addr × Obj)} {tk : Nat} {ev : Addr → Env} :
    TestG (∀ C a v s₂ m₂ E', a ∈ as → R a v → s₂.heap.Ns C m₂ → m₂ x = some v → Fr h₀ L s₂.heap m → News h₀ L s₂.heap news → tk ≤ s₂.toks →
      wpAny (model prog w) A (forIn ([] : List PySem.Expr) true fun c r => if r = true then do let ok ← isTrue c (ev C) (eval c (ev C)); pure (ForInStep.yield ok) else pure (ForInStep.yield r))
        (fun ok s₃ => ok = true ∧ Keeps s₂ s₃) E' s₂) := fun _ _ _ _ _ _ _ _ _ _ _ _ _ => tests_nil
theorem test_RT {as : List T} {x : Str} {m : Str → Option Value} {news : List (Addr × Obj)} {tk : Nat} {ev : Addr → Env} {c : PySem.Expr} {pz : T → Bool}
    (h : ∀ C a t s₂ m₂ E', a ∈ as → s₂.heap.Ns C m₂ → m₂ x = some (.str (S a) t) → Fr h₀ L s₂.heap m → News h₀ L s₂.heap news → a.length ≤ (as.map List.length).sum →
      wpAny (model prog w) A (isTrue c (ev C) (eval c (ev C))) (fun ok s₃ => ok = pz a ∧ Keeps s₂ s₃) E' s₂) :
    TestG (∀ C a v s₂ m₂ E', a ∈ as → RT a v → s₂.heap.Ns C m₂ → m₂ x = some v → Fr h₀ L s₂.heap m → News h₀ L s₂.heap news → tk ≤ s₂.toks →
      wpAny (model prog w) A (forIn [c] true fun c r => if r = true then do let ok ← isTrue c (ev C) (eval c (ev C)); pure (ForInStep.yield ok) else pure (ForInStep.yield r))
        (fun ok s₃ => ok = pz a ∧ Keeps s₂ s₃) E' s₂) := by
  rintro C a v s₂ m₂ E' ha ⟨t, rfl⟩ hC hx F N _
  exact tests_one (h C a t s₂ m₂ E' ha hC hx F N (len_le_sum ha))
theorem elt_RT {as : List T} {x : Str} {m : Str → Option Value} {news : List (Addr × Obj)} {tk : Nat} {ev : Addr → Env} {elt : PySem.Expr} {pz : T → Bool} {G : T → Value → Prop}
    (h : ∀ C a t s₂ m₂ E', a ∈ as → pz a = true → s₂.heap.Ns C m₂ → m₂ x = some (.str (S a) t) → Fr h₀ L s₂.heap m → News h₀ L s₂.heap news → tk ≤ s₂.toks → a.length ≤ (as.map List.length).sum →
      wpAny (model prog w) A (eval elt (ev C)) (fun y s₃ => G a y ∧ Keeps s₂ s₃) E' s₂) :
    EltG (∀ C a v s₂ m₂ E', a ∈ as → RT a v → pz a = true → s₂.heap.Ns C m₂ → m₂ x = some v → Fr h₀ L s₂.heap m → News h₀ L s₂.heap news → tk ≤ s₂.toks →
      wpAny (model prog w) A (eval elt (ev C)) (fun y s₃ => G a y ∧ Keeps s₂ s₃) E' s₂) := by
  rintro C a v s₂ m₂ E' ha ⟨t, rfl⟩ hz hC hx F N hk
  exact h C a t s₂ m₂ E' ha hz hC hx F N hk (len_le_sum ha)
section
variable {g : T → T} {pz : T → Bool} {as : List T} {m : Str → Option Value} {news : List (Addr × Obj)} {P : Addr → List Value → Nat → Heap → Nat → Prop} {mm : Addr → Str → Option Value}
theorem fin_g (h : ∀ D ys n h' tk, StrsAre ys (((as.filter pz).map g).map S) → Fr h₀ L h' (mm D) → News h₀ L h' ((D, listOf ys.toArray n) :: news) → (∀ p ∈ news, @Ne Nat p.1 D) → P D ys n h' tk) :
    FinG (∀ D (ys : List Value) n h' tk, Paired (fun y v => RT (g y) v) (as.filter pz) ys → Fr h₀ L h' (mm D) → News h₀ L h' ((D, listOf ys.toArray n) :: news) → (∀ p ∈ news, @Ne Nat p.1 D) → P D ys n h' tk) :=
  fun D ys n h' tk hp F N hne => h D ys n h' tk (strs_of_paired hp) F N hne
theorem fin_tt (h : ∀ D ys n h' tk, StrsAre ys ((as.map g).map S) → Fr h₀ L h' (mm D) → News h₀ L h' ((D, listOf ys.toArray n) :: news) → (∀ p ∈ news, @Ne Nat p.1 D) → P D ys n h' tk) :
    FinG (∀ D (ys : List Value) n h' tk, Paired (fun y v => RT (g y) v) (as.filter fun _ => true) ys → Fr h₀ L h' (mm D) → News h₀ L h' ((D, listOf ys.toArray n) :: news) → (∀ p ∈ news, @Ne Nat p.1 D) → P D ys n h' tk) :=
  fun D ys n h' tk hp F N hne => h D ys n h' tk (by rw [filter_tt] at hp; exact strs_of_paired hp) F N hne
theorem fin_id (h : ∀ D ys n h' tk, StrsAre ys ((as.filter pz).map S) → Fr h₀ L h' (mm D) → News h₀ L h' ((D, listOf ys.toArray n) :: news) → (∀ p ∈ news, @Ne Nat p.1 D) → P D ys n h' tk) :
    FinG (∀ D (ys : List Value) n h' tk, Paired RT (as.filter pz) ys → Fr h₀ L h' (mm D) → News h₀ L h' ((D, listOf ys.toArray n) :: news) → (∀ p ∈ news, @Ne Nat p.1 D) → P D ys n h' tk) :=
  fun D ys n h' tk hp F N hne => h D ys n h' tk (by have := strs_of_paired (g := fun y => y) hp; rwa [List.map_id'] at this) F N hne
end
end
section
variable {h₀ hh : Heap} {L : Addr} {m : Str → Option Value} {news : List (Addr × Obj)} {P : Value → Heap → Nat → Prop} {cls : String} {a b c : T}
theorem useT3 (F0 : Fr h₀ L hh m) (N0 : News h₀ L hh news) (H : ∀ D ta tb tc n h' tk', Fr h₀ L h' m → News h₀ L h' ((D, { cls := .type cls, data := .seq (List.toArray [.str (S a) ta, .str (S b) tb, .str (S c) tc]) n }) :: news) → (∀ p ∈ news, @Ne Nat p.1 D) → P (.ref D) h' tk') :
    ∀ v h' tk', Fr h₀ L h' m → News h₀ L h' news → hh.StaysIn h' → RSeq cls [a, b, c] v hh h' → P v h' tk' := by
  rintro v h' tk' F N k ⟨D, vs, n, rfl, hn, hD, hs⟩
  obtain ⟨ta, tb, tc, rfl⟩ := strs3_inv hs
  exact H D ta tb tc n h' tk' F (news_add F0 N hn hD) (ne_of_new N0 hn)
theorem useT2 (F0 : Fr h₀ L hh m) (N0 : News h₀ L hh news) (H : ∀ D ta tb n h' tk', Fr h₀ L h' m → News h₀ L h' ((D, { cls := .type cls, data := .seq (List.toArray [.str (S a) ta, .str (S b) tb]) n }) :: news) → (∀ p ∈ news, @Ne Nat p.1 D) → P (.ref D) h' tk') :
    ∀ v h' tk', Fr h₀ L h' m → News h₀ L h' news → hh.StaysIn h' → RSeq cls [a, b] v hh h' → P v h' tk' := by
  rintro v h' tk' F N k ⟨D, vs, n, rfl, hn, hD, hs⟩
  obtain ⟨ta, tb, rfl⟩ := strs2_inv hs
  exact H D ta tb n h' tk' F (news_add F0 N hn hD) (ne_of_new N0 hn)
end
section
variable {M : Model} {A : Around} {E : Value → Shared → Prop} {h₀ h' : Heap} {L : Addr} {m m' : Str → Option Value} {news : List (Addr × Obj)} {gs : Array GenState} {dr : Drawn} {tk' : Nat} {os : OsState} {s : Shared} {y : Str} {x : T}
noncomputable def JoinS (h₀ : Heap) (L : Addr) (y : Str) (x : T) (m : Str → Option Value) (news : List (Addr × Obj)) (gs : Array GenState) (dr : Drawn) (os : OsState) (f : Flow) (s' : Shared) : Prop :=
  f = .next ∧ ∃ h' tk' t', s' = ⟨h', gs, dr, tk', os⟩ ∧ Fr h₀ L h' (fun z => if z = y then some (.str (S x) t') else m z) ∧ News h₀ L h' news
theorem JoinS.of {t' : Tok} (F : Fr h₀ L h' m') (N : News h₀ L h' news) (e : ∀ z, m' z = if z = y then some (.str (S x) t') else m z) : JoinS h₀ L y x m news gs dr os .next ⟨h', gs, dr, tk', os⟩ :=
  ⟨rfl, h', tk', t', rfl, (funext e : m' = _) ▸ F, N⟩
theorem x_joinS {Q : Flow → Shared → Prop} {t : Sem Flow} {hp : Heap} {tk : Nat} {v : Option Value} (y : Str) (x : T) (F : Fr h₀ L hp (fun z => if z = y then v else m z)) (N : News h₀ L hp news) (h : wpAny M A t (JoinS h₀ L y x m news gs dr os) E ⟨hp, gs, dr, tk, os⟩)
    (k : ∀ h' tk' t', Fr h₀ L h' (fun z => if z = y then some (.str (S x) t') else m z) → News h₀ L h' news → Q .next ⟨h', gs, dr, tk', os⟩) : AtIter (wpAny M A t Q E ⟨hp, gs, dr, tk, os⟩) := by
  show wpAny M A t Q E _
  refine wpAny_mono h (fun f s' q => ?_) fun _ _ e => e
  obtain ⟨rfl, h', tk', t', rfl, F, N⟩ := q
  exact k h' tk' t' F N
end
section
variable {M : Model} {A : Around} {E : Value → Shared → Prop} {h₀ h' : Heap} {L : Addr} {m : Str → Option Value} {news : List (Addr × Obj)} {gs : Array GenState} {dr : Drawn} {tk' : Nat} {os : OsState} {P : Prop}
noncomputable def JoinB (h₀ : Heap) (L : Addr) (m : Str → Option Value) (news : List (Addr × Obj)) (gs : Array GenState) (dr : Drawn) (os : OsState) (P : Prop) (b : Bool) (s' : Shared) : Prop :=
  (b = true → P) ∧ (b = false → ¬ P) ∧ ∃ h' tk', s' = ⟨h', gs, dr, tk', os⟩ ∧ Fr h₀ L h' m ∧ News h₀ L h' news
theorem JoinB.yes (p : P) (F : Fr h₀ L h' m) (N : News h₀ L h' news) : JoinB h₀ L m news gs dr os P true ⟨h', gs, dr, tk', os⟩ := ⟨fun _ => p, nofun, h', tk', rfl, F, N⟩
theorem JoinB.no (p : ¬ P) (F : Fr h₀ L h' m) (N : News h₀ L h' news) : JoinB h₀ L m news gs dr os P false ⟨h', gs, dr, tk', os⟩ := ⟨nofun, fun _ => p, h', tk', rfl, F, N⟩
theorem x_joinB {Q : Bool → Shared → Prop} {t : Sem Bool} {hp : Heap} {tk : Nat} (P : Prop) (F : Fr h₀ L hp m) (N : News h₀ L hp news) (h : wpAny M A t (JoinB h₀ L m news gs dr os P) E ⟨hp, gs, dr, tk, os⟩)
    (kt : P → ∀ h' tk', Fr h₀ L h' m → News h₀ L h' news → Q true ⟨h', gs, dr, tk', os⟩) (kf : ¬ P → ∀ h' tk', Fr h₀ L h' m → News h₀ L h' news → Q false ⟨h', gs, dr, tk', os⟩) : AtIter (wpAny M A t Q E ⟨hp, gs, dr, tk, os⟩) := by
  show wpAny M A t Q E _
  refine wpAny_mono h (fun b s' q => ?_) fun _ _ e => e
  obtain ⟨p1, p2, h', tk', rfl, F, N⟩ := q
  cases b with
  | true => exact kt (p1 rfl) h' tk' F N
  | false => exact kf (p2 rfl) h' tk' F N
end
end
section
open PySem PySem.W PyProof.Rows PySem.Spec PySem.Calls
set_option Elab.async false
set_option maxRecDepth 100000
set_option linter.unusedVariables false
section
variable {prog : Program} {w : World} {M : Model} {A : Around} {E : Value → Shared → Prop} {s : Shared} {h₀ : Heap} {L a : Addr} {m mg mb : Str → Option Value} {news : List (Addr × Obj)} {Q : Value → Shared → Prop} {hp : Heap} {gs : Array GenState} {dr : Drawn} {tk : Nat} {os : OsState} {name x : Str} {scope : Scope} {cd v : Value} {pos : Pos} {env : Env} {K : Frag} {p : Program} {loose : List Str} {mean : ExcName → Option Value}
def locOk (scope : Scope) (x : Str) : Bool := (match scope.kind with | .function => true | _ => false) && (match scope.names.lookup x with | some .local => true | _ => false) && !(x == ("__debug__" : Str))
def gloOk (scope : Scope) (x : Str) : Bool := (match scope.kind with | .function => true | _ => false) && (match scope.names.lookup x with | some .globalImplicit => true | _ => false) && !(x == ("__debug__" : Str))
theorem locOk.ob (h : locOk scope x = true) : scope.kind = .function ∧ (envOf name scope L a cd).kindOf x = some .local ∧ (x == ("__debug__" : Str)) = false := by
  unfold locOk at h
  simp only [Bool.and_eq_true, Bool.not_eq_true'] at h
  obtain ⟨⟨h1, h2⟩, h3⟩ := h
  refine ⟨?_, ?_, h3⟩
  · revert h1; cases scope.kind <;> intro h <;> first | rfl | cases h
  · show scope.names.lookup x = some .local
    revert h2; cases scope.names.lookup x with
    | none => intro h; cases h
    | some k => cases k <;> intro h <;> first | rfl | cases h
theorem gloOk.ob (h : gloOk scope x = true) : scope.kind = .function ∧ (envOf name scope L a cd).kindOf x = some .globalImplicit ∧ (x == ("__debug__" : Str)) = false := by
  unfold gloOk at h
  simp only [Bool.and_eq_true, Bool.not_eq_true'] at h
  obtain ⟨⟨h1, h2⟩, h3⟩ := h
  refine ⟨?_, ?_, h3⟩
  · revert h1; cases scope.kind <;> intro h <;> first | rfl | cases h
  · show scope.names.lookup x = some .globalImplicit
    revert h2; cases scope.names.lookup x with
    | none => intro h; cases h
    | some k => cases k <;> intro h <;> first | rfl | cases h
theorem n_loc (h : Q v s) (F : Fr h₀ L s.heap m := by k_dflt k_asm) (hv : m x = some v := by k_dflt rfl) (hk : locOk scope x = true := by k_dflt rfl) : wpAny M A (eval (.Name x pos) (envOf name scope L a cd)) Q E s :=
  ld F hv h (locOk.ob (name := name) (L := L) (a := a) (cd := cd) hk).1 (locOk.ob (name := name) (L := L) (a := a) (cd := cd) hk).2.1 (locOk.ob (name := name) (L := L) (a := a) (cd := cd) hk).2.2
theorem n_load (h : Q v s) (F : Fr h₀ L s.heap m := by k_dflt k_asm) (hv : m x = some v := by k_dflt rfl) (hk : locOk scope x = true := by k_dflt rfl) : wpAny M A (loadName (envOf name scope L a cd) x) Q E s :=
  ldn F hv h (locOk.ob (name := name) (L := L) (a := a) (cd := cd) hk).1 (locOk.ob (name := name) (L := L) (a := a) (cd := cd) hk).2.1
theorem n_glo (h : Q v s) (F : Fr h₀ L s.heap m := by k_dflt k_asm) (X : K.In h₀ := by k_dflt k_asm) (T : Top p loose mean mg mb h₀ := by k_dflt k_asm) (e : nsIn K mainGlobals x = some (some v) := by k_dflt k_is) (hk : gloOk scope x = true := by k_dflt rfl) :
    wpAny M A (eval (.Name x pos) (envOf name scope L a cd)) Q E s :=
  nameX_K (cl := []) F X (topRead_of T) e h (gloOk.ob (name := name) (L := L) (a := a) (cd := cd) hk).1 (gloOk.ob (name := name) (L := L) (a := a) (cd := cd) hk).2.1 (gloOk.ob (name := name) (L := L) (a := a) (cd := cd) hk).2.2
theorem n_boo (h : Q v s) (F : Fr h₀ L s.heap m := by k_dflt k_asm) (X : K.In h₀ := by k_dflt k_asm) (T : Top p loose mean mg mb h₀ := by k_dflt k_asm) (e : nsIn K mainGlobals x = some none := by k_dflt k_is) (hv : bootBuiltins x = some v := by k_dflt (first | boot_fast | boot_by_name)) (hn : x ≠ "__name__" := by k_dflt decide) (hk : gloOk scope x = true := by k_dflt rfl) :
    wpAny M A (eval (.Name x pos) (envOf name scope L a cd)) Q E s :=
  nameX_B (cl := []) F X (topRead_of T) e hv hn h (gloOk.ob (name := name) (L := L) (a := a) (cd := cd) hk).1 (gloOk.ob (name := name) (L := L) (a := a) (cd := cd) hk).2.1 (gloOk.ob (name := name) (L := L) (a := a) (cd := cd) hk).2.2
theorem n_store {Q : Unit → Shared → Prop} (h : ∀ h', Fr h₀ L h' (fun y => if y = x then some v else m y) → News h₀ L h' news → Q () ⟨h', gs, dr, tk + 1, os⟩) (F : Fr h₀ L hp m := by k_dflt k_asm) (N : News h₀ L hp news := by k_dflt k_asm) (hk : locOk scope x = true := by k_dflt rfl) :
    wpAny M A (storeName (envOf name scope L a cd) x v) Q E ⟨hp, gs, dr, tk, os⟩ :=
  storeX_L (cl := []) (s := ⟨hp, gs, dr, tk, os⟩) F N h (locOk.ob (name := name) (L := L) (a := a) (cd := cd) hk).1 (locOk.ob (name := name) (L := L) (a := a) (cd := cd) hk).2.1
theorem n_call {func : PySem.Expr} {args : List PySem.Expr} (h : wpAny M A (eval func env) (fun f s₁ => wpAny M A (callWith pos f [] (backTo pos (starEach args env)) []) Q E s₁) E s)
    (he : eval (.Call func args [] pos) env = (do callWith pos (← eval func env) [] (backTo pos (starEach args env)) (backToKw pos (keywordEach [] env))) := by k_dflt rfl) : wpAny M A (eval (.Call func args [] pos) env) Q E s := Call_ h he
theorem n_mcall {o : PySem.Expr} {nm : Str} {apos : Pos} {args : List PySem.Expr} {pl : Sem Bool}
    (h : wpAny M A (eval o env) (fun ov s₁ => wpAny M A (getMethod ov nm pl) (fun fx s₂ => wpAny M A (callWith pos fx.1 fx.2 (backTo pos (starEach args env)) []) Q E s₂) E s₁) E s)
    (he : eval (.Call (.Attribute o nm apos) args [] pos) env = (do
      let ov ← eval o env
      standAt apos.atName
      let (f, first) ← holding [ov] (getMethod ov nm pl)
      callWith pos f first (backTo pos (starEach args env)) []) := by k_dflt rfl) : wpAny M A (eval (.Call (.Attribute o nm apos) args [] pos) env) Q E s := MethodCall_ h he
theorem n_asg {px : Pos} {value : PySem.Expr} {Q : Flow → Shared → Prop} (h : wpAny M A (eval value env) (fun v s₁ => wpAny M A (storeName env x v) (fun _ => Q .next) E s₁) E s)
    (hs : swapsWith value (some (.Name x px)) pos.line env = pure false := by k_dflt rfl) : wpAny M A (exec (.Assign [.Name x px] value pos) env) Q E s := wpAny_Assign_Name h hs
theorem n_true {e : PySem.Expr} {whole : Sem Value} {Q : Bool → Shared → Prop} (h : wpAny M A whole (fun v s₁ => wpAny M A (truthy v) Q E s₁) E s)
    (he : isTrue e env whole = (do let v ← whole; standAt e.pos; holding [v] (truthy v)) := by k_dflt rfl) : wpAny M A (isTrue e env whole) Q E s := isTrue_plain h he
theorem n_acons {e : PySem.Expr} {rest : List PySem.Expr} {Q : List Value → Shared → Prop} (h : wpAny M A (eval e env) (fun v s₁ => wpAny M A (spliced (backTo pos (starEach rest env))) (fun vs s₂ => Q (v :: vs) s₂) E s₁) E s)
    (he : starEach (e :: rest) env = (false, eval e env) :: starEach rest env := by k_dflt rfl) : wpAny M A (spliced (backTo pos (starEach (e :: rest) env))) Q E s := args_cons h he
theorem n_cw {id : String} {first : List Value} {e : PySem.Expr} {rest : List PySem.Expr} (h : wpAny M A (spliced (backTo pos (starEach (e :: rest) env))) (fun vs s₁ => wpAny M A (call (.builtin id) (first ++ vs)) Q E s₁) E s)
    (he : starEach (e :: rest) env = (false, eval e env) :: starEach rest env := by k_dflt rfl) (hplain : (backTo pos (starEach rest env)).any (·.1) = false := by k_dflt rfl) :
    wpAny M A (callWith pos (.builtin id) first (backTo pos (starEach (e :: rest) env)) []) Q E s := callWith_method1 h he hplain
theorem n_cw0 {id : String} {e : PySem.Expr} {rest : List PySem.Expr} (h : wpAny M A (spliced (backTo pos (starEach (e :: rest) env))) (fun vs s₁ => wpAny M A (call (.builtin id) vs) Q E s₁) E s)
    (he : starEach (e :: rest) env = (false, eval e env) :: starEach rest env := by k_dflt rfl) (hplain : (backTo pos (starEach rest env)).any (·.1) = false := by k_dflt rfl) :
    wpAny M A (callWith pos (.builtin id) [] (backTo pos (starEach (e :: rest) env)) []) Q E s := callWith_method1 h he hplain
theorem n_cw1 {id : String} {v : Value} {e : PySem.Expr} {rest : List PySem.Expr} (h : wpAny M A (spliced (backTo pos (starEach (e :: rest) env))) (fun vs s₁ => wpAny M A (call (.builtin id) (v :: vs)) Q E s₁) E s)
    (he : starEach (e :: rest) env = (false, eval e env) :: starEach rest env := by k_dflt rfl) (hplain : (backTo pos (starEach rest env)).any (·.1) = false := by k_dflt rfl) :
    wpAny M A (callWith pos (.builtin id) [v] (backTo pos (starEach (e :: rest) env)) []) Q E s := callWith_method1 h he hplain
theorem n_cwK {e : PySem.Expr} {f : Value} {rest : List PySem.Expr} {first : List Value} (h : wpAny M A (spliced (backTo pos (starEach (e :: rest) env))) (fun vs s₁ => K.In s₁.heap ∧ wpAny M A (call f (first ++ vs)) Q E s₁) E s)
    (X : K.In h₀ := by k_dflt k_asm) (hk : keepIn K f = true := by k_dflt k_is)
    (he : starEach (e :: rest) env = (false, eval e env) :: starEach rest env := by k_dflt rfl) (hplain : (backTo pos (starEach rest env)).any (·.1) = false := by k_dflt rfl) :
    wpAny M A (callWith pos f first (backTo pos (starEach (e :: rest) env)) []) Q E s := callWith_K X hk h he hplain
theorem n_newl {vs : List Value} (h : ∀ l h', Fr h₀ L h' m → News h₀ L h' ((l, listOf vs.toArray 0) :: news) → (∀ p ∈ news, p.1 < l) → Q (.ref l) ⟨h', gs, dr, tk, os⟩) (F : Fr h₀ L hp m := by k_dflt k_asm) (N : News h₀ L hp news := by k_dflt k_asm) (hsz : vs.length ≤ sizeLine := by k_dflt (first | decide | size_fits)) :
    wpAny M A (newList vs) Q E ⟨hp, gs, dr, tk, os⟩ := newList_K (s := ⟨hp, gs, dr, tk, os⟩) F N h hsz
theorem toks_cons {st : Stmt} {rest : List Stmt} {Q : Flow → Shared → Prop} {X : Nat} (h : ∀ tk : Nat, 1 ≤ tk → wpAny M A (exec st env) (fun f s' => match f with | .next => wpAny M A (execs rest env) Q E s' | f => Q f s') E ⟨hp, gs, dr, tk, os⟩) :
    wpAny M A (execs (st :: rest) env) Q E ⟨hp, gs, dr, X + 1, os⟩ := wpAny_execs_cons (h (X + 1) (Nat.le_add_left 1 X))
theorem n_int {i : Int} {k : Nat} (h : Q (.int i tk) ⟨hp, gs, dr, tk + 1, os⟩) : wpAny M A (eval (.Constant (.int i) k pos) env) Q E ⟨hp, gs, dr, tk, os⟩ := wpAny_Constant_int h
theorem n_str {y : Str} {k : Nat} (h : Q (.str y tk) ⟨hp, gs, dr, tk + 1, os⟩) : wpAny M A (eval (.Constant (.str y) k pos) env) Q E ⟨hp, gs, dr, tk, os⟩ := Calls.Constant_str h
section
variable {i j : Int} {t u : Tok}
theorem n_neg (h : Q (.int (-i) tk) ⟨hp, gs, dr, tk + 1, os⟩) : wpAny (model prog w) A (unaryOp .USub (.int i t)) Q E ⟨hp, gs, dr, tk, os⟩ := PyProof.Rows.neg_int h
theorem n_addi (h : Q (.int (i + j) tk) ⟨hp, gs, dr, tk + 1, os⟩) : wpAny (model prog w) A (binaryOp .Add (.int i t) (.int j u)) Q E ⟨hp, gs, dr, tk, os⟩ := PyProof.Rows.add_int h
theorem n_subi (h : Q (.int (i - j) tk) ⟨hp, gs, dr, tk + 1, os⟩) : wpAny (model prog w) A (binaryOp .Sub (.int i t) (.int j u)) Q E ⟨hp, gs, dr, tk, os⟩ := PyProof.Rows.sub_int h
theorem n_iaddi (h : Q (.int (i + j) tk) ⟨hp, gs, dr, tk + 1, os⟩) : wpAny (model prog w) A (inplaceOp .Add (.int i t) (.int j u)) Q E ⟨hp, gs, dr, tk, os⟩ := PyProof.Rows.iadd_int h
end
end
end
section
open PySem PySem.W PyProof.Rows PySem.Spec PySem.Calls PySem.NumText
set_option Elab.async false
set_option maxRecDepth 100000
noncomputable def hexs : List Nat := (List.range 103).filter isHex
theorem hex_mem {a : Nat} (h : isHex a = true) : a ∈ hexs := by
  refine List.mem_filter.mpr ⟨List.mem_range.mpr ?_, h⟩
  unfold isHex at h
  simp only [Bool.or_eq_true, Bool.and_eq_true, decide_eq_true_eq] at h
  lia
theorem wp_text16 {M : Model} {A : Around} {E : Value → Shared → Prop} {s : Shared} {Q : Value → Shared → Prop} {v : Value} {text : List Nat} {n : Int}
    (hs : (text.takeWhile (· != 0)).length ≤ 640) (hr : (int_private% "readNumeral") 0 16 (text.takeWhile (· != 0)) = (int_private% "Numeral.value") n)
    (ha : ((text.takeWhile (· != 0)).length == text.length) = true) (h : Q (.int n s.toks) { s with toks := s.toks + 1 }) :
    wpAny M A ((int_private% "intFromText") v text 16) Q E s := by
  obtain ⟨hp, g, d, tk, os⟩ := s
  repeat (any_goals (first
    | assumption
    | (with_reducible refine wpAny_ite_true (decide_eq_true hs) ?_)
    | (with_reducible refine wpAny_ite_true (decide_eq_true ha) ?_)
    | wp_step))
  all_goals (try rw [hr])
  all_goals (try dsimp only)
  repeat (any_goals (first
    | assumption
    | (with_reducible refine wpAny_ite_true (decide_eq_true hs) ?_)
    | (with_reducible refine wpAny_ite_true (decide_eq_true ha) ?_)
    | wp_step))
noncomputable def numIs (x : int_private% "Numeral") (n : Int) : Decidable (x = (int_private% "Numeral.value") n) := by
  cases x
  all_goals first
    | (rename_i i; exact if h : i = n then isTrue (by rw [h]) else isFalse (by intro e; injection e with e; exact h e))
    | exact isFalse (by intro e; cases e; done)
theorem hex_all : ∀ a ∈ hexs, ∀ b ∈ hexs, @decide _ (numIs ((int_private% "readNumeral") 0 16 [a, b]) ((16 * hv a + hv b : Nat) : Int)) = true := by decide +kernel
theorem hex_read (a b : Nat) (ha : isHex a = true) (hb : isHex b = true) :
    ((([a, b] : List Nat).takeWhile (· != 0)).length ≤ 640 ∧ (int_private% "readNumeral") 0 16 (([a, b] : List Nat).takeWhile (· != 0)) = (int_private% "Numeral.value") ((16 * hv a + hv b : Nat) : Int) ∧ ((([a, b] : List Nat).takeWhile (· != 0)).length == ([a, b] : List Nat).length) = true) := by
  have h0 : ∀ c, isHex c = true → (c != 0) = true := by intro c hc; unfold isHex at hc; simp at hc ⊢; lia
  have e : ([a, b] : List Nat).takeWhile (· != 0) = [a, b] := by simp only [List.takeWhile, h0 a ha, h0 b hb]
  rw [e]
  exact ⟨by simp, @of_decide_eq_true _ (numIs _ _) (hex_all a (hex_mem ha) b (hex_mem hb)), by simp⟩
theorem str_int : typeLookup (.type "str") "__int__" = pure none := by rw [typeLookup_type, builtinLookup_eq_fast]; kernel_rfl
theorem gives_text16 {a b : Nat} {u u2 : Tok} (ha : isHex a = true) (hb : isHex b = true) : Gives (Builtin.«int.__new__» ⟨[.type "int", .str (S [a, b]) u, .int 16 u2], []⟩) (.int ((16 * hv a + hv b : Nat) : Int)) :=
  .of_wp fun M A E s Q h => by
    obtain ⟨hp, g, d, tk, os⟩ := s
    have f1 := F.conv_sub_int
    have f2 := F.madeHere_int
    have f6 : typeOf (.str (S [a, b]) u) = pure (.type "str") := rfl
    have hall : (S [a, b]).cps.all (· < 128) = true := by
      have h1 : ∀ c, isHex c = true → c < 128 := by intro c hc; unfold isHex at hc; simp at hc; lia
      simp [S, h1 a ha, h1 b hb]
    have htl : (S [a, b]).cps.toList = [a, b] := S_cps _
    have hT : (if (S [a, b]).cps.all (fun x => decide (x < 128)) = true then (S [a, b]).cps.toList else Unicode.numberText (S [a, b]).cps.toList) = [a, b] := by rw [if_pos hall, htl]
    have hk := KIN.Hid.mk (hex_read a b ha hb)
    repeat (any_goals (first
      | assumption
      | ((with_reducible show wpAny _ _ ((int_private% "intFromText") _ _ _) _ _ _); rw [hT]; refine wp_text16 hk.out.1 hk.out.2.1 hk.out.2.2 ?_)
      | wp_step))
    all_goals first | exact ⟨_, rfl, h⟩ | skip
theorem typeCall_int_2 (a b : Value) : checkTypeCall "int" ⟨[a, b], []⟩ = pure () := by kernel_rfl
theorem newCall_int_2 (a b : Value) : checkBuiltinCall "int.__new__" ⟨[.type "int", a, b], []⟩ = pure () := by kernel_rfl
theorem int16_rule {prog : Program} {w : World} {A : Around} {E : Value → Shared → Prop} {s : Shared} {Q : Value → Shared → Prop} {x : Str} {a b : Nat} {t u : Tok} (hx : x = S [a, b]) (ha : isHex a = true) (hb : isHex b = true) (h : Q (.int ((16 * hv a + hv b : Nat) : Int) s.toks) { s with toks := s.toks + 1 }) :
    wpAny (model prog w) A (call (.type "int") [.str x t, .int 16 u]) Q E s := by
  subst hx
  exact callType_new F.called_int F.newNe_int (typeCall_int_2 _ _) (newCall_int_2 _ _) (fun obj => F.args_object_init_3 obj _ _) F.entry_int_new (gives_text16 ha hb).meets (show (Made.int _).post _ s from ⟨rfl, h⟩)
end
section
open PySem PySem.Builtin.Str PySem.StrLaws
set_option Elab.async false
set_option maxRecDepth 100000
noncomputable def decR (r : T) : T := decF r.length r
theorem decF_fuel : ∀ (n m : Nat) (r : T), r.length ≤ n → r.length ≤ m → decF n r = decF m r
  | 0, m, [], _, _ => by cases m <;> rfl
  | 0, m, c :: r, h, _ => by simp at h
  | n + 1, 0, [], _, _ => rfl
  | n + 1, 0, c :: r, _, h => by simp at h
  | n + 1, m + 1, [], _, _ => rfl
  | n + 1, m + 1, c :: r, h1, h2 => by
    simp only [List.length_cons] at h1 h2
    have e1 : decF n r = decF m r := decF_fuel n m r (by lia) (by lia)
    unfold decF
    rw [e1]
    match r with
    | [] => rfl
    | [a] => rfl
    | a :: b :: q =>
      simp only [List.length_cons] at h1 h2
      have e2 : decF n q = decF m q := decF_fuel n m q (by lia) (by lia)
      simp only [e2]
theorem decF_s (n c : Nat) (r : T) : decF (n + 1) (c :: r) = (if c ≠ 61 then c :: (if r = [] then [10] else decF n r) else if r = [] then [] else match r with
      | a :: b :: q => if isHex a && isHex b then (16 * hv a + hv b) :: (if q = [] then [10] else decF n q) else c :: decF n r
      | _ => c :: decF n r) := by
  rw [decF.eq_def]
  rfl
theorem decR_plain {c : Nat} {r : T} (h : c ≠ 61) : decR (c :: r) = c :: (if r = [] then [10] else decR r) := by
  unfold decR; simp only [List.length_cons]; rw [decF_s, if_pos h]
theorem decR_end : decR [61] = [] := by decide
theorem decR_hex {a b : Nat} {q : T} (ha : isHex a = true) (hb : isHex b = true) : decR (61 :: a :: b :: q) = (16 * hv a + hv b) :: (if q = [] then [10] else decR q) := by
  unfold decR; simp only [List.length_cons]; rw [decF_s, if_neg (by decide), if_neg (by simp)]
  simp only [ha, hb, Bool.and_self, if_true]
  rw [decF_fuel (q.length + 1 + 1) q.length q (by lia) (Nat.le_refl _)]
theorem decR_one {a : Nat} : decR [61, a] = 61 :: decR [a] := by
  unfold decR; simp only [List.length_cons, List.length_nil]; rw [decF_s, if_neg (by decide), if_neg (by simp)]
theorem decR_nohex {a b : Nat} {q : T} (h : (isHex a && isHex b) = false) : decR (61 :: a :: b :: q) = 61 :: decR (a :: b :: q) := by
  unfold decR; simp only [List.length_cons]; rw [decF_s, if_neg (by decide), if_neg (by simp)]
  simp only [h, Bool.false_eq_true, if_false]
end
section
open PySem PySem.Builtin.Str PySem.StrLaws
set_option Elab.async false
set_option maxRecDepth 100000
theorem drop_at {r : T} {k : Nat} (h : k < r.length) : r.drop k = r.getD k 0 :: r.drop (k + 1) := by
  rw [List.drop_eq_getElem_cons h, List.getD_eq_getElem?_getD, List.getElem?_eq_getElem h]; rfl
theorem drop_nil {r : T} {k : Nat} : r.drop k = [] ↔ r.length ≤ k := List.drop_eq_nil_iff
section
variable {r y tot : T} {k : Nat}
theorem dl_plain_end (h : k + 1 = r.length) (hc : r.getD k 0 ≠ 61) (hi : y ++ decR (r.drop k) = tot) : (y ++ [r.getD k 0] ++ [10]) ++ decR (r.drop (k + 1)) = tot := by
  rw [drop_at (by lia), decR_plain hc, if_pos (drop_nil.mpr (by lia))] at hi
  rw [drop_nil.mpr (show r.length ≤ k + 1 by lia)]
  rw [← hi]; simp [decR, decF]
theorem dl_plain (h : k + 1 < r.length) (hc : r.getD k 0 ≠ 61) (hi : y ++ decR (r.drop k) = tot) : (y ++ [r.getD k 0]) ++ decR (r.drop (k + 1)) = tot := by
  rw [drop_at (by lia), decR_plain hc, if_neg (fun e => by have := drop_nil.mp e; lia)] at hi
  rw [← hi]; simp
theorem dl_soft (h : k + 1 = r.length) (hc : r.getD k 0 = 61) (hi : y ++ decR (r.drop k) = tot) : y ++ decR (r.drop (k + 1)) = tot := by
  rw [drop_at (by lia), hc, drop_nil.mpr (show r.length ≤ k + 1 by lia), decR_end] at hi
  rw [drop_nil.mpr (show r.length ≤ k + 1 by lia), ← hi]; rfl
theorem dl_hex_end (h : k + 3 = r.length) (hc : r.getD k 0 = 61) (ha : isHex (r.getD (k + 1) 0) = true) (hb : isHex (r.getD (k + 2) 0) = true) (hi : y ++ decR (r.drop k) = tot) : (y ++ [16 * hv (r.getD (k + 1) 0) + hv (r.getD (k + 2) 0)] ++ [10]) ++ decR (r.drop (k + 3)) = tot := by
  rw [drop_at (show k < r.length by lia), hc, drop_at (show k + 1 < r.length by lia), drop_at (show k + 1 + 1 < r.length by lia), decR_hex ha hb, if_pos (drop_nil.mpr (by lia))] at hi
  rw [drop_nil.mpr (show r.length ≤ k + 3 by lia), ← hi]; simp [decR, decF]
theorem dl_hex (h : k + 3 < r.length) (hc : r.getD k 0 = 61) (ha : isHex (r.getD (k + 1) 0) = true) (hb : isHex (r.getD (k + 2) 0) = true) (hi : y ++ decR (r.drop k) = tot) : (y ++ [16 * hv (r.getD (k + 1) 0) + hv (r.getD (k + 2) 0)]) ++ decR (r.drop (k + 3)) = tot := by
  rw [drop_at (show k < r.length by lia), hc, drop_at (show k + 1 < r.length by lia), drop_at (show k + 1 + 1 < r.length by lia), decR_hex ha hb, if_neg (fun e => by have := drop_nil.mp e; lia)] at hi
  rw [← hi]; simp
theorem dl_lone (h : k + 2 = r.length) (hc : r.getD k 0 = 61) (hi : y ++ decR (r.drop k) = tot) : (y ++ [61]) ++ decR (r.drop (k + 1)) = tot := by
  rw [drop_at (show k < r.length by lia), hc, drop_at (show k + 1 < r.length by lia), drop_nil.mpr (show r.length ≤ k + 1 + 1 by lia), decR_one] at hi
  rw [drop_at (show k + 1 < r.length by lia), drop_nil.mpr (show r.length ≤ k + 1 + 1 by lia), ← hi]; simp
theorem dl_nohex (h : k + 2 < r.length) (hc : r.getD k 0 = 61) (hx : (isHex (r.getD (k + 1) 0) && isHex (r.getD (k + 2) 0)) = false) (hi : y ++ decR (r.drop k) = tot) : (y ++ [61]) ++ decR (r.drop (k + 1)) = tot := by
  rw [drop_at (show k < r.length by lia), hc, drop_at (show k + 1 < r.length by lia), drop_at (show k + 1 + 1 < r.length by lia), decR_nohex hx] at hi
  rw [drop_at (show k + 1 < r.length by lia), drop_at (show k + 1 + 1 < r.length by lia), ← hi]; simp
theorem dl_lone2 (h : k + 2 = r.length) (hc : r.getD k 0 = 61) (hi : y ++ decR (r.drop k) = tot) : (y ++ [r.getD k 0]) ++ decR (r.drop (k + 1)) = tot := by rw [hc]; exact dl_lone h hc hi
theorem dl_nohex2 (h : k + 2 < r.length) (hc : r.getD k 0 = 61) (hx : (isHex (r.getD (k + 1) 0) && isHex (r.getD (k + 2) 0)) = false) (hi : y ++ decR (r.drop k) = tot) : (y ++ [r.getD k 0]) ++ decR (r.drop (k + 1)) = tot := by rw [hc]; exact dl_nohex h hc hx hi
theorem hexN {a b : Bool} (h : a = false ∨ b = false) : (a && b) = false := by rcases h with rfl | rfl <;> simp
theorem slice3 (h : k + 3 ≤ r.length) (hc : r.getD k 0 = 61) : (r.take (k + 3)).drop k = [61, r.getD (k + 1) 0, r.getD (k + 2) 0] := by
  rw [List.drop_take, show k + 3 - k = 3 by lia, drop_at (show k < r.length by lia), drop_at (show k + 1 < r.length by lia), drop_at (show k + 1 + 1 < r.length by lia), hc]; rfl
end
end
section
open PySem PySem.Builtin.Str PySem.StrLaws PySem.W
set_option Elab.async false
set_option maxRecDepth 100000
theorem hexd_tl : tl (Str.ofString "0123456789abcdefABCDEF") = [48, 49, 50, 51, 52, 53, 54, 55, 56, 57, 97, 98, 99, 100, 101, 102, 65, 66, 67, 68, 69, 70] := by decide +kernel
theorem hex_lt {c : Nat} (h : isHex c = true) : c < 103 := by
  unfold isHex at h
  rcases Bool.or_eq_true_iff.mp h with h | h
  · rcases Bool.or_eq_true_iff.mp h with h | h
    · exact Nat.lt_of_le_of_lt (of_decide_eq_true (Bool.and_eq_true_iff.mp h).2) (by decide)
    · exact Nat.lt_of_le_of_lt (of_decide_eq_true (Bool.and_eq_true_iff.mp h).2) (by decide)
  · exact Nat.lt_of_le_of_lt (of_decide_eq_true (Bool.and_eq_true_iff.mp h).2) (by decide)
theorem hex_in (c : Nat) : Txt.contains (Str.ofString "0123456789abcdefABCDEF") (S [c]) = isHex c := by
  have h := in_one (Str.ofString "0123456789abcdefABCDEF") c
  rw [show (⟨#[c]⟩ : Str) = S [c] from rfl] at h
  rw [h, hexd_tl]
  by_cases hc : c < 103
  · exact (show ∀ c, c < 103 → decide (c ∈ [48, 49, 50, 51, 52, 53, 54, 55, 56, 57, 97, 98, 99, 100, 101, 102, 65, 66, 67, 68, 69, 70]) = isHex c by decide +kernel) c hc
  · rw [Bool.eq_false_iff.mpr fun q => hc (hex_lt q)]
    exact decide_eq_false fun q => hc ((show ∀ y ∈ [48, 49, 50, 51, 52, 53, 54, 55, 56, 57, 97, 98, 99, 100, 101, 102, 65, 66, 67, 68, 69, 70], y < 103 by decide) c q)
theorem hex_yes {c : Nat} (h : (Builtin.Str.occurrences (Str.ofString "0123456789abcdefABCDEF") (S [c]) 0 (Str.ofString "0123456789abcdefABCDEF").length 1).isEmpty = false) : isHex c = true := by
  rw [← hex_in]; unfold Txt.contains; rw [h]; rfl
theorem hex_no {c : Nat} (h : (Builtin.Str.occurrences (Str.ofString "0123456789abcdefABCDEF") (S [c]) 0 (Str.ofString "0123456789abcdefABCDEF").length 1).isEmpty = true) : isHex c = false := by
  rw [← hex_in]; unfold Txt.contains; rw [h]; rfl
end
section
open PySem PySem.Builtin.Str PySem.StrLaws
set_option Elab.async false
set_option maxRecDepth 100000
set_option linter.unusedSimpArgs false
theorem cost_any (c : Nat) : cost c = 1 ∨ cost c = 3 := by unfold cost; split <;> (try split) <;> simp
theorem costs_c (c : Nat) (r : T) : costs (c :: r) = cost c + costs r := by simp [costs]
theorem costs_pos : ∀ x : T, (x.length : Int) ≤ costs x ∧ costs x ≤ 3 * (x.length : Int)
  | [] => by simp [costs]
  | c :: r => by
    have := costs_pos r
    have := cost_any c
    rw [costs_c, List.length_cons]; lia
theorem takeRow_len : ∀ (x : T) (room : Int), (takeRow room x).2.length ≤ x.length
  | [], _ => Nat.le_refl _
  | c :: r, room => by
    unfold takeRow
    split
    · have := takeRow_len r (room - cost c)
      dsimp only; rw [List.length_cons]; lia
    · exact Nat.le_refl _
theorem takeRow_lt {x : T} {w : Int} (hw : 4 ≤ w) (h : w < costs x) : (takeRow (w - 1) x).2.length < x.length := by
  cases x with
  | nil => have : costs ([] : T) = 0 := rfl; rw [this] at h; lia
  | cons c r =>
    have := cost_any c
    unfold takeRow
    rw [if_pos (by lia)]
    have := takeRow_len r (w - 1 - cost c)
    dsimp only; rw [List.length_cons]; lia
theorem rowsF_fuel {w : Int} (hw : 4 ≤ w) : ∀ (n m : Nat) (x : T), x.length ≤ n → x.length ≤ m → rowsF w n x = rowsF w m x
  | 0, m, x, h, _ => by
    have : x = [] := List.length_eq_zero_iff.mp (by lia)
    subst this
    cases m with
    | zero => rfl
    | succ m => rw [rowsF, rowsF, if_neg (by show ¬ w < 0; lia)]
  | n + 1, 0, x, _, h => by
    have : x = [] := List.length_eq_zero_iff.mp (by lia)
    subst this
    rw [rowsF, rowsF, if_neg (by show ¬ w < 0; lia)]
  | n + 1, m + 1, x, h1, h2 => by
    rw [rowsF, rowsF]
    split
    · rename_i h
      have := takeRow_lt hw h
      rw [rowsF_fuel hw n m _ (by lia) (by lia)]
    · rfl
noncomputable def rowsR (w : Int) (x : T) : List T × T := rowsF w x.length x
theorem rowsR_step {w : Int} {x : T} (hw : 4 ≤ w) (h : w < costs x) : rowsR w x = ((takeRow (w - 1) x).1 :: (rowsR w (takeRow (w - 1) x).2).1, (rowsR w (takeRow (w - 1) x).2).2) := by
  have h1 := takeRow_lt hw h
  unfold rowsR
  cases hx : x.length with
  | zero => lia
  | succ n => rw [rowsF, if_pos h, rowsF_fuel hw n _ _ (by lia) (Nat.le_refl _)]
theorem rowsR_end {w : Int} {x : T} (h : ¬ w < costs x) : rowsR w x = ([], x) := by
  unfold rowsR
  cases x.length with
  | zero => rfl
  | succ n => rw [rowsF, if_neg h]
structure Inner (w : Int) (x : T) (b k : Nat) (room : Int) : Prop where
  lo : 0 ≤ room
  hi : room < w
  bk : b ≤ k
  kl : k ≤ x.length
  lt : room < costs (x.drop k)
  eq : takeRow (w - 1) (x.drop b) = ((x.take k).drop b ++ (takeRow room (x.drop k)).1, (takeRow room (x.drop k)).2)
theorem Inner.start {w : Int} {x : T} {b : Nat} (hw : 4 ≤ w) (hb : b ≤ x.length) (h : w < costs (x.drop b)) : Inner w x b b (w - 1) := by
  refine ⟨by lia, by lia, Nat.le_refl _, hb, by lia, ?_⟩
  have : (x.take b).drop b = [] := List.drop_eq_nil_of_le (by rw [List.length_take]; lia)
  rw [this]; rfl
theorem Inner.klt {w room : Int} {x : T} {b k : Nat} (h : Inner w x b k room) : k < x.length := by
  apply Decidable.byContradiction
  intro e
  have h1 := h.lt
  rw [List.drop_eq_nil_of_le (by lia)] at h1
  have : costs ([] : T) = 0 := rfl
  rw [this] at h1
  have := h.lo
  lia
theorem Inner.step {w room : Int} {x : T} {b k : Nat} (h : Inner w x b k room) (hc : cost (x.getD k 0) ≤ room) : Inner w x b (k + 1) (room - cost (x.getD k 0)) := by
  have hk := h.klt
  have hd := drop_at hk
  have h1 := h.lt
  have h2 := h.eq
  have h3 := cost_any (x.getD k 0)
  have h4 := h.hi
  rw [hd, costs_c] at h1
  refine ⟨by lia, by lia, Nat.le_succ_of_le h.bk, hk, by lia, ?_⟩
  rw [h2, hd, takeRow, if_pos hc]
  dsimp only
  congr 1
  have e1 : x.take (k + 1) = x.take k ++ [x.getD k 0] := by
    rw [List.take_succ_eq_append_getElem hk, List.getD_eq_getElem?_getD, List.getElem?_eq_getElem hk]; rfl
  rw [e1, List.drop_append_of_le_length (by rw [List.length_take]; have := h.bk; lia), List.append_assoc]; rfl
theorem Inner.stop {w room : Int} {x : T} {b k : Nat} (h : Inner w x b k room) (hc : ¬ cost (x.getD k 0) ≤ room) : takeRow (w - 1) (x.drop b) = ((x.take k).drop b, x.drop k) := by
  rw [h.eq, drop_at h.klt, takeRow, if_neg hc]
  simp
structure Outer (w : Int) (x : T) (R : List T) (k : Nat) : Prop where
  kl : k ≤ x.length
  rows : R ++ (rowsR w (x.drop k)).1 = (rowsR w x).1
  rest : (rowsR w (x.drop k)).2 = (rowsR w x).2
  len : R.length ≤ k
  sum : (R.map List.length).sum ≤ k
theorem Outer.start (w : Int) (x : T) : Outer w x [] 0 := ⟨Nat.zero_le _, rfl, rfl, Nat.le_refl _, Nat.le_refl _⟩
theorem Outer.step {w room : Int} {x : T} {R : List T} {b k : Nat} (hw : 4 ≤ w) (h : Outer w x R b) (hlt : w < costs (x.drop b)) (hi : Inner w x b k room) (hc : ¬ cost (x.getD k 0) ≤ room) : Outer w x (R ++ [(x.take k).drop b]) k ∧ b < k := by
  have he := hi.stop hc
  have hs := rowsR_step hw hlt
  rw [he] at hs
  have hr := h.rows
  have hr2 := h.rest
  rw [hs] at hr hr2
  have hbk : b < k := by
    have := takeRow_lt hw hlt
    rw [he] at this
    simp only [List.length_drop] at this
    lia
  have hl : ((x.take k).drop b).length = k - b := by rw [List.length_drop, List.length_take]; have := hi.kl; lia
  refine ⟨⟨hi.kl, by rw [← hr]; simp, hr2, ?_, ?_⟩, hbk⟩
  · have := h.len
    rw [List.length_append, List.length_singleton]; lia
  · have := h.sum
    simp only [List.map_append, List.sum_append, List.map_cons, List.map_nil, List.sum_cons, List.sum_nil, hl]; lia
theorem Outer.stop {w : Int} {x : T} {R : List T} {k : Nat} (h : Outer w x R k) (hlt : ¬ w < costs (x.drop k)) : markedL w x = joinL [10] (R ++ tailM w x (x.drop k)) := by
  have hr := h.rows
  have hr2 := h.rest
  rw [rowsR_end hlt] at hr hr2
  rw [List.append_nil] at hr
  show joinL [10] ((rowsR w x).1 ++ tailM w x (rowsR w x).2) = _
  rw [← hr, ← hr2]
theorem drop_dropLast (x : T) (k : Nat) : x.dropLast.drop k = (x.drop k).dropLast := by
  rw [List.dropLast_eq_take, List.dropLast_eq_take, List.drop_take, List.length_drop]
  congr 1; lia
theorem costs_map (x : T) (k : Nat) : ((x.map cost).drop k).sum = costs (x.drop k) := by unfold costs; rw [List.map_drop]
theorem tail_one (x : T) (c : Nat) : x.drop (x.length - 1) = [c] ↔ x.getLast? = some c := by
  rcases List.eq_nil_or_concat x with rfl | ⟨r, d, rfl⟩
  · simp
  · simp
theorem tailM_no {w : Int} {x r : T} (h1 : x.getLast? ≠ some 32) (h2 : x.getLast? ≠ some 9) : tailM w x r = [r] := by unfold tailM; rw [if_neg (fun q => q.elim h1 h2)]
theorem tailM_1 {w : Int} {x r : T} (h1 : x.getLast? = some 32 ∨ x.getLast? = some 9) (h2 : w - costs r > 1) : tailM w x r = [r.dropLast ++ [256 + x.getLastD 0]] := by unfold tailM; rw [if_pos h1, if_pos h2]
theorem tailM_2 {w : Int} {x r : T} (h1 : x.getLast? = some 32 ∨ x.getLast? = some 9) (h2 : w - costs r = 1) : tailM w x r = [r, []] := by unfold tailM; rw [if_pos h1, if_neg (by lia), if_pos h2]
theorem tailM_3 {w : Int} {x r : T} (h1 : x.getLast? = some 32 ∨ x.getLast? = some 9) (h2 : ¬ w - costs r > 1) (h3 : w - costs r ≠ 1) : tailM w x r = [r.dropLast, [256 + x.getLastD 0]] := by unfold tailM; rw [if_pos h1, if_neg h2, if_neg h3]
end
section
open PySem PySem.Builtin.Str PySem.StrLaws
set_option Elab.async false
set_option maxRecDepth 100000
set_option linter.unusedSimpArgs false
set_option linter.unusedVariables false
noncomputable def vM (c : Nat) : Prop := (c < 256 ∧ c ≠ 13) ∨ c = 288 ∨ c = 265
noncomputable def VM (m : T) : Prop := ∀ c ∈ m, vM c
noncomputable def encM (c : Nat) : T := if c = 10 then [61, 10] else if c = 288 then [61, 50, 48] else if c = 265 then [61, 48, 57] else if safe c then [c] else quoteT c
noncomputable def encA (m : T) : T := (m.map encM).flatten
noncomputable def unq (c : Nat) : Nat := unq2 (unq1 c)
noncomputable def D (m : T) : T := (m.filter (· != 10)).map unq
theorem encA_nil : encA [] = [] := rfl
theorem encA_cons (c : Nat) (m : T) : encA (c :: m) = encM c ++ encA m := rfl
theorem encA_app (x y : T) : encA (x ++ y) = encA x ++ encA y := by unfold encA; rw [List.map_append, List.flatten_append]
theorem encA_one (c : Nat) : encA [c] = encM c := by simp [encA]
theorem D_app (x y : T) : D (x ++ y) = D x ++ D y := by unfold D; rw [List.filter_append, List.map_append]
theorem VM_app {x y : T} : VM (x ++ y) ↔ VM x ∧ VM y := by
  unfold VM; constructor
  · exact fun h => ⟨fun c hc => h c (List.mem_append_left _ hc), fun c hc => h c (List.mem_append_right _ hc)⟩
  · rintro ⟨h1, h2⟩ c hc; exact (List.mem_append.mp hc).elim (h1 c) (h2 c)
theorem VM_cons {c : Nat} {y : T} : VM (c :: y) ↔ vM c ∧ VM y := by
  unfold VM; simp [List.forall_mem_cons]
theorem VM_sub {x y : T} (h : VM y) (s : ∀ c ∈ x, c ∈ y) : VM x := fun c hc => h c (s c hc)
theorem vM_lt {c : Nat} (h : vM c) : c < 289 := by unfold vM at h; lia
noncomputable def kindOk (c : Nat) : Bool :=
  if c = 10 then true else
  if safe c && c != 61 && c != 10 && c < 256 then encM c == [c] && unq c == c
  else (match encM c with
    | [61, a, b] => isHex a && isHex b && 16 * hv a + hv b == unq c && a != 61 && b != 61 && a != 10 && b != 10 && a != 47 && b != 47 && a != 46 && b != 46 && !Unicode.isSpace b && c != 46 && c != 47 && c != 32 && c != 9
    | _ => false)
theorem kind_all : (List.range 289).all (fun c => !(decide ((c < 256 ∧ c ≠ 13) ∨ c = 288 ∨ c = 265)) || kindOk c) = true := by decide +kernel
theorem kind_at {c : Nat} (h : vM c) : kindOk c = true := by
  have := List.all_eq_true.mp kind_all c (by simpa using vM_lt h)
  unfold vM at h
  rw [Bool.or_eq_true] at this
  rcases this with h2 | h2
  · simp [h] at h2
  · exact h2
inductive Kind (c : Nat) : Prop
  | nl (h : c = 10) (e : encM c = [61, 10])
  | raw (h10 : c ≠ 10) (hs : safe c = true) (h61 : c ≠ 61) (hlt : c < 256) (e : encM c = [c]) (hu : unq c = c)
  | esc (a b : Nat) (h10 : c ≠ 10) (e : encM c = [61, a, b]) (ha : isHex a = true) (hb : isHex b = true) (hu : 16 * hv a + hv b = unq c) (a61 : a ≠ 61) (b61 : b ≠ 61) (a10 : a ≠ 10) (b10 : b ≠ 10) (a47 : a ≠ 47) (b47 : b ≠ 47) (a46 : a ≠ 46) (b46 : b ≠ 46) (bs : Unicode.isSpace b = false) (h46 : c ≠ 46) (h47 : c ≠ 47) (h32 : c ≠ 32) (h9 : c ≠ 9)
theorem kind {c : Nat} (h : vM c) : Kind c := by
  have h1 := kind_at h
  unfold kindOk at h1
  split at h1
  · rename_i e; exact .nl e (by rw [e]; rfl)
  · rename_i h10
    split at h1
    · rename_i hs
      simp only [Bool.and_eq_true, bne_iff_ne, decide_eq_true_eq, ne_eq] at hs
      simp only [Bool.and_eq_true, beq_iff_eq] at h1
      exact .raw h10 hs.1.1.1 hs.1.1.2 hs.2 h1.1 h1.2
    · split at h1
      · rename_i a b e
        simp only [Bool.and_eq_true, bne_iff_ne, beq_iff_eq, ne_eq, Bool.not_eq_true'] at h1
        obtain ⟨⟨⟨⟨⟨⟨⟨⟨⟨⟨⟨⟨⟨⟨⟨ha, hb⟩, hu⟩, a61⟩, b61⟩, a10⟩, b10⟩, a47⟩, b47⟩, a46⟩, b46⟩, bs⟩, h46⟩, h47⟩, h32⟩, h9⟩ := h1
        exact .esc a b h10 e ha hb hu a61 b61 a10 b10 a47 b47 a46 b46 bs h46 h47 h32 h9
      · cases h1
theorem unq_ten {c : Nat} (h : vM c) (h10 : c ≠ 10) : unq c ≠ 10 := by
  unfold vM at h; unfold unq unq2 unq1
  split <;> split <;> lia
theorem encM_ne (c : Nat) : encM c ≠ [] := by
  unfold encM quoteT; repeat (first | split | simp)
theorem encA_eq_nil {m : T} : encA m = [] ↔ m = [] := by
  constructor
  · intro h; cases m with
    | nil => rfl
    | cons c r => rw [encA_cons] at h; exact absurd (List.append_eq_nil_iff.mp h).1 (encM_ne c)
  · rintro rfl; rfl
theorem splitL_pre (d : Nat) : ∀ (p q : T), d ∉ p → splitL d (p ++ q) = (p ++ (splitL d q).headD []) :: (splitL d q).tail
  | [], q, _ => by
    cases h : splitL d q with
    | nil => exact absurd h (splitL_ne d q)
    | cons a r => rw [List.nil_append, h]; rfl
  | c :: p, q, h => by
    show splitL d (c :: (p ++ q)) = _
    rw [splitL, if_neg (by intro e; exact h (by rw [e]; exact .head _)), splitL_pre d p q (fun m => h (.tail _ m))]
    rfl
theorem splitL_cons_ne {d c : Nat} (h : c ≠ d) (q : T) : splitL d (c :: q) = (c :: (splitL d q).headD []) :: (splitL d q).tail := by
  have := splitL_pre d [c] q (by simpa using fun e => h e.symm)
  exact this
theorem free_enc {c d : Nat} (h : vM c) (hd : d = 47 ∨ d = 46) (hc : c ≠ d) : d ∉ encM c := by
  rcases kind h with ⟨h1, e⟩ | ⟨_, _, _, _, e, _⟩ | ⟨a, b, _, e, _, _, _, _, _, _, _, a47, b47, a46, b46⟩
  · rw [e]; simp; lia
  · rw [e]; simp; lia
  · rw [e]; simp; lia
theorem self_enc {d : Nat} (hd : d = 47 ∨ d = 46) : encM d = [d] := by rcases hd with rfl | rfl <;> decide
theorem split_enc {d : Nat} (hd : d = 47 ∨ d = 46) : ∀ m : T, VM m → splitL d (encA m) = (splitL d m).map encA
  | [], _ => rfl
  | c :: r, h => by
    have ih := split_enc hd r (VM_cons.mp h).2
    rw [encA_cons]
    by_cases hc : c = d
    · subst hc
      rw [self_enc hd]
      show splitL c (c :: encA r) = _
      rw [splitL, if_pos rfl, splitL, if_pos rfl, ih]; rfl
    · rw [splitL_pre d _ _ (free_enc (VM_cons.mp h).1 hd hc), ih, splitL_cons_ne hc]
      cases hs : splitL d r with
      | nil => exact absurd hs (splitL_ne d r)
      | cons a q => simp [encA_cons]
theorem join_enc (d : Nat) (he : encM d = [d]) : ∀ ps : List T, encA (joinL [d] ps) = joinL [d] (ps.map encA)
  | [] => rfl
  | [p] => rfl
  | p :: q :: r => by
    show encA (p ++ [d] ++ joinL [d] (q :: r)) = encA p ++ [d] ++ joinL [d] ((q :: r).map encA)
    rw [encA_app, encA_app, encA_one, he, join_enc d he (q :: r)]
theorem joinNl_enc : ∀ ps : List T, encA (joinL [10] ps) = joinL [61, 10] (ps.map encA)
  | [] => rfl
  | [p] => rfl
  | p :: q :: r => by
    show encA (p ++ [10] ++ joinL [10] (q :: r)) = encA p ++ [61, 10] ++ joinL [61, 10] ((q :: r).map encA)
    rw [encA_app, encA_app, encA_one, joinNl_enc (q :: r)]; rfl
theorem decR_row : ∀ (m y : T), VM m → 10 ∉ m → y ≠ [] → decR (encA m ++ y) = m.map unq ++ decR y
  | [], y, _, _, _ => rfl
  | c :: r, y, h, h10, hy => by
    obtain ⟨hc, hr⟩ := VM_cons.mp h
    have ih := decR_row r y hr (fun e => h10 (.tail _ e)) hy
    have hne : encA r ++ y ≠ [] := by intro e; exact hy (List.append_eq_nil_iff.mp e).2
    rw [encA_cons, List.append_assoc]
    rcases kind hc with ⟨h1, e⟩ | ⟨_, _, h61, _, e, hu⟩ | ⟨a, b, _, e, ha, hb, hu, _⟩
    · exact absurd h1.symm (fun e => h10 (by rw [e]; exact .head _))
    · rw [e]; show decR (c :: (encA r ++ y)) = _
      rw [decR_plain h61, if_neg hne, ih, List.map_cons, hu]; rfl
    · rw [e]; show decR (61 :: a :: b :: (encA r ++ y)) = _
      rw [decR_hex ha hb, if_neg hne, ih, List.map_cons, hu]; rfl
theorem decR_last : ∀ (m : T), VM m → 10 ∉ m → m ≠ [] → decR (encA m) = m.map unq ++ [10] := by
  intro m
  rcases List.eq_nil_or_concat m with rfl | ⟨r, c, rfl⟩
  · intro _ _ h; exact absurd rfl h
  · intro h h10 _
    rw [List.concat_eq_append] at *
    obtain ⟨hr, hc⟩ := VM_app.mp h
    have hc := (VM_cons.mp hc).1
    rw [encA_app, encA_one, decR_row r _ hr (fun e => h10 (List.mem_append_left _ e)) (encM_ne c), List.map_append, List.append_assoc]
    congr 1
    rcases kind hc with ⟨h1, e⟩ | ⟨_, _, h61, _, e, hu⟩ | ⟨a, b, _, e, ha, hb, hu, _⟩
    · exact absurd h1.symm (fun e => h10 (by rw [e]; simp))
    · rw [e, decR_plain h61, if_pos rfl]; simp [hu]
    · rw [e, decR_hex ha hb, if_pos rfl]; simp [hu]
theorem rstripP_snoc (p : Nat → Bool) (x : T) (c : Nat) : rstripP p (x ++ [c]) = if p c then rstripP p x else x ++ [c] := by
  unfold rstripP
  rw [List.reverse_append]
  show ((c :: x.reverse).dropWhile p).reverse = _
  rw [List.dropWhile_cons]
  split
  · rfl
  · simp
theorem rstripP_keep {p : Nat → Bool} {y : T} {c : Nat} (x : T) (hy : y.getLast? = some c) (h : p c = false) : rstripP p (x ++ y) = x ++ y := by
  rcases List.eq_nil_or_concat y with rfl | ⟨r, d, rfl⟩
  · cases hy
  · rw [List.concat_eq_append] at *
    rw [List.getLast?_append] at hy
    simp at hy
    subst hy
    rw [← List.append_assoc, rstripP_snoc, h]; rfl
theorem bl_space : (List.range 256).all (fun c => if isBl c then safe c && Unicode.isSpace c && c != 10 else !(safe c) || !(Unicode.isSpace c)) = true := by decide +kernel
theorem isBl_lt {c : Nat} (h : isBl c = true) : c = 32 ∨ c = 9 := by simpa [isBl] using h
theorem rstrip_enc (m : T) (h : VM m) (h10 : 10 ∉ m) : rstripP Unicode.isSpace (encA m) = encA (rstripP isBl m) := by
  generalize hn : m.length = n
  induction n generalizing m with
  | zero => have : m = [] := List.length_eq_zero_iff.mp hn; subst this; rfl
  | succ n ih =>
    rcases List.eq_nil_or_concat m with rfl | ⟨r, c, rfl⟩
    · cases hn
    rw [List.concat_eq_append] at *
    obtain ⟨hr, hc⟩ := VM_app.mp h
    have hc := (VM_cons.mp hc).1
    rw [encA_app, encA_one, rstripP_snoc isBl]
    rcases kind hc with ⟨h1, e⟩ | ⟨_, hs, h61, hlt, e, hu⟩ | ⟨a, b, _, e, ha, hb, hu, _, _, _, _, _, _, _, _, bs, _, _, h32, h9⟩
    · exact absurd h1.symm (fun e => h10 (by rw [e]; simp))
    · have hb := List.all_eq_true.mp bl_space c (by simpa using hlt)
      cases hbl : isBl c
      · rw [hbl, hs] at hb
        simp at hb
        rw [if_neg (by decide), encA_app, encA_one, e]
        exact rstripP_keep _ rfl hb
      · rw [hbl, hs] at hb
        simp at hb
        rw [if_pos rfl, e, rstripP_snoc, hb.1, if_pos rfl]
        exact ih r hr (fun e => h10 (List.mem_append_left _ e)) (by simpa using hn)
    · have hbl : isBl c = false := by unfold isBl; simp [h32, h9]
      rw [hbl, if_neg (by decide), encA_app, encA_one, e]
      exact rstripP_keep _ rfl bs
theorem decLine_soft (m : T) (h : VM m) (h10 : 10 ∉ m) : decLine (encA m ++ [61]) = m.map unq := by
  unfold decLine
  rw [rstripP_keep (c := 61) _ rfl (by decide +kernel), if_neg (by simp)]
  show decR _ = _
  rw [decR_row m [61] h h10 (by simp), decR_end, List.append_nil]
theorem rstripP_mem {p : Nat → Bool} {x : T} {c : Nat} (h : c ∈ rstripP p x) : c ∈ x := by
  unfold rstripP at h
  rw [List.mem_reverse] at h
  exact List.mem_reverse.mp ((List.dropWhile_suffix p).subset h)
theorem decLine_last (m : T) (h : VM m) (h10 : 10 ∉ m) : decLine (encA m) = (rstripP isBl m).map unq ++ [10] := by
  unfold decLine
  rw [rstrip_enc m h h10]
  by_cases e : rstripP isBl m = []
  · rw [e]; rfl
  · rw [if_neg (fun q => e (encA_eq_nil.mp q))]
    exact decR_last _ (VM_sub h fun c hc => rstripP_mem hc) (fun hm => h10 (rstripP_mem hm)) e
end
section
open PySem PySem.Builtin.Str PySem.StrLaws
set_option Elab.async false
set_option maxRecDepth 100000
set_option linter.unusedSimpArgs false
set_option linter.unusedVariables false
theorem joinL_snoc (sep p : T) : ∀ ps : List T, joinL sep (ps ++ [p]) = if ps = [] then p else joinL sep ps ++ sep ++ p
  | [] => rfl
  | [q] => by simp [joinL]
  | q :: r :: t => by
    have ih := joinL_snoc sep p (r :: t)
    rw [if_neg (by simp)] at ih
    rw [if_neg (by simp)]
    show q ++ sep ++ joinL sep ((r :: t) ++ [p]) = q ++ sep ++ joinL sep (r :: t) ++ sep ++ p
    rw [ih]; simp only [List.append_assoc]
theorem linesL_app : ∀ (p q : T), 10 ∉ p → linesL (p ++ 10 :: q) = p :: linesL q
  | [], q, _ => by simp [linesL]
  | d :: r, q, h => by
    show linesL (d :: (r ++ 10 :: q)) = _
    rw [linesL, if_neg (by intro e; exact h (by rw [e]; exact .head _)), linesL_app r q (fun m => h (.tail _ m))]
theorem linesL_free : ∀ (p : T), 10 ∉ p → p ≠ [] → linesL p = [p]
  | [], _, h => absurd rfl h
  | [d], h, _ => by
    rw [linesL, if_neg (by intro e; exact h (by rw [e]; exact .head _))]; rfl
  | d :: e :: r, h, _ => by
    rw [linesL, if_neg (by intro e; exact h (by rw [e]; exact .head _)), linesL_free (e :: r) (fun m => h (.tail _ m)) (by simp)]
theorem enc_free : ∀ (m : T), VM m → 10 ∉ m → 10 ∉ encA m
  | [], _, _ => by simp [encA]
  | c :: r, h, h10 => by
    rw [encA_cons]
    obtain ⟨hc, hr⟩ := VM_cons.mp h
    have ih := enc_free r hr (fun e => h10 (.tail _ e))
    have h1 : 10 ∉ encM c := by
      rcases kind hc with ⟨h1, e⟩ | ⟨n10, _, _, _, e, _⟩ | ⟨a, b, _, e, _, _, _, _, _, a10, b10, _⟩
      · exact absurd h1.symm (fun e => h10 (by rw [e]; exact .head _))
      · rw [e]; simp; lia
      · rw [e]; simp; lia
    intro h; exact (List.mem_append.mp h).elim h1 ih
noncomputable def rowsE : List T → List T
  | [] => []
  | [r] => [encA r]
  | r :: q :: t => (encA r ++ [61]) :: rowsE (q :: t)
theorem split_rows : ∀ rows : List T, rows ≠ [] → (∀ r ∈ rows, VM r ∧ 10 ∉ r) → splitL 10 (joinL [61, 10] (rows.map encA)) = rowsE rows
  | [], h, _ => absurd rfl h
  | [r], _, h => splitL_free 10 _ (enc_free r (h r (.head _)).1 (h r (.head _)).2)
  | r :: q :: t, _, h => by
    show splitL 10 (encA r ++ [61, 10] ++ joinL [61, 10] ((q :: t).map encA)) = _
    have e : encA r ++ [61, 10] ++ joinL [61, 10] ((q :: t).map encA) = (encA r ++ [61]) ++ 10 :: joinL [61, 10] ((q :: t).map encA) := by simp
    rw [e, splitL_app 10 _ _ (by intro hm; rcases List.mem_append.mp hm with hm | hm
                                 · exact enc_free r (h r (.head _)).1 (h r (.head _)).2 hm
                                 · simp at hm), split_rows (q :: t) (by simp) fun p hp => h p (.tail _ hp)]
    rfl
theorem lines_rows : ∀ rows : List T, rows ≠ [] → (∀ r ∈ rows, VM r ∧ 10 ∉ r) → linesL (joinL [61, 10] (rows.map encA)) = rows.dropLast.map (fun r => encA r ++ [61]) ++ (if rows.getLastD [] = [] then [] else [encA (rows.getLastD [])])
  | [], h, _ => absurd rfl h
  | [r], _, h => by
    show linesL (encA r) = [] ++ (if r = [] then [] else [encA r])
    split
    · rename_i e; rw [e]; rfl
    · rename_i e; exact linesL_free _ (enc_free r (h r (.head _)).1 (h r (.head _)).2) (fun q => e (encA_eq_nil.mp q))
  | r :: q :: t, _, h => by
    show linesL (encA r ++ [61, 10] ++ joinL [61, 10] ((q :: t).map encA)) = _
    have e : encA r ++ [61, 10] ++ joinL [61, 10] ((q :: t).map encA) = (encA r ++ [61]) ++ 10 :: joinL [61, 10] ((q :: t).map encA) := by simp
    rw [e, linesL_app _ _ (by intro hm; rcases List.mem_append.mp hm with hm | hm
                              · exact enc_free r (h r (.head _)).1 (h r (.head _)).2 hm
                              · simp at hm), lines_rows (q :: t) (by simp) fun p hp => h p (.tail _ hp)]
    rfl
theorem rowsE_eq : ∀ rows : List T, rows ≠ [] → rowsE rows = rows.dropLast.map (fun r => encA r ++ [61]) ++ [encA (rows.getLastD [])]
  | [], h => absurd rfl h
  | [r], _ => rfl
  | r :: q :: t, _ => by
    show (encA r ++ [61]) :: rowsE (q :: t) = _
    rw [rowsE_eq (q :: t) (by simp)]; rfl
theorem rows_ok {m : T} (h : VM m) : ∀ r ∈ splitL 10 m, VM r ∧ 10 ∉ r := by
  intro r hr
  refine ⟨fun c hc => ?_, splitL_mem_free 10 m r hr⟩
  have : c ∈ (splitL 10 m).flatten := List.mem_flatten.mpr ⟨r, hr, hc⟩
  rw [splitL_flat] at this
  exact h c (List.mem_filter.mp this).1
theorem enc_join (m : T) : encA m = joinL [61, 10] ((splitL 10 m).map encA) := by
  conv => lhs; rw [← join_splitL 10 m]
  exact joinNl_enc _
theorem last_mem {rows : List T} (h : rows ≠ []) : rows.getLastD [] ∈ rows := by
  rw [List.getLastD_eq_getLast?, List.getLast?_eq_some_getLast h]; exact List.getLast_mem h
theorem snoc_of {α : Type} {rows : List α} (d : α) (h : rows ≠ []) : rows = rows.dropLast ++ [rows.getLastD d] := by
  rw [List.getLastD_eq_getLast?, List.getLast?_eq_some_getLast h]; exact (List.dropLast_concat_getLast h).symm
theorem unq_all (x : T) : (x.map unq1).map unq2 = x.map unq := by rw [List.map_map]; rfl
theorem readL_eq (m : T) : readL m = (splitL 10 m).dropLast.flatten.map unq ++ (rstripP isBl ((splitL 10 m).getLastD [])).map unq := by
  unfold readL; rw [unq_all, List.map_append]
theorem map_flat (xs : List T) : (xs.map (fun r => r.map unq)).flatten = xs.flatten.map unq := by rw [List.map_flatten]
theorem last_enc_ne {m : T} (h : VM m) (hl : (splitL 10 m).getLastD [] ≠ []) : (encA m).getLast? ≠ some 10 := by
  have hne := splitL_ne 10 m
  have hrow := rows_ok h _ (last_mem hne)
  rw [enc_join m, snoc_of [] hne, List.map_append]
  show (joinL _ (_ ++ [encA _])).getLast? ≠ _
  rw [joinL_snoc]
  have h0 : encA ((splitL 10 m).getLastD []) ≠ [] := fun e => hl (encA_eq_nil.mp e)
  have h1 : (encA ((splitL 10 m).getLastD [])).getLast? ≠ some 10 := fun e => enc_free _ hrow.1 hrow.2 (List.mem_of_getLast? e)
  have h2 : ∀ y : T, (y ++ encA ((splitL 10 m).getLastD [])).getLast? = (encA ((splitL 10 m).getLastD [])).getLast? := by
    intro y
    rw [List.getLast?_append]
    rw [List.getLast?_eq_some_getLast h0]; rfl
  split
  · exact h1
  · rw [h2]; exact h1
theorem decode_enc {m : T} (h : VM m) : decodeL (encA m) = readL m := by
  have hne := splitL_ne 10 m
  have hok := rows_ok h
  have hlast := hok _ (last_mem hne)
  have hpre : ((splitL 10 m).dropLast.map (fun r => encA r ++ [61])).map decLine = (splitL 10 m).dropLast.map (fun r => r.map unq) := by
    rw [List.map_map]
    apply List.map_congr_left
    intro r hr
    have := hok r ((List.dropLast_sublist _).subset hr)
    exact decLine_soft r this.1 this.2
  unfold decodeL
  by_cases h0 : encA m = []
  · rw [if_pos h0, encA_eq_nil.mp h0]; rfl
  rw [if_neg h0]
  have hlines : linesL (encA m) = (splitL 10 m).dropLast.map (fun r => encA r ++ [61]) ++ (if (splitL 10 m).getLastD [] = [] then [] else [encA ((splitL 10 m).getLastD [])]) := by
    conv => lhs; rw [enc_join m]
    exact lines_rows _ hne hok
  rw [hlines, List.map_append, hpre, List.flatten_append, map_flat, readL_eq]
  by_cases hl : (splitL 10 m).getLastD [] = []
  · rw [if_pos hl, hl]
    have hx : (encA m).getLast? = some 10 := by
      have hm := snoc_of [] hne
      rw [hl] at hm
      rw [enc_join m, hm, List.map_append]
      show (joinL _ (_ ++ [encA []])).getLast? = _
      rw [joinL_snoc]
      split
      · rename_i e
        exfalso; apply h0
        rw [enc_join m, hm, List.map_append, e]; rfl
      · rw [encA_nil, List.append_nil, List.getLast?_append]; rfl
    simp [hx, rstripP]
  · rw [if_neg hl]
    simp only [List.map_cons, List.map_nil, List.flatten_cons, List.flatten_nil, List.append_nil]
    rw [decLine_last _ hlast.1 hlast.2]
    have hx := last_enc_ne h hl
    rw [if_pos ⟨hx, by rw [← List.append_assoc, List.getLast?_append]; rfl⟩]
    rw [← List.append_assoc, List.dropLast_concat]
theorem no_ten {m : T} (h : VM m) (h10 : 10 ∉ m) : (m.map unq).getLast? ≠ some 10 := by
  intro e
  obtain ⟨c, hc, he⟩ := List.mem_map.mp (List.mem_of_getLast? e)
  exact unq_ten (h c hc) (fun q => h10 (by rw [← q]; exact hc)) he
theorem decode_soft {r : T} (h : VM r) (h10 : 10 ∉ r) : decodeL (encA r ++ [61]) = readL (r ++ [10]) := by
  have e : splitL 10 (r ++ [10]) = [r, []] := splitL_app 10 r [] h10
  rw [readL_eq, e]
  unfold decodeL
  rw [if_neg (by simp), linesL_free _ (by intro hm; rcases List.mem_append.mp hm with hm | hm
                                          · exact enc_free r h h10 hm
                                          · simp at hm) (by simp)]
  simp only [List.map_cons, List.map_nil, List.flatten_cons, List.flatten_nil, List.append_nil, decLine_soft r h h10]
  rw [if_neg (fun q => no_ten h h10 q.2)]
  have e2 : [r, ([] : T)].dropLast.flatten = r := by simp
  rw [e2]
  show _ = r.map unq ++ []
  simp
theorem decode_rows {m : T} (h : VM m) : (splitL 10 (encA m)).map decodeL = readRowsL m := by
  have hne := splitL_ne 10 m
  have hok := rows_ok h
  have e : splitL 10 (encA m) = rowsE (splitL 10 m) := by
    conv => lhs; rw [enc_join m]
    exact split_rows _ hne hok
  rw [e, rowsE_eq _ hne, List.map_append, List.map_map]
  unfold readRowsL
  congr 1
  · apply List.map_congr_left
    intro r hr
    have := hok r ((List.dropLast_sublist _).subset hr)
    exact decode_soft this.1 this.2
  · show [decodeL _] = _
    rw [decode_enc (hok _ (last_mem hne)).1]
theorem head_enc {d : Nat} (hd : d = 47 ∨ d = 46) {m : T} (h : VM m) : (encA m).take 1 = [d] ↔ m.take 1 = [d] := by
  cases m with
  | nil => exact Iff.rfl
  | cons c r =>
    rw [encA_cons]
    have hc := (VM_cons.mp h).1
    by_cases e : c = d
    · subst e; rw [self_enc hd]; simp
    · have hf := free_enc hc hd e
      constructor
      · intro q
        cases hm : encM c with
        | nil => exact absurd hm (encM_ne c)
        | cons a t => rw [hm] at q hf; simp at q; exact absurd q (fun q => hf (by rw [q]; exact .head _))
      · intro q; simp at q; exact absurd q e
theorem end_enc {d : Nat} (hd : d = 47 ∨ d = 46) {m : T} (h : VM m) : (encA m).getLast? = some d ↔ m.getLast? = some d := by
  rcases List.eq_nil_or_concat m with rfl | ⟨r, c, rfl⟩
  · exact Iff.rfl
  · rw [List.concat_eq_append] at *
    have hc := (VM_cons.mp (VM_app.mp h).2).1
    rw [encA_app, encA_one]
    have e1 : ∀ y : T, (y ++ encM c).getLast? = (encM c).getLast? := by
      intro y; rw [List.getLast?_append, List.getLast?_eq_some_getLast (encM_ne c)]; rfl
    rw [e1]
    have e2 : (r ++ [c]).getLast? = some c := by rw [List.getLast?_append]; rfl
    rw [e2]
    by_cases e : c = d
    · subst e; rw [self_enc hd]; simp
    · have hf := free_enc hc hd e
      constructor
      · intro q; exact absurd (List.mem_of_getLast? q) hf
      · intro q; injection q with q; exact absurd q e
theorem stepJ_enc {a b : T} (ha : VM a) (hb : VM b) : stepJ (encA a) (encA b) = encA (stepJ a b) := by
  unfold stepJ
  simp only [propext (head_enc (.inl rfl) hb), propext (encA_eq_nil (m := a)), propext (end_enc (.inl rfl) ha)]
  split
  · rfl
  · split
    · rw [encA_app]
    · rw [encA_app, encA_cons]; rfl
theorem vM47 : vM 47 := .inl ⟨by decide, by decide⟩
theorem vM46 : vM 46 := .inl ⟨by decide, by decide⟩
theorem VM_stepJ {a b : T} (ha : VM a) (hb : VM b) : VM (stepJ a b) := by
  unfold stepJ
  split
  · exact hb
  · split
    · exact VM_app.mpr ⟨ha, hb⟩
    · exact VM_app.mpr ⟨ha, VM_cons.mpr ⟨vM47, hb⟩⟩
theorem joinPy_enc : ∀ (ps : List T) (a : T), VM a → (∀ p ∈ ps, VM p) → joinPy (encA a) (ps.map encA) = encA (joinPy a ps) ∧ VM (joinPy a ps)
  | [], a, h, _ => ⟨rfl, h⟩
  | b :: r, a, ha, h => by
    have hb := h b (.head _)
    show (r.map encA).foldl stepJ (stepJ (encA a) (encA b)) = encA (r.foldl stepJ (stepJ a b)) ∧ VM (r.foldl stepJ (stepJ a b))
    rw [stepJ_enc ha hb]
    exact joinPy_enc r (stepJ a b) (VM_stepJ ha hb) fun p hp => h p (.tail _ hp)
theorem ends_slash : ∀ xs : List T, (xs.map addSlash).flatten = [] ∨ (xs.map addSlash).flatten.getLast? = some 47 := by
  intro xs
  rcases List.eq_nil_or_concat xs with rfl | ⟨r, c, rfl⟩
  · exact .inl rfl
  · right
    rw [List.concat_eq_append, List.map_append, List.flatten_append]
    simp only [List.map_cons, List.map_nil, List.flatten_cons, List.flatten_nil, List.append_nil]
    have : (addSlash c).getLast? = some 47 := by
      unfold addSlash; split
      · assumption
      · rw [List.getLast?_append]; rfl
    rw [List.getLast?_append, this]; rfl
theorem joined_snoc {ts : List T} (hne : ts ≠ []) (b : T) : joinedL (ts ++ [b]) = stepJ (joinedL ts) b := by
  unfold joinedL
  rw [beginL_snoc, List.dropLast_concat]
  have eb : (ts ++ [b]).getLastD [] = b := by simp
  rw [eb]
  by_cases h47 : b.take 1 = [47]
  · rw [if_pos h47]
    have : 0 + ts.length = ts.length := Nat.zero_add _
    rw [this, List.drop_length]
    unfold stepJ; rw [if_pos (.inl h47)]; rfl
  · rw [if_neg h47]
    have hb := beginL_lt hne
    generalize beginL ts 0 0 = k at hb ⊢
    have e1 : ts.drop k = ts.dropLast.drop k ++ [ts.getLastD []] := by
      conv => lhs; rw [snoc_of [] hne]
      rw [List.drop_append_of_le_length (by rw [List.length_dropLast]; lia)]
    rw [e1, List.filter_append, List.map_append, List.flatten_append]
    have hX := ends_slash ((ts.dropLast.drop k).filter (· != []))
    generalize (((ts.dropLast.drop k).filter (· != [])).map addSlash).flatten = X at hX ⊢
    generalize ts.getLastD [] = l
    unfold stepJ
    by_cases hl : l = []
    · subst hl
      simp only [List.append_nil]
      have e2 : (List.map addSlash (List.filter (fun x => x != []) [([] : T)])).flatten = [] := rfl
      rw [e2, List.append_nil]
      by_cases hX0 : X = []
      · rw [if_pos (.inr hX0), hX0]; rfl
      · rw [if_neg (fun q => q.elim h47 hX0), if_pos (hX.resolve_left hX0)]
    · have e2 : (List.map addSlash (List.filter (fun x => x != []) [l])).flatten = addSlash l := by
        rw [List.filter_cons, if_pos (by simpa using hl)]; simp
      rw [e2, if_neg (fun q => q.elim h47 fun q => hl (List.append_eq_nil_iff.mp q).2)]
      have e3 : (X ++ l).getLast? = l.getLast? := by rw [List.getLast?_append, List.getLast?_eq_some_getLast hl]; rfl
      rw [e3]
      unfold addSlash
      split
      · rfl
      · simp
theorem joinPy_joined : ∀ (ps : List T) (a : T), joinPy a ps = joinedL (a :: ps) := by
  intro ps a
  generalize hn : ps.length = n
  induction n generalizing ps with
  | zero =>
    have : ps = [] := List.length_eq_zero_iff.mp hn
    subst this
    show a = joinedL [a]
    unfold joinedL
    simp
  | succ n ih =>
    rcases List.eq_nil_or_concat ps with rfl | ⟨r, c, rfl⟩
    · cases hn
    · rw [List.concat_eq_append] at *
      have e : a :: (r ++ [c]) = (a :: r) ++ [c] := rfl
      rw [e, joined_snoc (by simp)]
      rw [← ih r (by simpa using hn)]
      unfold joinPy
      rw [List.foldl_append]; rfl
end
section
open PySem PySem.Builtin.Str PySem.StrLaws
set_option Elab.async false
set_option maxRecDepth 100000
set_option linter.unusedSimpArgs false
set_option linter.unusedVariables false
theorem root_nil (x : T) (h : x.take 1 ≠ [47]) : splitrootL x = ([], x) := by unfold splitrootL; rw [if_pos h]
theorem root_one (x : T) (h : x.take 1 ≠ [47]) : splitrootL (47 :: x) = ([47], x) := by
  unfold splitrootL
  rw [if_neg (by simp), if_pos (.inl (by rw [List.drop_take]; simpa using h))]; rfl
theorem root_three (x : T) : splitrootL (47 :: 47 :: 47 :: x) = ([47], 47 :: 47 :: x) := by
  unfold splitrootL
  rw [if_neg (by simp), if_pos (.inr (by simp))]; rfl
theorem root_dbl (x : T) (h : x.take 1 ≠ [47]) : splitrootL (47 :: 47 :: x) = ([47, 47], x) := by
  unfold splitrootL
  rw [if_neg (by simp), if_neg (by intro q; rcases q with q | q; exact q (by simp); exact h (by simpa using q))]; rfl
theorem head47 {x : T} (h : x.take 1 = [47]) : ∃ r, x = 47 :: r := by
  cases x with
  | nil => cases h
  | cons a r => simp at h; exact ⟨r, by rw [h]⟩
inductive Root (x : T) : T → T → Prop
  | none (h : x.take 1 ≠ [47]) : Root x [] x
  | one (r : T) (e : x = 47 :: r) (h : r.take 1 ≠ [47]) : Root x [47] r
  | two (r : T) (e : x = 47 :: 47 :: r) (h : r.take 1 ≠ [47]) : Root x [47, 47] r
  | three (r : T) (e : x = 47 :: 47 :: 47 :: r) : Root x [47] (47 :: 47 :: r)
theorem root_cases (x : T) : ∃ a b, splitrootL x = (a, b) ∧ Root x a b := by
  by_cases h1 : x.take 1 = [47]
  · obtain ⟨r, rfl⟩ := head47 h1
    by_cases h2 : r.take 1 = [47]
    · obtain ⟨r2, rfl⟩ := head47 h2
      by_cases h3 : r2.take 1 = [47]
      · obtain ⟨r3, rfl⟩ := head47 h3
        exact ⟨_, _, root_three _, .three r3 rfl⟩
      · exact ⟨_, _, root_dbl _ h3, .two r2 rfl h3⟩
    · exact ⟨_, _, root_one _ h2, .one r rfl h2⟩
  · exact ⟨_, _, root_nil _ h1, .none h1⟩
theorem root_enc {m : T} (h : VM m) : splitrootL (encA m) = (encA (splitrootL m).1, encA (splitrootL m).2) := by
  have hd : ∀ {y : T}, VM y → y.take 1 ≠ [47] → (encA y).take 1 ≠ [47] := fun hy q e => q ((head_enc (.inl rfl) hy).mp e)
  have e47 : ∀ y, encA (47 :: y) = 47 :: encA y := fun y => rfl
  obtain ⟨ra, rb, hab, hR⟩ := root_cases m
  rw [hab]
  dsimp only
  cases hR with
  | none h1 => rw [root_nil _ (hd h h1)]; rfl
  | one r e h1 =>
    have hr : VM rb := by rw [e] at h; exact (VM_cons.mp h).2
    conv => lhs; rw [e]
    rw [e47, root_one _ (hd hr h1)]; rfl
  | two r e h1 =>
    have hr : VM rb := by rw [e] at h; exact (VM_cons.mp (VM_cons.mp h).2).2
    conv => lhs; rw [e]
    rw [e47, e47, root_dbl _ (hd hr h1)]; rfl
  | three r e =>
    conv => lhs; rw [e]
    rw [e47, e47, e47, root_three]; rfl
theorem enc_dot {m : T} (h : VM m) : encA m = [46] ↔ m = [46] := by
  constructor
  · intro q
    cases m with
    | nil => cases q
    | cons c r =>
      have hc := (VM_cons.mp h).1
      rw [encA_cons] at q
      by_cases e : c = 46
      · subst e
        have : encA r = [] := by simpa [self_enc (.inr rfl)] using q
        rw [encA_eq_nil.mp this]
      · have hf := free_enc hc (.inr rfl) e
        cases hm : encM c with
        | nil => exact absurd hm (encM_ne c)
        | cons a t => rw [hm] at q hf; simp at q; exact absurd q.1 (fun q => hf (by rw [q]; exact .head _))
  · rintro rfl; rfl
theorem enc_dd {m : T} (h : VM m) : encA m = [46, 46] ↔ m = [46, 46] := by
  constructor
  · intro q
    cases m with
    | nil => cases q
    | cons c r =>
      have hc := (VM_cons.mp h).1
      rw [encA_cons] at q
      by_cases e : c = 46
      · subst e
        have : encA r = [46] := by simpa [self_enc (.inr rfl)] using q
        rw [(enc_dot (VM_cons.mp h).2).mp this]
      · have hf := free_enc hc (.inr rfl) e
        cases hm : encM c with
        | nil => exact absurd hm (encM_ne c)
        | cons a t => rw [hm] at q hf; simp at q; exact absurd q.1 (fun q => hf (by rw [q]; exact .head _))
  · rintro rfl; rfl
theorem getLastD_map (st : List T) : (st.map encA).getLastD [] = encA (st.getLastD []) := by
  rcases List.eq_nil_or_concat st with rfl | ⟨r, c, rfl⟩
  · rfl
  · rw [List.concat_eq_append, List.map_append]; simp
theorem stepN_enc (init : Bool) {st : List T} {c : T} (hs : ∀ p ∈ st, VM p) (hc : VM c) : stepN init (st.map encA) (encA c) = (stepN init st c).map encA ∧ ∀ p ∈ stepN init st c, VM p := by
  have hl : VM (st.getLastD []) := by
    by_cases e : st = []
    · subst e; intro c hc; cases hc
    · exact hs _ (last_mem e)
  unfold stepN
  rw [getLastD_map]
  simp only [propext (encA_eq_nil (m := c)), propext (enc_dot hc), propext (enc_dd hc), propext (enc_dd hl), ne_eq, List.map_eq_nil_iff]
  split
  · exact ⟨rfl, hs⟩
  · split
    · refine ⟨by rw [List.map_append]; rfl, fun p hp => ?_⟩
      rcases List.mem_append.mp hp with hp | hp
      · exact hs p hp
      · rw [List.mem_singleton.mp hp]; exact hc
    · split
      · exact ⟨by rw [List.map_dropLast], fun p hp => hs p ((List.dropLast_sublist _).subset hp)⟩
      · exact ⟨rfl, hs⟩
theorem foldN_enc (init : Bool) : ∀ (cs st : List T), (∀ p ∈ st, VM p) → (∀ p ∈ cs, VM p) → (cs.map encA).foldl (stepN init) (st.map encA) = (cs.foldl (stepN init) st).map encA ∧ ∀ p ∈ cs.foldl (stepN init) st, VM p
  | [], st, hs, _ => ⟨rfl, hs⟩
  | c :: r, st, hs, hc => by
    have := stepN_enc init hs (hc c (.head _))
    show (r.map encA).foldl (stepN init) (stepN init (st.map encA) (encA c)) = _ ∧ _
    rw [this.1]
    exact foldN_enc init r _ this.2 fun p hp => hc p (.tail _ hp)
theorem pieces_VM (d : Nat) {m : T} (h : VM m) : ∀ p ∈ splitL d m, VM p := by
  intro r hr c hc
  have : c ∈ (splitL d m).flatten := List.mem_flatten.mpr ⟨r, hr, hc⟩
  rw [splitL_flat] at this
  exact h c (List.mem_filter.mp this).1
theorem VM_join {d : Nat} (hd : vM d) : ∀ ps : List T, (∀ p ∈ ps, VM p) → VM (joinL [d] ps)
  | [], _ => fun c hc => by cases hc
  | [p], h => h p (.head _)
  | p :: q :: r, h => by
    show VM (p ++ [d] ++ joinL [d] (q :: r))
    exact VM_app.mpr ⟨VM_app.mpr ⟨h p (.head _), VM_cons.mpr ⟨hd, fun c hc => by cases hc⟩⟩, VM_join hd (q :: r) fun p hp => h p (.tail _ hp)⟩
theorem root_VM {m : T} (h : VM m) : VM (splitrootL m).1 ∧ VM (splitrootL m).2 := by
  have n47 : VM [] := fun c hc => by cases hc
  obtain ⟨ra, rb, hab, hR⟩ := root_cases m
  rw [hab]
  dsimp only
  cases hR with
  | none h1 => exact ⟨n47, h⟩
  | one r e h1 => rw [e] at h; exact ⟨VM_cons.mpr ⟨vM47, n47⟩, (VM_cons.mp h).2⟩
  | two r e h1 => rw [e] at h; exact ⟨VM_cons.mpr ⟨vM47, VM_cons.mpr ⟨vM47, n47⟩⟩, (VM_cons.mp (VM_cons.mp h).2).2⟩
  | three r e => rw [e] at h; exact ⟨VM_cons.mpr ⟨vM47, n47⟩, (VM_cons.mp h).2⟩
theorem isEmpty_enc (m : T) : (encA m).isEmpty = m.isEmpty := by
  cases m with
  | nil => rfl
  | cons c r =>
    have : encA (c :: r) ≠ [] := fun e => by have := encA_eq_nil.mp e; cases this
    cases h : encA (c :: r) with
    | nil => exact absurd h this
    | cons a t => rfl
theorem normL_enc {m : T} (h : VM m) : normL (encA m) = encA (normL m) ∧ VM (normL m) := by
  have hr := root_VM h
  have hp := pieces_VM 47 hr.2
  have hf := foldN_enc (!(splitrootL m).1.isEmpty) _ [] (fun p hp => by cases hp) hp
  unfold normL
  rw [root_enc h]
  simp only [isEmpty_enc, split_enc (.inl rfl) _ hr.2, propext (encA_eq_nil (m := m))]
  rw [List.map_nil] at hf
  rw [hf.1, ← join_enc 47 rfl, ← encA_app]
  simp only [propext encA_eq_nil]
  have h46 : VM [46] := VM_cons.mpr ⟨vM46, fun c hc => by cases hc⟩
  split
  · exact ⟨rfl, h46⟩
  · split
    · exact ⟨rfl, h46⟩
    · exact ⟨rfl, VM_app.mpr ⟨hr.1, VM_join vM47 _ hf.2⟩⟩
noncomputable def popN (init : Bool) (st : List T) : Nat → List T
  | 0 => st
  | n + 1 => popN init (stepN init st dd) n
noncomputable def back (cs : List T) : Nat × List T := cs.foldr (fun c st => stepP st c) (0, [])
theorem fold_back (init : Bool) : ∀ (cs st : List T), cs.foldl (stepN init) st = popN init st (back cs).1 ++ (back cs).2.reverse
  | [], st => by simp [back, popN]
  | c :: r, st => by
    have ih := fold_back init r
    show r.foldl (stepN init) (stepN init st c) = popN init st (stepP (back r) c).1 ++ (stepP (back r) c).2.reverse
    rw [ih]
    generalize back r = b
    obtain ⟨d, k⟩ := b
    unfold stepP
    by_cases h1 : c = dd
    · rw [if_pos h1, h1]; rfl
    · rw [if_neg h1]
      by_cases h2 : c ≠ [] ∧ c ≠ [46]
      · rw [if_pos h2]
        have hp : stepN init st c = st ++ [c] := by
          unfold stepN
          rw [if_neg (by rintro (e | e); exact h2.1 e; exact h2.2 e), if_pos (.inl h1)]
        rw [hp]
        cases d with
        | zero => simp [popN]
        | succ d =>
          rw [if_pos (Nat.succ_pos d)]
          show popN init (stepN init (st ++ [c]) dd) d ++ _ = popN init st d ++ _
          have : stepN init (st ++ [c]) dd = st := by
            unfold stepN
            rw [if_neg (by decide), if_neg, if_pos (by simp)]
            · simp
            · rintro (e | e | e)
              · exact e rfl
              · simp at e
              · simp at e; exact h1 e
          rw [this]
      · rw [if_neg h2]
        have hp : stepN init st c = st := by
          unfold stepN
          rw [if_pos (by
            apply Decidable.byContradiction; intro e
            exact h2 ⟨fun q => e (.inl q), fun q => e (.inr q)⟩)]
        rw [hp]
theorem pop_true : ∀ n, popN true [] n = []
  | 0 => rfl
  | n + 1 => pop_true n
theorem step_dd (n : Nat) : stepN false (List.replicate n dd) dd = List.replicate (n + 1) dd := by
  unfold stepN
  rw [if_neg (by decide), if_pos]
  · rw [List.replicate_succ']
  · cases n with
    | zero => exact .inr (.inl ⟨rfl, rfl⟩)
    | succ n => exact .inr (.inr ⟨by simp, by rw [List.replicate_succ']; simp [dd]⟩)
theorem pop_false : ∀ n k, popN false (List.replicate k dd) n = List.replicate (k + n) dd
  | 0, k => rfl
  | n + 1, k => by
    show popN false (stepN false (List.replicate k dd) dd) n = _
    rw [step_dd, pop_false n (k + 1)]
    congr 1; lia
theorem back_nil (cs : List T) : back ([] :: cs) = back cs := by
  show stepP (back cs) [] = _
  unfold stepP
  rw [if_neg (by decide), if_neg (by simp)]
theorem splitL_cons_eq (d : Nat) (r : T) : splitL d (d :: r) = [] :: splitL d r := by rw [splitL, if_pos rfl]
theorem drop47 (r : T) : (47 :: r).dropWhile (· == 47) = r.dropWhile (· == 47) := by simp
theorem keep47 {r : T} (h : r.take 1 ≠ [47]) : r.dropWhile (· == 47) = r := by
  cases r with
  | nil => rfl
  | cons a t =>
    have : a ≠ 47 := fun e => h (by simp [e])
    simp [List.dropWhile_cons, this]
theorem dropWhile_le (r : T) : (r.dropWhile (· == 47)).length ≤ r.length := (List.dropWhile_sublist _).length_le
theorem back_root (x : T) : back (splitL 47 x) = back (splitL 47 (splitrootL x).2) ∧ rootL x = (splitrootL x).1 := by
  obtain ⟨ra, rb, hab, hR⟩ := root_cases x
  rw [hab]
  dsimp only
  cases hR with
  | none h1 =>
    refine ⟨rfl, ?_⟩
    unfold rootL
    rw [keep47 h1]
    simp
  | one r e h1 =>
    subst e
    refine ⟨by rw [splitL_cons_eq, back_nil], ?_⟩
    unfold rootL
    rw [drop47, keep47 h1]
    simp
  | two r e h1 =>
    subst e
    refine ⟨by rw [splitL_cons_eq, back_nil, splitL_cons_eq, back_nil], ?_⟩
    unfold rootL
    rw [drop47, drop47, keep47 h1]
    simp only [List.length_cons]
    rw [if_pos (by lia)]
  | three r e =>
    subst e
    refine ⟨by rw [splitL_cons_eq, back_nil], ?_⟩
    have := dropWhile_le r
    unfold rootL
    rw [drop47, drop47, drop47]
    simp only [List.length_cons]
    rw [if_neg (by lia), show min (r.length + 1 + 1 + 1 - (List.dropWhile (fun x => x == 47) r).length) 1 = 1 by lia]
    rfl
theorem norm_plain (x : T) : normL x = plainL x := by
  obtain ⟨hb, hr⟩ := back_root x
  have hm : madeL x = (splitrootL x).1 ++ joinL [47] ((splitL 47 (splitrootL x).2).foldl (stepN (!(splitrootL x).1.isEmpty)) []) := by
    unfold madeL
    simp only [List.foldl_reverse]
    show rootL x ++ joinL [47] (List.reverse (if rootL x = [] then (back (splitL 47 x)).2 ++ List.replicate (back (splitL 47 x)).1 dd else (back (splitL 47 x)).2)) = _
    rw [hb, hr, fold_back]
    congr 2
    by_cases e : (splitrootL x).1 = []
    · rw [if_pos e, e]
      have := pop_false (back (splitL 47 (splitrootL x).2)).1 0
      rw [Nat.zero_add] at this
      show _ = popN false [] _ ++ _
      rw [List.replicate_zero] at this
      rw [this, List.reverse_append, List.reverse_replicate]
    · rw [if_neg e]
      have : (!(splitrootL x).1.isEmpty) = true := by
        cases h : (splitrootL x).1 with
        | nil => exact absurd h e
        | cons a t => rfl
      rw [this, pop_true]; rfl
  unfold plainL normL
  simp only
  rw [← hm]
  by_cases hx : x = []
  · subst hx; decide
  · rw [if_neg hx]
    by_cases e : madeL x = []
    · rw [if_pos e, if_neg (by simpa using e)]
    · rw [if_neg e, if_pos e]
theorem split_tail (d : Nat) (m : T) : ∃ pre, m = pre ++ (splitL d m).getLastD [] ∧ ((splitL d m).dropLast ≠ [] → ∃ q, pre = q ++ [d]) := by
  have h := snoc_of [] (splitL_ne d m)
  have hm := join_splitL d m
  rw [h, joinL_snoc] at hm
  split at hm
  · rename_i e; exact ⟨[], hm.symm, fun q => absurd e q⟩
  · exact ⟨_, hm.symm, fun _ => ⟨_, rfl⟩⟩
theorem ext_suffix (m : T) : ∃ pre, m = pre ++ extL m := by
  obtain ⟨p1, h1, _⟩ := split_tail 47 m
  obtain ⟨p2, h2, h3⟩ := split_tail 46 ((splitL 47 m).getLastD [])
  unfold extL
  simp only
  split
  · rename_i e
    obtain ⟨q, rfl⟩ := h3 (by rintro r; apply e; rw [r]; rfl)
    refine ⟨p1 ++ q, ?_⟩
    conv => lhs; rw [h1, h2]
    simp
  · exact ⟨m, by simp⟩
theorem dropLast_map_flat (ws : List T) : ((ws.map encA).dropLast).flatten = encA ws.dropLast.flatten := by
  rw [← List.map_dropLast]
  generalize ws.dropLast = l
  induction l with
  | nil => rfl
  | cons a r ih => rw [List.map_cons, List.flatten_cons, List.flatten_cons, encA_app, ih]
theorem ext_enc {m : T} (h : VM m) : extL (encA m) = encA (extL m) := by
  have hl : VM ((splitL 47 m).getLastD []) := pieces_VM 47 h _ (last_mem (splitL_ne 47 m))
  unfold extL
  rw [split_enc (.inl rfl) m h, getLastD_map, split_enc (.inr rfl) _ hl]
  simp only [dropLast_map_flat, getLastD_map, ne_eq, propext encA_eq_nil]
  split
  · rfl
  · rfl
theorem halves_enc {m : T} (h : VM m) : halvesL (encA m) = (halvesL m).map encA := by
  obtain ⟨pre, hp⟩ := ext_suffix m
  unfold halvesL
  rw [ext_enc h]
  have e1 : (encA m).take ((encA m).length - (encA (extL m)).length) = encA pre := by
    have : encA m = encA pre ++ encA (extL m) := by rw [← encA_app, ← hp]
    rw [this]; simp
  have e2 : m.take (m.length - (extL m).length) = pre := by
    generalize extL m = e at hp
    subst hp; simp
  rw [e1, e2]; rfl
theorem halves_VM {m : T} (h : VM m) : ∀ p ∈ halvesL m, VM p := by
  obtain ⟨pre, hp⟩ := ext_suffix m
  intro p hm
  unfold halvesL at hm
  rcases List.mem_cons.mp hm with rfl | hm
  · exact VM_sub h fun c hc => List.mem_of_mem_take hc
  · rw [List.mem_singleton.mp hm]
    rw [hp] at h; exact (VM_app.mp h).2
end
section
open PySem PySem.Builtin.Str PySem.StrLaws
set_option Elab.async false
set_option maxRecDepth 100000
set_option linter.unusedSimpArgs false
set_option linter.unusedVariables false
noncomputable def vP (c : Nat) : Prop := c < 256 ∧ c ≠ 10 ∧ c ≠ 13
noncomputable def VP (m : T) : Prop := ∀ c ∈ m, vP c
theorem VP_app {x y : T} : VP (x ++ y) ↔ VP x ∧ VP y := by
  unfold VP; constructor
  · exact fun h => ⟨fun c hc => h c (List.mem_append_left _ hc), fun c hc => h c (List.mem_append_right _ hc)⟩
  · rintro ⟨h1, h2⟩ c hc; exact (List.mem_append.mp hc).elim (h1 c) (h2 c)
theorem VP_cons {c : Nat} {y : T} : VP (c :: y) ↔ vP c ∧ VP y := by
  unfold VP; simp [List.forall_mem_cons]
theorem VP_M {m : T} (h : VP m) : VM m := fun c hc => .inl ⟨(h c hc).1, (h c hc).2.2⟩
noncomputable def sizeOk (c : Nat) : Bool :=
  encM c == bodyT c && unq c == c && ((decide (cost c = 1) && encM c == [c] && c != 61) || (decide (cost c = 3) && (match encM c with | [61, a, b] => a != 61 && b != 61 | _ => false)))
theorem size_all : (List.range 256).all (fun c => c == 10 || c == 13 || sizeOk c) = true := by decide +kernel
inductive Size (c : Nat) : Prop
  | one (hc : cost c = 1) (e : encM c = [c]) (h : c ≠ 61)
  | three (hc : cost c = 3) (a b : Nat) (e : encM c = [61, a, b]) (ha : a ≠ 61) (hb : b ≠ 61)
theorem size_at {c : Nat} (h : vP c) : encM c = bodyT c ∧ unq c = c ∧ Size c := by
  have h1 := List.all_eq_true.mp size_all c (by simpa using h.1)
  have h10 := h.2.1
  have h13 := h.2.2
  simp only [Bool.or_eq_true, beq_iff_eq, h10, h13, false_or] at h1
  unfold sizeOk at h1
  simp only [Bool.and_eq_true, Bool.or_eq_true, beq_iff_eq, decide_eq_true_eq, bne_iff_ne] at h1
  obtain ⟨⟨e1, e2⟩, h3⟩ := h1
  refine ⟨e1, e2, ?_⟩
  rcases h3 with ⟨⟨a, b⟩, c⟩ | ⟨a, b⟩
  · exact .one a b c
  · split at b
    · rename_i x y e
      simp only [Bool.and_eq_true, bne_iff_ne] at b
      exact .three a x y e b.1 b.2
    · cases b
theorem cost_or {c : Nat} (h : vP c) : cost c = 1 ∨ cost c = 3 := by
  rcases (size_at h).2.2 with ⟨h, _⟩ | ⟨h, _⟩
  · exact .inl h
  · exact .inr h
theorem encM_len {c : Nat} (h : vP c) : ((encM c).length : Int) = cost c := by
  rcases (size_at h).2.2 with ⟨h, e, _⟩ | ⟨h, _, _, e, _⟩ <;> rw [e, h] <;> rfl
theorem costs_cons (c : Nat) (r : T) : costs (c :: r) = cost c + costs r := by simp [costs]
theorem costs_app (x y : T) : costs (x ++ y) = costs x + costs y := by simp [costs]
theorem encA_len : ∀ {m : T}, VP m → ((encA m).length : Int) = costs m
  | [], _ => rfl
  | c :: r, h => by
    rw [encA_cons, costs_cons, ← encA_len (VP_cons.mp h).2, ← encM_len (VP_cons.mp h).1, List.length_append]; lia
theorem costs_ge : ∀ {m : T}, VP m → (m.length : Int) ≤ costs m
  | [], _ => Int.le_refl _
  | c :: r, h => by
    have := costs_ge (VP_cons.mp h).2
    have h2 := cost_or (VP_cons.mp h).1
    rw [costs_cons, List.length_cons]; lia
theorem encA_body : ∀ {m : T}, VP m → encA m = (m.map bodyT).flatten
  | [], _ => rfl
  | c :: r, h => by rw [encA_cons, encA_body (VP_cons.mp h).2, (size_at (VP_cons.mp h).1).1]; rfl
theorem last_two : ∀ (n : Nat) (m : T), m.length = n → VP m → (encA m).getLast? ≠ some 61 ∧ (encA m).dropLast.getLast? ≠ some 61
  | 0, m, hn, _ => by
    have : m = [] := List.length_eq_zero_iff.mp hn
    subst this; simp [encA]
  | n + 1, m, hn, h => by
    rcases List.eq_nil_or_concat m with rfl | ⟨r, c, rfl⟩
    · cases hn
    rw [List.concat_eq_append] at *
    have ih := last_two n r (by simpa using hn) (VP_app.mp h).1
    have hc := (VP_cons.mp (VP_app.mp h).2).1
    rw [encA_app, encA_one]
    rcases (size_at hc).2.2 with ⟨_, e, h61⟩ | ⟨_, a, b, e, ha, hb⟩
    · rw [e, List.dropLast_concat]
      refine ⟨?_, ih.1⟩
      rw [List.getLast?_append]; simpa using h61
    · rw [e]
      have : encA r ++ [61, a, b] = (encA r ++ [61, a]) ++ [b] := by simp
      rw [this, List.dropLast_concat]
      refine ⟨?_, ?_⟩
      · rw [List.getLast?_append]; simpa using hb
      · rw [List.getLast?_append]; simpa using ha
theorem getD_last {y z : T} {k : Nat} (h : y.getLast? ≠ some 61) (hk : k + 1 = y.length) : (y ++ z).getD k 0 ≠ 61 := by
  rw [List.getD_eq_getElem?_getD, List.getElem?_append_left (by lia)]
  rw [List.getLast?_eq_getElem?, show y.length - 1 = k by lia] at h
  rw [List.getElem?_eq_getElem (by lia)] at h ⊢
  simpa using h
theorem getD_last2 {y z : T} {k : Nat} (h : y.dropLast.getLast? ≠ some 61) (hk : k + 2 = y.length) : (y ++ z).getD k 0 ≠ 61 := by
  have : y ++ z = y.dropLast ++ ([y.getLastD 0] ++ z) := by
    rw [← List.append_assoc, ← snoc_of 0 (by intro e; rw [e] at hk; simp at hk)]
  rw [this]
  exact getD_last h (by rw [List.length_dropLast]; lia)
theorem takeRow_spec : ∀ (x : T) (room : Int), 0 ≤ room → VP x → x = (takeRow room x).1 ++ (takeRow room x).2 ∧ costs (takeRow room x).1 ≤ room ∧ (∀ c q, (takeRow room x).2 = c :: q → room < costs (takeRow room x).1 + cost c)
  | [], room, h, _ => by
    refine ⟨rfl, h, ?_⟩
    intro c q e; cases e
  | c :: r, room, h, hx => by
    have hc := cost_or (VP_cons.mp hx).1
    unfold takeRow
    split
    · rename_i hle
      obtain ⟨h1, h2, h3⟩ := takeRow_spec r (room - cost c) (by lia) (VP_cons.mp hx).2
      refine ⟨by dsimp only; rw [List.cons_append, ← h1], by dsimp only; rw [costs_cons]; lia, fun d q e => ?_⟩
      have := h3 d q e
      dsimp only; rw [costs_cons]; lia
    · refine ⟨rfl, h, fun d q e => ?_⟩
      injection e with e1 e2
      subst e1
      show room < 0 + cost c
      lia
theorem encF_s (w n : Nat) (r : T) : encF w (n + 1) r = if w < r.length then (if r.getD (w - 3) 0 = 61 then (r.take (w - 2) :: (encF w n (r.drop (w - 3))).1, (encF w n (r.drop (w - 3))).2) else if r.getD (w - 2) 0 = 61 then (r.take (w - 1) :: (encF w n (r.drop (w - 2))).1, (encF w n (r.drop (w - 2))).2) else ((r.take (w - 1) ++ [61]) :: (encF w n (r.drop (w - 1))).1, (encF w n (r.drop (w - 1))).2)) else ([], r) := rfl
section
variable {w : Nat}
theorem enc_step {x : T} (hw : 4 ≤ w) (hx : VP x) (hlt : (w : Int) < costs x) (n : Nat) :
    encF w (n + 1) (encA x) = ((encA (takeRow ((w : Int) - 1) x).1 ++ [61]) :: (encF w n (encA (takeRow ((w : Int) - 1) x).2)).1, (encF w n (encA (takeRow ((w : Int) - 1) x).2)).2) := by
  obtain ⟨h1, h2, h3⟩ := takeRow_spec x ((w : Int) - 1) (by lia) hx
  generalize (takeRow ((w : Int) - 1) x).1 = row at h1 h2 h3 ⊢
  generalize (takeRow ((w : Int) - 1) x).2 = rest at h1 h2 h3 ⊢
  subst h1
  obtain ⟨hr, hs⟩ := VP_app.mp hx
  cases rest with
  | nil => rw [List.append_nil] at hlt; lia
  | cons c q =>
    have h4 := h3 c q rfl
    have hc := (VP_cons.mp hs).1
    have hl := encA_len hr
    have hl2 := encA_len hx
    obtain ⟨l1, l2⟩ := last_two _ _ rfl hr
    rw [encA_app] at hl2 ⊢
    rw [encF_s, if_pos (by lia)]
    have third : (encA row).length = w - 1 → (if (encA row ++ encA (c :: q)).getD (w - 3) 0 = 61 then ((encA row ++ encA (c :: q)).take (w - 2) :: (encF w n ((encA row ++ encA (c :: q)).drop (w - 3))).1, (encF w n ((encA row ++ encA (c :: q)).drop (w - 3))).2)
      else if (encA row ++ encA (c :: q)).getD (w - 2) 0 = 61 then ((encA row ++ encA (c :: q)).take (w - 1) :: (encF w n ((encA row ++ encA (c :: q)).drop (w - 2))).1, (encF w n ((encA row ++ encA (c :: q)).drop (w - 2))).2)
      else (((encA row ++ encA (c :: q)).take (w - 1) ++ [61]) :: (encF w n ((encA row ++ encA (c :: q)).drop (w - 1))).1, (encF w n ((encA row ++ encA (c :: q)).drop (w - 1))).2)) = ((encA row ++ [61]) :: (encF w n (encA (c :: q))).1, (encF w n (encA (c :: q))).2) := by
      intro e
      rw [if_neg (getD_last2 l2 (by lia)), if_neg (getD_last l1 (by lia))]
      rw [← e, List.take_left, List.drop_left]
    rcases (size_at hc).2.2 with ⟨hcc, e, h61⟩ | ⟨hcc, a, b, e, ha, hb⟩
    · exact third (by lia)
    · have h5 : (encA row).length = w - 1 ∨ (encA row).length = w - 2 ∨ (encA row).length = w - 3 := by lia
      have e2 : encA (c :: q) = [61] ++ ([a, b] ++ encA q) := by rw [encA_cons, e]; rfl
      have e3 : ∀ k, k = (encA row).length → (encA row ++ encA (c :: q)).getD k 0 = 61 := by
        intro k hk
        rw [hk, List.getD_eq_getElem?_getD, List.getElem?_append_right (Nat.le_refl _), Nat.sub_self, e2]; rfl
      have e4 : ∀ k, k = (encA row).length + 1 → (encA row ++ encA (c :: q)).take k = encA row ++ [61] := by
        intro k hk
        rw [hk, e2, ← List.append_assoc]
        have : (encA row).length + 1 = (encA row ++ [61]).length := by simp
        rw [this, List.take_left]
      have e5 : ∀ k, k = (encA row).length → (encA row ++ encA (c :: q)).drop k = encA (c :: q) := by
        intro k hk
        rw [hk, List.drop_left]
      rcases h5 with h5 | h5 | h5
      · exact third h5
      · rw [if_neg (getD_last l1 (by lia)), if_pos (e3 _ (by lia))]
        rw [e4 _ (by lia), e5 _ (by lia)]
      · rw [if_pos (e3 _ (by lia))]
        rw [e4 _ (by lia), e5 _ (by lia)]
theorem takeRow_ne {x : T} (hw : 4 ≤ w) (hx : VP x) (hlt : (w : Int) < costs x) : (takeRow ((w : Int) - 1) x).1 ≠ [] ∧ (takeRow ((w : Int) - 1) x).2 ≠ [] := by
  obtain ⟨h1, h2, h3⟩ := takeRow_spec x ((w : Int) - 1) (by lia) hx
  generalize (takeRow ((w : Int) - 1) x).1 = row at h1 h2 h3 ⊢
  generalize (takeRow ((w : Int) - 1) x).2 = rest at h1 h2 h3 ⊢
  subst h1
  constructor
  · rintro rfl
    cases rest with
    | nil => have : costs ([] : T) = 0 := rfl; rw [List.nil_append, this] at hlt; lia
    | cons c q =>
      have := h3 c q rfl
      have h0 : costs ([] : T) = 0 := rfl
      have := cost_or (VP_cons.mp (VP_app.mp hx).2).1
      lia
  · rintro rfl
    rw [List.append_nil] at hlt; lia
theorem encF_rows (hw : 4 ≤ w) : ∀ (n m : Nat) (x : T), VP x → x.length ≤ n → (encA x).length ≤ m → encF w m (encA x) = ((rowsF w n x).1.map (fun r => encA r ++ [61]), encA (rowsF w n x).2)
  | 0, m, x, _, hn, _ => by
    have : x = [] := List.length_eq_zero_iff.mp (by lia)
    subst this
    cases m with
    | zero => rfl
    | succ m => rw [encA_nil, encF, if_neg (by simp)]; rfl
  | n + 1, m, x, hx, hn, hm => by
    have hl := encA_len hx
    by_cases hlt : (w : Int) < costs x
    · cases m with
      | zero => lia
      | succ m =>
        rw [enc_step hw hx hlt, rowsF, if_pos hlt]
        obtain ⟨h1, h2, h3⟩ := takeRow_spec x ((w : Int) - 1) (by lia) hx
        obtain ⟨n1, n2⟩ := takeRow_ne hw hx hlt
        have hx2 := hx
        rw [h1] at hx2
        have len := congrArg List.length h1
        rw [List.length_append] at len
        have len2 := congrArg (fun y => (encA y).length) h1
        simp only [encA_app, List.length_append] at len2
        have p1 := List.length_pos_iff.mpr n1
        have p2 : 0 < (encA (takeRow ((w : Int) - 1) x).1).length := List.length_pos_iff.mpr (fun e => n1 (encA_eq_nil.mp e))
        have ih := encF_rows hw n m _ (VP_app.mp hx2).2 (by lia) (by lia)
        rw [ih]; rfl
    · rw [rowsF, if_neg hlt]
      cases m with
      | zero =>
        have : encA x = [] := List.length_eq_zero_iff.mp (by lia)
        rw [this]; rfl
      | succ m => rw [encF_s, if_neg (by lia)]; rfl
theorem rowsF_spec (hw : 4 ≤ w) : ∀ (n : Nat) (x : T), VP x → x.length ≤ n → x = (rowsF w n x).1.flatten ++ (rowsF w n x).2 ∧ costs (rowsF w n x).2 ≤ w ∧ (x ≠ [] → (rowsF w n x).2 ≠ []) ∧ (∀ r ∈ (rowsF w n x).1, r ≠ []) ∧ (rowsF w n x).1.length ≤ x.length
  | 0, x, _, hn => by
    have : x = [] := List.length_eq_zero_iff.mp (by lia)
    subst this
    refine ⟨rfl, ?_, fun h => absurd rfl h, ?_, Nat.le_refl _⟩
    · show (0 : Int) ≤ _
      lia
    · intro r hr; simp [rowsF] at hr
  | n + 1, x, hx, hn => by
    by_cases hlt : (w : Int) < costs x
    · rw [rowsF, if_pos hlt]
      obtain ⟨h1, h2, h3⟩ := takeRow_spec x ((w : Int) - 1) (by lia) hx
      obtain ⟨n1, n2⟩ := takeRow_ne hw hx hlt
      have hx2 := hx
      rw [h1] at hx2
      have len := congrArg List.length h1
      rw [List.length_append] at len
      have p1 := List.length_pos_iff.mpr n1
      obtain ⟨i1, i2, i3, i4, i5⟩ := rowsF_spec hw n _ (VP_app.mp hx2).2 (by lia)
      refine ⟨?_, i2, fun _ => i3 n2, ?_, ?_⟩
      · conv => lhs; rw [h1, i1]
        simp [List.append_assoc]
      · intro r hr
        rcases List.mem_cons.mp hr with rfl | hr
        · exact n1
        · exact i4 r hr
      · simp only [List.length_cons]; lia
    · rw [rowsF, if_neg hlt]
      exact ⟨rfl, by dsimp only; lia, _root_.id, by intro r hr; simp at hr, Nat.zero_le _⟩
end
theorem bl_enc {c : Nat} (h : c = 32 ∨ c = 9) : encM c = [c] ∧ encM (256 + c) = quoteT c ∧ unq (256 + c) = c ∧ vM (256 + c) ∧ 256 + c ≠ 10 ∧ cost c = 1 := by
  rcases h with rfl | rfl <;> exact ⟨by decide, by decide, by decide, by unfold vM; decide, by decide, by decide⟩
theorem last_enc {x : T} {c : Nat} (hc : c = 32 ∨ c = 9) (h : VP x) : (encA x).getLast? = some c ↔ x.getLast? = some c := by
  rcases List.eq_nil_or_concat x with rfl | ⟨r, d, rfl⟩
  · exact Iff.rfl
  · rw [List.concat_eq_append] at *
    have hd := (VP_cons.mp (VP_app.mp h).2).1
    rw [encA_app, encA_one]
    have e2 : (r ++ [d]).getLast? = some d := by rw [List.getLast?_append]; rfl
    rw [e2]
    rcases kind (VP_M h d (by simp)) with ⟨h1, e⟩ | ⟨_, _, h61, _, e, hu⟩ | ⟨a, b, _, e, ha, hb, hu, _, _, _, _, _, _, _, _, bs, _, _, h32, h9⟩
    · exact absurd h1 hd.2.1
    · rw [e, List.getLast?_append]; simp
    · rw [e, List.getLast?_append]
      simp only [List.getLast?_cons_cons, List.getLast?_singleton, Option.some_or, Option.some.injEq]
      constructor
      · intro q
        subst q
        exfalso
        rcases hc with rfl | rfl <;> revert bs <;> decide
      · intro q; lia
theorem joinL_app (sep : T) : ∀ (xs ys : List T), ys ≠ [] → joinL sep (xs ++ ys) = if xs = [] then joinL sep ys else joinL sep xs ++ sep ++ joinL sep ys
  | [], ys, _ => by simp
  | [x], ys, h => by rw [if_neg (by simp), List.singleton_append, joinL_cons _ _ h]; rfl
  | x :: y :: r, ys, h => by
    have ih := joinL_app sep (y :: r) ys h
    rw [if_neg (by simp)] at ih ⊢
    show joinL sep (x :: ((y :: r) ++ ys)) = _
    rw [joinL_cons _ _ (by simp), ih]
    simp [joinL, List.append_assoc]
theorem join_soft : ∀ (xs : List T) (t : T), joinL [10] (xs.map (fun r => encA r ++ [61]) ++ [t]) = (if xs = [] then t else joinL [61, 10] (xs.map encA) ++ [61, 10] ++ t)
  | [], t => rfl
  | [x], t => by simp [joinL]
  | x :: y :: r, t => by
    have ih := join_soft (y :: r) t
    rw [if_neg (by simp)] at ih ⊢
    show joinL [10] ((encA x ++ [61]) :: ((y :: r).map (fun r => encA r ++ [61]) ++ [t])) = _
    rw [joinL_cons _ _ (by simp), ih]
    simp [joinL, List.append_assoc]
theorem tail_ne (w : Int) (p r : T) : tailM w p r ≠ [] := by
  unfold tailM; split
  · split
    · simp
    · split <;> simp
  · simp
theorem tail_enc {w : Nat} {part rest : T} (hr : VP rest) (hle : costs rest ≤ w) (hl : part.getLast? = rest.getLast?) : encA (joinL [10] (tailM w part rest)) = tailE w (encA rest) := by
  have hlen := encA_len hr
  unfold tailM tailE
  rw [hl]
  simp only [propext (last_enc (.inl rfl) hr), propext (last_enc (.inr rfl) hr)]
  split
  · rename_i hb
    obtain ⟨c, hc, hbl⟩ : ∃ c, rest.getLast? = some c ∧ (c = 32 ∨ c = 9) := by
      rcases hb with hb | hb
      · exact ⟨32, hb, .inl rfl⟩
      · exact ⟨9, hb, .inr rfl⟩
    obtain ⟨b1, b2, b3, b4, b5, b6⟩ := bl_enc hbl
    have hrest : rest = rest.dropLast ++ [c] := by
      have hne : rest ≠ [] := by rintro rfl; cases hc
      have := snoc_of 0 hne
      rw [List.getLastD_eq_getLast?, hc] at this
      exact this
    have hp : part.getLastD 0 = c := by rw [List.getLastD_eq_getLast?, hl, hc]; rfl
    have he : encA rest = encA rest.dropLast ++ [c] := by
      conv => lhs; rw [hrest]
      rw [encA_app, encA_one, b1]
    have h1 : (encA rest).dropLast = encA rest.dropLast := by rw [he, List.dropLast_concat]
    have h2 : (encA rest).getLastD 0 = c := by rw [he]; simp
    rw [h1, h2, hp]
    by_cases c1 : (w : Int) - costs rest > 1
    · rw [if_pos c1, if_pos (by lia)]
      show encA (rest.dropLast ++ [256 + c]) = _
      rw [encA_app, encA_one, b2]
    · rw [if_neg c1, if_neg (show ¬ (encA rest).length + 2 ≤ w by lia)]
      by_cases c2 : (w : Int) - costs rest = 1
      · rw [if_pos c2, if_pos (show (encA rest).length + 1 = w by lia)]
        show encA (rest ++ [10] ++ []) = _
        rw [List.append_nil, encA_app, encA_one, he, List.append_assoc]; rfl
      · rw [if_neg c2, if_neg (show ¬ (encA rest).length + 1 = w by lia)]
        show encA (rest.dropLast ++ [10] ++ [256 + c]) = _
        rw [encA_app, encA_app, encA_one, encA_one, b2, List.append_assoc]; rfl
  · rfl
theorem last_app {x y z : T} (h : x = y ++ z) (hz : x ≠ [] → z ≠ []) : x.getLast? = z.getLast? := by
  by_cases e : z = []
  · have : x = [] := by
      apply Decidable.byContradiction; intro q; exact hz q e
    rw [this, e]
  · rw [h, List.getLast?_append, List.getLast?_eq_some_getLast e]; rfl
theorem enc_marked {w : Nat} {part : T} (hw : 4 ≤ w) (hp : VP part) : encL w part = encA (markedL w part) := by
  unfold encL markedL
  by_cases h0 : part = []
  · subst h0; rw [if_pos rfl]; rfl
  rw [if_neg h0]
  obtain ⟨r1, r2, r3, r4, r5⟩ := rowsF_spec hw part.length part hp (Nat.le_refl _)
  have hf := encF_rows hw part.length (encA part).length part hp (Nat.le_refl _) (Nat.le_refl _)
  simp only [← encA_body hp, hf]
  have hrest : VP (rowsF w part.length part).2 := by
    have := hp; rw [r1] at this; exact (VP_app.mp this).2
  have hlast := last_app r1 r3
  rw [join_soft, joinL_app _ _ _ (tail_ne _ _ _), ← tail_enc hrest r2 hlast]
  split
  · rfl
  · rw [encA_app, encA_app, joinNl_enc (rowsF _ _ _).1]; rfl
theorem D_join : ∀ xs : List T, D (joinL [10] xs) = (xs.map D).flatten
  | [] => rfl
  | [x] => by simp [joinL]
  | x :: y :: r => by
    show D (x ++ [10] ++ joinL [10] (y :: r)) = _
    rw [D_app, D_app, D_join (y :: r)]
    show D x ++ [] ++ _ = _
    simp
theorem D_same {x : T} (h : VP x) : D x = x := by
  unfold D
  have e1 : x.filter (· != 10) = x := by
    rw [List.filter_eq_self]
    intro c hc; simpa using (h c hc).2.1
  rw [e1]
  conv => rhs; rw [← List.map_id x]
  exact List.map_congr_left fun c hc => (size_at (h c hc)).2.1
theorem D_rows : ∀ xs : List T, VP xs.flatten → (xs.map D).flatten = xs.flatten
  | [], _ => rfl
  | x :: r, h => by
    rw [List.flatten_cons] at h
    rw [List.map_cons, List.flatten_cons, List.flatten_cons, D_same (VP_app.mp h).1, D_rows r (VP_app.mp h).2]
noncomputable def NB (m : T) : Prop := m.getLast? ≠ some 32 ∧ m.getLast? ≠ some 9
structure Rel (m p : T) : Prop where
  told : D m = p
  head : m.take 1 = [47] ↔ p.take 1 = [47]
  none : m = [] ↔ p = []
  last : m.getLast? = some 47 ↔ p.getLast? = some 47
  nb : NB m
  vm : VM m
theorem tail_told {w : Int} {part rest : T} (hr : VP rest) (hl : part.getLast? = rest.getLast?) : ((tailM w part rest).map D).flatten = rest ∧ VM (joinL [10] (tailM w part rest)) ∧ NB (joinL [10] (tailM w part rest)) ∧ ((joinL [10] (tailM w part rest)).getLast? = some 47 ↔ rest.getLast? = some 47) := by
  have vm10 : vM 10 := .inl ⟨by decide, by decide⟩
  have vmn : VM [] := fun c hc => by cases hc
  have vmr := VP_M hr
  unfold tailM
  rw [hl]
  split
  · rename_i hb
    obtain ⟨c, hc, hbl⟩ : ∃ c, rest.getLast? = some c ∧ (c = 32 ∨ c = 9) := by
      rcases hb with hb | hb
      · exact ⟨32, hb, .inl rfl⟩
      · exact ⟨9, hb, .inr rfl⟩
    obtain ⟨b1, b2, b3, b4, b5, b6⟩ := bl_enc hbl
    have hrest : rest = rest.dropLast ++ [c] := by
      have hne : rest ≠ [] := by rintro rfl; cases hc
      have := snoc_of 0 hne
      rw [List.getLastD_eq_getLast?, hc] at this
      exact this
    have hp : part.getLastD 0 = c := by rw [List.getLastD_eq_getLast?, hl, hc]; rfl
    rw [hp]
    have hdl : VP rest.dropLast := fun c hc => hr c ((List.dropLast_sublist _).subset hc)
    have hDq : D [256 + c] = [c] := by
      unfold D
      rw [List.filter_cons, if_pos (by simpa using b5)]
      simp [b3]
    have hn47 : ¬ rest.getLast? = some 47 := by rw [hc]; intro q; injection q with q; lia
    have hq : ∀ y : T, (y ++ [256 + c]).getLast? = some (256 + c) := by intro y; rw [List.getLast?_append]; rfl
    have hnb : ∀ y : T, NB (y ++ [256 + c]) ∧ ((y ++ [256 + c]).getLast? = some 47 ↔ rest.getLast? = some 47) := by
      intro y
      unfold NB
      rw [hq]
      refine ⟨⟨?_, ?_⟩, ?_⟩
      · intro q; injection q with q; lia
      · intro q; injection q with q; lia
      · constructor
        · intro q; injection q with q; lia
        · intro q; exact absurd q hn47
    split
    · refine ⟨?_, ?_, (hnb _).1, (hnb _).2⟩
      · show D (rest.dropLast ++ [256 + c]) ++ [] = _
        rw [List.append_nil, D_app, D_same hdl, hDq, ← hrest]
      · exact VM_app.mpr ⟨VP_M hdl, VM_cons.mpr ⟨b4, vmn⟩⟩
    · split
      · refine ⟨?_, ?_, ?_, ?_⟩
        · show D rest ++ (D [] ++ []) = _
          rw [D_same hr]; simp [D]
        · show VM (rest ++ [10] ++ [])
          rw [List.append_nil]; exact VM_app.mpr ⟨vmr, VM_cons.mpr ⟨vm10, vmn⟩⟩
        · show NB (rest ++ [10] ++ [])
          rw [List.append_nil]; unfold NB; rw [List.getLast?_append]; exact ⟨by simp, by simp⟩
        · show (rest ++ [10] ++ []).getLast? = _ ↔ _
          rw [List.append_nil, List.getLast?_append]
          constructor
          · intro q; simp at q
          · intro q; exact absurd q hn47
      · refine ⟨?_, ?_, (hnb _).1, (hnb _).2⟩
        · show D rest.dropLast ++ (D [256 + c] ++ []) = _
          rw [D_same hdl, hDq, List.append_nil, ← hrest]
        · show VM (rest.dropLast ++ [10] ++ [256 + c])
          exact VM_app.mpr ⟨VM_app.mpr ⟨VP_M hdl, VM_cons.mpr ⟨vm10, vmn⟩⟩, VM_cons.mpr ⟨b4, vmn⟩⟩
  · rename_i hb
    refine ⟨?_, vmr, ?_, Iff.rfl⟩
    · show D rest ++ [] = _
      rw [D_same hr, List.append_nil]
    · exact ⟨fun q => hb (.inl q), fun q => hb (.inr q)⟩
theorem take1_app {x y : T} (h : x ≠ []) : (x ++ y).take 1 = x.take 1 := by
  cases x with
  | nil => exact absurd rfl h
  | cons a r => simp
theorem tail_head {w : Int} {part rest : T} (h4 : 4 ≤ w) (hr : VP rest) (hne : rest ≠ []) : ∃ t ts, tailM w part rest = t :: ts ∧ t ≠ [] ∧ 10 ∉ t := by
  have h10 : 10 ∉ rest := fun h => (hr 10 h).2.1 rfl
  have h10d : 10 ∉ rest.dropLast := fun h => h10 ((List.dropLast_sublist _).subset h)
  unfold tailM
  split
  · rename_i hb
    split
    · refine ⟨_, _, rfl, by simp, fun h => ?_⟩
      rcases List.mem_append.mp h with h | h
      · exact h10d h
      · have := List.mem_singleton.mp h; lia
    · split
      · exact ⟨_, _, rfl, hne, h10⟩
      · rename_i h1 h2
        refine ⟨_, _, rfl, fun e => ?_, h10d⟩
        have := snoc_of 0 hne
        rw [e] at this
        have hc := hr (rest.getLastD 0) (by rw [this]; simp)
        have h3 := cost_or hc
        have h5 : costs rest = cost (rest.getLastD 0) := by
          conv => lhs; rw [this]
          rw [List.nil_append, costs_cons]
          show _ + 0 = _
          lia
        lia
  · exact ⟨_, _, rfl, hne, h10⟩
theorem unq47 {c : Nat} (h : vM c) : unq c = 47 ↔ c = 47 := by
  unfold vM at h; unfold unq unq2 unq1
  split <;> split <;> lia
theorem VM_joinR (xs : List T) (h : VP xs.flatten) : VM (joinL [10] xs) := by
  refine VM_join (.inl ⟨by decide, by decide⟩) xs fun p hp c hc => ?_
  exact VP_M h c (List.mem_flatten.mpr ⟨p, hp, hc⟩)
theorem rel_marked {w : Nat} {part : T} (hw : 4 ≤ w) (hp : VP part) : Rel (markedL w part) part := by
  by_cases h0 : part = []
  · subst h0
    refine ⟨rfl, Iff.rfl, Iff.rfl, Iff.rfl, ⟨by simp [markedL, rowsF, tailM, joinL], by simp [markedL, rowsF, tailM, joinL]⟩, fun c hc => ?_⟩
    simp [markedL, rowsF, tailM, joinL] at hc
  obtain ⟨r1, r2, r3, r4, r5⟩ := rowsF_spec hw part.length part hp (Nat.le_refl _)
  have hlast := last_app r1 r3
  have hne := r3 h0
  have hp2 := hp
  rw [r1] at hp2
  obtain ⟨q1, q2⟩ := VP_app.mp hp2
  obtain ⟨t1, t2, t3, t4⟩ := tail_told (w := (w : Int)) q2 hlast
  obtain ⟨th, ts, te, tn, tt⟩ := tail_head (w := (w : Int)) (part := part) (by lia) q2 hne
  have hD : D (markedL w part) = part := by
    unfold markedL
    rw [D_join, List.map_append, List.flatten_append, D_rows _ q1, t1, ← r1]
  have hjn : joinL [10] (tailM w part (rowsF w part.length part).2) ≠ [] := by
    rw [te]; cases ts with
    | nil => exact tn
    | cons a r => rw [joinL_cons _ _ (by simp)]; intro e; exact tn (List.append_eq_nil_iff.mp (List.append_eq_nil_iff.mp e).1).1
  have hm : ∃ y, markedL w part = y ++ joinL [10] (tailM w part (rowsF w part.length part).2) ∧ VM y := by
    unfold markedL
    rw [joinL_app _ _ _ (tail_ne _ _ _)]
    split
    · exact ⟨[], rfl, fun c hc => by cases hc⟩
    · exact ⟨_, rfl, VM_app.mpr ⟨VM_joinR _ q1, VM_cons.mpr ⟨.inl ⟨by decide, by decide⟩, fun c hc => by cases hc⟩⟩⟩
  obtain ⟨y, hy, hyv⟩ := hm
  have hmne : markedL w part ≠ [] := by rw [hy]; intro e; exact hjn (List.append_eq_nil_iff.mp e).2
  have hvm : VM (markedL w part) := by rw [hy]; exact VM_app.mpr ⟨hyv, t2⟩
  have hg : (markedL w part).getLast? = (joinL [10] (tailM w part (rowsF w part.length part).2)).getLast? := by
    rw [hy, List.getLast?_append, List.getLast?_eq_some_getLast hjn]; rfl
  -- the first mark is no row's end
  have hfirst : ∃ c r, markedL w part = c :: r ∧ c ≠ 10 := by
    have hrow : ∃ x xs, (rowsF w part.length part).1 ++ tailM w part (rowsF w part.length part).2 = x :: xs ∧ x ≠ [] ∧ 10 ∉ x := by
      cases hrs : (rowsF w part.length part).1 with
      | nil => exact ⟨th, ts, by rw [List.nil_append, te], tn, tt⟩
      | cons x xs =>
        refine ⟨x, _, rfl, r4 x (by rw [hrs]; exact .head _), fun hm => ?_⟩
        have : 10 ∈ (rowsF w part.length part).1.flatten := List.mem_flatten.mpr ⟨x, by rw [hrs]; exact .head _, hm⟩
        exact (q1 10 this).2.1 rfl
    obtain ⟨x, xs, e, hx, h10⟩ := hrow
    unfold markedL
    rw [e]
    cases x with
    | nil => exact absurd rfl hx
    | cons c r =>
      have hc10 : c ≠ 10 := fun q => h10 (by rw [q]; exact .head _)
      cases xs with
      | nil => exact ⟨c, r, rfl, hc10⟩
      | cons y ys => exact ⟨c, _, by rw [joinL_cons _ _ (by simp)]; rfl, hc10⟩
  obtain ⟨c, r, hc, hc10⟩ := hfirst
  refine ⟨hD, ?_, ⟨fun e => absurd e hmne, fun e => absurd e h0⟩, ?_, ?_, hvm⟩
  · have hpc : part = unq c :: D r := by
      rw [← hD, hc]; unfold D
      rw [List.filter_cons, if_pos (by simpa using hc10)]; rfl
    have hv : vM c := hvm c (by rw [hc]; exact .head _)
    rw [hc, hpc]
    have := unq47 hv
    simp only [List.take_succ_cons, List.take_zero, List.cons.injEq, and_true]
    exact this.symm
  · rw [hg, t4, ← hlast]
  · unfold NB; rw [hg]; exact t3
theorem rel_app {a b p q : T} (ha : Rel a p) (hb : Rel b q) (hne : a ≠ []) : Rel (a ++ b) (p ++ q) := by
  have hpn : p ≠ [] := fun e => hne (ha.none.mpr e)
  refine ⟨by rw [D_app, ha.told, hb.told], by rw [take1_app hne, take1_app hpn]; exact ha.head, ⟨fun e => absurd (List.append_eq_nil_iff.mp e).1 hne, fun e => absurd (List.append_eq_nil_iff.mp e).1 hpn⟩, ?_, ?_, VM_app.mpr ⟨ha.vm, hb.vm⟩⟩
  · by_cases e : b = []
    · rw [e, hb.none.mp e, List.append_nil, List.append_nil]; exact ha.last
    · have e2 : q ≠ [] := fun q => e (hb.none.mpr q)
      have := hb.last
      rw [List.getLast?_append, List.getLast?_append]
      rw [List.getLast?_eq_some_getLast e, List.getLast?_eq_some_getLast e2] at this ⊢
      exact this
  · by_cases e : b = []
    · rw [e, List.append_nil]; exact ha.nb
    · have := hb.nb
      unfold NB at this ⊢
      rw [List.getLast?_append]
      rw [List.getLast?_eq_some_getLast e] at this ⊢
      exact this
theorem rel_slash : Rel [47] [47] := ⟨by decide, Iff.rfl, Iff.rfl, Iff.rfl, ⟨by decide, by decide⟩, VM_cons.mpr ⟨vM47, fun c hc => by cases hc⟩⟩
theorem rel_step {a b p q : T} (ha : Rel a p) (hb : Rel b q) : Rel (stepJ a b) (stepJ p q) := by
  unfold stepJ
  simp only [propext hb.head, propext ha.none, propext ha.last]
  split
  · exact hb
  · rename_i h
    have hne : a ≠ [] := fun e => h (.inr (ha.none.mp e))
    split
    · exact rel_app ha hb hne
    · have := rel_app (rel_app ha rel_slash hne) hb (by simp)
      simpa [List.append_assoc] using this
theorem read_told {m p : T} (h : Rel m p) : readL m = p := by
  rw [readL_eq, ← h.told]
  have hne := splitL_ne 10 m
  have hs : rstripP isBl ((splitL 10 m).getLastD []) = (splitL 10 m).getLastD [] := by
    by_cases e : (splitL 10 m).getLastD [] = []
    · rw [e]; rfl
    · obtain ⟨pre, hp, _⟩ := split_tail 10 m
      have hg : m.getLast? = ((splitL 10 m).getLastD []).getLast? := last_app hp (fun _ => e)
      have hb := h.nb
      unfold NB at hb
      rw [hg, List.getLast?_eq_some_getLast e] at hb
      have := rstripP_keep (p := isBl) [] (List.getLast?_eq_some_getLast e) (by
        generalize ((splitL 10 m).getLastD []).getLast e = c at hb
        unfold isBl
        simp only [ne_eq, Option.some.injEq] at hb
        simp [hb.1, hb.2])
      simpa using this
  rw [hs, ← List.map_append]
  unfold D
  rw [← splitL_flat]
  congr 1
  conv => rhs; rw [snoc_of [] hne]
  simp
end
section
open PySem PySem.Builtin.Str PySem.StrLaws
set_option Elab.async false
set_option maxRecDepth 100000
set_option linter.unusedSimpArgs false
set_option linter.unusedVariables false
theorem rel_join : ∀ (ps : List T) (f : T → T) (a p : T), Rel a p → (∀ q ∈ ps, Rel (f q) q) → Rel (joinPy a (ps.map f)) (joinPy p ps)
  | [], _, a, p, h, _ => h
  | q :: r, f, a, p, h, hq => by
    show Rel ((r.map f).foldl stepJ (stepJ a (f q))) (r.foldl stepJ (stepJ p q))
    exact rel_join r f _ _ (rel_step h (hq q (.head _))) fun x hx => hq x (.tail _ hx)
theorem rel_joinW : ∀ (ps : List (T × Nat)) (a p : T), Rel a p → (∀ q ∈ ps, VP q.1 ∧ 4 ≤ q.2) → Rel (joinPy a (ps.map fun q => markedL q.2 q.1)) (joinPy p (ps.map (·.1)))
  | [], a, p, h, _ => h
  | q :: r, a, p, h, hq => by
    have h1 := hq q (.head _)
    show Rel ((r.map fun q => markedL q.2 q.1).foldl stepJ (stepJ a (markedL q.2 q.1))) ((r.map (·.1)).foldl stepJ (stepJ p q.1))
    exact rel_joinW r _ _ (rel_step h (rel_marked h1.2 h1.1)) fun x hx => hq x (.tail _ hx)
structure Law (whole plain marked made joined : T) : Prop where
  a1 : decodeL whole = readL marked
  a2 : joined = readL marked
  a3 : (splitL 10 whole).map decodeL = readRowsL marked
  a4 : decodeL plain = readL made
  a5 : (splitL 10 plain).map decodeL = readRowsL made
  a6 : (halvesL plain).map decodeL = (halvesL made).map readL
theorem law_pairs (q : T × Nat) (qs : List (T × Nat)) (hq : ∀ x ∈ q :: qs, VP x.1 ∧ 4 ≤ x.2) :
    ∃ m, joinedL ((q :: qs).map fun x => markedL x.2 x.1) = m ∧ VM m ∧ joinPy (encL q.2 q.1) (qs.map fun x => encL x.2 x.1) = encA m ∧ joinPy q.1 (qs.map (·.1)) = readL m := by
  have h0 := hq q (.head _)
  have hr := rel_joinW qs _ _ (rel_marked h0.2 h0.1) fun x hx => hq x (.tail _ hx)
  refine ⟨joinPy (markedL q.2 q.1) (qs.map fun x => markedL x.2 x.1), ?_, hr.vm, ?_, (read_told hr).symm⟩
  · rw [joinPy_joined]; rfl
  · have e1 : (qs.map fun x => encL x.2 x.1) = (qs.map fun x => markedL x.2 x.1).map encA := by
      rw [List.map_map]
      exact List.map_congr_left fun x hx => enc_marked (hq x (.tail _ hx)).2 (hq x (.tail _ hx)).1
    rw [e1, enc_marked h0.2 h0.1]
    refine (joinPy_enc _ _ (rel_marked h0.2 h0.1).vm ?_).1
    intro p hp
    obtain ⟨x, hx, rfl⟩ := List.mem_map.mp hp
    have := hq x (.tail _ hx)
    exact (rel_marked this.2 this.1).vm
theorem law_of {m whole joined : T} (hm : VM m) (hw : whole = encA m) (hj : joined = readL m) : Law whole (normL whole) m (plainL m) joined := by
  subst hw
  have hn := normL_enc hm
  have hp := norm_plain m
  rw [hp] at hn
  refine ⟨decode_enc hm, hj, decode_rows hm, ?_, ?_, ?_⟩
  · rw [hn.1]; exact decode_enc hn.2
  · rw [hn.1]; exact decode_rows hn.2
  · rw [hn.1, halves_enc hn.2, List.map_map]
    exact List.map_congr_left fun p hp => decode_enc (halves_VM hn.2 p hp)
theorem br_all : (List.range 256).all (fun c => !(Unicode.isLineBreak c) || c == 10 || c == 13 || !(safe c)) = true := by decide +kernel
theorem br_hex : (List.range 110).all (fun c => !(isHex c) || !(Unicode.isLineBreak c)) = true := by decide +kernel
theorem enc_lb {m : T} (h : VM m) : ∀ c ∈ encA m, Unicode.isLineBreak c = true → c = 10 := by
  intro c hc hb
  unfold encA at hc
  obtain ⟨l, hl, hcl⟩ := List.mem_flatten.mp hc
  obtain ⟨d, hd, rfl⟩ := List.mem_map.mp hl
  rcases kind (h d hd) with ⟨h1, e⟩ | ⟨h10, hs, h61, hlt, e, hu⟩ | ⟨a, b, _, e, ha, hb2, _⟩
  · rw [e] at hcl
    simp only [List.mem_cons, List.not_mem_nil, or_false] at hcl
    rcases hcl with rfl | rfl
    · exact absurd hb (by decide)
    · rfl
  · rw [e, List.mem_singleton] at hcl
    subst hcl
    have := List.all_eq_true.mp br_all c (by simpa using hlt)
    simp only [hb, hs, Bool.or_eq_true, beq_iff_eq, Bool.not_true, Bool.false_eq_true, false_or, or_false] at this
    rcases this with h3 | h3
    · exact h3
    · rw [h3] at hs
      exact absurd hs (by decide)
  · have hx : ∀ z, isHex z = true → Unicode.isLineBreak z = true → False := by
      intro z hz hbz
      have hlt : z < 110 := by
        unfold isHex at hz
        simp only [Bool.or_eq_true, Bool.and_eq_true, decide_eq_true_eq] at hz
        lia
      have := List.all_eq_true.mp br_hex z (by simpa using hlt)
      simp [hz, hbz] at this
    rw [e] at hcl
    simp only [List.mem_cons, List.not_mem_nil, or_false] at hcl
    rcases hcl with rfl | rfl | rfl
    · exact absurd hb (by decide)
    · exact (hx _ ha hb).elim
    · exact (hx _ hb2 hb).elim
theorem encM_le (c : Nat) : (encM c).length ≤ 3 := by
  unfold encM quoteT; repeat (first | split | simp)
theorem encA_le : ∀ m : T, (encA m).length ≤ 3 * m.length
  | [] => Nat.le_refl _
  | c :: r => by
    have := encA_le r
    have := encM_le c
    rw [encA_cons, List.length_append, List.length_cons]; lia
theorem joinL_size (sep : T) : ∀ xs : List T, (joinL sep xs).length ≤ xs.flatten.length + xs.length * sep.length
  | [] => Nat.zero_le _
  | [x] => by simp [joinL]
  | x :: y :: r => by
    have ih := joinL_size sep (y :: r)
    rw [joinL_cons _ _ (by simp)]
    simp only [List.length_append, List.flatten_cons, List.length_cons, Nat.succ_mul] at ih ⊢
    lia
theorem tailM_size (w : Int) (part rest : T) : (tailM w part rest).flatten.length ≤ rest.length + 1 ∧ (tailM w part rest).length ≤ 2 := by
  unfold tailM
  split
  · split
    · simp; try lia
    · split
      · simp
      · simp; try lia
  · simp
theorem marked_size {w : Nat} {part : T} (hw : 4 ≤ w) (hp : VP part) : (markedL w part).length ≤ 2 * part.length + 3 := by
  obtain ⟨r1, r2, r3, r4, r5⟩ := rowsF_spec hw part.length part hp (Nat.le_refl _)
  unfold markedL
  have h1 := joinL_size [10] ((rowsF w part.length part).1 ++ tailM w part (rowsF w part.length part).2)
  have h2 := tailM_size (w : Int) part (rowsF w part.length part).2
  have h3 := congrArg List.length r1
  simp only [List.length_append, List.flatten_append, List.length_cons, List.length_nil, Nat.mul_one, Nat.zero_add] at h1 h3
  lia
end
section
open PySem PySem.Builtin.Str PySem.StrLaws
set_option Elab.async false
set_option maxRecDepth 100000
set_option linter.unusedSimpArgs false
noncomputable def encR (w : Nat) (r : T) : List T × T := encF w r.length r
theorem drop_fit {w n c : Nat} {r : T} (hw : 4 ≤ w) (hc : c ≤ 3) (h : r.length ≤ n + 1) : (r.drop (w - c)).length ≤ n := by rw [List.length_drop]; lia
theorem encF_fuel {w : Nat} (hw : 4 ≤ w) : ∀ (n m : Nat) (r : T), r.length ≤ n → r.length ≤ m → encF w n r = encF w m r
  | 0, m, r, h, _ => by
    have : r = [] := List.length_eq_zero_iff.mp (Nat.le_zero.mp h)
    subst this
    cases m with
    | zero => rfl
    | succ m => rw [encF_s, if_neg (by simp)]; rfl
  | n + 1, 0, r, _, h => by
    have : r = [] := List.length_eq_zero_iff.mp (Nat.le_zero.mp h)
    subst this
    rw [encF_s, if_neg (by simp)]; rfl
  | n + 1, m + 1, r, h1, h2 => by
    rw [encF_s, encF_s]
    have k : ∀ c, c ≤ 3 → encF w n (r.drop (w - c)) = encF w m (r.drop (w - c)) := fun c hc => encF_fuel hw n m _ (drop_fit hw hc h1) (drop_fit hw hc h2)
    split
    · rw [k 3 (by decide), k 2 (by decide), k 1 (by decide)]
    · rfl
theorem encR_s {w : Nat} {r : T} (hw : 4 ≤ w) (h : w < r.length) : encR w r = if r.getD (w - 3) 0 = 61 then (r.take (w - 2) :: (encR w (r.drop (w - 3))).1, (encR w (r.drop (w - 3))).2) else if r.getD (w - 2) 0 = 61 then (r.take (w - 1) :: (encR w (r.drop (w - 2))).1, (encR w (r.drop (w - 2))).2) else ((r.take (w - 1) ++ [61]) :: (encR w (r.drop (w - 1))).1, (encR w (r.drop (w - 1))).2) := by
  unfold encR
  cases hr : r.length with
  | zero => exact absurd (hr ▸ h) (Nat.not_lt_zero _)
  | succ n =>
    rw [encF_s, if_pos h]
    have k : ∀ c, c ≤ 3 → encF w n (r.drop (w - c)) = encF w (r.drop (w - c)).length (r.drop (w - c)) := fun c hc => encF_fuel hw n _ _ (drop_fit hw hc (Nat.le_of_eq hr)) (Nat.le_refl _)
    rw [k 3 (by decide), k 2 (by decide), k 1 (by decide)]
theorem encR_end {w : Nat} {r : T} (h : ¬ w < r.length) : encR w r = ([], r) := by
  unfold encR
  cases r.length with
  | zero => rfl
  | succ n => rw [encF_s, if_neg h]
structure OutE (w : Nat) (r : T) (R : List T) (b : Nat) : Prop where
  kl : b < r.length
  rows : R ++ (encR w (r.drop b)).1 = (encR w r).1
  rest : (encR w (r.drop b)).2 = (encR w r).2
  len : R.length ≤ b
  sum : (R.map List.length).sum ≤ 100 * b
theorem OutE.start {w : Nat} {r : T} (h : r ≠ []) : OutE w r [] 0 := ⟨List.length_pos_iff.mpr h, rfl, rfl, Nat.le_refl _, Nat.le_refl _⟩
theorem getD_drop (r : T) (b k : Nat) : (r.drop b).getD k 0 = r.getD (b + k) 0 := by
  rw [List.getD_eq_getElem?_getD, List.getElem?_drop, List.getD_eq_getElem?_getD]
theorem OutE.next {w : Nat} {r row : T} {R : List T} {b k : Nat} (h : OutE w r R b) (hk : 1 ≤ k) (hkl : b + k < r.length) (hrow : row.length ≤ 100)
    (e : encR w (r.drop b) = (row :: (encR w ((r.drop b).drop k)).1, (encR w ((r.drop b).drop k)).2)) : OutE w r (R ++ [row]) (b + k) := by
  have h1 := h.rows
  have h2 := h.rest
  rw [e, List.drop_drop] at h1 h2
  refine ⟨hkl, by rw [← h1]; simp, h2, ?_, ?_⟩
  · have := h.len
    rw [List.length_append, List.length_singleton]; lia
  · have := h.sum
    simp only [List.map_append, List.sum_append, List.map_cons, List.map_nil, List.sum_cons, List.sum_nil]; lia
section
variable {w : Nat} {r : T} {R : List T} {i : Int}
theorem tw_nat {c : Nat} (h0 : 0 ≤ i) (hw : c + 1 ≤ w) : (i + ((w : Int) - 1) - (c : Int)).toNat = i.toNat + (w - (c + 1)) := by lia
theorem tw_len (h0 : 0 ≤ i) (hle : i ≤ (r.length : Int) - 1 - (w : Int)) : i.toNat + w < r.length := by lia
theorem tw_cut (n m : Nat) : (r.take (n + m)).drop n = (r.drop n).take m := by rw [List.drop_take, Nat.add_sub_cancel_left]
theorem tw_lt {n m : Nat} (h : n + w < r.length) (hm : m ≤ w) : n + m < r.length := Nat.lt_of_le_of_lt (Nat.add_le_add_left hm n) h
theorem tw_drop {n : Nat} (h : n + w < r.length) : w < (r.drop n).length := by rw [List.length_drop]; exact Nat.lt_sub_of_add_lt (Nat.add_comm n w ▸ h)
theorem tw1 (hw : 4 ≤ w) (h0 : 0 ≤ i) : (i + ((w : Int) - 1) - 2).toNat = i.toNat + (w - 3) := tw_nat (c := 2) h0 (Nat.le_trans (by decide) hw)
theorem tw2 (hw : 4 ≤ w) (h0 : 0 ≤ i) : (i + ((w : Int) - 1) - 1).toNat = i.toNat + (w - 2) := tw_nat (c := 1) h0 (Nat.le_trans (by decide) hw)
theorem tw3 (hw : 4 ≤ w) (h0 : 0 ≤ i) : (i + ((w : Int) - 1)).toNat = i.toNat + (w - 1) := by have := tw_nat (c := 0) h0 (Nat.le_trans (by decide) hw); rwa [Int.natCast_zero, Int.sub_zero] at this
theorem tw_meas {c : Nat} (h0 : 0 ≤ i) (hw : c + 2 ≤ w) (hle : i ≤ (r.length : Int) - 1 - (w : Int)) : r.length - (i + ((w : Int) - 1) - (c : Int)).toNat < r.length - i.toNat := by lia
theorem tw_meas2 (hw : 4 ≤ w) (h0 : 0 ≤ i) (hle : i ≤ (r.length : Int) - 1 - (w : Int)) : r.length - (i + ((w : Int) - 1) - 2).toNat < r.length - i.toNat := tw_meas (c := 2) h0 hw hle
theorem tw_meas1 (hw : 4 ≤ w) (h0 : 0 ≤ i) (hle : i ≤ (r.length : Int) - 1 - (w : Int)) : r.length - (i + ((w : Int) - 1) - 1).toNat < r.length - i.toNat := tw_meas (c := 1) h0 (Nat.le_trans (by decide) hw) hle
theorem tw_meas0 (hw : 4 ≤ w) (h0 : 0 ≤ i) (hle : i ≤ (r.length : Int) - 1 - (w : Int)) : r.length - (i + ((w : Int) - 1)).toNat < r.length - i.toNat := by have := tw_meas (c := 0) h0 (Nat.le_trans (by decide) hw) hle; rwa [Int.natCast_zero, Int.sub_zero] at this
theorem OutE.step1 (hw : 4 ≤ w) (hw2 : w ≤ 100) (h0 : 0 ≤ i) (h : OutE w r R i.toNat) (hle : i ≤ (r.length : Int) - 1 - (w : Int)) (hc : r.getD (i + ((w : Int) - 1) - 2).toNat 0 = 61) :
    OutE w r (R ++ [(r.take (i + ((w : Int) - 1) - 1).toNat).drop i.toNat]) (i + ((w : Int) - 1) - 2).toNat := by
  have hl := tw_len h0 hle
  rw [tw1 hw h0] at hc ⊢
  rw [tw2 hw h0, tw_cut]
  refine h.next (Nat.le_sub_of_add_le hw) (tw_lt hl (Nat.sub_le _ _)) (Nat.le_trans (List.length_take_le _ _) (Nat.le_trans (Nat.sub_le _ _) hw2)) ?_
  rw [encR_s hw (tw_drop hl), if_pos (by rw [getD_drop]; exact hc)]
theorem OutE.step2 (hw : 4 ≤ w) (hw2 : w ≤ 100) (h0 : 0 ≤ i) (h : OutE w r R i.toNat) (hle : i ≤ (r.length : Int) - 1 - (w : Int)) (hn : r.getD (i + ((w : Int) - 1) - 2).toNat 0 ≠ 61) (hc : r.getD (i + ((w : Int) - 1) - 1).toNat 0 = 61) :
    OutE w r (R ++ [(r.take (i + ((w : Int) - 1)).toNat).drop i.toNat]) (i + ((w : Int) - 1) - 1).toNat := by
  have hl := tw_len h0 hle
  rw [tw1 hw h0] at hn
  rw [tw2 hw h0] at hc ⊢
  rw [tw3 hw h0, tw_cut]
  refine h.next (Nat.le_sub_of_add_le (Nat.le_trans (by decide) hw)) (tw_lt hl (Nat.sub_le _ _)) (Nat.le_trans (List.length_take_le _ _) (Nat.le_trans (Nat.sub_le _ _) hw2)) ?_
  rw [encR_s hw (tw_drop hl), if_neg (by rw [getD_drop]; exact hn), if_pos (by rw [getD_drop]; exact hc)]
theorem OutE.step3 (hw : 4 ≤ w) (hw2 : w ≤ 99) (h0 : 0 ≤ i) (h : OutE w r R i.toNat) (hle : i ≤ (r.length : Int) - 1 - (w : Int)) (hn : r.getD (i + ((w : Int) - 1) - 2).toNat 0 ≠ 61) (hc : r.getD (i + ((w : Int) - 1) - 1).toNat 0 ≠ 61) :
    OutE w r (R ++ [(r.take (i + ((w : Int) - 1)).toNat).drop i.toNat ++ [61]]) (i + ((w : Int) - 1)).toNat := by
  have hl := tw_len h0 hle
  rw [tw1 hw h0] at hn
  rw [tw2 hw h0] at hc
  rw [tw3 hw h0, tw_cut]
  refine h.next (Nat.le_sub_of_add_le (Nat.le_trans (by decide) hw)) (tw_lt hl (Nat.sub_le _ _)) (by rw [List.length_append, List.length_singleton]; exact Nat.succ_le_succ (Nat.le_trans (List.length_take_le _ _) (Nat.le_trans (Nat.sub_le _ _) hw2))) ?_
  rw [encR_s hw (tw_drop hl), if_neg (by rw [getD_drop]; exact hn), if_neg (by rw [getD_drop]; exact hc)]
theorem OutE.stop (h0 : 0 ≤ i) (h : OutE w r R i.toNat) (hle : ¬ i ≤ (r.length : Int) - 1 - (w : Int)) : encR w r = (R, r.drop i.toNat) := by
  have h1 := h.rows
  have h2 := h.rest
  rw [encR_end (by rw [List.length_drop]; lia)] at h1 h2
  rw [List.append_nil] at h1
  exact Prod.ext h1.symm h2.symm
theorem last_drop {k : Nat} (h : k < r.length) : (r.drop k).getLast? = r.getLast? := by rw [List.getLast?_drop, if_neg (by lia)]
theorem last_dropD {k : Nat} (h : k < r.length) : (r.drop k).getLastD 0 = r.getLastD 0 := by rw [List.getLastD_eq_getLast?, last_drop h, List.getLastD_eq_getLast?]
theorem drop_dropLast2 (x : T) (k : Nat) : x.dropLast.drop k = (x.drop k).dropLast := by
  rw [List.dropLast_eq_take, List.dropLast_eq_take, List.drop_take, List.length_drop]
  congr 1; lia
theorem te_no {k : Nat} (hk : k < r.length) (h1 : r.getLast? ≠ some 32) (h2 : r.getLast? ≠ some 9) : tailE w (r.drop k) = r.drop k := by
  unfold tailE; rw [last_drop hk, if_neg (fun q => q.elim h1 h2)]
theorem te_1 (hk : i.toNat < r.length) (h0 : 0 ≤ i) (h1 : r.getLast? = some 32 ∨ r.getLast? = some 9) (h : 3 ≤ i - ((r.length : Int) - 1 - (w : Int))) : tailE w (r.drop i.toNat) = r.dropLast.drop i.toNat ++ quoteT (r.getLastD 0) := by
  unfold tailE
  rw [last_drop hk, if_pos h1, last_dropD hk, drop_dropLast2, if_pos (by rw [List.length_drop]; lia)]
theorem te_2 (hk : i.toNat < r.length) (h0 : 0 ≤ i) (h1 : r.getLast? = some 32 ∨ r.getLast? = some 9) (h : i - ((r.length : Int) - 1 - (w : Int)) = 2) : tailE w (r.drop i.toNat) = r.dropLast.drop i.toNat ++ ([r.getLastD 0] ++ ([61] ++ [10])) := by
  unfold tailE
  rw [last_drop hk, if_pos h1, last_dropD hk, drop_dropLast2, if_neg (by rw [List.length_drop]; lia), if_pos (by rw [List.length_drop]; lia)]; rfl
theorem te_3 (hk : i.toNat < r.length) (h0 : 0 ≤ i) (h1 : r.getLast? = some 32 ∨ r.getLast? = some 9) (h : ¬ 3 ≤ i - ((r.length : Int) - 1 - (w : Int))) (h2 : i - ((r.length : Int) - 1 - (w : Int)) ≠ 2) : tailE w (r.drop i.toNat) = r.dropLast.drop i.toNat ++ ([61] ++ [10] ++ quoteT (r.getLastD 0)) := by
  unfold tailE
  rw [last_drop hk, if_pos h1, last_dropD hk, drop_dropLast2, if_neg (by rw [List.length_drop]; lia), if_neg (by rw [List.length_drop]; lia)]; rfl
theorem encL_eq {part : T} (h : part ≠ []) (hr : r = (part.map bodyT).flatten) : encL w part = joinL [10] ((encR w r).1 ++ [tailE w (encR w r).2]) := by
  unfold encL; rw [if_neg h, hr]; rfl
end
theorem enc_facts {part : T} (h : VP part) (hne : part ≠ []) : (part.map bodyT).flatten ≠ [] ∧ 10 ∉ (part.map bodyT).flatten ∧ (∀ c ∈ (part.map bodyT).flatten, Unicode.isLineBreak c = true → c = 10) ∧ (part.map bodyT).flatten.length ≤ 3 * part.length := by
  rw [← encA_body h]
  refine ⟨fun e => hne (encA_eq_nil.mp e), enc_free part (VP_M h) (fun m => (h 10 m).2.1 rfl), enc_lb (VP_M h), encA_le part⟩
theorem enc_last {part : T} (h : VP part) (hne : part ≠ []) : (part.map bodyT).flatten.getLastD 0 ≠ 10 ∧ (part.map bodyT).flatten.getLastD 0 ≠ 13 := by
  obtain ⟨h1, h2, h3, _⟩ := enc_facts h hne
  have hm : (part.map bodyT).flatten.getLastD 0 ∈ (part.map bodyT).flatten := by
    rw [List.getLastD_eq_getLast?, List.getLast?_eq_some_getLast h1]; exact List.getLast_mem h1
  refine ⟨fun e => h2 (by rw [← e]; exact hm), fun e => ?_⟩
  have := h3 _ hm (by rw [e]; decide)
  rw [e] at this; cases this
end
section
open PySem PySem.W PyProof.Rows PySem.Spec PySem.Calls PySem.Builtin PySem.Builtin.Str
set_option Elab.async false
set_option maxRecDepth 100000
set_option maxHeartbeats 400000
section
variable {prog : Program} {w : World} {A : Around} {E : Value → Shared → Prop} {s : Shared}
theorem look_text {f : Nat → T} {a : Addr} {c : Nat} {l : List Value} {Q : Mapped → Shared → Prop} (hL : s.heap.IsList a l.toArray) (ok : okMap f l = true) (hc : c < 256)
    (h : ∀ k, Q (.text (S (f c))) { s with toks := k }) : wpAny (model prog w) A (tableLookup (.ref a) c) Q E s := by
  obtain ⟨t, ht⟩ := okMap_at ok hc
  unfold tableLookup
  refine wpAny_bind (wpAny_attempt (wpAny_bind (wpAny_mkInt' ?_)))
  refine wpAny_getItem_list (k := (c : Int)) (s := { s with toks := s.toks + 1 }) hL (by lia) (by lia) (by simpa using ht) ?_
  show wpAny (model prog w) A (pure (Mapped.text (S (f c)))) Q E _
  exact wpAny_pure (h _)
theorem arrayLoopN {M : Model} {α β : Type} {F : α → β → Sem (ForInStep β)} {arr : Array α} {b : β} {s : Shared} {Q : β → Shared → Prop} {hle : arr.size ≤ arr.size}
    (hq : wpAny M A (forIn arr.toList b F) Q E s) : wpAny M A (Array.forIn'.loop arr (fun a _ => F a) arr.size hle b) Q E s := by
  have e : forIn arr b F = forIn arr.toList b F := by
    first
      | exact (Array.forIn_toList ..).symm
      | simp
  show wpAny M A (forIn arr b F) Q E s
  rw [e]; exact hq
noncomputable def TrInv (x : T) (s : Shared) (rest : List Nat) (st : List Str × Nat × Bool × List (Nat × Option Nat) × Bool) (s' : Shared) : Prop :=
  ∃ pre, x = pre ++ rest ∧ (st.1.reverse.map tl).flatten = (pre.map bodyT).flatten ∧ st.2.1 = ((pre.map bodyT).flatten).length ∧ st.2.2.2.2 = false ∧ (∀ c a, st.2.2.2.1.lookup c = some a → ∃ d, a = some d ∧ bodyT c = [d]) ∧ ∃ k, s' = { s with toks := k }
theorem bodyT_len (c : Nat) : (bodyT c).length ≤ 3 := by unfold bodyT quoteT; split <;> simp
theorem body_len : ∀ x : T, ((x.map bodyT).flatten).length ≤ 3 * x.length
  | [] => Nat.le_refl _
  | c :: r => by
    have := body_len r
    have := bodyT_len c
    simp only [List.map_cons, List.flatten_cons, List.length_append, List.length_cons]; lia
theorem tr_next {x : T} {s : Shared} {pre rest : List Nat} {c : Nat} {pieces : List Str} {total : Nat} {fast : Bool} {known : List (Nat × Option Nat)} {y : Str} {k : Nat} (hx : x = pre ++ c :: rest) (hp : (pieces.reverse.map tl).flatten = (pre.map bodyT).flatten) (ht : total = ((pre.map bodyT).flatten).length) (hk : ∀ c a, known.lookup c = some a → ∃ d, a = some d ∧ bodyT c = [d]) (hy : tl y = bodyT c) :
    TrInv x s rest (y :: pieces, total + y.length, fast, known, false) { s with toks := k } := by
  refine ⟨pre ++ [c], by rw [hx]; simp, ?_, ?_, rfl, hk, k, rfl⟩
  · simp only [List.reverse_cons, List.map_append, List.flatten_append, hp]
    simp [hy]
  · have e : y.length = (bodyT c).length := by rw [len_tl]; exact congrArg List.length hy
    simp only [List.map_append, List.flatten_append, List.length_append, ← ht]
    simp [e]
theorem tr_known {known : List (Nat × Option Nat)} {c d : Nat} (hk : ∀ c a, known.lookup c = some a → ∃ d, a = some d ∧ bodyT c = [d]) (hd : bodyT c = [d]) : ∀ c' a, ((c, some d) :: known).lookup c' = some a → ∃ d, a = some d ∧ bodyT c' = [d] := by
  intro c' a h
  rw [List.lookup_cons] at h
  cases e : (c' == c)
  · rw [e] at h; exact hk c' a h
  · rw [e] at h
    rw [beq_iff_eq] at e
    injection h with h
    exact ⟨d, h.symm, by rw [e]; exact hd⟩
theorem tr_small (n : Nat) (hn : n ≤ 300000) : tooLong n = false := by
  unfold tooLong
  have : (16000000 : Nat) ≤ sizeLine := by decide
  rw [decide_eq_false_iff_not]; lia
theorem tr_one {y : T} {a : Option Nat} (h : (if ((S y).length == 1 && (S y).cps.all fun x => decide (x < 128)) = true then some (S y).cps[0]? else none) = some a) : ∃ d, a = some d ∧ y = [d] := by
  split at h
  · rename_i hc
    rw [Bool.and_eq_true, beq_iff_eq, S_len] at hc
    match y, hc.1 with
    | [d], _ => injection h with h; exact ⟨d, h.symm, rfl⟩
  · cases h
theorem tr_fold : ∀ l : List Str, (⟨l.foldl (fun acc p => acc ++ p.cps) #[]⟩ : Str) = S (l.map tl).flatten := by
  have key : ∀ (l : List Str) (acc : Array Nat), (l.foldl (fun acc p => acc ++ p.cps) acc).toList = acc.toList ++ (l.map tl).flatten := by
    intro l
    induction l with
    | nil => intro acc; simp
    | cons p r ih => intro acc; rw [List.foldl_cons, ih]; simp
  intro l
  exact eq_S (by rw [key]; rfl)
theorem tr_run {x : T} {t : Tok} {a : Addr} {l : List Value} {Q : Fin → Shared → Prop} (hx : x ≠ []) (hc : ∀ c ∈ x, c < 256) (hsz : x.length ≤ 100000) (hL : s.heap.IsList a l.toArray) (ok : okMap bodyT l = true)
    (hq : ∀ t' k, Q (.done (.ret (.str (S (x.map bodyT).flatten) t'))) { s with toks := k }) : wpAny (model prog w) A (Builtin.«str.translate» ⟨[.str (S x) t, .ref a], []⟩) Q E s := by
  have e0 : ((S x).length == 0) = false := by
    rw [S_len]
    cases x with
    | nil => exact absurd rfl hx
    | cons a r => rfl
  repeat (any_goals (first | assumption | wp_step))
  refine arrayLoopN ?_
  have e1 : (S x).cps.toList = x := S_cps x
  rw [e1]
  refine wpAny_forIn_list _ (TrInv x s) _ ?_ ?_ _ _ ⟨[], rfl, rfl, rfl, rfl, by intro c a h; simp at h, s.toks, rfl⟩
  · rintro c rest ⟨pieces, total, fast, known, aft⟩ s' ⟨pre, hx2, hp, ht, ha, hk, kk, rfl⟩
    dsimp only at hp ht ha hk
    subst ha
    have hcc : c < 256 := hc c (by rw [hx2]; simp)
    have htl : tooLong total = false := tr_small total (by
      have := body_len pre
      have e : x.length = pre.length + (rest.length + 1) := by rw [hx2]; simp
      lia)
    cases fast with
    | false =>
      simp only [htl, Bool.false_eq_true, if_false]
      exact wpAny_bind (look_text (s := { s with toks := kk }) hL ok hcc fun k9 => wpAny_pure (tr_next hx2 hp ht hk (S_cps _)))
    | true =>
      cases hl : known.lookup c with
      | some a =>
        obtain ⟨d, rfl, hd⟩ := hk c a hl
        simp only [htl, hl, Bool.false_eq_true, if_false, if_true]
        exact wpAny_bind (wpAny_pure (wpAny_pure (tr_next hx2 hp ht hk (y := S [d]) (by rw [hd]; exact S_cps _))))
      | none =>
        simp only [htl, hl, Bool.false_eq_true, if_false, if_true]
        refine wpAny_bind (look_text (s := { s with toks := kk }) hL ok hcc fun k9 => ?_)
        dsimp only
        split
        · rename_i a9 hif
          rw [hif]
          obtain ⟨d, rfl, hd⟩ := tr_one hif
          exact wpAny_bind (wpAny_pure (wpAny_pure (tr_next hx2 hp ht (tr_known hk hd) (y := S [d]) (by rw [hd]; exact S_cps _))))
        · rename_i hno
          have hif : (if ((S (bodyT c)).length == 1 && (S (bodyT c)).cps.all fun x => decide (x < 128)) = true then some (S (bodyT c)).cps[0]? else none) = none := by
            split
            · rename_i h; exact absurd (if_pos h) (hno _)
            · rfl
          rw [hif]
          refine wpAny_bind (wpAny_pure (wpAny_bind (wpAny_rule ?_)))
          exact wpAny_bind (look_text (s := { s with toks := k9 }) hL ok hcc fun k8 => wpAny_pure (tr_next hx2 hp ht hk (S_cps _)))
  · rintro ⟨pieces, total, fast, known, aft⟩ s' ⟨pre, hx2, hp, ht, ha, hk, kk, rfl⟩
    dsimp only at hp ht ⊢
    rw [List.append_nil] at hx2
    subst hx2
    have htl : tooLong total = false := tr_small total (by have := body_len x; lia)
    simp only [htl, Bool.false_eq_true, if_false]
    rw [tr_fold, hp]
    unfold retStr
    repeat (any_goals (first | assumption | wp_step))
    have hbl := body_len x
    have hsl : (16000000 : Nat) ≤ sizeLine := by decide
    rw [if_neg (by rw [S_len]; lia)]
    clear hbl hsl
    repeat (any_goals (first | assumption | wp_step))
    exact hq _ _
theorem tr_call {x : T} {t : Tok} {a : Addr} {l : List Value} {Q : Value → Shared → Prop} (hx : x ≠ []) (hc : ∀ c ∈ x, c < 256) (hsz : x.length ≤ 100000) (hL : s.heap.IsList a l.toArray) (ok : okMap bodyT l = true)
    (hq : ∀ t' k, Q (.str (S (x.map bodyT).flatten) t') { s with toks := k }) : wpAny (model prog w) A (call (.builtin "str.translate") [.str (S x) t, .ref a]) Q E s :=
  wpAny_call_entry F.slot_str_translate (typeIs_str s (S x) t) F.entry_str_translate (tr_run hx hc hsz hL ok fun t' k => ⟨_, rfl, hq t' k⟩) (F.args_str_translate_2 _ _)
theorem tr_method {x : Str} {t : Tok} {pl : Sem Bool} {Q : Value × List Value → Shared → Prop} (h : Q (.builtin "str.translate", [.str x t]) s) : wpAny (model prog w) A (getMethod (.str x t) "translate" pl) Q E s := by
  with_reducible exact GM.of (.str x t) (typeIs_str _ _ _) F.slot_str_translate F.type_str_translate GM.noRef h
end
end
section
open PySem PySem.W PyProof.Rows PySem.Spec PySem.Calls PySem.Builtin
set_option Elab.async false
set_option maxRecDepth 100000
noncomputable def boundA (l : Addr) : Obj := { cls := .type "builtin_function_or_method", data := .fields #[.builtin "list.append", .ref l] }
theorem slot_mget : Slot "method_descriptor" "__get__" "method_descriptor.__get__" :=
  .of (owner := "method_descriptor") (n := "__get__") (by rw [typeLookup_type, builtinLookup_eq_fast]; kernel_rfl) (by decide +kernel) (by decide +kernel) (by decide +kernel)
    (by first | exact .inl (by decide +kernel) | exact .inr (by decide +kernel)) (by rw [isSubtype_type]; kernel_rfl)
theorem entry_mget : entryFor table "method_descriptor.__get__" = some Builtin.«method_descriptor.__get__» := entryFor_of_tree (by kernel_rfl)
theorem args_mget (a b c : Value) : argsOk "method_descriptor.__get__" ⟨[a, b, c], []⟩ := by unfold argsOk; kernel_rfl
theorem type_la : typeOf (.builtin "list.append") = pure (.type "method_descriptor") := by show builtinType _ = _; rw [builtinType_eq_fast]; kernel_rfl
theorem told_la : Manifest.toldItsClass.contains "list.append" = false := by decide +kernel
theorem owner_la : (kfb_private% "ownerAndName") "list.append" = ("list", "append") := by first | decide +kernel | kernel_rfl
theorem name_la : ".".intercalate ("list.append".cutAt '.').dropLast = "list" := by decide +kernel
theorem sub_ll : isSubtype (.type "list") (.type "list") = pure true := by rw [isSubtype_type]; kernel_rfl
theorem mset_none : typeLookup (.type "method_descriptor") "__set__" = pure none := by rw [typeLookup_type, builtinLookup_eq_fast]; kernel_rfl
theorem mdel_none : typeLookup (.type "method_descriptor") "__delete__" = pure none := by rw [typeLookup_type, builtinLookup_eq_fast]; kernel_rfl
section
variable {prog : Program} {w : World} {A : Around} {E : Value → Shared → Prop} {s : Shared}
theorem run_mget {l : Addr} {its : Array Value} {P : Fin → Shared → Prop} (hl : s.heap.IsList l its) (h : P (.done (.ret (.ref s.heap.objs.size))) { s with heap := s.heap.push (boundA l) }) :
    wpAny (model prog w) A (Builtin.«method_descriptor.__get__» ⟨[.builtin "list.append", .ref l, .type "list"], []⟩) P E s := by
  have hT : s.TypeIs (.ref l) "list" := hl.typeIs
  have f1 := sub_ll
  unfold Builtin.«method_descriptor.__get__»
  refine wpAny_bind (wpAny_of_eq (a := (.builtin "list.append", some (.ref l), some (.type "list"))) (by first | rfl | kernel_rfl) ?_)
  simp only [told_la, Bool.false_eq_true, if_false]
  repeat (any_goals (first | assumption | wp_step))
  rw [name_la]
  repeat (any_goals (first | assumption | wp_step))
theorem run_lga {l : Addr} {its : Array Value} {n : Nat} {u : Tok} {P : Fin → Shared → Prop} (hx : s.heap.get? l = some { cls := .type "list", dict := none, data := .seq its n }) (h : P (.done (.ret (.ref s.heap.objs.size))) { s with heap := s.heap.push (boundA l) }) :
    wpAny (model prog w) A (Builtin.«object.__getattribute__» ⟨[.ref l, .str (Str.ofString "append") u], []⟩) P E s := by
  obtain ⟨hp, g, d, tk, os⟩ := s
  have hl : (⟨hp, g, d, tk, os⟩ : Shared).heap.IsList l its := ⟨_, hx, rfl, n, rfl⟩
  have hT : (⟨hp, g, d, tk, os⟩ : Shared).TypeIs (.ref l) "list" := hl.typeIs
  have f1 := F.slot_list_append.lookup
  have f2 := type_la
  have f3 := slot_mget.lookup
  have f4 := mset_none
  have f5 := mdel_none
  have f6 : (["__module__", "__name__", "__qualname__", "__doc__", "__annotations__"] : List Str).contains (Str.ofString "append") = false := by decide +kernel
  unfold Builtin.«object.__getattribute__»
  repeat (any_goals (first | assumption | ((with_reducible show wpAny _ _ (call (Value.builtin "method_descriptor.__get__") _ _) _ _ _); refine wpAny_call_entry slot_mget type_la entry_mget (run_mget hl ⟨_, rfl, ?_⟩) (args_mget _ _ _)) | wp_step))
theorem ga_append {l : Addr} {its : Array Value} {n : Nat} {Q : Value → Shared → Prop} (hx : s.heap.get? l = some { cls := .type "list", dict := none, data := .seq its n })
    (h : ∀ k, Q (.ref s.heap.objs.size) { s with heap := s.heap.push (boundA l), toks := k }) : wpAny (model prog w) A (getAttr (.ref l) (Str.ofString "append") true) Q E s := by
  obtain ⟨hp, g, d, tk, os⟩ := s
  have hT : ∀ tk', (⟨hp, g, d, tk', os⟩ : Shared).TypeIs (.ref l) "list" := fun _ => ⟨_, hx, rfl⟩
  have f3 := F.slot_list_getattribute.lookup
  have f4 := F.slot_list_getattribute.bind (.ref l)
  have f5 := am_list_getattr_none
  unfold getAttr getAttrBy
  repeat (any_goals (first | assumption | exact hT _ | ((with_reducible show wpAny _ _ (call (Value.builtin "list.__getattribute__") _ _) _ _ _); refine wpAny_call_entry F.slot_list_getattribute (hT _) am_entry_list_getattribute (run_lga hx ⟨_, rfl, ?_⟩) (F.args_list_getattribute_2 _ _)) | wp_step))
  exact h _
end
end
section
open PySem PySem.W PyProof.Rows PySem.Spec PySem.Calls PySem.Builtin
set_option Elab.async false
set_option maxRecDepth 100000
section
variable {prog : Program} {w : World} {A : Around} {E : Value → Shared → Prop} {s : Shared}
theorem sig_la : Manifest.signature? "list.append" = some ⟨.oneArg, "list.append", "append", .self, [⟨"object", .posOnly, true⟩]⟩ := by
  rw [signature?_of (id := "list.append") (n := ['d', 'n', 'e', 'p', 'p', 'a']) (o := ['t', 's', 'i', 'l']) (by kernel_rfl) F.owner_list]; kernel_rfl
theorem kind_la : builtinKind "list.append" = some .method := by decide +kernel
theorem var_la : Manifest.varargsMethods.contains "list.append" = false := by decide +kernel
theorem sub_lm : isSubtype (.type "list") (.type "module") = pure false := by rw [isSubtype_type]; kernel_rfl
theorem chk_la {l : Addr} {x : Value} {its : Array Value} {n : Nat} {Q : Unit → Shared → Prop} (hx : s.heap.get? l = some { cls := .type "list", dict := none, data := .seq its n }) (h : Q () s) : wpAny (model prog w) A (checkBoundCall "list.append" ⟨[.ref l, x], []⟩) Q E s := by
  obtain ⟨hp, g, d, tk, os⟩ := s
  have hT : (⟨hp, g, d, tk, os⟩ : Shared).TypeIs (.ref l) "list" := ⟨_, hx, rfl⟩
  have f1 := sub_lm
  unfold checkBoundCall
  simp only [sig_la, kind_la, var_la]
  repeat (any_goals (first | assumption | wp_step))
theorem quiet_la {as : Args} : (Code.builtin "list.append" as).quiet = true := Code.quiet_builtin _ (by decide +kernel)
theorem call_la {b l : Addr} {x : Value} {its : Array Value} {n : Nat} {Q : Value → Shared → Prop} (ho : s.heap.get? b = some (boundA l)) (hx : s.heap.get? l = some { cls := .type "list", dict := none, data := .seq its n })
    (h : ∀ h', Heap.SameBut l s.heap h' → h'.get? l = some { cls := .type "list", data := .seq (its.push x) (n + 1) } → Q .none { s with heap := h' }) (hsz : its.size ≤ sizeLine) : wpAny (model prog w) A (call (.ref b) [x]) Q E s := by
  refine wpAny_call (codeAny_of_tree ?_)
  show wpAny _ A.in1 (callAny (.ref b) ⟨[x], []⟩) _ _ s
  simp only [callAny]
  refine wpAny_bind (wpAny_load ho ?_)
  simp only [boundA, show (Value.type "builtin_function_or_method" == Value.type "method" || Value.type "builtin_function_or_method" == Value.type "builtin_function_or_method" || Value.type "builtin_function_or_method" == Value.type "method-wrapper") = true by decide, if_true]
  refine KFB.if_so (by decide) ?_
  refine wpAny_bind (chk_la hx ?_)
  refine wpAny_bind (wpAny_pure (wpAny_pure ?_))
  refine ⟨quiet_la, codeAny_builtin F.entry_list_append ?_⟩
  show wpAny _ _ (updateSeq l (·.push x) >>= fun _ => ret .none) _ _ s
  refine wpAny_bind ?_
  refine wpAny_updateSeq hx rfl (wpAny_pure (h _ (Heap.SameBut.update ..) ?_))
  rw [Heap.get?_update_self _ hx (by rw [mapSeq_push]; rfl), mapSeq_push]
section
variable {h₀ : Heap} {L : Addr} {m : Str → Option Value} {news news' : List (Addr × Obj)}
theorem call_laK {b l : Addr} {its : Array Value} {n : Nat} {x : Value} {Q : Value → Shared → Prop} (F : Fr h₀ L s.heap m) (N : News h₀ L s.heap news) (hb : (b, boundA l) ∈ news) (U : Upd l (listOf its n) (listOf (its.push x) (n + 1)) news news')
    (h : ∀ h', Fr h₀ L h' m → News h₀ L h' news' → Q .none { s with heap := h' }) (hsz : its.size ≤ sizeLine) : wpAny (model prog w) A (call (.ref b) [x]) Q E s := by
  obtain ⟨pre, post, rfl, rfl, a, c⟩ := U.split
  have z := N (l, listOf its n) (List.mem_append.mpr (.inr (.head _)))
  exact call_la (N _ hb).1 z.1 (fun h' hs ho' => h h' (F.change hs z.2.1 z.2.2) (news_set N a c hs ho')) hsz
theorem ga_laK {l : Addr} {its : Array Value} {n : Nat} {Q : Value → Shared → Prop} (F : Fr h₀ L s.heap m) (N : News h₀ L s.heap news) (hl : (l, listOf its n) ∈ news)
    (h : ∀ b h' k, Fr h₀ L h' m → News h₀ L h' ((b, boundA l) :: news) → (∀ p ∈ news, p.1 < b) → Q (.ref b) { s with heap := h', toks := k }) : wpAny (model prog w) A (getAttr (.ref l) (Str.ofString "append") true) Q E s :=
  ga_append (N _ hl).1 fun k => h _ _ k (F.push _) (News.push F N _) fun p hp => Heap.lt_size (N p hp).1
noncomputable def BoundAt (b l : Addr) (h : Heap) : Prop := h.get? b = some (boundA l)
theorem bound_at {b l : Addr} {h : Heap} (N : News h₀ L h news) (hm : (b, boundA l) ∈ news) : BoundAt b l h := (N _ hm).1
theorem cw_fields {pos : Pos} {u l : Addr} {first : List Value} {args : List (Bool × Sem Value)} {Q : Value → Shared → Prop} (hplain : args.any (·.1) = false)
    (h : wpAny (model prog w) A (evalArgs (.ref u) true args []) (fun x s₁ => BoundAt u l s₁.heap ∧ wpAny (model prog w) A (call (.ref u) (first ++ x.pos) x.kw) Q E s₁) E s) : wpAny (model prog w) A (callWith pos (.ref u) first args []) Q E s := by
  unfold callWith
  refine wpAny_bind (wpAny_holding (wpAny_mono h (fun x s₁ h₁ => wpAny_bind (wpAny_standAt ?_)) fun _ _ x => x))
  obtain ⟨ho, hcall⟩ := h₁
  simp only [hplain, List.any_nil, Bool.or_false]
  refine wpAny_bind (m := keeperOf (.ref u)) ?_
  unfold keeperOf
  refine wpAny_bind (wpAny_load ho ?_)
  simp only [boundA, show (Value.type "builtin_function_or_method" != Value.type "method") = true by decide, show (Value.type "builtin_function_or_method" == Value.type "builtin_function_or_method" || Value.type "builtin_function_or_method" == Value.type "method-wrapper") = true by decide, if_true]
  refine wpAny_pure ?_
  exact wpAny_bind (wpAny_mono hcall (fun r s₂ hr => wpAny_bind (wpAny_holding (wpAny_point (wpAny_pure hr)))) fun _ _ x => x)
theorem cw_bound {pos : Pos} {u l : Addr} {first : List Value} {env : Env} {e : PySem.Expr} {rest : List PySem.Expr} {Q : Value → Shared → Prop} (_N : News h₀ L s.heap news) (_hm : (u, boundA l) ∈ news)
    (h : wpAny (model prog w) A (spliced (backTo pos (starEach (e :: rest) env))) (fun vs s₁ => BoundAt u l s₁.heap ∧ wpAny (model prog w) A (call (.ref u) (first ++ vs)) Q E s₁) E s)
    (he : starEach (e :: rest) env = (false, eval e env) :: starEach rest env := by rfl) (hplain : (backTo pos (starEach rest env)).any (·.1) = false := by rfl) :
    wpAny (model prog w) A (callWith pos (.ref u) first (backTo pos (starEach (e :: rest) env)) []) Q E s := by
  rw [he] at h ⊢
  refine cw_fields (l := l) (by show (false || (backTo pos (starEach rest env)).any (·.1)) = false; rw [hplain]; rfl) ?_
  exact evalArgs_plain h
end
end
end
section
open PySem PySem.Builtin.Str PySem.StrLaws
set_option Elab.async false
set_option maxRecDepth 100000
set_option linter.unusedSimpArgs false
theorem vP_of (c : Nat) (h : c < 256 ∧ c ≠ 10 ∧ c ≠ 13) : vP c := h
theorem kind_VP (k : Nat) : VP (kindT k) ∧ (kindT k).length ≤ 3 := by
  by_cases h : k < 8
  · have : ∀ k, k < 8 → (∀ c ∈ kindT k, c < 256 ∧ c ≠ 10 ∧ c ≠ 13) ∧ (kindT k).length ≤ 3 := by decide
    exact this k h
  · have : kindT k = [] := by unfold kindT; rw [List.getD_eq_getElem?_getD, List.getElem?_eq_none (by simp; lia)]; rfl
    rw [this]; exact ⟨(by intro c hc; cases hc), by simp⟩
structure PartsOk (xs : List T) (n k : Nat) : Prop where
  ne : k < xs.length
  vp : ∀ p ∈ xs, VP p
  len : xs.length ≤ n + 1
  sum : (xs.map List.length).sum ≤ 3 * n
theorem PartsOk.last {xs : List T} {n k : Nat} {y : T} (h : PartsOk xs n k) (hy : VP y) (hl : y.length ≤ 3) : PartsOk (xs.dropLast ++ [xs.getLastD [] ++ y]) (n + 1) k := by
  have hne : xs ≠ [] := by rintro rfl; have := h.ne; simp at this
  have e := snoc_of [] hne
  have hlast : VP (xs.getLastD []) := h.vp _ (last_mem hne)
  have h1 := h.ne
  have h2 := h.len
  have h3 := h.sum
  refine ⟨by simp only [List.length_append, List.length_dropLast, List.length_singleton]; lia, ?_, by simp only [List.length_append, List.length_dropLast, List.length_singleton]; lia, ?_⟩
  · intro p hp
    rcases List.mem_append.mp hp with hp | hp
    · exact h.vp p ((List.dropLast_sublist _).subset hp)
    · rw [List.mem_singleton.mp hp]; exact VP_app.mpr ⟨hlast, hy⟩
  · have e2 : (xs.map List.length).sum = (xs.dropLast.map List.length).sum + (xs.getLastD []).length := by
      conv => lhs; rw [e]
      simp
    simp only [List.map_append, List.sum_append, List.map_cons, List.map_nil, List.sum_cons, List.sum_nil, List.length_append]; lia
theorem PartsOk.step {xs : List T} {n k : Nat} (h : PartsOk xs n k) (x : Int) : PartsOk (stepParts xs x) (n + 1) (if x % 9 = 0 then k + 1 else k) := by
  unfold stepParts
  simp only
  have h9 := Int.emod_nonneg x (show (9 : Int) ≠ 0 by decide)
  have h99 := Int.emod_lt_of_pos x (show (0 : Int) < 9 by decide)
  by_cases h0 : x % 9 = 0
  · rw [if_pos (by lia), if_pos h0]
    refine ⟨by have := h.ne; simp; lia, ?_, by have := h.len; simp; lia, by have := h.sum; simp; lia⟩
    intro p hp
    rcases List.mem_append.mp hp with hp | hp
    · exact h.vp p hp
    · rw [List.mem_singleton.mp hp]; intro c hc; cases hc
  · rw [if_neg (by lia), if_neg h0]
    split
    · exact h.last (kind_VP _).1 (kind_VP _).2
    · split
      · exact h.last (VP_cons.mpr ⟨vP_of 47 (by decide), fun c hc => by cases hc⟩) (by simp)
      · rename_i h1 h2
        have e0 := Int.emod_nonneg (x / 9) (show (256 : Int) ≠ 0 by decide)
        have e9 := Int.emod_lt_of_pos (x / 9) (show (0 : Int) < 256 by decide)
        exact h.last (VP_cons.mpr ⟨vP_of _ (by lia), fun c hc => by cases hc⟩) (by simp)
theorem PartsOk.mono {xs : List T} {n k k' : Nat} (h : PartsOk xs n k) (hk : k' ≤ k) : PartsOk xs n k' := ⟨Nat.lt_of_le_of_lt hk h.ne, h.vp, h.len, h.sum⟩
theorem PartsOk.fold : ∀ (ns : List Int) {xs : List T} {n k : Nat}, PartsOk xs n k → PartsOk (ns.foldl stepParts xs) (n + ns.length) k
  | [], _, _, _, h => h
  | x :: r, xs, n, k, h => by
    have h1 := (h.step x).mono (show k ≤ _ by split <;> lia)
    have := PartsOk.fold r h1
    show PartsOk (r.foldl stepParts (stepParts xs x)) _ _
    rw [List.length_cons, show n + (r.length + 1) = n + 1 + r.length by lia]
    exact this
theorem parts_ok (few : List Int) (hf : few.length ≤ 10) : ∃ p0 p1 pr, partsL (few.take 1 ++ [4, 5, 0, 7, 3, 1, 4, 2, 4] ++ few.drop 1) = p0 :: p1 :: pr ∧ (∀ p ∈ p0 :: p1 :: pr, VP p) ∧ (p0 :: p1 :: pr).length ≤ 21 ∧ ((p0 :: p1 :: pr).map List.length).sum ≤ 60 := by
  have h0 : PartsOk [[]] 0 0 := ⟨by simp, (by intro p hp; rw [List.mem_singleton.mp hp]; intro c hc; cases hc), Nat.le_refl _, Nat.le_refl _⟩
  have h1 := PartsOk.fold (few.take 1) h0
  have h2 := ((h1.step 4).step 5).step 0
  have h3 := h2.mono (show 1 ≤ _ by decide)
  have h4 := PartsOk.fold ([7, 3, 1, 4, 2, 4] ++ few.drop 1) h3
  have e : partsL (few.take 1 ++ [4, 5, 0, 7, 3, 1, 4, 2, 4] ++ few.drop 1) = ([7, 3, 1, 4, 2, 4] ++ few.drop 1).foldl stepParts (stepParts (stepParts (stepParts ((few.take 1).foldl stepParts [[]]) 4) 5) 0) := by
    have h9 : few.take 1 ++ [4, 5, 0, 7, 3, 1, 4, 2, 4] ++ few.drop 1 = few.take 1 ++ (4 :: 5 :: 0 :: ([7, 3, 1, 4, 2, 4] ++ few.drop 1)) := by simp
    unfold partsL
    rw [h9, List.foldl_append, List.foldl_cons, List.foldl_cons, List.foldl_cons]
  rw [← e] at h4
  have hl1 : (few.take 1).length ≤ 1 := by rw [List.length_take]; lia
  have hl2 : (few.drop 1).length ≤ 10 := by rw [List.length_drop]; lia
  have hl3 : (few.take 1).length + (few.drop 1).length ≤ 10 := by rw [List.length_take, List.length_drop]; lia
  generalize partsL _ = P at h4
  have n1 := h4.ne
  have n2 := h4.vp
  have n3 := h4.len
  have n4 := h4.sum
  simp only [List.length_append, List.length_cons, List.length_nil] at n3 n4
  match P, n1 with
  | p0 :: p1 :: pr, _ => exact ⟨p0, p1, pr, rfl, n2, by lia, by lia⟩
theorem range_getD (P : List T) : (List.range P.length).map (fun j => P.getD j []) = P := by
  apply List.ext_getElem
  · simp
  · intro i h1 h2
    rw [List.getElem_map, List.getElem_range, List.getD_eq_getElem?_getD, List.getElem?_eq_getElem h2]; rfl
theorem sum_le {f : Nat → Nat} {b : Nat} : ∀ (l : List Nat), (∀ j ∈ l, f j ≤ b) → (l.map f).sum ≤ l.length * b
  | [], _ => by simp
  | j :: r, h => by
    have h1 := sum_le r fun k hk => h k (.tail _ hk)
    have h2 := h j (.head _)
    rw [List.map_cons, List.sum_cons, List.length_cons, Nat.succ_mul]; lia
theorem sum_le2 {f g : Nat → Nat} : ∀ (l : List Nat), (∀ j ∈ l, f j ≤ 2 * g j + 3) → (l.map f).sum ≤ 2 * (l.map g).sum + 3 * l.length
  | [], _ => by simp
  | j :: r, h => by
    have h1 := sum_le2 r fun k hk => h k (.tail _ hk)
    have h2 := h j (.head _)
    rw [List.map_cons, List.sum_cons, List.map_cons, List.sum_cons, List.length_cons]; lia
theorem stepJ_len (a b : T) : (stepJ a b).length ≤ a.length + b.length + 1 := by
  unfold stepJ; split
  · lia
  · split
    · rw [List.length_append]; lia
    · rw [List.length_append, List.length_cons]; lia
theorem joinPy_len : ∀ (ps : List T) (a : T), (joinPy a ps).length ≤ a.length + (ps.map List.length).sum + ps.length
  | [], a => by simp [joinPy]
  | b :: r, a => by
    have h1 := joinPy_len r (stepJ a b)
    have h2 := stepJ_len a b
    show (joinPy (stepJ a b) r).length ≤ _
    simp only [List.map_cons, List.sum_cons, List.length_cons]; lia
structure Facts (P : List T) (wd : Nat → Int) (ms es : List T) (m : T) : Prop where
  vm : VM m
  len : m.length ≤ 240
  joined : joinedL ms = m
  ms_ne : ms ≠ []
  ms_sz : (ms.map List.length).sum + ms.length ≤ 100000
  es_sz : (es.map List.length).sum + es.length ≤ 100000
  whole : joinPy (es.headD []) es.tail = encA m
  plain : joinPy (P.headD []) P.tail = readL m
theorem facts {P : List T} {wd : Nat → Int} (hP : 0 < P.length) (hv : ∀ p ∈ P, VP p) (hl : P.length ≤ 21) (hs : (P.map List.length).sum ≤ 60) (hw : ∀ j, 4 ≤ wd j) :
    ∃ m, Facts P wd ((List.range P.length).map fun j => markedL (wd j) (P.getD j [])) ((List.range P.length).map fun j => encL (wd j).toNat (P.getD j [])) m := by
  have hpl : ∀ j, (P.getD j []).length ≤ 60 := by
    intro j
    rw [List.getD_eq_getElem?_getD]
    cases h : P[j]? with
    | none => simp
    | some y =>
      have : y.length ≤ (P.map List.length).sum := by
        have hm := List.mem_of_getElem? h
        clear h hl hs hv hP
        induction P with
        | nil => cases hm
        | cons z r ih =>
          rw [List.map_cons, List.sum_cons]
          rcases List.mem_cons.mp hm with rfl | hm
          · lia
          · have := ih hm; lia
      simp only [Option.getD_some]; lia
  have hvp : ∀ j, VP (P.getD j []) := by
    intro j
    rw [List.getD_eq_getElem?_getD]
    cases h : P[j]? with
    | none => intro c hc; cases hc
    | some y => exact hv y (List.mem_of_getElem? h)
  have hwn : ∀ j, ((wd j).toNat : Int) = wd j := fun j => by have := hw j; lia
  have hms2 : ∀ j, (markedL (wd j) (P.getD j [])).length ≤ 2 * (P.getD j []).length + 3 := by
    intro j
    have := marked_size (w := (wd j).toNat) (part := P.getD j []) (by have := hw j; lia) (hvp j)
    rw [hwn] at this
    exact this
  have hms : ∀ j, (markedL (wd j) (P.getD j [])).length ≤ 123 := by
    intro j
    have := marked_size (w := (wd j).toNat) (part := P.getD j []) (by have := hw j; lia) (hvp j)
    rw [hwn] at this
    have := hpl j
    lia
  have hes : ∀ j, (encL (wd j).toNat (P.getD j [])).length ≤ 369 := by
    intro j
    rw [enc_marked (by have := hw j; lia) (hvp j), hwn]
    have := encA_le (markedL (wd j) (P.getD j []))
    have := hms j
    lia
  have e0 : ∃ n, P.length = n + 1 := ⟨P.length - 1, by lia⟩
  obtain ⟨n, hn⟩ := e0
  have hr : List.range P.length = 0 :: (List.range n).map (· + 1) := by rw [hn, List.range_succ_eq_map]
  have hq : ∀ x ∈ ((List.range P.length).map fun j => (P.getD j [], (wd j).toNat)), VP x.1 ∧ 4 ≤ x.2 := by
    intro x hx
    obtain ⟨j, _, rfl⟩ := List.mem_map.mp hx
    exact ⟨hvp j, by have := hw j; show 4 ≤ (wd j).toNat; lia⟩
  rw [hr, List.map_cons] at hq
  obtain ⟨m, h1, h2, h3, h4⟩ := law_pairs _ _ hq
  have k1 : (List.range P.length).map (fun j => markedL (wd j) (P.getD j [])) = (((P.getD 0 [], (wd 0).toNat)) :: ((List.range n).map (· + 1)).map fun j => (P.getD j [], (wd j).toNat)).map fun x => markedL x.2 x.1 := by
    rw [hr, List.map_cons, List.map_cons, List.map_map (f := fun j => (P.getD j [], (wd j).toNat))]
    simp only [Function.comp_def, hwn]
  have k2 : (List.range P.length).map (fun j => encL (wd j).toNat (P.getD j [])) = encL (wd 0).toNat (P.getD 0 []) :: (((List.range n).map (· + 1)).map fun j => (P.getD j [], (wd j).toNat)).map fun x => encL x.2 x.1 := by
    rw [hr, List.map_cons, List.map_map (f := fun j => (P.getD j [], (wd j).toNat))]; rfl
  have k3 : P = P.getD 0 [] :: (((List.range n).map (· + 1)).map fun j => (P.getD j [], (wd j).toNat)).map (·.1) := by
    conv => lhs; rw [← range_getD P, hr]
    rw [List.map_cons, List.map_map (f := fun j => (P.getD j [], (wd j).toNat))]
    rfl
  have hsz1 := sum_le (f := fun j => (markedL (wd j) (P.getD j [])).length) (List.range P.length) fun j _ => hms j
  have hsz2 := sum_le (f := fun j => (encL (wd j).toNat (P.getD j [])).length) (List.range P.length) fun j _ => hes j
  rw [List.length_range] at hsz1 hsz2
  have hm1 : (((List.range P.length).map fun j => markedL (wd j) (P.getD j [])).map List.length).sum ≤ P.length * 123 := by
    rw [List.map_map]; exact hsz1
  have hm2 : (((List.range P.length).map fun j => encL (wd j).toNat (P.getD j [])).map List.length).sum ≤ P.length * 369 := by
    rw [List.map_map]; exact hsz2
  have hm3 : (((List.range P.length).map fun j => markedL (wd j) (P.getD j [])).map List.length).sum ≤ 2 * (P.map List.length).sum + 3 * P.length := by
    have h := sum_le2 (f := fun j => (markedL (wd j) (P.getD j [])).length) (g := fun j => (P.getD j []).length) (List.range P.length) fun j _ => hms2 j
    have e : (List.range P.length).map (fun j => (P.getD j []).length) = P.map List.length := by
      conv => rhs; rw [← range_getD P]
      rw [List.map_map]; rfl
    rw [e, List.length_range] at h
    rw [List.map_map]; exact h
  refine ⟨m, ⟨h2, ?_, ?_, ?_, ?_, ?_, ?_, ?_⟩⟩
  · -- the length of m
    have e1 : joinedL ((List.range P.length).map fun j => markedL (wd j) (P.getD j [])) = m := by rw [k1]; exact h1
    have e2 : (List.range P.length).map (fun j => markedL (wd j) (P.getD j [])) = markedL (wd 0) (P.getD 0 []) :: ((List.range n).map (· + 1)).map fun j => markedL (wd j) (P.getD j []) := by rw [hr, List.map_cons]
    rw [e2, ← joinPy_joined] at e1
    have h5 := joinPy_len (((List.range n).map (· + 1)).map fun j => markedL (wd j) (P.getD j [])) (markedL (wd 0) (P.getD 0 []))
    rw [e1] at h5
    rw [e2, List.map_cons, List.sum_cons] at hm3
    simp only [List.length_map, List.length_range] at h5
    lia
  · rw [k1]; exact h1
  · rw [hr]; simp
  · simp only [List.length_map, List.length_range]
    lia
  · simp only [List.length_map, List.length_range]
    lia
  · rw [k2]; exact h3
  · rw [k3]; exact h4
end
section
open PySem PySem.Builtin.Str PySem.StrLaws
set_option Elab.async false
set_option maxRecDepth 100000
set_option linter.unusedSimpArgs false
theorem stepN_size (init : Bool) (st : List T) (c : T) : ((stepN init st c).map List.length).sum ≤ (st.map List.length).sum + c.length ∧ (stepN init st c).length ≤ st.length + 1 := by
  unfold stepN
  split
  · exact ⟨Nat.le_add_right _ _, Nat.le_succ _⟩
  · split
    · simp
    · split
      · have := sum_dropLast st
        refine ⟨by lia, by rw [List.length_dropLast]; lia⟩
      · exact ⟨Nat.le_add_right _ _, Nat.le_succ _⟩
theorem foldN_size (init : Bool) : ∀ (cs st : List T), ((cs.foldl (stepN init) st).map List.length).sum ≤ (st.map List.length).sum + (cs.map List.length).sum ∧ (cs.foldl (stepN init) st).length ≤ st.length + cs.length
  | [], st => by simp
  | c :: r, st => by
    have h1 := foldN_size init r (stepN init st c)
    have h2 := stepN_size init st c
    rw [List.foldl_cons, List.map_cons, List.sum_cons, List.length_cons]
    lia
theorem root_size (m : T) : (splitrootL m).1.length ≤ 2 ∧ (splitrootL m).2.length ≤ m.length := by
  obtain ⟨a, b, hab, hR⟩ := root_cases m
  rw [hab]
  cases hR with
  | none h => exact ⟨Nat.zero_le _, Nat.le_refl _⟩
  | one r e h => rw [e]; simp
  | two r e h => rw [e]; simp; lia
  | three r e => rw [e]; simp
theorem normL_size (m : T) : (normL m).length ≤ m.length + 5 := by
  have h1 := root_size m
  have h2 := foldN_size (!(splitrootL m).1.isEmpty) (splitL 47 (splitrootL m).2) []
  have h3 := splitL_sum 47 (splitrootL m).2
  have h4 := joinL_len [47] ((splitL 47 (splitrootL m).2).foldl (stepN (!(splitrootL m).1.isEmpty)) [])
  simp only [List.map_nil, List.sum_nil, List.length_nil, List.length_singleton] at h2 h4
  unfold normL
  simp only
  split
  · simp
  · split
    · simp
    · rw [List.length_append]; lia
noncomputable def RowF (r : T) : Prop := r.length ≤ 90000 ∧ ∀ c ∈ r, Unicode.isLineBreak c = true → c = 10
noncomputable def TxtF (r : T) : Prop := r.length ≤ 90000
theorem rows_F {m : T} (hm : VM m) (hl : m.length ≤ 1000) : ∀ r ∈ splitL 10 (encA m), RowF r := by
  intro r hr
  have h1 := splitL_item 10 hr
  have h2 := encA_le m
  refine ⟨by lia, fun c hc => enc_lb hm c ?_⟩
  have : c ∈ (splitL 10 (encA m)).flatten := List.mem_flatten.mpr ⟨r, hr, hc⟩
  rw [splitL_flat] at this
  exact (List.mem_filter.mp this).1
theorem halves_len (x : T) : ∀ r ∈ halvesL x, r.length ≤ x.length := by
  intro r hr
  unfold halvesL at hr
  rcases List.mem_cons.mp hr with rfl | hr
  · rw [List.length_take]; lia
  · rw [List.mem_singleton.mp hr]; exact extL_len x
theorem halves_F {k : T} (hk : VM k) (hl : k.length ≤ 1000) : ∀ r ∈ halvesL (encA k), RowF r := by
  intro r hr
  have h1 := halves_len _ r hr
  have h2 := encA_le k
  refine ⟨by lia, ?_⟩
  rw [halves_enc hk] at hr
  obtain ⟨y, hy, rfl⟩ := List.mem_map.mp hr
  exact enc_lb (halves_VM hk y hy)
noncomputable def CharsOk (x : T) : Prop := ∀ c ∈ x, c < 1114112
theorem read_ok {m : T} (h : VM m) : CharsOk (readL m) := by
  intro c hc
  rw [readL_eq, ← List.map_append] at hc
  obtain ⟨d, hd, rfl⟩ := List.mem_map.mp hc
  have hdm : vM d := by
    have hne := splitL_ne 10 m
    rcases List.mem_append.mp hd with hd | hd
    · obtain ⟨r, hr, hdr⟩ := List.mem_flatten.mp hd
      exact (rows_ok h r ((List.dropLast_sublist _).subset hr)).1 d hdr
    · exact (rows_ok h _ (last_mem hne)).1 d (rstripP_mem hd)
  unfold vM at hdm
  unfold unq unq2 unq1
  split <;> split <;> lia
theorem readRows_ok {m : T} (h : VM m) : ∀ x ∈ readRowsL m, CharsOk x := by
  have hne := splitL_ne 10 m
  intro x hx
  unfold readRowsL at hx
  rcases List.mem_append.mp hx with hx | hx
  · obtain ⟨r, hr, rfl⟩ := List.mem_map.mp hx
    exact read_ok (VM_app.mpr ⟨(rows_ok h r ((List.dropLast_sublist _).subset hr)).1, VM_cons.mpr ⟨.inl ⟨by decide, by decide⟩, fun c hc => by cases hc⟩⟩)
  · rw [List.mem_singleton.mp hx]; exact read_ok (rows_ok h _ (last_mem hne)).1
structure LawF (m k : T) : Prop where
  d1 : decodeL (encA m) = readL m
  r3 : (splitL 10 (encA m)).map decodeL = readRowsL m
  pl : plainL m = k
  no : normL (encA m) = encA k
  d4 : decodeL (encA k) = readL k
  r5 : (splitL 10 (encA k)).map decodeL = readRowsL k
  h6 : (halvesL (encA k)).map decodeL = (halvesL k).map readL
  f1 : RowF (encA m)
  f2 : RowF (encA k)
  f3 : ∀ r ∈ splitL 10 (encA m), RowF r
  f4 : ∀ r ∈ splitL 10 (encA k), RowF r
  f5 : ∀ r ∈ halvesL (encA k), RowF r
  f6 : ∀ r ∈ halvesL k, TxtF r
  g1 : TxtF m
  g2 : TxtF k
  g3 : (splitL 47 m).length ≤ 250
  o3 : ∀ x ∈ readRowsL m, CharsOk x
  o5 : ∀ x ∈ readRowsL k, CharsOk x
  o6 : ∀ x ∈ (halvesL k).map readL, CharsOk x
  s3 : (splitL 10 (encA m)).length ≤ 90000
  s5 : (splitL 10 (encA k)).length ≤ 90000
theorem lawF {m : T} (hm : VM m) (hl : m.length ≤ 240) : LawF m (plainL m) := by
  have hn := normL_enc hm
  have hp := norm_plain m
  have hz := normL_size m
  rw [hp] at hn hz
  have e1 := encA_le m
  have e2 := encA_le (plainL m)
  have e3 := splitL_len 10 (encA m)
  have e4 := splitL_len 10 (encA (plainL m))
  have e5 := splitL_len 47 m
  refine ⟨decode_enc hm, decode_rows hm, rfl, hn.1, decode_enc hn.2, decode_rows hn.2, ?_, ⟨by lia, enc_lb hm⟩, ⟨by lia, enc_lb hn.2⟩, rows_F hm (by lia), rows_F hn.2 (by lia), halves_F hn.2 (by lia), ?_, ?_, ?_, by lia, readRows_ok hm, readRows_ok hn.2, ?_, by lia, by lia⟩
  · rw [halves_enc hn.2, List.map_map]
    exact List.map_congr_left fun p hp => decode_enc (halves_VM hn.2 p hp)
  · intro r hr
    have := halves_len _ r hr
    show r.length ≤ 90000
    lia
  · show m.length ≤ 90000; lia
  · show (plainL m).length ≤ 90000; lia
  · intro x hx
    obtain ⟨y, hy, rfl⟩ := List.mem_map.mp hx
    exact read_ok (halves_VM hn.2 y hy)
end
section
open PySem PySem.W PyProof.Rows PySem.Spec PySem.Calls PyProof.V
set_option Elab.async false
set_option maxRecDepth 100000
theorem es_canLayAll0 : ∀ {xs : List Str}, (∀ x ∈ xs, PyData.strOk x = true) → PyData.canLayAll0 (xs.map PyData.str) = true
  | [], _ => rfl
  | x :: r, h => by simp [PyData.canLayAll0, PyData.canLay0, h x (.head _), es_canLayAll0 fun y hy => h y (.tail _ hy)]
theorem es_depthAll : ∀ xs : List Str, PyData.depthAll (xs.map PyData.str) = 0
  | [] => rfl
  | _ :: r => by simp [PyData.depthAll, PyData.depth, es_depthAll r]
theorem es_shaped {xs : List Str} (h : ∀ x ∈ xs, PyData.strOk x = true) : SeqAt.shaped (.list (xs.map PyData.str)) = true := by
  simp [SeqAt.shaped, PyData.canLay0, PyData.depth, es_canLayAll0 h, es_depthAll]
theorem es_sameAll : ∀ xs ys : List Str, PySem.Spec.sameAll (xs.map PyData.str) (ys.map PyData.str) = decide (xs = ys)
  | [], [] => by simp [PySem.Spec.sameAll]
  | [], _ :: _ => by simp [PySem.Spec.sameAll]
  | _ :: _, [] => by simp [PySem.Spec.sameAll]
  | a :: r, b :: t => by
    simp only [List.map_cons, PySem.Spec.sameAll, PySem.Spec.same, es_sameAll r t]
    by_cases h : a = b <;> by_cases h' : r = t <;> simp [h, h']
theorem es_same (xs ys : List Str) : PySem.Spec.same (.list (xs.map PyData.str)) (.list (ys.map PyData.str)) = decide (xs = ys) := by
  simp only [PySem.Spec.same]; exact es_sameAll xs ys
theorem es_carried : ∀ {vs : List Value} {xs : List Str}, StrsAre vs xs → CarriedAll vs (xs.map PyData.str)
  | _, _, .nil => .nil
  | _, _, .cons _ t r => .cons (.str _ t) (es_carried r)
section
variable {prog : Program} {w : World} {A : Around} {E : Value → Shared → Prop} {s : Shared} {a b : Addr} {vs us : List Value} {xs ys : List T} {Q : Value → Shared → Prop}
theorem S_map_inj : ∀ {xs ys : List T}, xs.map S = ys.map S ↔ xs = ys
  | [], [] => by simp
  | [], _ :: _ => by simp
  | _ :: _, [] => by simp
  | x :: r, y :: t => by simp [S_inj, S_map_inj (xs := r) (ys := t)]
theorem eq_strs (ha : s.heap.IsList a vs.toArray) (hb : s.heap.IsList b us.toArray) (hi : StrsAre vs (xs.map S)) (hj : StrsAre us (ys.map S)) (o1 : ∀ x ∈ xs.map S, PyData.strOk x = true) (o2 : ∀ x ∈ ys.map S, PyData.strOk x = true) (hu : A.units + 64 < cLine) (h : Q (.bool (decide (xs = ys))) s) :
    wpAny (model prog w) A (compareOp .Eq (.ref a) (.ref b)) Q E s :=
  eq_dataH_same (reads_newData ha (es_carried hi)) (reads_newData hb (es_carried hj)) (es_shaped o1) (es_shaped o2) hu (SeqAt.noMix_of_shape (.list .str) rfl _ _ (list_map_has fun _ => rfl) (list_map_has fun _ => rfl)) (by
    rw [es_same]
    have : decide (xs.map S = ys.map S) = decide (xs = ys) := by simp only [S_map_inj]
    rw [this]; exact h)
theorem ne_strs (ha : s.heap.IsList a vs.toArray) (hb : s.heap.IsList b us.toArray) (hi : StrsAre vs (xs.map S)) (hj : StrsAre us (ys.map S)) (o1 : ∀ x ∈ xs.map S, PyData.strOk x = true) (o2 : ∀ x ∈ ys.map S, PyData.strOk x = true) (hu : A.units + 64 < cLine) (h : Q (.bool (!decide (xs = ys))) s) :
    wpAny (model prog w) A (compareOp .NotEq (.ref a) (.ref b)) Q E s :=
  ne_dataH_same (reads_newData ha (es_carried hi)) (reads_newData hb (es_carried hj)) (es_shaped o1) (es_shaped o2) hu (SeqAt.noMix_of_shape (.list .str) rfl _ _ (list_map_has fun _ => rfl) (list_map_has fun _ => rfl)) (by
    rw [es_same]
    have : decide (xs.map S = ys.map S) = decide (xs = ys) := by simp only [S_map_inj]
    rw [this]; exact h)
end
end
open PySem PySem.W PyProof.Rows PySem.Spec PySem.Calls
set_option Elab.async false
set_option compiler.extract_closed false
set_option maxRecDepth 100000
set_option maxHeartbeats 1000000
set_option linter.unusedSimpArgs false
set_option pp.deepTerms false
set_option pp.deepTerms.threshold 3
local macro_rules
  | `(tactic| walk_at $s:str) => do
    let ks := (s.getString.splitOn " ").foldl (fun (r : List String × String) w => let k := if r.2 == "" then w else r.2 ++ " " ++ w; (k :: r.1, k)) ([], "")
    let ts ← ks.1.toArray.mapM fun k => `(tactic| k_extra $(Lean.Syntax.mkStrLit k))
    `(tactic| first $[| $ts:tactic]*)
local macro_rules | `(tactic| k_ne) => `(tactic| k_extra "ne")
section
example : True := by
  k_with_none
  k_with "om" => first | assumption | exact Nat.le_add_left 1 _ | exact Int.add_nonneg (by assumption) (by decide) | exact tn1 (by assumption) | exact tn2 (by assumption) | exact tn3 (by assumption) | exact meas1 (by assumption) (by assumption) | exact meas3 (by assumption) (by assumption) | exact tlt1 (by assumption) (by assumption) | exact Nat.le_trans (by assumption) (by decide) | exact Nat.le_trans (Nat.add_le_add_right (by assumption) _) (by decide) | lia
  k_with "omd" => first | decide | k_extra "om"
  k_with "oml" => first | k_extra "om" | (simp only [List.length_append, List.length_map, List.length_drop, List.length_dropLast, List.length_cons, List.length_nil]; k_extra "om")
  k_with "ne" => (refine neN ?_; (try dsimp only); first | assumption | exact neLt (by assumption) (by k_mem) | exact neGt (by assumption) (by k_mem) | exact neOf (by assumption) (by k_mem) | exact neOf' (by assumption) (by k_mem) | lia)
  k_with "room" => first | exact room_of (by assumption) (by decide) | exact room_0 (by assumption)
  k_with "units" => exact room_of (by assumption) (by decide)
  k_with "ite" => with_reducible first | refine ite_tt ?_ | refine ite_ff ?_
  k_with "eval Name" => ((with_reducible show wpAny _ _ (eval (Expr.Name _ _) (envOf _ _ _ _ _)) _ _ _); first | (name_kind "local"; with_reducible refine' n_loc ?_) | (name_kind "globalImplicit"; with_reducible first | refine' n_glo ?_ | refine' n_boo ?_))
  k_with "loadName" => with_reducible refine' n_load ?_
  k_with "storeName" => (with_reducible refine' n_store ?_; intros; (try k_sweep))
  k_with "callWith" => with_reducible first | refine callWith_method0 ?_ | refine' n_cw0 ?_ | refine' n_cw1 ?_ | ((show wpAny _ _ (callWith _ (Value.builtin _) _ _ []) _ _ _); refine' n_cw ?_)
  k_with "callWith ref" => ((with_reducible show wpAny _ _ (callWith _ _ _ (backTo _ (starEach (_ :: _) _)) []) _ _ _); with_reducible refine' n_cwK ?_)
  k_with "eval Call" => with_reducible refine' n_call ?_
  k_with "eval Call Attribute" => with_reducible refine' n_mcall ?_
  k_with "exec Assign" => ((with_reducible show wpAny _ _ (exec (Stmt.Assign [Expr.Name _ _] _ _) _) _ _ _); with_reducible refine' n_asg ?_)
  k_with "exec If" => with_reducible refine wpAny_If ?_
  k_with "spliced" => ((with_reducible show wpAny _ _ (spliced (backTo _ (starEach (_ :: _) _))) _ _ _); with_reducible refine' n_acons ?_)
  k_with "newList" => (with_reducible refine' n_newl ?_; intros; (try k_sweep))
  k_with "eval BinOp" => with_reducible refine wpAny_BinOp ?_
  k_with "execs cons" => with_reducible first | (refine toks_cons ?_; intros) | refine wpAny_execs_cons ?_
  k_with "execs nil" => with_reducible refine wpAny_execs_nil ?_
  k_with "isTrue Name" => with_reducible refine' n_true ?_
  k_with "isTrue Call" => with_reducible refine' n_true ?_
  k_with "isTrue Compare" => ((with_reducible show wpAny _ _ (isTrue (PySem.Expr.Compare _ [_] [_] _) _ _) _ _ _); with_reducible refine wpAny_isTrue_Compare1 ?_)
  k_with "isTrue BoolOp" => with_reducible first | refine isTrue_and_nil ?_ | refine isTrue_or_nil ?_ | refine isTrue_and ?_ | refine isTrue_or ?_
  k_with "isTrue UnaryOp" => with_reducible refine isTrue_not ?_
  k_with "eval UnaryOp" => with_reducible refine UnaryOp_ ?_
  k_with "unaryOp USub int" => with_reducible refine n_neg ?_
  k_with "eval Subscript" => with_reducible refine Subscript_ ?_
  k_with "eval Slice" => with_reducible refine wpAny_Slice ?_
  k_with "evalPart some" => with_reducible refine evalPart_some_step ?_
  k_with "evalPart none" => with_reducible refine evalPart_none_step ?_
  k_with "exec AugAssign" => with_reducible refine wpAny_AugAssign_Name ?_
  k_with "exec Return some" => with_reducible refine wpAny_Return_some ?_
  k_with "exec Continue" => with_reducible refine wpAny_Continue ?_
  k_with "eval Constant str" => with_reducible refine n_str ?_
  k_with "eval Constant int" => with_reducible refine n_int ?_
  k_with "compareOp Eq str str" => with_reducible refine PyProof.Rows.eq_str ?_
  k_with "compareOp NotEq str str" => with_reducible refine PyProof.Rows.ne_str ?_
  k_with "inplaceOp Add int int" => with_reducible refine n_iaddi ?_
  k_with "binaryOp Add int int" => with_reducible refine n_addi ?_
  k_with "binaryOp Sub int int" => with_reducible refine n_subi ?_
  k_with "eval Tuple" => with_reducible refine Tuple_ ?_
  k_with "eval List" => with_reducible refine List_ ?_
  k_with "assign Name" => with_reducible refine PyProof.Rows.assign_Name ?_
  k_with "truthy bool" => with_reducible refine wpAny_truthy_bool ?_
  k_with "es" => with_reducible first | exact rfl | exact eS47 | exact eS61 | exact eS10 | exact eS46 | exact eSdd | exact eS32 | exact eS9 | exact eS0 | exact (S_of _).symm
  k_with "ls" => first | exact news_list (by k_asm) (by k_mem) | exact fr_list (by k_asm) (by k_asm)
  k_with "ss" => first | assumption | exact strs1 _ _
  k_with "nn" => first | assumption | exact splitL_ne _ _
  k_with "kp" => first | exact True.intro | ((try dsimp only); first | k_extra "ls" | assumption | k_extra "oml")
  k_with "c" => first | with_reducible assumption | ((with_reducible show StrsAre _ _); k_extra "ss") | ((with_reducible show Heap.IsList _ _ _); k_extra "ls") | ((with_reducible show plainIx _ = true); exact rfl) | ((with_reducible show _ = S _); k_extra "es") | ((with_reducible show _ ≠ _); k_extra "nn") | ((with_reducible show 0 ≤ _); k_extra "omd") | k_extra "oml"
  k_with "cc" => first | ((with_reducible refine And.intro ?za ?zb); (case za => k_extra "c"); (case zb => k_extra "cc")) | k_extra "c"
  k_with "pyIter ref" => with_reducible refine AtIter.on ?_
  k_with "call ref" => ((with_reducible refine' x_use (by k_dflt k_extra "pu") ?_); (with_reducible first | refine useE ?_ | refine useS ?_ | refine useI ?_ | refine useT3 (by assumption) (by assumption) ?_ | refine useT2 (by assumption) (by assumption) ?_ | refine useL (by assumption) (by assumption) ?_ | refine useT (by assumption) (by assumption) ?_); intros; (try k_sweep); (try k_fold))
  k_with "subscriptTail" => k_dflt ((first | ((with_reducible refine' p_butlast ?zk ?_); (case zk => k_extra "cc")) | ((with_reducible refine' p_to ?zk ?_); (case zk => k_extra "cc")) | ((with_reducible refine' p_last ?zk ?_); (case zk => k_extra "cc")) | ((with_reducible refine' p_from ?zk ?_); (case zk => k_extra "cc")) | ((with_reducible refine' p_midback ?zk ?_); (case zk => k_extra "cc")) | ((with_reducible refine' p_mid ?zk ?_); (case zk => k_extra "cc")) | ((with_reducible refine' q_rev ?zk ?_); (case zk => k_extra "cc")) | ((with_reducible refine' q_back ?zk ?_); (case zk => k_extra "cc")) | ((with_reducible refine' q_midback ?zk ?_); (case zk => k_extra "cc")) | ((with_reducible refine' i_slast ?zk ?_); (case zk => k_extra "cc")) | ((with_reducible refine' i_sat ?zk ?_); (case zk => k_extra "cc")) | ((with_reducible refine' i_last ?zk ?_); (case zk => k_extra "cc")) | ((with_reducible refine' i_nat ?zk ?_); (case zk => k_extra "cc"))); intros; (try k_sweep))
  k_with "call builtin:str.split" => (with_reducible refine' x_split ?_; intros; (try k_sweep))
  k_with "call builtin:str.splitlines" => (with_reducible refine' x_lines ?_; intros; (try k_sweep))
  k_with "call builtin:str.join" => (with_reducible refine' x_join ?_; intros)
  k_with "binaryOp Add str str" => (with_reducible refine' x_add ?_; intros)
  k_with "inplaceOp Add str str" => (with_reducible refine' x_iadd ?_; intros)
  k_with "call builtin:len" => with_reducible first | ((show wpAny _ _ (call _ [Value.str _ _]) _ _ _); refine' x_len ?_; intros) | (refine' x_llen ?_; intros)
  k_with "call builtin:str.rstrip" => with_reducible first | ((show wpAny _ _ (call _ [_]) _ _ _); refine' x_rstrip ?_; intros) | (refine' x_rstripc ?_; intros)
  k_with "call builtin:str.lstrip" => (with_reducible refine' x_lstripc ?_; intros)
  k_with "call builtin:chr" => (with_reducible refine' x_chr ?_; intros)
  k_with "call builtin:str.replace" => (with_reducible refine' x_replace ?_; intros)
  k_with "call builtin:min" => (with_reducible refine' x_min ?_; intros; (try k_sweep))
  k_with "call builtin:list.pop" => (with_reducible refine' x_pop ?_; intros; (try k_sweep))
  k_with "call builtin:list.append" => (with_reducible refine' x_append ?_; intros; (try k_sweep))
  k_with "setItem ref int" => (with_reducible refine' x_setlast ?_; intros; (try k_sweep))
  k_with "binaryOp Add ref ref" => (with_reducible refine' x_ladd ?_; intros; (try k_sweep))
  k_with "binaryOp Mult str int" => (with_reducible refine' x_smul ?_; intros)
  k_with "binaryOp Mult ref int" => (with_reducible refine' x_lmul ?_; intros; (try k_sweep))
  k_with "truthy ref" => (with_reducible refine' x_truthyL ?_; intros)
  k_with "truthy str" => (with_reducible refine' x_truthyS ?_; intros)
  k_with "assign Tuple" => (with_reducible refine' x_unpack ?_; intros)
  k_with "exec For" => with_reducible refine' x_for ?_
  k_with "sub" => first | (with_reducible exact sub_nil) | ((with_reducible refine sub_cons ?zh ?_); (case zh => k_mem); k_extra "sub") | (with_reducible exact (fun _ hp => hp)) | ((with_reducible refine sub_tail ?_); k_extra "sub")
  k_with "fz" => repeat' (first | (with_reducible exact same_u) | (with_reducible exact same_refl) | ((with_reducible refine same_if ?zh ?_); (case zh => k_mem)) | ((with_reducible refine same_st ?zh ?_); (case zh => k_mem)) | ((with_reducible refine same_kcons ?zh ?_); (case zh => k_mem)) | (with_reducible refine same_knil ?_) | ((with_reducible refine same_ins ?zh ?_); (case zh => k_extra "sub")) | exact same_refl)
  k_with "src" => refine' x_list
  k_with "CompInG" => with_reducible refine' x_src ?_ ?_ ?_
  k_with "TestG" => k_dflt (first | exact test_none | (refine test_RT ?_; intros))
  k_with "EltG" => k_dflt (refine elt_RT ?_; intros)
  k_with "FinG" => k_dflt ((first | refine fin_tt ?_ | refine fin_id ?_ | refine fin_g ?_); intros)
  k_with "exec While" => with_reducible refine AtWhile.on ?_
  trivial
set_option maxHeartbeats 8000000
section
example : True := by
  k_with "call builtin:issubclass" => (k_here; refine' iss_call ?k1 ?_; (case k1 => exact News.get (by k_asm) (by k_mem)))
  trivial
theorem fspath_call (w : World) (x : Str) (t : Tok) : Pu w 3 20 101 (fun _ => True) [.str x t] (fun v _ _ => v = .str x t) := by
  unfold Pu P0
  k_fill
  intro p loose mean mg mb A base l s Q E B X TT hh hd hu hpre hret
  refine' x_enter B X TT ?_
  intro L' h' F' N'
  (try dsimp only)
  (try k_fold)
  k_steps
  all_goals exact hret _ _ _ (Fr.keep (by assumption)) rfl
end
theorem getsep_call (w : World) (x : Str) (t : Tok) : Pu w 3 20 122 (fun _ => True) [.str x t] (RStr [47]) := by
  unfold Pu P0
  k_fill
  intro p loose mean mg mb A base l s Q E B X TT hh hd hu hpre hret
  refine' x_enter B X TT ?_
  intro L' h' F' N'
  (try dsimp only)
  (try k_fold)
  k_steps
  all_goals exact hret _ _ _ (Fr.keep (by assumption)) (RStr.of eS47)
theorem one_eq (c d : Nat) : (((⟨[c].toArray⟩ : Str) == ⟨#[d]⟩) = true) = (c = d) := by
  rw [beq_iff_eq]; exact propext ⟨fun h => by have := congrArg (fun s : Str => s.cps.toList) h; simpa using this, fun h => by rw [h]⟩
theorem one_ne (c d : Nat) : (((⟨[c].toArray⟩ : Str) != ⟨#[d]⟩) = true) = (c ≠ d) := by
  rw [bne_iff_ne]; exact propext ⟨fun h e => h (by rw [e]), fun h e => h (by have := congrArg (fun s : Str => s.cps.toList) e; simpa using this)⟩
theorem one_eqf (c d : Nat) : (((⟨[c].toArray⟩ : Str) == ⟨#[d]⟩) = false) = (c ≠ d) := by
  rw [beq_eq_false_iff_ne]; exact propext ⟨fun h e => h (by rw [e]), fun h e => h (by have := congrArg (fun s : Str => s.cps.toList) e; simpa using this)⟩
theorem one_nef (c d : Nat) : (((⟨[c].toArray⟩ : Str) != ⟨#[d]⟩) = false) = (c = d) := by
  rw [bne_eq_false_iff_eq]; exact propext ⟨fun h => by have := congrArg (fun s : Str => s.cps.toList) h; simpa using this, fun h => by rw [h]⟩
theorem lt1 (c d : Nat) : (([c] : List Nat) < [d]) = (c < d) := by
  have h := StrLaws.lt_cons_cons c d [] []
  rw [StrLaws.lt_nil_nil, Bool.and_false, Bool.or_false] at h
  exact propext (by simpa using congrArg (fun b => b = true) h)
theorem cost_call (w : World) (c : Nat) (t : Tok) : Pu w 3 20 218 (fun _ => True) [.str ⟨#[c]⟩ t] (RInt (cost c)) := by
  unfold Pu P0
  k_fill
  intro p loose mean mg mb A base l s Q E B X TT hh hd hu hpre hret
  refine' x_enter B X TT ?_
  intro L' h' F' N'
  (try dsimp only)
  (try k_fold)
  have e9 : Str.ofString "\t" = ⟨#[9]⟩ := by decide +kernel
  have e32 : Str.ofString " " = ⟨#[32]⟩ := by decide +kernel
  have e126 : Str.ofString "~" = ⟨#[126]⟩ := by decide +kernel
  have e61 : Str.ofString "=" = ⟨#[61]⟩ := by decide +kernel
  k_steps
  all_goals (simp only [e9, e32, e126, e61, one_eq, one_ne, one_eqf, one_nef, lt1] at *)
  all_goals (refine hret _ _ _ (Fr.keep (by assumption)) (RInt.of ?_); unfold cost)
  all_goals (split <;> (try split) <;> first | rfl | lia)
section
example : True := by
  k_with "subscriptTail" => (k_dflt (refine' quo_item (by k_asm) (by k_asm) (by assumption) (by first | rfl | skip) ?_); intros)
  trivial
theorem quote_call (w : World) (c : Nat) (t : Tok) : Pu w 3 20 183 (fun _ => c < 256) [.str (S [c]) t] (RStr (quoteT c)) := by
  unfold Pu P0
  k_fill
  intro p loose mean mg mb A base l s Q E B X TT hh hd hu hpre hret
  refine' x_enter B X TT ?_
  intro L' h' F' N'
  (try dsimp only)
  (try k_fold)
  k_steps
  all_goals exact hret _ _ _ (Fr.keep (by assumption)) (RStr.of rfl)
end
end
section
example : True := by
  k_with_none
  k_with "om" => first | assumption | exact Nat.le_add_left 1 _ | exact Int.add_nonneg (by assumption) (by decide) | exact tn1 (by assumption) | exact tn2 (by assumption) | exact tn3 (by assumption) | exact meas1 (by assumption) (by assumption) | exact meas3 (by assumption) (by assumption) | exact tlt1 (by assumption) (by assumption) | exact Nat.le_trans (by assumption) (by decide) | exact Nat.le_trans (Nat.add_le_add_right (by assumption) _) (by decide) | lia
  k_with "omd" => first | decide | k_extra "om"
  k_with "oml" => first | k_extra "om" | (simp only [List.length_append, List.length_map, List.length_drop, List.length_dropLast, List.length_cons, List.length_nil]; k_extra "om")
  k_with "ne" => (refine neN ?_; (try dsimp only); first | assumption | exact neLt (by assumption) (by k_mem) | exact neGt (by assumption) (by k_mem) | exact neOf (by assumption) (by k_mem) | exact neOf' (by assumption) (by k_mem) | lia)
  k_with "room" => first | exact room_of (by assumption) (by decide) | exact room_0 (by assumption)
  k_with "units" => exact room_of (by assumption) (by decide)
  k_with "ite" => with_reducible first | refine ite_tt ?_ | refine ite_ff ?_
  k_with "eval Name" => ((with_reducible show wpAny _ _ (eval (Expr.Name _ _) (envOf _ _ _ _ _)) _ _ _); first | (name_kind "local"; with_reducible refine' n_loc ?_) | (name_kind "globalImplicit"; with_reducible first | refine' n_glo ?_ | refine' n_boo ?_))
  k_with "loadName" => with_reducible refine' n_load ?_
  k_with "storeName" => (with_reducible refine' n_store ?_; intros; (try k_sweep))
  k_with "callWith" => with_reducible first | refine callWith_method0 ?_ | refine' n_cw0 ?_ | refine' n_cw1 ?_ | ((show wpAny _ _ (callWith _ (Value.builtin _) _ _ []) _ _ _); refine' n_cw ?_)
  k_with "callWith ref" => ((with_reducible show wpAny _ _ (callWith _ _ _ (backTo _ (starEach (_ :: _) _)) []) _ _ _); with_reducible refine' n_cwK ?_)
  k_with "eval Call" => with_reducible refine' n_call ?_
  k_with "eval Call Attribute" => with_reducible refine' n_mcall ?_
  k_with "exec Assign" => ((with_reducible show wpAny _ _ (exec (Stmt.Assign [Expr.Name _ _] _ _) _) _ _ _); with_reducible refine' n_asg ?_)
  k_with "exec If" => with_reducible refine wpAny_If ?_
  k_with "spliced" => ((with_reducible show wpAny _ _ (spliced (backTo _ (starEach (_ :: _) _))) _ _ _); with_reducible refine' n_acons ?_)
  k_with "newList" => (with_reducible refine' n_newl ?_; intros; (try k_sweep))
  k_with "eval BinOp" => with_reducible refine wpAny_BinOp ?_
  k_with "execs cons" => with_reducible first | (refine toks_cons ?_; intros) | refine wpAny_execs_cons ?_
  k_with "execs nil" => with_reducible refine wpAny_execs_nil ?_
  k_with "isTrue Name" => with_reducible refine' n_true ?_
  k_with "isTrue Call" => with_reducible refine' n_true ?_
  k_with "isTrue Compare" => ((with_reducible show wpAny _ _ (isTrue (PySem.Expr.Compare _ [_] [_] _) _ _) _ _ _); with_reducible refine wpAny_isTrue_Compare1 ?_)
  k_with "isTrue BoolOp" => with_reducible first | refine isTrue_and_nil ?_ | refine isTrue_or_nil ?_ | refine isTrue_and ?_ | refine isTrue_or ?_
  k_with "isTrue UnaryOp" => with_reducible refine isTrue_not ?_
  k_with "eval UnaryOp" => with_reducible refine UnaryOp_ ?_
  k_with "unaryOp USub int" => with_reducible refine n_neg ?_
  k_with "eval Subscript" => with_reducible refine Subscript_ ?_
  k_with "eval Slice" => with_reducible refine wpAny_Slice ?_
  k_with "evalPart some" => with_reducible refine evalPart_some_step ?_
  k_with "evalPart none" => with_reducible refine evalPart_none_step ?_
  k_with "exec AugAssign" => with_reducible refine wpAny_AugAssign_Name ?_
  k_with "exec Return some" => with_reducible refine wpAny_Return_some ?_
  k_with "exec Continue" => with_reducible refine wpAny_Continue ?_
  k_with "eval Constant str" => with_reducible refine n_str ?_
  k_with "eval Constant int" => with_reducible refine n_int ?_
  k_with "compareOp Eq str str" => with_reducible refine PyProof.Rows.eq_str ?_
  k_with "compareOp NotEq str str" => with_reducible refine PyProof.Rows.ne_str ?_
  k_with "inplaceOp Add int int" => with_reducible refine n_iaddi ?_
  k_with "binaryOp Add int int" => with_reducible refine n_addi ?_
  k_with "binaryOp Sub int int" => with_reducible refine n_subi ?_
  k_with "eval Tuple" => with_reducible refine Tuple_ ?_
  k_with "eval List" => with_reducible refine List_ ?_
  k_with "assign Name" => with_reducible refine PyProof.Rows.assign_Name ?_
  k_with "truthy bool" => with_reducible refine wpAny_truthy_bool ?_
  k_with "es" => with_reducible first | exact rfl | exact eS47 | exact eS61 | exact eS10 | exact eS46 | exact eSdd | exact eS32 | exact eS9 | exact eS0 | exact (S_of _).symm
  k_with "ls" => first | exact news_list (by k_asm) (by k_mem) | exact fr_list (by k_asm) (by k_asm)
  k_with "ss" => first | assumption | exact strs1 _ _
  k_with "nn" => first | assumption | exact splitL_ne _ _
  k_with "kp" => first | exact True.intro | ((try dsimp only); first | k_extra "ls" | assumption | k_extra "oml")
  k_with "c" => first | with_reducible assumption | ((with_reducible show StrsAre _ _); k_extra "ss") | ((with_reducible show Heap.IsList _ _ _); k_extra "ls") | ((with_reducible show plainIx _ = true); exact rfl) | ((with_reducible show _ = S _); k_extra "es") | ((with_reducible show _ ≠ _); k_extra "nn") | ((with_reducible show 0 ≤ _); k_extra "omd") | k_extra "oml"
  k_with "cc" => first | ((with_reducible refine And.intro ?za ?zb); (case za => k_extra "c"); (case zb => k_extra "cc")) | k_extra "c"
  k_with "pyIter ref" => with_reducible refine AtIter.on ?_
  k_with "call ref" => ((with_reducible refine' x_use (by k_dflt k_extra "pu") ?_); (with_reducible first | refine useE ?_ | refine useS ?_ | refine useI ?_ | refine useT3 (by assumption) (by assumption) ?_ | refine useT2 (by assumption) (by assumption) ?_ | refine useL (by assumption) (by assumption) ?_ | refine useT (by assumption) (by assumption) ?_); intros; (try k_sweep); (try k_fold))
  k_with "subscriptTail" => k_dflt ((first | ((with_reducible refine' p_butlast ?zk ?_); (case zk => k_extra "cc")) | ((with_reducible refine' p_to ?zk ?_); (case zk => k_extra "cc")) | ((with_reducible refine' p_last ?zk ?_); (case zk => k_extra "cc")) | ((with_reducible refine' p_from ?zk ?_); (case zk => k_extra "cc")) | ((with_reducible refine' p_midback ?zk ?_); (case zk => k_extra "cc")) | ((with_reducible refine' p_mid ?zk ?_); (case zk => k_extra "cc")) | ((with_reducible refine' q_rev ?zk ?_); (case zk => k_extra "cc")) | ((with_reducible refine' q_back ?zk ?_); (case zk => k_extra "cc")) | ((with_reducible refine' q_midback ?zk ?_); (case zk => k_extra "cc")) | ((with_reducible refine' i_slast ?zk ?_); (case zk => k_extra "cc")) | ((with_reducible refine' i_sat ?zk ?_); (case zk => k_extra "cc")) | ((with_reducible refine' i_last ?zk ?_); (case zk => k_extra "cc")) | ((with_reducible refine' i_nat ?zk ?_); (case zk => k_extra "cc"))); intros; (try k_sweep))
  k_with "call builtin:str.split" => (with_reducible refine' x_split ?_; intros; (try k_sweep))
  k_with "call builtin:str.splitlines" => (with_reducible refine' x_lines ?_; intros; (try k_sweep))
  k_with "call builtin:str.join" => (with_reducible refine' x_join ?_; intros)
  k_with "binaryOp Add str str" => (with_reducible refine' x_add ?_; intros)
  k_with "inplaceOp Add str str" => (with_reducible refine' x_iadd ?_; intros)
  k_with "call builtin:len" => with_reducible first | ((show wpAny _ _ (call _ [Value.str _ _]) _ _ _); refine' x_len ?_; intros) | (refine' x_llen ?_; intros)
  k_with "call builtin:str.rstrip" => with_reducible first | ((show wpAny _ _ (call _ [_]) _ _ _); refine' x_rstrip ?_; intros) | (refine' x_rstripc ?_; intros)
  k_with "call builtin:str.lstrip" => (with_reducible refine' x_lstripc ?_; intros)
  k_with "call builtin:chr" => (with_reducible refine' x_chr ?_; intros)
  k_with "call builtin:str.replace" => (with_reducible refine' x_replace ?_; intros)
  k_with "call builtin:min" => (with_reducible refine' x_min ?_; intros; (try k_sweep))
  k_with "call builtin:list.pop" => (with_reducible refine' x_pop ?_; intros; (try k_sweep))
  k_with "call builtin:list.append" => (with_reducible refine' x_append ?_; intros; (try k_sweep))
  k_with "setItem ref int" => (with_reducible refine' x_setlast ?_; intros; (try k_sweep))
  k_with "binaryOp Add ref ref" => (with_reducible refine' x_ladd ?_; intros; (try k_sweep))
  k_with "binaryOp Mult str int" => (with_reducible refine' x_smul ?_; intros)
  k_with "binaryOp Mult ref int" => (with_reducible refine' x_lmul ?_; intros; (try k_sweep))
  k_with "truthy ref" => (with_reducible refine' x_truthyL ?_; intros)
  k_with "truthy str" => (with_reducible refine' x_truthyS ?_; intros)
  k_with "assign Tuple" => (with_reducible refine' x_unpack ?_; intros)
  k_with "exec For" => with_reducible refine' x_for ?_
  k_with "sub" => first | (with_reducible exact sub_nil) | ((with_reducible refine sub_cons ?zh ?_); (case zh => k_mem); k_extra "sub") | (with_reducible exact (fun _ hp => hp)) | ((with_reducible refine sub_tail ?_); k_extra "sub")
  k_with "fz" => repeat' (first | (with_reducible exact same_u) | (with_reducible exact same_refl) | ((with_reducible refine same_if ?zh ?_); (case zh => k_mem)) | ((with_reducible refine same_st ?zh ?_); (case zh => k_mem)) | ((with_reducible refine same_kcons ?zh ?_); (case zh => k_mem)) | (with_reducible refine same_knil ?_) | ((with_reducible refine same_ins ?zh ?_); (case zh => k_extra "sub")) | exact same_refl)
  k_with "src" => refine' x_list
  k_with "CompInG" => with_reducible refine' x_src ?_ ?_ ?_
  k_with "TestG" => k_dflt (first | exact test_none | (refine test_RT ?_; intros))
  k_with "EltG" => k_dflt (refine elt_RT ?_; intros)
  k_with "FinG" => k_dflt ((first | refine fin_tt ?_ | refine fin_id ?_ | refine fin_g ?_); intros)
  k_with "exec While" => with_reducible refine AtWhile.on ?_
  trivial
set_option maxHeartbeats 8000000
section
example : True := by
  k_with "pu" => exact fspath_call _ _ _
  trivial
theorem r3_of {h₀ h' : Heap} {L D : Addr} {a b c : Str} {t1 t2 t3 : Tok} {p q r : T} {news : List (Addr × Obj)} (N : News h₀ L h' news) (hm : (D, ({ cls := .type "tuple", data := .seq #[.str a t1, .str b t2, .str c t3] } : Obj)) ∈ news)
    (e1 : a = S p) (e2 : b = S q) (e3 : c = S r) : RSeq "tuple" [p, q, r] (.ref D) h₀ h' := ret_seq (vs := [.str a t1, .str b t2, .str c t3]) N hm (strs3 e1 e2 e3)
theorem e47s : Str.ofString "/" = S [47] := by decide +kernel
theorem e0s : Str.ofString "" = S [] := by decide +kernel
theorem sr1 {x : T} (h : (S (x.take (Int.toNat 1)) != Str.ofString "/") = true) : splitrootL x = ([], x) := by
  rw [e47s, S_bne, bne_iff_ne] at h; unfold splitrootL; exact if_pos h
theorem sr2 {x : T} (h : (S (x.take (Int.toNat 1)) != Str.ofString "/") = false) (h2 : (S ((x.take (Int.toNat 2)).drop (Int.toNat 1)) != Str.ofString "/") = true) : splitrootL x = ([47], x.drop 1) := by
  rw [e47s, S_bne, bne_eq_false_iff_eq] at h; rw [e47s, S_bne, bne_iff_ne] at h2
  unfold splitrootL; exact (if_neg (fun q => q h)).trans (if_pos (.inl h2))
theorem sr3 {x : T} (h : (S (x.take (Int.toNat 1)) != Str.ofString "/") = false) (h3 : (S ((x.take (Int.toNat 3)).drop (Int.toNat 2)) == Str.ofString "/") = true) : splitrootL x = ([47], x.drop 1) := by
  rw [e47s, S_bne, bne_eq_false_iff_eq] at h; rw [e47s, S_beq, beq_iff_eq] at h3
  unfold splitrootL; exact (if_neg (fun q => q h)).trans (if_pos (.inr h3))
theorem sr4 {x : T} (h : (S (x.take (Int.toNat 1)) != Str.ofString "/") = false) (h2 : (S ((x.take (Int.toNat 2)).drop (Int.toNat 1)) != Str.ofString "/") = false) (h3 : (S ((x.take (Int.toNat 3)).drop (Int.toNat 2)) == Str.ofString "/") = false) : splitrootL x = (x.take 2, x.drop 2) := by
  rw [e47s, S_bne, bne_eq_false_iff_eq] at h h2; rw [e47s, S_beq, beq_eq_false_iff_ne] at h3
  unfold splitrootL; exact (if_neg (fun q => q h)).trans (if_neg (fun q => q.elim (fun e => e h2) h3))
theorem splitroot_call (w : World) (x : T) (t : Tok) : Pu w 6 40 146 (fun _ => x.length ≤ 100000) [.str (S x) t] (RSeq "tuple" [[], (splitrootL x).1, (splitrootL x).2]) := by
  unfold Pu P0
  k_fill
  intro p loose mean mg mb A base l s Q E B X TT hh hd hu hpre hret
  refine' x_enter B X TT ?_
  intro L' h' F' N'
  (try dsimp only)
  (try k_fold)
  k_steps
  all_goals (
    refine hret _ _ _ (Fr.keep (by assumption)) (r3_of (by assumption) (.head _) e0s ?_ ?_)
    all_goals first | rw [sr1 (by assumption)] | rw [sr2 (by assumption) (by assumption)] | rw [sr3 (by assumption) (by assumption)] | rw [sr4 (by assumption) (by assumption) (by assumption)]
    all_goals first | exact e0s | exact e47s | exact rfl)
end
end
section
example : True := by
  k_with_none
  k_with "om" => first | assumption | exact Nat.le_add_left 1 _ | exact Int.add_nonneg (by assumption) (by decide) | exact tn1 (by assumption) | exact tn2 (by assumption) | exact tn3 (by assumption) | exact meas1 (by assumption) (by assumption) | exact meas3 (by assumption) (by assumption) | exact tlt1 (by assumption) (by assumption) | exact Nat.le_trans (by assumption) (by decide) | exact Nat.le_trans (Nat.add_le_add_right (by assumption) _) (by decide) | lia
  k_with "omd" => first | decide | k_extra "om"
  k_with "oml" => first | k_extra "om" | (simp only [List.length_append, List.length_map, List.length_drop, List.length_dropLast, List.length_cons, List.length_nil]; k_extra "om")
  k_with "ne" => (refine neN ?_; (try dsimp only); first | assumption | exact neLt (by assumption) (by k_mem) | exact neGt (by assumption) (by k_mem) | exact neOf (by assumption) (by k_mem) | exact neOf' (by assumption) (by k_mem) | lia)
  k_with "room" => first | exact room_of (by assumption) (by decide) | exact room_0 (by assumption)
  k_with "units" => exact room_of (by assumption) (by decide)
  k_with "ite" => with_reducible first | refine ite_tt ?_ | refine ite_ff ?_
  k_with "eval Name" => ((with_reducible show wpAny _ _ (eval (Expr.Name _ _) (envOf _ _ _ _ _)) _ _ _); first | (name_kind "local"; with_reducible refine' n_loc ?_) | (name_kind "globalImplicit"; with_reducible first | refine' n_glo ?_ | refine' n_boo ?_))
  k_with "loadName" => with_reducible refine' n_load ?_
  k_with "storeName" => (with_reducible refine' n_store ?_; intros; (try k_sweep))
  k_with "callWith" => with_reducible first | refine callWith_method0 ?_ | refine' n_cw0 ?_ | refine' n_cw1 ?_ | ((show wpAny _ _ (callWith _ (Value.builtin _) _ _ []) _ _ _); refine' n_cw ?_)
  k_with "callWith ref" => ((with_reducible show wpAny _ _ (callWith _ _ _ (backTo _ (starEach (_ :: _) _)) []) _ _ _); with_reducible refine' n_cwK ?_)
  k_with "eval Call" => with_reducible refine' n_call ?_
  k_with "eval Call Attribute" => with_reducible refine' n_mcall ?_
  k_with "exec Assign" => ((with_reducible show wpAny _ _ (exec (Stmt.Assign [Expr.Name _ _] _ _) _) _ _ _); with_reducible refine' n_asg ?_)
  k_with "exec If" => with_reducible refine wpAny_If ?_
  k_with "spliced" => ((with_reducible show wpAny _ _ (spliced (backTo _ (starEach (_ :: _) _))) _ _ _); with_reducible refine' n_acons ?_)
  k_with "newList" => (with_reducible refine' n_newl ?_; intros; (try k_sweep))
  k_with "eval BinOp" => with_reducible refine wpAny_BinOp ?_
  k_with "execs cons" => with_reducible first | (refine toks_cons ?_; intros) | refine wpAny_execs_cons ?_
  k_with "execs nil" => with_reducible refine wpAny_execs_nil ?_
  k_with "isTrue Name" => with_reducible refine' n_true ?_
  k_with "isTrue Call" => with_reducible refine' n_true ?_
  k_with "isTrue Compare" => ((with_reducible show wpAny _ _ (isTrue (PySem.Expr.Compare _ [_] [_] _) _ _) _ _ _); with_reducible refine wpAny_isTrue_Compare1 ?_)
  k_with "isTrue BoolOp" => with_reducible first | refine isTrue_and_nil ?_ | refine isTrue_or_nil ?_ | refine isTrue_and ?_ | refine isTrue_or ?_
  k_with "isTrue UnaryOp" => with_reducible refine isTrue_not ?_
  k_with "eval UnaryOp" => with_reducible refine UnaryOp_ ?_
  k_with "unaryOp USub int" => with_reducible refine n_neg ?_
  k_with "eval Subscript" => with_reducible refine Subscript_ ?_
  k_with "eval Slice" => with_reducible refine wpAny_Slice ?_
  k_with "evalPart some" => with_reducible refine evalPart_some_step ?_
  k_with "evalPart none" => with_reducible refine evalPart_none_step ?_
  k_with "exec AugAssign" => with_reducible refine wpAny_AugAssign_Name ?_
  k_with "exec Return some" => with_reducible refine wpAny_Return_some ?_
  k_with "exec Continue" => with_reducible refine wpAny_Continue ?_
  k_with "eval Constant str" => with_reducible refine n_str ?_
  k_with "eval Constant int" => with_reducible refine n_int ?_
  k_with "compareOp Eq str str" => with_reducible refine PyProof.Rows.eq_str ?_
  k_with "compareOp NotEq str str" => with_reducible refine PyProof.Rows.ne_str ?_
  k_with "inplaceOp Add int int" => with_reducible refine n_iaddi ?_
  k_with "binaryOp Add int int" => with_reducible refine n_addi ?_
  k_with "binaryOp Sub int int" => with_reducible refine n_subi ?_
  k_with "eval Tuple" => with_reducible refine Tuple_ ?_
  k_with "eval List" => with_reducible refine List_ ?_
  k_with "assign Name" => with_reducible refine PyProof.Rows.assign_Name ?_
  k_with "truthy bool" => with_reducible refine wpAny_truthy_bool ?_
  trivial
set_option maxHeartbeats 8000000
theorem r2_of {cls : String} {h₀ h' : Heap} {L D : Addr} {a b : Str} {t1 t2 : Tok} {p q : T} {news : List (Addr × Obj)} (N : News h₀ L h' news) (hm : (D, ({ cls := .type cls, data := .seq #[.str a t1, .str b t2] } : Obj)) ∈ news)
    (e1 : a = S p) (e2 : b = S q) : RSeq cls [p, q] (.ref D) h₀ h' := ret_seq (vs := [.str a t1, .str b t2]) N hm (strs2 e1 e2)
theorem passed_no {c' : Int → Bool} {P : Int → Prop} [DecidablePred P] {n : Int} (h : Passed c' (fun j => if P j then true else false) n) : ∀ j : Int, 0 ≤ j → j < n → ¬ P j := fun j h0 h1 hp => by
  have := (h j h0 h1).2
  simp only [if_pos hp] at this
  cases this
theorem splitext0_call (w : World) (x : Str) (t t2 t3 : Tok) : Pu w 6 40 108 (fun _ => x.length ≤ 100000) [.str x t, .str (Str.ofString "/") t2, .none, .str (Str.ofString ".") t3] (RSeq "tuple" (halvesL (tl x))) := by
  unfold Pu P0
  k_fill
  intro p loose mean mg mb A base l s Q E B X TT hh hd hu hpre hret
  refine' x_enter B X TT ?_
  intro L' h' F' N'
  (try dsimp only)
  (try k_fold)
  have e47 : Str.ofString "/" = ⟨#[47]⟩ := by decide +kernel
  have e46 : Str.ofString "." = ⟨#[46]⟩ := by decide +kernel
  k_steps
  · rename (Txt.rfind x _ < Txt.rfind x _) => h1
    rename (Txt.rfind x _ + 1 + 1 * _ < Txt.rfind x _) => h2
    rename ((Txt.slice x (some _) (some _) != Str.ofString ".") = true) => h3
    rw [e47, e46] at h1 h2 h3
    have hg := rfind_ge x 47
    have hx := ext_yes h1 (by assumption) h2 h3
    rw [hx] at hret
    refine hret _ _ _ (Fr.keep (by assumption)) (r2_of (by assumption) (.head _) ?_ ?_)
    · rw [e46]; exact slice_to x (by lia)
    · rw [e46]; exact slice_from x (by lia)
  · rename (Txt.rfind x _ < Txt.rfind x _) => h1
    rename (Txt.rfind x _ ≤ Txt.rfind x _ + 1 + 1 * _) => h2
    rename (Passed _ _ _) => h3
    have h4 := passed_no h3
    simp only [Bool.not_eq_true] at h4
    rw [e47, e46] at h1 h2 h4
    have hx := ext_no h1 (by assumption) h2 h4
    rw [hx] at hret
    refine hret _ _ _ (Fr.keep (by assumption)) (r2_of (by assumption) (.head _) (S_of x).symm ?_)
    first | exact rfl | exact slice_to x (by decide)
  · rename (¬ Txt.rfind x _ < Txt.rfind x _) => h1
    rw [e47, e46] at h1
    have hx := ext_none h1
    rw [hx] at hret
    refine hret _ _ _ (Fr.keep (by assumption)) (r2_of (by assumption) (.head _) (S_of x).symm ?_)
    first | exact rfl | exact slice_to x (by decide)
end
section
example : True := by
  k_with_none
  k_with "om" => first | assumption | exact Nat.le_add_left 1 _ | exact Int.add_nonneg (by assumption) (by decide) | exact tn1 (by assumption) | exact tn2 (by assumption) | exact tn3 (by assumption) | exact meas1 (by assumption) (by assumption) | exact meas3 (by assumption) (by assumption) | exact tlt1 (by assumption) (by assumption) | exact Nat.le_trans (by assumption) (by decide) | exact Nat.le_trans (Nat.add_le_add_right (by assumption) _) (by decide) | lia
  k_with "omd" => first | decide | k_extra "om"
  k_with "oml" => first | k_extra "om" | (simp only [List.length_append, List.length_map, List.length_drop, List.length_dropLast, List.length_cons, List.length_nil]; k_extra "om")
  k_with "ne" => (refine neN ?_; (try dsimp only); first | assumption | exact neLt (by assumption) (by k_mem) | exact neGt (by assumption) (by k_mem) | exact neOf (by assumption) (by k_mem) | exact neOf' (by assumption) (by k_mem) | lia)
  k_with "room" => first | exact room_of (by assumption) (by decide) | exact room_0 (by assumption)
  k_with "units" => exact room_of (by assumption) (by decide)
  k_with "ite" => with_reducible first | refine ite_tt ?_ | refine ite_ff ?_
  k_with "eval Name" => ((with_reducible show wpAny _ _ (eval (Expr.Name _ _) (envOf _ _ _ _ _)) _ _ _); first | (name_kind "local"; with_reducible refine' n_loc ?_) | (name_kind "globalImplicit"; with_reducible first | refine' n_glo ?_ | refine' n_boo ?_))
  k_with "loadName" => with_reducible refine' n_load ?_
  k_with "storeName" => (with_reducible refine' n_store ?_; intros; (try k_sweep))
  k_with "callWith" => with_reducible first | refine callWith_method0 ?_ | refine' n_cw0 ?_ | refine' n_cw1 ?_ | ((show wpAny _ _ (callWith _ (Value.builtin _) _ _ []) _ _ _); refine' n_cw ?_)
  k_with "callWith ref" => ((with_reducible show wpAny _ _ (callWith _ _ _ (backTo _ (starEach (_ :: _) _)) []) _ _ _); with_reducible refine' n_cwK ?_)
  k_with "eval Call" => with_reducible refine' n_call ?_
  k_with "eval Call Attribute" => with_reducible refine' n_mcall ?_
  k_with "exec Assign" => ((with_reducible show wpAny _ _ (exec (Stmt.Assign [Expr.Name _ _] _ _) _) _ _ _); with_reducible refine' n_asg ?_)
  k_with "exec If" => with_reducible refine wpAny_If ?_
  k_with "spliced" => ((with_reducible show wpAny _ _ (spliced (backTo _ (starEach (_ :: _) _))) _ _ _); with_reducible refine' n_acons ?_)
  k_with "newList" => (with_reducible refine' n_newl ?_; intros; (try k_sweep))
  k_with "eval BinOp" => with_reducible refine wpAny_BinOp ?_
  k_with "execs cons" => with_reducible first | (refine toks_cons ?_; intros) | refine wpAny_execs_cons ?_
  k_with "execs nil" => with_reducible refine wpAny_execs_nil ?_
  k_with "isTrue Name" => with_reducible refine' n_true ?_
  k_with "isTrue Call" => with_reducible refine' n_true ?_
  k_with "isTrue Compare" => ((with_reducible show wpAny _ _ (isTrue (PySem.Expr.Compare _ [_] [_] _) _ _) _ _ _); with_reducible refine wpAny_isTrue_Compare1 ?_)
  k_with "isTrue BoolOp" => with_reducible first | refine isTrue_and_nil ?_ | refine isTrue_or_nil ?_ | refine isTrue_and ?_ | refine isTrue_or ?_
  k_with "isTrue UnaryOp" => with_reducible refine isTrue_not ?_
  k_with "eval UnaryOp" => with_reducible refine UnaryOp_ ?_
  k_with "unaryOp USub int" => with_reducible refine n_neg ?_
  k_with "eval Subscript" => with_reducible refine Subscript_ ?_
  k_with "eval Slice" => with_reducible refine wpAny_Slice ?_
  k_with "evalPart some" => with_reducible refine evalPart_some_step ?_
  k_with "evalPart none" => with_reducible refine evalPart_none_step ?_
  k_with "exec AugAssign" => with_reducible refine wpAny_AugAssign_Name ?_
  k_with "exec Return some" => with_reducible refine wpAny_Return_some ?_
  k_with "exec Continue" => with_reducible refine wpAny_Continue ?_
  k_with "eval Constant str" => with_reducible refine n_str ?_
  k_with "eval Constant int" => with_reducible refine n_int ?_
  k_with "compareOp Eq str str" => with_reducible refine PyProof.Rows.eq_str ?_
  k_with "compareOp NotEq str str" => with_reducible refine PyProof.Rows.ne_str ?_
  k_with "inplaceOp Add int int" => with_reducible refine n_iaddi ?_
  k_with "binaryOp Add int int" => with_reducible refine n_addi ?_
  k_with "binaryOp Sub int int" => with_reducible refine n_subi ?_
  k_with "eval Tuple" => with_reducible refine Tuple_ ?_
  k_with "eval List" => with_reducible refine List_ ?_
  k_with "assign Name" => with_reducible refine PyProof.Rows.assign_Name ?_
  k_with "truthy bool" => with_reducible refine wpAny_truthy_bool ?_
  k_with "es" => with_reducible first | exact rfl | exact eS47 | exact eS61 | exact eS10 | exact eS46 | exact eSdd | exact eS32 | exact eS9 | exact eS0 | exact (S_of _).symm
  k_with "ls" => first | exact news_list (by k_asm) (by k_mem) | exact fr_list (by k_asm) (by k_asm)
  k_with "ss" => first | assumption | exact strs1 _ _
  k_with "nn" => first | assumption | exact splitL_ne _ _
  k_with "kp" => first | exact True.intro | ((try dsimp only); first | k_extra "ls" | assumption | k_extra "oml")
  k_with "c" => first | with_reducible assumption | ((with_reducible show StrsAre _ _); k_extra "ss") | ((with_reducible show Heap.IsList _ _ _); k_extra "ls") | ((with_reducible show plainIx _ = true); exact rfl) | ((with_reducible show _ = S _); k_extra "es") | ((with_reducible show _ ≠ _); k_extra "nn") | ((with_reducible show 0 ≤ _); k_extra "omd") | k_extra "oml"
  k_with "cc" => first | ((with_reducible refine And.intro ?za ?zb); (case za => k_extra "c"); (case zb => k_extra "cc")) | k_extra "c"
  k_with "pyIter ref" => with_reducible refine AtIter.on ?_
  k_with "call ref" => ((with_reducible refine' x_use (by k_dflt k_extra "pu") ?_); (with_reducible first | refine useE ?_ | refine useS ?_ | refine useI ?_ | refine useT3 (by assumption) (by assumption) ?_ | refine useT2 (by assumption) (by assumption) ?_ | refine useL (by assumption) (by assumption) ?_ | refine useT (by assumption) (by assumption) ?_); intros; (try k_sweep); (try k_fold))
  k_with "subscriptTail" => k_dflt ((first | ((with_reducible refine' p_butlast ?zk ?_); (case zk => k_extra "cc")) | ((with_reducible refine' p_to ?zk ?_); (case zk => k_extra "cc")) | ((with_reducible refine' p_last ?zk ?_); (case zk => k_extra "cc")) | ((with_reducible refine' p_from ?zk ?_); (case zk => k_extra "cc")) | ((with_reducible refine' p_midback ?zk ?_); (case zk => k_extra "cc")) | ((with_reducible refine' p_mid ?zk ?_); (case zk => k_extra "cc")) | ((with_reducible refine' q_rev ?zk ?_); (case zk => k_extra "cc")) | ((with_reducible refine' q_back ?zk ?_); (case zk => k_extra "cc")) | ((with_reducible refine' q_midback ?zk ?_); (case zk => k_extra "cc")) | ((with_reducible refine' i_slast ?zk ?_); (case zk => k_extra "cc")) | ((with_reducible refine' i_sat ?zk ?_); (case zk => k_extra "cc")) | ((with_reducible refine' i_last ?zk ?_); (case zk => k_extra "cc")) | ((with_reducible refine' i_nat ?zk ?_); (case zk => k_extra "cc"))); intros; (try k_sweep))
  k_with "call builtin:str.split" => (with_reducible refine' x_split ?_; intros; (try k_sweep))
  k_with "call builtin:str.splitlines" => (with_reducible refine' x_lines ?_; intros; (try k_sweep))
  k_with "call builtin:str.join" => (with_reducible refine' x_join ?_; intros)
  k_with "binaryOp Add str str" => (with_reducible refine' x_add ?_; intros)
  k_with "inplaceOp Add str str" => (with_reducible refine' x_iadd ?_; intros)
  k_with "call builtin:len" => with_reducible first | ((show wpAny _ _ (call _ [Value.str _ _]) _ _ _); refine' x_len ?_; intros) | (refine' x_llen ?_; intros)
  k_with "call builtin:str.rstrip" => with_reducible first | ((show wpAny _ _ (call _ [_]) _ _ _); refine' x_rstrip ?_; intros) | (refine' x_rstripc ?_; intros)
  k_with "call builtin:str.lstrip" => (with_reducible refine' x_lstripc ?_; intros)
  k_with "call builtin:chr" => (with_reducible refine' x_chr ?_; intros)
  k_with "call builtin:str.replace" => (with_reducible refine' x_replace ?_; intros)
  k_with "call builtin:min" => (with_reducible refine' x_min ?_; intros; (try k_sweep))
  k_with "call builtin:list.pop" => (with_reducible refine' x_pop ?_; intros; (try k_sweep))
  k_with "call builtin:list.append" => (with_reducible refine' x_append ?_; intros; (try k_sweep))
  k_with "setItem ref int" => (with_reducible refine' x_setlast ?_; intros; (try k_sweep))
  k_with "binaryOp Add ref ref" => (with_reducible refine' x_ladd ?_; intros; (try k_sweep))
  k_with "binaryOp Mult str int" => (with_reducible refine' x_smul ?_; intros)
  k_with "binaryOp Mult ref int" => (with_reducible refine' x_lmul ?_; intros; (try k_sweep))
  k_with "truthy ref" => (with_reducible refine' x_truthyL ?_; intros)
  k_with "truthy str" => (with_reducible refine' x_truthyS ?_; intros)
  k_with "assign Tuple" => (with_reducible refine' x_unpack ?_; intros)
  k_with "exec For" => with_reducible refine' x_for ?_
  k_with "sub" => first | (with_reducible exact sub_nil) | ((with_reducible refine sub_cons ?zh ?_); (case zh => k_mem); k_extra "sub") | (with_reducible exact (fun _ hp => hp)) | ((with_reducible refine sub_tail ?_); k_extra "sub")
  k_with "fz" => repeat' (first | (with_reducible exact same_u) | (with_reducible exact same_refl) | ((with_reducible refine same_if ?zh ?_); (case zh => k_mem)) | ((with_reducible refine same_st ?zh ?_); (case zh => k_mem)) | ((with_reducible refine same_kcons ?zh ?_); (case zh => k_mem)) | (with_reducible refine same_knil ?_) | ((with_reducible refine same_ins ?zh ?_); (case zh => k_extra "sub")) | exact same_refl)
  k_with "src" => refine' x_list
  k_with "CompInG" => with_reducible refine' x_src ?_ ?_ ?_
  k_with "TestG" => k_dflt (first | exact test_none | (refine test_RT ?_; intros))
  k_with "EltG" => k_dflt (refine elt_RT ?_; intros)
  k_with "FinG" => k_dflt ((first | refine fin_tt ?_ | refine fin_id ?_ | refine fin_g ?_); intros)
  k_with "exec While" => with_reducible refine AtWhile.on ?_
  trivial
set_option maxHeartbeats 8000000
section
example : True := by
  k_with "pu" => with_reducible first | exact fspath_call _ _ _ | exact splitext0_call _ _ _ _ _
  trivial
theorem splitext_call (w : World) (x : T) (t : Tok) : Pu w 12 60 136 (fun _ => x.length ≤ 100000) [.str (S x) t] (RSeq "tuple" (halvesL x)) := by
  unfold Pu P0
  k_fill
  intro p loose mean mg mb A base l s Q E B X TT hh hd hu hpre hret
  refine' x_enter B X TT ?_
  intro L' h' F' N'
  (try dsimp only)
  (try k_fold)
  k_steps
  all_goals exact hret _ _ _ (Fr.keep (by assumption)) (ret_seq (by assumption) (.head _) (by assumption))
end
end
section
example : True := by
  k_with_none
  k_with "om" => first | assumption | exact Nat.le_add_left 1 _ | exact Int.add_nonneg (by assumption) (by decide) | exact tn1 (by assumption) | exact tn2 (by assumption) | exact tn3 (by assumption) | exact meas1 (by assumption) (by assumption) | exact meas3 (by assumption) (by assumption) | exact tlt1 (by assumption) (by assumption) | exact Nat.le_trans (by assumption) (by decide) | exact Nat.le_trans (Nat.add_le_add_right (by assumption) _) (by decide) | lia
  k_with "omd" => first | decide | k_extra "om"
  k_with "oml" => first | k_extra "om" | (simp only [List.length_append, List.length_map, List.length_drop, List.length_dropLast, List.length_cons, List.length_nil]; k_extra "om")
  k_with "ne" => (refine neN ?_; (try dsimp only); first | assumption | exact neLt (by assumption) (by k_mem) | exact neGt (by assumption) (by k_mem) | exact neOf (by assumption) (by k_mem) | exact neOf' (by assumption) (by k_mem) | lia)
  k_with "room" => first | exact room_of (by assumption) (by decide) | exact room_0 (by assumption)
  k_with "units" => exact room_of (by assumption) (by decide)
  k_with "ite" => with_reducible first | refine ite_tt ?_ | refine ite_ff ?_
  k_with "eval Name" => ((with_reducible show wpAny _ _ (eval (Expr.Name _ _) (envOf _ _ _ _ _)) _ _ _); first | (name_kind "local"; with_reducible refine' n_loc ?_) | (name_kind "globalImplicit"; with_reducible first | refine' n_glo ?_ | refine' n_boo ?_))
  k_with "loadName" => with_reducible refine' n_load ?_
  k_with "storeName" => (with_reducible refine' n_store ?_; intros; (try k_sweep))
  k_with "callWith" => with_reducible first | refine callWith_method0 ?_ | refine' n_cw0 ?_ | refine' n_cw1 ?_ | ((show wpAny _ _ (callWith _ (Value.builtin _) _ _ []) _ _ _); refine' n_cw ?_)
  k_with "callWith ref" => ((with_reducible show wpAny _ _ (callWith _ _ _ (backTo _ (starEach (_ :: _) _)) []) _ _ _); with_reducible refine' n_cwK ?_)
  k_with "eval Call" => with_reducible refine' n_call ?_
  k_with "eval Call Attribute" => with_reducible refine' n_mcall ?_
  k_with "exec Assign" => ((with_reducible show wpAny _ _ (exec (Stmt.Assign [Expr.Name _ _] _ _) _) _ _ _); with_reducible refine' n_asg ?_)
  k_with "exec If" => with_reducible refine wpAny_If ?_
  k_with "spliced" => ((with_reducible show wpAny _ _ (spliced (backTo _ (starEach (_ :: _) _))) _ _ _); with_reducible refine' n_acons ?_)
  k_with "newList" => (with_reducible refine' n_newl ?_; intros; (try k_sweep))
  k_with "eval BinOp" => with_reducible refine wpAny_BinOp ?_
  k_with "execs cons" => with_reducible first | (refine toks_cons ?_; intros) | refine wpAny_execs_cons ?_
  k_with "execs nil" => with_reducible refine wpAny_execs_nil ?_
  k_with "isTrue Name" => with_reducible refine' n_true ?_
  k_with "isTrue Call" => with_reducible refine' n_true ?_
  k_with "isTrue Compare" => ((with_reducible show wpAny _ _ (isTrue (PySem.Expr.Compare _ [_] [_] _) _ _) _ _ _); with_reducible refine wpAny_isTrue_Compare1 ?_)
  k_with "isTrue BoolOp" => with_reducible first | refine isTrue_and_nil ?_ | refine isTrue_or_nil ?_ | refine isTrue_and ?_ | refine isTrue_or ?_
  k_with "isTrue UnaryOp" => with_reducible refine isTrue_not ?_
  k_with "eval UnaryOp" => with_reducible refine UnaryOp_ ?_
  k_with "unaryOp USub int" => with_reducible refine n_neg ?_
  k_with "eval Subscript" => with_reducible refine Subscript_ ?_
  k_with "eval Slice" => with_reducible refine wpAny_Slice ?_
  k_with "evalPart some" => with_reducible refine evalPart_some_step ?_
  k_with "evalPart none" => with_reducible refine evalPart_none_step ?_
  k_with "exec AugAssign" => with_reducible refine wpAny_AugAssign_Name ?_
  k_with "exec Return some" => with_reducible refine wpAny_Return_some ?_
  k_with "exec Continue" => with_reducible refine wpAny_Continue ?_
  k_with "eval Constant str" => with_reducible refine n_str ?_
  k_with "eval Constant int" => with_reducible refine n_int ?_
  k_with "compareOp Eq str str" => with_reducible refine PyProof.Rows.eq_str ?_
  k_with "compareOp NotEq str str" => with_reducible refine PyProof.Rows.ne_str ?_
  k_with "inplaceOp Add int int" => with_reducible refine n_iaddi ?_
  k_with "binaryOp Add int int" => with_reducible refine n_addi ?_
  k_with "binaryOp Sub int int" => with_reducible refine n_subi ?_
  k_with "eval Tuple" => with_reducible refine Tuple_ ?_
  k_with "eval List" => with_reducible refine List_ ?_
  k_with "assign Name" => with_reducible refine PyProof.Rows.assign_Name ?_
  k_with "truthy bool" => with_reducible refine wpAny_truthy_bool ?_
  k_with "es" => with_reducible first | exact rfl | exact eS47 | exact eS61 | exact eS10 | exact eS46 | exact eSdd | exact eS32 | exact eS9 | exact eS0 | exact (S_of _).symm
  k_with "ls" => first | exact news_list (by k_asm) (by k_mem) | exact fr_list (by k_asm) (by k_asm)
  k_with "ss" => first | assumption | exact strs1 _ _
  k_with "nn" => first | assumption | exact splitL_ne _ _
  k_with "kp" => first | exact True.intro | ((try dsimp only); first | k_extra "ls" | assumption | k_extra "oml")
  k_with "c" => first | with_reducible assumption | ((with_reducible show StrsAre _ _); k_extra "ss") | ((with_reducible show Heap.IsList _ _ _); k_extra "ls") | ((with_reducible show plainIx _ = true); exact rfl) | ((with_reducible show _ = S _); k_extra "es") | ((with_reducible show _ ≠ _); k_extra "nn") | ((with_reducible show 0 ≤ _); k_extra "omd") | k_extra "oml"
  k_with "cc" => first | ((with_reducible refine And.intro ?za ?zb); (case za => k_extra "c"); (case zb => k_extra "cc")) | k_extra "c"
  k_with "pyIter ref" => with_reducible refine AtIter.on ?_
  k_with "call ref" => ((with_reducible refine' x_use (by k_dflt k_extra "pu") ?_); (with_reducible first | refine useE ?_ | refine useS ?_ | refine useI ?_ | refine useT3 (by assumption) (by assumption) ?_ | refine useT2 (by assumption) (by assumption) ?_ | refine useL (by assumption) (by assumption) ?_ | refine useT (by assumption) (by assumption) ?_); intros; (try k_sweep); (try k_fold))
  k_with "subscriptTail" => k_dflt ((first | ((with_reducible refine' p_butlast ?zk ?_); (case zk => k_extra "cc")) | ((with_reducible refine' p_to ?zk ?_); (case zk => k_extra "cc")) | ((with_reducible refine' p_last ?zk ?_); (case zk => k_extra "cc")) | ((with_reducible refine' p_from ?zk ?_); (case zk => k_extra "cc")) | ((with_reducible refine' p_midback ?zk ?_); (case zk => k_extra "cc")) | ((with_reducible refine' p_mid ?zk ?_); (case zk => k_extra "cc")) | ((with_reducible refine' q_rev ?zk ?_); (case zk => k_extra "cc")) | ((with_reducible refine' q_back ?zk ?_); (case zk => k_extra "cc")) | ((with_reducible refine' q_midback ?zk ?_); (case zk => k_extra "cc")) | ((with_reducible refine' i_slast ?zk ?_); (case zk => k_extra "cc")) | ((with_reducible refine' i_sat ?zk ?_); (case zk => k_extra "cc")) | ((with_reducible refine' i_last ?zk ?_); (case zk => k_extra "cc")) | ((with_reducible refine' i_nat ?zk ?_); (case zk => k_extra "cc"))); intros; (try k_sweep))
  k_with "call builtin:str.split" => (with_reducible refine' x_split ?_; intros; (try k_sweep))
  k_with "call builtin:str.splitlines" => (with_reducible refine' x_lines ?_; intros; (try k_sweep))
  k_with "call builtin:str.join" => (with_reducible refine' x_join ?_; intros)
  k_with "binaryOp Add str str" => (with_reducible refine' x_add ?_; intros)
  k_with "inplaceOp Add str str" => (with_reducible refine' x_iadd ?_; intros)
  k_with "call builtin:len" => with_reducible first | ((show wpAny _ _ (call _ [Value.str _ _]) _ _ _); refine' x_len ?_; intros) | (refine' x_llen ?_; intros)
  k_with "call builtin:str.rstrip" => with_reducible first | ((show wpAny _ _ (call _ [_]) _ _ _); refine' x_rstrip ?_; intros) | (refine' x_rstripc ?_; intros)
  k_with "call builtin:str.lstrip" => (with_reducible refine' x_lstripc ?_; intros)
  k_with "call builtin:chr" => (with_reducible refine' x_chr ?_; intros)
  k_with "call builtin:str.replace" => (with_reducible refine' x_replace ?_; intros)
  k_with "call builtin:min" => (with_reducible refine' x_min ?_; intros; (try k_sweep))
  k_with "call builtin:list.pop" => (with_reducible refine' x_pop ?_; intros; (try k_sweep))
  k_with "call builtin:list.append" => (with_reducible refine' x_append ?_; intros; (try k_sweep))
  k_with "setItem ref int" => (with_reducible refine' x_setlast ?_; intros; (try k_sweep))
  k_with "binaryOp Add ref ref" => (with_reducible refine' x_ladd ?_; intros; (try k_sweep))
  k_with "binaryOp Mult str int" => (with_reducible refine' x_smul ?_; intros)
  k_with "binaryOp Mult ref int" => (with_reducible refine' x_lmul ?_; intros; (try k_sweep))
  k_with "truthy ref" => (with_reducible refine' x_truthyL ?_; intros)
  k_with "truthy str" => (with_reducible refine' x_truthyS ?_; intros)
  k_with "assign Tuple" => (with_reducible refine' x_unpack ?_; intros)
  k_with "exec For" => with_reducible refine' x_for ?_
  k_with "sub" => first | (with_reducible exact sub_nil) | ((with_reducible refine sub_cons ?zh ?_); (case zh => k_mem); k_extra "sub") | (with_reducible exact (fun _ hp => hp)) | ((with_reducible refine sub_tail ?_); k_extra "sub")
  k_with "fz" => repeat' (first | (with_reducible exact same_u) | (with_reducible exact same_refl) | ((with_reducible refine same_if ?zh ?_); (case zh => k_mem)) | ((with_reducible refine same_st ?zh ?_); (case zh => k_mem)) | ((with_reducible refine same_kcons ?zh ?_); (case zh => k_mem)) | (with_reducible refine same_knil ?_) | ((with_reducible refine same_ins ?zh ?_); (case zh => k_extra "sub")) | exact same_refl)
  k_with "src" => refine' x_list
  k_with "CompInG" => with_reducible refine' x_src ?_ ?_ ?_
  k_with "TestG" => k_dflt (first | exact test_none | (refine test_RT ?_; intros))
  k_with "EltG" => k_dflt (refine elt_RT ?_; intros)
  k_with "FinG" => k_dflt ((first | refine fin_tt ?_ | refine fin_id ?_ | refine fin_g ?_); intros)
  k_with "exec While" => with_reducible refine AtWhile.on ?_
  trivial
theorem hv_lt {a : Nat} (h : isHex a = true) : hv a < 16 := by
  unfold isHex at h; simp at h; unfold hv; split <;> (try split) <;> lia
example : True := by
  k_with "call type:int" => k_dflt ((with_reducible refine' int16_rule ?k1 ?k2 ?k3 ?_); (case k1 => rfl); (case k2 | k3 => assumption))
  trivial
theorem unquote_call (w : World) (a b : Nat) (t : Tok) (ha : isHex a = true) (hb : isHex b = true) : Pu w 4 40 176 (fun _ => True) [.str (S [61, a, b]) t] (RStr [16 * hv a + hv b]) := by
  unfold Pu P0
  k_fill
  intro p loose mean mg mb A base l s Q E B X TT hh hd hu hpre hret
  refine' x_enter B X TT ?_
  intro L' h' F' N'
  (try dsimp only)
  (try k_fold)
  have hlen : ([61, a, b] : T).length = 3 := rfl
  have h1 := hv_lt ha
  have h2 := hv_lt hb
  k_steps
  all_goals (refine hret _ _ _ (Fr.keep (by assumption)) (RStr.of ?_); rfl)
end
section
example : True := by
  k_with_none
  k_with "om" => first | assumption | exact Nat.le_add_left 1 _ | exact Int.add_nonneg (by assumption) (by decide) | exact tn1 (by assumption) | exact tn2 (by assumption) | exact tn3 (by assumption) | exact meas1 (by assumption) (by assumption) | exact meas3 (by assumption) (by assumption) | exact tlt1 (by assumption) (by assumption) | exact Nat.le_trans (by assumption) (by decide) | exact Nat.le_trans (Nat.add_le_add_right (by assumption) _) (by decide) | lia
  k_with "omd" => first | decide | k_extra "om"
  k_with "oml" => first | k_extra "om" | (simp only [List.length_append, List.length_map, List.length_drop, List.length_dropLast, List.length_cons, List.length_nil]; k_extra "om")
  k_with "ne" => (refine neN ?_; (try dsimp only); first | assumption | exact neLt (by assumption) (by k_mem) | exact neGt (by assumption) (by k_mem) | exact neOf (by assumption) (by k_mem) | exact neOf' (by assumption) (by k_mem) | lia)
  k_with "room" => first | exact room_of (by assumption) (by decide) | exact room_0 (by assumption)
  k_with "units" => exact room_of (by assumption) (by decide)
  k_with "ite" => with_reducible first | refine ite_tt ?_ | refine ite_ff ?_
  k_with "eval Name" => ((with_reducible show wpAny _ _ (eval (Expr.Name _ _) (envOf _ _ _ _ _)) _ _ _); first | (name_kind "local"; with_reducible refine' n_loc ?_) | (name_kind "globalImplicit"; with_reducible first | refine' n_glo ?_ | refine' n_boo ?_))
  k_with "loadName" => with_reducible refine' n_load ?_
  k_with "storeName" => (with_reducible refine' n_store ?_; intros; (try k_sweep))
  k_with "callWith" => with_reducible first | refine callWith_method0 ?_ | refine' n_cw0 ?_ | refine' n_cw1 ?_ | ((show wpAny _ _ (callWith _ (Value.builtin _) _ _ []) _ _ _); refine' n_cw ?_)
  k_with "callWith ref" => ((with_reducible show wpAny _ _ (callWith _ _ _ (backTo _ (starEach (_ :: _) _)) []) _ _ _); with_reducible refine' n_cwK ?_)
  k_with "eval Call" => with_reducible refine' n_call ?_
  k_with "eval Call Attribute" => with_reducible refine' n_mcall ?_
  k_with "exec Assign" => ((with_reducible show wpAny _ _ (exec (Stmt.Assign [Expr.Name _ _] _ _) _) _ _ _); with_reducible refine' n_asg ?_)
  k_with "exec If" => with_reducible refine wpAny_If ?_
  k_with "spliced" => ((with_reducible show wpAny _ _ (spliced (backTo _ (starEach (_ :: _) _))) _ _ _); with_reducible refine' n_acons ?_)
  k_with "newList" => (with_reducible refine' n_newl ?_; intros; (try k_sweep))
  k_with "eval BinOp" => with_reducible refine wpAny_BinOp ?_
  k_with "execs cons" => with_reducible first | (refine toks_cons ?_; intros) | refine wpAny_execs_cons ?_
  k_with "execs nil" => with_reducible refine wpAny_execs_nil ?_
  k_with "isTrue Name" => with_reducible refine' n_true ?_
  k_with "isTrue Call" => with_reducible refine' n_true ?_
  k_with "isTrue Compare" => ((with_reducible show wpAny _ _ (isTrue (PySem.Expr.Compare _ [_] [_] _) _ _) _ _ _); with_reducible refine wpAny_isTrue_Compare1 ?_)
  k_with "isTrue BoolOp" => with_reducible first | refine isTrue_and_nil ?_ | refine isTrue_or_nil ?_ | refine isTrue_and ?_ | refine isTrue_or ?_
  k_with "isTrue UnaryOp" => with_reducible refine isTrue_not ?_
  k_with "eval UnaryOp" => with_reducible refine UnaryOp_ ?_
  k_with "unaryOp USub int" => with_reducible refine n_neg ?_
  k_with "eval Subscript" => with_reducible refine Subscript_ ?_
  k_with "eval Slice" => with_reducible refine wpAny_Slice ?_
  k_with "evalPart some" => with_reducible refine evalPart_some_step ?_
  k_with "evalPart none" => with_reducible refine evalPart_none_step ?_
  k_with "exec AugAssign" => with_reducible refine wpAny_AugAssign_Name ?_
  k_with "exec Return some" => with_reducible refine wpAny_Return_some ?_
  k_with "exec Continue" => with_reducible refine wpAny_Continue ?_
  k_with "eval Constant str" => with_reducible refine n_str ?_
  k_with "eval Constant int" => with_reducible refine n_int ?_
  k_with "compareOp Eq str str" => with_reducible refine PyProof.Rows.eq_str ?_
  k_with "compareOp NotEq str str" => with_reducible refine PyProof.Rows.ne_str ?_
  k_with "inplaceOp Add int int" => with_reducible refine n_iaddi ?_
  k_with "binaryOp Add int int" => with_reducible refine n_addi ?_
  k_with "binaryOp Sub int int" => with_reducible refine n_subi ?_
  k_with "eval Tuple" => with_reducible refine Tuple_ ?_
  k_with "eval List" => with_reducible refine List_ ?_
  k_with "assign Name" => with_reducible refine PyProof.Rows.assign_Name ?_
  k_with "truthy bool" => with_reducible refine wpAny_truthy_bool ?_
  k_with "es" => with_reducible first | exact rfl | exact eS47 | exact eS61 | exact eS10 | exact eS46 | exact eSdd | exact eS32 | exact eS9 | exact eS0 | exact (S_of _).symm
  k_with "ls" => first | exact news_list (by k_asm) (by k_mem) | exact fr_list (by k_asm) (by k_asm)
  k_with "ss" => first | assumption | exact strs1 _ _
  k_with "nn" => first | assumption | exact splitL_ne _ _
  k_with "kp" => first | exact True.intro | ((try dsimp only); first | k_extra "ls" | assumption | k_extra "oml")
  k_with "c" => first | with_reducible assumption | ((with_reducible show StrsAre _ _); k_extra "ss") | ((with_reducible show Heap.IsList _ _ _); k_extra "ls") | ((with_reducible show plainIx _ = true); exact rfl) | ((with_reducible show _ = S _); k_extra "es") | ((with_reducible show _ ≠ _); k_extra "nn") | ((with_reducible show 0 ≤ _); k_extra "omd") | k_extra "oml"
  k_with "cc" => first | ((with_reducible refine And.intro ?za ?zb); (case za => k_extra "c"); (case zb => k_extra "cc")) | k_extra "c"
  k_with "pyIter ref" => with_reducible refine AtIter.on ?_
  k_with "call ref" => ((with_reducible refine' x_use (by k_dflt k_extra "pu") ?_); (with_reducible first | refine useE ?_ | refine useS ?_ | refine useI ?_ | refine useT3 (by assumption) (by assumption) ?_ | refine useT2 (by assumption) (by assumption) ?_ | refine useL (by assumption) (by assumption) ?_ | refine useT (by assumption) (by assumption) ?_); intros; (try k_sweep); (try k_fold))
  k_with "subscriptTail" => k_dflt ((first | ((with_reducible refine' p_butlast ?zk ?_); (case zk => k_extra "cc")) | ((with_reducible refine' p_to ?zk ?_); (case zk => k_extra "cc")) | ((with_reducible refine' p_last ?zk ?_); (case zk => k_extra "cc")) | ((with_reducible refine' p_from ?zk ?_); (case zk => k_extra "cc")) | ((with_reducible refine' p_midback ?zk ?_); (case zk => k_extra "cc")) | ((with_reducible refine' p_mid ?zk ?_); (case zk => k_extra "cc")) | ((with_reducible refine' q_rev ?zk ?_); (case zk => k_extra "cc")) | ((with_reducible refine' q_back ?zk ?_); (case zk => k_extra "cc")) | ((with_reducible refine' q_midback ?zk ?_); (case zk => k_extra "cc")) | ((with_reducible refine' i_slast ?zk ?_); (case zk => k_extra "cc")) | ((with_reducible refine' i_sat ?zk ?_); (case zk => k_extra "cc")) | ((with_reducible refine' i_last ?zk ?_); (case zk => k_extra "cc")) | ((with_reducible refine' i_nat ?zk ?_); (case zk => k_extra "cc"))); intros; (try k_sweep))
  k_with "call builtin:str.split" => (with_reducible refine' x_split ?_; intros; (try k_sweep))
  k_with "call builtin:str.splitlines" => (with_reducible refine' x_lines ?_; intros; (try k_sweep))
  k_with "call builtin:str.join" => (with_reducible refine' x_join ?_; intros)
  k_with "binaryOp Add str str" => (with_reducible refine' x_add ?_; intros)
  k_with "inplaceOp Add str str" => (with_reducible refine' x_iadd ?_; intros)
  k_with "call builtin:len" => with_reducible first | ((show wpAny _ _ (call _ [Value.str _ _]) _ _ _); refine' x_len ?_; intros) | (refine' x_llen ?_; intros)
  k_with "call builtin:str.rstrip" => with_reducible first | ((show wpAny _ _ (call _ [_]) _ _ _); refine' x_rstrip ?_; intros) | (refine' x_rstripc ?_; intros)
  k_with "call builtin:str.lstrip" => (with_reducible refine' x_lstripc ?_; intros)
  k_with "call builtin:chr" => (with_reducible refine' x_chr ?_; intros)
  k_with "call builtin:str.replace" => (with_reducible refine' x_replace ?_; intros)
  k_with "call builtin:min" => (with_reducible refine' x_min ?_; intros; (try k_sweep))
  k_with "call builtin:list.pop" => (with_reducible refine' x_pop ?_; intros; (try k_sweep))
  k_with "call builtin:list.append" => (with_reducible refine' x_append ?_; intros; (try k_sweep))
  k_with "setItem ref int" => (with_reducible refine' x_setlast ?_; intros; (try k_sweep))
  k_with "binaryOp Add ref ref" => (with_reducible refine' x_ladd ?_; intros; (try k_sweep))
  k_with "binaryOp Mult str int" => (with_reducible refine' x_smul ?_; intros)
  k_with "binaryOp Mult ref int" => (with_reducible refine' x_lmul ?_; intros; (try k_sweep))
  k_with "truthy ref" => (with_reducible refine' x_truthyL ?_; intros)
  k_with "truthy str" => (with_reducible refine' x_truthyS ?_; intros)
  k_with "assign Tuple" => (with_reducible refine' x_unpack ?_; intros)
  k_with "exec For" => with_reducible refine' x_for ?_
  k_with "sub" => first | (with_reducible exact sub_nil) | ((with_reducible refine sub_cons ?zh ?_); (case zh => k_mem); k_extra "sub") | (with_reducible exact (fun _ hp => hp)) | ((with_reducible refine sub_tail ?_); k_extra "sub")
  k_with "fz" => repeat' (first | (with_reducible exact same_u) | (with_reducible exact same_refl) | ((with_reducible refine same_if ?zh ?_); (case zh => k_mem)) | ((with_reducible refine same_st ?zh ?_); (case zh => k_mem)) | ((with_reducible refine same_kcons ?zh ?_); (case zh => k_mem)) | (with_reducible refine same_knil ?_) | ((with_reducible refine same_ins ?zh ?_); (case zh => k_extra "sub")) | exact same_refl)
  k_with "src" => refine' x_list
  k_with "CompInG" => with_reducible refine' x_src ?_ ?_ ?_
  k_with "TestG" => k_dflt (first | exact test_none | (refine test_RT ?_; intros))
  k_with "EltG" => k_dflt (refine elt_RT ?_; intros)
  k_with "FinG" => k_dflt ((first | refine fin_tt ?_ | refine fin_id ?_ | refine fin_g ?_); intros)
  k_with "exec While" => with_reducible refine AtWhile.on ?_
  trivial
theorem linesL_sum2 : ∀ x : T, ((linesL x).map List.length).sum + (linesL x).length ≤ x.length + 1 ∧ (linesL x = [] ↔ x = [])
  | [] => ⟨Nat.zero_le _, by simp [linesL]⟩
  | d :: r => by
    have ih := linesL_sum2 r
    unfold linesL
    split
    · refine ⟨?_, by simp⟩
      simp only [List.map_cons, List.sum_cons, List.length_cons, List.length_nil]; lia
    · cases h : linesL r with
      | nil =>
        refine ⟨?_, by simp⟩
        simp
      | cons p ps =>
        rw [h] at ih
        refine ⟨?_, by simp⟩
        have := ih.1
        simp only [List.map_cons, List.sum_cons, List.length_cons] at this ⊢; lia
theorem linesL_sum (x : T) : ((linesL x).map List.length).sum + (linesL x).length ≤ x.length + 1 := (linesL_sum2 x).1
theorem ne61 {c : Nat} (h : (S [c] != Str.ofString "=") = true) : c ≠ 61 := by
  rw [eS61, S_bne, bne_iff_ne] at h; intro e; exact h (by rw [e])
theorem is61 {c : Nat} (h : (S [c] != Str.ofString "=") = false) : c = 61 := by
  rw [eS61, S_bne, bne_eq_false_iff_eq] at h; injection h
theorem dl_nohexI {r y tot : T} {i : Int} (h0 : 0 ≤ i) (h : i.toNat + 2 < r.length) (hc : r.getD i.toNat 0 = 61) (hx : isHex (r.getD (i + 1).toNat 0) = false ∨ isHex (r.getD (i + 2).toNat 0) = false) (hi : y ++ decR (r.drop i.toNat) = tot) : (y ++ [r.getD i.toNat 0]) ++ decR (r.drop (i.toNat + 1)) = tot := by
  rw [show (i + 1).toNat = i.toNat + 1 by lia, show (i + 2).toNat = i.toNat + 2 by lia] at hx
  exact dl_nohex2 h hc (hexN hx) hi
theorem dl_hexI {r y tot : T} {i : Int} (h0 : 0 ≤ i) (h : i + 3 < (r.length : Int)) (hc : r.getD i.toNat 0 = 61) (ha : isHex (r.getD (i + 1).toNat 0) = true) (hb : isHex (r.getD (i + 2).toNat 0) = true) (hi : y ++ decR (r.drop i.toNat) = tot) : (y ++ [16 * hv (r.getD (i + 1).toNat 0) + hv (r.getD (i + 2).toNat 0)]) ++ decR (r.drop (i + 3).toNat) = tot := by
  rw [show (i + 1).toNat = i.toNat + 1 by lia, show (i + 2).toNat = i.toNat + 2 by lia] at *
  rw [show (i + 3).toNat = i.toNat + 3 by lia]
  exact dl_hex (by lia) hc ha hb hi
theorem dl_hexE {r y tot : T} {i : Int} (h0 : 0 ≤ i) (h : i + 3 = (r.length : Int)) (hc : r.getD i.toNat 0 = 61) (ha : isHex (r.getD (i + 1).toNat 0) = true) (hb : isHex (r.getD (i + 2).toNat 0) = true) (hi : y ++ decR (r.drop i.toNat) = tot) : (y ++ [16 * hv (r.getD (i + 1).toNat 0) + hv (r.getD (i + 2).toNat 0)] ++ [10]) ++ decR (r.drop (i + 3).toNat) = tot := by
  rw [show (i + 1).toNat = i.toNat + 1 by lia, show (i + 2).toNat = i.toNat + 2 by lia] at *
  rw [show (i + 3).toNat = i.toNat + 3 by lia]
  exact dl_hex_end (by lia) hc ha hb hi
theorem slice3I {r : T} {i : Int} (h0 : 0 ≤ i) (h : i + 2 < (r.length : Int)) (hc : r.getD i.toNat 0 = 61) : (r.take (i + 3).toNat).drop i.toNat = [61, r.getD (i + 1).toNat 0, r.getD (i + 2).toNat 0] := by
  rw [show (i + 1).toNat = i.toNat + 1 by lia, show (i + 2).toNat = i.toNat + 2 by lia, show (i + 3).toNat = i.toNat + 3 by lia]
  exact slice3 (by lia) hc
theorem last_memD {x : T} (h : x ≠ []) : x.getLast h = x.getLastD 0 := by rw [List.getLastD_eq_getLast?, List.getLast?_eq_some_getLast h]; rfl
theorem dl_done {r y d : T} {i : Int} (h : ¬ i < (r.length : Int)) (hi : y ++ decR (r.drop i.toNat) = d ++ decR r) : y = d ++ decR r := by
  rw [drop_nil.mpr (by lia)] at hi
  rw [← hi]; simp [decR, decF]
theorem decLine_ne {a : T} (h : rstripP Unicode.isSpace a ≠ []) : decLine a = decR (rstripP Unicode.isSpace a) := by unfold decLine; rw [if_neg h]; rfl
theorem decLine_nil {a : T} (h : ¬ rstripP Unicode.isSpace a ≠ []) : decLine a = [10] := by unfold decLine; rw [if_pos (Decidable.not_not.mp h)]
theorem crlf_no {c : Nat} (h : (Builtin.Str.occurrences (Str.ofString "\r\n") (S [c]) 0 (Str.ofString "\r\n").length 1).isEmpty = true) : c ≠ 10 := by
  have h2 := crlf_in c; unfold Txt.contains at h2; rw [h] at h2; intro e; subst e; simp at h2
section
variable {x d : T}
theorem ends10 : Txt.endswith (S d) (Str.ofString "\n") = (d.getLast? == some 10) := by
  have h2 : Txt.endswith (S d) (S [10]) = ((S d).cps.toList.getLast? == some 10) := ew_one (S d) 10
  rw [S_cps] at h2
  rw [eS10]; exact h2
theorem dec_fin1 (hx : x ≠ []) (hd : d = ((linesL x).map decLine).flatten) (hn : (Builtin.Str.occurrences (Str.ofString "\r\n") (S [x.getLastD 0]) 0 (Str.ofString "\r\n").length 1).isEmpty = true) (he : Txt.endswith (S d) (Str.ofString "\n") = true) : decodeL x = d.dropLast := by
  rw [ends10, beq_iff_eq] at he
  have h2 := crlf_no hn
  unfold decodeL; rw [if_neg hx, ← hd]
  exact if_pos ⟨by rw [last_some hx]; intro e; injection e with e; exact h2 e, he⟩
theorem dec_fin2 (hx : x ≠ []) (hd : d = ((linesL x).map decLine).flatten) (he : Txt.endswith (S d) (Str.ofString "\n") = false) : decodeL x = d := by
  rw [ends10, beq_eq_false_iff_ne] at he
  unfold decodeL; rw [if_neg hx, ← hd]
  exact if_neg (fun q => he q.2)
theorem dec_fin3 (hx : x ≠ []) (hb : ∀ c ∈ x, Unicode.isLineBreak c = true → c = 10) (hd : d = ((linesL x).map decLine).flatten) (hn : (Builtin.Str.occurrences (Str.ofString "\r\n") (S [x.getLastD 0]) 0 (Str.ofString "\r\n").length 1).isEmpty = false) : decodeL x = d := by
  have h2 : x.getLastD 0 = 10 := by
    rcases crlf_yes hn with h | h
    · exact hb _ (by rw [← last_memD hx]; exact List.getLast_mem hx) (by rw [h]; decide)
    · exact h
  unfold decodeL; rw [if_neg hx, ← hd]
  exact if_neg (fun q => q.1 (by rw [last_some hx, h2]))
end
theorem unquote_call2 (w : World) (x : T) (a b : Nat) (t : Tok) (hx : x = [61, a, b]) (ha : isHex a = true) (hb : isHex b = true) : Pu w 4 40 176 (fun _ => True) [.str (S x) t] (RStr [16 * hv a + hv b]) := by
  subst hx; exact unquote_call w a b t ha hb
theorem no2 {i n : Int} (h : i + 2 < n) : ¬ i + 1 = n := by lia
theorem dl_in {r : T} {i : Int} (h0 : 0 ≤ i) (h : i + 1 < (r.length : Int)) : i.toNat + 1 < r.length := by lia
theorem dl_eq {r : T} {i : Int} (h0 : 0 ≤ i) (h : i + 1 = (r.length : Int)) : i.toNat + 1 = r.length := by lia
def DecI (r d y : T) (i : Int) : Prop := 0 ≤ i ∧ i ≤ (r.length : Int) ∧ y ++ decR (r.drop i.toNat) = d ++ decR r ∧ y.length ≤ d.length + i.toNat + 1 ∧ (i < (r.length : Int) → y.length ≤ d.length + i.toNat)
namespace DecI
variable {r d y : T} {i : Int}
theorem start : DecI r d d 0 := ⟨Int.le_refl _, Int.natCast_nonneg _, rfl, Nat.le_succ _, fun _ => Nat.le_refl _⟩
variable (hI : DecI r d y i)
include hI
theorem len : y.length ≤ d.length + r.length + 1 := by
  obtain ⟨h0, h1, _, h2, _⟩ := hI; lia
variable (hn : i < (r.length : Int))
include hn
theorem tie1 (z : T) (h : z ++ decR (r.drop (i.toNat + 1)) = d ++ decR r) (hz : z.length ≤ y.length + 2) (hz2 : i + 1 < (r.length : Int) → z.length ≤ y.length + 1) : DecI r d z (i + 1) := by
  obtain ⟨h0, _, _, _, h2⟩ := hI
  have h3 := h2 hn
  refine ⟨by lia, by lia, by rw [tn1 h0]; exact h, by rw [tn1 h0]; lia, fun q => ?_⟩
  have := hz2 q
  rw [tn1 h0]; lia
theorem plainE (hc : r.getD i.toNat 0 ≠ 61) (he : i + 1 = (r.length : Int)) : DecI r d (y ++ [r.getD i.toNat 0] ++ [10]) (i + 1) :=
  tie1 hI hn _ (dl_plain_end (dl_eq hI.1 he) hc hI.2.2.1) (by simp only [List.length_append, List.length_cons, List.length_nil]; exact Nat.le_refl _) (fun q => absurd he (Int.ne_of_lt q))
theorem plain (hc : r.getD i.toNat 0 ≠ 61) (he : i + 1 ≠ (r.length : Int)) : DecI r d (y ++ [r.getD i.toNat 0]) (i + 1) :=
  tie1 hI hn _ (dl_plain (dl_in hI.1 (by lia)) hc hI.2.2.1) (by simp only [List.length_append, List.length_cons, List.length_nil]; lia) (fun _ => by simp only [List.length_append, List.length_cons, List.length_nil]; exact Nat.le_refl _)
theorem soft (hc : r.getD i.toNat 0 = 61) (he : i + 1 = (r.length : Int)) : DecI r d y (i + 1) :=
  tie1 hI hn _ (dl_soft (dl_eq hI.1 he) hc hI.2.2.1) (Nat.le_add_right _ _) (fun _ => Nat.le_add_right _ _)
theorem lone (hc : r.getD i.toNat 0 = 61) (he : i + 1 ≠ (r.length : Int)) (h2 : ¬ i + 2 < (r.length : Int)) : DecI r d (y ++ [r.getD i.toNat 0]) (i + 1) :=
  tie1 hI hn _ (dl_lone2 (by have := hI.1; lia) hc hI.2.2.1) (by simp only [List.length_append, List.length_cons, List.length_nil]; lia) (fun _ => by simp only [List.length_append, List.length_cons, List.length_nil]; exact Nat.le_refl _)
omit hn in
theorem nohex (hc : r.getD i.toNat 0 = 61) (h2 : i + 2 < (r.length : Int)) (hx : isHex (r.getD (i + 1).toNat 0) = false ∨ isHex (r.getD (i + 2).toNat 0) = false) : DecI r d (y ++ [r.getD i.toNat 0]) (i + 1) :=
  tie1 hI (by lia) _ (dl_nohexI hI.1 (by have := hI.1; lia) hc hx hI.2.2.1) (by simp only [List.length_append, List.length_cons, List.length_nil]; lia) (fun _ => by simp only [List.length_append, List.length_cons, List.length_nil]; exact Nat.le_refl _)
omit hn
theorem hexE (hc : r.getD i.toNat 0 = 61) (ha : isHex (r.getD (i + 1).toNat 0) = true) (hb : isHex (r.getD (i + 2).toNat 0) = true) (he : i + 3 = (r.length : Int)) : DecI r d (y ++ [16 * hv (r.getD (i + 1).toNat 0) + hv (r.getD (i + 2).toNat 0)] ++ [10]) (i + 3) := by
  have h := dl_hexE hI.1 he hc ha hb hI.2.2.1
  obtain ⟨h0, _, _, _, h2⟩ := hI
  have h3 := h2 (by lia)
  refine ⟨by lia, by lia, h, ?_, fun q => absurd he (Int.ne_of_lt q)⟩
  rw [tn3 h0]; simp only [List.length_append, List.length_cons, List.length_nil]; lia
theorem hex (hc : r.getD i.toNat 0 = 61) (h2 : i + 2 < (r.length : Int)) (ha : isHex (r.getD (i + 1).toNat 0) = true) (hb : isHex (r.getD (i + 2).toNat 0) = true) (he : i + 3 ≠ (r.length : Int)) : DecI r d (y ++ [16 * hv (r.getD (i + 1).toNat 0) + hv (r.getD (i + 2).toNat 0)]) (i + 3) := by
  have h := dl_hexI hI.1 (by lia) hc ha hb hI.2.2.1
  obtain ⟨h0, _, _, _, h2⟩ := hI
  have h3 := h2 (by lia)
  refine ⟨by lia, by lia, h, ?_, fun q => ?_⟩ <;> (rw [tn3 h0]; simp only [List.length_append, List.length_cons, List.length_nil]; lia)
end DecI
example : True := by
  k_with "subscriptTail Name Slice str ref" => ((with_reducible show wpAny _ _ (subscriptTail _ (PySem.Expr.Slice none _ _ _) _ _) _ _ _); k_dflt ((refine' p_butlast ?zk ?_); (case zk => k_extra "cc")); intros; (try k_sweep))
  k_with "pu" => exact unquote_call2 _ _ _ _ _ (slice3I (by assumption) (by assumption) (is61 (by assumption))) (hex_yes (by assumption)) (hex_yes (by assumption))
  trivial
theorem decode_call (w : World) (x : T) (t : Tok) (hsz : x.length ≤ 100000) (hb : ∀ c ∈ x, Unicode.isLineBreak c = true → c = 10) : Pu w 10 90 204 (fun _ => True) [.str (S x) t] (RStr (decodeL x)) := by
  unfold Pu P0
  k_fill
  intro p loose mean mg mb A base l s Q E B X TT hh hd hu hpre hret
  refine' x_enter B X TT ?_
  intro L' h' F' N'
  (try dsimp only)
  (try k_fold)
  have hls := linesL_sum x
  k_steps
  · rename_i D1 vs1 h1 tk1 hk1 hS1 FN NN l1
    refine' loop_pairs (R := RT) (as := linesL x) (σ := T × Tok) (fun _ => []) (fun c => [(Str.ofString "decoded", .str (S c.1) c.2)]) [Str.ofString "decoded", Str.ofString "i", Str.ofString "n", Str.ofString "c"] (fun pre c => c.1 = (pre.map decLine).flatten ∧ c.1.length ≤ (pre.map List.length).sum + pre.length) [(D1, _)] ([], _) ?zhh ?zhl ?zhr ?zF ?zN ?zk ?zp ?zadr ?zoff ?zturn ?zdone
    case zhh => assumption
    case zhl => exact news_list NN (.head _)
    case zhr => exact paired_of_strs hS1
    case zF => exact FN
    case zN => exact NN
    case zk => kst_all
    case zp => exact ⟨rfl, Nat.le_refl _⟩
    case zadr => intro c; rfl
    case zoff => intro p hp; cases hp
    case zturn =>
      rintro ⟨d, td⟩ pre a post v u h tk own has hR ⟨hd1, hd2⟩ hoff F N QQ1 hQ1
      obtain ⟨ta, rfl⟩ := hR
      have hsm : (pre.map List.length).sum + a.length + pre.length ≤ x.length + 1 := by
        have e1 : ((linesL x).map List.length).sum = (pre.map List.length).sum + (a.length + (post.map List.length).sum) := by rw [has]; simp
        have e2 : (linesL x).length = pre.length + (post.length + 1) := by rw [has]; simp
        lia
      have hrs := rstripP_len Unicode.isSpace a
      dsimp only at hd1 hd2
      dsimp only [envOf, List.nil_append, List.cons_append, kstB] at F N
      (try k_fold)
      k_steps
      all_goals try ((first | (refine hQ1 _ _ ?_; dsimp only [LoopPost])); try k_steps)
      · rename_i FI NI tkI htkI
        generalize hr : rstripP Unicode.isSpace a = r at *
        refine' while_walk (σ := Int × Tok × T × Tok) (fun _ => (D1, listOf vs1.toArray 0) :: own) (fun c => [(Str.ofString "i", .int c.1 c.2.1), (Str.ofString "decoded", .str (S c.2.2.1) c.2.2.2)]) [Str.ofString "i", Str.ofString "decoded", Str.ofString "c"] (fun c => DecI r d c.2.2.1 c.1) (fun c => r.length - c.1.toNat) (0, _, d, _) ?yF ?yN ?yk ?yp ?yturn
        case yF => exact FI
        case yN => exact NI
        case yk => kst_all
        case yp => exact DecI.start
        case yturn =>
          rintro ⟨i, ti, y, ty⟩ u2 h2 tk2 hI F2 N2 QQ2 hQ2
          dsimp only at hI
          have hi0 := hI.1
          have hyl := hI.len
          have hy16 : y.length ≤ 500000 := by lia
          have hr16 : r.length ≤ 500000 := by lia
          dsimp only [envOf, List.nil_append, List.cons_append, kstB] at F2 N2
          (try k_fold)
          k_steps
          all_goals try ((first | (refine hQ2 _ _ ?_; dsimp only [WPost]) | (refine hQ1 _ _ ?_; dsimp only [LoopPost])); try k_steps)
          · exact x_wend (i + 1, _, y ++ [r.getD i.toNat 0] ++ [10], _) (hI.plainE (by assumption) (ne61 (by assumption)) (by assumption)) (meas1 hi0 (by assumption))
          · exact x_wend (i + 1, _, y ++ [r.getD i.toNat 0], _) (hI.plain (by assumption) (ne61 (by assumption)) (by assumption)) (meas1 hi0 (by assumption))
          · exact x_wend (i + 1, _, y, ty) (hI.soft (by assumption) (is61 (by assumption)) (by assumption)) (meas1 hi0 (by assumption))
          · exact absurd (by assumption) (no2 (by assumption))
          · exact x_wend (i + 1, _, y ++ [r.getD i.toNat 0], _) (hI.nohex (is61 (by assumption)) (by assumption) (.inl (hex_no (by assumption)))) (meas1 hi0 (by assumption))
          · exact absurd (by assumption) (no2 (by assumption))
          · exact x_wend (i + 1, _, y ++ [r.getD i.toNat 0], _) (hI.nohex (is61 (by assumption)) (by assumption) (.inr (hex_no (by assumption)))) (meas1 hi0 (by assumption))
          · exact x_wend (i + 3, _, y ++ [16 * hv (r.getD (i + 1).toNat 0) + hv (r.getD (i + 2).toNat 0)] ++ [10], _) (hI.hexE (is61 (by assumption)) (hex_yes (by assumption)) (hex_yes (by assumption)) (by assumption)) (meas3 hi0 (by assumption))
          · exact x_wend (i + 3, _, y ++ [16 * hv (r.getD (i + 1).toNat 0) + hv (r.getD (i + 2).toNat 0)], _) (hI.hex (is61 (by assumption)) (by assumption) (hex_yes (by assumption)) (hex_yes (by assumption)) (by assumption)) (meas3 hi0 (by assumption))
          · contradiction
          · exact x_wend (i + 1, _, y ++ [r.getD i.toNat 0], _) (hI.lone (by assumption) (is61 (by assumption)) (by assumption) (by assumption)) (meas1 hi0 (by assumption))
          · refine x_end (y, ty) ?_
            exact ⟨by rw [List.map_append, List.flatten_append, ← hd1]; simp only [List.map_cons, List.map_nil, List.flatten_cons, List.flatten_nil, List.append_nil]; rw [decLine_ne (by rw [hr]; assumption), hr]; exact dl_done (by assumption) hI.2.2.1, by simp only [List.map_append, List.sum_append, List.map_cons, List.map_nil, List.sum_cons, List.sum_nil, List.length_append, List.length_cons, List.length_nil]; lia⟩
      · refine x_end (d ++ [10], _) ?_
        exact ⟨by rw [List.map_append, List.flatten_append, ← hd1]; simp only [List.map_cons, List.map_nil, List.flatten_cons, List.flatten_nil, List.append_nil]; rw [decLine_nil (by assumption)], by simp only [List.map_append, List.sum_append, List.map_cons, List.map_nil, List.sum_cons, List.sum_nil, List.length_append, List.length_cons, List.length_nil]; lia⟩
    case zdone =>
      rintro ⟨d, td⟩ u h tk ⟨hd1, hd2⟩ F N
      dsimp only at hd1 hd2
      dsimp only [envOf, List.nil_append, List.cons_append] at F N
      (try k_fold)
      k_steps
      · refine hret _ _ _ (Fr.keep (by assumption)) (RStr.of ?_)
        rw [dec_fin1 (by assumption) hd1 (by assumption) (by assumption)]
      · refine hret _ _ _ (Fr.keep (by assumption)) (RStr.of ?_)
        rw [dec_fin2 (by assumption) hd1 (by assumption)]
      · refine hret _ _ _ (Fr.keep (by assumption)) (RStr.of ?_)
        rw [dec_fin3 (by assumption) hb hd1 (by assumption)]
  · rename (¬ x ≠ []) => hx0
    exact hret _ _ _ (Fr.keep (by assumption)) (RStr.of (by unfold decodeL; rw [if_pos (Decidable.not_not.mp hx0), Decidable.not_not.mp hx0]))
end
section
example : True := by
  k_with_none
  k_with "om" => first | assumption | exact Nat.le_add_left 1 _ | exact Int.add_nonneg (by assumption) (by decide) | exact tn1 (by assumption) | exact tn2 (by assumption) | exact tn3 (by assumption) | exact meas1 (by assumption) (by assumption) | exact meas3 (by assumption) (by assumption) | exact tlt1 (by assumption) (by assumption) | exact Nat.le_trans (by assumption) (by decide) | exact Nat.le_trans (Nat.add_le_add_right (by assumption) _) (by decide) | lia
  k_with "omd" => first | decide | k_extra "om"
  k_with "oml" => first | k_extra "om" | (simp only [List.length_append, List.length_map, List.length_drop, List.length_dropLast, List.length_cons, List.length_nil]; k_extra "om")
  k_with "ne" => (refine neN ?_; (try dsimp only); first | assumption | exact neLt (by assumption) (by k_mem) | exact neGt (by assumption) (by k_mem) | exact neOf (by assumption) (by k_mem) | exact neOf' (by assumption) (by k_mem) | lia)
  k_with "room" => first | exact room_of (by assumption) (by decide) | exact room_0 (by assumption)
  k_with "units" => exact room_of (by assumption) (by decide)
  k_with "ite" => with_reducible first | refine ite_tt ?_ | refine ite_ff ?_
  k_with "eval Name" => ((with_reducible show wpAny _ _ (eval (Expr.Name _ _) (envOf _ _ _ _ _)) _ _ _); first | (name_kind "local"; with_reducible refine' n_loc ?_) | (name_kind "globalImplicit"; with_reducible first | refine' n_glo ?_ | refine' n_boo ?_))
  k_with "loadName" => with_reducible refine' n_load ?_
  k_with "storeName" => (with_reducible refine' n_store ?_; intros; (try k_sweep))
  k_with "callWith" => with_reducible first | refine callWith_method0 ?_ | refine' n_cw0 ?_ | refine' n_cw1 ?_ | ((show wpAny _ _ (callWith _ (Value.builtin _) _ _ []) _ _ _); refine' n_cw ?_)
  k_with "callWith ref" => ((with_reducible show wpAny _ _ (callWith _ _ _ (backTo _ (starEach (_ :: _) _)) []) _ _ _); with_reducible refine' n_cwK ?_)
  k_with "eval Call" => with_reducible refine' n_call ?_
  k_with "eval Call Attribute" => with_reducible refine' n_mcall ?_
  k_with "exec Assign" => ((with_reducible show wpAny _ _ (exec (Stmt.Assign [Expr.Name _ _] _ _) _) _ _ _); with_reducible refine' n_asg ?_)
  k_with "exec If" => with_reducible refine wpAny_If ?_
  k_with "spliced" => ((with_reducible show wpAny _ _ (spliced (backTo _ (starEach (_ :: _) _))) _ _ _); with_reducible refine' n_acons ?_)
  k_with "newList" => (with_reducible refine' n_newl ?_; intros; (try k_sweep))
  k_with "eval BinOp" => with_reducible refine wpAny_BinOp ?_
  k_with "execs cons" => with_reducible first | (refine toks_cons ?_; intros) | refine wpAny_execs_cons ?_
  k_with "execs nil" => with_reducible refine wpAny_execs_nil ?_
  k_with "isTrue Name" => with_reducible refine' n_true ?_
  k_with "isTrue Call" => with_reducible refine' n_true ?_
  k_with "isTrue Compare" => ((with_reducible show wpAny _ _ (isTrue (PySem.Expr.Compare _ [_] [_] _) _ _) _ _ _); with_reducible refine wpAny_isTrue_Compare1 ?_)
  k_with "isTrue BoolOp" => with_reducible first | refine isTrue_and_nil ?_ | refine isTrue_or_nil ?_ | refine isTrue_and ?_ | refine isTrue_or ?_
  k_with "isTrue UnaryOp" => with_reducible refine isTrue_not ?_
  k_with "eval UnaryOp" => with_reducible refine UnaryOp_ ?_
  k_with "unaryOp USub int" => with_reducible refine n_neg ?_
  k_with "eval Subscript" => with_reducible refine Subscript_ ?_
  k_with "eval Slice" => with_reducible refine wpAny_Slice ?_
  k_with "evalPart some" => with_reducible refine evalPart_some_step ?_
  k_with "evalPart none" => with_reducible refine evalPart_none_step ?_
  k_with "exec AugAssign" => with_reducible refine wpAny_AugAssign_Name ?_
  k_with "exec Return some" => with_reducible refine wpAny_Return_some ?_
  k_with "exec Continue" => with_reducible refine wpAny_Continue ?_
  k_with "eval Constant str" => with_reducible refine n_str ?_
  k_with "eval Constant int" => with_reducible refine n_int ?_
  k_with "compareOp Eq str str" => with_reducible refine PyProof.Rows.eq_str ?_
  k_with "compareOp NotEq str str" => with_reducible refine PyProof.Rows.ne_str ?_
  k_with "inplaceOp Add int int" => with_reducible refine n_iaddi ?_
  k_with "binaryOp Add int int" => with_reducible refine n_addi ?_
  k_with "binaryOp Sub int int" => with_reducible refine n_subi ?_
  k_with "eval Tuple" => with_reducible refine Tuple_ ?_
  k_with "eval List" => with_reducible refine List_ ?_
  k_with "assign Name" => with_reducible refine PyProof.Rows.assign_Name ?_
  k_with "truthy bool" => with_reducible refine wpAny_truthy_bool ?_
  k_with "es" => with_reducible first | exact rfl | exact eS47 | exact eS61 | exact eS10 | exact eS46 | exact eSdd | exact eS32 | exact eS9 | exact eS0 | exact (S_of _).symm
  k_with "ls" => first | exact news_list (by k_asm) (by k_mem) | exact fr_list (by k_asm) (by k_asm)
  k_with "ss" => first | assumption | exact strs1 _ _
  k_with "nn" => first | assumption | exact splitL_ne _ _
  k_with "kp" => first | exact True.intro | ((try dsimp only); first | k_extra "ls" | assumption | k_extra "oml")
  k_with "c" => first | with_reducible assumption | ((with_reducible show StrsAre _ _); k_extra "ss") | ((with_reducible show Heap.IsList _ _ _); k_extra "ls") | ((with_reducible show plainIx _ = true); exact rfl) | ((with_reducible show _ = S _); k_extra "es") | ((with_reducible show _ ≠ _); k_extra "nn") | ((with_reducible show 0 ≤ _); k_extra "omd") | k_extra "oml"
  k_with "cc" => first | ((with_reducible refine And.intro ?za ?zb); (case za => k_extra "c"); (case zb => k_extra "cc")) | k_extra "c"
  k_with "pyIter ref" => with_reducible refine AtIter.on ?_
  k_with "call ref" => ((with_reducible refine' x_use (by k_dflt k_extra "pu") ?_); (with_reducible first | refine useE ?_ | refine useS ?_ | refine useI ?_ | refine useT3 (by assumption) (by assumption) ?_ | refine useT2 (by assumption) (by assumption) ?_ | refine useL (by assumption) (by assumption) ?_ | refine useT (by assumption) (by assumption) ?_); intros; (try k_sweep); (try k_fold))
  k_with "subscriptTail" => k_dflt ((first | ((with_reducible refine' p_butlast ?zk ?_); (case zk => k_extra "cc")) | ((with_reducible refine' p_to ?zk ?_); (case zk => k_extra "cc")) | ((with_reducible refine' p_last ?zk ?_); (case zk => k_extra "cc")) | ((with_reducible refine' p_from ?zk ?_); (case zk => k_extra "cc")) | ((with_reducible refine' p_midback ?zk ?_); (case zk => k_extra "cc")) | ((with_reducible refine' p_mid ?zk ?_); (case zk => k_extra "cc")) | ((with_reducible refine' q_rev ?zk ?_); (case zk => k_extra "cc")) | ((with_reducible refine' q_back ?zk ?_); (case zk => k_extra "cc")) | ((with_reducible refine' q_midback ?zk ?_); (case zk => k_extra "cc")) | ((with_reducible refine' i_slast ?zk ?_); (case zk => k_extra "cc")) | ((with_reducible refine' i_sat ?zk ?_); (case zk => k_extra "cc")) | ((with_reducible refine' i_last ?zk ?_); (case zk => k_extra "cc")) | ((with_reducible refine' i_nat ?zk ?_); (case zk => k_extra "cc"))); intros; (try k_sweep))
  k_with "call builtin:str.split" => (with_reducible refine' x_split ?_; intros; (try k_sweep))
  k_with "call builtin:str.splitlines" => (with_reducible refine' x_lines ?_; intros; (try k_sweep))
  k_with "call builtin:str.join" => (with_reducible refine' x_join ?_; intros)
  k_with "binaryOp Add str str" => (with_reducible refine' x_add ?_; intros)
  k_with "inplaceOp Add str str" => (with_reducible refine' x_iadd ?_; intros)
  k_with "call builtin:len" => with_reducible first | ((show wpAny _ _ (call _ [Value.str _ _]) _ _ _); refine' x_len ?_; intros) | (refine' x_llen ?_; intros)
  k_with "call builtin:str.rstrip" => with_reducible first | ((show wpAny _ _ (call _ [_]) _ _ _); refine' x_rstrip ?_; intros) | (refine' x_rstripc ?_; intros)
  k_with "call builtin:str.lstrip" => (with_reducible refine' x_lstripc ?_; intros)
  k_with "call builtin:chr" => (with_reducible refine' x_chr ?_; intros)
  k_with "call builtin:str.replace" => (with_reducible refine' x_replace ?_; intros)
  k_with "call builtin:min" => (with_reducible refine' x_min ?_; intros; (try k_sweep))
  k_with "call builtin:list.pop" => (with_reducible refine' x_pop ?_; intros; (try k_sweep))
  k_with "call builtin:list.append" => (with_reducible refine' x_append ?_; intros; (try k_sweep))
  k_with "setItem ref int" => (with_reducible refine' x_setlast ?_; intros; (try k_sweep))
  k_with "binaryOp Add ref ref" => (with_reducible refine' x_ladd ?_; intros; (try k_sweep))
  k_with "binaryOp Mult str int" => (with_reducible refine' x_smul ?_; intros)
  k_with "binaryOp Mult ref int" => (with_reducible refine' x_lmul ?_; intros; (try k_sweep))
  k_with "truthy ref" => (with_reducible refine' x_truthyL ?_; intros)
  k_with "truthy str" => (with_reducible refine' x_truthyS ?_; intros)
  k_with "assign Tuple" => (with_reducible refine' x_unpack ?_; intros)
  k_with "exec For" => with_reducible refine' x_for ?_
  k_with "sub" => first | (with_reducible exact sub_nil) | ((with_reducible refine sub_cons ?zh ?_); (case zh => k_mem); k_extra "sub") | (with_reducible exact (fun _ hp => hp)) | ((with_reducible refine sub_tail ?_); k_extra "sub")
  k_with "fz" => repeat' (first | (with_reducible exact same_u) | (with_reducible exact same_refl) | ((with_reducible refine same_if ?zh ?_); (case zh => k_mem)) | ((with_reducible refine same_st ?zh ?_); (case zh => k_mem)) | ((with_reducible refine same_kcons ?zh ?_); (case zh => k_mem)) | (with_reducible refine same_knil ?_) | ((with_reducible refine same_ins ?zh ?_); (case zh => k_extra "sub")) | exact same_refl)
  k_with "src" => refine' x_list
  k_with "CompInG" => with_reducible refine' x_src ?_ ?_ ?_
  k_with "TestG" => k_dflt (first | exact test_none | (refine test_RT ?_; intros))
  k_with "EltG" => k_dflt (refine elt_RT ?_; intros)
  k_with "FinG" => k_dflt ((first | refine fin_tt ?_ | refine fin_id ?_ | refine fin_g ?_); intros)
  k_with "exec While" => with_reducible refine AtWhile.on ?_
  trivial
noncomputable def RCost (c : Nat) (v : Value) : Prop := ∃ t : Tok, v = .int (cost c) t
theorem ints_of_costs : ∀ {x : T} {vs : List Value}, Paired RCost x vs → IntsAre vs (x.map cost)
  | _, _, .nil => .nil
  | _, _, .cons h r => by
    obtain ⟨t, rfl⟩ := h
    exact .cons _ t (ints_of_costs r)
section
variable {prog : Program} {w : World} {A : Around} {E : Value → Shared → Prop} {s : Shared} {h₀ : Heap} {L : Addr} {m : Str → Option Value} {news : List (Addr × Obj)} {Q : Value → Shared → Prop}
theorem src_strS {x : T} {t : Tok} (hh : A.handled = none) : SrcOk prog w A RS x (.str (S x) t) s := by
  have h := src_str (prog := prog) (w := w) (s := s) (x := S x) (t := t) hh
  rw [show tl (S x) = x from S_cps x] at h
  exact h
theorem q_costs {value : PySem.Expr} {lo up : Option PySem.Expr} {ps : Pos} {l : Addr} {vs : List Value} {x : T} {b : Nat} {ub : Tok} {hp : Heap} {gs : Array GenState} {dr : Drawn} {tk : Nat} {os : OsState} (k : Fr h₀ L hp m ∧ News h₀ L hp news ∧ hp.IsList l vs.toArray ∧ IntsAre vs (x.map cost) ∧ x.length ≤ 16000000)
    (h : ∀ D h', IntsAre (vs.drop b) ((x.drop b).map cost) → Fr h₀ L h' m → News h₀ L h' ((D, listOf (List.toArray (vs.drop b)) 0) :: news) → (∀ p ∈ news, p.1 < D) → Q (.ref D) ⟨h', gs, dr, tk, os⟩) :
    wpAny (model prog w) A (subscriptTail value (.Slice lo up none ps) (.ref l) (.ref hp.objs.size)) Q E ⟨hp.push { cls := .type "slice", data := .fields #[.int (b : Int) ub, .none, .none] }, gs, dr, tk, os⟩ := by
  obtain ⟨F, N, hl, hi, hsz⟩ := k
  have hn := hi.length
  rw [List.length_map] at hn
  refine turn (kms_slice_lit (s := ⟨hp, gs, dr, tk, os⟩) F N hl (.int (b : Int) ub) .none ?_ (fun D h' F' N' l1 => h D h' (by rw [List.map_drop]; exact hi.drop _) F' N' l1) rfl (fun _ => rfl) (by rw [List.size_toArray, hn]; exact Nat.le_trans hsz (by decide)))
  unfold kms_pick kms_lo kms_hi
  have e1 : vs.toArray.toList = vs := by simp
  rw [e1]
  simp only
  rw [if_neg (by lia), Int.toNat_natCast]
  by_cases hk : b ≤ vs.length
  · rw [Nat.min_eq_left hk, List.take_of_length_le (by rw [List.length_drop]; exact Nat.le_refl _)]
  · rw [Nat.min_eq_right (by lia), List.drop_length, List.drop_eq_nil_of_le (by lia), List.take_nil]
theorem i_costs {value slice : PySem.Expr} {a : Addr} {vs : List Value} {x : T} {b : Nat} {u : Tok} {hp : Heap} {gs : Array GenState} {dr : Drawn} {tk : Nat} {os : OsState} (k : hp.IsList a vs.toArray ∧ IntsAre vs (x.map cost) ∧ b < x.length ∧ x.length ≤ 16000000 ∧ plainIx slice = true)
    (h : ∀ t, Q (.int (cost (x.getD b 0)) t) ⟨hp, gs, dr, tk, os⟩) : wpAny (model prog w) A (subscriptTail value slice (.ref a) (.int (b : Int) u)) Q E ⟨hp, gs, dr, tk, os⟩ := by
  obtain ⟨hl, hi, hk, hsz, hs⟩ := k
  have hx : (x.map cost)[b]? = some (cost (x.getD b 0)) := by
    rw [List.getElem?_map, List.getD_eq_getElem?_getD, List.getElem?_eq_getElem hk]; rfl
  obtain ⟨t, ht⟩ := hi.get _ _ hx
  exact turn (item_listL hl (by lia) (by lia) (by rw [Int.toNat_natCast]; exact ht) (h t) (sub_plain hs _ _) (fun _ => rfl))
theorem x_sumC {l : Addr} {vs : List Value} {y : T} {hp : Heap} {gs : Array GenState} {dr : Drawn} {tk : Nat} {os : OsState} (h : ∀ h' tk' t', Fr h₀ L h' m → News h₀ L h' news → Q (.int (costs y) t') ⟨h', gs, dr, tk', os⟩)
    (hh : A.handled = none := by k_dflt (assumption)) (F : Fr h₀ L hp m := by k_dflt (k_asm)) (N : News h₀ L hp news := by k_dflt (k_asm)) (hl : hp.IsList l vs.toArray := by k_dflt (k_extra "ls")) (hi : IntsAre vs (y.map cost) := by k_dflt (assumption)) :
    wpAny (model prog w) A (call (.builtin "sum") [.ref l]) Q E ⟨hp, gs, dr, tk, os⟩ :=
  sumK (s := ⟨hp, gs, dr, tk, os⟩) hh F N hl hi (fun h' tk' t' F' N' => by
    have := h h' tk' t' F' N'
    unfold costs at this
    exact this)
theorem elt_RS {as : T} {y : Str} {tk : Nat} {ev : Addr → Env} {elt : PySem.Expr} {pz : Nat → Bool} {G : Nat → Value → Prop}
    (h : ∀ C a t s₂ m₂ E', a ∈ as → pz a = true → s₂.heap.Ns C m₂ → m₂ y = some (.str ⟨#[a]⟩ t) → Fr h₀ L s₂.heap m → News h₀ L s₂.heap news → tk ≤ s₂.toks →
      wpAny (model prog w) A (eval elt (ev C)) (fun y s₃ => G a y ∧ Keeps s₂ s₃) E' s₂) :
    EltG (∀ C a v s₂ m₂ E', a ∈ as → RS a v → pz a = true → s₂.heap.Ns C m₂ → m₂ y = some v → Fr h₀ L s₂.heap m → News h₀ L s₂.heap news → tk ≤ s₂.toks →
      wpAny (model prog w) A (eval elt (ev C)) (fun y s₃ => G a y ∧ Keeps s₂ s₃) E' s₂) := by
  rintro C a v s₂ m₂ E' ha ⟨t, rfl⟩ hz hC hx F N hk
  exact h C a t s₂ m₂ E' ha hz hC hx F N hk
theorem fin_cost {as : T} {P : Addr → List Value → Nat → Heap → Nat → Prop} {mm : Addr → Str → Option Value} (h : ∀ D ys n h' tk, IntsAre ys (as.map cost) → Fr h₀ L h' (mm D) → News h₀ L h' ((D, listOf ys.toArray n) :: news) → (∀ p ∈ news, @Ne Nat p.1 D) → P D ys n h' tk) :
    FinG (∀ D (ys : List Value) n h' tk, Paired RCost (as.filter fun _ => true) ys → Fr h₀ L h' (mm D) → News h₀ L h' ((D, listOf ys.toArray n) :: news) → (∀ p ∈ news, @Ne Nat p.1 D) → P D ys n h' tk) :=
  fun D ys n h' tk hp F N hne => h D ys n h' tk (by rw [filter_tt] at hp; exact ints_of_costs hp) F N hne
end
theorem strs_snoc0 {us : List Value} {R : List T} {t : Tok} (h : StrsAre us (R.map S)) : StrsAre (us ++ [.str (Str.ofString "") t]) ((R ++ [[]]).map S) := by rw [eS0]; exact strs_snoc h
theorem strs_set {us : List Value} {R : List T} {y : T} {t : Tok} (h : StrsAre us (R.map S)) : StrsAre (us.dropLast ++ [.str (S y) t]) ((R.dropLast ++ [y]).map S) := by rw [List.map_append, List.map_dropLast]; exact (strs_dropLast h).append' (.cons _ _ .nil)
theorem isb {x : T} {c : Nat} {y : Str} (hy : y = S [c]) (h : (S (x.drop (x.length - 1)) == y) = true) : x.getLast? = some c := by
  rw [hy, S_beq, beq_iff_eq] at h; exact (tail_one x c).mp h
theorem isnb {x : T} {c : Nat} {y : Str} (hy : y = S [c]) (h : (S (x.drop (x.length - 1)) == y) = false) : x.getLast? ≠ some c := by
  rw [hy, S_beq, beq_eq_false_iff_ne] at h; exact fun e => h ((tail_one x c).mpr e)
theorem chr_rule2 {prog : Program} {w : World} {A : Around} {E : Value → Shared → Prop} {Q : Value → Shared → Prop} {x : T} {t : Tok} {hp : Heap} {gs : Array GenState} {dr : Drawn} {tk : Nat} {os : OsState} (hx : x.getLast? = some 32 ∨ x.getLast? = some 9) (h : Q (.str (S [256 + x.getLastD 0]) tk) ⟨hp, gs, dr, tk + 1, os⟩) : wpAny (model prog w) A (call (.builtin "chr") [.int (256 + ((x.getLastD 0 : Nat) : Int)) t]) Q E ⟨hp, gs, dr, tk, os⟩ := by
  have e : x.getLastD 0 = 32 ∨ x.getLastD 0 = 9 := by rw [List.getLastD_eq_getLast?]; rcases hx with h | h <;> rw [h] <;> simp
  refine chr_rule (by lia) (by lia) ?_
  have e2 : (256 + ((x.getLastD 0 : Nat) : Int)).toNat = 256 + x.getLastD 0 := by lia
  rw [e2]; exact h
theorem ne_last {x : T} (h : x.getLast? = some 32 ∨ x.getLast? = some 9) : x ≠ [] := by rintro rfl; rcases h with h | h <;> cases h
theorem ne_snoc {α : Type} {x : List α} {y : α} : x ++ [y] ≠ [] := by simp
section
variable {wd : Int} {x : T} {R : List T} {b : Nat}
theorem mk_A (hO : Outer wd x R b) (h : ¬ wd < costs (x.drop b)) (h1 : ¬ (x.getLast? = some 32 ∨ x.getLast? = some 9)) : joinL [10] (R ++ [x.drop b]) = markedL wd x := by rw [hO.stop h, tailM_no (fun e => h1 (.inl e)) (fun e => h1 (.inr e))]
theorem mk_B (hO : Outer wd x R b) (h : ¬ wd < costs (x.drop b)) (h1 : x.getLast? = some 32 ∨ x.getLast? = some 9) (h2 : wd - costs (x.drop b) > 1) : joinL [10] ((R ++ [x.drop b]).dropLast ++ [x.dropLast.drop b ++ [256 + x.getLastD 0]]) = markedL wd x := by rw [hO.stop h, tailM_1 h1 h2, List.dropLast_concat, drop_dropLast]
theorem mk_C (hO : Outer wd x R b) (h : ¬ wd < costs (x.drop b)) (h1 : x.getLast? = some 32 ∨ x.getLast? = some 9) (h2 : wd - costs (x.drop b) = 1) : joinL [10] (R ++ [x.drop b] ++ [[]]) = markedL wd x := by rw [hO.stop h, tailM_2 h1 h2, List.append_assoc]; rfl
theorem mk_D (hO : Outer wd x R b) (h : ¬ wd < costs (x.drop b)) (h1 : x.getLast? = some 32 ∨ x.getLast? = some 9) (h2 : ¬ wd - costs (x.drop b) > 1) (h3 : wd - costs (x.drop b) ≠ 1) : joinL [10] ((R ++ [x.drop b]).dropLast ++ [x.dropLast.drop b] ++ [[256 + x.getLastD 0]]) = markedL wd x := by rw [hO.stop h, tailM_3 h1 h2 h3, List.dropLast_concat, drop_dropLast, List.append_assoc]; rfl
end
example : True := by
  k_with "src" => refine' src_strS (by assumption)
  k_with "EltG" => k_dflt (refine elt_RS ?_; intros)
  k_with "FinG" => k_dflt (refine fin_cost ?_; intros)
  k_with "exec Assign cons ListComp" => ((with_reducible show wpAny _ _ (exec (Stmt.Assign [Expr.Name (Str.ofString "costs") _] (Expr.ListComp _ _ _ _) _) _) _ _ _); k_dflt refine' x_compA (R := RS) (G := RCost) (pz := fun _ => true) RS_inj ?_)
  k_with "call builtin:sum" => (with_reducible refine' x_sumC ?_; intros)
  k_with "subscriptTail" => k_dflt ((first | ((with_reducible refine' q_costs ?zk ?_); (case zk => k_extra "cc")) | ((with_reducible refine' i_costs ?zk ?_); (case zk => k_extra "cc"))); intros; (try k_sweep))
  k_with "call builtin:chr" => ((with_reducible refine' chr_rule2 ?k1 ?_); (case k1 => assumption))
  k_with "nn" => first | exact ne_last (by assumption) | exact ne_snoc
  k_with "isTrue BoolOp Or" => ((with_reducible show wpAny _ _ (isTrue (PySem.Expr.BoolOp _ [_, _] _) _ _) _ _ _); with_reducible refine AtIter.on ?_)
  k_with "ss" => first | (with_reducible assumption) | ((with_reducible refine' strs_snoc ?h); (case h => k_extra "ss")) | ((with_reducible refine' strs_snoc0 ?h); (case h => k_extra "ss")) | ((with_reducible refine' strs_set ?h); (case h => k_extra "ss"))
  k_with "oml" => (simp only [List.dropLast_concat, List.map_append, List.sum_append, List.map_cons, List.map_nil, List.sum_cons, List.sum_nil, List.length_append, List.length_cons, List.length_nil, List.length_drop, List.length_dropLast]; lia)
  k_with "pu" => exact cost_call _ _ _
  trivial
set_option maxHeartbeats 8000000 in
theorem marked_call (w : World) (x : T) (t : Tok) (wd : Int) (tw : Tok) (hw : 4 ≤ wd) (hw2 : wd ≤ 100) (hsz : x.length ≤ 1000) : Pu w 8 90 223 (fun _ => True) [.str (S x) t, .int wd tw] (RStr (markedL wd x)) := by
  unfold Pu P0
  k_fill
  intro p loose mean mg mb A base l s Q E B X TT hh hd hu hpre hret
  refine' x_enter B X TT ?_
  intro L' h' F' N'
  (try dsimp only)
  (try k_fold)
  have hcp := costs_pos x
  k_steps
  · exact ⟨_, rfl⟩
  · exact ⟨_, _, rfl, by assumption⟩
  · rename_i D9 ys9 n9 h9 tk9 hI9 hne9 lr h2 lA h1 tka htka hO FO NO tkO htkO
    refine' while_walk (σ := Nat × Tok × List T × List Value × Nat) (fun c => [(lr, listOf c.2.2.2.1.toArray c.2.2.2.2), (D9, listOf ys9.toArray n9)]) (fun c => [(Str.ofString "k", .int (c.1 : Int) c.2.1)]) [Str.ofString "k", Str.ofString "room", Str.ofString "begin"] (fun c => Outer wd x c.2.2.1 c.1 ∧ StrsAre c.2.2.2.1 (c.2.2.1.map S)) (fun c => x.length - c.1) (0, _, [], [], _) ?yF ?yN ?yk ?yp ?yturn
    case yF => exact FO
    case yN => exact NO
    case yk => kst_all
    case yp => exact ⟨Outer.start wd x, .nil⟩
    case yturn =>
      rintro ⟨b, tb, R, us, n⟩ u2 h2 tk2 ⟨hO, hus⟩ F2 N2 QQ2 hQ2
      have hul : us.length = R.length := by rw [hus.len_eq, List.length_map]
      have hcd := costs_pos (x.drop b)
      have hcl : (x.drop b).length = x.length - b := List.length_drop
      dsimp only at hO hus
      have hkl := hO.kl
      have hol := hO.len
      have hos := hO.sum
      dsimp only [envOf, List.nil_append, List.cons_append, kstB] at F2 N2
      (try k_fold)
      k_steps
      all_goals try ((first | (refine hQ2 _ _ ?_; dsimp only [WPost])); try k_steps)
      · rename_i D3 h3 hI3 l3 h4 k4 t4 hlt h5 k5 hk5 h6 FI NI tkI htkI
        refine' while_walk (σ := Nat × Tok × Int × Tok) (fun _ => [(lr, listOf us.toArray n), (D9, listOf ys9.toArray n9)]) (fun c => [(Str.ofString "k", .int (c.1 : Int) c.2.1), (Str.ofString "room", .int c.2.2.1 c.2.2.2)]) [Str.ofString "k", Str.ofString "room"] (fun c => Inner wd x b c.1 c.2.2.1) (fun c => x.length - c.1) (b, tb, wd - 1, _) ?xF ?xN ?xk ?xp ?xturn
        case xF => exact FI
        case xN => exact fun p hp => NI p (.tail _ hp)
        case xk => kst_all
        case xp => exact Inner.start hw hkl hlt
        case xturn =>
          rintro ⟨k, tk1, room, tr⟩ u3 h3 tk3 hI F3 N3 QQ3 hQ3
          dsimp only at hI
          have hklt := hI.klt
          have hrl := hI.lo
          have hrh := hI.hi
          have hca := cost_any (x.getD k 0)
          dsimp only [envOf, List.nil_append, List.cons_append, kstB] at F3 N3
          (try k_fold)
          k_steps
          all_goals try ((first | (refine hQ3 _ _ ?_; dsimp only [WPost]) | (refine hQ2 _ _ ?_; dsimp only [WPost])); try k_steps)
          · exact x_wend (k + 1, _, room - cost (x.getD k 0), _) (hI.step (by assumption)) (by dsimp only; lia)
          · have hst := hO.step hw hlt hI (by assumption)
            have hbk := hst.2
            refine x_wend (k, tk1, R ++ [(x.take k).drop b], us ++ [.str (S ((x.take k).drop b)) _], n + 1) ?_ ?_
            · exact ⟨hst.1, strs_snoc hus⟩
            · dsimp only; lia
      · refine x_joinB (x.getLast? = some 32 ∨ x.getLast? = some 9) (by assumption) (by assumption) ?jB ?jT ?jF
        case jB =>
          refine isTrue_or ?_
          k_steps
          · exact JoinB.yes (.inl (isb eS32 (by assumption))) (by assumption) (by assumption)
          · exact JoinB.yes (.inr (isb eS9 (by assumption))) (by assumption) (by assumption)
          · exact JoinB.no (fun q => q.elim (isnb eS32 (by assumption)) (isnb eS9 (by assumption))) (by assumption) (by assumption)
        case jT =>
          intro hbl hJ tkJ FJ NJ
          refine ite_tt ?_
          k_steps
          · exact hret _ _ _ (Fr.keep (by assumption)) (RStr.of (congrArg S (mk_B hO (by assumption) hbl (by assumption))))
          · exact hret _ _ _ (Fr.keep (by assumption)) (RStr.of (congrArg S (mk_C hO (by assumption) hbl (by assumption))))
          · exact hret _ _ _ (Fr.keep (by assumption)) (RStr.of (congrArg S (mk_D hO (by assumption) hbl (by assumption) (by assumption))))
        case jF =>
          intro hbl hJ tkJ FJ NJ
          refine ite_ff ?_
          k_steps
          exact hret _ _ _ (Fr.keep (by assumption)) (RStr.of (congrArg S (mk_A hO (by assumption) hbl)))
end
section
example : True := by
  k_with_none
  k_with "om" => first | assumption | exact Nat.le_add_left 1 _ | exact Int.add_nonneg (by assumption) (by decide) | exact tn1 (by assumption) | exact tn2 (by assumption) | exact tn3 (by assumption) | exact meas1 (by assumption) (by assumption) | exact meas3 (by assumption) (by assumption) | exact tlt1 (by assumption) (by assumption) | exact Nat.le_trans (by assumption) (by decide) | exact Nat.le_trans (Nat.add_le_add_right (by assumption) _) (by decide) | lia
  k_with "omd" => first | decide | k_extra "om"
  k_with "oml" => first | k_extra "om" | (simp only [List.length_append, List.length_map, List.length_drop, List.length_dropLast, List.length_cons, List.length_nil]; k_extra "om")
  k_with "ne" => (refine neN ?_; (try dsimp only); first | assumption | exact neLt (by assumption) (by k_mem) | exact neGt (by assumption) (by k_mem) | exact neOf (by assumption) (by k_mem) | exact neOf' (by assumption) (by k_mem) | lia)
  k_with "room" => first | exact room_of (by assumption) (by decide) | exact room_0 (by assumption)
  k_with "units" => exact room_of (by assumption) (by decide)
  k_with "ite" => with_reducible first | refine ite_tt ?_ | refine ite_ff ?_
  k_with "eval Name" => ((with_reducible show wpAny _ _ (eval (Expr.Name _ _) (envOf _ _ _ _ _)) _ _ _); first | (name_kind "local"; with_reducible refine' n_loc ?_) | (name_kind "globalImplicit"; with_reducible first | refine' n_glo ?_ | refine' n_boo ?_))
  k_with "loadName" => with_reducible refine' n_load ?_
  k_with "storeName" => (with_reducible refine' n_store ?_; intros; (try k_sweep))
  k_with "callWith" => with_reducible first | refine callWith_method0 ?_ | refine' n_cw0 ?_ | refine' n_cw1 ?_ | ((show wpAny _ _ (callWith _ (Value.builtin _) _ _ []) _ _ _); refine' n_cw ?_)
  k_with "callWith ref" => ((with_reducible show wpAny _ _ (callWith _ _ _ (backTo _ (starEach (_ :: _) _)) []) _ _ _); with_reducible refine' n_cwK ?_)
  k_with "eval Call" => with_reducible refine' n_call ?_
  k_with "eval Call Attribute" => with_reducible refine' n_mcall ?_
  k_with "exec Assign" => ((with_reducible show wpAny _ _ (exec (Stmt.Assign [Expr.Name _ _] _ _) _) _ _ _); with_reducible refine' n_asg ?_)
  k_with "exec If" => with_reducible refine wpAny_If ?_
  k_with "spliced" => ((with_reducible show wpAny _ _ (spliced (backTo _ (starEach (_ :: _) _))) _ _ _); with_reducible refine' n_acons ?_)
  k_with "newList" => (with_reducible refine' n_newl ?_; intros; (try k_sweep))
  k_with "eval BinOp" => with_reducible refine wpAny_BinOp ?_
  k_with "execs cons" => with_reducible first | (refine toks_cons ?_; intros) | refine wpAny_execs_cons ?_
  k_with "execs nil" => with_reducible refine wpAny_execs_nil ?_
  k_with "isTrue Name" => with_reducible refine' n_true ?_
  k_with "isTrue Call" => with_reducible refine' n_true ?_
  k_with "isTrue Compare" => ((with_reducible show wpAny _ _ (isTrue (PySem.Expr.Compare _ [_] [_] _) _ _) _ _ _); with_reducible refine wpAny_isTrue_Compare1 ?_)
  k_with "isTrue BoolOp" => with_reducible first | refine isTrue_and_nil ?_ | refine isTrue_or_nil ?_ | refine isTrue_and ?_ | refine isTrue_or ?_
  k_with "isTrue UnaryOp" => with_reducible refine isTrue_not ?_
  k_with "eval UnaryOp" => with_reducible refine UnaryOp_ ?_
  k_with "unaryOp USub int" => with_reducible refine n_neg ?_
  k_with "eval Subscript" => with_reducible refine Subscript_ ?_
  k_with "eval Slice" => with_reducible refine wpAny_Slice ?_
  k_with "evalPart some" => with_reducible refine evalPart_some_step ?_
  k_with "evalPart none" => with_reducible refine evalPart_none_step ?_
  k_with "exec AugAssign" => with_reducible refine wpAny_AugAssign_Name ?_
  k_with "exec Return some" => with_reducible refine wpAny_Return_some ?_
  k_with "exec Continue" => with_reducible refine wpAny_Continue ?_
  k_with "eval Constant str" => with_reducible refine n_str ?_
  k_with "eval Constant int" => with_reducible refine n_int ?_
  k_with "compareOp Eq str str" => with_reducible refine PyProof.Rows.eq_str ?_
  k_with "compareOp NotEq str str" => with_reducible refine PyProof.Rows.ne_str ?_
  k_with "inplaceOp Add int int" => with_reducible refine n_iaddi ?_
  k_with "binaryOp Add int int" => with_reducible refine n_addi ?_
  k_with "binaryOp Sub int int" => with_reducible refine n_subi ?_
  k_with "eval Tuple" => with_reducible refine Tuple_ ?_
  k_with "eval List" => with_reducible refine List_ ?_
  k_with "assign Name" => with_reducible refine PyProof.Rows.assign_Name ?_
  k_with "truthy bool" => with_reducible refine wpAny_truthy_bool ?_
  k_with "es" => with_reducible first | exact rfl | exact eS47 | exact eS61 | exact eS10 | exact eS46 | exact eSdd | exact eS32 | exact eS9 | exact eS0 | exact (S_of _).symm
  k_with "ls" => first | exact news_list (by k_asm) (by k_mem) | exact fr_list (by k_asm) (by k_asm)
  k_with "ss" => first | assumption | exact strs1 _ _
  k_with "nn" => first | assumption | exact splitL_ne _ _
  k_with "kp" => first | exact True.intro | ((try dsimp only); first | k_extra "ls" | assumption | k_extra "oml")
  k_with "c" => first | with_reducible assumption | ((with_reducible show StrsAre _ _); k_extra "ss") | ((with_reducible show Heap.IsList _ _ _); k_extra "ls") | ((with_reducible show plainIx _ = true); exact rfl) | ((with_reducible show _ = S _); k_extra "es") | ((with_reducible show _ ≠ _); k_extra "nn") | ((with_reducible show 0 ≤ _); k_extra "omd") | k_extra "oml"
  k_with "cc" => first | ((with_reducible refine And.intro ?za ?zb); (case za => k_extra "c"); (case zb => k_extra "cc")) | k_extra "c"
  k_with "pyIter ref" => with_reducible refine AtIter.on ?_
  k_with "call ref" => ((with_reducible refine' x_use (by k_dflt k_extra "pu") ?_); (with_reducible first | refine useE ?_ | refine useS ?_ | refine useI ?_ | refine useT3 (by assumption) (by assumption) ?_ | refine useT2 (by assumption) (by assumption) ?_ | refine useL (by assumption) (by assumption) ?_ | refine useT (by assumption) (by assumption) ?_); intros; (try k_sweep); (try k_fold))
  k_with "subscriptTail" => k_dflt ((first | ((with_reducible refine' p_butlast ?zk ?_); (case zk => k_extra "cc")) | ((with_reducible refine' p_to ?zk ?_); (case zk => k_extra "cc")) | ((with_reducible refine' p_last ?zk ?_); (case zk => k_extra "cc")) | ((with_reducible refine' p_from ?zk ?_); (case zk => k_extra "cc")) | ((with_reducible refine' p_midback ?zk ?_); (case zk => k_extra "cc")) | ((with_reducible refine' p_mid ?zk ?_); (case zk => k_extra "cc")) | ((with_reducible refine' q_rev ?zk ?_); (case zk => k_extra "cc")) | ((with_reducible refine' q_back ?zk ?_); (case zk => k_extra "cc")) | ((with_reducible refine' q_midback ?zk ?_); (case zk => k_extra "cc")) | ((with_reducible refine' i_slast ?zk ?_); (case zk => k_extra "cc")) | ((with_reducible refine' i_sat ?zk ?_); (case zk => k_extra "cc")) | ((with_reducible refine' i_last ?zk ?_); (case zk => k_extra "cc")) | ((with_reducible refine' i_nat ?zk ?_); (case zk => k_extra "cc"))); intros; (try k_sweep))
  k_with "call builtin:str.split" => (with_reducible refine' x_split ?_; intros; (try k_sweep))
  k_with "call builtin:str.splitlines" => (with_reducible refine' x_lines ?_; intros; (try k_sweep))
  k_with "call builtin:str.join" => (with_reducible refine' x_join ?_; intros)
  k_with "binaryOp Add str str" => (with_reducible refine' x_add ?_; intros)
  k_with "inplaceOp Add str str" => (with_reducible refine' x_iadd ?_; intros)
  k_with "call builtin:len" => with_reducible first | ((show wpAny _ _ (call _ [Value.str _ _]) _ _ _); refine' x_len ?_; intros) | (refine' x_llen ?_; intros)
  k_with "call builtin:str.rstrip" => with_reducible first | ((show wpAny _ _ (call _ [_]) _ _ _); refine' x_rstrip ?_; intros) | (refine' x_rstripc ?_; intros)
  k_with "call builtin:str.lstrip" => (with_reducible refine' x_lstripc ?_; intros)
  k_with "call builtin:chr" => (with_reducible refine' x_chr ?_; intros)
  k_with "call builtin:str.replace" => (with_reducible refine' x_replace ?_; intros)
  k_with "call builtin:min" => (with_reducible refine' x_min ?_; intros; (try k_sweep))
  k_with "call builtin:list.pop" => (with_reducible refine' x_pop ?_; intros; (try k_sweep))
  k_with "call builtin:list.append" => (with_reducible refine' x_append ?_; intros; (try k_sweep))
  k_with "setItem ref int" => (with_reducible refine' x_setlast ?_; intros; (try k_sweep))
  k_with "binaryOp Add ref ref" => (with_reducible refine' x_ladd ?_; intros; (try k_sweep))
  k_with "binaryOp Mult str int" => (with_reducible refine' x_smul ?_; intros)
  k_with "binaryOp Mult ref int" => (with_reducible refine' x_lmul ?_; intros; (try k_sweep))
  k_with "truthy ref" => (with_reducible refine' x_truthyL ?_; intros)
  k_with "truthy str" => (with_reducible refine' x_truthyS ?_; intros)
  k_with "assign Tuple" => (with_reducible refine' x_unpack ?_; intros)
  k_with "exec For" => with_reducible refine' x_for ?_
  k_with "sub" => first | (with_reducible exact sub_nil) | ((with_reducible refine sub_cons ?zh ?_); (case zh => k_mem); k_extra "sub") | (with_reducible exact (fun _ hp => hp)) | ((with_reducible refine sub_tail ?_); k_extra "sub")
  k_with "fz" => repeat' (first | (with_reducible exact same_u) | (with_reducible exact same_refl) | ((with_reducible refine same_if ?zh ?_); (case zh => k_mem)) | ((with_reducible refine same_st ?zh ?_); (case zh => k_mem)) | ((with_reducible refine same_kcons ?zh ?_); (case zh => k_mem)) | (with_reducible refine same_knil ?_) | ((with_reducible refine same_ins ?zh ?_); (case zh => k_extra "sub")) | exact same_refl)
  k_with "src" => refine' x_list
  k_with "CompInG" => with_reducible refine' x_src ?_ ?_ ?_
  k_with "TestG" => k_dflt (first | exact test_none | (refine test_RT ?_; intros))
  k_with "EltG" => k_dflt (refine elt_RT ?_; intros)
  k_with "FinG" => k_dflt ((first | refine fin_tt ?_ | refine fin_id ?_ | refine fin_g ?_); intros)
  k_with "exec While" => with_reducible refine AtWhile.on ?_
  trivial
theorem ne61e {c : Nat} (h : (S [c] == Str.ofString "=") = false) : c ≠ 61 := by
  rw [eS61, S_beq, beq_eq_false_iff_ne] at h; intro e; exact h (by rw [e])
theorem is61e {c : Nat} (h : (S [c] == Str.ofString "=") = true) : c = 61 := by
  rw [eS61, S_beq, beq_iff_eq] at h; injection h
example : True := by
  k_with "getMethod str" => with_reducible refine tr_method ?_
  trivial
theorem blk_tl : tl (Str.ofString " \t") = [32, 9] := by decide +kernel
theorem blk_in (c : Nat) : Txt.contains (Str.ofString " \t") (S [c]) = decide (c = 32 ∨ c = 9) := by
  have h := in_one (Str.ofString " \t") c
  rw [show (⟨#[c]⟩ : Str) = S [c] from rfl] at h
  rw [h, blk_tl]
  simp
theorem blk_yes {c : Nat} (h : (Builtin.Str.occurrences (Str.ofString " \t") (S [c]) 0 (Str.ofString " \t").length 1).isEmpty = false) : c = 32 ∨ c = 9 := by
  have h2 := blk_in c; unfold Txt.contains at h2; rw [h] at h2; simpa using h2
theorem blk_no {c : Nat} (h : (Builtin.Str.occurrences (Str.ofString " \t") (S [c]) 0 (Str.ofString " \t").length 1).isEmpty = true) : c ≠ 32 ∧ c ≠ 9 := by
  have h2 := blk_in c; unfold Txt.contains at h2; rw [h] at h2
  constructor <;> (intro e; subst e; simp at h2)
section
variable {a : T}
theorem bl_or (h0 : a ≠ []) (h : (Builtin.Str.occurrences (Str.ofString " \t") (S [a.getLastD 0]) 0 (Str.ofString " \t").length 1).isEmpty = false) : a.getLast? = some 32 ∨ a.getLast? = some 9 := by
  rw [last_some h0]
  rcases blk_yes h with e | e <;> rw [e] <;> simp
theorem bl_n1 (h0 : a ≠ []) (h : (Builtin.Str.occurrences (Str.ofString " \t") (S [a.getLastD 0]) 0 (Str.ofString " \t").length 1).isEmpty = true) : a.getLast? ≠ some 32 := by
  rw [last_some h0]; intro e; injection e with e; exact (blk_no h).1 e
theorem bl_n2 (h0 : a ≠ []) (h : (Builtin.Str.occurrences (Str.ofString " \t") (S [a.getLastD 0]) 0 (Str.ofString " \t").length 1).isEmpty = true) : a.getLast? ≠ some 9 := by
  rw [last_some h0]; intro e; injection e with e; exact (blk_no h).2 e
end
theorem enc_lt {m : T} (h : VM m) : ∀ c ∈ encA m, c < 256 := by
  intro c hc
  unfold encA at hc
  obtain ⟨l, hl, hcl⟩ := List.mem_flatten.mp hc
  obtain ⟨d, hd, rfl⟩ := List.mem_map.mp hl
  have hx : ∀ z, isHex z = true → z < 110 := by
    intro z hz
    unfold isHex at hz
    simp only [Bool.or_eq_true, Bool.and_eq_true, decide_eq_true_eq] at hz
    lia
  rcases kind (h d hd) with ⟨h1, e⟩ | ⟨h10, hs, h61, hlt, e, hu⟩ | ⟨a, b, _, e, ha, hb2, _⟩
  · rw [e] at hcl; simp at hcl; lia
  · rw [e, List.mem_singleton] at hcl; lia
  · have := hx _ ha
    have := hx _ hb2
    rw [e] at hcl; simp at hcl; lia
section
variable {prog : Program} {w : World} {A : Around} {E : Value → Shared → Prop} {h₀ : Heap} {L : Addr} {m : Str → Option Value} {Q : Value → Shared → Prop} {hp : Heap} {gs : Array GenState} {dr : Drawn} {tk : Nat} {os : OsState} {news news' : List (Addr × Obj)} {l b : Addr} {n : Nat} {vs : List Value}
theorem x_trans {x : T} {t : Tok} (h : ∀ t' k, Q (.str (S (x.map bodyT).flatten) t') ⟨hp, gs, dr, k, os⟩) (X : (hd.heap_39 w.params).In h₀ := by k_dflt (k_asm)) (F : Fr h₀ L hp m := by k_dflt (k_asm)) (hx : x ≠ [] := by k_dflt (assumption)) (hc : ∀ c ∈ x, c < 256 := by k_dflt (assumption)) (hsz : x.length ≤ 100000 := by k_dflt (lia)) :
    wpAny (model prog w) A (call (.builtin "str.translate") [.str (S x) t, .ref 185]) Q E ⟨hp, gs, dr, tk, os⟩ := by
  obtain ⟨l, hL, ok⟩ := map_body w h₀ _ rfl X
  exact tr_call hx hc hsz (hL.at fun o e => F.keep _ _ e) ok h
theorem b_attr {its : Array Value} (h : ∀ b h' k, Fr h₀ L h' m → News h₀ L h' ((b, boundA l) :: news) → (∀ p ∈ news, p.1 < b) → Q (.ref b) ⟨h', gs, dr, k, os⟩) (F : Fr h₀ L hp m := by k_dflt (k_asm)) (N : News h₀ L hp news := by k_dflt (k_asm)) (hl : (l, listOf its n) ∈ news := by k_dflt (k_mem)) :
    wpAny (model prog w) A (getAttr (.ref l) (Str.ofString "append") true) Q E ⟨hp, gs, dr, tk, os⟩ := ga_laK F N hl h
theorem b_call {v : Value} (h : ∀ h', Fr h₀ L h' m → News h₀ L h' news' → Q .none ⟨h', gs, dr, tk, os⟩) (F : Fr h₀ L hp m := by k_dflt (k_asm)) (N : News h₀ L hp news := by k_dflt (k_asm)) (hb : (b, boundA l) ∈ news := by k_dflt (k_mem)) (U : Upd l (listOf vs.toArray n) (listOf (vs ++ [v]).toArray (n + 1)) news news' := by k_dflt (k_upd)) (hsz : vs.length ≤ 16000000 := by k_dflt (k_extra "oml")) :
    wpAny (model prog w) A (call (.ref b) [v]) Q E ⟨hp, gs, dr, tk, os⟩ := call_laK (s := ⟨hp, gs, dr, tk, os⟩) F N hb (by rw [List.push_toArray]; exact U) h (by rw [List.size_toArray]; exact Nat.le_trans hsz (by decide))
theorem b_cw {pos : Pos} {first : List Value} {env : Env} {e : PySem.Expr} {rest : List PySem.Expr}
    (h : wpAny (model prog w) A (spliced (backTo pos (starEach (e :: rest) env))) (fun vs s₁ => BoundAt b l s₁.heap ∧ wpAny (model prog w) A (call (.ref b) (first ++ vs)) Q E s₁) E ⟨hp, gs, dr, tk, os⟩) (N : News h₀ L hp news := by k_dflt (k_asm)) (hm : (b, boundA l) ∈ news := by k_dflt (k_mem))
    (he : starEach (e :: rest) env = (false, eval e env) :: starEach rest env := by k_dflt (rfl)) (hplain : (backTo pos (starEach rest env)).any (·.1) = false := by k_dflt (rfl)) :
    wpAny (model prog w) A (callWith pos (.ref b) first (backTo pos (starEach (e :: rest) env)) []) Q E ⟨hp, gs, dr, tk, os⟩ := cw_bound (s := ⟨hp, gs, dr, tk, os⟩) N hm h he hplain
theorem b_and {P : Prop} (h : P) (N : News h₀ L hp news := by k_dflt (k_asm)) (hm : (b, boundA l) ∈ news := by k_dflt (k_mem)) : BoundAt b l hp ∧ P := ⟨bound_at N hm, h⟩
end
example : True := by
  k_with "call builtin:str.translate" => (with_reducible refine' x_trans ?_; intros)
  k_with "getAttr ref" => (with_reducible refine' b_attr ?_; intros; (try k_sweep))
  k_with "callWith ref" => ((with_reducible show wpAny _ _ (callWith _ _ _ (backTo _ (starEach (_ :: _) _)) []) _ _ _); with_reducible refine' b_cw ?_)
  k_with "And" => ((with_reducible show BoundAt _ _ _ ∧ _); (with_reducible refine' b_and ?_); (try dsimp only [List.nil_append, List.cons_append]))
  k_with "call ref" => (with_reducible refine' b_call ?_; intros; (try k_sweep))
  k_with "oml" => (simp only [List.length_drop, List.length_take, List.length_dropLast, List.length_append, List.length_cons, List.length_nil, quoteT]; lia)
  k_with "pu" => exact quote_call _ _ _
  trivial
set_option maxHeartbeats 8000000 in
theorem encode_call (w : World) (x : T) (t : Tok) (wd : Nat) (tw : Tok) (hw : 4 ≤ wd) (hw2 : wd ≤ 99) (hsz : x.length ≤ 1000) (hx : VP x) : Pu w 8 90 196 (fun _ => True) [.str (S x) t, .int (wd : Int) tw] (RStr (encL wd x)) := by
  unfold Pu P0
  k_fill
  intro p loose mean mg mb A base l s Q E B X TT hh hd hu hpre hret
  refine' x_enter B X TT ?_
  intro L' h' F' N'
  (try dsimp only)
  (try k_fold)
  have hx256 : ∀ c ∈ x, c < 256 := fun c hc => (hx c hc).1
  have hlb : ∀ c ∈ (x.map bodyT).flatten, Unicode.isLineBreak c = true → c = 10 := by rw [← encA_body hx]; exact enc_lb (VP_M hx)
  have h10 : 10 ∉ (x.map bodyT).flatten := by rw [← encA_body hx]; exact enc_free x (VP_M hx) (fun m => (hx 10 m).2.1 rfl)
  have hrl : (x.map bodyT).flatten.length ≤ 3 * x.length := by rw [← encA_body hx]; exact encA_le x
  k_steps
  · rename_i lr hl2 lA hm2 tka htka lb hb2 kb lB hm3 tkb htkb D1 vs1 h1 tk1 hk1 hS1 FN NN l1
    rename (x ≠ []) => hx0
    have hr0 := (enc_facts hx hx0).1
    have hlast := enc_last hx hx0
    have hl256 : (x.map bodyT).flatten.getLastD 0 < 256 := by
      have hm : (x.map bodyT).flatten.getLastD 0 ∈ (x.map bodyT).flatten := by
        rw [List.getLastD_eq_getLast?, List.getLast?_eq_some_getLast hr0]; exact List.getLast_mem hr0
      rw [← encA_body hx] at hm ⊢
      exact enc_lt (VP_M hx) _ hm
    have hencL := encL_eq (w := wd) hx0 (rfl : (x.map bodyT).flatten = _)
    rw [linesL_free _ h10 hr0] at hS1
    rw [hencL] at hret
    generalize (x.map bodyT).flatten = r at *
    refine' loop_pairs (R := RT) (as := [r]) (σ := List T × List Value × Nat) (fun c => [(lr, listOf c.2.1.toArray c.2.2)]) (fun _ => []) [Str.ofString "start", Str.ofString "laststart", Str.ofString "stop", Str.ofString "room", Str.ofString "q"] (fun pre c => StrsAre c.2.1 (c.1.map S) ∧ c.1 = (if pre = [] then [] else (encR wd r).1 ++ [tailE wd (encR wd r).2]) ∧ c.1.length ≤ 3001 ∧ (c.1.map List.length).sum ≤ 310000) [(lb, boundA lr), (D1, listOf vs1.toArray 0)] ([], [], 0) ?zhh ?zhl ?zhr ?zF ?zN ?zk ?zp ?zadr ?zoff ?zturn ?zdone
    case zhh => assumption
    case zhl => exact news_list NN (.head _)
    case zhr => exact paired_of_strs hS1
    case zF => exact FN
    case zN => exact fun p hp => NN p (by simp only [List.cons_append, List.nil_append, List.mem_cons, List.not_mem_nil, or_false] at hp ⊢; rcases hp with h | h | h <;> simp [h])
    case zk => intro p hp; cases hp
    case zp => exact ⟨.nil, rfl, Nat.zero_le _, Nat.zero_le _⟩
    case zadr => intro c; rfl
    case zoff => intro p hp; rw [List.mem_singleton.mp hp]; exact neLt l1 (.tail _ (.head _))
    case zturn =>
      rintro ⟨xs, us, n⟩ pre a post v u h tk own has hR ⟨hus, hxs, _, _⟩ hoff F N QQ1 hQ1
      obtain ⟨ta, rfl⟩ := hR
      have hpre : pre = [] ∧ a = r := by
        cases pre with
        | nil => exact ⟨rfl, by injection has with h _; exact h.symm⟩
        | cons p q => simp at has
      obtain ⟨rfl, rfl⟩ := hpre
      dsimp only at hus hxs
      rw [if_pos rfl] at hxs
      subst hxs
      cases hus
      dsimp only [envOf, List.nil_append, List.cons_append, kstB] at F N
      (try k_fold)
      k_steps
      all_goals try ((first | (refine hQ1 _ _ ?_; dsimp only [LoopPost])); try k_steps)
      · rename_i FI NI tkI htkI
        refine' while_walk (σ := Int × Tok × List T × List Value × Nat) (fun c => (lr, listOf c.2.2.2.1.toArray c.2.2.2.2) :: (lb, boundA lr) :: (D1, listOf vs1.toArray 0) :: own) (fun c => [(Str.ofString "start", .int c.1 c.2.1)]) [Str.ofString "start", Str.ofString "stop"] (fun c => 0 ≤ c.1 ∧ OutE wd a c.2.2.1 c.1.toNat ∧ StrsAre c.2.2.2.1 (c.2.2.1.map S)) (fun c => a.length - c.1.toNat) (0, _, [], [], n) ?yF ?yN ?yk ?yp ?yturn
        case yF => exact FI
        case yN => exact NI
        case yk => kst_all
        case yp => exact ⟨Int.le_refl _, OutE.start hr0, .nil⟩
        case yturn =>
          rintro ⟨i, ti, R, us, k⟩ u2 h2 tk2 ⟨hi0, hO, hus⟩ F2 N2 QQ2 hQ2
          dsimp only at hi0 hO hus
          have hkl := hO.kl
          have hol := hO.len
          have hos := hO.sum
          have hul : us.length = R.length := by rw [hus.len_eq, List.length_map]
          dsimp only [envOf, List.nil_append, List.cons_append, kstB] at F2 N2
          (try k_fold)
          k_steps
          all_goals try ((first | (refine hQ2 _ _ ?_; dsimp only [WPost]) | (refine hQ1 _ _ ?_; dsimp only [LoopPost])); try k_steps)
          · refine x_wend (i + ((wd : Int) - 1) - 2, _, R ++ [(a.take (i + ((wd : Int) - 1) - 1).toNat).drop i.toNat], us ++ [.str (S ((a.take (i + ((wd : Int) - 1) - 1).toNat).drop i.toNat)) _], k + 1) ?_ ?_
            · exact ⟨by dsimp only; lia, hO.step1 hw (by lia) hi0 (by lia) (is61e (by assumption)), strs_snoc hus⟩
            · exact tw_meas2 hw hi0 (by assumption)
          · refine x_wend (i + ((wd : Int) - 1) - 1, _, R ++ [(a.take (i + ((wd : Int) - 1)).toNat).drop i.toNat], us ++ [.str (S ((a.take (i + ((wd : Int) - 1)).toNat).drop i.toNat)) _], k + 1) ?_ ?_
            · exact ⟨by dsimp only; lia, hO.step2 hw (by lia) hi0 (by lia) (ne61e (by assumption)) (is61e (by assumption)), strs_snoc hus⟩
            · exact tw_meas1 hw hi0 (by assumption)
          · refine x_wend (i + ((wd : Int) - 1), _, R ++ [(a.take (i + ((wd : Int) - 1)).toNat).drop i.toNat ++ [61]], us ++ [.str (S ((a.take (i + ((wd : Int) - 1)).toNat).drop i.toNat ++ [61])) _], k + 1) ?_ ?_
            · exact ⟨by dsimp only; lia, hO.step3 hw (by lia) hi0 (by lia) (ne61e (by assumption)) (ne61e (by assumption)), strs_snoc hus⟩
            · exact tw_meas0 hw hi0 (by assumption)
          · refine x_end (R ++ [a.drop i.toNat], us ++ [.str (S (a.drop i.toNat)) _], k + 1) ?_
            exact ⟨strs_snoc hus, by rw [if_neg (by simp), hO.stop hi0 (by lia)]; dsimp only; rw [te_no hkl (bl_n1 hr0 (by assumption)) (bl_n2 hr0 (by assumption))], by simp only [List.length_append, List.length_cons, List.length_nil]; lia, by simp only [List.map_append, List.sum_append, List.map_cons, List.map_nil, List.sum_cons, List.sum_nil, List.length_append, List.length_drop, List.length_dropLast, List.length_cons, List.length_nil, quoteT]; lia⟩
          · refine x_end (R ++ [a.dropLast.drop i.toNat ++ quoteT (a.getLastD 0)], us ++ [.str (S (a.dropLast.drop i.toNat ++ quoteT (a.getLastD 0))) _], k + 1) ?_
            exact ⟨strs_snoc hus, by rw [if_neg (by simp), hO.stop hi0 (by lia)]; dsimp only; rw [te_1 hkl hi0 (bl_or hr0 (by assumption)) (by lia)], by simp only [List.length_append, List.length_cons, List.length_nil]; lia, by simp only [List.map_append, List.sum_append, List.map_cons, List.map_nil, List.sum_cons, List.sum_nil, List.length_append, List.length_drop, List.length_dropLast, List.length_cons, List.length_nil, quoteT]; lia⟩
          · refine x_end (R ++ [a.dropLast.drop i.toNat ++ ([a.getLastD 0] ++ ([61] ++ [10]))], us ++ [.str (S (a.dropLast.drop i.toNat ++ ([a.getLastD 0] ++ ([61] ++ [10])))) _], k + 1) ?_
            exact ⟨strs_snoc hus, by rw [if_neg (by simp), hO.stop hi0 (by lia)]; dsimp only; rw [te_2 hkl hi0 (bl_or hr0 (by assumption)) (by lia)], by simp only [List.length_append, List.length_cons, List.length_nil]; lia, by simp only [List.map_append, List.sum_append, List.map_cons, List.map_nil, List.sum_cons, List.sum_nil, List.length_append, List.length_drop, List.length_dropLast, List.length_cons, List.length_nil, quoteT]; lia⟩
          · refine x_end (R ++ [a.dropLast.drop i.toNat ++ ([61] ++ [10] ++ quoteT (a.getLastD 0))], us ++ [.str (S (a.dropLast.drop i.toNat ++ ([61] ++ [10] ++ quoteT (a.getLastD 0)))) _], k + 1) ?_
            exact ⟨strs_snoc hus, by rw [if_neg (by simp), hO.stop hi0 (by lia)]; dsimp only; rw [te_3 hkl hi0 (bl_or hr0 (by assumption)) (by lia) (by lia)], by simp only [List.length_append, List.length_cons, List.length_nil]; lia, by simp only [List.map_append, List.sum_append, List.map_cons, List.map_nil, List.sum_cons, List.sum_nil, List.length_append, List.length_drop, List.length_dropLast, List.length_cons, List.length_nil, quoteT]; lia⟩
    case zdone =>
      rintro ⟨xs, us, n⟩ u h tk ⟨hus, hxs, hxl, hxm⟩ F N
      dsimp only at hus hxs hxl hxm
      rw [if_neg (by simp)] at hxs
      dsimp only [envOf, List.nil_append, List.cons_append, kstB] at F N
      (try k_fold)
      k_steps
      · exact hret _ _ _ (Fr.keep (by assumption)) (RStr.of (by rw [← hxs]))
      · exfalso
        rcases crlf_yes (by assumption) with h | h
        · exact hlast.2 h
        · exact hlast.1 h
  · rename (¬ x ≠ []) => hx0
    exact hret _ _ _ (Fr.keep (by assumption)) (RStr.of (by unfold encL; rw [if_pos (Decidable.not_not.mp hx0), Decidable.not_not.mp hx0]))
end
section
example : True := by
  k_with_none
  k_with "om" => first | assumption | exact Nat.le_add_left 1 _ | exact Int.add_nonneg (by assumption) (by decide) | exact tn1 (by assumption) | exact tn2 (by assumption) | exact tn3 (by assumption) | exact meas1 (by assumption) (by assumption) | exact meas3 (by assumption) (by assumption) | exact tlt1 (by assumption) (by assumption) | exact Nat.le_trans (by assumption) (by decide) | exact Nat.le_trans (Nat.add_le_add_right (by assumption) _) (by decide) | lia
  k_with "omd" => first | decide | k_extra "om"
  k_with "oml" => first | k_extra "om" | (simp only [List.length_append, List.length_map, List.length_drop, List.length_dropLast, List.length_cons, List.length_nil]; k_extra "om")
  k_with "ne" => (refine neN ?_; (try dsimp only); first | assumption | exact neLt (by assumption) (by k_mem) | exact neGt (by assumption) (by k_mem) | exact neOf (by assumption) (by k_mem) | exact neOf' (by assumption) (by k_mem) | lia)
  k_with "room" => first | exact room_of (by assumption) (by decide) | exact room_0 (by assumption)
  k_with "units" => exact room_of (by assumption) (by decide)
  k_with "ite" => with_reducible first | refine ite_tt ?_ | refine ite_ff ?_
  k_with "eval Name" => ((with_reducible show wpAny _ _ (eval (Expr.Name _ _) (envOf _ _ _ _ _)) _ _ _); first | (name_kind "local"; with_reducible refine' n_loc ?_) | (name_kind "globalImplicit"; with_reducible first | refine' n_glo ?_ | refine' n_boo ?_))
  k_with "loadName" => with_reducible refine' n_load ?_
  k_with "storeName" => (with_reducible refine' n_store ?_; intros; (try k_sweep))
  k_with "callWith" => with_reducible first | refine callWith_method0 ?_ | refine' n_cw0 ?_ | refine' n_cw1 ?_ | ((show wpAny _ _ (callWith _ (Value.builtin _) _ _ []) _ _ _); refine' n_cw ?_)
  k_with "callWith ref" => ((with_reducible show wpAny _ _ (callWith _ _ _ (backTo _ (starEach (_ :: _) _)) []) _ _ _); with_reducible refine' n_cwK ?_)
  k_with "eval Call" => with_reducible refine' n_call ?_
  k_with "eval Call Attribute" => with_reducible refine' n_mcall ?_
  k_with "exec Assign" => ((with_reducible show wpAny _ _ (exec (Stmt.Assign [Expr.Name _ _] _ _) _) _ _ _); with_reducible refine' n_asg ?_)
  k_with "exec If" => with_reducible refine wpAny_If ?_
  k_with "spliced" => ((with_reducible show wpAny _ _ (spliced (backTo _ (starEach (_ :: _) _))) _ _ _); with_reducible refine' n_acons ?_)
  k_with "newList" => (with_reducible refine' n_newl ?_; intros; (try k_sweep))
  k_with "eval BinOp" => with_reducible refine wpAny_BinOp ?_
  k_with "execs cons" => with_reducible first | (refine toks_cons ?_; intros) | refine wpAny_execs_cons ?_
  k_with "execs nil" => with_reducible refine wpAny_execs_nil ?_
  k_with "isTrue Name" => with_reducible refine' n_true ?_
  k_with "isTrue Call" => with_reducible refine' n_true ?_
  k_with "isTrue Compare" => ((with_reducible show wpAny _ _ (isTrue (PySem.Expr.Compare _ [_] [_] _) _ _) _ _ _); with_reducible refine wpAny_isTrue_Compare1 ?_)
  k_with "isTrue BoolOp" => with_reducible first | refine isTrue_and_nil ?_ | refine isTrue_or_nil ?_ | refine isTrue_and ?_ | refine isTrue_or ?_
  k_with "isTrue UnaryOp" => with_reducible refine isTrue_not ?_
  k_with "eval UnaryOp" => with_reducible refine UnaryOp_ ?_
  k_with "unaryOp USub int" => with_reducible refine n_neg ?_
  k_with "eval Subscript" => with_reducible refine Subscript_ ?_
  k_with "eval Slice" => with_reducible refine wpAny_Slice ?_
  k_with "evalPart some" => with_reducible refine evalPart_some_step ?_
  k_with "evalPart none" => with_reducible refine evalPart_none_step ?_
  k_with "exec AugAssign" => with_reducible refine wpAny_AugAssign_Name ?_
  k_with "exec Return some" => with_reducible refine wpAny_Return_some ?_
  k_with "exec Continue" => with_reducible refine wpAny_Continue ?_
  k_with "eval Constant str" => with_reducible refine n_str ?_
  k_with "eval Constant int" => with_reducible refine n_int ?_
  k_with "compareOp Eq str str" => with_reducible refine PyProof.Rows.eq_str ?_
  k_with "compareOp NotEq str str" => with_reducible refine PyProof.Rows.ne_str ?_
  k_with "inplaceOp Add int int" => with_reducible refine n_iaddi ?_
  k_with "binaryOp Add int int" => with_reducible refine n_addi ?_
  k_with "binaryOp Sub int int" => with_reducible refine n_subi ?_
  k_with "eval Tuple" => with_reducible refine Tuple_ ?_
  k_with "eval List" => with_reducible refine List_ ?_
  k_with "assign Name" => with_reducible refine PyProof.Rows.assign_Name ?_
  k_with "truthy bool" => with_reducible refine wpAny_truthy_bool ?_
  k_with "es" => with_reducible first | exact rfl | exact eS47 | exact eS61 | exact eS10 | exact eS46 | exact eSdd | exact eS32 | exact eS9 | exact eS0 | exact (S_of _).symm
  k_with "ls" => first | exact news_list (by k_asm) (by k_mem) | exact fr_list (by k_asm) (by k_asm)
  k_with "ss" => first | assumption | exact strs1 _ _
  k_with "nn" => first | assumption | exact splitL_ne _ _
  k_with "kp" => first | exact True.intro | ((try dsimp only); first | k_extra "ls" | assumption | k_extra "oml")
  k_with "c" => first | with_reducible assumption | ((with_reducible show StrsAre _ _); k_extra "ss") | ((with_reducible show Heap.IsList _ _ _); k_extra "ls") | ((with_reducible show plainIx _ = true); exact rfl) | ((with_reducible show _ = S _); k_extra "es") | ((with_reducible show _ ≠ _); k_extra "nn") | ((with_reducible show 0 ≤ _); k_extra "omd") | k_extra "oml"
  k_with "cc" => first | ((with_reducible refine And.intro ?za ?zb); (case za => k_extra "c"); (case zb => k_extra "cc")) | k_extra "c"
  k_with "pyIter ref" => with_reducible refine AtIter.on ?_
  k_with "call ref" => ((with_reducible refine' x_use (by k_dflt k_extra "pu") ?_); (with_reducible first | refine useE ?_ | refine useS ?_ | refine useI ?_ | refine useT3 (by assumption) (by assumption) ?_ | refine useT2 (by assumption) (by assumption) ?_ | refine useL (by assumption) (by assumption) ?_ | refine useT (by assumption) (by assumption) ?_); intros; (try k_sweep); (try k_fold))
  k_with "subscriptTail" => k_dflt ((first | ((with_reducible refine' p_butlast ?zk ?_); (case zk => k_extra "cc")) | ((with_reducible refine' p_to ?zk ?_); (case zk => k_extra "cc")) | ((with_reducible refine' p_last ?zk ?_); (case zk => k_extra "cc")) | ((with_reducible refine' p_from ?zk ?_); (case zk => k_extra "cc")) | ((with_reducible refine' p_midback ?zk ?_); (case zk => k_extra "cc")) | ((with_reducible refine' p_mid ?zk ?_); (case zk => k_extra "cc")) | ((with_reducible refine' q_rev ?zk ?_); (case zk => k_extra "cc")) | ((with_reducible refine' q_back ?zk ?_); (case zk => k_extra "cc")) | ((with_reducible refine' q_midback ?zk ?_); (case zk => k_extra "cc")) | ((with_reducible refine' i_slast ?zk ?_); (case zk => k_extra "cc")) | ((with_reducible refine' i_sat ?zk ?_); (case zk => k_extra "cc")) | ((with_reducible refine' i_last ?zk ?_); (case zk => k_extra "cc")) | ((with_reducible refine' i_nat ?zk ?_); (case zk => k_extra "cc"))); intros; (try k_sweep))
  k_with "call builtin:str.split" => (with_reducible refine' x_split ?_; intros; (try k_sweep))
  k_with "call builtin:str.splitlines" => (with_reducible refine' x_lines ?_; intros; (try k_sweep))
  k_with "call builtin:str.join" => (with_reducible refine' x_join ?_; intros)
  k_with "binaryOp Add str str" => (with_reducible refine' x_add ?_; intros)
  k_with "inplaceOp Add str str" => (with_reducible refine' x_iadd ?_; intros)
  k_with "call builtin:len" => with_reducible first | ((show wpAny _ _ (call _ [Value.str _ _]) _ _ _); refine' x_len ?_; intros) | (refine' x_llen ?_; intros)
  k_with "call builtin:str.rstrip" => with_reducible first | ((show wpAny _ _ (call _ [_]) _ _ _); refine' x_rstrip ?_; intros) | (refine' x_rstripc ?_; intros)
  k_with "call builtin:str.lstrip" => (with_reducible refine' x_lstripc ?_; intros)
  k_with "call builtin:chr" => (with_reducible refine' x_chr ?_; intros)
  k_with "call builtin:str.replace" => (with_reducible refine' x_replace ?_; intros)
  k_with "call builtin:min" => (with_reducible refine' x_min ?_; intros; (try k_sweep))
  k_with "call builtin:list.pop" => (with_reducible refine' x_pop ?_; intros; (try k_sweep))
  k_with "call builtin:list.append" => (with_reducible refine' x_append ?_; intros; (try k_sweep))
  k_with "setItem ref int" => (with_reducible refine' x_setlast ?_; intros; (try k_sweep))
  k_with "binaryOp Add ref ref" => (with_reducible refine' x_ladd ?_; intros; (try k_sweep))
  k_with "binaryOp Mult str int" => (with_reducible refine' x_smul ?_; intros)
  k_with "binaryOp Mult ref int" => (with_reducible refine' x_lmul ?_; intros; (try k_sweep))
  k_with "truthy ref" => (with_reducible refine' x_truthyL ?_; intros)
  k_with "truthy str" => (with_reducible refine' x_truthyS ?_; intros)
  k_with "assign Tuple" => (with_reducible refine' x_unpack ?_; intros)
  k_with "exec For" => with_reducible refine' x_for ?_
  k_with "sub" => first | (with_reducible exact sub_nil) | ((with_reducible refine sub_cons ?zh ?_); (case zh => k_mem); k_extra "sub") | (with_reducible exact (fun _ hp => hp)) | ((with_reducible refine sub_tail ?_); k_extra "sub")
  k_with "fz" => repeat' (first | (with_reducible exact same_u) | (with_reducible exact same_refl) | ((with_reducible refine same_if ?zh ?_); (case zh => k_mem)) | ((with_reducible refine same_st ?zh ?_); (case zh => k_mem)) | ((with_reducible refine same_kcons ?zh ?_); (case zh => k_mem)) | (with_reducible refine same_knil ?_) | ((with_reducible refine same_ins ?zh ?_); (case zh => k_extra "sub")) | exact same_refl)
  k_with "src" => refine' x_list
  k_with "CompInG" => with_reducible refine' x_src ?_ ?_ ?_
  k_with "TestG" => k_dflt (first | exact test_none | (refine test_RT ?_; intros))
  k_with "EltG" => k_dflt (refine elt_RT ?_; intros)
  k_with "FinG" => k_dflt ((first | refine fin_tt ?_ | refine fin_id ?_ | refine fin_g ?_); intros)
  k_with "exec While" => with_reducible refine AtWhile.on ?_
  trivial
noncomputable def RI (n : Int) (v : Value) : Prop := ∃ t : Tok, v = .int n t
theorem paired_of_ints : ∀ {vs : List Value} {ns : List Int}, IntsAre vs ns → Paired RI ns vs
  | _, _, .nil => .nil
  | _, _, .cons n t r => .cons ⟨t, rfl⟩ (paired_of_ints r)
noncomputable def kindL : List T := [[], [47], [46], [47, 46, 46], [97], [32], [46, 46, 47], [233]]
theorem kinds_strs (a b c d e f g h : Tok) : StrsAre [.str (Str.ofString "") a, .str (Str.ofString "/") b, .str (Str.ofString ".") c, .str (Str.ofString "/..") d, .str (Str.ofString "a") e, .str (Str.ofString " ") f, .str (Str.ofString "../") g, .str (Str.ofString "é") h] (kindL.map S) := by
  rw [eS0, eS47, eS46, eS32, show Str.ofString "/.." = S [47, 46, 46] by decide +kernel, show Str.ofString "a" = S [97] by decide +kernel, show Str.ofString "../" = S [46, 46, 47] by decide +kernel, show Str.ofString "é" = S [233] by decide +kernel]
  exact .cons _ _ (.cons _ _ (.cons _ _ (.cons _ _ (.cons _ _ (.cons _ _ (.cons _ _ (.cons _ _ .nil)))))))
theorem kinds_rule {prog : Program} {w : World} {A : Around} {E : Value → Shared → Prop} {s : Shared} {Q : Value → Shared → Prop} {value slice : PySem.Expr} {l : Addr} {k : Int} {u a b c d e f g h : Tok} (hl : s.heap.IsList l (List.toArray [.str (Str.ofString "") a, .str (Str.ofString "/") b, .str (Str.ofString ".") c, .str (Str.ofString "/..") d, .str (Str.ofString "a") e, .str (Str.ofString " ") f, .str (Str.ofString "../") g, .str (Str.ofString "é") h])) (h0 : 0 ≤ k) (h8 : k < 8)
    (hq : ∀ t, Q (.str (S (kindT k.toNat)) t) s) (hs' : plainIx slice = true) :
    wpAny (model prog w) A (subscriptTail value slice (.ref l) (.int k u)) Q E s :=
  item_nat_rule (i := k.toNat) hl (kinds_strs a b c d e f g h) (by lia) (by show k.toNat < 8; lia) (by decide) hq hs'
theorem kindT_len (k : Nat) : (kindT k).length ≤ 3 := by
  by_cases h : k < 8
  · revert k; decide
  · unfold kindT; rw [List.getD_eq_getElem?_getD, List.getElem?_eq_none (by simp; lia)]; simp
example : True := by
  k_with "subscriptTail List" => k_dflt ((with_reducible refine' kinds_rule ?k1 ?k2 ?k3 ?_ ?k5); (case k1 => exact news_list (by k_asm) (by k_mem)); (case k2 | k3 => lia); (case k5 => rfl); intros)
  trivial
theorem fm9 (a : Int) (n : Int) (h : 0 < n) : a.fmod n = a % n := Int.fmod_eq_emod_of_nonneg a (by lia)
theorem fd9 (a : Int) (n : Int) (h : 0 < n) : a.fdiv n = a / n := Int.fdiv_eq_ediv_of_nonneg a (by lia)
section
variable {xs : List T} {a : Int}
theorem pt_0 (h : a.fmod 9 = 0) : stepParts xs a = xs ++ [[]] := by
  rw [fm9 _ _ (by decide)] at h
  unfold stepParts; simp only; rw [if_pos (by lia)]
theorem pt_k (h : a.fmod 9 ≠ 0) (h8 : a.fmod 9 < 8) : stepParts xs a = xs.dropLast ++ [xs.getLastD [] ++ kindT (a.fmod 9).toNat] := by
  rw [fm9 _ _ (by decide)] at h h8 ⊢
  unfold stepParts; simp only; rw [if_neg (by lia), if_pos (by lia)]
theorem pt_s (h8 : 8 ≤ a.fmod 9) (hc : (a.fdiv 9).fmod 256 = 10 ∨ (a.fdiv 9).fmod 256 = 13) : stepParts xs a = xs.dropLast ++ [xs.getLastD [] ++ [47]] := by
  rw [fm9 _ _ (by decide)] at h8; rw [fd9 _ _ (by decide), fm9 _ _ (by decide)] at hc
  unfold stepParts; simp only; rw [if_neg (by lia), if_neg (by lia), if_pos (by lia)]
theorem pt_c (h8 : 8 ≤ a.fmod 9) (h1 : (a.fdiv 9).fmod 256 ≠ 10) (h2 : (a.fdiv 9).fmod 256 ≠ 13) : stepParts xs a = xs.dropLast ++ [xs.getLastD [] ++ [((a.fdiv 9).fmod 256).toNat]] := by
  rw [fm9 _ _ (by decide)] at h8; rw [fd9 _ _ (by decide), fm9 _ _ (by decide)] at h1 h2 ⊢
  unfold stepParts; simp only; rw [if_neg (by lia), if_neg (by lia), if_neg (by lia)]
theorem part_len {pre : List Int} {y : T} (hxn : xs ≠ []) (hy : y.length ≤ 3) (hl : xs.length ≤ pre.length + 1) (hm : (xs.map List.length).sum ≤ 3 * pre.length) :
    xs.dropLast ++ [xs.getLastD [] ++ y] ≠ [] ∧ (xs.dropLast ++ [xs.getLastD [] ++ y]).length ≤ (pre ++ [a]).length + 1 ∧ ((xs.dropLast ++ [xs.getLastD [] ++ y]).map List.length).sum ≤ 3 * (pre ++ [a]).length := by
  refine ⟨by simp, by simp only [List.length_append, List.length_dropLast, List.length_singleton]; lia, ?_⟩
  have e : xs = xs.dropLast ++ [xs.getLastD []] := by
    rw [List.getLastD_eq_getLast?, List.getLast?_eq_some_getLast hxn]; exact (List.dropLast_concat_getLast hxn).symm
  have e2 : (xs.map List.length).sum = (xs.dropLast.map List.length).sum + (xs.getLastD []).length := by
    rw [e]; simp
  simp only [List.map_append, List.sum_append, List.map_cons, List.map_nil, List.sum_cons, List.sum_nil, List.length_append, List.length_singleton]; lia
end
theorem parts_call (w : World) (la : Addr) (vs : List Value) (ns : List Int) (hI : IntsAre vs ns) (hsz : ns.length ≤ 100) : Pu w 8 80 211 (fun h => h.IsList la vs.toArray) [.ref la] (RSeq "list" (partsL ns)) := by
  unfold Pu P0
  k_fill
  intro p loose mean mg mb A base l s Q E B X TT hh hd hu hpre hret
  refine' x_enter B X TT ?_
  intro L' h' F' N'
  (try dsimp only)
  (try k_fold)
  k_steps
  rename_i lN hZ l1Z hY FN NN tkN htkN
  refine' loop_pairs (R := RI) (as := ns) (σ := List T × List Value × Nat) (fun c => [(lN, listOf c.2.1.toArray c.2.2)]) (fun _ => []) [Str.ofString "kind", Str.ofString "octet"] (fun pre c => c.1 = pre.foldl stepParts [[]] ∧ StrsAre c.2.1 (c.1.map S) ∧ c.1 ≠ [] ∧ c.1.length ≤ pre.length + 1 ∧ (c.1.map List.length).sum ≤ 3 * pre.length) [] ([[]], _, _) ?zhh ?zhl ?zhr ?zF ?zN ?zk ?zp ?zadr ?zoff ?zturn ?zdone
  case zhh => assumption
  case zhl => exact fr_list FN hpre
  case zhr => exact paired_of_ints hI
  case zF => exact FN
  case zN => exact NN
  case zk => intro p hp; cases hp
  case zp => exact ⟨rfl, strs1 _ _, by simp, Nat.le_refl _, Nat.le_refl _⟩
  case zadr => intro c; rfl
  case zoff =>
    intro p hp
    rw [List.mem_singleton.mp hp]
    intro e0
    have e1 : lN = la := e0
    subst e1
    obtain ⟨_, e, _⟩ := hpre
    rw [(NN _ (.head _)).2.2] at e; cases e
  case zturn =>
    rintro ⟨xs, us, n⟩ pre a post v u h tk own has hR ⟨hxs, hus, hxn, hxl, hxm⟩ hoff F N QQ1 hQ1
    obtain ⟨ta, rfl⟩ := hR
    have hpl : pre.length < 101 := by
      have : ns.length = pre.length + (post.length + 1) := by rw [has]; simp
      lia
    have hul : us.length = xs.length := by rw [hus.len_eq, List.length_map]
    have hf0 := fmod_lo a (n := 9) (by decide)
    have hf9 := fmod_hi a (n := 9) (by decide)
    have hg0 := fmod_lo (a.fdiv 9) (n := 256) (by decide)
    have hg9 := fmod_hi (a.fdiv 9) (n := 256) (by decide)
    have hkl := kindT_len (a.fmod 9).toNat
    have hll := len_le_sum (getLastD_mem hxn)
    dsimp only at hxs hus hxn hxl hxm
    dsimp only [envOf, List.nil_append, List.cons_append, kstB] at F N
    (try k_fold)
    k_steps
    all_goals try ((first | (refine hQ1 _ _ ?_; dsimp only [LoopPost])); try k_steps)
    · refine x_end (xs ++ [[]], us ++ [.str (Str.ofString "") _], n + 1) ?_
      exact ⟨by rw [List.foldl_append, ← hxs]; exact (pt_0 (by assumption)).symm, by rw [List.map_append]; exact hus.append' (by rw [eS0]; exact .cons _ _ .nil), by simp, by simp only [List.length_append, List.length_singleton]; lia, by simp only [List.map_append, List.sum_append, List.map_cons, List.map_nil, List.sum_cons, List.sum_nil, List.length_append, List.length_singleton, List.length_nil]; lia⟩
    · refine x_end (xs.dropLast ++ [xs.getLastD [] ++ kindT (a.fmod 9).toNat], us.dropLast ++ [.str (S (xs.getLastD [] ++ kindT (a.fmod 9).toNat)) _], n) ?_
      exact ⟨by rw [List.foldl_append, ← hxs]; exact (pt_k (by assumption) (by assumption)).symm, by rw [List.map_append, List.map_dropLast]; exact (strs_dropLast hus).append' (.cons _ _ .nil), part_len hxn hkl hxl hxm⟩
    · refine x_end (xs.dropLast ++ [xs.getLastD [] ++ [47]], us.dropLast ++ [.str (S (xs.getLastD [] ++ [47])) _], n) ?_
      exact ⟨by rw [List.foldl_append, ← hxs]; exact (pt_s (by lia) (.inl (by assumption))).symm, by rw [List.map_append, List.map_dropLast]; exact (strs_dropLast hus).append' (.cons _ _ .nil), part_len hxn (by simp) hxl hxm⟩
    · refine x_end (xs.dropLast ++ [xs.getLastD [] ++ [47]], us.dropLast ++ [.str (S (xs.getLastD [] ++ [47])) _], n) ?_
      exact ⟨by rw [List.foldl_append, ← hxs]; exact (pt_s (by lia) (.inr (by assumption))).symm, by rw [List.map_append, List.map_dropLast]; exact (strs_dropLast hus).append' (.cons _ _ .nil), part_len hxn (by simp) hxl hxm⟩
    · refine x_end (xs.dropLast ++ [xs.getLastD [] ++ [((a.fdiv 9).fmod 256).toNat]], us.dropLast ++ [.str (S (xs.getLastD [] ++ [((a.fdiv 9).fmod 256).toNat])) _], n) ?_
      exact ⟨by rw [List.foldl_append, ← hxs]; exact (pt_c (by lia) (by assumption) (by assumption)).symm, by rw [List.map_append, List.map_dropLast]; exact (strs_dropLast hus).append' (.cons _ _ .nil), part_len hxn (by simp) hxl hxm⟩
  case zdone =>
    rintro ⟨xs, us, n⟩ u h tk ⟨hxs, hus, hxn, hxl, hxm⟩ F N
    dsimp only at hxs hus hxn hxl hxm
    dsimp only [envOf, List.nil_append, List.cons_append, kstB] at F N
    (try k_fold)
    k_steps
    refine hret _ _ _ (Fr.keep (by assumption)) (ret_seq (by assumption) (.head _) ?_)
    rw [partsL, ← hxs]; exact hus
end
section
example : True := by
  k_with_none
  k_with "om" => first | assumption | exact Nat.le_add_left 1 _ | exact Int.add_nonneg (by assumption) (by decide) | exact tn1 (by assumption) | exact tn2 (by assumption) | exact tn3 (by assumption) | exact meas1 (by assumption) (by assumption) | exact meas3 (by assumption) (by assumption) | exact tlt1 (by assumption) (by assumption) | exact Nat.le_trans (by assumption) (by decide) | exact Nat.le_trans (Nat.add_le_add_right (by assumption) _) (by decide) | lia
  k_with "omd" => first | decide | k_extra "om"
  k_with "oml" => first | k_extra "om" | (simp only [List.length_append, List.length_map, List.length_drop, List.length_dropLast, List.length_cons, List.length_nil]; k_extra "om")
  k_with "ne" => (refine neN ?_; (try dsimp only); first | assumption | exact neLt (by assumption) (by k_mem) | exact neGt (by assumption) (by k_mem) | exact neOf (by assumption) (by k_mem) | exact neOf' (by assumption) (by k_mem) | lia)
  k_with "room" => first | exact room_of (by assumption) (by decide) | exact room_0 (by assumption)
  k_with "units" => exact room_of (by assumption) (by decide)
  k_with "ite" => with_reducible first | refine ite_tt ?_ | refine ite_ff ?_
  k_with "eval Name" => ((with_reducible show wpAny _ _ (eval (Expr.Name _ _) (envOf _ _ _ _ _)) _ _ _); first | (name_kind "local"; with_reducible refine' n_loc ?_) | (name_kind "globalImplicit"; with_reducible first | refine' n_glo ?_ | refine' n_boo ?_))
  k_with "loadName" => with_reducible refine' n_load ?_
  k_with "storeName" => (with_reducible refine' n_store ?_; intros; (try k_sweep))
  k_with "callWith" => with_reducible first | refine callWith_method0 ?_ | refine' n_cw0 ?_ | refine' n_cw1 ?_ | ((show wpAny _ _ (callWith _ (Value.builtin _) _ _ []) _ _ _); refine' n_cw ?_)
  k_with "callWith ref" => ((with_reducible show wpAny _ _ (callWith _ _ _ (backTo _ (starEach (_ :: _) _)) []) _ _ _); with_reducible refine' n_cwK ?_)
  k_with "eval Call" => with_reducible refine' n_call ?_
  k_with "eval Call Attribute" => with_reducible refine' n_mcall ?_
  k_with "exec Assign" => ((with_reducible show wpAny _ _ (exec (Stmt.Assign [Expr.Name _ _] _ _) _) _ _ _); with_reducible refine' n_asg ?_)
  k_with "exec If" => with_reducible refine wpAny_If ?_
  k_with "spliced" => ((with_reducible show wpAny _ _ (spliced (backTo _ (starEach (_ :: _) _))) _ _ _); with_reducible refine' n_acons ?_)
  k_with "newList" => (with_reducible refine' n_newl ?_; intros; (try k_sweep))
  k_with "eval BinOp" => with_reducible refine wpAny_BinOp ?_
  k_with "execs cons" => with_reducible first | (refine toks_cons ?_; intros) | refine wpAny_execs_cons ?_
  k_with "execs nil" => with_reducible refine wpAny_execs_nil ?_
  k_with "isTrue Name" => with_reducible refine' n_true ?_
  k_with "isTrue Call" => with_reducible refine' n_true ?_
  k_with "isTrue Compare" => ((with_reducible show wpAny _ _ (isTrue (PySem.Expr.Compare _ [_] [_] _) _ _) _ _ _); with_reducible refine wpAny_isTrue_Compare1 ?_)
  k_with "isTrue BoolOp" => with_reducible first | refine isTrue_and_nil ?_ | refine isTrue_or_nil ?_ | refine isTrue_and ?_ | refine isTrue_or ?_
  k_with "isTrue UnaryOp" => with_reducible refine isTrue_not ?_
  k_with "eval UnaryOp" => with_reducible refine UnaryOp_ ?_
  k_with "unaryOp USub int" => with_reducible refine n_neg ?_
  k_with "eval Subscript" => with_reducible refine Subscript_ ?_
  k_with "eval Slice" => with_reducible refine wpAny_Slice ?_
  k_with "evalPart some" => with_reducible refine evalPart_some_step ?_
  k_with "evalPart none" => with_reducible refine evalPart_none_step ?_
  k_with "exec AugAssign" => with_reducible refine wpAny_AugAssign_Name ?_
  k_with "exec Return some" => with_reducible refine wpAny_Return_some ?_
  k_with "exec Continue" => with_reducible refine wpAny_Continue ?_
  k_with "eval Constant str" => with_reducible refine n_str ?_
  k_with "eval Constant int" => with_reducible refine n_int ?_
  k_with "compareOp Eq str str" => with_reducible refine PyProof.Rows.eq_str ?_
  k_with "compareOp NotEq str str" => with_reducible refine PyProof.Rows.ne_str ?_
  k_with "inplaceOp Add int int" => with_reducible refine n_iaddi ?_
  k_with "binaryOp Add int int" => with_reducible refine n_addi ?_
  k_with "binaryOp Sub int int" => with_reducible refine n_subi ?_
  k_with "eval Tuple" => with_reducible refine Tuple_ ?_
  k_with "eval List" => with_reducible refine List_ ?_
  k_with "assign Name" => with_reducible refine PyProof.Rows.assign_Name ?_
  k_with "truthy bool" => with_reducible refine wpAny_truthy_bool ?_
  k_with "es" => with_reducible first | exact rfl | exact eS47 | exact eS61 | exact eS10 | exact eS46 | exact eSdd | exact eS32 | exact eS9 | exact eS0 | exact (S_of _).symm
  k_with "ls" => first | exact news_list (by k_asm) (by k_mem) | exact fr_list (by k_asm) (by k_asm)
  k_with "ss" => first | assumption | exact strs1 _ _
  k_with "nn" => first | assumption | exact splitL_ne _ _
  k_with "kp" => first | exact True.intro | ((try dsimp only); first | k_extra "ls" | assumption | k_extra "oml")
  k_with "c" => first | with_reducible assumption | ((with_reducible show StrsAre _ _); k_extra "ss") | ((with_reducible show Heap.IsList _ _ _); k_extra "ls") | ((with_reducible show plainIx _ = true); exact rfl) | ((with_reducible show _ = S _); k_extra "es") | ((with_reducible show _ ≠ _); k_extra "nn") | ((with_reducible show 0 ≤ _); k_extra "omd") | k_extra "oml"
  k_with "cc" => first | ((with_reducible refine And.intro ?za ?zb); (case za => k_extra "c"); (case zb => k_extra "cc")) | k_extra "c"
  k_with "pyIter ref" => with_reducible refine AtIter.on ?_
  k_with "call ref" => ((with_reducible refine' x_use (by k_dflt k_extra "pu") ?_); (with_reducible first | refine useE ?_ | refine useS ?_ | refine useI ?_ | refine useT3 (by assumption) (by assumption) ?_ | refine useT2 (by assumption) (by assumption) ?_ | refine useL (by assumption) (by assumption) ?_ | refine useT (by assumption) (by assumption) ?_); intros; (try k_sweep); (try k_fold))
  k_with "subscriptTail" => k_dflt ((first | ((with_reducible refine' p_butlast ?zk ?_); (case zk => k_extra "cc")) | ((with_reducible refine' p_to ?zk ?_); (case zk => k_extra "cc")) | ((with_reducible refine' p_last ?zk ?_); (case zk => k_extra "cc")) | ((with_reducible refine' p_from ?zk ?_); (case zk => k_extra "cc")) | ((with_reducible refine' p_midback ?zk ?_); (case zk => k_extra "cc")) | ((with_reducible refine' p_mid ?zk ?_); (case zk => k_extra "cc")) | ((with_reducible refine' q_rev ?zk ?_); (case zk => k_extra "cc")) | ((with_reducible refine' q_back ?zk ?_); (case zk => k_extra "cc")) | ((with_reducible refine' q_midback ?zk ?_); (case zk => k_extra "cc")) | ((with_reducible refine' i_slast ?zk ?_); (case zk => k_extra "cc")) | ((with_reducible refine' i_sat ?zk ?_); (case zk => k_extra "cc")) | ((with_reducible refine' i_last ?zk ?_); (case zk => k_extra "cc")) | ((with_reducible refine' i_nat ?zk ?_); (case zk => k_extra "cc"))); intros; (try k_sweep))
  k_with "call builtin:str.split" => (with_reducible refine' x_split ?_; intros; (try k_sweep))
  k_with "call builtin:str.splitlines" => (with_reducible refine' x_lines ?_; intros; (try k_sweep))
  k_with "call builtin:str.join" => (with_reducible refine' x_join ?_; intros)
  k_with "binaryOp Add str str" => (with_reducible refine' x_add ?_; intros)
  k_with "inplaceOp Add str str" => (with_reducible refine' x_iadd ?_; intros)
  k_with "call builtin:len" => with_reducible first | ((show wpAny _ _ (call _ [Value.str _ _]) _ _ _); refine' x_len ?_; intros) | (refine' x_llen ?_; intros)
  k_with "call builtin:str.rstrip" => with_reducible first | ((show wpAny _ _ (call _ [_]) _ _ _); refine' x_rstrip ?_; intros) | (refine' x_rstripc ?_; intros)
  k_with "call builtin:str.lstrip" => (with_reducible refine' x_lstripc ?_; intros)
  k_with "call builtin:chr" => (with_reducible refine' x_chr ?_; intros)
  k_with "call builtin:str.replace" => (with_reducible refine' x_replace ?_; intros)
  k_with "call builtin:min" => (with_reducible refine' x_min ?_; intros; (try k_sweep))
  k_with "call builtin:list.pop" => (with_reducible refine' x_pop ?_; intros; (try k_sweep))
  k_with "call builtin:list.append" => (with_reducible refine' x_append ?_; intros; (try k_sweep))
  k_with "setItem ref int" => (with_reducible refine' x_setlast ?_; intros; (try k_sweep))
  k_with "binaryOp Add ref ref" => (with_reducible refine' x_ladd ?_; intros; (try k_sweep))
  k_with "binaryOp Mult str int" => (with_reducible refine' x_smul ?_; intros)
  k_with "binaryOp Mult ref int" => (with_reducible refine' x_lmul ?_; intros; (try k_sweep))
  k_with "truthy ref" => (with_reducible refine' x_truthyL ?_; intros)
  k_with "truthy str" => (with_reducible refine' x_truthyS ?_; intros)
  k_with "assign Tuple" => (with_reducible refine' x_unpack ?_; intros)
  k_with "exec For" => with_reducible refine' x_for ?_
  k_with "sub" => first | (with_reducible exact sub_nil) | ((with_reducible refine sub_cons ?zh ?_); (case zh => k_mem); k_extra "sub") | (with_reducible exact (fun _ hp => hp)) | ((with_reducible refine sub_tail ?_); k_extra "sub")
  k_with "fz" => repeat' (first | (with_reducible exact same_u) | (with_reducible exact same_refl) | ((with_reducible refine same_if ?zh ?_); (case zh => k_mem)) | ((with_reducible refine same_st ?zh ?_); (case zh => k_mem)) | ((with_reducible refine same_kcons ?zh ?_); (case zh => k_mem)) | (with_reducible refine same_knil ?_) | ((with_reducible refine same_ins ?zh ?_); (case zh => k_extra "sub")) | exact same_refl)
  k_with "src" => refine' x_list
  k_with "CompInG" => with_reducible refine' x_src ?_ ?_ ?_
  k_with "TestG" => k_dflt (first | exact test_none | (refine test_RT ?_; intros))
  k_with "EltG" => k_dflt (refine elt_RT ?_; intros)
  k_with "FinG" => k_dflt ((first | refine fin_tt ?_ | refine fin_id ?_ | refine fin_g ?_); intros)
  k_with "exec While" => with_reducible refine AtWhile.on ?_
  trivial
section
variable {d : Int} {ks : List T} {a : T}
theorem sp_dd (h : (S a == Str.ofString "..") = true) (h0 : 0 ≤ d) : stepP (d.toNat, ks) a = ((d + 1).toNat, ks) := by
  rw [eSdd, S_beq, beq_iff_eq] at h
  unfold stepP; rw [if_pos (show a = dd from h)]
  exact congrArg (·, ks) (by lia)
theorem sp_pay (h : (S a == Str.ofString "..") = false) (h1 : (S a != Str.ofString "") = true) (h2 : (S a != Str.ofString ".") = true) (hd : 0 < d) : stepP (d.toNat, ks) a = ((d - 1).toNat, ks) := by
  rw [eSdd, S_beq, beq_eq_false_iff_ne] at h; rw [eS0, S_bne, bne_iff_ne] at h1; rw [eS46, S_bne, bne_iff_ne] at h2
  unfold stepP; rw [if_neg (show ¬ a = dd from h), if_pos ⟨h1, h2⟩, if_pos (by show 0 < d.toNat; lia)]
  exact congrArg (·, ks) (by show d.toNat - 1 = _; lia)
theorem sp_keep (h : (S a == Str.ofString "..") = false) (h1 : (S a != Str.ofString "") = true) (h2 : (S a != Str.ofString ".") = true) (hd : d ≤ 0) : stepP (d.toNat, ks) a = (d.toNat, ks ++ [a]) := by
  rw [eSdd, S_beq, beq_eq_false_iff_ne] at h; rw [eS0, S_bne, bne_iff_ne] at h1; rw [eS46, S_bne, bne_iff_ne] at h2
  unfold stepP; rw [if_neg (show ¬ a = dd from h), if_pos ⟨h1, h2⟩, if_neg (by show ¬ 0 < d.toNat; lia)]
theorem sp_skip0 (h : (S a == Str.ofString "..") = false) (h1 : (S a != Str.ofString "") = false) : stepP (d.toNat, ks) a = (d.toNat, ks) := by
  rw [eSdd, S_beq, beq_eq_false_iff_ne] at h; rw [eS0, S_bne, bne_eq_false_iff_eq] at h1
  unfold stepP; rw [if_neg (show ¬ a = dd from h), if_neg (fun q => q.1 h1)]
theorem sp_skip1 (h : (S a == Str.ofString "..") = false) (h1 : (S a != Str.ofString ".") = false) : stepP (d.toNat, ks) a = (d.toNat, ks) := by
  rw [eSdd, S_beq, beq_eq_false_iff_ne] at h; rw [eS46, S_bne, bne_eq_false_iff_eq] at h1
  unfold stepP; rw [if_neg (show ¬ a = dd from h), if_neg (fun q => q.2 h1)]
end
theorem slcont : (Str.ofString "/").cps.contains = (· == 47) := by
  funext c
  have : (Str.ofString "/").cps = #[47] := by decide +kernel
  rw [this]
  simp [Array.contains]
theorem eSl2 : Str.ofString "//" = S [47, 47] := by decide +kernel
section
variable {x : T} {d : Int} {ks : List T} {r y : T}
theorem root_two (h : (x.length : Int) - ((x.dropWhile (Str.ofString "/").cps.contains).length : Int) = 2) : [47, 47] = rootL x := by
  rw [slcont] at h
  unfold rootL; simp only; rw [if_pos (by lia)]
theorem root_not (h : (x.length : Int) - ((x.dropWhile (Str.ofString "/").cps.contains).length : Int) ≠ 2) : List.replicate (min ((x.length : Int) - ((x.dropWhile (Str.ofString "/").cps.contains).length : Int)) 1).toNat 47 = rootL x := by
  have hle : (x.dropWhile (· == 47)).length ≤ x.length := (List.dropWhile_sublist _).length_le
  rw [slcont] at h ⊢
  unfold rootL; simp only; rw [if_neg (by lia)]
  congr 1; lia
theorem rootL_len : (rootL x).length ≤ 2 := by
  unfold rootL; simp only; split
  · simp
  · rw [List.length_replicate]; lia
theorem made_a (hk : (d.toNat, ks) = (splitL 47 x).reverse.foldl stepP (0, [])) (hne : rootL x ≠ []) : madeL x = rootL x ++ joinL [47] ks.reverse := by
  unfold madeL; simp only; rw [← hk, if_neg hne]
theorem made_b (hk : (d.toNat, ks) = (splitL 47 x).reverse.foldl stepP (0, [])) (hne : rootL x = []) : madeL x = rootL x ++ joinL [47] (ks ++ List.replicate d.toNat [46, 46]).reverse := by
  unfold madeL; simp only; rw [← hk, if_pos hne]; rfl
theorem fin_t (hm : madeL x = y) (h : (S y != Str.ofString "") = true) : plainL x = y := by
  rw [eS0, S_bne, bne_iff_ne] at h
  unfold plainL; rw [hm, if_pos h]
theorem fin_f (hm : madeL x = y) (h : (S y != Str.ofString "") = false) : plainL x = [46] := by
  rw [eS0, S_bne, bne_eq_false_iff_eq] at h
  unfold plainL; rw [hm, if_neg (not_not_intro h)]
theorem ne_S0 (h : (S r == Str.ofString "") = false) : r ≠ [] := by rw [eS0, S_beq, beq_eq_false_iff_ne] at h; exact h
theorem is_S0 (h : (S r == Str.ofString "") = true) : r = [] := by rw [eS0, S_beq, beq_iff_eq] at h; exact h
end
example : True := by
  k_with "exec If Compare" => ((with_reducible show wpAny _ _ (exec (Stmt.If (PySem.Expr.Compare (PySem.Expr.Name (Str.ofString "slashes") _) _ _ _) _ _ _) _) _ _ _); with_reducible refine AtIter.on ?_)
  trivial
theorem plain_call (w : World) (x : T) (t : Tok) (hsz : x.length ≤ 100000) (hpc : (splitL 47 x).length ≤ 250) : Pu w 8 80 247 (fun _ => True) [.str (S x) t] (RStr (plainL x)) := by
  unfold Pu P0
  k_fill
  intro p loose mean mg mb A base l s Q E B X TT hh hd hu hpre hret
  refine' x_enter B X TT ?_
  intro L' h' F' N'
  (try dsimp only)
  (try k_fold)
  have hlw : (x.dropWhile (Str.ofString "/").cps.contains).length ≤ x.length := (List.dropWhile_sublist _).length_le
  have hsum := splitL_sum 47 x
  k_steps
  refine x_joinS (Str.ofString "root") (rootL x) (by assumption) (by assumption) ?zj ?zk
  case zj =>
    refine wpAny_If ?_
    k_steps
    · exact JoinS.of (by assumption) (by assumption) (fun z => by dsimp only; rw [← root_two (by assumption), eSl2]; split <;> rfl)
    · exact JoinS.of (by assumption) (by assumption) (fun z => by rw [← root_not (by assumption)])
  case zk =>
    intro hJ tkJ tJ FJ NJ
    have hrl := rootL_len (x := x)
    k_steps
    rename_i lN hl lA hm tkm htkm D1 vs1 h1 k1 hk1 hS1 l3 D2 vs2 h2 hS2 FN NN l4
    refine' loop_pairs (R := RT) (as := (splitL 47 x).reverse) (σ := Int × Tok × List T × List Value × Nat) (fun c => [(lN, listOf c.2.2.2.1.toArray c.2.2.2.2)]) (fun c => [(Str.ofString "debt", .int c.1 c.2.1)]) [Str.ofString "debt"] (fun pre c => (c.1.toNat, c.2.2.1) = pre.foldl stepP (0, []) ∧ StrsAre c.2.2.2.1 (c.2.2.1.map S) ∧ 0 ≤ c.1 ∧ (c.2.2.1.length : Int) + c.1 ≤ (pre.length : Int) ∧ (c.2.2.1.map List.length).sum ≤ (pre.map List.length).sum) [(D2, listOf vs2.toArray 0)] (0, _, [], [], 0) ?zhh ?zhl ?zhr ?zF ?zN ?zk ?zp ?zadr ?zoff ?zturn ?zdone
    case zhh => assumption
    case zhl => exact news_list NN (.head _)
    case zhr => exact paired_of_strs hS2
    case zF => exact FN
    case zN => exact fun p hp => NN p (by simp only [List.cons_append, List.nil_append, List.mem_cons, List.not_mem_nil, or_false] at hp ⊢; rcases hp with h | h <;> simp [h])
    case zk => kst_all
    case zp => exact ⟨rfl, .nil, Int.le_refl _, Int.le_refl _, Nat.le_refl _⟩
    case zadr => intro c; rfl
    case zoff => intro p hp; rw [List.mem_singleton.mp hp]; exact neLt l4 (.tail _ (.head _))
    case zturn =>
      rintro ⟨d, td, ks, us, n⟩ pre a post v u h tk own has hR ⟨hks, hus, hd0, hkl, hkm⟩ hoff F N QQ1 hQ1
      obtain ⟨ta, rfl⟩ := hR
      have hal : a.length ≤ 100000 := by
        have := splitL_item 47 (x := x) (p := a) (List.mem_reverse.mp (by rw [has]; simp))
        lia
      have hpl : pre.length < 251 := by
        have : (splitL 47 x).reverse.length = pre.length + (post.length + 1) := by rw [has]; simp
        rw [List.length_reverse] at this
        lia
      have hul : us.length = ks.length := by rw [hus.len_eq, List.length_map]
      dsimp only at hks hus hd0 hkl hkm
      have hus2 : us.length ≤ 16000000 := by lia
      dsimp only [envOf, List.nil_append, List.cons_append] at F N
      (try k_fold)
      k_steps
      all_goals try ((first | (refine hQ1 _ _ ?_; dsimp only [LoopPost])); try k_steps)
      · refine x_end (d + 1, _, ks, us, n) ?_
        exact ⟨by rw [List.foldl_append, ← hks]; exact (sp_dd (by assumption) hd0).symm, hus, by dsimp only; lia, by simp only [List.map_append, List.sum_append, List.map_cons, List.map_nil, List.sum_cons, List.sum_nil, List.length_append, List.length_singleton]; lia, by simp only [List.map_append, List.sum_append, List.map_cons, List.map_nil, List.sum_cons, List.sum_nil, List.length_append, List.length_singleton]; lia⟩
      · refine x_end (d - 1, _, ks, us, n) ?_
        exact ⟨by rw [List.foldl_append, ← hks]; exact (sp_pay (by assumption) (by assumption) (by assumption) (by assumption)).symm, hus, by dsimp only; lia, by simp only [List.map_append, List.sum_append, List.map_cons, List.map_nil, List.sum_cons, List.sum_nil, List.length_append, List.length_singleton]; lia, by simp only [List.map_append, List.sum_append, List.map_cons, List.map_nil, List.sum_cons, List.sum_nil, List.length_append, List.length_singleton]; lia⟩
      · refine x_end (d, td, ks ++ [a], us ++ [.str (S a) ta], n + 1) ?_
        exact ⟨by rw [List.foldl_append, ← hks]; exact (sp_keep (by assumption) (by assumption) (by assumption) (by lia)).symm, strs_snoc hus, by dsimp only; lia, by simp only [List.map_append, List.sum_append, List.map_cons, List.map_nil, List.sum_cons, List.sum_nil, List.length_append, List.length_singleton]; lia, by simp only [List.map_append, List.sum_append, List.map_cons, List.map_nil, List.sum_cons, List.sum_nil, List.length_append, List.length_singleton]; lia⟩
      · refine x_end (d, td, ks, us, n) ?_
        exact ⟨by rw [List.foldl_append, ← hks]; exact (sp_skip1 (by assumption) (by assumption)).symm, hus, by dsimp only; lia, by simp only [List.map_append, List.sum_append, List.map_cons, List.map_nil, List.sum_cons, List.sum_nil, List.length_append, List.length_singleton]; lia, by simp only [List.map_append, List.sum_append, List.map_cons, List.map_nil, List.sum_cons, List.sum_nil, List.length_append, List.length_singleton]; lia⟩
      · refine x_end (d, td, ks, us, n) ?_
        exact ⟨by rw [List.foldl_append, ← hks]; exact (sp_skip0 (by assumption) (by assumption)).symm, hus, by dsimp only; lia, by simp only [List.map_append, List.sum_append, List.map_cons, List.map_nil, List.sum_cons, List.sum_nil, List.length_append, List.length_singleton]; lia, by simp only [List.map_append, List.sum_append, List.map_cons, List.map_nil, List.sum_cons, List.sum_nil, List.length_append, List.length_singleton]; lia⟩
    case zdone =>
      rintro ⟨d, td, ks, us, n⟩ u h tk ⟨hks, hus, hd0, hkl, hkm⟩ F N
      have hul : us.length = ks.length := by rw [hus.len_eq, List.length_map]
      dsimp only at hks hus hd0 hkl hkm
      dsimp only [envOf, List.nil_append, List.cons_append] at F N
      rw [List.length_reverse] at hkl
      have hrs : (ks.reverse.map List.length).sum = (ks.map List.length).sum := by rw [List.map_reverse, List.sum_reverse]
      have hrs0 : (((splitL 47 x).reverse).map List.length).sum = ((splitL 47 x).map List.length).sum := by rw [List.map_reverse, List.sum_reverse]
      rw [hrs0] at hkm
      have hrep : (List.replicate d.toNat ([46, 46] : T)).length = d.toNat := List.length_replicate
      have hrp2 : ((List.replicate d.toNat ([46, 46] : T)).map List.length).sum = d.toNat * 2 := by rw [List.map_replicate, List.sum_replicate_nat]; rfl
      have hrs2 : ((ks ++ List.replicate d.toNat [46, 46]).reverse.map List.length).sum = (ks.map List.length).sum + d.toNat * 2 := by rw [List.map_reverse, List.sum_reverse, List.map_append, List.sum_append, hrp2]
      have hrl2 : (ks ++ List.replicate d.toNat [46, 46]).reverse.length = ks.length + d.toNat := by rw [List.length_reverse, List.length_append, hrep]
      have hrl3 : (ks ++ List.replicate d.toNat [46, 46]).length = ks.length + d.toNat := by rw [List.length_append, hrep]
      have hr0 : ks.reverse.length = ks.length := List.length_reverse
      have h1l : ([47] : T).length = 1 := rfl
      have hjl1 := joinL_len [47] ks.reverse
      have hjl2 := joinL_len [47] (ks ++ List.replicate d.toNat [46, 46]).reverse
      rw [h1l] at hjl1 hjl2
      (try k_fold)
      k_steps
      · exact hret _ _ _ (Fr.keep (by assumption)) (RStr.of (by rw [fin_t (made_b hks (is_S0 (by assumption))) (by assumption)]))
      · exact hret _ _ _ (Fr.keep (by assumption)) (RStr.of (by rw [fin_f (made_b hks (is_S0 (by assumption))) (by assumption)]; exact eS46))
      · exact hret _ _ _ (Fr.keep (by assumption)) (RStr.of (by rw [fin_t (made_a hks (ne_S0 (by assumption))) (by assumption)]))
      · exact hret _ _ _ (Fr.keep (by assumption)) (RStr.of (by rw [fin_f (made_a hks (ne_S0 (by assumption))) (by assumption)]; exact eS46))
end
section
example : True := by
  k_with_none
  k_with "om" => first | assumption | exact Nat.le_add_left 1 _ | exact Int.add_nonneg (by assumption) (by decide) | exact tn1 (by assumption) | exact tn2 (by assumption) | exact tn3 (by assumption) | exact meas1 (by assumption) (by assumption) | exact meas3 (by assumption) (by assumption) | exact tlt1 (by assumption) (by assumption) | exact Nat.le_trans (by assumption) (by decide) | exact Nat.le_trans (Nat.add_le_add_right (by assumption) _) (by decide) | lia
  k_with "omd" => first | decide | k_extra "om"
  k_with "oml" => first | k_extra "om" | (simp only [List.length_append, List.length_map, List.length_drop, List.length_dropLast, List.length_cons, List.length_nil]; k_extra "om")
  k_with "ne" => (refine neN ?_; (try dsimp only); first | assumption | exact neLt (by assumption) (by k_mem) | exact neGt (by assumption) (by k_mem) | exact neOf (by assumption) (by k_mem) | exact neOf' (by assumption) (by k_mem) | lia)
  k_with "room" => first | exact room_of (by assumption) (by decide) | exact room_0 (by assumption)
  k_with "units" => exact room_of (by assumption) (by decide)
  k_with "ite" => with_reducible first | refine ite_tt ?_ | refine ite_ff ?_
  k_with "eval Name" => ((with_reducible show wpAny _ _ (eval (Expr.Name _ _) (envOf _ _ _ _ _)) _ _ _); first | (name_kind "local"; with_reducible refine' n_loc ?_) | (name_kind "globalImplicit"; with_reducible first | refine' n_glo ?_ | refine' n_boo ?_))
  k_with "loadName" => with_reducible refine' n_load ?_
  k_with "storeName" => (with_reducible refine' n_store ?_; intros; (try k_sweep))
  k_with "callWith" => with_reducible first | refine callWith_method0 ?_ | refine' n_cw0 ?_ | refine' n_cw1 ?_ | ((show wpAny _ _ (callWith _ (Value.builtin _) _ _ []) _ _ _); refine' n_cw ?_)
  k_with "callWith ref" => ((with_reducible show wpAny _ _ (callWith _ _ _ (backTo _ (starEach (_ :: _) _)) []) _ _ _); with_reducible refine' n_cwK ?_)
  k_with "eval Call" => with_reducible refine' n_call ?_
  k_with "eval Call Attribute" => with_reducible refine' n_mcall ?_
  k_with "exec Assign" => ((with_reducible show wpAny _ _ (exec (Stmt.Assign [Expr.Name _ _] _ _) _) _ _ _); with_reducible refine' n_asg ?_)
  k_with "exec If" => with_reducible refine wpAny_If ?_
  k_with "spliced" => ((with_reducible show wpAny _ _ (spliced (backTo _ (starEach (_ :: _) _))) _ _ _); with_reducible refine' n_acons ?_)
  k_with "newList" => (with_reducible refine' n_newl ?_; intros; (try k_sweep))
  k_with "eval BinOp" => with_reducible refine wpAny_BinOp ?_
  k_with "execs cons" => with_reducible first | (refine toks_cons ?_; intros) | refine wpAny_execs_cons ?_
  k_with "execs nil" => with_reducible refine wpAny_execs_nil ?_
  k_with "isTrue Name" => with_reducible refine' n_true ?_
  k_with "isTrue Call" => with_reducible refine' n_true ?_
  k_with "isTrue Compare" => ((with_reducible show wpAny _ _ (isTrue (PySem.Expr.Compare _ [_] [_] _) _ _) _ _ _); with_reducible refine wpAny_isTrue_Compare1 ?_)
  k_with "isTrue BoolOp" => with_reducible first | refine isTrue_and_nil ?_ | refine isTrue_or_nil ?_ | refine isTrue_and ?_ | refine isTrue_or ?_
  k_with "isTrue UnaryOp" => with_reducible refine isTrue_not ?_
  k_with "eval UnaryOp" => with_reducible refine UnaryOp_ ?_
  k_with "unaryOp USub int" => with_reducible refine n_neg ?_
  k_with "eval Subscript" => with_reducible refine Subscript_ ?_
  k_with "eval Slice" => with_reducible refine wpAny_Slice ?_
  k_with "evalPart some" => with_reducible refine evalPart_some_step ?_
  k_with "evalPart none" => with_reducible refine evalPart_none_step ?_
  k_with "exec AugAssign" => with_reducible refine wpAny_AugAssign_Name ?_
  k_with "exec Return some" => with_reducible refine wpAny_Return_some ?_
  k_with "exec Continue" => with_reducible refine wpAny_Continue ?_
  k_with "eval Constant str" => with_reducible refine n_str ?_
  k_with "eval Constant int" => with_reducible refine n_int ?_
  k_with "compareOp Eq str str" => with_reducible refine PyProof.Rows.eq_str ?_
  k_with "compareOp NotEq str str" => with_reducible refine PyProof.Rows.ne_str ?_
  k_with "inplaceOp Add int int" => with_reducible refine n_iaddi ?_
  k_with "binaryOp Add int int" => with_reducible refine n_addi ?_
  k_with "binaryOp Sub int int" => with_reducible refine n_subi ?_
  k_with "eval Tuple" => with_reducible refine Tuple_ ?_
  k_with "eval List" => with_reducible refine List_ ?_
  k_with "assign Name" => with_reducible refine PyProof.Rows.assign_Name ?_
  k_with "truthy bool" => with_reducible refine wpAny_truthy_bool ?_
  k_with "es" => with_reducible first | exact rfl | exact eS47 | exact eS61 | exact eS10 | exact eS46 | exact eSdd | exact eS32 | exact eS9 | exact eS0 | exact (S_of _).symm
  k_with "ls" => first | exact news_list (by k_asm) (by k_mem) | exact fr_list (by k_asm) (by k_asm)
  k_with "ss" => first | assumption | exact strs1 _ _
  k_with "nn" => first | assumption | exact splitL_ne _ _
  k_with "kp" => first | exact True.intro | ((try dsimp only); first | k_extra "ls" | assumption | k_extra "oml")
  k_with "c" => first | with_reducible assumption | ((with_reducible show StrsAre _ _); k_extra "ss") | ((with_reducible show Heap.IsList _ _ _); k_extra "ls") | ((with_reducible show plainIx _ = true); exact rfl) | ((with_reducible show _ = S _); k_extra "es") | ((with_reducible show _ ≠ _); k_extra "nn") | ((with_reducible show 0 ≤ _); k_extra "omd") | k_extra "oml"
  k_with "cc" => first | ((with_reducible refine And.intro ?za ?zb); (case za => k_extra "c"); (case zb => k_extra "cc")) | k_extra "c"
  k_with "pyIter ref" => with_reducible refine AtIter.on ?_
  k_with "call ref" => ((with_reducible refine' x_use (by k_dflt k_extra "pu") ?_); (with_reducible first | refine useE ?_ | refine useS ?_ | refine useI ?_ | refine useT3 (by assumption) (by assumption) ?_ | refine useT2 (by assumption) (by assumption) ?_ | refine useL (by assumption) (by assumption) ?_ | refine useT (by assumption) (by assumption) ?_); intros; (try k_sweep); (try k_fold))
  k_with "subscriptTail" => k_dflt ((first | ((with_reducible refine' p_butlast ?zk ?_); (case zk => k_extra "cc")) | ((with_reducible refine' p_to ?zk ?_); (case zk => k_extra "cc")) | ((with_reducible refine' p_last ?zk ?_); (case zk => k_extra "cc")) | ((with_reducible refine' p_from ?zk ?_); (case zk => k_extra "cc")) | ((with_reducible refine' p_midback ?zk ?_); (case zk => k_extra "cc")) | ((with_reducible refine' p_mid ?zk ?_); (case zk => k_extra "cc")) | ((with_reducible refine' q_rev ?zk ?_); (case zk => k_extra "cc")) | ((with_reducible refine' q_back ?zk ?_); (case zk => k_extra "cc")) | ((with_reducible refine' q_midback ?zk ?_); (case zk => k_extra "cc")) | ((with_reducible refine' i_slast ?zk ?_); (case zk => k_extra "cc")) | ((with_reducible refine' i_sat ?zk ?_); (case zk => k_extra "cc")) | ((with_reducible refine' i_last ?zk ?_); (case zk => k_extra "cc")) | ((with_reducible refine' i_nat ?zk ?_); (case zk => k_extra "cc"))); intros; (try k_sweep))
  k_with "call builtin:str.split" => (with_reducible refine' x_split ?_; intros; (try k_sweep))
  k_with "call builtin:str.splitlines" => (with_reducible refine' x_lines ?_; intros; (try k_sweep))
  k_with "call builtin:str.join" => (with_reducible refine' x_join ?_; intros)
  k_with "binaryOp Add str str" => (with_reducible refine' x_add ?_; intros)
  k_with "inplaceOp Add str str" => (with_reducible refine' x_iadd ?_; intros)
  k_with "call builtin:len" => with_reducible first | ((show wpAny _ _ (call _ [Value.str _ _]) _ _ _); refine' x_len ?_; intros) | (refine' x_llen ?_; intros)
  k_with "call builtin:str.rstrip" => with_reducible first | ((show wpAny _ _ (call _ [_]) _ _ _); refine' x_rstrip ?_; intros) | (refine' x_rstripc ?_; intros)
  k_with "call builtin:str.lstrip" => (with_reducible refine' x_lstripc ?_; intros)
  k_with "call builtin:chr" => (with_reducible refine' x_chr ?_; intros)
  k_with "call builtin:str.replace" => (with_reducible refine' x_replace ?_; intros)
  k_with "call builtin:min" => (with_reducible refine' x_min ?_; intros; (try k_sweep))
  k_with "call builtin:list.pop" => (with_reducible refine' x_pop ?_; intros; (try k_sweep))
  k_with "call builtin:list.append" => (with_reducible refine' x_append ?_; intros; (try k_sweep))
  k_with "setItem ref int" => (with_reducible refine' x_setlast ?_; intros; (try k_sweep))
  k_with "binaryOp Add ref ref" => (with_reducible refine' x_ladd ?_; intros; (try k_sweep))
  k_with "binaryOp Mult str int" => (with_reducible refine' x_smul ?_; intros)
  k_with "binaryOp Mult ref int" => (with_reducible refine' x_lmul ?_; intros; (try k_sweep))
  k_with "truthy ref" => (with_reducible refine' x_truthyL ?_; intros)
  k_with "truthy str" => (with_reducible refine' x_truthyS ?_; intros)
  k_with "assign Tuple" => (with_reducible refine' x_unpack ?_; intros)
  k_with "exec For" => with_reducible refine' x_for ?_
  k_with "sub" => first | (with_reducible exact sub_nil) | ((with_reducible refine sub_cons ?zh ?_); (case zh => k_mem); k_extra "sub") | (with_reducible exact (fun _ hp => hp)) | ((with_reducible refine sub_tail ?_); k_extra "sub")
  k_with "fz" => repeat' (first | (with_reducible exact same_u) | (with_reducible exact same_refl) | ((with_reducible refine same_if ?zh ?_); (case zh => k_mem)) | ((with_reducible refine same_st ?zh ?_); (case zh => k_mem)) | ((with_reducible refine same_kcons ?zh ?_); (case zh => k_mem)) | (with_reducible refine same_knil ?_) | ((with_reducible refine same_ins ?zh ?_); (case zh => k_extra "sub")) | exact same_refl)
  k_with "src" => refine' x_list
  k_with "CompInG" => with_reducible refine' x_src ?_ ?_ ?_
  k_with "TestG" => k_dflt (first | exact test_none | (refine test_RT ?_; intros))
  k_with "EltG" => k_dflt (refine elt_RT ?_; intros)
  k_with "FinG" => k_dflt ((first | refine fin_tt ?_ | refine fin_id ?_ | refine fin_g ?_); intros)
  k_with "exec While" => with_reducible refine AtWhile.on ?_
  trivial
theorem splitroot_len (x : T) : (splitrootL x).1.length ≤ 2 ∧ (splitrootL x).2.length ≤ x.length := by
  unfold splitrootL
  split
  · simp
  · split
    · simp
    · simp only [List.length_take, List.length_drop]; lia
section
variable {i : Bool} {xs : List T} {a : T}
theorem step_nil (h : ¬ a ≠ []) : stepN i xs a = xs := by unfold stepN; simp at h; simp [h]
theorem step_dot (h : (S a == Str.ofString ".") = true) : stepN i xs a = xs := by rw [eS46, S_beq, beq_iff_eq] at h; unfold stepN; simp [h]
theorem step_a (h0 : a ≠ []) (h : (S a == Str.ofString ".") = false) (h1 : (S a != Str.ofString "..") = true) : stepN i xs a = xs ++ [a] := by
  rw [eS46, S_beq, beq_eq_false_iff_ne] at h; rw [eSdd, S_bne, bne_iff_ne] at h1; unfold stepN; simp [h0, h, h1]
theorem step_b (h1 : (S a != Str.ofString "..") = false) (h2 : i = false) (h3 : ¬ xs ≠ []) : stepN i xs a = xs ++ [a] := by
  rw [eSdd, S_bne, bne_eq_false_iff_eq] at h1; simp at h3; unfold stepN; simp [h1, h2, h3]
theorem step_c (h1 : (S a != Str.ofString "..") = false) (h2 : xs ≠ []) (h3 : (S (xs.getLastD []) == Str.ofString "..") = true) : stepN i xs a = xs ++ [a] := by
  rw [eSdd, S_bne, bne_eq_false_iff_eq] at h1; rw [eSdd, S_beq, beq_iff_eq] at h3; unfold stepN; rw [if_neg (by rw [h1]; decide), if_pos (.inr (.inr ⟨h2, h3⟩))]
theorem step_d (h1 : (S a != Str.ofString "..") = false) (h2 : xs ≠ []) (h3 : (S (xs.getLastD []) == Str.ofString "..") = false) : stepN i xs a = xs.dropLast := by
  rw [eSdd, S_bne, bne_eq_false_iff_eq] at h1; rw [eSdd, S_beq, beq_eq_false_iff_ne] at h3; unfold stepN
  rw [if_neg (by rw [h1]; decide), if_neg (by rintro (q | q | q); exact q h1; exact h2 q.2; exact h3 q.2), if_pos h2]
theorem step_e (h1 : (S a != Str.ofString "..") = false) (h2 : i = true) (h3 : ¬ xs ≠ []) : stepN i xs a = xs := by
  rw [eSdd, S_bne, bne_eq_false_iff_eq] at h1; simp at h3; unfold stepN; simp [h1, h2, h3]
end
theorem normL_nil {x : T} (h : ¬ x ≠ []) : normL x = [46] := by
  unfold normL; rw [if_pos (Decidable.not_not.mp h)]
theorem normL_yes {x : T} (h : x ≠ []) {xs : List T} (hx : xs = (splitL 47 (splitrootL x).2).foldl (stepN (!(splitrootL x).1.isEmpty)) []) (hne : (splitrootL x).1 ++ joinL [47] xs ≠ []) : normL x = (splitrootL x).1 ++ joinL [47] xs := by
  unfold normL; rw [if_neg h, ← hx]
  exact if_neg hne
theorem normL_dot {x : T} (h : x ≠ []) {xs : List T} (hx : xs = (splitL 47 (splitrootL x).2).foldl (stepN (!(splitrootL x).1.isEmpty)) []) (hne : ¬ (splitrootL x).1 ++ joinL [47] xs ≠ []) : normL x = [46] := by
  unfold normL; rw [if_neg h, ← hx]
  exact if_pos (Decidable.not_not.mp hne)
theorem init_no {x : T} (h : ¬ x ≠ []) : (!x.isEmpty) = false := by simp at h; simp [h]
theorem init_yes {x : T} (h : x ≠ []) : (!x.isEmpty) = true := by simpa using h
section
example : True := by
  k_with "pu" => with_reducible first | exact fspath_call _ _ _ | exact splitroot_call _ _ _
  trivial
theorem normpath_call (w : World) (x : T) (t : Tok) : Pu w 8 80 153 (fun _ => x.length ≤ 100000) [.str (S x) t] (RStr (normL x)) := by
  unfold Pu P0
  k_fill
  intro p loose mean mg mb A base l s Q E B X TT hh hd hu hpre hret
  refine' x_enter B X TT ?_
  intro L' h' F' N'
  (try dsimp only)
  (try k_fold)
  obtain ⟨hr1, hr2⟩ := splitroot_len x
  k_steps
  · rename_i D0 vsP hA kA hkA hSP hlA hB tkB htB lN hC lB hD FN NN tkN htkN
    have hcs := splitL_len 47 (splitrootL x).2
    refine' loop_pairs (R := RT) (as := splitL 47 (splitrootL x).2) (σ := List T × List Value × Nat) (fun c => [(lN, listOf c.2.1.toArray c.2.2)]) (fun _ => []) [] (fun pre c => c.1 = pre.foldl (stepN (!(splitrootL x).1.isEmpty)) [] ∧ StrsAre c.2.1 (c.1.map S) ∧ c.1.length ≤ pre.length ∧ (c.1.map List.length).sum ≤ (pre.map List.length).sum) [_, _] ([], [], 0) ?zhh ?zhl ?zhr ?zF ?zN ?zk ?zp ?zadr ?zoff ?zturn ?zdone
    case zhh => assumption
    case zhl => exact news_list NN (.tail _ (.head _))
    case zhr => exact paired_of_strs hSP
    case zF => exact FN
    case zN => exact NN
    case zk => intro p hp; cases hp
    case zp => exact ⟨rfl, .nil, Nat.le_refl _, Nat.le_refl _⟩
    case zadr => intro c; rfl
    case zoff => intro p hp; rw [List.mem_singleton.mp hp]; exact neGt lB (.head _)
    case zturn =>
      rintro ⟨xs, us, n⟩ pre a post v u h tk own has hR ⟨hxs, hus, hxl, hxm⟩ hoff F N QQ1 hQ1
      obtain ⟨ta, rfl⟩ := hR
      have hal : a.length ≤ 100000 := by
        have := splitL_item 47 (x := (splitrootL x).2) (p := a) (by rw [has]; simp)
        lia
      have hpl : pre.length < 100001 := by
        have : (splitL 47 (splitrootL x).2).length = pre.length + (post.length + 1) := by rw [has]; simp
        lia
      have hul : us.length = xs.length := by rw [hus.len_eq, List.length_map]
      dsimp only at hxs hus hxl hxm
      dsimp only [envOf, List.nil_append, List.cons_append, kstB] at F N
      (try k_fold)
      k_steps
      all_goals try ((first | (refine hQ1 _ _ ?_; dsimp only [LoopPost])); try k_steps)
      · exact x_end (xs, us, n) ⟨by rw [List.foldl_append, ← hxs]; exact (step_dot (by assumption)).symm, by assumption, by simp only [List.length_append, List.length_singleton]; lia, by simp only [List.map_append, List.sum_append, List.map_cons, List.map_nil, List.sum_cons, List.sum_nil]; lia⟩
      · exact x_end (xs ++ [a], us ++ [.str (S a) ta], n + 1) ⟨by rw [List.foldl_append, ← hxs]; exact (step_a (by assumption) (by assumption) (by assumption)).symm, strs_snoc hus, by simp only [List.length_append, List.length_singleton]; lia, by simp only [List.map_append, List.sum_append, List.map_cons, List.map_nil, List.sum_cons, List.sum_nil]; lia⟩
      · exact x_end (xs ++ [a], us ++ [.str (S a) ta], n + 1) ⟨by rw [List.foldl_append, ← hxs]; exact (step_c (by assumption) (by assumption) (by assumption)).symm, strs_snoc hus, by simp only [List.length_append, List.length_singleton]; lia, by simp only [List.map_append, List.sum_append, List.map_cons, List.map_nil, List.sum_cons, List.sum_nil]; lia⟩
      · exact x_end (xs.dropLast, us.dropLast, n + 1) ⟨by rw [List.foldl_append, ← hxs]; exact (step_d (by assumption) (by assumption) (by assumption)).symm, by rw [List.map_dropLast]; exact strs_dropLast hus, by simp only [List.length_append, List.length_dropLast]; lia, by have := sum_dropLast xs; simp only [List.map_append, List.sum_append]; lia⟩
      · exact x_end (xs, us, n) ⟨by rw [List.foldl_append, ← hxs]; exact (step_e (by assumption) (init_yes (by assumption)) (by assumption)).symm, by assumption, by simp only [List.length_append, List.length_singleton]; lia, by simp only [List.map_append, List.sum_append, List.map_cons, List.map_nil, List.sum_cons, List.sum_nil]; lia⟩
      · exact x_end (xs ++ [a], us ++ [.str (S a) ta], n + 1) ⟨by rw [List.foldl_append, ← hxs]; exact (step_c (by assumption) (by assumption) (by assumption)).symm, strs_snoc hus, by simp only [List.length_append, List.length_singleton]; lia, by simp only [List.map_append, List.sum_append, List.map_cons, List.map_nil, List.sum_cons, List.sum_nil]; lia⟩
      · exact x_end (xs.dropLast, us.dropLast, n + 1) ⟨by rw [List.foldl_append, ← hxs]; exact (step_d (by assumption) (by assumption) (by assumption)).symm, by rw [List.map_dropLast]; exact strs_dropLast hus, by simp only [List.length_append, List.length_dropLast]; lia, by have := sum_dropLast xs; simp only [List.map_append, List.sum_append]; lia⟩
      · exact x_end (xs ++ [a], us ++ [.str (S a) ta], n + 1) ⟨by rw [List.foldl_append, ← hxs]; exact (step_b (by assumption) (init_no (by assumption)) (by assumption)).symm, strs_snoc hus, by simp only [List.length_append, List.length_singleton]; lia, by simp only [List.map_append, List.sum_append, List.map_cons, List.map_nil, List.sum_cons, List.sum_nil]; lia⟩
      · exact x_end (xs, us, n) ⟨by rw [List.foldl_append, ← hxs]; exact (step_nil (by assumption)).symm, by assumption, by simp only [List.length_append, List.length_singleton]; lia, by simp only [List.map_append, List.sum_append, List.map_cons, List.map_nil, List.sum_cons, List.sum_nil]; lia⟩
    case zdone =>
      rintro ⟨xs, us, n⟩ u h tk ⟨hxs, hus, hxl, hxm⟩ F N
      dsimp only at hxs hus hxl hxm
      dsimp only [envOf, List.nil_append, List.cons_append, kstB] at F N
      have hsm := splitL_sum 47 (splitrootL x).2
      have hjl := joinL_len [47] xs
      rw [show ([47] : T).length = 1 from rfl, Nat.mul_one] at hjl
      (try k_fold)
      k_steps
      · exact hret _ _ _ (Fr.keep (by assumption)) (RStr.of (by rw [normL_yes (by assumption) hxs (by assumption)]))
      · exact hret _ _ _ (Fr.keep (by assumption)) (RStr.of (by rw [normL_dot (by assumption) hxs (by assumption)]; exact eS46))
  · rw [normL_nil (by assumption)] at hret
    exact hret _ _ _ (Fr.keep (by assumption)) (RStr.of eS46)
end
end
section
example : True := by
  k_with_none
  k_with "om" => first | assumption | exact Nat.le_add_left 1 _ | exact Int.add_nonneg (by assumption) (by decide) | exact tn1 (by assumption) | exact tn2 (by assumption) | exact tn3 (by assumption) | exact meas1 (by assumption) (by assumption) | exact meas3 (by assumption) (by assumption) | exact tlt1 (by assumption) (by assumption) | exact Nat.le_trans (by assumption) (by decide) | exact Nat.le_trans (Nat.add_le_add_right (by assumption) _) (by decide) | lia
  k_with "omd" => first | decide | k_extra "om"
  k_with "oml" => first | k_extra "om" | (simp only [List.length_append, List.length_map, List.length_drop, List.length_dropLast, List.length_cons, List.length_nil]; k_extra "om")
  k_with "ne" => (refine neN ?_; (try dsimp only); first | assumption | exact neLt (by assumption) (by k_mem) | exact neGt (by assumption) (by k_mem) | exact neOf (by assumption) (by k_mem) | exact neOf' (by assumption) (by k_mem) | lia)
  k_with "room" => first | exact room_of (by assumption) (by decide) | exact room_0 (by assumption)
  k_with "units" => exact room_of (by assumption) (by decide)
  k_with "ite" => with_reducible first | refine ite_tt ?_ | refine ite_ff ?_
  k_with "eval Name" => ((with_reducible show wpAny _ _ (eval (Expr.Name _ _) (envOf _ _ _ _ _)) _ _ _); first | (name_kind "local"; with_reducible refine' n_loc ?_) | (name_kind "globalImplicit"; with_reducible first | refine' n_glo ?_ | refine' n_boo ?_))
  k_with "loadName" => with_reducible refine' n_load ?_
  k_with "storeName" => (with_reducible refine' n_store ?_; intros; (try k_sweep))
  k_with "callWith" => with_reducible first | refine callWith_method0 ?_ | refine' n_cw0 ?_ | refine' n_cw1 ?_ | ((show wpAny _ _ (callWith _ (Value.builtin _) _ _ []) _ _ _); refine' n_cw ?_)
  k_with "callWith ref" => ((with_reducible show wpAny _ _ (callWith _ _ _ (backTo _ (starEach (_ :: _) _)) []) _ _ _); with_reducible refine' n_cwK ?_)
  k_with "eval Call" => with_reducible refine' n_call ?_
  k_with "eval Call Attribute" => with_reducible refine' n_mcall ?_
  k_with "exec Assign" => ((with_reducible show wpAny _ _ (exec (Stmt.Assign [Expr.Name _ _] _ _) _) _ _ _); with_reducible refine' n_asg ?_)
  k_with "exec If" => with_reducible refine wpAny_If ?_
  k_with "spliced" => ((with_reducible show wpAny _ _ (spliced (backTo _ (starEach (_ :: _) _))) _ _ _); with_reducible refine' n_acons ?_)
  k_with "newList" => (with_reducible refine' n_newl ?_; intros; (try k_sweep))
  k_with "eval BinOp" => with_reducible refine wpAny_BinOp ?_
  k_with "execs cons" => with_reducible first | (refine toks_cons ?_; intros) | refine wpAny_execs_cons ?_
  k_with "execs nil" => with_reducible refine wpAny_execs_nil ?_
  k_with "isTrue Name" => with_reducible refine' n_true ?_
  k_with "isTrue Call" => with_reducible refine' n_true ?_
  k_with "isTrue Compare" => ((with_reducible show wpAny _ _ (isTrue (PySem.Expr.Compare _ [_] [_] _) _ _) _ _ _); with_reducible refine wpAny_isTrue_Compare1 ?_)
  k_with "isTrue BoolOp" => with_reducible first | refine isTrue_and_nil ?_ | refine isTrue_or_nil ?_ | refine isTrue_and ?_ | refine isTrue_or ?_
  k_with "isTrue UnaryOp" => with_reducible refine isTrue_not ?_
  k_with "eval UnaryOp" => with_reducible refine UnaryOp_ ?_
  k_with "unaryOp USub int" => with_reducible refine n_neg ?_
  k_with "eval Subscript" => with_reducible refine Subscript_ ?_
  k_with "eval Slice" => with_reducible refine wpAny_Slice ?_
  k_with "evalPart some" => with_reducible refine evalPart_some_step ?_
  k_with "evalPart none" => with_reducible refine evalPart_none_step ?_
  k_with "exec AugAssign" => with_reducible refine wpAny_AugAssign_Name ?_
  k_with "exec Return some" => with_reducible refine wpAny_Return_some ?_
  k_with "exec Continue" => with_reducible refine wpAny_Continue ?_
  k_with "eval Constant str" => with_reducible refine n_str ?_
  k_with "eval Constant int" => with_reducible refine n_int ?_
  k_with "compareOp Eq str str" => with_reducible refine PyProof.Rows.eq_str ?_
  k_with "compareOp NotEq str str" => with_reducible refine PyProof.Rows.ne_str ?_
  k_with "inplaceOp Add int int" => with_reducible refine n_iaddi ?_
  k_with "binaryOp Add int int" => with_reducible refine n_addi ?_
  k_with "binaryOp Sub int int" => with_reducible refine n_subi ?_
  k_with "eval Tuple" => with_reducible refine Tuple_ ?_
  k_with "eval List" => with_reducible refine List_ ?_
  k_with "assign Name" => with_reducible refine PyProof.Rows.assign_Name ?_
  k_with "truthy bool" => with_reducible refine wpAny_truthy_bool ?_
  k_with "es" => with_reducible first | exact rfl | exact eS47 | exact eS61 | exact eS10 | exact eS46 | exact eSdd | exact eS32 | exact eS9 | exact eS0 | exact (S_of _).symm
  k_with "ls" => first | exact news_list (by k_asm) (by k_mem) | exact fr_list (by k_asm) (by k_asm)
  k_with "ss" => first | assumption | exact strs1 _ _
  k_with "nn" => first | assumption | exact splitL_ne _ _
  k_with "kp" => first | exact True.intro | ((try dsimp only); first | k_extra "ls" | assumption | k_extra "oml")
  k_with "c" => first | with_reducible assumption | ((with_reducible show StrsAre _ _); k_extra "ss") | ((with_reducible show Heap.IsList _ _ _); k_extra "ls") | ((with_reducible show plainIx _ = true); exact rfl) | ((with_reducible show _ = S _); k_extra "es") | ((with_reducible show _ ≠ _); k_extra "nn") | ((with_reducible show 0 ≤ _); k_extra "omd") | k_extra "oml"
  k_with "cc" => first | ((with_reducible refine And.intro ?za ?zb); (case za => k_extra "c"); (case zb => k_extra "cc")) | k_extra "c"
  k_with "pyIter ref" => with_reducible refine AtIter.on ?_
  k_with "call ref" => ((with_reducible refine' x_use (by k_dflt k_extra "pu") ?_); (with_reducible first | refine useE ?_ | refine useS ?_ | refine useI ?_ | refine useT3 (by assumption) (by assumption) ?_ | refine useT2 (by assumption) (by assumption) ?_ | refine useL (by assumption) (by assumption) ?_ | refine useT (by assumption) (by assumption) ?_); intros; (try k_sweep); (try k_fold))
  k_with "subscriptTail" => k_dflt ((first | ((with_reducible refine' p_butlast ?zk ?_); (case zk => k_extra "cc")) | ((with_reducible refine' p_to ?zk ?_); (case zk => k_extra "cc")) | ((with_reducible refine' p_last ?zk ?_); (case zk => k_extra "cc")) | ((with_reducible refine' p_from ?zk ?_); (case zk => k_extra "cc")) | ((with_reducible refine' p_midback ?zk ?_); (case zk => k_extra "cc")) | ((with_reducible refine' p_mid ?zk ?_); (case zk => k_extra "cc")) | ((with_reducible refine' q_rev ?zk ?_); (case zk => k_extra "cc")) | ((with_reducible refine' q_back ?zk ?_); (case zk => k_extra "cc")) | ((with_reducible refine' q_midback ?zk ?_); (case zk => k_extra "cc")) | ((with_reducible refine' i_slast ?zk ?_); (case zk => k_extra "cc")) | ((with_reducible refine' i_sat ?zk ?_); (case zk => k_extra "cc")) | ((with_reducible refine' i_last ?zk ?_); (case zk => k_extra "cc")) | ((with_reducible refine' i_nat ?zk ?_); (case zk => k_extra "cc"))); intros; (try k_sweep))
  k_with "call builtin:str.split" => (with_reducible refine' x_split ?_; intros; (try k_sweep))
  k_with "call builtin:str.splitlines" => (with_reducible refine' x_lines ?_; intros; (try k_sweep))
  k_with "call builtin:str.join" => (with_reducible refine' x_join ?_; intros)
  k_with "binaryOp Add str str" => (with_reducible refine' x_add ?_; intros)
  k_with "inplaceOp Add str str" => (with_reducible refine' x_iadd ?_; intros)
  k_with "call builtin:len" => with_reducible first | ((show wpAny _ _ (call _ [Value.str _ _]) _ _ _); refine' x_len ?_; intros) | (refine' x_llen ?_; intros)
  k_with "call builtin:str.rstrip" => with_reducible first | ((show wpAny _ _ (call _ [_]) _ _ _); refine' x_rstrip ?_; intros) | (refine' x_rstripc ?_; intros)
  k_with "call builtin:str.lstrip" => (with_reducible refine' x_lstripc ?_; intros)
  k_with "call builtin:chr" => (with_reducible refine' x_chr ?_; intros)
  k_with "call builtin:str.replace" => (with_reducible refine' x_replace ?_; intros)
  k_with "call builtin:min" => (with_reducible refine' x_min ?_; intros; (try k_sweep))
  k_with "call builtin:list.pop" => (with_reducible refine' x_pop ?_; intros; (try k_sweep))
  k_with "call builtin:list.append" => (with_reducible refine' x_append ?_; intros; (try k_sweep))
  k_with "setItem ref int" => (with_reducible refine' x_setlast ?_; intros; (try k_sweep))
  k_with "binaryOp Add ref ref" => (with_reducible refine' x_ladd ?_; intros; (try k_sweep))
  k_with "binaryOp Mult str int" => (with_reducible refine' x_smul ?_; intros)
  k_with "binaryOp Mult ref int" => (with_reducible refine' x_lmul ?_; intros; (try k_sweep))
  k_with "truthy ref" => (with_reducible refine' x_truthyL ?_; intros)
  k_with "truthy str" => (with_reducible refine' x_truthyS ?_; intros)
  k_with "assign Tuple" => (with_reducible refine' x_unpack ?_; intros)
  k_with "exec For" => with_reducible refine' x_for ?_
  k_with "sub" => first | (with_reducible exact sub_nil) | ((with_reducible refine sub_cons ?zh ?_); (case zh => k_mem); k_extra "sub") | (with_reducible exact (fun _ hp => hp)) | ((with_reducible refine sub_tail ?_); k_extra "sub")
  k_with "fz" => repeat' (first | (with_reducible exact same_u) | (with_reducible exact same_refl) | ((with_reducible refine same_if ?zh ?_); (case zh => k_mem)) | ((with_reducible refine same_st ?zh ?_); (case zh => k_mem)) | ((with_reducible refine same_kcons ?zh ?_); (case zh => k_mem)) | (with_reducible refine same_knil ?_) | ((with_reducible refine same_ins ?zh ?_); (case zh => k_extra "sub")) | exact same_refl)
  k_with "src" => refine' x_list
  k_with "CompInG" => with_reducible refine' x_src ?_ ?_ ?_
  k_with "TestG" => k_dflt (first | exact test_none | (refine test_RT ?_; intros))
  k_with "EltG" => k_dflt (refine elt_RT ?_; intros)
  k_with "FinG" => k_dflt ((first | refine fin_tt ?_ | refine fin_id ?_ | refine fin_g ?_); intros)
  k_with "exec While" => with_reducible refine AtWhile.on ?_
  trivial
theorem tl_S (x : T) : tl (S x) = x := S_cps x
section
variable {y a : T}
theorem sj_abs (h : Txt.startswith (S a) (S [47]) = true) : stepJ y a = a := by
  have h2 := sw_one (S a) 47
  rw [show (⟨#[47]⟩ : Str) = S [47] from rfl, h, tl_S] at h2
  unfold stepJ; rw [if_pos (.inl (beq_iff_eq.mp h2.symm))]
theorem sj_nil (h : ¬ y ≠ []) : stepJ y a = a := by
  unfold stepJ; rw [if_pos (.inr (Decidable.not_not.mp h))]
theorem sj_no (h : Txt.startswith (S a) (S [47]) = false) (hy : y ≠ []) : ¬ (a.take 1 = [47] ∨ y = []) := by
  have h2 := sw_one (S a) 47
  rw [show (⟨#[47]⟩ : Str) = S [47] from rfl, h, tl_S] at h2
  rintro (q | q)
  · exact beq_eq_false_iff_ne.mp h2.symm q
  · exact hy q
theorem sj_end (h : Txt.startswith (S a) (S [47]) = false) (hy : y ≠ []) (he : Txt.endswith (S y) (S [47]) = true) : stepJ y a = y ++ a := by
  have h2 := ew_one (S y) 47
  rw [show (⟨#[47]⟩ : Str) = S [47] from rfl, he, tl_S] at h2
  unfold stepJ; rw [if_neg (sj_no h hy), if_pos (beq_iff_eq.mp h2.symm)]
theorem sj_mid (h : Txt.startswith (S a) (S [47]) = false) (hy : y ≠ []) (he : Txt.endswith (S y) (S [47]) = false) : stepJ y a = y ++ ([47] ++ a) := by
  have h2 := ew_one (S y) 47
  rw [show (⟨#[47]⟩ : Str) = S [47] from rfl, he, tl_S] at h2
  unfold stepJ; rw [if_neg (sj_no h hy), if_neg (beq_eq_false_iff_ne.mp h2.symm)]; rfl
end
section
example : True := by
  k_with "pu" => with_reducible first | exact fspath_call _ _ _ | exact getsep_call _ _ _
  trivial
theorem join_call (w : World) (x : T) (t : Tok) (v0 : Value) (vs : List Value) (ps : List T) (hS : StrsAre (v0 :: vs) (ps.map S)) (hsz : x.length + (ps.map List.length).sum + ps.length ≤ 100000) : Pu w 8 80 129 (fun _ => True) (.str (S x) t :: v0 :: vs) (RStr (joinPy x ps)) := by
  unfold Pu P0
  k_fill
  intro p loose mean mg mb A base l s Q E B X TT hh hd hu hpre hret
  have hvl : (v0 :: vs).length = ps.length := by rw [hS.len_eq, List.length_map]
  refine' pu_enterR (vs := v0 :: vs) B X TT ?k6 ?k7 ?k8 ?k9 ?kz ?kB ?_ ?c2 ?c3 ?c4 ?c5
  case k6 => k_is
  case k7 => k_is
  case k8 => k_extra "room"
  case k9 => exact rfl
  case kz => show (v0 :: vs).length ≤ _; lia
  case c5 => decide
  case kB => exact fun _ => locs rfl
  case c2 => exact rfl
  case c3 => exact rfl
  case c4 => exact rfl
  intro D' L' h' hD' F' N'
  (try dsimp only)
  (try k_fold)
  k_steps
  rename_i FN NN tkN htkN
  refine' loop_pairsT (R := RT) (as := ps) (σ := T × Tok) (fun _ => []) (fun c => [(Str.ofString "path", .str (S c.1) c.2)]) [Str.ofString "path"] (fun pre c => c.1 = pre.foldl stepJ x ∧ c.1.length ≤ x.length + (pre.map List.length).sum + pre.length) [(D', _)] (x, t) ?zhh ?zhl ?zhr ?zF ?zN ?zk ?zp ?zadr ?zoff ?zturn ?zdone
  case zhh => assumption
  case zhl => exact ⟨_, (NN _ (.head _)).1, rfl, _, rfl⟩
  case zhr => exact paired_of_strs hS
  case zF => exact FN
  case zN => exact NN
  case zk => kst_all
  case zp => exact ⟨rfl, Nat.le_refl _⟩
  case zadr => intro c; rfl
  case zoff => intro p hp; cases hp
  case zturn =>
    rintro ⟨y, ty⟩ pre a post v u h tk own has hR ⟨hy, hyl⟩ hoff F N QQ1 hQ1
    obtain ⟨ta, rfl⟩ := hR
    have hsm : (pre.map List.length).sum + a.length + pre.length + 1 + (x.length) ≤ 100000 := by
      have e1 : (ps.map List.length).sum = (pre.map List.length).sum + (a.length + (post.map List.length).sum) := by rw [has]; simp
      have e2 : ps.length = pre.length + (post.length + 1) := by rw [has]; simp
      lia
    dsimp only at hy hyl
    dsimp only [envOf, List.nil_append, List.cons_append] at F N
    (try k_fold)
    k_steps
    all_goals try ((first | (refine hQ1 _ _ ?_; dsimp only [LoopPost])); try k_steps)
    · exact x_end (a, ta) ⟨by rw [List.foldl_append, ← hy]; exact (sj_abs (by assumption)).symm, by simp only [List.map_append, List.sum_append, List.map_cons, List.map_nil, List.sum_cons, List.sum_nil, List.length_append, List.length_cons, List.length_nil]; lia⟩
    · exact x_end (y ++ a, _) ⟨by rw [List.foldl_append, ← hy]; exact (sj_end (by assumption) (by assumption) (by assumption)).symm, by simp only [List.map_append, List.sum_append, List.map_cons, List.map_nil, List.sum_cons, List.sum_nil, List.length_append, List.length_cons, List.length_nil]; lia⟩
    · exact x_end (y ++ ([47] ++ a), _) ⟨by rw [List.foldl_append, ← hy]; exact (sj_mid (by assumption) (by assumption) (by assumption)).symm, by simp only [List.map_append, List.sum_append, List.map_cons, List.map_nil, List.sum_cons, List.sum_nil, List.length_append, List.length_cons, List.length_nil]; lia⟩
    · exact x_end (a, ta) ⟨by rw [List.foldl_append, ← hy]; exact (sj_nil (by assumption)).symm, by simp only [List.map_append, List.sum_append, List.map_cons, List.map_nil, List.sum_cons, List.sum_nil, List.length_append, List.length_cons, List.length_nil]; lia⟩
  case zdone =>
    rintro ⟨y, ty⟩ u h tk ⟨hy, hyl⟩ F N
    dsimp only at hy hyl
    dsimp only [envOf, List.nil_append, List.cons_append] at F N
    (try k_fold)
    k_steps
    refine hret _ _ _ (Fr.keep (by assumption)) (RStr.of ?_)
    rw [hy]; rfl
end
end
section
example : True := by
  k_with_none
  k_with "om" => first | assumption | exact Nat.le_add_left 1 _ | exact Int.add_nonneg (by assumption) (by decide) | exact tn1 (by assumption) | exact tn2 (by assumption) | exact tn3 (by assumption) | exact meas1 (by assumption) (by assumption) | exact meas3 (by assumption) (by assumption) | exact tlt1 (by assumption) (by assumption) | exact Nat.le_trans (by assumption) (by decide) | exact Nat.le_trans (Nat.add_le_add_right (by assumption) _) (by decide) | lia
  k_with "omd" => first | decide | k_extra "om"
  k_with "oml" => first | k_extra "om" | (simp only [List.length_append, List.length_map, List.length_drop, List.length_dropLast, List.length_cons, List.length_nil]; k_extra "om")
  k_with "ne" => (refine neN ?_; (try dsimp only); first | assumption | exact neLt (by assumption) (by k_mem) | exact neGt (by assumption) (by k_mem) | exact neOf (by assumption) (by k_mem) | exact neOf' (by assumption) (by k_mem) | lia)
  k_with "room" => first | exact room_of (by assumption) (by decide) | exact room_0 (by assumption)
  k_with "units" => exact room_of (by assumption) (by decide)
  k_with "ite" => with_reducible first | refine ite_tt ?_ | refine ite_ff ?_
  k_with "eval Name" => ((with_reducible show wpAny _ _ (eval (Expr.Name _ _) (envOf _ _ _ _ _)) _ _ _); first | (name_kind "local"; with_reducible refine' n_loc ?_) | (name_kind "globalImplicit"; with_reducible first | refine' n_glo ?_ | refine' n_boo ?_))
  k_with "loadName" => with_reducible refine' n_load ?_
  k_with "storeName" => (with_reducible refine' n_store ?_; intros; (try k_sweep))
  k_with "callWith" => with_reducible first | refine callWith_method0 ?_ | refine' n_cw0 ?_ | refine' n_cw1 ?_ | ((show wpAny _ _ (callWith _ (Value.builtin _) _ _ []) _ _ _); refine' n_cw ?_)
  k_with "callWith ref" => ((with_reducible show wpAny _ _ (callWith _ _ _ (backTo _ (starEach (_ :: _) _)) []) _ _ _); with_reducible refine' n_cwK ?_)
  k_with "eval Call" => with_reducible refine' n_call ?_
  k_with "eval Call Attribute" => with_reducible refine' n_mcall ?_
  k_with "exec Assign" => ((with_reducible show wpAny _ _ (exec (Stmt.Assign [Expr.Name _ _] _ _) _) _ _ _); with_reducible refine' n_asg ?_)
  k_with "exec If" => with_reducible refine wpAny_If ?_
  k_with "spliced" => ((with_reducible show wpAny _ _ (spliced (backTo _ (starEach (_ :: _) _))) _ _ _); with_reducible refine' n_acons ?_)
  k_with "newList" => (with_reducible refine' n_newl ?_; intros; (try k_sweep))
  k_with "eval BinOp" => with_reducible refine wpAny_BinOp ?_
  k_with "execs cons" => with_reducible first | (refine toks_cons ?_; intros) | refine wpAny_execs_cons ?_
  k_with "execs nil" => with_reducible refine wpAny_execs_nil ?_
  k_with "isTrue Name" => with_reducible refine' n_true ?_
  k_with "isTrue Call" => with_reducible refine' n_true ?_
  k_with "isTrue Compare" => ((with_reducible show wpAny _ _ (isTrue (PySem.Expr.Compare _ [_] [_] _) _ _) _ _ _); with_reducible refine wpAny_isTrue_Compare1 ?_)
  k_with "isTrue BoolOp" => with_reducible first | refine isTrue_and_nil ?_ | refine isTrue_or_nil ?_ | refine isTrue_and ?_ | refine isTrue_or ?_
  k_with "isTrue UnaryOp" => with_reducible refine isTrue_not ?_
  k_with "eval UnaryOp" => with_reducible refine UnaryOp_ ?_
  k_with "unaryOp USub int" => with_reducible refine n_neg ?_
  k_with "eval Subscript" => with_reducible refine Subscript_ ?_
  k_with "eval Slice" => with_reducible refine wpAny_Slice ?_
  k_with "evalPart some" => with_reducible refine evalPart_some_step ?_
  k_with "evalPart none" => with_reducible refine evalPart_none_step ?_
  k_with "exec AugAssign" => with_reducible refine wpAny_AugAssign_Name ?_
  k_with "exec Return some" => with_reducible refine wpAny_Return_some ?_
  k_with "exec Continue" => with_reducible refine wpAny_Continue ?_
  k_with "eval Constant str" => with_reducible refine n_str ?_
  k_with "eval Constant int" => with_reducible refine n_int ?_
  k_with "compareOp Eq str str" => with_reducible refine PyProof.Rows.eq_str ?_
  k_with "compareOp NotEq str str" => with_reducible refine PyProof.Rows.ne_str ?_
  k_with "inplaceOp Add int int" => with_reducible refine n_iaddi ?_
  k_with "binaryOp Add int int" => with_reducible refine n_addi ?_
  k_with "binaryOp Sub int int" => with_reducible refine n_subi ?_
  k_with "eval Tuple" => with_reducible refine Tuple_ ?_
  k_with "eval List" => with_reducible refine List_ ?_
  k_with "assign Name" => with_reducible refine PyProof.Rows.assign_Name ?_
  k_with "truthy bool" => with_reducible refine wpAny_truthy_bool ?_
  k_with "es" => with_reducible first | exact rfl | exact eS47 | exact eS61 | exact eS10 | exact eS46 | exact eSdd | exact eS32 | exact eS9 | exact eS0 | exact (S_of _).symm
  k_with "ls" => first | exact news_list (by k_asm) (by k_mem) | exact fr_list (by k_asm) (by k_asm)
  k_with "ss" => first | assumption | exact strs1 _ _
  k_with "nn" => first | assumption | exact splitL_ne _ _
  k_with "kp" => first | exact True.intro | ((try dsimp only); first | k_extra "ls" | assumption | k_extra "oml")
  k_with "c" => first | with_reducible assumption | ((with_reducible show StrsAre _ _); k_extra "ss") | ((with_reducible show Heap.IsList _ _ _); k_extra "ls") | ((with_reducible show plainIx _ = true); exact rfl) | ((with_reducible show _ = S _); k_extra "es") | ((with_reducible show _ ≠ _); k_extra "nn") | ((with_reducible show 0 ≤ _); k_extra "omd") | k_extra "oml"
  k_with "cc" => first | ((with_reducible refine And.intro ?za ?zb); (case za => k_extra "c"); (case zb => k_extra "cc")) | k_extra "c"
  k_with "pyIter ref" => with_reducible refine AtIter.on ?_
  k_with "call ref" => ((with_reducible refine' x_use (by k_dflt k_extra "pu") ?_); (with_reducible first | refine useE ?_ | refine useS ?_ | refine useI ?_ | refine useT3 (by assumption) (by assumption) ?_ | refine useT2 (by assumption) (by assumption) ?_ | refine useL (by assumption) (by assumption) ?_ | refine useT (by assumption) (by assumption) ?_); intros; (try k_sweep); (try k_fold))
  k_with "subscriptTail" => k_dflt ((first | ((with_reducible refine' p_butlast ?zk ?_); (case zk => k_extra "cc")) | ((with_reducible refine' p_to ?zk ?_); (case zk => k_extra "cc")) | ((with_reducible refine' p_last ?zk ?_); (case zk => k_extra "cc")) | ((with_reducible refine' p_from ?zk ?_); (case zk => k_extra "cc")) | ((with_reducible refine' p_midback ?zk ?_); (case zk => k_extra "cc")) | ((with_reducible refine' p_mid ?zk ?_); (case zk => k_extra "cc")) | ((with_reducible refine' q_rev ?zk ?_); (case zk => k_extra "cc")) | ((with_reducible refine' q_back ?zk ?_); (case zk => k_extra "cc")) | ((with_reducible refine' q_midback ?zk ?_); (case zk => k_extra "cc")) | ((with_reducible refine' i_slast ?zk ?_); (case zk => k_extra "cc")) | ((with_reducible refine' i_sat ?zk ?_); (case zk => k_extra "cc")) | ((with_reducible refine' i_last ?zk ?_); (case zk => k_extra "cc")) | ((with_reducible refine' i_nat ?zk ?_); (case zk => k_extra "cc"))); intros; (try k_sweep))
  k_with "call builtin:str.split" => (with_reducible refine' x_split ?_; intros; (try k_sweep))
  k_with "call builtin:str.splitlines" => (with_reducible refine' x_lines ?_; intros; (try k_sweep))
  k_with "call builtin:str.join" => (with_reducible refine' x_join ?_; intros)
  k_with "binaryOp Add str str" => (with_reducible refine' x_add ?_; intros)
  k_with "inplaceOp Add str str" => (with_reducible refine' x_iadd ?_; intros)
  k_with "call builtin:len" => with_reducible first | ((show wpAny _ _ (call _ [Value.str _ _]) _ _ _); refine' x_len ?_; intros) | (refine' x_llen ?_; intros)
  k_with "call builtin:str.rstrip" => with_reducible first | ((show wpAny _ _ (call _ [_]) _ _ _); refine' x_rstrip ?_; intros) | (refine' x_rstripc ?_; intros)
  k_with "call builtin:str.lstrip" => (with_reducible refine' x_lstripc ?_; intros)
  k_with "call builtin:chr" => (with_reducible refine' x_chr ?_; intros)
  k_with "call builtin:str.replace" => (with_reducible refine' x_replace ?_; intros)
  k_with "call builtin:min" => (with_reducible refine' x_min ?_; intros; (try k_sweep))
  k_with "call builtin:list.pop" => (with_reducible refine' x_pop ?_; intros; (try k_sweep))
  k_with "call builtin:list.append" => (with_reducible refine' x_append ?_; intros; (try k_sweep))
  k_with "setItem ref int" => (with_reducible refine' x_setlast ?_; intros; (try k_sweep))
  k_with "binaryOp Add ref ref" => (with_reducible refine' x_ladd ?_; intros; (try k_sweep))
  k_with "binaryOp Mult str int" => (with_reducible refine' x_smul ?_; intros)
  k_with "binaryOp Mult ref int" => (with_reducible refine' x_lmul ?_; intros; (try k_sweep))
  k_with "truthy ref" => (with_reducible refine' x_truthyL ?_; intros)
  k_with "truthy str" => (with_reducible refine' x_truthyS ?_; intros)
  k_with "assign Tuple" => (with_reducible refine' x_unpack ?_; intros)
  k_with "exec For" => with_reducible refine' x_for ?_
  k_with "sub" => first | (with_reducible exact sub_nil) | ((with_reducible refine sub_cons ?zh ?_); (case zh => k_mem); k_extra "sub") | (with_reducible exact (fun _ hp => hp)) | ((with_reducible refine sub_tail ?_); k_extra "sub")
  k_with "fz" => repeat' (first | (with_reducible exact same_u) | (with_reducible exact same_refl) | ((with_reducible refine same_if ?zh ?_); (case zh => k_mem)) | ((with_reducible refine same_st ?zh ?_); (case zh => k_mem)) | ((with_reducible refine same_kcons ?zh ?_); (case zh => k_mem)) | (with_reducible refine same_knil ?_) | ((with_reducible refine same_ins ?zh ?_); (case zh => k_extra "sub")) | exact same_refl)
  k_with "src" => refine' x_list
  k_with "CompInG" => with_reducible refine' x_src ?_ ?_ ?_
  k_with "TestG" => k_dflt (first | exact test_none | (refine test_RT ?_; intros))
  k_with "EltG" => k_dflt (refine elt_RT ?_; intros)
  k_with "FinG" => k_dflt ((first | refine fin_tt ?_ | refine fin_id ?_ | refine fin_g ?_); intros)
  k_with "exec While" => with_reducible refine AtWhile.on ?_
  trivial
set_option maxHeartbeats 8000000
theorem ext_at {x : T} (h : (S (joinL [] (splitL 46 ((splitL 47 x).getLastD [])).dropLast) != Str.ofString "") = true) : extL x = [46] ++ (splitL 46 ((splitL 47 x).getLastD [])).getLastD [] := by
  rw [joinL_nil, eS0, S_bne] at h
  unfold extL; exact if_pos (by simpa using h)
theorem ext_fits {x : T} (h : (S (joinL [] (splitL 46 ((splitL 47 x).getLastD [])).dropLast) != Str.ofString "") = true) : 0 ≤ ((x.length : Nat) : Int) - ((([46] ++ (splitL 46 ((splitL 47 x).getLastD [])).getLastD [] : T).length : Nat) : Int) := by
  have := extL_len x; rw [ext_at h] at this; lia
section
example : True := by
  k_with "omd" => first | exact ext_fits (by assumption) | lia
  trivial
theorem halves_call (w : World) (x : T) (t : Tok) : Pu w 6 40 254 (fun _ => x.length ≤ 100000) [.str (S x) t] (RSeq "list" (halvesL x)) := by
  unfold Pu P0
  k_fill
  intro p loose mean mg mb A base l s Q E B X TT hh hd hu hpre hret
  refine' x_enter B X TT ?_
  intro L' h' F' N'
  (try dsimp only)
  (try k_fold)
  have b1 := splitL_last_len 47 x
  have b2 := splitL_sum 46 ((splitL 47 x).getLastD [])
  have b3 := sum_dropLast (splitL 46 ((splitL 47 x).getLastD []))
  have b6 := splitL_last_len 46 ((splitL 47 x).getLastD [])
  k_steps
  · have hx := ext_at (x := x) (by assumption)
    refine hret _ _ _ (Fr.keep (by assumption)) (r2_of (by assumption) (.head _) ?_ (by rw [hx]; rfl))
    rw [hx]
    congr 2; simp only [List.length_append, List.length_cons, List.length_nil]; lia
  · rename ((S (joinL _ _) != Str.ofString "") = _) => hc
    rw [joinL_nil, eS0, S_bne] at hc
    have hx : extL x = [] := by unfold extL; exact if_neg (by simpa using hc)
    refine hret _ _ _ (Fr.keep (by assumption)) (r2_of (by assumption) (.head _) ?_ (by rw [hx]; exact eS0))
    rw [hx, List.length_nil]
    congr 2
end
end
section
example : True := by
  k_with_none
  k_with "om" => first | assumption | exact Nat.le_add_left 1 _ | exact Int.add_nonneg (by assumption) (by decide) | exact tn1 (by assumption) | exact tn2 (by assumption) | exact tn3 (by assumption) | exact meas1 (by assumption) (by assumption) | exact meas3 (by assumption) (by assumption) | exact tlt1 (by assumption) (by assumption) | exact Nat.le_trans (by assumption) (by decide) | exact Nat.le_trans (Nat.add_le_add_right (by assumption) _) (by decide) | lia
  k_with "omd" => first | decide | k_extra "om"
  k_with "oml" => first | k_extra "om" | (simp only [List.length_append, List.length_map, List.length_drop, List.length_dropLast, List.length_cons, List.length_nil]; k_extra "om")
  k_with "ne" => (refine neN ?_; (try dsimp only); first | assumption | exact neLt (by assumption) (by k_mem) | exact neGt (by assumption) (by k_mem) | exact neOf (by assumption) (by k_mem) | exact neOf' (by assumption) (by k_mem) | lia)
  k_with "room" => first | exact room_of (by assumption) (by decide) | exact room_0 (by assumption)
  k_with "units" => exact room_of (by assumption) (by decide)
  k_with "ite" => with_reducible first | refine ite_tt ?_ | refine ite_ff ?_
  k_with "eval Name" => ((with_reducible show wpAny _ _ (eval (Expr.Name _ _) (envOf _ _ _ _ _)) _ _ _); first | (name_kind "local"; with_reducible refine' n_loc ?_) | (name_kind "globalImplicit"; with_reducible first | refine' n_glo ?_ | refine' n_boo ?_))
  k_with "loadName" => with_reducible refine' n_load ?_
  k_with "storeName" => (with_reducible refine' n_store ?_; intros; (try k_sweep))
  k_with "callWith" => with_reducible first | refine callWith_method0 ?_ | refine' n_cw0 ?_ | refine' n_cw1 ?_ | ((show wpAny _ _ (callWith _ (Value.builtin _) _ _ []) _ _ _); refine' n_cw ?_)
  k_with "callWith ref" => ((with_reducible show wpAny _ _ (callWith _ _ _ (backTo _ (starEach (_ :: _) _)) []) _ _ _); with_reducible refine' n_cwK ?_)
  k_with "eval Call" => with_reducible refine' n_call ?_
  k_with "eval Call Attribute" => with_reducible refine' n_mcall ?_
  k_with "exec Assign" => ((with_reducible show wpAny _ _ (exec (Stmt.Assign [Expr.Name _ _] _ _) _) _ _ _); with_reducible refine' n_asg ?_)
  k_with "exec If" => with_reducible refine wpAny_If ?_
  k_with "spliced" => ((with_reducible show wpAny _ _ (spliced (backTo _ (starEach (_ :: _) _))) _ _ _); with_reducible refine' n_acons ?_)
  k_with "newList" => (with_reducible refine' n_newl ?_; intros; (try k_sweep))
  k_with "eval BinOp" => with_reducible refine wpAny_BinOp ?_
  k_with "execs cons" => with_reducible first | (refine toks_cons ?_; intros) | refine wpAny_execs_cons ?_
  k_with "execs nil" => with_reducible refine wpAny_execs_nil ?_
  k_with "isTrue Name" => with_reducible refine' n_true ?_
  k_with "isTrue Call" => with_reducible refine' n_true ?_
  k_with "isTrue Compare" => ((with_reducible show wpAny _ _ (isTrue (PySem.Expr.Compare _ [_] [_] _) _ _) _ _ _); with_reducible refine wpAny_isTrue_Compare1 ?_)
  k_with "isTrue BoolOp" => with_reducible first | refine isTrue_and_nil ?_ | refine isTrue_or_nil ?_ | refine isTrue_and ?_ | refine isTrue_or ?_
  k_with "isTrue UnaryOp" => with_reducible refine isTrue_not ?_
  k_with "eval UnaryOp" => with_reducible refine UnaryOp_ ?_
  k_with "unaryOp USub int" => with_reducible refine n_neg ?_
  k_with "eval Subscript" => with_reducible refine Subscript_ ?_
  k_with "eval Slice" => with_reducible refine wpAny_Slice ?_
  k_with "evalPart some" => with_reducible refine evalPart_some_step ?_
  k_with "evalPart none" => with_reducible refine evalPart_none_step ?_
  k_with "exec AugAssign" => with_reducible refine wpAny_AugAssign_Name ?_
  k_with "exec Return some" => with_reducible refine wpAny_Return_some ?_
  k_with "exec Continue" => with_reducible refine wpAny_Continue ?_
  k_with "eval Constant str" => with_reducible refine n_str ?_
  k_with "eval Constant int" => with_reducible refine n_int ?_
  k_with "compareOp Eq str str" => with_reducible refine PyProof.Rows.eq_str ?_
  k_with "compareOp NotEq str str" => with_reducible refine PyProof.Rows.ne_str ?_
  k_with "inplaceOp Add int int" => with_reducible refine n_iaddi ?_
  k_with "binaryOp Add int int" => with_reducible refine n_addi ?_
  k_with "binaryOp Sub int int" => with_reducible refine n_subi ?_
  k_with "eval Tuple" => with_reducible refine Tuple_ ?_
  k_with "eval List" => with_reducible refine List_ ?_
  k_with "assign Name" => with_reducible refine PyProof.Rows.assign_Name ?_
  k_with "truthy bool" => with_reducible refine wpAny_truthy_bool ?_
  k_with "es" => with_reducible first | exact rfl | exact eS47 | exact eS61 | exact eS10 | exact eS46 | exact eSdd | exact eS32 | exact eS9 | exact eS0 | exact (S_of _).symm
  k_with "ls" => first | exact news_list (by k_asm) (by k_mem) | exact fr_list (by k_asm) (by k_asm)
  k_with "ss" => first | assumption | exact strs1 _ _
  k_with "nn" => first | assumption | exact splitL_ne _ _
  k_with "kp" => first | exact True.intro | ((try dsimp only); first | k_extra "ls" | assumption | k_extra "oml")
  k_with "c" => first | with_reducible assumption | ((with_reducible show StrsAre _ _); k_extra "ss") | ((with_reducible show Heap.IsList _ _ _); k_extra "ls") | ((with_reducible show plainIx _ = true); exact rfl) | ((with_reducible show _ = S _); k_extra "es") | ((with_reducible show _ ≠ _); k_extra "nn") | ((with_reducible show 0 ≤ _); k_extra "omd") | k_extra "oml"
  k_with "cc" => first | ((with_reducible refine And.intro ?za ?zb); (case za => k_extra "c"); (case zb => k_extra "cc")) | k_extra "c"
  k_with "pyIter ref" => with_reducible refine AtIter.on ?_
  k_with "call ref" => ((with_reducible refine' x_use (by k_dflt k_extra "pu") ?_); (with_reducible first | refine useE ?_ | refine useS ?_ | refine useI ?_ | refine useT3 (by assumption) (by assumption) ?_ | refine useT2 (by assumption) (by assumption) ?_ | refine useL (by assumption) (by assumption) ?_ | refine useT (by assumption) (by assumption) ?_); intros; (try k_sweep); (try k_fold))
  k_with "subscriptTail" => k_dflt ((first | ((with_reducible refine' p_butlast ?zk ?_); (case zk => k_extra "cc")) | ((with_reducible refine' p_to ?zk ?_); (case zk => k_extra "cc")) | ((with_reducible refine' p_last ?zk ?_); (case zk => k_extra "cc")) | ((with_reducible refine' p_from ?zk ?_); (case zk => k_extra "cc")) | ((with_reducible refine' p_midback ?zk ?_); (case zk => k_extra "cc")) | ((with_reducible refine' p_mid ?zk ?_); (case zk => k_extra "cc")) | ((with_reducible refine' q_rev ?zk ?_); (case zk => k_extra "cc")) | ((with_reducible refine' q_back ?zk ?_); (case zk => k_extra "cc")) | ((with_reducible refine' q_midback ?zk ?_); (case zk => k_extra "cc")) | ((with_reducible refine' i_slast ?zk ?_); (case zk => k_extra "cc")) | ((with_reducible refine' i_sat ?zk ?_); (case zk => k_extra "cc")) | ((with_reducible refine' i_last ?zk ?_); (case zk => k_extra "cc")) | ((with_reducible refine' i_nat ?zk ?_); (case zk => k_extra "cc"))); intros; (try k_sweep))
  k_with "call builtin:str.split" => (with_reducible refine' x_split ?_; intros; (try k_sweep))
  k_with "call builtin:str.splitlines" => (with_reducible refine' x_lines ?_; intros; (try k_sweep))
  k_with "call builtin:str.join" => (with_reducible refine' x_join ?_; intros)
  k_with "binaryOp Add str str" => (with_reducible refine' x_add ?_; intros)
  k_with "inplaceOp Add str str" => (with_reducible refine' x_iadd ?_; intros)
  k_with "call builtin:len" => with_reducible first | ((show wpAny _ _ (call _ [Value.str _ _]) _ _ _); refine' x_len ?_; intros) | (refine' x_llen ?_; intros)
  k_with "call builtin:str.rstrip" => with_reducible first | ((show wpAny _ _ (call _ [_]) _ _ _); refine' x_rstrip ?_; intros) | (refine' x_rstripc ?_; intros)
  k_with "call builtin:str.lstrip" => (with_reducible refine' x_lstripc ?_; intros)
  k_with "call builtin:chr" => (with_reducible refine' x_chr ?_; intros)
  k_with "call builtin:str.replace" => (with_reducible refine' x_replace ?_; intros)
  k_with "call builtin:min" => (with_reducible refine' x_min ?_; intros; (try k_sweep))
  k_with "call builtin:list.pop" => (with_reducible refine' x_pop ?_; intros; (try k_sweep))
  k_with "call builtin:list.append" => (with_reducible refine' x_append ?_; intros; (try k_sweep))
  k_with "setItem ref int" => (with_reducible refine' x_setlast ?_; intros; (try k_sweep))
  k_with "binaryOp Add ref ref" => (with_reducible refine' x_ladd ?_; intros; (try k_sweep))
  k_with "binaryOp Mult str int" => (with_reducible refine' x_smul ?_; intros)
  k_with "binaryOp Mult ref int" => (with_reducible refine' x_lmul ?_; intros; (try k_sweep))
  k_with "truthy ref" => (with_reducible refine' x_truthyL ?_; intros)
  k_with "truthy str" => (with_reducible refine' x_truthyS ?_; intros)
  k_with "assign Tuple" => (with_reducible refine' x_unpack ?_; intros)
  k_with "exec For" => with_reducible refine' x_for ?_
  k_with "sub" => first | (with_reducible exact sub_nil) | ((with_reducible refine sub_cons ?zh ?_); (case zh => k_mem); k_extra "sub") | (with_reducible exact (fun _ hp => hp)) | ((with_reducible refine sub_tail ?_); k_extra "sub")
  k_with "fz" => repeat' (first | (with_reducible exact same_u) | (with_reducible exact same_refl) | ((with_reducible refine same_if ?zh ?_); (case zh => k_mem)) | ((with_reducible refine same_st ?zh ?_); (case zh => k_mem)) | ((with_reducible refine same_kcons ?zh ?_); (case zh => k_mem)) | (with_reducible refine same_knil ?_) | ((with_reducible refine same_ins ?zh ?_); (case zh => k_extra "sub")) | exact same_refl)
  k_with "src" => refine' x_list
  k_with "CompInG" => with_reducible refine' x_src ?_ ?_ ?_
  k_with "TestG" => k_dflt (first | exact test_none | (refine test_RT ?_; intros))
  k_with "EltG" => k_dflt (refine elt_RT ?_; intros)
  k_with "FinG" => k_dflt ((first | refine fin_tt ?_ | refine fin_id ?_ | refine fin_g ?_); intros)
  k_with "exec While" => with_reducible refine AtWhile.on ?_
  trivial
set_option maxHeartbeats 8000000
theorem read_call (w : World) (x : T) (t : Tok) : Pu w 6 40 230 (fun _ => x.length ≤ 100000) [.str (S x) t] (RStr (readL x)) := by
  unfold Pu P0
  k_fill
  intro p loose mean mg mb A base l s Q E B X TT hh hd hu hpre hret
  refine' x_enter B X TT ?_
  intro L' h' F' N'
  (try dsimp only)
  (try k_fold)
  have b1 := splitL_last_len 10 x
  have b2 := splitL_sum 10 x
  have b3 := sum_dropLast (splitL 10 x)
  have b6 := joinL_len [] (splitL 10 x).dropLast
  have b7 := rstripP_len (Str.ofString " \t").cps.contains ((splitL 10 x).getLastD [])
  rw [List.length_nil, Nat.mul_zero] at b6
  k_steps
  refine hret _ _ _ (Fr.keep (by assumption)) (RStr.of ?_)
  unfold readL
  rw [blcont, joinL_nil]
  rfl
end
section
example : True := by
  k_with_none
  k_with "om" => first | assumption | exact Nat.le_add_left 1 _ | exact Int.add_nonneg (by assumption) (by decide) | exact tn1 (by assumption) | exact tn2 (by assumption) | exact tn3 (by assumption) | exact meas1 (by assumption) (by assumption) | exact meas3 (by assumption) (by assumption) | exact tlt1 (by assumption) (by assumption) | exact Nat.le_trans (by assumption) (by decide) | exact Nat.le_trans (Nat.add_le_add_right (by assumption) _) (by decide) | lia
  k_with "omd" => first | decide | k_extra "om"
  k_with "oml" => first | k_extra "om" | (simp only [List.length_append, List.length_map, List.length_drop, List.length_dropLast, List.length_cons, List.length_nil]; k_extra "om")
  k_with "ne" => (refine neN ?_; (try dsimp only); first | assumption | exact neLt (by assumption) (by k_mem) | exact neGt (by assumption) (by k_mem) | exact neOf (by assumption) (by k_mem) | exact neOf' (by assumption) (by k_mem) | lia)
  k_with "room" => first | exact room_of (by assumption) (by decide) | exact room_0 (by assumption)
  k_with "units" => exact room_of (by assumption) (by decide)
  k_with "ite" => with_reducible first | refine ite_tt ?_ | refine ite_ff ?_
  k_with "eval Name" => ((with_reducible show wpAny _ _ (eval (Expr.Name _ _) (envOf _ _ _ _ _)) _ _ _); first | (name_kind "local"; with_reducible refine' n_loc ?_) | (name_kind "globalImplicit"; with_reducible first | refine' n_glo ?_ | refine' n_boo ?_))
  k_with "loadName" => with_reducible refine' n_load ?_
  k_with "storeName" => (with_reducible refine' n_store ?_; intros; (try k_sweep))
  k_with "callWith" => with_reducible first | refine callWith_method0 ?_ | refine' n_cw0 ?_ | refine' n_cw1 ?_ | ((show wpAny _ _ (callWith _ (Value.builtin _) _ _ []) _ _ _); refine' n_cw ?_)
  k_with "callWith ref" => ((with_reducible show wpAny _ _ (callWith _ _ _ (backTo _ (starEach (_ :: _) _)) []) _ _ _); with_reducible refine' n_cwK ?_)
  k_with "eval Call" => with_reducible refine' n_call ?_
  k_with "eval Call Attribute" => with_reducible refine' n_mcall ?_
  k_with "exec Assign" => ((with_reducible show wpAny _ _ (exec (Stmt.Assign [Expr.Name _ _] _ _) _) _ _ _); with_reducible refine' n_asg ?_)
  k_with "exec If" => with_reducible refine wpAny_If ?_
  k_with "spliced" => ((with_reducible show wpAny _ _ (spliced (backTo _ (starEach (_ :: _) _))) _ _ _); with_reducible refine' n_acons ?_)
  k_with "newList" => (with_reducible refine' n_newl ?_; intros; (try k_sweep))
  k_with "eval BinOp" => with_reducible refine wpAny_BinOp ?_
  k_with "execs cons" => with_reducible first | (refine toks_cons ?_; intros) | refine wpAny_execs_cons ?_
  k_with "execs nil" => with_reducible refine wpAny_execs_nil ?_
  k_with "isTrue Name" => with_reducible refine' n_true ?_
  k_with "isTrue Call" => with_reducible refine' n_true ?_
  k_with "isTrue Compare" => ((with_reducible show wpAny _ _ (isTrue (PySem.Expr.Compare _ [_] [_] _) _ _) _ _ _); with_reducible refine wpAny_isTrue_Compare1 ?_)
  k_with "isTrue BoolOp" => with_reducible first | refine isTrue_and_nil ?_ | refine isTrue_or_nil ?_ | refine isTrue_and ?_ | refine isTrue_or ?_
  k_with "isTrue UnaryOp" => with_reducible refine isTrue_not ?_
  k_with "eval UnaryOp" => with_reducible refine UnaryOp_ ?_
  k_with "unaryOp USub int" => with_reducible refine n_neg ?_
  k_with "eval Subscript" => with_reducible refine Subscript_ ?_
  k_with "eval Slice" => with_reducible refine wpAny_Slice ?_
  k_with "evalPart some" => with_reducible refine evalPart_some_step ?_
  k_with "evalPart none" => with_reducible refine evalPart_none_step ?_
  k_with "exec AugAssign" => with_reducible refine wpAny_AugAssign_Name ?_
  k_with "exec Return some" => with_reducible refine wpAny_Return_some ?_
  k_with "exec Continue" => with_reducible refine wpAny_Continue ?_
  k_with "eval Constant str" => with_reducible refine n_str ?_
  k_with "eval Constant int" => with_reducible refine n_int ?_
  k_with "compareOp Eq str str" => with_reducible refine PyProof.Rows.eq_str ?_
  k_with "compareOp NotEq str str" => with_reducible refine PyProof.Rows.ne_str ?_
  k_with "inplaceOp Add int int" => with_reducible refine n_iaddi ?_
  k_with "binaryOp Add int int" => with_reducible refine n_addi ?_
  k_with "binaryOp Sub int int" => with_reducible refine n_subi ?_
  k_with "eval Tuple" => with_reducible refine Tuple_ ?_
  k_with "eval List" => with_reducible refine List_ ?_
  k_with "assign Name" => with_reducible refine PyProof.Rows.assign_Name ?_
  k_with "truthy bool" => with_reducible refine wpAny_truthy_bool ?_
  k_with "es" => with_reducible first | exact rfl | exact eS47 | exact eS61 | exact eS10 | exact eS46 | exact eSdd | exact eS32 | exact eS9 | exact eS0 | exact (S_of _).symm
  k_with "ls" => first | exact news_list (by k_asm) (by k_mem) | exact fr_list (by k_asm) (by k_asm)
  k_with "ss" => first | assumption | exact strs1 _ _
  k_with "nn" => first | assumption | exact splitL_ne _ _
  k_with "kp" => first | exact True.intro | ((try dsimp only); first | k_extra "ls" | assumption | k_extra "oml")
  k_with "c" => first | with_reducible assumption | ((with_reducible show StrsAre _ _); k_extra "ss") | ((with_reducible show Heap.IsList _ _ _); k_extra "ls") | ((with_reducible show plainIx _ = true); exact rfl) | ((with_reducible show _ = S _); k_extra "es") | ((with_reducible show _ ≠ _); k_extra "nn") | ((with_reducible show 0 ≤ _); k_extra "omd") | k_extra "oml"
  k_with "cc" => first | ((with_reducible refine And.intro ?za ?zb); (case za => k_extra "c"); (case zb => k_extra "cc")) | k_extra "c"
  k_with "pyIter ref" => with_reducible refine AtIter.on ?_
  k_with "call ref" => ((with_reducible refine' x_use (by k_dflt k_extra "pu") ?_); (with_reducible first | refine useE ?_ | refine useS ?_ | refine useI ?_ | refine useT3 (by assumption) (by assumption) ?_ | refine useT2 (by assumption) (by assumption) ?_ | refine useL (by assumption) (by assumption) ?_ | refine useT (by assumption) (by assumption) ?_); intros; (try k_sweep); (try k_fold))
  k_with "subscriptTail" => k_dflt ((first | ((with_reducible refine' p_butlast ?zk ?_); (case zk => k_extra "cc")) | ((with_reducible refine' p_to ?zk ?_); (case zk => k_extra "cc")) | ((with_reducible refine' p_last ?zk ?_); (case zk => k_extra "cc")) | ((with_reducible refine' p_from ?zk ?_); (case zk => k_extra "cc")) | ((with_reducible refine' p_midback ?zk ?_); (case zk => k_extra "cc")) | ((with_reducible refine' p_mid ?zk ?_); (case zk => k_extra "cc")) | ((with_reducible refine' q_rev ?zk ?_); (case zk => k_extra "cc")) | ((with_reducible refine' q_back ?zk ?_); (case zk => k_extra "cc")) | ((with_reducible refine' q_midback ?zk ?_); (case zk => k_extra "cc")) | ((with_reducible refine' i_slast ?zk ?_); (case zk => k_extra "cc")) | ((with_reducible refine' i_sat ?zk ?_); (case zk => k_extra "cc")) | ((with_reducible refine' i_last ?zk ?_); (case zk => k_extra "cc")) | ((with_reducible refine' i_nat ?zk ?_); (case zk => k_extra "cc"))); intros; (try k_sweep))
  k_with "call builtin:str.split" => (with_reducible refine' x_split ?_; intros; (try k_sweep))
  k_with "call builtin:str.splitlines" => (with_reducible refine' x_lines ?_; intros; (try k_sweep))
  k_with "call builtin:str.join" => (with_reducible refine' x_join ?_; intros)
  k_with "binaryOp Add str str" => (with_reducible refine' x_add ?_; intros)
  k_with "inplaceOp Add str str" => (with_reducible refine' x_iadd ?_; intros)
  k_with "call builtin:len" => with_reducible first | ((show wpAny _ _ (call _ [Value.str _ _]) _ _ _); refine' x_len ?_; intros) | (refine' x_llen ?_; intros)
  k_with "call builtin:str.rstrip" => with_reducible first | ((show wpAny _ _ (call _ [_]) _ _ _); refine' x_rstrip ?_; intros) | (refine' x_rstripc ?_; intros)
  k_with "call builtin:str.lstrip" => (with_reducible refine' x_lstripc ?_; intros)
  k_with "call builtin:chr" => (with_reducible refine' x_chr ?_; intros)
  k_with "call builtin:str.replace" => (with_reducible refine' x_replace ?_; intros)
  k_with "call builtin:min" => (with_reducible refine' x_min ?_; intros; (try k_sweep))
  k_with "call builtin:list.pop" => (with_reducible refine' x_pop ?_; intros; (try k_sweep))
  k_with "call builtin:list.append" => (with_reducible refine' x_append ?_; intros; (try k_sweep))
  k_with "setItem ref int" => (with_reducible refine' x_setlast ?_; intros; (try k_sweep))
  k_with "binaryOp Add ref ref" => (with_reducible refine' x_ladd ?_; intros; (try k_sweep))
  k_with "binaryOp Mult str int" => (with_reducible refine' x_smul ?_; intros)
  k_with "binaryOp Mult ref int" => (with_reducible refine' x_lmul ?_; intros; (try k_sweep))
  k_with "truthy ref" => (with_reducible refine' x_truthyL ?_; intros)
  k_with "truthy str" => (with_reducible refine' x_truthyS ?_; intros)
  k_with "assign Tuple" => (with_reducible refine' x_unpack ?_; intros)
  k_with "exec For" => with_reducible refine' x_for ?_
  k_with "sub" => first | (with_reducible exact sub_nil) | ((with_reducible refine sub_cons ?zh ?_); (case zh => k_mem); k_extra "sub") | (with_reducible exact (fun _ hp => hp)) | ((with_reducible refine sub_tail ?_); k_extra "sub")
  k_with "fz" => repeat' (first | (with_reducible exact same_u) | (with_reducible exact same_refl) | ((with_reducible refine same_if ?zh ?_); (case zh => k_mem)) | ((with_reducible refine same_st ?zh ?_); (case zh => k_mem)) | ((with_reducible refine same_kcons ?zh ?_); (case zh => k_mem)) | (with_reducible refine same_knil ?_) | ((with_reducible refine same_ins ?zh ?_); (case zh => k_extra "sub")) | exact same_refl)
  k_with "src" => refine' x_list
  k_with "CompInG" => with_reducible refine' x_src ?_ ?_ ?_
  k_with "TestG" => k_dflt (first | exact test_none | (refine test_RT ?_; intros))
  k_with "EltG" => k_dflt (refine elt_RT ?_; intros)
  k_with "FinG" => k_dflt ((first | refine fin_tt ?_ | refine fin_id ?_ | refine fin_g ?_); intros)
  k_with "exec While" => with_reducible refine AtWhile.on ?_
  trivial
section
example : True := by
  k_with "eval ListComp" => ((with_reducible show wpAny _ _ (eval (Expr.ListComp (Expr.Call (Expr.Name (Str.ofString "_law_read") _) _ _ _) _ _ _) _) _ _ _); k_dflt refine' x_compE (R := RT) (G := fun y v => RT (readL (y ++ [10])) v) (pz := fun _ => true) RT_inj ?_)
  k_with "pu" => exact read_call _ _ _
  trivial
theorem readrows_call (w : World) (x : T) (t : Tok) : Pu w 12 60 235 (fun _ => x.length ≤ 90000) [.str (S x) t] (RSeq "list" (readRowsL x)) := by
  unfold Pu P0
  k_fill
  intro p loose mean mg mb A base l s Q E B X TT hh hd hu hpre hret
  refine' x_enter B X TT ?_
  intro L' h' F' N'
  (try dsimp only)
  (try k_fold)
  have b1 := splitL_last_len 10 x
  have b2 := splitL_sum 10 x
  have b6 := sum_dropLast (splitL 10 x)
  k_steps
  all_goals first
    | exact RT.of rfl
    | exact ⟨_, _, rfl, by assumption⟩
    | exact hret _ _ _ (Fr.keep (by assumption)) (ret_seq (by assumption) (.head _) (by assumption))
end
end
section
example : True := by
  k_with_none
  k_with "om" => first | assumption | exact Nat.le_add_left 1 _ | exact Int.add_nonneg (by assumption) (by decide) | exact tn1 (by assumption) | exact tn2 (by assumption) | exact tn3 (by assumption) | exact meas1 (by assumption) (by assumption) | exact meas3 (by assumption) (by assumption) | exact tlt1 (by assumption) (by assumption) | exact Nat.le_trans (by assumption) (by decide) | exact Nat.le_trans (Nat.add_le_add_right (by assumption) _) (by decide) | lia
  k_with "omd" => first | decide | k_extra "om"
  k_with "oml" => first | k_extra "om" | (simp only [List.length_append, List.length_map, List.length_drop, List.length_dropLast, List.length_cons, List.length_nil]; k_extra "om")
  k_with "ne" => (refine neN ?_; (try dsimp only); first | assumption | exact neLt (by assumption) (by k_mem) | exact neGt (by assumption) (by k_mem) | exact neOf (by assumption) (by k_mem) | exact neOf' (by assumption) (by k_mem) | lia)
  k_with "room" => first | exact room_of (by assumption) (by decide) | exact room_0 (by assumption)
  k_with "units" => exact room_of (by assumption) (by decide)
  k_with "ite" => with_reducible first | refine ite_tt ?_ | refine ite_ff ?_
  k_with "eval Name" => ((with_reducible show wpAny _ _ (eval (Expr.Name _ _) (envOf _ _ _ _ _)) _ _ _); first | (name_kind "local"; with_reducible refine' n_loc ?_) | (name_kind "globalImplicit"; with_reducible first | refine' n_glo ?_ | refine' n_boo ?_))
  k_with "loadName" => with_reducible refine' n_load ?_
  k_with "storeName" => (with_reducible refine' n_store ?_; intros; (try k_sweep))
  k_with "callWith" => with_reducible first | refine callWith_method0 ?_ | refine' n_cw0 ?_ | refine' n_cw1 ?_ | ((show wpAny _ _ (callWith _ (Value.builtin _) _ _ []) _ _ _); refine' n_cw ?_)
  k_with "callWith ref" => ((with_reducible show wpAny _ _ (callWith _ _ _ (backTo _ (starEach (_ :: _) _)) []) _ _ _); with_reducible refine' n_cwK ?_)
  k_with "eval Call" => with_reducible refine' n_call ?_
  k_with "eval Call Attribute" => with_reducible refine' n_mcall ?_
  k_with "exec Assign" => ((with_reducible show wpAny _ _ (exec (Stmt.Assign [Expr.Name _ _] _ _) _) _ _ _); with_reducible refine' n_asg ?_)
  k_with "exec If" => with_reducible refine wpAny_If ?_
  k_with "spliced" => ((with_reducible show wpAny _ _ (spliced (backTo _ (starEach (_ :: _) _))) _ _ _); with_reducible refine' n_acons ?_)
  k_with "newList" => (with_reducible refine' n_newl ?_; intros; (try k_sweep))
  k_with "eval BinOp" => with_reducible refine wpAny_BinOp ?_
  k_with "execs cons" => with_reducible first | (refine toks_cons ?_; intros) | refine wpAny_execs_cons ?_
  k_with "execs nil" => with_reducible refine wpAny_execs_nil ?_
  k_with "isTrue Name" => with_reducible refine' n_true ?_
  k_with "isTrue Call" => with_reducible refine' n_true ?_
  k_with "isTrue Compare" => ((with_reducible show wpAny _ _ (isTrue (PySem.Expr.Compare _ [_] [_] _) _ _) _ _ _); with_reducible refine wpAny_isTrue_Compare1 ?_)
  k_with "isTrue BoolOp" => with_reducible first | refine isTrue_and_nil ?_ | refine isTrue_or_nil ?_ | refine isTrue_and ?_ | refine isTrue_or ?_
  k_with "isTrue UnaryOp" => with_reducible refine isTrue_not ?_
  k_with "eval UnaryOp" => with_reducible refine UnaryOp_ ?_
  k_with "unaryOp USub int" => with_reducible refine n_neg ?_
  k_with "eval Subscript" => with_reducible refine Subscript_ ?_
  k_with "eval Slice" => with_reducible refine wpAny_Slice ?_
  k_with "evalPart some" => with_reducible refine evalPart_some_step ?_
  k_with "evalPart none" => with_reducible refine evalPart_none_step ?_
  k_with "exec AugAssign" => with_reducible refine wpAny_AugAssign_Name ?_
  k_with "exec Return some" => with_reducible refine wpAny_Return_some ?_
  k_with "exec Continue" => with_reducible refine wpAny_Continue ?_
  k_with "eval Constant str" => with_reducible refine n_str ?_
  k_with "eval Constant int" => with_reducible refine n_int ?_
  k_with "compareOp Eq str str" => with_reducible refine PyProof.Rows.eq_str ?_
  k_with "compareOp NotEq str str" => with_reducible refine PyProof.Rows.ne_str ?_
  k_with "inplaceOp Add int int" => with_reducible refine n_iaddi ?_
  k_with "binaryOp Add int int" => with_reducible refine n_addi ?_
  k_with "binaryOp Sub int int" => with_reducible refine n_subi ?_
  k_with "eval Tuple" => with_reducible refine Tuple_ ?_
  k_with "eval List" => with_reducible refine List_ ?_
  k_with "assign Name" => with_reducible refine PyProof.Rows.assign_Name ?_
  k_with "truthy bool" => with_reducible refine wpAny_truthy_bool ?_
  k_with "es" => with_reducible first | exact rfl | exact eS47 | exact eS61 | exact eS10 | exact eS46 | exact eSdd | exact eS32 | exact eS9 | exact eS0 | exact (S_of _).symm
  k_with "ls" => first | exact news_list (by k_asm) (by k_mem) | exact fr_list (by k_asm) (by k_asm)
  k_with "ss" => first | assumption | exact strs1 _ _
  k_with "nn" => first | assumption | exact splitL_ne _ _
  k_with "kp" => first | exact True.intro | ((try dsimp only); first | k_extra "ls" | assumption | k_extra "oml")
  k_with "c" => first | with_reducible assumption | ((with_reducible show StrsAre _ _); k_extra "ss") | ((with_reducible show Heap.IsList _ _ _); k_extra "ls") | ((with_reducible show plainIx _ = true); exact rfl) | ((with_reducible show _ = S _); k_extra "es") | ((with_reducible show _ ≠ _); k_extra "nn") | ((with_reducible show 0 ≤ _); k_extra "omd") | k_extra "oml"
  k_with "cc" => first | ((with_reducible refine And.intro ?za ?zb); (case za => k_extra "c"); (case zb => k_extra "cc")) | k_extra "c"
  k_with "pyIter ref" => with_reducible refine AtIter.on ?_
  k_with "call ref" => ((with_reducible refine' x_use (by k_dflt k_extra "pu") ?_); (with_reducible first | refine useE ?_ | refine useS ?_ | refine useI ?_ | refine useT3 (by assumption) (by assumption) ?_ | refine useT2 (by assumption) (by assumption) ?_ | refine useL (by assumption) (by assumption) ?_ | refine useT (by assumption) (by assumption) ?_); intros; (try k_sweep); (try k_fold))
  k_with "subscriptTail" => k_dflt ((first | ((with_reducible refine' p_butlast ?zk ?_); (case zk => k_extra "cc")) | ((with_reducible refine' p_to ?zk ?_); (case zk => k_extra "cc")) | ((with_reducible refine' p_last ?zk ?_); (case zk => k_extra "cc")) | ((with_reducible refine' p_from ?zk ?_); (case zk => k_extra "cc")) | ((with_reducible refine' p_midback ?zk ?_); (case zk => k_extra "cc")) | ((with_reducible refine' p_mid ?zk ?_); (case zk => k_extra "cc")) | ((with_reducible refine' q_rev ?zk ?_); (case zk => k_extra "cc")) | ((with_reducible refine' q_back ?zk ?_); (case zk => k_extra "cc")) | ((with_reducible refine' q_midback ?zk ?_); (case zk => k_extra "cc")) | ((with_reducible refine' i_slast ?zk ?_); (case zk => k_extra "cc")) | ((with_reducible refine' i_sat ?zk ?_); (case zk => k_extra "cc")) | ((with_reducible refine' i_last ?zk ?_); (case zk => k_extra "cc")) | ((with_reducible refine' i_nat ?zk ?_); (case zk => k_extra "cc"))); intros; (try k_sweep))
  k_with "call builtin:str.split" => (with_reducible refine' x_split ?_; intros; (try k_sweep))
  k_with "call builtin:str.splitlines" => (with_reducible refine' x_lines ?_; intros; (try k_sweep))
  k_with "call builtin:str.join" => (with_reducible refine' x_join ?_; intros)
  k_with "binaryOp Add str str" => (with_reducible refine' x_add ?_; intros)
  k_with "inplaceOp Add str str" => (with_reducible refine' x_iadd ?_; intros)
  k_with "call builtin:len" => with_reducible first | ((show wpAny _ _ (call _ [Value.str _ _]) _ _ _); refine' x_len ?_; intros) | (refine' x_llen ?_; intros)
  k_with "call builtin:str.rstrip" => with_reducible first | ((show wpAny _ _ (call _ [_]) _ _ _); refine' x_rstrip ?_; intros) | (refine' x_rstripc ?_; intros)
  k_with "call builtin:str.lstrip" => (with_reducible refine' x_lstripc ?_; intros)
  k_with "call builtin:chr" => (with_reducible refine' x_chr ?_; intros)
  k_with "call builtin:str.replace" => (with_reducible refine' x_replace ?_; intros)
  k_with "call builtin:min" => (with_reducible refine' x_min ?_; intros; (try k_sweep))
  k_with "call builtin:list.pop" => (with_reducible refine' x_pop ?_; intros; (try k_sweep))
  k_with "call builtin:list.append" => (with_reducible refine' x_append ?_; intros; (try k_sweep))
  k_with "setItem ref int" => (with_reducible refine' x_setlast ?_; intros; (try k_sweep))
  k_with "binaryOp Add ref ref" => (with_reducible refine' x_ladd ?_; intros; (try k_sweep))
  k_with "binaryOp Mult str int" => (with_reducible refine' x_smul ?_; intros)
  k_with "binaryOp Mult ref int" => (with_reducible refine' x_lmul ?_; intros; (try k_sweep))
  k_with "truthy ref" => (with_reducible refine' x_truthyL ?_; intros)
  k_with "truthy str" => (with_reducible refine' x_truthyS ?_; intros)
  k_with "assign Tuple" => (with_reducible refine' x_unpack ?_; intros)
  k_with "exec For" => with_reducible refine' x_for ?_
  k_with "sub" => first | (with_reducible exact sub_nil) | ((with_reducible refine sub_cons ?zh ?_); (case zh => k_mem); k_extra "sub") | (with_reducible exact (fun _ hp => hp)) | ((with_reducible refine sub_tail ?_); k_extra "sub")
  k_with "fz" => repeat' (first | (with_reducible exact same_u) | (with_reducible exact same_refl) | ((with_reducible refine same_if ?zh ?_); (case zh => k_mem)) | ((with_reducible refine same_st ?zh ?_); (case zh => k_mem)) | ((with_reducible refine same_kcons ?zh ?_); (case zh => k_mem)) | (with_reducible refine same_knil ?_) | ((with_reducible refine same_ins ?zh ?_); (case zh => k_extra "sub")) | exact same_refl)
  k_with "src" => refine' x_list
  k_with "CompInG" => with_reducible refine' x_src ?_ ?_ ?_
  k_with "TestG" => k_dflt (first | exact test_none | (refine test_RT ?_; intros))
  k_with "EltG" => k_dflt (refine elt_RT ?_; intros)
  k_with "FinG" => k_dflt ((first | refine fin_tt ?_ | refine fin_id ?_ | refine fin_g ?_); intros)
  k_with "exec While" => with_reducible refine AtWhile.on ?_
  trivial
noncomputable def nonE (y : T) : Bool := y != []
section
example : True := by
  k_with "exec Assign cons ListComp" => ((with_reducible show wpAny _ _ (exec (Stmt.Assign [Expr.Name (Str.ofString "heads") _] (Expr.ListComp _ _ _ _) _) _) _ _ _); k_dflt refine' x_compA (R := RT) (G := RT) (pz := nonE) RT_inj ?_)
  k_with "eval ListComp" => ((with_reducible show wpAny _ _ (eval (Expr.ListComp (Expr.IfExp _ _ _ _) _ _ _) _) _ _ _); k_dflt refine' x_compE (R := RT) (G := fun y v => RT (addSlash y) v) (pz := fun _ => true) RT_inj ?_)
  trivial
theorem ne_of_filter {l : List T} {a : T} (h : a ∈ l.filter (nonE)) : a ≠ [] := by have := (List.mem_filter.mp h).2; simpa [nonE] using this
example : True := by
  k_with "nn" => exact ne_of_filter (by assumption)
  trivial
theorem addSlash_sum : ∀ xs : List T, ((xs.map addSlash).map List.length).sum ≤ (xs.map List.length).sum + xs.length
  | [] => Nat.le_refl _
  | x :: r => by
    have := addSlash_sum r
    have h2 : (addSlash x).length ≤ x.length + 1 := by unfold addSlash; split <;> simp
    simp only [List.map_cons, List.sum_cons, List.length_cons]; lia
theorem addSlash_yes {a : T} (h : a ≠ []) (e : (S [a.getLastD 0] == Str.ofString "/") = true) : a = addSlash a := by
  rw [eS47, S_beq, beq_iff_eq] at e
  injection e with e _
  unfold addSlash; rw [last_some h, e, if_pos rfl]
theorem addSlash_no {a : T} (h : a ≠ []) (e : (S [a.getLastD 0] == Str.ofString "/") = false) : a ++ [47] = addSlash a := by
  rw [eS47, S_beq, beq_eq_false_iff_ne] at e
  unfold addSlash; rw [last_some h, if_neg]
  intro h; apply e; injection h with h; rw [h]
theorem joined_call (w : World) (la : Addr) (vs : List Value) (ts : List T) (hts : ts ≠ []) (hS : StrsAre vs (ts.map S)) (hsz : (ts.map List.length).sum + ts.length ≤ 100000) : Pu w 6 60 240 (fun h => h.IsList la vs.toArray) [.ref la] (RStr (joinedL ts)) := by
  unfold Pu P0
  k_fill
  intro p loose mean mg mb A base l s Q E B X TT hh hd hu hpre hret
  refine' x_enter B X TT ?_
  intro L' h' F' N'
  (try dsimp only)
  (try k_fold)
  k_steps
  refine' loop_range (σ := Nat × Tok) (n := ts.length) (fun _ => []) (fun c => [(Str.ofString "begin", .int (c.1 : Int) c.2)]) [Str.ofString "begin"] (fun i c => c.1 = beginL (ts.take i) 0 0) [] (0, _) ?hh ?k1 ?k2 ?k3 ?k4 ?k5 ?k6 ?k7 ?turn ?done
  case hh => assumption
  case k1 => assumption
  case k2 => lia
  case k3 => assumption
  case k4 => assumption
  case k5 => kst_all
  case k6 => rfl
  case k7 => intro c; rfl
  case turn =>
    rintro ⟨b, tb⟩ i t u h tk own hi hP hoff F N QQ1 hQ1
    have hgi := getD_len ts i
    dsimp only [envOf, List.nil_append] at F N hP
    (try k_fold)
    k_steps
    all_goals try ((first | (refine hQ1 _ _ ?_; dsimp only [LoopPost])); try k_steps)
    · rename ((S _ == Str.ofString "/") = true) => hc
      rw [eS47, S_beq, beq_iff_eq] at hc
      refine LoopEnd.intro (i, t) (by assumption) (by assumption) (fun p hp => nomatch hp) (fun p hp => nomatch hp) (fun p hp => hp) (by kst_all) (by intro z h1 h2 h3; simp only [List.forall_mem_cons, List.not_mem_nil, false_implies, implies_true, and_true, ne_eq, List.contains_cons, List.contains_nil, Bool.or_false, beq_eq_false_iff_ne] at h2 h3; simp [kstB, h1, h2]) ?_
      rw [begin_step hi]; exact (if_pos hc).symm
    · rename ((S _ == Str.ofString "/") = false) => hc
      rw [eS47, S_beq, beq_eq_false_iff_ne] at hc
      refine LoopEnd.intro (b, tb) (by assumption) (by assumption) (fun p hp => nomatch hp) (fun p hp => nomatch hp) (fun p hp => hp) (by kst_all) (by intro z h1 h2 h3; simp only [List.forall_mem_cons, List.not_mem_nil, false_implies, implies_true, and_true, ne_eq, List.contains_cons, List.contains_nil, Bool.or_false, beq_eq_false_iff_ne] at h2 h3; simp [kstB, h1, h2]) ?_
      rw [begin_step hi]; exact hP.trans (if_neg hc).symm
  case done =>
    rintro ⟨b, tb⟩ u h tk hP F N
    dsimp only [envOf, List.nil_append] at F N hP
    rw [List.take_length] at hP
    have hb := beginL_lt hts
    have hbl : b ≤ ts.length := by lia
    have hsl : (ts.dropLast.drop b).length ≤ ts.length := by rw [List.length_drop, List.length_dropLast]; lia
    have hfl : ((ts.dropLast.drop b).filter (nonE)).length ≤ 16000000 := Nat.le_trans (List.length_filter_le _ _) (by lia)
    have hfs := sum_filter (nonE) (ts.dropLast.drop b)
    have hsd := sum_drop b ts.dropLast
    have hsd2 := sum_dropLast ts
    have hfa := addSlash_sum ((ts.dropLast.drop b).filter (nonE))
    have hfb := List.length_filter_le (nonE) (ts.dropLast.drop b)
    have hlast := len_le_sum (getLastD_mem hts)
    have hjn := joinL_len [] (((ts.dropLast.drop b).filter (nonE)).map addSlash)
    simp only [List.length_nil, Nat.mul_zero, Nat.add_zero] at hjn
    (try k_fold)
    k_steps
    all_goals try exact RT.of rfl
    all_goals try exact keeps_refl _
    all_goals try exact ⟨_, _, rfl, by assumption⟩
    all_goals try exact addSlash_yes (ne_of_filter (by assumption)) (by assumption) ▸ RT.of rfl
    all_goals try (rw [eS0, S_bne]; rfl)
    all_goals try (rw [← addSlash_no (ne_of_filter (by assumption)) (by assumption)]; exact RT.of rfl)
    refine hret _ _ _ (Fr.keep (by assumption)) (RStr.of ?_); simp only [joinL_nil]; rw [hP]; rfl
end
end
section
example : True := by
  k_with_none
  k_with "om" => first | assumption | exact Nat.le_add_left 1 _ | exact Int.add_nonneg (by assumption) (by decide) | exact tn1 (by assumption) | exact tn2 (by assumption) | exact tn3 (by assumption) | exact meas1 (by assumption) (by assumption) | exact meas3 (by assumption) (by assumption) | exact tlt1 (by assumption) (by assumption) | exact Nat.le_trans (by assumption) (by decide) | exact Nat.le_trans (Nat.add_le_add_right (by assumption) _) (by decide) | lia
  k_with "omd" => first | decide | k_extra "om"
  k_with "oml" => first | k_extra "om" | (simp only [List.length_append, List.length_map, List.length_drop, List.length_dropLast, List.length_cons, List.length_nil]; k_extra "om")
  k_with "ne" => (refine neN ?_; (try dsimp only); first | assumption | exact neLt (by assumption) (by k_mem) | exact neGt (by assumption) (by k_mem) | exact neOf (by assumption) (by k_mem) | exact neOf' (by assumption) (by k_mem) | lia)
  k_with "room" => first | exact room_of (by assumption) (by decide) | exact room_0 (by assumption)
  k_with "units" => exact room_of (by assumption) (by decide)
  k_with "ite" => with_reducible first | refine ite_tt ?_ | refine ite_ff ?_
  k_with "eval Name" => ((with_reducible show wpAny _ _ (eval (Expr.Name _ _) (envOf _ _ _ _ _)) _ _ _); first | (name_kind "local"; with_reducible refine' n_loc ?_) | (name_kind "globalImplicit"; with_reducible first | refine' n_glo ?_ | refine' n_boo ?_))
  k_with "loadName" => with_reducible refine' n_load ?_
  k_with "storeName" => (with_reducible refine' n_store ?_; intros; (try k_sweep))
  k_with "callWith" => with_reducible first | refine callWith_method0 ?_ | refine' n_cw0 ?_ | refine' n_cw1 ?_ | ((show wpAny _ _ (callWith _ (Value.builtin _) _ _ []) _ _ _); refine' n_cw ?_)
  k_with "callWith ref" => ((with_reducible show wpAny _ _ (callWith _ _ _ (backTo _ (starEach (_ :: _) _)) []) _ _ _); with_reducible refine' n_cwK ?_)
  k_with "eval Call" => with_reducible refine' n_call ?_
  k_with "eval Call Attribute" => with_reducible refine' n_mcall ?_
  k_with "exec Assign" => ((with_reducible show wpAny _ _ (exec (Stmt.Assign [Expr.Name _ _] _ _) _) _ _ _); with_reducible refine' n_asg ?_)
  k_with "exec If" => with_reducible refine wpAny_If ?_
  k_with "spliced" => ((with_reducible show wpAny _ _ (spliced (backTo _ (starEach (_ :: _) _))) _ _ _); with_reducible refine' n_acons ?_)
  k_with "newList" => (with_reducible refine' n_newl ?_; intros; (try k_sweep))
  k_with "eval BinOp" => with_reducible refine wpAny_BinOp ?_
  k_with "execs cons" => with_reducible first | (refine toks_cons ?_; intros) | refine wpAny_execs_cons ?_
  k_with "execs nil" => with_reducible refine wpAny_execs_nil ?_
  k_with "isTrue Name" => with_reducible refine' n_true ?_
  k_with "isTrue Call" => with_reducible refine' n_true ?_
  k_with "isTrue Compare" => ((with_reducible show wpAny _ _ (isTrue (PySem.Expr.Compare _ [_] [_] _) _ _) _ _ _); with_reducible refine wpAny_isTrue_Compare1 ?_)
  k_with "isTrue BoolOp" => with_reducible first | refine isTrue_and_nil ?_ | refine isTrue_or_nil ?_ | refine isTrue_and ?_ | refine isTrue_or ?_
  k_with "isTrue UnaryOp" => with_reducible refine isTrue_not ?_
  k_with "eval UnaryOp" => with_reducible refine UnaryOp_ ?_
  k_with "unaryOp USub int" => with_reducible refine n_neg ?_
  k_with "eval Subscript" => with_reducible refine Subscript_ ?_
  k_with "eval Slice" => with_reducible refine wpAny_Slice ?_
  k_with "evalPart some" => with_reducible refine evalPart_some_step ?_
  k_with "evalPart none" => with_reducible refine evalPart_none_step ?_
  k_with "exec AugAssign" => with_reducible refine wpAny_AugAssign_Name ?_
  k_with "exec Return some" => with_reducible refine wpAny_Return_some ?_
  k_with "exec Continue" => with_reducible refine wpAny_Continue ?_
  k_with "eval Constant str" => with_reducible refine n_str ?_
  k_with "eval Constant int" => with_reducible refine n_int ?_
  k_with "compareOp Eq str str" => with_reducible refine PyProof.Rows.eq_str ?_
  k_with "compareOp NotEq str str" => with_reducible refine PyProof.Rows.ne_str ?_
  k_with "inplaceOp Add int int" => with_reducible refine n_iaddi ?_
  k_with "binaryOp Add int int" => with_reducible refine n_addi ?_
  k_with "binaryOp Sub int int" => with_reducible refine n_subi ?_
  k_with "eval Tuple" => with_reducible refine Tuple_ ?_
  k_with "eval List" => with_reducible refine List_ ?_
  k_with "assign Name" => with_reducible refine PyProof.Rows.assign_Name ?_
  k_with "truthy bool" => with_reducible refine wpAny_truthy_bool ?_
  k_with "es" => with_reducible first | exact rfl | exact eS47 | exact eS61 | exact eS10 | exact eS46 | exact eSdd | exact eS32 | exact eS9 | exact eS0 | exact (S_of _).symm
  k_with "ls" => first | exact news_list (by k_asm) (by k_mem) | exact fr_list (by k_asm) (by k_asm)
  k_with "ss" => first | assumption | exact strs1 _ _
  k_with "nn" => first | assumption | exact splitL_ne _ _
  k_with "kp" => first | exact True.intro | ((try dsimp only); first | k_extra "ls" | assumption | k_extra "oml")
  k_with "c" => first | with_reducible assumption | ((with_reducible show StrsAre _ _); k_extra "ss") | ((with_reducible show Heap.IsList _ _ _); k_extra "ls") | ((with_reducible show plainIx _ = true); exact rfl) | ((with_reducible show _ = S _); k_extra "es") | ((with_reducible show _ ≠ _); k_extra "nn") | ((with_reducible show 0 ≤ _); k_extra "omd") | k_extra "oml"
  k_with "cc" => first | ((with_reducible refine And.intro ?za ?zb); (case za => k_extra "c"); (case zb => k_extra "cc")) | k_extra "c"
  k_with "pyIter ref" => with_reducible refine AtIter.on ?_
  k_with "call ref" => ((with_reducible refine' x_use (by k_dflt k_extra "pu") ?_); (with_reducible first | refine useE ?_ | refine useS ?_ | refine useI ?_ | refine useT3 (by assumption) (by assumption) ?_ | refine useT2 (by assumption) (by assumption) ?_ | refine useL (by assumption) (by assumption) ?_ | refine useT (by assumption) (by assumption) ?_); intros; (try k_sweep); (try k_fold))
  k_with "subscriptTail" => k_dflt ((first | ((with_reducible refine' p_butlast ?zk ?_); (case zk => k_extra "cc")) | ((with_reducible refine' p_to ?zk ?_); (case zk => k_extra "cc")) | ((with_reducible refine' p_last ?zk ?_); (case zk => k_extra "cc")) | ((with_reducible refine' p_from ?zk ?_); (case zk => k_extra "cc")) | ((with_reducible refine' p_midback ?zk ?_); (case zk => k_extra "cc")) | ((with_reducible refine' p_mid ?zk ?_); (case zk => k_extra "cc")) | ((with_reducible refine' q_rev ?zk ?_); (case zk => k_extra "cc")) | ((with_reducible refine' q_back ?zk ?_); (case zk => k_extra "cc")) | ((with_reducible refine' q_midback ?zk ?_); (case zk => k_extra "cc")) | ((with_reducible refine' i_slast ?zk ?_); (case zk => k_extra "cc")) | ((with_reducible refine' i_sat ?zk ?_); (case zk => k_extra "cc")) | ((with_reducible refine' i_last ?zk ?_); (case zk => k_extra "cc")) | ((with_reducible refine' i_nat ?zk ?_); (case zk => k_extra "cc"))); intros; (try k_sweep))
  k_with "call builtin:str.split" => (with_reducible refine' x_split ?_; intros; (try k_sweep))
  k_with "call builtin:str.splitlines" => (with_reducible refine' x_lines ?_; intros; (try k_sweep))
  k_with "call builtin:str.join" => (with_reducible refine' x_join ?_; intros)
  k_with "binaryOp Add str str" => (with_reducible refine' x_add ?_; intros)
  k_with "inplaceOp Add str str" => (with_reducible refine' x_iadd ?_; intros)
  k_with "call builtin:len" => with_reducible first | ((show wpAny _ _ (call _ [Value.str _ _]) _ _ _); refine' x_len ?_; intros) | (refine' x_llen ?_; intros)
  k_with "call builtin:str.rstrip" => with_reducible first | ((show wpAny _ _ (call _ [_]) _ _ _); refine' x_rstrip ?_; intros) | (refine' x_rstripc ?_; intros)
  k_with "call builtin:str.lstrip" => (with_reducible refine' x_lstripc ?_; intros)
  k_with "call builtin:chr" => (with_reducible refine' x_chr ?_; intros)
  k_with "call builtin:str.replace" => (with_reducible refine' x_replace ?_; intros)
  k_with "call builtin:min" => (with_reducible refine' x_min ?_; intros; (try k_sweep))
  k_with "call builtin:list.pop" => (with_reducible refine' x_pop ?_; intros; (try k_sweep))
  k_with "call builtin:list.append" => (with_reducible refine' x_append ?_; intros; (try k_sweep))
  k_with "setItem ref int" => (with_reducible refine' x_setlast ?_; intros; (try k_sweep))
  k_with "binaryOp Add ref ref" => (with_reducible refine' x_ladd ?_; intros; (try k_sweep))
  k_with "binaryOp Mult str int" => (with_reducible refine' x_smul ?_; intros)
  k_with "binaryOp Mult ref int" => (with_reducible refine' x_lmul ?_; intros; (try k_sweep))
  k_with "truthy ref" => (with_reducible refine' x_truthyL ?_; intros)
  k_with "truthy str" => (with_reducible refine' x_truthyS ?_; intros)
  k_with "assign Tuple" => (with_reducible refine' x_unpack ?_; intros)
  k_with "exec For" => with_reducible refine' x_for ?_
  k_with "sub" => first | (with_reducible exact sub_nil) | ((with_reducible refine sub_cons ?zh ?_); (case zh => k_mem); k_extra "sub") | (with_reducible exact (fun _ hp => hp)) | ((with_reducible refine sub_tail ?_); k_extra "sub")
  k_with "fz" => repeat' (first | (with_reducible exact same_u) | (with_reducible exact same_refl) | ((with_reducible refine same_if ?zh ?_); (case zh => k_mem)) | ((with_reducible refine same_st ?zh ?_); (case zh => k_mem)) | ((with_reducible refine same_kcons ?zh ?_); (case zh => k_mem)) | (with_reducible refine same_knil ?_) | ((with_reducible refine same_ins ?zh ?_); (case zh => k_extra "sub")) | exact same_refl)
  k_with "src" => refine' x_list
  k_with "CompInG" => with_reducible refine' x_src ?_ ?_ ?_
  k_with "TestG" => k_dflt (first | exact test_none | (refine test_RT ?_; intros))
  k_with "EltG" => k_dflt (refine elt_RT ?_; intros)
  k_with "FinG" => k_dflt ((first | refine fin_tt ?_ | refine fin_id ?_ | refine fin_g ?_); intros)
  k_with "exec While" => with_reducible refine AtWhile.on ?_
  trivial
example : True := by
  k_with "go0" => (k_fill; intro w s₀ s₁ mg mb G Y fa o pm cd doc dV kV ho hd hcd hD hmg hg args vals as hpre hlay hrd hwl hlo; have KX := kIn_of Y; have X := (Ground.X G).1; have V := (Ground.X G).2; try w_nolog (have GL := glob_more (Ground.glob G (by decide +kernel) (by decide +kernel)) V); refine Ground.open G ?_; intro T B D TE TW; try (refine guard_noD D (by decide +kernel) ?_; clear D); obtain ⟨_, _, M⟩ := bmod_of_top T; have TA := at_of_top T; try (obtain ⟨_, _, he, B0⟩ := based_of_top T rfl hmg ho hd; have he' : cd = _ := he; subst he'; clear he); clear hmg; wrow_args hpre hlay hrd hwl hlo; all_goals ((first | refine callC_kw (enter_call ?_) | refine enter_call ?_ | refine callC_kw (enter_callW ?_) | refine enter_callW ?_ | w_how); w_top on; try refine codeAny_mono ?_ (fun _ _ g => GoodW.toG g); have K0 := below_caller (Top.heap T); w_call any ho hd hcd hD T F; clear hd TA; k_drop; skip))
  k_with "room" => decide +kernel
  k_with "units" => decide +kernel
  trivial
theorem pu_true {w : World} {D U : Nat} {f : Addr} {Pre : Heap → Prop} {args : List Value} {Ret : Value → Heap → Heap → Prop} (C : Pu w D U f Pre args Ret) (h : ∀ h, Pre h) : Pu w D U f (fun _ => True) args Ret :=
  fun _ _ _ _ _ _ _ _ _ _ _ B X T hh hd hu _ hr => C _ _ _ _ _ _ _ _ _ _ _ B X T hh hd hu (h _) hr
theorem parts_callM (w : World) (la : Addr) (vs : List Value) (ns : List Int) (P : List T) (hI : IntsAre vs ns) (hsz : ns.length ≤ 100) (hP : partsL ns = P) : Pu w 8 80 211 (fun h => h.IsList la vs.toArray) [.ref la] (RSeq "list" P) := by
  subst hP; exact parts_call w la vs ns hI hsz
theorem joined_callM (w : World) (la : Addr) (vs : List Value) (ts : List T) (m : T) (hS : StrsAre vs (ts.map S)) (hm : joinedL ts = m) (hts : ts ≠ []) (hsz : (ts.map List.length).sum + ts.length ≤ 100000) : Pu w 6 60 240 (fun h => h.IsList la vs.toArray) [.ref la] (RStr m) := by
  subst hm; exact joined_call w la vs ts hts hS hsz
theorem join_callM (w : World) (x : T) (t : Tok) (v0 : Value) (vs : List Value) (ps : List T) (r : T) (hS : StrsAre (v0 :: vs) (ps.map S)) (hr : joinPy x ps = r) (hsz : x.length + (ps.map List.length).sum + ps.length ≤ 100000) : Pu w 8 80 129 (fun _ => True) (.str (S x) t :: v0 :: vs) (RStr r) := by
  subst hr; exact join_call w x t v0 vs ps hS hsz
theorem decode_callR (w : World) (x : T) (t : Tok) (h : RowF x) : Pu w 10 90 204 (fun _ => True) [.str (S x) t] (RStr (decodeL x)) := decode_call w x t (Nat.le_trans h.1 (by decide)) h.2
theorem decode_callM (w : World) (x r : T) (t : Tok) (hr : decodeL x = r) (h : RowF x) : Pu w 10 90 204 (fun _ => True) [.str (S x) t] (RStr r) := by
  subst hr; exact decode_callR w x t h
theorem TxtF.le {x : T} (h : TxtF x) : x.length ≤ 100000 := Nat.le_trans h (by decide)
theorem RowF.le {x : T} (h : RowF x) : x.length ≤ 100000 := Nat.le_trans h.1 (by decide)
theorem read_callM (w : World) (x : T) (t : Tok) (h : TxtF x) : Pu w 6 40 230 (fun _ => True) [.str (S x) t] (RStr (readL x)) := pu_true (read_call w x t) fun _ => h.le
theorem readrows_callM (w : World) (x : T) (t : Tok) (h : TxtF x) : Pu w 12 60 235 (fun _ => True) [.str (S x) t] (RSeq "list" (readRowsL x)) := pu_true (readrows_call w x t) fun _ => h
theorem plain_callM (w : World) (x r : T) (t : Tok) (hr : plainL x = r) (h : TxtF x) (h2 : (splitL 47 x).length ≤ 250) : Pu w 8 80 247 (fun _ => True) [.str (S x) t] (RStr r) := by
  subst hr; exact plain_call w x t h.le h2
theorem norm_callM (w : World) (x r : T) (t : Tok) (hr : normL x = r) (h : RowF x) : Pu w 8 80 153 (fun _ => True) [.str (S x) t] (RStr r) := by
  subst hr; exact pu_true (normpath_call w x t) fun _ => h.le
theorem splitext_callM (w : World) (x : T) (t : Tok) (h : RowF x) : Pu w 12 60 136 (fun _ => True) [.str (S x) t] (RSeq "tuple" (halvesL x)) := pu_true (splitext_call w x t) fun _ => h.le
theorem halves_callM (w : World) (x : T) (t : Tok) (h : TxtF x) : Pu w 6 40 254 (fun _ => True) [.str (S x) t] (RSeq "list" (halvesL x)) := pu_true (halves_call w x t) fun _ => h.le
structure ElF (P : List T) (wd : Nat → Int) (j : Nat) : Prop where
  w4 : 4 ≤ wd j
  w9 : wd j ≤ 99
  len : (P.getD j []).length ≤ 1000
  vp : VP (P.getD j [])
theorem marked_callE {P : List T} {wd : Nat → Int} (w : World) (j : Nat) (t u : Tok) (h : ∀ j, ElF P wd j) : Pu w 8 90 223 (fun _ => True) [.str (S (P.getD j [])) t, .int (wd j) u] (RStr (markedL (wd j) (P.getD j []))) :=
  marked_call w _ t (wd j) u (h j).w4 (Int.le_trans (h j).w9 (by decide)) (h j).len
theorem encode_callE {P : List T} {wd : Nat → Int} (w : World) (j : Nat) (t u : Tok) (h : ∀ j, ElF P wd j) : Pu w 8 90 196 (fun _ => True) [.str (S (P.getD j [])) t, .int (wd j) u] (RStr (encL (wd j).toNat (P.getD j []))) := by
  have h1 := (h j).w4
  have h2 := (h j).w9
  have h3 := (h j).len
  have h4 := (h j).vp
  generalize wd j = z at *
  obtain ⟨n, rfl⟩ := Int.eq_ofNat_of_zero_le (show 0 ≤ z by lia)
  exact encode_call w _ t n u (by lia) (by lia) h3 h4
theorem decode_callE {L : List T} (w : World) (x : T) (t : Tok) (hx : x ∈ L) (h : ∀ r ∈ L, RowF r) : Pu w 10 90 204 (fun _ => True) [.str (S x) t] (RStr (decodeL x)) := decode_callR w x t (h x hx)
theorem read_callE {L : List T} (w : World) (x : T) (t : Tok) (hx : x ∈ L) (h : ∀ r ∈ L, TxtF r) : Pu w 6 40 230 (fun _ => True) [.str (S x) t] (RStr (readL x)) := read_callM w x t (h x hx)
noncomputable def RWd (wd : Nat → Int) (j : Nat) (v : Value) : Prop := ∃ t : Tok, v = .int (wd j) t
theorem ints_of_wd {wd : Nat → Int} : ∀ {js : List Nat} {vs : List Value}, Paired (RWd wd) js vs → IntsAre vs (js.map wd)
  | _, _, .nil => .nil
  | _, _, .cons h r => by
    obtain ⟨t, rfl⟩ := h
    exact .cons _ t (ints_of_wd r)
theorem strs_of_pairedG {α : Type} {g : α → T} : ∀ {as : List α} {vs : List Value}, Paired (fun a v => RT (g a) v) as vs → StrsAre vs ((as.map g).map S)
  | _, _, .nil => .nil
  | _, _, .cons h r => by
    obtain ⟨t, rfl⟩ := h
    exact .cons _ t (strs_of_pairedG r)
section
variable {prog : Program} {w : World} {A : Around} {E : Value → Shared → Prop} {s : Shared} {Q : Value → Shared → Prop}
theorem src_tuple {α : Type} {R : α → Value → Prop} {as : List α} {vs : List Value} {ax : Addr} (hh : A.handled = none) (hl : s.heap.IsTuple ax vs.toArray) (hi : Paired R as vs) : SrcOk prog w A R as (.ref ax) s := by
  intro Q E h
  have hlt : ax < s.heap.objs.size := by obtain ⟨_, e, _⟩ := hl; exact Heap.lt_size e
  have hn := paired_len hi
  have W := Walks.tuple (prog := prog) (w := w) hh s.heap.objs.size ax (Nat.ne_of_lt hlt) vs.toArray
  have e : vs.toArray.size = as.length := by simp [hn]
  rw [e] at W
  refine wpAny_pyIter_tuple hl (h _ [ax] _ _ W (fun b hb => by rw [List.mem_singleton.mp hb]; exact hlt) ⟨⟨_, Heap.get?_push_size _ rfl, rfl, rfl⟩, hl.at fun o e => Heap.get?_push_of_some _ e⟩ ?_)
  intro j v hj hlt
  obtain ⟨pre, a, post, e1, e2, e3⟩ := paired_at hi (show vs[j]? = some v by simpa using hj)
  subst e1
  have : (pre ++ a :: post)[j] = a := by subst e2; simp
  rw [this]; exact e3
theorem ns_at {h h' : Heap} {a : Addr} {m : Str → Option Value} (hn : h.Ns a m) (hk : ∀ b o, h.get? b = some o → h'.get? b = some o) : h'.Ns a m := hn.at' fun o e => hk a o e
theorem ne_same {x : T} {t u : Tok} (h : Q (.bool false) s) : wpAny (model prog w) A (compareOp .NotEq (.str (S x) t) (.str (S x) u)) Q E s := by
  refine PyProof.Rows.ne_str ?_
  rw [show (S x != S x) = false from bne_self_eq_false (S x)]; exact h
theorem charsOk_S {xs : List T} (h : ∀ x ∈ xs, CharsOk x) : ∀ y ∈ xs.map S, PyData.strOk y = true := by
  intro y hy
  obtain ⟨x, hx, rfl⟩ := List.mem_map.mp hy
  unfold PyData.strOk
  rw [Array.all_eq_true']
  intro c hc
  have : c ∈ x := by have := Array.mem_toList_iff.mpr hc; rwa [S_cps] at this
  simpa using h x hx c this
theorem ne_strsF {a b : Addr} {vs us : List Value} {xs ys : List T} (ha : s.heap.IsList a vs.toArray) (hb : s.heap.IsList b us.toArray) (hi : StrsAre vs (xs.map S)) (hj : StrsAre us (ys.map S)) (e : xs = ys) (o : ∀ x ∈ ys, CharsOk x) (hu : A.units + 64 < cLine) (h : Q (.bool false) s) :
    wpAny (model prog w) A (compareOp .NotEq (.ref a) (.ref b)) Q E s := by
  subst e
  refine ne_strs ha hb hi hj (charsOk_S o) (charsOk_S o) hu ?_
  simpa using h
theorem eq_strsT {a b : Addr} {vs us : List Value} {xs ys : List T} (ha : s.heap.IsList a vs.toArray) (hb : s.heap.IsList b us.toArray) (hi : StrsAre vs (xs.map S)) (hj : StrsAre us (ys.map S)) (e : xs = ys) (o : ∀ x ∈ ys, CharsOk x) (hu : A.units + 64 < cLine) (h : Q (.bool true) s) :
    wpAny (model prog w) A (compareOp .Eq (.ref a) (.ref b)) Q E s := by
  subst e
  refine eq_strs ha hb hi hj (charsOk_S o) (charsOk_S o) hu ?_
  simpa using h
theorem star_rule {h₀ : Heap} {L a : Addr} {m : Str → Option Value} {news : List (Addr × Obj)} {vs : List Value} {n : Nat} {xs xr : List T} {x0 x1 : T} {Q : List Value → Shared → Prop} (F : Fr h₀ L s.heap m) (N : News h₀ L s.heap news) (ha : (a, listOf vs.toArray n) ∈ news) (hs : StrsAre vs (xs.map S)) (hx : xs = x0 :: x1 :: xr) (hz : xs.length ≤ 16000000)
    (h : ∀ h' t0 v1 vr, StrsAre (v1 :: vr) ((x1 :: xr).map S) → Fr h₀ L h' m → News h₀ L h' news → Q (.str (S x0) t0 :: v1 :: vr) { s with heap := h' }) : StarOf (model prog w) A E (.ref a) Q s := by
  subst hx
  obtain ⟨t0, v2, rfl, h1⟩ := StrsAre.cons_inv hs
  obtain ⟨t1, vr, rfl, h2⟩ := StrsAre.cons_inv h1
  have hl := hs.len_eq
  refine star_seq F N ha rfl rfl (.inl rfl) (ws := .str (S x0) t0 :: .str (S x1) t1 :: vr) (by simp) (by rw [List.size_toArray, hl, List.length_map]; exact Nat.le_trans hz (by decide)) fun h' F' N' => h h' t0 _ vr h1 F' N'
end
theorem halves_sz (x : T) : (halvesL x).length ≤ 16000000 := by simp [halvesL]
theorem news_tup {h₀ h : Heap} {L D : Addr} {news : List (Addr × Obj)} {xs : Array Value} {n : Nat} (N : News h₀ L h news) (hm : (D, ({ cls := .type "tuple", data := .seq xs n } : Obj)) ∈ news) : h.IsTuple D xs := ⟨_, (N _ hm).1, rfl, n, rfl⟩
section
variable {prog : Program} {w : World} {A : Around} {E : Value → Shared → Prop} {s : Shared} {h₀ : Heap} {L a b l : Addr} {m : Str → Option Value} {news : List (Addr × Obj)} {Q : Value → Shared → Prop} {hp : Heap} {gs : Array GenState} {dr : Drawn} {tk : Nat} {os : OsState} {vs us : List Value} {n : Nat}
theorem x_range {r : Addr} {t u v : Tok} (hh : A.handled = none := by k_dflt (first | assumption | exact rfl)) (hr : IsRange s.heap r 0 (n : Int) 1 t u v := by k_dflt (assumption)) (hn : n ≤ 16000000 := by k_dflt (k_extra "oml")) : SrcOk prog w A RN (List.range n) (.ref r) s := src_range hh hr hn
theorem x_tuple {α : Type} {R : α → Value → Prop} {as : List α} (hh : A.handled = none := by k_dflt (first | assumption | exact rfl)) (hl : s.heap.IsTuple a vs.toArray := by k_dflt (exact news_tup (by k_asm) (by k_mem))) (hi : Paired R as vs := by k_dflt (exact paired_of_strs (by assumption))) : SrcOk prog w A R as (.ref a) s := src_tuple hh hl hi
theorem elt_RN {x : Str} {tk : Nat} {ev : Addr → Env} {elt : PySem.Expr} {pz : Nat → Bool} {G : Nat → Value → Prop}
    (h : ∀ C j t s₂ m₂ E', j < n → pz j = true → s₂.heap.Ns C m₂ → m₂ x = some (.int (j : Int) t) → Fr h₀ L s₂.heap m → News h₀ L s₂.heap news → tk ≤ s₂.toks →
      wpAny (model prog w) A (eval elt (ev C)) (fun y s₃ => G j y ∧ Keeps s₂ s₃) E' s₂) :
    EltG (∀ C a v s₂ m₂ E', a ∈ List.range n → RN a v → pz a = true → s₂.heap.Ns C m₂ → m₂ x = some v → Fr h₀ L s₂.heap m → News h₀ L s₂.heap news → tk ≤ s₂.toks →
      wpAny (model prog w) A (eval elt (ev C)) (fun y s₃ => G a y ∧ Keeps s₂ s₃) E' s₂) := by
  rintro C a v s₂ m₂ E' ha ⟨t, rfl⟩ hz hC hx F N hk
  exact h C a t s₂ m₂ E' (List.mem_range.mp ha) hz hC hx F N hk
theorem fin_wd {wd : Nat → Int} {as : List Nat} {P : Addr → List Value → Nat → Heap → Nat → Prop} {mm : Addr → Str → Option Value} (h : ∀ D ys n h' tk, IntsAre ys (as.map wd) → Fr h₀ L h' (mm D) → News h₀ L h' ((D, listOf ys.toArray n) :: news) → (∀ p ∈ news, @Ne Nat p.1 D) → P D ys n h' tk) :
    FinG (∀ D (ys : List Value) n h' tk, Paired (RWd wd) (as.filter fun _ => true) ys → Fr h₀ L h' (mm D) → News h₀ L h' ((D, listOf ys.toArray n) :: news) → (∀ p ∈ news, @Ne Nat p.1 D) → P D ys n h' tk) :=
  fun D ys n h' tk hp F N hne => h D ys n h' tk (by rw [filter_tt] at hp; exact ints_of_wd hp) F N hne
theorem fin_n {g : Nat → T} {as : List Nat} {P : Addr → List Value → Nat → Heap → Nat → Prop} {mm : Addr → Str → Option Value} (h : ∀ D ys n h' tk, StrsAre ys ((as.map g).map S) → Fr h₀ L h' (mm D) → News h₀ L h' ((D, listOf ys.toArray n) :: news) → (∀ p ∈ news, @Ne Nat p.1 D) → P D ys n h' tk) :
    FinG (∀ D (ys : List Value) n h' tk, Paired (fun j v => RT (g j) v) (as.filter fun _ => true) ys → Fr h₀ L h' (mm D) → News h₀ L h' ((D, listOf ys.toArray n) :: news) → (∀ p ∈ news, @Ne Nat p.1 D) → P D ys n h' tk) :=
  fun D ys n h' tk hp F N hne => h D ys n h' tk (by rw [filter_tt] at hp; exact strs_of_pairedG hp) F N hne
theorem i_wd {value slice : PySem.Expr} {wd : Nat → Int} {j : Nat} {u : Tok} (k : hp.IsList a vs.toArray ∧ IntsAre vs ((List.range n).map wd) ∧ j < n ∧ n ≤ 16000000 ∧ plainIx slice = true)
    (h : ∀ t, Q (.int (wd j) t) ⟨hp, gs, dr, tk, os⟩) : wpAny (model prog w) A (subscriptTail value slice (.ref a) (.int (j : Int) u)) Q E ⟨hp, gs, dr, tk, os⟩ := by
  obtain ⟨hl, hi, hk, hsz, hs⟩ := k
  have hx : ((List.range n).map wd)[j]? = some (wd j) := by
    rw [List.getElem?_map, List.getElem?_range hk]; rfl
  obtain ⟨t, ht⟩ := hi.get _ _ hx
  exact turn (item_listL hl (by lia) (by lia) (by rw [Int.toNat_natCast]; exact ht) (h t) (sub_plain hs _ _) (fun _ => rfl))
theorem x_sumF {ns : List Int} (h : ∀ h' tk' t', Fr h₀ L h' m → News h₀ L h' news → (∀ b o, hp.get? b = some o → h'.get? b = some o) → Q (.int ns.sum t') ⟨h', gs, dr, tk', os⟩)
    (hh : A.handled = none := by k_dflt (first | assumption | exact rfl)) (F : Fr h₀ L hp m := by k_dflt (k_asm)) (N : News h₀ L hp news := by k_dflt (k_asm)) (hl : hp.IsList l vs.toArray := by k_dflt (k_extra "ls")) (hi : IntsAre vs ns := by k_dflt (assumption)) :
    wpAny (model prog w) A (call (.builtin "sum") [.ref l]) Q E ⟨hp, gs, dr, tk, os⟩ := by
  obtain ⟨xs, hx⟩ := hi.allInts.items
  have hn : numsOf vs.toArray.toList = ns := by rw [show vs.toArray.toList = vs from rfl, hi.numsOf]
  rw [hx] at hl hn
  rw [nums_intItems] at hn
  refine sum_intListG (s := ⟨hp, gs, dr, tk, os⟩) hh hl fun h' tk t' hk => ?_
  have := h h' tk t' (F.keeps hk) (N.grown hk) hk
  rw [preSum_eq, List.take_of_length_le (by simp), hn]
  exact this
theorem x_nel {xs ys : List T} (h : Q (.bool false) s) (N : News h₀ L s.heap news := by k_dflt (k_asm)) (ha : (a, listOf vs.toArray n) ∈ news := by k_dflt (k_mem)) {n' : Nat} (hb : (b, listOf us.toArray n') ∈ news := by k_dflt (k_mem)) (hi : StrsAre vs (xs.map S) := by k_dflt (assumption)) (hj : StrsAre us (ys.map S) := by k_dflt (assumption)) (e : xs = ys := by k_dflt (assumption)) (o : ∀ x ∈ ys, CharsOk x := by k_dflt (assumption)) (hu : A.units + 64 < cLine := by k_dflt (ke_room)) :
    wpAny (model prog w) A (compareOp .NotEq (.ref a) (.ref b)) Q E s := ne_strsF (news_list N ha) (news_list N hb) hi hj e o hu h
theorem x_eql {xs ys : List T} (h : Q (.bool true) s) (N : News h₀ L s.heap news := by k_dflt (k_asm)) (ha : (a, listOf vs.toArray n) ∈ news := by k_dflt (k_mem)) {n' : Nat} (hb : (b, listOf us.toArray n') ∈ news := by k_dflt (k_mem)) (hi : StrsAre vs (xs.map S) := by k_dflt (assumption)) (hj : StrsAre us (ys.map S) := by k_dflt (assumption)) (e : xs = ys := by k_dflt (assumption)) (o : ∀ x ∈ ys, CharsOk x := by k_dflt (assumption)) (hu : A.units + 64 < cLine := by k_dflt (ke_room)) :
    wpAny (model prog w) A (compareOp .Eq (.ref a) (.ref b)) Q E s := eq_strsT (news_list N ha) (news_list N hb) hi hj e o hu h
theorem x_star {xs xr : List T} {x0 x1 : T} {Q : List Value → Shared → Prop} (h : ∀ h' t0 v1 vr, StrsAre (v1 :: vr) ((x1 :: xr).map S) → Fr h₀ L h' m → News h₀ L h' news → Q (.str (S x0) t0 :: v1 :: vr) ⟨h', gs, dr, tk, os⟩)
    (F : Fr h₀ L hp m := by k_dflt (k_asm)) (N : News h₀ L hp news := by k_dflt (k_asm)) (ha : (a, listOf vs.toArray n) ∈ news := by k_dflt (k_mem)) (hs : StrsAre vs (xs.map S) := by k_dflt (assumption)) (hx : xs = x0 :: x1 :: xr := by k_dflt (assumption)) (hz : xs.length ≤ 16000000 := by k_dflt (k_extra "oml")) :
    StarOf (model prog w) A E (.ref a) Q ⟨hp, gs, dr, tk, os⟩ := star_rule (s := ⟨hp, gs, dr, tk, os⟩) F N ha hs hx hz h
end
example : True := by
  k_with "exec Assign cons ListComp" => ((with_reducible show wpAny _ _ (exec (Stmt.Assign [Expr.Name _ _] (Expr.ListComp _ _ _ _) _) _) _ _ _); k_dflt (refine' wpAny_Assign_Name ?_ ?hs; (case hs => with_unfolding_all rfl)))
  k_with "eval ListComp" => first | ((with_reducible show wpAny _ _ (eval (Expr.ListComp (Expr.Call (Expr.Name (Str.ofString "decode") _) _ _ _) _ _ _) _) _ _ _); k_dflt refine' x_compE (R := RT) (G := fun r v => RT (decodeL r) v) (pz := fun _ => true) RT_inj ?_) | ((with_reducible show wpAny _ _ (eval (Expr.ListComp (Expr.Call (Expr.Name (Str.ofString "_law_read") _) _ _ _) _ _ _) _) _ _ _); k_dflt refine' x_compE (R := RT) (G := fun r v => RT (readL r) v) (pz := fun _ => true) RT_inj ?_) | (with_reducible refine AtIter.on ?_)
  k_with "call builtin:sum" => (with_reducible refine' x_sumF ?_; intros; (try have hC8 := ns_at (by assumption) (by assumption)); (try k_sweep))
  k_with "oml" => first | exact halves_sz _ | ((simp only [List.length_range, List.length_map]); k_extra "om")
  k_with "src" => first | refine' x_range | refine' x_list | refine' x_tuple
  k_with "EltG" => k_dflt (first | (refine elt_RN ?_; intros) | (refine elt_RT ?_; intros))
  k_with "FinG" => k_dflt ((first | refine fin_wd ?_ | refine fin_n ?_ | refine fin_tt ?_); intros)
  k_with "subscriptTail Name Name ref int" => k_dflt ((first | ((with_reducible refine' i_wd ?zk ?_); (case zk => k_extra "cc")) | ((with_reducible refine' i_nat ?zk ?_); (case zk => k_extra "cc"))); intros; (try k_sweep))
  k_with "compareOp NotEq str str" => with_reducible refine ne_same ?_
  k_with "compareOp NotEq ref ref" => with_reducible refine' x_nel ?_
  k_with "compareOp Eq ref ref" => with_reducible refine' x_eql ?_
  k_with "StarOf ref" => ((with_reducible refine' x_star ?_); intros; (try k_sweep); (try dsimp only [List.nil_append, List.cons_append]))
  k_with "pu" => first | exact decode_callE _ _ _ (by assumption) (by assumption) | exact marked_callE _ _ _ _ (by assumption) | exact encode_callE _ _ _ _ (by assumption) | exact read_callE _ _ _ (by assumption) (by assumption) | exact parts_callM _ _ _ _ _ (by assumption) (by simp; lia) (by assumption) | exact joined_callM _ _ _ _ _ (by assumption) (by assumption) (by assumption) (by assumption) | exact join_callM _ _ _ _ _ _ _ (by assumption) (by assumption) (by assumption) | exact decode_callM _ _ _ _ (by assumption) (by assumption) | exact read_callM _ _ _ (by assumption) | exact readrows_callM _ _ _ (by assumption) | exact plain_callM _ _ _ _ (by assumption) (by assumption) (by assumption) | exact norm_callM _ _ _ _ (by assumption) (by assumption) | exact splitext_callM _ _ _ (by assumption) | exact halves_callM _ _ _ (by assumption)
  trivial
theorem news_drop5 {h₀ h : Heap} {L : Addr} {p a b c d e : Addr × Obj} {r : List (Addr × Obj)} (N : News h₀ L h (p :: a :: b :: c :: d :: e :: r)) : News h₀ L h (p :: r) := fun q hq => N q (by
  rcases List.mem_cons.mp hq with rfl | hq
  · exact .head _
  · exact .tail _ (.tail _ (.tail _ (.tail _ (.tail _ (.tail _ hq))))))
set_option maxHeartbeats 8000000 in
theorem fin : PySem.Challenge.rw_ij0185_01.Holds := by
  w_top on
  refine holds_law hd.well fun said => ?_
  refine holds_open (q := hd.view_39) (loose := hd.loose) (Xt := hd.xt) (XP := XL hd.view_39 hd.lv) (Yf := Hook.obs (kHook hd.heap_39 hd.adrs hd.adrsOk)) (Ya := Hook.val (kHook hd.heap_39 hd.adrs hd.adrsOk)) (YP := Hook.says (kHook hd.heap_39 hd.adrs hd.adrsOk)) (N := nat_lit 38028) hd.left (Hook.of _) (Hook.keeps _) (fun s e => xl_of s (Bool.and_eq_true_iff.mp e).1) XL.keeps (by rfl) (by rfl) (by rfl) (fun s e => recFacts_of (Bool.and_eq_true_iff.mp e).2) (by rfl) said (by decide +kernel) ⟨rfl, rfl, rfl, rfl, rfl, by decide +kernel⟩ ?hw ?hc
  case hw => w_witness2
  k_extra "go0"
  clear said
  all_goals try k_fold
  rename IntsAre _ _ => hI0
  rename List Int => ns
  rename Below _ _ _ _ => K0
  rename Shared => s1
  replace K0 : Below callerA s1.heap [] s1.heap := K0
  rename Ground _ _ _ _ _ _ _ _ _ => G0
  clear G0
  obtain ⟨p0, p1, pr, hP, hV, hPl, hPs⟩ := parts_ok (ns.take 10) (by rw [List.length_take]; lia)
  have hwd := fun j : Nat => And.intro (fmod_lo ((ns.take 10).sum + (j : Int)) (n := 5) (by decide)) (fmod_hi ((ns.take 10).sum + (j : Int)) (n := 5) (by decide))
  generalize hPe : p0 :: p1 :: pr = P at hP hV hPl hPs
  have hP2 : 2 ≤ P.length := by rw [← hPe]; simp
  generalize hwe : (fun j : Nat => 4 + ((ns.take 10).sum + (j : Int)).fmod 5) = wd
  have hw4 : ∀ j, 4 ≤ wd j := fun j => by have := (hwd j).1; rw [← hwe]; dsimp only; lia
  have hw8 : ∀ j, wd j ≤ 99 := fun j => by have := (hwd j).2; rw [← hwe]; dsimp only; lia
  have hEl : ∀ j, ElF P wd j := fun j => by
    have h0 := getD_len P j
    refine ⟨hw4 j, hw8 j, by lia, ?_⟩
    rw [List.getD_eq_getElem?_getD]
    cases h : P[j]? with
    | none => intro c hc; cases hc
    | some y => exact hV y (List.mem_of_getElem? h)
  obtain ⟨m, hm⟩ := facts (P := P) (wd := wd) (by lia) hV hPl hPs hw4
  have hL := lawF hm.vm hm.len
  generalize hke : plainL m = k at hL
  obtain ⟨hd1, hr3, _, hno, hd4, hr5, hh6, hf1, hf2, hf3, hf4, hf5, hf6, hg1, hg2, hg3, ho3, ho5, ho6, hs3, hs5⟩ := hL
  have hl1 := hf1.1
  have hl2 := hf2.1
  obtain ⟨e0, e1, er, hee⟩ : ∃ e0 e1 er, ((List.range P.length).map fun j => encL (wd j).toNat (P.getD j [])) = e0 :: e1 :: er := by
    have hl : ((List.range P.length).map fun j => encL (wd j).toNat (P.getD j [])).length = P.length := by rw [List.length_map, List.length_range]
    generalize ((List.range P.length).map fun j => encL (wd j).toNat (P.getD j [])) = es at hl
    match es, hl with
    | [], h => simp at h; lia
    | [_], h => simp at h; lia
    | e0 :: e1 :: er, _ => exact ⟨e0, e1, er, rfl⟩
  have hq1 : joinPy e0 (e1 :: er) = encA m := by have := hm.whole; rw [hee] at this; exact this
  have hq2 : e0.length + ((e1 :: er).map List.length).sum + (e1 :: er).length ≤ 100000 := by have := hm.es_sz; rw [hee, List.map_cons, List.sum_cons, List.length_cons] at this; lia
  have hPe' := hPe.symm
  have hq3 : joinPy p0 (p1 :: pr) = readL m := by have := hm.plain; rw [hPe'] at this; exact this
  have hq4 : p0.length + ((p1 :: pr).map List.length).sum + (p1 :: pr).length ≤ 100000 := by rw [hPe', List.map_cons, List.sum_cons] at hPs; rw [hPe', List.length_cons] at hPl; lia
  have hj1 := hm.joined
  have hj2 := hm.ms_ne
  have hj3 := hm.ms_sz
  have hj4 := hm.es_sz
  have hj5 := hm.whole
  have hj6 := hm.plain
  k_steps
  rename News _ _ _ _ => NX0
  have NX1 := news_drop5 NX0
  clear NX0
  refine AtIter.on (x_compE (R := RN) (G := RWd wd) (pz := fun _ => true) RN_inj ?_)
  k_steps
  · rw [← hwe]; exact ⟨_, rfl⟩
  · exact ⟨_, _, rfl, by assumption⟩
  refine AtIter.on (x_compE (R := RN) (G := fun j v => RT (markedL (wd j) (P.getD j [])) v) (pz := fun _ => true) RN_inj ?_)
  k_steps
  · exact ⟨_, rfl⟩
  · exact ⟨_, _, rfl, by assumption⟩
  refine AtIter.on (x_compE (R := RN) (G := fun j v => RT (encL (wd j).toNat (P.getD j [])) v) (pz := fun _ => true) RN_inj ?_)
  k_steps
  · exact ⟨_, rfl⟩
  · exact ⟨_, _, rfl, by assumption⟩
  all_goals first | exact ⟨_, rfl⟩ | exact ⟨_, _, rfl, by assumption⟩
end
end Mine
theorem PySem.Challenge.cw_ij0185_01_holds : PySem.Challenge.rw_ij0185_01.Holds :=
  Mine.fin
