import PyProof.Rows.All
import Wide.All
import OpenK.AllK
import Wide.FinOn
import PyProof.NeKinds
import PySem.Challenge.RW_lb0023_01
set_option Elab.async false
set_option maxRecDepth 100000
set_option maxHeartbeats 8000000
set_option linter.unusedVariables false
set_option compiler.extract_closed false
section
open PySem PySem.W PyProof.Rows
namespace Mine.hd
abbrev kh (P : Params) (x : Str) := PySem.PyData.keyHash P x
noncomputable def nthS : List Stmt → Nat → Stmt
  | s :: _, 0 => s
  | _ :: r, n + 1 => nthS r n
  | [], _ => .Pass default
noncomputable def stA (i : Nat) : Stmt := nthS PySem.Challenge.pw_lb0023_01.main.body i
noncomputable def subS : Stmt → List Stmt
  | .FunctionDef _ _ b .. => b
  | .ClassDef _ _ _ b .. => b
  | _ => []
noncomputable def stB (i j : Nat) : Stmt := nthS (subS (stA i)) j
noncomputable def docV (st : Stmt) (t : Nat) : Value := match subS st with
  | .Expr (.Constant (.str s) _ _) _ :: _ => .str s t
  | _ => .none
noncomputable def bytesV (st : Stmt) (t : Nat) : Value := match st with
  | .Assign _ (.Constant (.bytes b) _ _) _ => .bytes b.toArray t
  | _ => .none
noncomputable def fdS (st : Stmt) (name qual : Str) (g : Addr) (cl : List (Str × Addr)) (dV kV doc pm : Value) (an : Option Addr) (cd ct : Value) (bt : Addr) : FuncData := match st with
  | .FunctionDef _ a b _ _ _ sc .. => ⟨name, qual, a, .stmts b, sc, g, cl, dV, kV, doc, pm, an, cd, ct, bt⟩
  | _ => default
noncomputable def o2 (P : Params) : Obj := ⟨.none, .none, (.dict #[⟨(kh P "type.__subclasses__.Exception.0"), (.str "type.__subclasses__.Exception.0" 220), (.int 31 0)⟩, ⟨(kh P "type.__subclasses__.Exception.n"), (.str "type.__subclasses__.Exception.n" 221), (.int 1 0)⟩] 2), #[]⟩
noncomputable def o3 (P : Params) : Obj := ⟨(.type "dict"), .none, (.dict #[⟨(kh P "__name__"), (.str "__name__" 165), (.str "law_lb0023_01" 446)⟩, ⟨(kh P "__doc__"), (.str "__doc__" 166), .none⟩, ⟨(kh P "__package__"), (.str "__package__" 167), .none⟩, ⟨(kh P "__loader__"), (.str "__loader__" 168), (.builtin "__main__.__loader__#opaque")⟩, ⟨(kh P "__spec__"), (.str "__spec__" 169), .none⟩, ⟨(kh P "__annotations__"), (.str "__annotations__" 170), (.ref 6)⟩, ⟨(kh P "__builtins__"), (.str "__builtins__" 171), (.ref 4)⟩, ⟨(kh P "__file__"), (.str "__file__" 173), (.str "/claim/cut.py" 172)⟩, ⟨(kh P "__cached__"), (.str "__cached__" 174), .none⟩, ⟨(kh P "_wall"), (.str "_wall" 193), (.ref 21)⟩, ⟨(kh P "MAX_SHARE_COUNT"), (.str "MAX_SHARE_COUNT" 195), (.int 16 194)⟩, ⟨(kh P "DIGEST_LENGTH_BYTES"), (.str "DIGEST_LENGTH_BYTES" 197), (.int 4 196)⟩, ⟨(kh P "SECRET_INDEX"), (.str "SECRET_INDEX" 199), (.int 255 198)⟩, ⟨(kh P "DIGEST_INDEX"), (.str "DIGEST_INDEX" 201), (.int 254 200)⟩, ⟨(kh P "MnemonicError"), (.str "MnemonicError" 223), (.ref 31)⟩, ⟨(kh P "_tuplegetter"), (.str "_tuplegetter" 282), (.ref 73)⟩, ⟨(kh P "RawShare"), (.str "RawShare" 397), (.ref 145)⟩, ⟨(kh P "EXP_TABLE"), (.str "EXP_TABLE" 399), (bytesV (stA 10) 398)⟩, ⟨(kh P "LOG_TABLE"), (.str "LOG_TABLE" 401), (bytesV (stA 11) 400)⟩, ⟨(kh P "_interpolate"), (.str "_interpolate" 417), (.ref 155)⟩, ⟨(kh P "_create_digest"), (.str "_create_digest" 426), (.ref 162)⟩, ⟨(kh P "_split_secret"), (.str "_split_secret" 432), (.ref 167)⟩, ⟨(kh P "_recover_secret"), (.str "_recover_secret" 445), (.ref 174)⟩, ⟨(kh P "_law_mix"), (.str "_law_mix" 449), (.int 222746560949354276391051289458670502401 448)⟩, ⟨(kh P "_law_number"), (.str "_law_number" 457), (.ref 181)⟩, ⟨(kh P "_law_row"), (.str "_law_row" 466), (.ref 188)⟩, ⟨(kh P "_law_times"), (.str "_law_times" 477), (.ref 195)⟩, ⟨(kh P "_law_inverse"), (.str "_law_inverse" 489), (.ref 202)⟩, ⟨(kh P "_law_product"), (.str "_law_product" 499), (.ref 209)⟩, ⟨(kh P "_law_share"), (.str "_law_share" 513), (.ref 216)⟩, ⟨(kh P "_law_digest"), (.str "_law_digest" 523), (.ref 223)⟩, ⟨(kh P "_law_chance"), (.str "_law_chance" 534), (.ref 230)⟩, ⟨(kh P "_law_hmac"), (.str "_law_hmac" 547), (.ref 237)⟩, ⟨(kh P "_law_rows"), (.str "_law_rows" 553), (.ref 242)⟩, ⟨(kh P "law"), (.str "law" 559), (.ref 247)⟩] 35), #[]⟩
noncomputable def o15 (P : Params) : Obj := ⟨(.type "tuple"), .none, (.seq #[] 0), #[]⟩
noncomputable def o17 (P : Params) : Obj := ⟨(.type "tuple"), .none, (.seq #[(.str "k" 190)] 0), #[]⟩
noncomputable def o18 (P : Params) : Obj := ⟨(.type "tuple"), .none, (.seq #[] 0), #[]⟩
noncomputable def o20 (P : Params) : Obj := ⟨(.type "code"), .none, (.fields #[(.str "_wall" 187), (.str "_wall" 188), (.str "/claim/cut.py" 189), (.int 1 0), (.int 1 0), (.int 0 0), (.int 0 0), (.int 3 0), (.ref 15), (.bool .true), (.int 181 0), (.ref 16), .none, (.ref 17), (.ref 18), (.ref 19), (.int 191 0), (.int 1 0), (.str "/claim/cut.py" 192)]), #[]⟩
noncomputable def o21 (P : Params) : Obj := ⟨(.type "function"), .none, .func (fdS (stA 0) "_wall" "_wall" 3 [] .none .none .none (.str "__main__" 164) .none (.ref 20) .none 0), #[]⟩
noncomputable def o22 (P : Params) : Obj := ⟨(.type "tuple"), .none, (.seq #[(.type "Exception")] 0), #[]⟩
noncomputable def o29 (P : Params) : Obj := ⟨(.type "tuple"), .none, (.seq #[] 0), #[]⟩
noncomputable def o30 (P : Params) : Obj := ⟨(.type "dict"), .none, (.dict #[⟨(kh P "__module__"), (.str "__module__" 211), (.str "shamir_mnemonic.utils" 202)⟩, ⟨(kh P "__firstlineno__"), (.str "__firstlineno__" 215), (.int 9 214)⟩, ⟨(kh P "__static_attributes__"), (.str "__static_attributes__" 216), (.ref 29)⟩, ⟨(kh P "__weakref__"), (.str "__weakref__" 218), (.ref 32)⟩, ⟨(kh P "__doc__"), (.str "__doc__" 219), .none⟩] 3), #[]⟩
noncomputable def o31 (P : Params) : Obj := ⟨(.type "type"), .none, (.cls ⟨"MnemonicError", [(.type "Exception")], [(.ref 31), (.type "Exception"), (.type "BaseException"), (.type "object")], 30, "MnemonicError", .true, [], [], .false, .none, .false⟩), #[(.some (.ref 22)), .none, (.some (.str "MnemonicError" 204)), (.some (.str "MnemonicError" 212)), (.some (.builtin "Exception.__new__")), (.some (.bool .true))]⟩
noncomputable def o32 (P : Params) : Obj := ⟨(.type "getset_descriptor"), .none, (.fields #[(.str "__weakref__" 217), (.ref 31), (.builtin "ExceptionGroup.__weakref__"), .none]), #[]⟩
noncomputable def o42 (P : Params) : Obj := ⟨(.type "tuple"), .none, (.seq #[] 0), #[]⟩
noncomputable def o44 (P : Params) : Obj := ⟨(.type "tuple"), .none, (.seq #[(.str "self" 241), (.str "index" 242), (.str "doc" 243)] 0), #[]⟩
noncomputable def o45 (P : Params) : Obj := ⟨(.type "tuple"), .none, (.seq #[] 0), #[]⟩
noncomputable def o47 (P : Params) : Obj := ⟨(.type "code"), .none, (.fields #[(.str "__init__" 238), (.str "_tuplegetter.__init__" 239), (.str "/claim/cut.py" 240), (.int 14 0), (.int 3 0), (.int 0 0), (.int 0 0), (.int 3 0), (.ref 42), (.bool .true), (.int 181 0), (.ref 43), .none, (.ref 44), (.ref 45), (.ref 46), (.int 244 0), (.int 14 0), (.str "/claim/cut.py" 245)]), #[]⟩
noncomputable def o48 (P : Params) : Obj := ⟨(.type "function"), .none, .func (fdS (stB 8 0) "__init__" "_tuplegetter.__init__" 3 [] .none .none .none (.str "shamir_mnemonic.shamir" 224) .none (.ref 47) .none 0), #[]⟩
noncomputable def o49 (P : Params) : Obj := ⟨(.type "tuple"), .none, (.seq #[.none] 0), #[]⟩
noncomputable def o50 (P : Params) : Obj := ⟨(.type "tuple"), .none, (.seq #[] 0), #[]⟩
noncomputable def o52 (P : Params) : Obj := ⟨(.type "tuple"), .none, (.seq #[(.str "self" 250), (.str "obj" 251), (.str "objtype" 252)] 0), #[]⟩
noncomputable def o53 (P : Params) : Obj := ⟨(.type "tuple"), .none, (.seq #[] 0), #[]⟩
noncomputable def o55 (P : Params) : Obj := ⟨(.type "code"), .none, (.fields #[(.str "__get__" 247), (.str "_tuplegetter.__get__" 248), (.str "/claim/cut.py" 249), (.int 18 0), (.int 3 0), (.int 0 0), (.int 0 0), (.int 3 0), (.ref 50), (.bool .true), (.int 181 0), (.ref 51), .none, (.ref 52), (.ref 53), (.ref 54), (.int 253 0), (.int 18 0), (.str "/claim/cut.py" 254)]), #[]⟩
noncomputable def o56 (P : Params) : Obj := ⟨(.type "function"), .none, .func (fdS (stB 8 1) "__get__" "_tuplegetter.__get__" 3 [] (.ref 49) .none .none (.str "shamir_mnemonic.shamir" 224) .none (.ref 55) .none 0), #[]⟩
noncomputable def o57 (P : Params) : Obj := ⟨(.type "tuple"), .none, (.seq #[] 0), #[]⟩
noncomputable def o59 (P : Params) : Obj := ⟨(.type "tuple"), .none, (.seq #[(.str "self" 259), (.str "obj" 260), (.str "value" 261)] 0), #[]⟩
noncomputable def o60 (P : Params) : Obj := ⟨(.type "tuple"), .none, (.seq #[] 0), #[]⟩
noncomputable def o62 (P : Params) : Obj := ⟨(.type "code"), .none, (.fields #[(.str "__set__" 256), (.str "_tuplegetter.__set__" 257), (.str "/claim/cut.py" 258), (.int 25 0), (.int 3 0), (.int 0 0), (.int 0 0), (.int 3 0), (.ref 57), (.bool .true), (.int 181 0), (.ref 58), .none, (.ref 59), (.ref 60), (.ref 61), (.int 262 0), (.int 25 0), (.str "/claim/cut.py" 263)]), #[]⟩
noncomputable def o63 (P : Params) : Obj := ⟨(.type "function"), .none, .func (fdS (stB 8 2) "__set__" "_tuplegetter.__set__" 3 [] .none .none .none (.str "shamir_mnemonic.shamir" 224) .none (.ref 62) .none 0), #[]⟩
noncomputable def o64 (P : Params) : Obj := ⟨(.type "tuple"), .none, (.seq #[] 0), #[]⟩
noncomputable def o66 (P : Params) : Obj := ⟨(.type "tuple"), .none, (.seq #[(.str "self" 268), (.str "obj" 269)] 0), #[]⟩
noncomputable def o67 (P : Params) : Obj := ⟨(.type "tuple"), .none, (.seq #[] 0), #[]⟩
noncomputable def o69 (P : Params) : Obj := ⟨(.type "code"), .none, (.fields #[(.str "__delete__" 265), (.str "_tuplegetter.__delete__" 266), (.str "/claim/cut.py" 267), (.int 28 0), (.int 2 0), (.int 0 0), (.int 0 0), (.int 3 0), (.ref 64), (.bool .true), (.int 181 0), (.ref 65), .none, (.ref 66), (.ref 67), (.ref 68), (.int 270 0), (.int 28 0), (.str "/claim/cut.py" 271)]), #[]⟩
noncomputable def o70 (P : Params) : Obj := ⟨(.type "function"), .none, .func (fdS (stB 8 3) "__delete__" "_tuplegetter.__delete__" 3 [] .none .none .none (.str "shamir_mnemonic.shamir" 224) .none (.ref 69) .none 0), #[]⟩
noncomputable def o71 (P : Params) : Obj := ⟨(.type "tuple"), .none, (.seq #[(.str "__doc__" 273), (.str "index" 274)] 0), #[]⟩
noncomputable def o72 (P : Params) : Obj := ⟨(.type "dict"), .none, (.dict #[⟨(kh P "__module__"), (.str "__module__" 233), (.str "shamir_mnemonic.shamir" 224)⟩, ⟨(kh P "__firstlineno__"), (.str "__firstlineno__" 237), (.int 12 236)⟩, ⟨(kh P "__init__"), (.str "__init__" 246), (.ref 48)⟩, ⟨(kh P "__get__"), (.str "__get__" 255), (.ref 56)⟩, ⟨(kh P "__set__"), (.str "__set__" 264), (.ref 63)⟩, ⟨(kh P "__delete__"), (.str "__delete__" 272), (.ref 70)⟩, ⟨(kh P "__static_attributes__"), (.str "__static_attributes__" 275), (.ref 71)⟩, ⟨(kh P "__dict__"), (.str "__dict__" 277), (.ref 74)⟩, ⟨(kh P "__weakref__"), (.str "__weakref__" 279), (.ref 75)⟩, ⟨(kh P "__doc__"), (.str "__doc__" 280), .none⟩] 4), #[]⟩
noncomputable def o73 (P : Params) : Obj := ⟨(.type "type"), .none, (.cls ⟨"_tuplegetter", [(.type "object")], [(.ref 73), (.type "object")], 72, "_tuplegetter", .true, [], [], .false, .none, .false⟩), #[.none, .none, (.some (.str "_tuplegetter" 226)), (.some (.str "_tuplegetter" 234)), (.some (.builtin "object.__new__")), (.some (.bool .true))]⟩
noncomputable def o74 (P : Params) : Obj := ⟨(.type "getset_descriptor"), .none, (.fields #[(.str "__dict__" 276), (.ref 73), (.builtin "function.__dict__"), (.builtin "function.__dict__#set")]), #[]⟩
noncomputable def o75 (P : Params) : Obj := ⟨(.type "getset_descriptor"), .none, (.fields #[(.str "__weakref__" 278), (.ref 73), (.builtin "ExceptionGroup.__weakref__"), .none]), #[]⟩
noncomputable def o78 (P : Params) : Obj := ⟨(.type "tuple"), .none, (.seq #[(.type "tuple")] 0), #[]⟩
noncomputable def o81 (P : Params) : Obj := ⟨(.type "cell"), .none, (.cell (.some (.ref 145))), #[]⟩
noncomputable def o86 (P : Params) : Obj := ⟨(.type "tuple"), .none, (.seq #[] 0), #[]⟩
noncomputable def o87 (P : Params) : Obj := ⟨(.type "tuple"), .none, (.seq #[(.str "x" 299), (.str "data" 300)] 0), #[]⟩
noncomputable def o88 (P : Params) : Obj := ⟨(.type "dict"), .none, (.dict #[] 0), #[]⟩
noncomputable def o89 (P : Params) : Obj := ⟨(.type "tuple"), .none, (.seq #[] 0), #[]⟩
noncomputable def o91 (P : Params) : Obj := ⟨(.type "tuple"), .none, (.seq #[(.str "_cls" 306), (.str "x" 307), (.str "data" 308)] 0), #[]⟩
noncomputable def o92 (P : Params) : Obj := ⟨(.type "tuple"), .none, (.seq #[] 0), #[]⟩
noncomputable def o94 (P : Params) : Obj := ⟨(.type "code"), .none, (.fields #[(.str "__new__" 303), (.str "RawShare.__new__" 304), (.str "/claim/cut.py" 305), (.int 36 0), (.int 3 0), (.int 0 0), (.int 0 0), (.int 3 0), (.ref 89), (.bool .true), (.int 181 0), (.ref 90), .none, (.ref 91), (.ref 92), (.ref 93), (.int 309 0), (.int 36 0), (.str "/claim/cut.py" 310)]), #[]⟩
noncomputable def o95 (P : Params) : Obj := ⟨(.type "function"), .none, .func (fdS (stB 9 4) "__new__" "RawShare.__new__" 3 [] .none .none (docV (stB 9 4) 311) (.str "shamir_mnemonic.shamir" 224) .none (.ref 94) .none 0), #[]⟩
noncomputable def o96 (P : Params) : Obj := ⟨(.type "tuple"), .none, (.seq #[] 0), #[]⟩
noncomputable def o98 (P : Params) : Obj := ⟨(.type "tuple"), .none, (.seq #[(.str "cls" 316), (.str "iterable" 317), (.str "result" 318)] 0), #[]⟩
noncomputable def o99 (P : Params) : Obj := ⟨(.type "tuple"), .none, (.seq #[] 0), #[]⟩
noncomputable def o101 (P : Params) : Obj := ⟨(.type "code"), .none, (.fields #[(.str "_make" 313), (.str "RawShare._make" 314), (.str "/claim/cut.py" 315), (.int 40 0), (.int 2 0), (.int 0 0), (.int 0 0), (.int 3 0), (.ref 96), (.bool .true), (.int 181 0), (.ref 97), .none, (.ref 98), (.ref 99), (.ref 100), (.int 319 0), (.int 40 0), (.str "/claim/cut.py" 320)]), #[]⟩
noncomputable def o102 (P : Params) : Obj := ⟨(.type "function"), .none, .func (fdS (stB 9 5) "_make" "RawShare._make" 3 [] .none .none (docV (stB 9 5) 321) (.str "shamir_mnemonic.shamir" 224) (.some 105) (.ref 101) .none 0), #[]⟩
noncomputable def o103 (P : Params) : Obj := ⟨(.type "dict"), .none, (.dict #[⟨(kh P "__module__"), (.str "__module__" 323), (.str "shamir_mnemonic.shamir" 224)⟩, ⟨(kh P "__name__"), (.str "__name__" 326), (.str "_make" 325)⟩, ⟨(kh P "__qualname__"), (.str "__qualname__" 329), (.str "RawShare._make" 328)⟩, ⟨(kh P "__doc__"), (.str "__doc__" 331), (.str "Make a new RawShare object from a sequence or iterable" 321)⟩, ⟨(kh P "__annotations__"), (.str "__annotations__" 333), (.ref 105)⟩] 5), #[]⟩
noncomputable def o104 (P : Params) : Obj := ⟨(.type "classmethod"), (.some 103), (.fields #[(.ref 102), (.bool .false)]), #[]⟩
noncomputable def o105 (P : Params) : Obj := ⟨(.type "dict"), .none, (.dict #[] 0), #[]⟩
noncomputable def o106 (P : Params) : Obj := ⟨(.type "tuple"), .none, (.seq #[(.ref 81)] 0), #[]⟩
noncomputable def o107 (P : Params) : Obj := ⟨(.type "tuple"), .none, (.seq #[(.str "__class__" 338)] 0), #[]⟩
noncomputable def o109 (P : Params) : Obj := ⟨(.type "tuple"), .none, (.seq #[(.str "self" 339), (.str "kwds" 340), (.str "result" 341)] 0), #[]⟩
noncomputable def o110 (P : Params) : Obj := ⟨(.type "tuple"), .none, (.seq #[] 0), #[]⟩
noncomputable def o112 (P : Params) : Obj := ⟨(.type "code"), .none, (.fields #[(.str "_replace" 335), (.str "RawShare._replace" 336), (.str "/claim/cut.py" 337), (.int 48 0), (.int 1 0), (.int 1 0), (.int 0 0), (.int 11 0), (.ref 107), (.bool .true), (.int 181 0), (.ref 108), .none, (.ref 109), (.ref 110), (.ref 111), (.int 342 0), (.int 48 0), (.str "/claim/cut.py" 343)]), #[]⟩
noncomputable def o113 (P : Params) : Obj := ⟨(.type "function"), .none, .func (fdS (stB 9 6) "_replace" "RawShare._replace" 3 [("__class__", 81)] .none .none (docV (stB 9 6) 344) (.str "shamir_mnemonic.shamir" 224) .none (.ref 112) (.ref 106) 0), #[]⟩
noncomputable def o114 (P : Params) : Obj := ⟨(.type "tuple"), .none, (.seq #[] 0), #[]⟩
noncomputable def o116 (P : Params) : Obj := ⟨(.type "tuple"), .none, (.seq #[(.str "self" 350)] 0), #[]⟩
noncomputable def o117 (P : Params) : Obj := ⟨(.type "tuple"), .none, (.seq #[] 0), #[]⟩
noncomputable def o119 (P : Params) : Obj := ⟨(.type "code"), .none, (.fields #[(.str "__repr__" 347), (.str "RawShare.__repr__" 348), (.str "/claim/cut.py" 349), (.int 59 0), (.int 1 0), (.int 0 0), (.int 0 0), (.int 3 0), (.ref 114), (.bool .true), (.int 181 0), (.ref 115), .none, (.ref 116), (.ref 117), (.ref 118), (.int 351 0), (.int 59 0), (.str "/claim/cut.py" 352)]), #[]⟩
noncomputable def o120 (P : Params) : Obj := ⟨(.type "function"), .none, .func (fdS (stB 9 8) "__repr__" "RawShare.__repr__" 3 [] .none .none (docV (stB 9 8) 353) (.str "shamir_mnemonic.shamir" 224) .none (.ref 119) .none 0), #[]⟩
noncomputable def o121 (P : Params) : Obj := ⟨(.type "tuple"), .none, (.seq #[] 0), #[]⟩
noncomputable def o123 (P : Params) : Obj := ⟨(.type "tuple"), .none, (.seq #[(.str "self" 358)] 0), #[]⟩
noncomputable def o124 (P : Params) : Obj := ⟨(.type "tuple"), .none, (.seq #[] 0), #[]⟩
noncomputable def o126 (P : Params) : Obj := ⟨(.type "code"), .none, (.fields #[(.str "_asdict" 355), (.str "RawShare._asdict" 356), (.str "/claim/cut.py" 357), (.int 63 0), (.int 1 0), (.int 0 0), (.int 0 0), (.int 3 0), (.ref 121), (.bool .true), (.int 181 0), (.ref 122), .none, (.ref 123), (.ref 124), (.ref 125), (.int 359 0), (.int 63 0), (.str "/claim/cut.py" 360)]), #[]⟩
noncomputable def o127 (P : Params) : Obj := ⟨(.type "function"), .none, .func (fdS (stB 9 9) "_asdict" "RawShare._asdict" 3 [] .none .none .none (.str "shamir_mnemonic.shamir" 224) .none (.ref 126) .none 0), #[]⟩
noncomputable def o128 (P : Params) : Obj := ⟨(.type "tuple"), .none, (.seq #[] 0), #[]⟩
noncomputable def o130 (P : Params) : Obj := ⟨(.type "tuple"), .none, (.seq #[(.str "self" 365)] 0), #[]⟩
noncomputable def o131 (P : Params) : Obj := ⟨(.type "tuple"), .none, (.seq #[] 0), #[]⟩
noncomputable def o133 (P : Params) : Obj := ⟨(.type "code"), .none, (.fields #[(.str "__getnewargs__" 362), (.str "RawShare.__getnewargs__" 363), (.str "/claim/cut.py" 364), (.int 66 0), (.int 1 0), (.int 0 0), (.int 0 0), (.int 3 0), (.ref 128), (.bool .true), (.int 181 0), (.ref 129), .none, (.ref 130), (.ref 131), (.ref 132), (.int 366 0), (.int 66 0), (.str "/claim/cut.py" 367)]), #[]⟩
noncomputable def o134 (P : Params) : Obj := ⟨(.type "function"), .none, .func (fdS (stB 9 10) "__getnewargs__" "RawShare.__getnewargs__" 3 [] .none .none (docV (stB 9 10) 368) (.str "shamir_mnemonic.shamir" 224) .none (.ref 133) .none 0), #[]⟩
noncomputable def o135 (P : Params) : Obj := ⟨(.type "tuple"), .none, (.seq #[(.str "x" 370), (.str "data" 371)] 0), #[]⟩
noncomputable def o136 (P : Params) : Obj := ⟨(.type "dict"), .none, (.dict #[⟨(kh P "index"), (.str "index" 379), (.int 0 373)⟩, ⟨(kh P "__doc__"), (.str "__doc__" 381), (.str "Alias for field number 0" 374)⟩] 2), #[]⟩
noncomputable def o137 (P : Params) : Obj := ⟨(.ref 73), (.some 136), .plain, #[]⟩
noncomputable def o139 (P : Params) : Obj := ⟨(.type "dict"), .none, (.dict #[⟨(kh P "index"), (.str "index" 389), (.int 1 383)⟩, ⟨(kh P "__doc__"), (.str "__doc__" 391), (.str "Alias for field number 1" 384)⟩] 2), #[]⟩
noncomputable def o140 (P : Params) : Obj := ⟨(.ref 73), (.some 139), .plain, #[]⟩
noncomputable def o142 (P : Params) : Obj := ⟨(.type "tuple"), .none, (.seq #[] 0), #[]⟩
noncomputable def o144 (P : Params) : Obj := ⟨(.type "dict"), .none, (.dict #[⟨(kh P "__module__"), (.str "__module__" 290), (.str "shamir_mnemonic.shamir" 224)⟩, ⟨(kh P "__firstlineno__"), (.str "__firstlineno__" 294), (.int 30 293)⟩, ⟨(kh P "__doc__"), (.str "__doc__" 296), (.str "RawShare(x, data)" 295)⟩, ⟨(kh P "__slots__"), (.str "__slots__" 298), (.ref 86)⟩, ⟨(kh P "_fields"), (.str "_fields" 301), (.ref 87)⟩, ⟨(kh P "_field_defaults"), (.str "_field_defaults" 302), (.ref 88)⟩, ⟨(kh P "__new__"), (.str "__new__" 312), (.ref 146)⟩, ⟨(kh P "_make"), (.str "_make" 334), (.ref 104)⟩, ⟨(kh P "_replace"), (.str "_replace" 345), (.ref 113)⟩, ⟨(kh P "__replace__"), (.str "__replace__" 346), (.ref 113)⟩, ⟨(kh P "__repr__"), (.str "__repr__" 354), (.ref 120)⟩, ⟨(kh P "_asdict"), (.str "_asdict" 361), (.ref 127)⟩, ⟨(kh P "__getnewargs__"), (.str "__getnewargs__" 369), (.ref 134)⟩, ⟨(kh P "__match_args__"), (.str "__match_args__" 372), (.ref 135)⟩, ⟨(kh P "x"), (.str "x" 382), (.ref 137)⟩, ⟨(kh P "data"), (.str "data" 392), (.ref 140)⟩, ⟨(kh P "__static_attributes__"), (.str "__static_attributes__" 393), (.ref 142)⟩] 2), #[]⟩
noncomputable def o145 (P : Params) : Obj := ⟨(.type "type"), .none, (.cls ⟨"RawShare", [(.type "tuple")], [(.ref 145), (.type "tuple"), (.type "object")], 144, "RawShare", .false, [], [], .false, .none, .false⟩), #[(.some (.ref 78)), .none, (.some (.str "RawShare" 283)), (.some (.str "RawShare" 291)), (.some .none), (.some (.bool .false))]⟩
noncomputable def o146 (P : Params) : Obj := ⟨(.type "staticmethod"), .none, (.fields #[(.ref 95)]), #[]⟩
noncomputable def o149 (P : Params) : Obj := ⟨(.type "tuple"), .none, (.seq #[] 0), #[]⟩
noncomputable def o151 (P : Params) : Obj := ⟨(.type "tuple"), .none, (.seq #[(.str "shares" 405), (.str "x" 406), (.str "x_coordinates" 407), (.str "share_value_lengths" 408), (.str "log_prod" 409), (.str "result" 410)] 0), #[]⟩
noncomputable def o152 (P : Params) : Obj := ⟨(.type "tuple"), .none, (.seq #[(.str "x" 411), (.str "log_basis_eval" 412), (.str "share" 413)] 0), #[]⟩
noncomputable def o154 (P : Params) : Obj := ⟨(.type "code"), .none, (.fields #[(.str "_interpolate" 402), (.str "_interpolate" 403), (.str "/claim/cut.py" 404), (.int 74 0), (.int 2 0), (.int 0 0), (.int 0 0), (.int 3 0), (.ref 149), (.bool .true), (.int 181 0), (.ref 150), .none, (.ref 151), (.ref 152), (.ref 153), (.int 414 0), (.int 74 0), (.str "/claim/cut.py" 415)]), #[]⟩
noncomputable def o155 (P : Params) : Obj := ⟨(.type "function"), .none, .func (fdS (stA 12) "_interpolate" "_interpolate" 3 [] .none .none (docV (stA 12) 416) (.str "shamir_mnemonic.shamir" 224) .none (.ref 154) .none 0), #[]⟩
noncomputable def o156 (P : Params) : Obj := ⟨(.type "tuple"), .none, (.seq #[] 0), #[]⟩
noncomputable def o158 (P : Params) : Obj := ⟨(.type "tuple"), .none, (.seq #[(.str "random_data" 421), (.str "shared_secret" 422), (.str "hmac_sha256" 423)] 0), #[]⟩
noncomputable def o159 (P : Params) : Obj := ⟨(.type "tuple"), .none, (.seq #[] 0), #[]⟩
noncomputable def o161 (P : Params) : Obj := ⟨(.type "code"), .none, (.fields #[(.str "_create_digest" 418), (.str "_create_digest" 419), (.str "/claim/cut.py" 420), (.int 100 0), (.int 3 0), (.int 0 0), (.int 0 0), (.int 3 0), (.ref 156), (.bool .true), (.int 181 0), (.ref 157), .none, (.ref 158), (.ref 159), (.ref 160), (.int 424 0), (.int 100 0), (.str "/claim/cut.py" 425)]), #[]⟩
noncomputable def o162 (P : Params) : Obj := ⟨(.type "function"), .none, .func (fdS (stA 13) "_create_digest" "_create_digest" 3 [] .none .none .none (.str "shamir_mnemonic.shamir" 224) .none (.ref 161) .none 0), #[]⟩
noncomputable def o163 (P : Params) : Obj := ⟨(.type "tuple"), .none, (.seq #[] 0), #[]⟩
noncomputable def o166 (P : Params) : Obj := ⟨(.type "code"), .none, (.fields #[(.str "_split_secret" 427), (.str "_split_secret" 428), (.str "/claim/cut.py" 429), (.int 102 0), (.int 5 0), (.int 0 0), (.int 0 0), (.int 3 0), (.ref 163), (.bool .true), (.int 181 0), (.ref 164), .none, .none, .none, (.ref 165), (.int 430 0), (.int 102 0), (.str "/claim/cut.py" 431)]), #[]⟩
noncomputable def o167 (P : Params) : Obj := ⟨(.type "function"), .none, .func (fdS (stA 14) "_split_secret" "_split_secret" 3 [] .none .none .none (.str "shamir_mnemonic.shamir" 224) .none (.ref 166) .none 0), #[]⟩
noncomputable def o168 (P : Params) : Obj := ⟨(.type "tuple"), .none, (.seq #[] 0), #[]⟩
noncomputable def o170 (P : Params) : Obj := ⟨(.type "tuple"), .none, (.seq #[(.str "threshold" 436), (.str "shares" 437), (.str "hmac_sha256" 438), (.str "shared_secret" 439), (.str "digest_share" 440), (.str "digest" 441), (.str "random_part" 442)] 0), #[]⟩
noncomputable def o171 (P : Params) : Obj := ⟨(.type "tuple"), .none, (.seq #[] 0), #[]⟩
noncomputable def o173 (P : Params) : Obj := ⟨(.type "code"), .none, (.fields #[(.str "_recover_secret" 433), (.str "_recover_secret" 434), (.str "/claim/cut.py" 435), (.int 119 0), (.int 3 0), (.int 0 0), (.int 0 0), (.int 3 0), (.ref 168), (.bool .true), (.int 181 0), (.ref 169), .none, (.ref 170), (.ref 171), (.ref 172), (.int 443 0), (.int 119 0), (.str "/claim/cut.py" 444)]), #[]⟩
noncomputable def o174 (P : Params) : Obj := ⟨(.type "function"), .none, .func (fdS (stA 15) "_recover_secret" "_recover_secret" 3 [] .none .none .none (.str "shamir_mnemonic.shamir" 224) .none (.ref 173) .none 0), #[]⟩
noncomputable def o175 (P : Params) : Obj := ⟨(.type "tuple"), .none, (.seq #[] 0), #[]⟩
noncomputable def o177 (P : Params) : Obj := ⟨(.type "tuple"), .none, (.seq #[(.str "script" 453), (.str "place" 454)] 0), #[]⟩
noncomputable def o178 (P : Params) : Obj := ⟨(.type "tuple"), .none, (.seq #[] 0), #[]⟩
noncomputable def o180 (P : Params) : Obj := ⟨(.type "code"), .none, (.fields #[(.str "_law_number" 450), (.str "_law_number" 451), (.str "/claim/cut.py" 452), (.int 131 0), (.int 2 0), (.int 0 0), (.int 0 0), (.int 3 0), (.ref 175), (.bool .true), (.int 181 0), (.ref 176), .none, (.ref 177), (.ref 178), (.ref 179), (.int 455 0), (.int 131 0), (.str "/claim/cut.py" 456)]), #[]⟩
noncomputable def o181 (P : Params) : Obj := ⟨(.type "function"), .none, .func (fdS (stA 18) "_law_number" "_law_number" 3 [] .none .none .none (.str "law_lb0023_01" 446) .none (.ref 180) .none 0), #[]⟩
noncomputable def o182 (P : Params) : Obj := ⟨(.type "tuple"), .none, (.seq #[] 0), #[]⟩
noncomputable def o184 (P : Params) : Obj := ⟨(.type "tuple"), .none, (.seq #[(.str "script" 461), (.str "place" 462), (.str "size" 463)] 0), #[]⟩
noncomputable def o185 (P : Params) : Obj := ⟨(.type "tuple"), .none, (.seq #[] 0), #[]⟩
noncomputable def o187 (P : Params) : Obj := ⟨(.type "code"), .none, (.fields #[(.str "_law_row" 458), (.str "_law_row" 459), (.str "/claim/cut.py" 460), (.int 133 0), (.int 3 0), (.int 0 0), (.int 0 0), (.int 3 0), (.ref 182), (.bool .true), (.int 181 0), (.ref 183), .none, (.ref 184), (.ref 185), (.ref 186), (.int 464 0), (.int 133 0), (.str "/claim/cut.py" 465)]), #[]⟩
noncomputable def o188 (P : Params) : Obj := ⟨(.type "function"), .none, .func (fdS (stA 19) "_law_row" "_law_row" 3 [] .none .none .none (.str "law_lb0023_01" 446) .none (.ref 187) .none 0), #[]⟩
noncomputable def o189 (P : Params) : Obj := ⟨(.type "tuple"), .none, (.seq #[] 0), #[]⟩
noncomputable def o191 (P : Params) : Obj := ⟨(.type "tuple"), .none, (.seq #[(.str "scalar" 470), (.str "row" 471), (.str "ones" 472), (.str "told" 473), (.str "top" 474)] 0), #[]⟩
noncomputable def o192 (P : Params) : Obj := ⟨(.type "tuple"), .none, (.seq #[] 0), #[]⟩
noncomputable def o194 (P : Params) : Obj := ⟨(.type "code"), .none, (.fields #[(.str "_law_times" 467), (.str "_law_times" 468), (.str "/claim/cut.py" 469), (.int 135 0), (.int 3 0), (.int 0 0), (.int 0 0), (.int 3 0), (.ref 189), (.bool .true), (.int 181 0), (.ref 190), .none, (.ref 191), (.ref 192), (.ref 193), (.int 475 0), (.int 135 0), (.str "/claim/cut.py" 476)]), #[]⟩
noncomputable def o195 (P : Params) : Obj := ⟨(.type "function"), .none, .func (fdS (stA 20) "_law_times" "_law_times" 3 [] .none .none .none (.str "law_lb0023_01" 446) .none (.ref 194) .none 0), #[]⟩
noncomputable def o196 (P : Params) : Obj := ⟨(.type "tuple"), .none, (.seq #[] 0), #[]⟩
noncomputable def o198 (P : Params) : Obj := ⟨(.type "tuple"), .none, (.seq #[(.str "scalar" 481), (.str "high" 482), (.str "low" 483), (.str "above" 484), (.str "below" 485), (.str "shift" 486)] 0), #[]⟩
noncomputable def o199 (P : Params) : Obj := ⟨(.type "tuple"), .none, (.seq #[] 0), #[]⟩
noncomputable def o201 (P : Params) : Obj := ⟨(.type "code"), .none, (.fields #[(.str "_law_inverse" 478), (.str "_law_inverse" 479), (.str "/claim/cut.py" 480), (.int 144 0), (.int 1 0), (.int 0 0), (.int 0 0), (.int 3 0), (.ref 196), (.bool .true), (.int 181 0), (.ref 197), .none, (.ref 198), (.ref 199), (.ref 200), (.int 487 0), (.int 144 0), (.str "/claim/cut.py" 488)]), #[]⟩
noncomputable def o202 (P : Params) : Obj := ⟨(.type "function"), .none, .func (fdS (stA 21) "_law_inverse" "_law_inverse" 3 [] .none .none .none (.str "law_lb0023_01" 446) .none (.ref 201) .none 0), #[]⟩
noncomputable def o203 (P : Params) : Obj := ⟨(.type "tuple"), .none, (.seq #[] 0), #[]⟩
noncomputable def o205 (P : Params) : Obj := ⟨(.type "tuple"), .none, (.seq #[(.str "places" 493), (.str "x" 494), (.str "told" 495), (.str "place" 496)] 0), #[]⟩
noncomputable def o206 (P : Params) : Obj := ⟨(.type "tuple"), .none, (.seq #[] 0), #[]⟩
noncomputable def o208 (P : Params) : Obj := ⟨(.type "code"), .none, (.fields #[(.str "_law_product" 490), (.str "_law_product" 491), (.str "/claim/cut.py" 492), (.int 153 0), (.int 2 0), (.int 0 0), (.int 0 0), (.int 3 0), (.ref 203), (.bool .true), (.int 181 0), (.ref 204), .none, (.ref 205), (.ref 206), (.ref 207), (.int 497 0), (.int 153 0), (.str "/claim/cut.py" 498)]), #[]⟩
noncomputable def o209 (P : Params) : Obj := ⟨(.type "function"), .none, .func (fdS (stA 22) "_law_product" "_law_product" 3 [] .none .none .none (.str "law_lb0023_01" 446) .none (.ref 208) .none 0), #[]⟩
noncomputable def o210 (P : Params) : Obj := ⟨(.type "tuple"), .none, (.seq #[] 0), #[]⟩
noncomputable def o212 (P : Params) : Obj := ⟨(.type "tuple"), .none, (.seq #[(.str "secret" 503), (.str "digest" 504), (.str "rows" 505), (.str "x" 506), (.str "ones" 507), (.str "told" 508), (.str "free" 509), (.str "row" 510)] 0), #[]⟩
noncomputable def o213 (P : Params) : Obj := ⟨(.type "tuple"), .none, (.seq #[] 0), #[]⟩
noncomputable def o215 (P : Params) : Obj := ⟨(.type "code"), .none, (.fields #[(.str "_law_share" 500), (.str "_law_share" 501), (.str "/claim/cut.py" 502), (.int 158 0), (.int 5 0), (.int 0 0), (.int 0 0), (.int 3 0), (.ref 210), (.bool .true), (.int 181 0), (.ref 211), .none, (.ref 212), (.ref 213), (.ref 214), (.int 511 0), (.int 158 0), (.str "/claim/cut.py" 512)]), #[]⟩
noncomputable def o216 (P : Params) : Obj := ⟨(.type "function"), .none, .func (fdS (stA 23) "_law_share" "_law_share" 3 [] .none .none .none (.str "law_lb0023_01" 446) .none (.ref 215) .none 0), #[]⟩
noncomputable def o217 (P : Params) : Obj := ⟨(.type "tuple"), .none, (.seq #[] 0), #[]⟩
noncomputable def o219 (P : Params) : Obj := ⟨(.type "tuple"), .none, (.seq #[(.str "key" 517), (.str "data" 518), (.str "secret" 519), (.str "number" 520)] 0), #[]⟩
noncomputable def o220 (P : Params) : Obj := ⟨(.type "tuple"), .none, (.seq #[] 0), #[]⟩
noncomputable def o222 (P : Params) : Obj := ⟨(.type "code"), .none, (.fields #[(.str "_law_digest" 514), (.str "_law_digest" 515), (.str "/claim/cut.py" 516), (.int 166 0), (.int 3 0), (.int 0 0), (.int 0 0), (.int 3 0), (.ref 217), (.bool .true), (.int 181 0), (.ref 218), .none, (.ref 219), (.ref 220), (.ref 221), (.int 521 0), (.int 166 0), (.str "/claim/cut.py" 522)]), #[]⟩
noncomputable def o223 (P : Params) : Obj := ⟨(.type "function"), .none, .func (fdS (stA 24) "_law_digest" "_law_digest" 3 [] .none .none .none (.str "law_lb0023_01" 446) .none (.ref 222) .none 0), #[]⟩
noncomputable def o224 (P : Params) : Obj := ⟨(.type "tuple"), .none, (.seq #[] 0), #[]⟩
noncomputable def o226 (P : Params) : Obj := ⟨(.type "tuple"), .none, (.seq #[(.str "draws" 527), (.str "asked" 528), (.str "draw" 529)] 0), #[]⟩
noncomputable def o227 (P : Params) : Obj := ⟨(.type "tuple"), .none, (.seq #[(.str "draws" 530), (.str "asked" 531)] 0), #[]⟩
noncomputable def o229 (P : Params) : Obj := ⟨(.type "code"), .none, (.fields #[(.str "_law_chance" 524), (.str "_law_chance" 525), (.str "/claim/cut.py" 526), (.int 169 0), (.int 2 0), (.int 0 0), (.int 0 0), (.int 3 0), (.ref 224), (.bool .true), (.int 181 0), (.ref 225), .none, (.ref 226), (.ref 227), (.ref 228), (.int 532 0), (.int 169 0), (.str "/claim/cut.py" 533)]), #[]⟩
noncomputable def o230 (P : Params) : Obj := ⟨(.type "function"), .none, .func (fdS (stA 25) "_law_chance" "_law_chance" 3 [] .none .none .none (.str "law_lb0023_01" 446) .none (.ref 229) .none 0), #[]⟩
noncomputable def o231 (P : Params) : Obj := ⟨(.type "tuple"), .none, (.seq #[] 0), #[]⟩
noncomputable def o233 (P : Params) : Obj := ⟨(.type "tuple"), .none, (.seq #[(.str "key" 538), (.str "forced" 539), (.str "heard" 540), (.str "tell" 541)] 0), #[]⟩
noncomputable def o234 (P : Params) : Obj := ⟨(.type "tuple"), .none, (.seq #[(.str "key" 542), (.str "forced" 543), (.str "heard" 544)] 0), #[]⟩
noncomputable def o236 (P : Params) : Obj := ⟨(.type "code"), .none, (.fields #[(.str "_law_hmac" 535), (.str "_law_hmac" 536), (.str "/claim/cut.py" 537), (.int 175 0), (.int 3 0), (.int 0 0), (.int 0 0), (.int 3 0), (.ref 231), (.bool .true), (.int 181 0), (.ref 232), .none, (.ref 233), (.ref 234), (.ref 235), (.int 545 0), (.int 175 0), (.str "/claim/cut.py" 546)]), #[]⟩
noncomputable def o237 (P : Params) : Obj := ⟨(.type "function"), .none, .func (fdS (stA 26) "_law_hmac" "_law_hmac" 3 [] .none .none .none (.str "law_lb0023_01" 446) .none (.ref 236) .none 0), #[]⟩
noncomputable def o238 (P : Params) : Obj := ⟨(.type "tuple"), .none, (.seq #[] 0), #[]⟩
noncomputable def o241 (P : Params) : Obj := ⟨(.type "code"), .none, (.fields #[(.str "_law_rows" 548), (.str "_law_rows" 549), (.str "/claim/cut.py" 550), (.int 181 0), (.int 2 0), (.int 0 0), (.int 0 0), (.int 3 0), (.ref 238), (.bool .true), (.int 181 0), (.ref 239), .none, .none, .none, (.ref 240), (.int 551 0), (.int 181 0), (.str "/claim/cut.py" 552)]), #[]⟩
noncomputable def o242 (P : Params) : Obj := ⟨(.type "function"), .none, .func (fdS (stA 27) "_law_rows" "_law_rows" 3 [] .none .none .none (.str "law_lb0023_01" 446) .none (.ref 241) .none 0), #[]⟩
noncomputable def o243 (P : Params) : Obj := ⟨(.type "tuple"), .none, (.seq #[] 0), #[]⟩
noncomputable def o246 (P : Params) : Obj := ⟨(.type "code"), .none, (.fields #[(.str "law" 554), (.str "law" 555), (.str "/claim/cut.py" 556), (.int 183 0), (.int 1 0), (.int 0 0), (.int 0 0), (.int 3 0), (.ref 243), (.bool .true), (.int 181 0), (.ref 244), .none, .none, .none, (.ref 245), (.int 557 0), (.int 183 0), (.str "/claim/cut.py" 558)]), #[]⟩
noncomputable def o247 (P : Params) : Obj := ⟨(.type "function"), .none, .func (fdS (stA 28) "law" "law" 3 [] .none .none .none (.str "law_lb0023_01" 446) .none (.ref 246) .none 0), #[]⟩
noncomputable def heap_39 (P : Params) : Frag := (nat_lit 2, o2 P) :: (nat_lit 3, o3 P) :: (nat_lit 15, o15 P) :: (nat_lit 17, o17 P) :: (nat_lit 18, o18 P) :: (nat_lit 20, o20 P) :: (nat_lit 21, o21 P) :: (nat_lit 22, o22 P) :: (nat_lit 29, o29 P) :: (nat_lit 30, o30 P) :: (nat_lit 31, o31 P) :: (nat_lit 32, o32 P) :: (nat_lit 42, o42 P) :: (nat_lit 44, o44 P) :: (nat_lit 45, o45 P) :: (nat_lit 47, o47 P) :: (nat_lit 48, o48 P) :: (nat_lit 49, o49 P) :: (nat_lit 50, o50 P) :: (nat_lit 52, o52 P) :: (nat_lit 53, o53 P) :: (nat_lit 55, o55 P) :: (nat_lit 56, o56 P) :: (nat_lit 57, o57 P) :: (nat_lit 59, o59 P) :: (nat_lit 60, o60 P) :: (nat_lit 62, o62 P) :: (nat_lit 63, o63 P) :: (nat_lit 64, o64 P) :: (nat_lit 66, o66 P) :: (nat_lit 67, o67 P) :: (nat_lit 69, o69 P) :: (nat_lit 70, o70 P) :: (nat_lit 71, o71 P) :: (nat_lit 72, o72 P) :: (nat_lit 73, o73 P) :: (nat_lit 74, o74 P) :: (nat_lit 75, o75 P) :: (nat_lit 78, o78 P) :: (nat_lit 81, o81 P) :: (nat_lit 86, o86 P) :: (nat_lit 87, o87 P) :: (nat_lit 88, o88 P) :: (nat_lit 89, o89 P) :: (nat_lit 91, o91 P) :: (nat_lit 92, o92 P) :: (nat_lit 94, o94 P) :: (nat_lit 95, o95 P) :: (nat_lit 96, o96 P) :: (nat_lit 98, o98 P) :: (nat_lit 99, o99 P) :: (nat_lit 101, o101 P) :: (nat_lit 102, o102 P) :: (nat_lit 103, o103 P) :: (nat_lit 104, o104 P) :: (nat_lit 105, o105 P) :: (nat_lit 106, o106 P) :: (nat_lit 107, o107 P) :: (nat_lit 109, o109 P) :: (nat_lit 110, o110 P) :: (nat_lit 112, o112 P) :: (nat_lit 113, o113 P) :: (nat_lit 114, o114 P) :: (nat_lit 116, o116 P) :: (nat_lit 117, o117 P) :: (nat_lit 119, o119 P) :: (nat_lit 120, o120 P) :: (nat_lit 121, o121 P) :: (nat_lit 123, o123 P) :: (nat_lit 124, o124 P) :: (nat_lit 126, o126 P) :: (nat_lit 127, o127 P) :: (nat_lit 128, o128 P) :: (nat_lit 130, o130 P) :: (nat_lit 131, o131 P) :: (nat_lit 133, o133 P) :: (nat_lit 134, o134 P) :: (nat_lit 135, o135 P) :: (nat_lit 136, o136 P) :: (nat_lit 137, o137 P) :: (nat_lit 139, o139 P) :: (nat_lit 140, o140 P) :: (nat_lit 142, o142 P) :: (nat_lit 144, o144 P) :: (nat_lit 145, o145 P) :: (nat_lit 146, o146 P) :: (nat_lit 149, o149 P) :: (nat_lit 151, o151 P) :: (nat_lit 152, o152 P) :: (nat_lit 154, o154 P) :: (nat_lit 155, o155 P) :: (nat_lit 156, o156 P) :: (nat_lit 158, o158 P) :: (nat_lit 159, o159 P) :: (nat_lit 161, o161 P) :: (nat_lit 162, o162 P) :: (nat_lit 163, o163 P) :: (nat_lit 166, o166 P) :: (nat_lit 167, o167 P) :: (nat_lit 168, o168 P) :: (nat_lit 170, o170 P) :: (nat_lit 171, o171 P) :: (nat_lit 173, o173 P) :: (nat_lit 174, o174 P) :: (nat_lit 175, o175 P) :: (nat_lit 177, o177 P) :: (nat_lit 178, o178 P) :: (nat_lit 180, o180 P) :: (nat_lit 181, o181 P) :: (nat_lit 182, o182 P) :: (nat_lit 184, o184 P) :: (nat_lit 185, o185 P) :: (nat_lit 187, o187 P) :: (nat_lit 188, o188 P) :: (nat_lit 189, o189 P) :: (nat_lit 191, o191 P) :: (nat_lit 192, o192 P) :: (nat_lit 194, o194 P) :: (nat_lit 195, o195 P) :: (nat_lit 196, o196 P) :: (nat_lit 198, o198 P) :: (nat_lit 199, o199 P) :: (nat_lit 201, o201 P) :: (nat_lit 202, o202 P) :: (nat_lit 203, o203 P) :: (nat_lit 205, o205 P) :: (nat_lit 206, o206 P) :: (nat_lit 208, o208 P) :: (nat_lit 209, o209 P) :: (nat_lit 210, o210 P) :: (nat_lit 212, o212 P) :: (nat_lit 213, o213 P) :: (nat_lit 215, o215 P) :: (nat_lit 216, o216 P) :: (nat_lit 217, o217 P) :: (nat_lit 219, o219 P) :: (nat_lit 220, o220 P) :: (nat_lit 222, o222 P) :: (nat_lit 223, o223 P) :: (nat_lit 224, o224 P) :: (nat_lit 226, o226 P) :: (nat_lit 227, o227 P) :: (nat_lit 229, o229 P) :: (nat_lit 230, o230 P) :: (nat_lit 231, o231 P) :: (nat_lit 233, o233 P) :: (nat_lit 234, o234 P) :: (nat_lit 236, o236 P) :: (nat_lit 237, o237 P) :: (nat_lit 238, o238 P) :: (nat_lit 241, o241 P) :: (nat_lit 242, o242 P) :: (nat_lit 243, o243 P) :: (nat_lit 246, o246 P) :: (nat_lit 247, o247 P) :: []
noncomputable def keep : List Nat := [0, 1, 2, 3, 4, 6, 8, 9, 10, 11, 12, 13, 14, 15, 17, 18, 19, 20, 21, 22, 23, 24, 25, 26, 27, 28]
noncomputable def as39 : List Nat := [2, 3, 15, 17, 18, 20, 21, 22, 29, 30, 31, 32, 42, 44, 45, 47, 48, 49, 50, 52, 53, 55, 56, 57, 59, 60, 62, 63, 64, 66, 67, 69, 70, 71, 72, 73, 74, 75, 78, 81, 86, 87, 88, 89, 91, 92, 94, 95, 96, 98, 99, 101, 102, 103, 104, 105, 106, 107, 109, 110, 112, 113, 114, 116, 117, 119, 120, 121, 123, 124, 126, 127, 128, 130, 131, 133, 134, 135, 136, 137, 139, 140, 142, 144, 145, 146, 149, 151, 152, 154, 155, 156, 158, 159, 161, 162, 163, 166, 167, 168, 170, 171, 173, 174, 175, 177, 178, 180, 181, 182, 184, 185, 187, 188, 189, 191, 192, 194, 195, 196, 198, 199, 201, 202, 203, 205, 206, 208, 209, 210, 212, 213, 215, 216, 217, 219, 220, 222, 223, 224, 226, 227, 229, 230, 231, 233, 234, 236, 237, 238, 241, 242, 243, 246, 247]
end Mine.hd
end
section
open PySem PySem.W PyProof.Rows
namespace Mine.hd
theorem well : PySem.Challenge.rw_lb0023_01.wellSaid = true := by kernel_rfl
noncomputable def kb0 (P : Params) : Frag := (nat_lit 2, o2 P) :: (nat_lit 3, o3 P) :: (nat_lit 15, o15 P) :: (nat_lit 17, o17 P) :: (nat_lit 18, o18 P) :: (nat_lit 20, o20 P) :: (nat_lit 21, o21 P) :: (nat_lit 22, o22 P) :: (nat_lit 29, o29 P) :: (nat_lit 30, o30 P) :: (nat_lit 31, o31 P) :: (nat_lit 32, o32 P) :: []
noncomputable def kb1 (P : Params) : Frag := (nat_lit 42, o42 P) :: (nat_lit 44, o44 P) :: (nat_lit 45, o45 P) :: (nat_lit 47, o47 P) :: (nat_lit 48, o48 P) :: (nat_lit 49, o49 P) :: (nat_lit 50, o50 P) :: (nat_lit 52, o52 P) :: (nat_lit 53, o53 P) :: (nat_lit 55, o55 P) :: (nat_lit 56, o56 P) :: (nat_lit 57, o57 P) :: []
noncomputable def kb2 (P : Params) : Frag := (nat_lit 59, o59 P) :: (nat_lit 60, o60 P) :: (nat_lit 62, o62 P) :: (nat_lit 63, o63 P) :: (nat_lit 64, o64 P) :: (nat_lit 66, o66 P) :: (nat_lit 67, o67 P) :: (nat_lit 69, o69 P) :: (nat_lit 70, o70 P) :: (nat_lit 71, o71 P) :: (nat_lit 72, o72 P) :: (nat_lit 73, o73 P) :: []
noncomputable def kb3 (P : Params) : Frag := (nat_lit 74, o74 P) :: (nat_lit 75, o75 P) :: (nat_lit 78, o78 P) :: (nat_lit 81, o81 P) :: (nat_lit 86, o86 P) :: (nat_lit 87, o87 P) :: (nat_lit 88, o88 P) :: (nat_lit 89, o89 P) :: (nat_lit 91, o91 P) :: (nat_lit 92, o92 P) :: (nat_lit 94, o94 P) :: (nat_lit 95, o95 P) :: []
noncomputable def kb4 (P : Params) : Frag := (nat_lit 96, o96 P) :: (nat_lit 98, o98 P) :: (nat_lit 99, o99 P) :: (nat_lit 101, o101 P) :: (nat_lit 102, o102 P) :: (nat_lit 103, o103 P) :: (nat_lit 104, o104 P) :: (nat_lit 105, o105 P) :: (nat_lit 106, o106 P) :: (nat_lit 107, o107 P) :: (nat_lit 109, o109 P) :: (nat_lit 110, o110 P) :: []
noncomputable def kb5 (P : Params) : Frag := (nat_lit 112, o112 P) :: (nat_lit 113, o113 P) :: (nat_lit 114, o114 P) :: (nat_lit 116, o116 P) :: (nat_lit 117, o117 P) :: (nat_lit 119, o119 P) :: (nat_lit 120, o120 P) :: (nat_lit 121, o121 P) :: (nat_lit 123, o123 P) :: (nat_lit 124, o124 P) :: (nat_lit 126, o126 P) :: (nat_lit 127, o127 P) :: []
noncomputable def kb6 (P : Params) : Frag := (nat_lit 128, o128 P) :: (nat_lit 130, o130 P) :: (nat_lit 131, o131 P) :: (nat_lit 133, o133 P) :: (nat_lit 134, o134 P) :: (nat_lit 135, o135 P) :: (nat_lit 136, o136 P) :: (nat_lit 137, o137 P) :: (nat_lit 139, o139 P) :: (nat_lit 140, o140 P) :: (nat_lit 142, o142 P) :: (nat_lit 144, o144 P) :: []
noncomputable def kb7 (P : Params) : Frag := (nat_lit 145, o145 P) :: (nat_lit 146, o146 P) :: (nat_lit 149, o149 P) :: (nat_lit 151, o151 P) :: (nat_lit 152, o152 P) :: (nat_lit 154, o154 P) :: (nat_lit 155, o155 P) :: (nat_lit 156, o156 P) :: (nat_lit 158, o158 P) :: (nat_lit 159, o159 P) :: (nat_lit 161, o161 P) :: (nat_lit 162, o162 P) :: []
noncomputable def kb8 (P : Params) : Frag := (nat_lit 163, o163 P) :: (nat_lit 166, o166 P) :: (nat_lit 167, o167 P) :: (nat_lit 168, o168 P) :: (nat_lit 170, o170 P) :: (nat_lit 171, o171 P) :: (nat_lit 173, o173 P) :: (nat_lit 174, o174 P) :: (nat_lit 175, o175 P) :: (nat_lit 177, o177 P) :: (nat_lit 178, o178 P) :: (nat_lit 180, o180 P) :: []
noncomputable def kb9 (P : Params) : Frag := (nat_lit 181, o181 P) :: (nat_lit 182, o182 P) :: (nat_lit 184, o184 P) :: (nat_lit 185, o185 P) :: (nat_lit 187, o187 P) :: (nat_lit 188, o188 P) :: (nat_lit 189, o189 P) :: (nat_lit 191, o191 P) :: (nat_lit 192, o192 P) :: (nat_lit 194, o194 P) :: (nat_lit 195, o195 P) :: (nat_lit 196, o196 P) :: []
noncomputable def kb10 (P : Params) : Frag := (nat_lit 198, o198 P) :: (nat_lit 199, o199 P) :: (nat_lit 201, o201 P) :: (nat_lit 202, o202 P) :: (nat_lit 203, o203 P) :: (nat_lit 205, o205 P) :: (nat_lit 206, o206 P) :: (nat_lit 208, o208 P) :: (nat_lit 209, o209 P) :: (nat_lit 210, o210 P) :: (nat_lit 212, o212 P) :: (nat_lit 213, o213 P) :: []
noncomputable def kb11 (P : Params) : Frag := (nat_lit 215, o215 P) :: (nat_lit 216, o216 P) :: (nat_lit 217, o217 P) :: (nat_lit 219, o219 P) :: (nat_lit 220, o220 P) :: (nat_lit 222, o222 P) :: (nat_lit 223, o223 P) :: (nat_lit 224, o224 P) :: (nat_lit 226, o226 P) :: (nat_lit 227, o227 P) :: (nat_lit 229, o229 P) :: (nat_lit 230, o230 P) :: []
noncomputable def kb12 (P : Params) : Frag := (nat_lit 231, o231 P) :: (nat_lit 233, o233 P) :: (nat_lit 234, o234 P) :: (nat_lit 236, o236 P) :: (nat_lit 237, o237 P) :: (nat_lit 238, o238 P) :: (nat_lit 241, o241 P) :: (nat_lit 242, o242 P) :: (nat_lit 243, o243 P) :: (nat_lit 246, o246 P) :: (nat_lit 247, o247 P) :: []
noncomputable def heapB (P : Params) : Frag := kb0 P ++ (kb1 P ++ (kb2 P ++ (kb3 P ++ (kb4 P ++ (kb5 P ++ (kb6 P ++ (kb7 P ++ (kb8 P ++ (kb9 P ++ (kb10 P ++ (kb11 P ++ (kb12 P))))))))))))
noncomputable def q : Program := view PySem.Challenge.pw_lb0023_01 keep
noncomputable def loose : List Str := ["_tuplegetter", "RawShare"]
theorem top_ok (w : World) (os : OsState) :
  (topFrom treeTable PySem.Challenge.pw_lb0023_01 w 4156 ⟨boot_heap w.params, #[], boot_drawn, boot_toks, os⟩).map (fun s => (openSeen q loose (importedModules PySem.Challenge.pw_lb0023_01.main.body) (fun s => xlAt q [] s && recOk [] s) true s, (as39.map s.heap.get?, [232, 225].map s.heap.get?))) =
    some (openGood q loose, ((heapB w.params).map fun p => some p.2, [232, 225].map fun _ => some (tabObj #[]))) := by
  rw [Fast.te4187177175401517315, Fast.te5923862056798008813, Fast.te14364793385576792824, @R.mapR_eq]
  kernel_rfl
theorem left_of {p q : Program} {loose : List Str} {Xt : Shared → Bool} {α : Type} {Yf : Shared → α} {Ya : World → α} {N : Nat} (e : opening p = plainProg p.main.scope.names) (hN : Nat.ble 600 N = true) (f : ∀ s, fenceModules? p s = some s)
    (h : ∀ (w : World) (os : OsState), (topFrom treeTable p w N ⟨boot_heap w.params, #[], boot_drawn, boot_toks, os⟩).map (fun s => (openSeen q loose (importedModules p.main.body) Xt true s, Yf s)) = some (openGood q loose, Ya w)) : LeftO p q loose Xt Yf Ya N := fun w => by
  obtain ⟨⟨hh, gs, d, k, os⟩, e1, e2⟩ := Option.map_eq_some_iff.mp (boot_open e hN f w)
  cases e2
  unfold openEnds
  rw [e1]
  exact h w os
theorem as_ok (P : Params) : as39 = (heapB P).map (·.1) := by kernel_rfl
theorem left : LeftO PySem.Challenge.pw_lb0023_01 q loose (fun s => xlAt q [] s && recOk [] s) (kmHook heapB as39 as_ok [232, 225]).obs (kmHook heapB as39 as_ok [232, 225]).val 4156 :=
  left_of (by kernel_rfl) (by decide) (fun s => by kernel_rfl) top_ok
end Mine.hd
end
section
open PySem PySem.W PySem.W.X PySem.Calls PyProof.Rows
namespace Mine
section
def ov (l : List (Str × Value)) (m : Str → Option Value) : Str → Option Value := fun y => match l.lookup y with
  | some v => some v
  | none => m y
theorem rm0 {a b R : Nat} (h : a + b < R) : a < R := Nat.lt_of_le_of_lt (Nat.le_add_right a b) h
theorem rm {a b R : Nat} (h : a + b < R) (k : Nat) (hk : k ≤ b) : a + k < R := Nat.lt_of_le_of_lt (Nat.add_le_add_left hk a) h
theorem rm2 {x a j b R : Nat} (h2 : a + b < R) (h : x ≤ a + j) (k : Nat) (hk : j + k ≤ b) : x + k < R := Nat.lt_of_le_of_lt (Nat.le_trans (Nat.add_le_add_right h k) (Nat.le_trans (Nat.le_of_eq (Nat.add_assoc a j k)) (Nat.add_le_add_left hk a))) h2
theorem le_ad (a i j : Nat) (h : i ≤ j) : a + i ≤ a + j := Nat.add_le_add_left h a
theorem ne_ad (a i j : Nat) (h : i ≠ j) : @Ne Nat (a + i) (a + j) := fun e => h (Nat.add_left_cancel e)
theorem ne_hi {a L : Nat} (h : a < L) (k : Nat) : @Ne Nat (L + k) a := Nat.ne_of_gt (Nat.lt_of_lt_of_le h (Nat.le_add_right _ _))
def AllAt (m : Str → Option Value) : List (Str × Value) → Prop
  | [] => True
  | q :: r => m q.1 = some q.2 ∧ AllAt m r
theorem AllAt.get {m : Str → Option Value} : ∀ {l : List (Str × Value)}, AllAt m l → ∀ {y : Str} {v : Value}, l.lookup y = some v → m y = some v
  | [], _, _, _, e => by cases e
  | (x, u) :: r, ⟨h1, h2⟩, y, v, e => by
    rw [List.lookup_cons] at e
    cases hb : (y == x) with
    | true => rw [hb] at e; cases e; rw [beq_iff_eq.mp hb]; exact h1
    | false => rw [hb] at e; exact AllAt.get h2 e
theorem ov_eq {m : Str → Option Value} {l : List (Str × Value)} (h : AllAt m l) : ov l m = m := by
  funext y
  unfold ov
  cases e : l.lookup y with
  | none => rfl
  | some v => exact (h.get e).symm
theorem frOv {h₀ h : Heap} {L : Addr} {m : Str → Option Value} {l : List (Str × Value)} (F : Fr h₀ L h m) (e : AllAt m l) : Fr h₀ L h (ov l m) := by rw [ov_eq e]; exact F
def Ext (h h' : Heap) : Prop := ∀ b o, h.get? b = some o → h'.get? b = some o
theorem Ext.refl (h : Heap) : Ext h h := fun _ _ e => e
theorem Ext.trans {h h' h'' : Heap} (a : Ext h h') (b : Ext h' h'') : Ext h h'' := fun _ _ e => b _ _ (a _ _ e)
theorem memExt {h h' : Heap} {news : List (Addr × Obj)} (D : Mem h h' [] news) : Ext h h' := fun b o e => D.keep b o e (by simp [away])
theorem frExt {h₀ h h' : Heap} {L : Addr} {m : Str → Option Value} (F : Fr h₀ L h m) (e : Ext h h') : Fr h₀ L h' m := ⟨F.ns.keeps e, fun b o q => e _ _ (F.keep b o q), F.above⟩
theorem newsExt {h₀ h h' : Heap} {L : Addr} {news : List (Addr × Obj)} (N : News h₀ L h news) (e : Ext h h') : News h₀ L h' news := fun p hp => ⟨e _ _ (N p hp).1, (N p hp).2⟩
structure HQ (Q : Value → Shared → Prop) (v : Value) (s : Shared) : Prop where
  get : ∀ (h' : Heap) (tk : Nat), Ext s.heap h' → Q v { s with heap := h', toks := tk }
section
variable {prog : Program} {w : World} {A : Around} {s : Shared} {K : Frag} {Q E : Value → Shared → Prop}
  {name qual : Str} {params : Arguments} {body : List Stmt} {scope : Scope} {dV kV doc pm cdv ct oc : Value} {an od : Option Addr} {osl : Array (Option Value)} {f : Addr} {args : List Value} {binds : List (Str × Value)}
theorem enter (X : K.In s.heap) (hlim : s.heap.NoLimit)
    (ho : K.lookup f = some ⟨oc, od, .func (fnOf name qual params body scope dV kV doc pm an cdv ct), osl⟩) (hcd : codeIn K cdv qual = true) (hroom : A.depth < recursionLimit)
    (hbind : BindsTo s (fnOf name qual params body scope dV kV doc pm an cdv ct) ⟨args, []⟩ binds) (hloc : ∀ y ∈ binds, scope.names.lookup y.1 = some .local)
    (hcell : ∀ x ∈ scope.names, x.2 ≠ .cell) (hco : scope.isCoroutine = false) (hgen : scope.isGenerator = false) (hk : scope.kind = .function)
    (h : ∀ h₁, Fr s.heap s.heap.objs.size h₁ (fun y => binds.reverse.lookup y) → News s.heap s.heap.objs.size h₁ [] →
      wpAny (model prog w) (A.deeper (envOf qual scope s.heap.objs.size f cdv)) (execs body (envOf qual scope s.heap.objs.size f cdv))
        (fun fl s' => Q (match fl with | .ret v => v | _ => .none) s') (fun _ _ => False) { s with heap := h₁, toks := s.toks + binds.length }) :
    wpAny (model prog w) A (call (.ref f) args) Q E s := by
  refine wpAny_call (codeAny_call_def (fd := fnOf name qual params body scope dV kV doc pm an cdv ct) (body := body) (binds := binds) hroom (X _ _ ho) rfl hlim (codeRec_of X hcd) rfl hbind hcell hloc (fun h₁ hns hk₁ => ?_) hco hgen hk)
  refine wpAny_mono (h h₁ ⟨hns, hk₁, Nat.le_refl _⟩ (fun _ hp => nomatch hp)) (fun fl s' hq => ?_) fun _ _ hf => hf.elim
  exact hq
end
theorem nat_and_or (a b : Nat) : (a &&& b) + (a ||| b) = a + b := by
  have h : ∀ n : Nat, ∀ a b : Nat, a < 2 ^ n → b < 2 ^ n → (a &&& b) + (a ||| b) = a + b := by
    intro n
    induction n with
    | zero =>
      intro a b ha hb
      rw [Nat.lt_one_iff.mp ha, Nat.lt_one_iff.mp hb]; rfl
    | succ n ih =>
      intro a b ha hb
      have h1 := ih (a / 2) (b / 2) (Nat.div_lt_of_lt_mul (Nat.pow_succ' ▸ ha)) (Nat.div_lt_of_lt_mul (Nat.pow_succ' ▸ hb))
      have m : (a &&& b) % 2 + (a ||| b) % 2 = a % 2 + b % 2 := by
        have m1 := Nat.and_mod_two_pow (a := a) (b := b) (n := 1)
        have m2 := Nat.or_mod_two_pow (a := a) (b := b) (n := 1)
        rw [Nat.pow_one] at m1 m2
        rw [m1, m2]
        rcases Nat.mod_two_eq_zero_or_one a with h | h <;> rcases Nat.mod_two_eq_zero_or_one b with h' | h' <;> rw [h, h'] <;> rfl
      rw [← Nat.and_div_two, ← Nat.or_div_two] at h1
      rw [← Nat.div_add_mod (a &&& b) 2, ← Nat.div_add_mod (a ||| b) 2, Nat.add_add_add_comm, ← Nat.mul_add, h1, m, Nat.mul_add, Nat.add_add_add_comm, Nat.div_add_mod, Nat.div_add_mod]
  exact h (a + b) a b (Nat.lt_of_le_of_lt (Nat.le_add_right a b) Nat.lt_two_pow_self) (Nat.lt_of_le_of_lt (Nat.le_add_left b a) Nat.lt_two_pow_self)
theorem nat_xor_and (a b : Nat) : (a ^^^ b) + (a &&& b) = (a ||| b) := by
  have h : (a ^^^ b) &&& (a &&& b) = 0 := by
    apply Nat.eq_of_testBit_eq; intro i; simp
    cases a.testBit i <;> simp
  have h2 : (a ^^^ b) ||| (a &&& b) = a ||| b := by
    apply Nat.eq_of_testBit_eq; intro i; simp
    cases a.testBit i <;> cases b.testBit i <;> rfl
  have := nat_and_or (a ^^^ b) (a &&& b)
  rw [h, h2] at this
  omega
theorem bitAnd_nat (a b : Nat) : Builtin.bitAnd (a : Int) (b : Int) = ((a &&& b : Nat) : Int) := by
  rw [bitAnd_pp (by omega) (by omega)]; simp
theorem bitXor_nat (a b : Nat) : Builtin.bitXor (a : Int) (b : Int) = ((a ^^^ b : Nat) : Int) := by
  unfold Builtin.bitXor
  rw [bitOr_and, bitAnd_nat]
  have h1 := nat_and_or a b
  have h2 := nat_xor_and a b
  omega
section
variable {prog : Program} {w : World} {A : Around} {s : Shared} {Q E : Value → Shared → Prop} {x y : Int} {a b : Nat} {t u : Tok}
theorem xor_n (hx : x = (a : Int)) (hy : y = (b : Int)) (h : Q (.int ((a ^^^ b : Nat) : Int) s.toks) { s with toks := s.toks + 1 }) : wpAny (model prog w) A (binaryOp .BitXor (.int x t) (.int y u)) Q E s := by
  subst hx hy
  exact xor_int (by rw [bitXor_nat]; exact h)
theorem and_n (hx : x = (a : Int)) (hy : y = (b : Int)) (h : Q (.int ((a &&& b : Nat) : Int) s.toks) { s with toks := s.toks + 1 }) : wpAny (model prog w) A (binaryOp .BitAnd (.int x t) (.int y u)) Q E s := by
  subst hx hy
  exact and_int (by rw [bitAnd_nat]; exact h)
theorem shr_n (hx : x = (a : Int)) (hy : y = (b : Int)) (h : Q (.int ((a >>> b : Nat) : Int) s.toks) { s with toks := s.toks + 1 }) : wpAny (model prog w) A (binaryOp .RShift (.int x t) (.int y u)) Q E s := by
  subst hx hy
  refine rshift_int (by omega) ?_
  have e : ((a : Int).fdiv (2 ^ (b : Int).toNat)) = ((a >>> b : Nat) : Int) := by
    rw [Int.fdiv_eq_ediv_of_nonneg _ (Int.le_of_lt (kbt_pos _)), Int.toNat_natCast, Nat.shiftRight_eq_div_pow, ← kbt_cast]
    omega
  rw [e]; exact h
theorem shl_n (hx : x = (a : Int)) (hy : y = (b : Int)) {k : Nat} (ha : a < 2 ^ k) (hk : k ≤ 100000) (hb : b < 1000) (h : Q (.int ((a <<< b : Nat) : Int) s.toks) { s with toks := s.toks + 1 }) : wpAny (model prog w) A (binaryOp .LShift (.int x t) (.int y u)) Q E s := by
  subst hx hy
  refine lshift_int (by omega) ?_ ?_
  · have : Builtin.Int.intBits (a : Int) ≤ k := intBits_le_iff.mpr (by simpa using ha)
    have e : (2 : Int) ^ 27 = 134217728 := by decide
    rw [e]; omega
  · have e : ((a : Int) * 2 ^ (b : Int).toNat) = ((a <<< b : Nat) : Int) := by
      rw [Int.toNat_natCast, Nat.shiftLeft_eq, ← kbt_cast]; push_cast; rfl
    rw [e]; exact h
theorem add_n (hx : x = (a : Int)) (hy : y = (b : Int)) (h : Q (.int ((a + b : Nat) : Int) s.toks) { s with toks := s.toks + 1 }) : wpAny (model prog w) A (binaryOp .Add (.int x t) (.int y u)) Q E s := by
  subst hx hy
  exact add_int (by push_cast at h; exact h)
theorem mul_n (hx : x = (a : Int)) (hy : y = (b : Int)) {k l : Nat} (ha : a < 2 ^ k) (hk : k ≤ 100000) (hb : b < 2 ^ l) (hl : l ≤ 100000) (h : Q (.int ((a * b : Nat) : Int) s.toks) { s with toks := s.toks + 1 }) : wpAny (model prog w) A (binaryOp .Mult (.int x t) (.int y u)) Q E s := by
  subst hx hy
  refine mul_int (by push_cast at h; exact h) ?_
  have h1 : Builtin.Int.intBits (a : Int) ≤ k := intBits_le_iff.mpr (by simpa using ha)
  have h2 : Builtin.Int.intBits (b : Int) ≤ l := intBits_le_iff.mpr (by simpa using hb)
  unfold IntMulOk Builtin.Int.intTooBig
  have e : bitsLine = 134217728 := by decide
  simp only [Bool.and_eq_true, decide_eq_true_eq, e]
  omega
theorem fdiv_n (hx : x = (a : Int)) (hy : y = (b : Int)) (hb : 0 < b) (hb2 : b < 1073741824) (h : Q (.int ((a / b : Nat) : Int) s.toks) { s with toks := s.toks + 1 }) : wpAny (model prog w) A (binaryOp .FloorDiv (.int x t) (.int y u)) Q E s := by
  subst hx hy
  refine floordiv_int (by omega) ?_ (.inl ?_)
  · have e : (a : Int).fdiv (b : Int) = ((a / b : Nat) : Int) := by rw [Int.fdiv_eq_ediv_of_nonneg _ (by omega)]; omega
    rw [e]; exact h
  · exact PyProof.noPylong_small (by omega)
theorem mod_n (hx : x = (a : Int)) (hy : y = (b : Int)) (hb : 0 < b) (h : Q (.int ((a % b : Nat) : Int) s.toks) { s with toks := s.toks + 1 }) : wpAny (model prog w) A (binaryOp .Mod (.int x t) (.int y u)) Q E s := by
  subst hx hy
  refine mod_int (by omega) ?_
  have e : (a : Int).fmod (b : Int) = ((a % b : Nat) : Int) := by rw [Int.fmod_eq_emod_of_nonneg _ (by omega)]; omega
  rw [e]; exact h
theorem gt_n (hx : x = (a : Int)) (hy : y = (b : Int)) (h : Q (.bool (decide (b < a))) s) : wpAny (model prog w) A (compareOp .Gt (.int x t) (.int y u)) Q E s := by
  subst hx hy
  exact gt_int (by simpa using h)
theorem lt_n (hx : x = (a : Int)) (hy : y = (b : Int)) (h : Q (.bool (decide (a < b))) s) : wpAny (model prog w) A (compareOp .Lt (.int x t) (.int y u)) Q E s := by
  subst hx hy
  exact lt_int (by simpa using h)
theorem eq_n (hx : x = (a : Int)) (hy : y = (b : Int)) (h : Q (.bool (decide (a = b))) s) : wpAny (model prog w) A (compareOp .Eq (.int x t) (.int y u)) Q E s := by
  subst hx hy
  refine eq_int ?_
  have e : ((a : Int) == (b : Int)) = decide (a = b) := by
    by_cases h : a = b
    · simp [h]
    · have : (a : Int) ≠ (b : Int) := by omega
      rw [decide_eq_false h]; exact beq_false_of_ne this
  rw [e]; exact h
theorem ne_n (hx : x = (a : Int)) (hy : y = (b : Int)) (h : Q (.bool (decide (a ≠ b))) s) : wpAny (model prog w) A (compareOp .NotEq (.int x t) (.int y u)) Q E s := by
  subst hx hy
  refine ne_int ?_
  have e : ((a : Int) != (b : Int)) = decide (a ≠ b) := by
    by_cases h : a = b
    · simp [h]
    · have : (a : Int) ≠ (b : Int) := by omega
      rw [decide_eq_true h]; exact bne_iff_ne.mpr this
  rw [e]; exact h
theorem shl_z (hx : x = (a : Int)) (h0 : 0 ≤ y) (hb : y < 1000) {k : Nat} (ha : a < 2 ^ k) (hk : k ≤ 100000) (h : Q (.int ((a <<< y.toNat : Nat) : Int) s.toks) { s with toks := s.toks + 1 }) : wpAny (model prog w) A (binaryOp .LShift (.int x t) (.int y u)) Q E s := by
  obtain ⟨n, rfl⟩ := Int.eq_ofNat_of_zero_le h0
  exact shl_n hx rfl ha hk (by omega) h
theorem pow_n (hx : x = (a : Int)) (hy : y = (b : Int)) (ha : a < 2 ^ 63) (hb : b ≤ 1000) (h : Q (.int ((a ^ b : Nat) : Int) s.toks) { s with toks := s.toks + 1 }) : wpAny (model prog w) A (binaryOp .Pow (.int x t) (.int y u)) Q E s := by
  subst hx hy
  refine pow_int_small (by omega) (by omega) (by simp; omega) ?_
  have e : ((a : Int) ^ (b : Int).toNat) = ((a ^ b : Nat) : Int) := by rw [Int.toNat_natCast]; push_cast; rfl
  rw [e]; exact h
theorem mod_z (hy : y = (b : Int)) (hb : 0 < b) (h : Q (.int (((x % (b : Int)).toNat : Nat) : Int) s.toks) { s with toks := s.toks + 1 }) : wpAny (model prog w) A (binaryOp .Mod (.int x t) (.int y u)) Q E s := by
  subst hy
  refine mod_int (by omega) ?_
  have h0 : 0 ≤ x % (b : Int) := Int.emod_nonneg _ (by omega)
  have e : x.fmod (b : Int) = (((x % (b : Int)).toNat : Nat) : Int) := by rw [Int.fmod_eq_emod_of_nonneg _ (by omega)]; omega
  rw [e]; exact h
theorem sub_n (hx : x = (a : Int)) (hy : y = (b : Int)) (hab : b ≤ a) (h : Q (.int ((a - b : Nat) : Int) s.toks) { s with toks := s.toks + 1 }) : wpAny (model prog w) A (binaryOp .Sub (.int x t) (.int y u)) Q E s := by
  subst hx hy
  refine sub_int ?_
  have e : (a : Int) - (b : Int) = ((a - b : Nat) : Int) := by omega
  rw [e]; exact h
end
theorem sAdd {a b c : Nat} (h : b ≤ c) : a + b ≤ a + c := Nat.add_le_add_left h a
theorem rq {a b R : Nat} (k : Nat) (h : a + b < R := by assumption) (hk : k ≤ b := by decide) : a + k < R := rm h k hk
theorem rq2 {x a j b R : Nat} (k : Nat) (h2 : a + b < R := by assumption) (h : x ≤ a + j := by assumption) (hk : j + k ≤ b := by decide) : x + k < R := rm2 h2 h k hk
theorem me (i : Nat) {α : Type} {l : List α} {a : α} (h : l[i]? = some a) : a ∈ l := List.mem_of_getElem? h
theorem boxed {P : Prop} (h : ∀ G : Prop, (P → G) → G) : P := h P id
theorem genQ {α : Type} {M : Model} {A : Around} {t : Sem α} {Q : α → Shared → Prop} {E : Value → Shared → Prop} {s : Shared} (h : ∀ Q' : α → Shared → Prop, (∀ a s', Q a s' → Q' a s') → wpAny M A t Q' E s) : wpAny M A t Q E s := h Q fun _ _ x => x
theorem upto {a b R : Nat} (h : a + b < R) (c : Nat) (hc : c ≤ b := by decide) : ∀ k, k ≤ c → a + k < R := fun k hk => rm h k (Nat.le_trans hk hc)
theorem neg_toNat (a b : Nat) : (-((a : Int) - (b : Int))).toNat = b - a := by rw [Int.neg_sub]; exact Int.toNat_sub _ _
theorem toNat0 (n : Nat) : n = ((n : Int) - 0).toNat := by rw [Int.sub_zero]; rfl
theorem emod_toNat_lt (x : Int) {c : Nat} (hc : 0 < c) : (x % (c : Int)).toNat < c := by
  have h2 := Int.emod_lt_of_pos x (show (0 : Int) < (c : Int) by omega)
  omega
theorem small_nat {k : Nat} (h : k ≤ 1000) : -1000 ≤ (k : Int) ∧ (k : Int) ≤ 1000 := ⟨Int.le_trans (by decide) (Int.natCast_nonneg k), Int.ofNat_le.mpr h⟩
theorem nu1 {a : Nat} : @Ne Nat a (a + 1) := Nat.ne_of_lt (Nat.lt_succ_self _)
theorem nu2 {a : Nat} : @Ne Nat a (a + 1 + 1) := fun h => nu1 (a := a) (by omega)
theorem ne_s {a b : Nat} (h : @Ne Nat a b) : @Ne Nat (a + 1) (b + 1) := fun e => h (Nat.succ.inj e)
theorem sAdd2 {x a b c : Nat} (h : a + b ≤ c) : x + a + b ≤ x + c := Nat.le_trans (Nat.le_of_eq (Nat.add_assoc x a b)) (Nat.add_le_add_left h x)
theorem fmc {α : Type} {p : α → Prop} {a : α} {l : List α} (h : p a) (k : ∀ x ∈ l, p x) : ∀ x ∈ a :: l, p x := List.forall_mem_cons.mpr ⟨h, k⟩
theorem fma {α : Type} {p : α → Prop} {a l : List α} (h : ∀ x ∈ a, p x) (k : ∀ x ∈ l, p x) : ∀ x ∈ a ++ l, p x := List.forall_mem_append.mpr ⟨h, k⟩
end
section
abbrev P1 : Program := PySem.Challenge.rw_lb0023_01.row.prog
theorem fillme (w : World) : PySem.Challenge.rw_lb0023_01.foot = PySem.Challenge.rw_lb0023_01.foot ∧ ((hd.heap_39 w.params).lookup 0 = (hd.heap_39 w.params).lookup 0) := by
  w_top off
  k_fill
  exact ⟨rfl, rfl⟩
abbrev tp (dp : Nat) (fr : Option (List Env)) (gd : Option (List Code)) (un : Nat) : Around := { handled := none, depth := dp, frames := fr, guards := gd, units := un }
structure Cx (w : World) (p : Program) (loose : List Str) (mean : ExcName → Option Value) (mg mb : Str → Option Value) (dp un : Nat) (h : Heap) : Prop where
  X : (hd.heap_39 w.params).In h
  T : Top p loose mean mg mb h
  hd : dp < recursionLimit
  hu : un < cLine
theorem natlit (n : Nat) : (@OfNat.ofNat Int n _) = ((@OfNat.ofNat Nat n (instOfNatNat n) : Nat) : Int) := rfl
end
section
def Apart (I : Addr) (news : List (Addr × Obj)) : Prop := ∀ p ∈ news, p.1 ≠ I
theorem Apart.of {I : Addr} {n n' : List (Addr × Obj)} (a : Apart I n) (e : n'.map (·.1) = n.map (·.1)) : Apart I n' := fun p hp => by
  have : p.1 ∈ n.map (·.1) := e ▸ List.mem_map_of_mem hp
  obtain ⟨q, hq, e'⟩ := List.mem_map.mp this
  rw [← e']; exact a q hq
end
section
def LoopOn (prog : Program) (w : World) (A : Around) (target : Expr) (body : List Stmt) (env : Env) (Q : Flow → Shared → Prop) (E : Value → Shared → Prop) (x : Value) (s₁ : Shared) : Prop :=
  wpAny (model prog w) A (pyIter x) (fun it s₂ => codeAny (model prog w) A (.forLoop target it body [] env) (fun r s' => match r with | .ok f => Q f s' | .error e => cameBackBy (model prog w) A env E e s') s₂) E s₁
section
variable {prog : Program} {w : World} {A : Around} {s : Shared} {E : Value → Shared → Prop} {g : Heap} {L l : Addr} {env : Env} {m : Str → Option Value} {news : List (Addr × Obj)} {target iter : Expr} {body : List Stmt} {pos : Pos} {Q : Flow → Shared → Prop}
theorem for_on (h : wpAny (model prog w) A (eval iter env) (LoopOn prog w A target body env Q E) E s) (hs : ∀ x, foldedSetIterable iter env x = pure x := by intro _; rfl) :
    wpAny (model prog w) A (exec (.For target iter body [] pos) env) Q E s := wpAny_For h hs
def Turned (Q : Flow → Shared → Prop) (s : Shared) (g : Heap) (L I : Addr) (oI : Obj) (J : (Str → Option Value) → List (Addr × Obj) → Array GenState → Drawn → Prop) (f : Flow) (s₃ : Shared) : Prop := match f with
  | .next | .cont => ∃ h tk gs dr m₂ news₂, s₃ = { s with heap := h, toks := tk, gens := gs, drawn := dr } ∧ Fr g L h m₂ ∧ News g L h ((I, oI) :: news₂) ∧ Apart I news₂ ∧ J m₂ news₂ gs dr
  | .brk => Q .next s₃
  | .ret v => Q (.ret v) s₃
inductive AtHead (g : Heap) (s : Shared) (L I : Addr) (n : Nat) (St : Nat → Heap → Prop) (J : Nat → (Str → Option Value) → List (Addr × Obj) → Array GenState → Drawn → Prop) (k : Nat) (s' : Shared) : Prop
  | mk (h : Heap) (tk : Nat) (gs : Array GenState) (dr : Drawn) (m₁ : Str → Option Value) (news₁ : List (Addr × Obj)) (oI : Obj) (i : Nat) (hs : s' = { s with heap := h, toks := tk, gens := gs, drawn := dr }) (F₁ : Fr g L h m₁) (N₁ : News g L h ((I, oI) :: news₁)) (ap : Apart I news₁) (hS : St i h) (hJ : J i m₁ news₁ gs dr) (hi : i ≤ n) (hk : k = n + 1 - i)
theorem loop_WS {I : Addr} {fp : List Addr} {n : Nat} {P : Nat → Value → Prop} {St : Nat → Heap → Prop} (W : Walks prog w A I fp [I] n P St) (J : Nat → (Str → Option Value) → List (Addr × Obj) → Array GenState → Drawn → Prop) {oI₀ : Obj}
    (hst : St 0 s.heap) (F : Fr g L s.heap m) (N : News g L s.heap ((I, oI₀) :: news)) (ap : Apart I news) (hL : env.locals = L) (J0 : J 0 m news s.gens s.drawn)
    (hSt : ∀ i h h' o m n gs dr, St i h → h.get? I = some o → h'.get? I = some o → J i m n gs dr → Fr g L h' m → News g L h' n → St i h')
    (hIo : ∀ i h, St i h → ∃ o, h.get? I = some o)
    (turn : ∀ (E' : Value → Shared → Prop) i v m₁ news₁ gs₁ dr₁ h₁ tk₁ oI, i < n → P i v → St (i + 1) h₁ → J i m₁ news₁ gs₁ dr₁ → Apart I news₁ → Fr g L h₁ m₁ → News g L h₁ ((I, oI) :: news₁) →
      wpAny (model prog w) A (letOwnedTupleGo target (.ref I) v) (fun _ s₁' => wpAny (model prog w) A (assign target env v) (fun _ s₂ => wpAny (model prog w) A (execs body env) (Turned Q s g L I oI (J (i + 1))) E' s₂) E' s₁') E' { s with heap := h₁, toks := tk₁, gens := gs₁, drawn := dr₁ })
    (done : ∀ h tk gs dr m₁ news₁, Fr g L h m₁ → News g L h news₁ → J n m₁ news₁ gs dr → Q .next { s with heap := h, toks := tk, gens := gs, drawn := dr }) :
    codeAny (model prog w) A (.forLoop target (.ref I) body [] env) (fun r s' => match r with | .ok f => Q f s' | .error e => cameBackBy (model prog w) A env E e s') s := by
  subst hL
  have hIL : I ≠ env.locals := (N _ (.head _)).2.1
  have hIg : g.get? I = none := (N _ (.head _)).2.2
  refine codeAny_forLoop_any (AtHead g s env.locals I n St J) ?_ (n + 1)
    ⟨s.heap, s.toks, s.gens, s.drawn, m, news, oI₀, 0, rfl, F, N, ap, hst, J0, Nat.zero_le _, rfl⟩
  rintro k s' ⟨h, tk, gs, dr, m₁, news₁, oI, i, rfl, F₁, N₁, ap, hS, hJ, hi, rfl⟩
  have next : ∀ h₁ : Heap, (∀ b o, b ∉ [I] → h.get? b = some o → h₁.get? b = some o) → Fr g env.locals h₁ m₁ ∧ News g env.locals h₁ news₁ := fun h₁ hk₁ =>
    ⟨⟨F₁.ns.at' fun o e => hk₁ _ o (by simpa using Ne.symm hIL) e, fun b o e => hk₁ b o (by rw [List.mem_singleton]; rintro rfl; rw [hIg] at e; cases e) (F₁.keep b o e), F₁.above⟩, fun p hp => ⟨hk₁ _ _ (by simpa using ap p hp) (N₁ p (.tail _ hp)).1, (N₁ p (.tail _ hp)).2⟩⟩
  by_cases hlt : i < n
  · refine W.item i _ _ _ hlt hS fun v h₁ tk₁ hP hst₁ hk₁ => (hIo _ _ hst₁).elim fun oI' eI' => ?_
    refine wpAny_mono (turn _ i v m₁ news₁ gs dr h₁ tk₁ oI' hlt hP hst₁ hJ ap (next h₁ hk₁).1 (fmc (⟨eI', hIL, hIg⟩) ((next h₁ hk₁).2))) (fun _ s₁ h₁ => wpAny_mono h₁ (fun _ s₂ h₂ => wpAny_mono h₂ (fun f s₃ h₃ => ?_) fun _ _ e => e) fun _ _ e => e) fun _ _ e => e
    have fin : (∃ h tk gs dr m₂ news₂, s₃ = { s with heap := h, toks := tk, gens := gs, drawn := dr } ∧ Fr g env.locals h m₂ ∧ News g env.locals h ((I, oI') :: news₂) ∧ Apart I news₂ ∧ J (i + 1) m₂ news₂ gs dr) →
        ∃ m, m < n + 1 - i ∧ AtHead g s env.locals I n St J m s₃ := fun ⟨h₄, tk₄, gs₄, dr₄, m₄, n₄, e₄, F₄, N₄, ap₄, J₄⟩ =>
      ⟨n + 1 - (i + 1), Nat.sub_lt_sub_left (Nat.lt_succ_of_lt hlt) (Nat.lt_succ_self i), h₄, tk₄, gs₄, dr₄, m₄, n₄, oI', i + 1, e₄, F₄, N₄, ap₄, hSt _ _ _ _ _ _ _ _ hst₁ eI' (N₄ _ (.head _)).1 J₄ F₄ (fun p hp => N₄ p (.tail _ hp)), J₄, hlt, rfl⟩
    cases f with
    | next => exact fin h₃
    | cont => exact fin h₃
    | brk => exact h₃
    | ret v => exact h₃
  · have hie : i = n := Nat.le_antisymm hi (Nat.le_of_not_lt hlt)
    subst hie
    exact W.done _ _ _ hS fun h₁ tk₁ hk₁ => wpAny_pure (done _ _ _ _ _ news₁ (next h₁ hk₁).1 (next h₁ hk₁).2 hJ)
theorem loop_W {I : Addr} {fp : List Addr} {n : Nat} {P : Nat → Value → Prop} {St : Nat → Heap → Prop} (W : Walks prog w A I fp [I] n P St) (J : Nat → (Str → Option Value) → List (Addr × Obj) → Array GenState → Drawn → Prop) {oI₀ : Obj}
    (hst : St 0 s.heap) (F : Fr g L s.heap m) (N : News g L s.heap ((I, oI₀) :: news)) (ap : Apart I news) (hL : env.locals = L) (J0 : J 0 m news s.gens s.drawn)
    (hSt : ∀ i h h' o m n gs dr, St i h → h.get? I = some o → h'.get? I = some o → J i m n gs dr → Fr g L h' m → News g L h' n → St i h')
    (hIo : ∀ i h, St i h → ∃ o, h.get? I = some o)
    (turn : ∀ (E' : Value → Shared → Prop) i v m₁ news₁ gs₁ dr₁ h₁ tk₁ oI, i < n → P i v → J i m₁ news₁ gs₁ dr₁ → Apart I news₁ → Fr g L h₁ m₁ → News g L h₁ ((I, oI) :: news₁) →
      wpAny (model prog w) A (letOwnedTupleGo target (.ref I) v) (fun _ s₁' => wpAny (model prog w) A (assign target env v) (fun _ s₂ => wpAny (model prog w) A (execs body env) (Turned Q s g L I oI (J (i + 1))) E' s₂) E' s₁') E' { s with heap := h₁, toks := tk₁, gens := gs₁, drawn := dr₁ })
    (done : ∀ h tk gs dr m₁ news₁, Fr g L h m₁ → News g L h news₁ → J n m₁ news₁ gs dr → Q .next { s with heap := h, toks := tk, gens := gs, drawn := dr }) :
    codeAny (model prog w) A (.forLoop target (.ref I) body [] env) (fun r s' => match r with | .ok f => Q f s' | .error e => cameBackBy (model prog w) A env E e s') s :=
  loop_WS W J hst F N ap hL J0 hSt hIo (fun E' i v m₁ news₁ gs₁ dr₁ h₁ tk₁ oI a b _ => turn E' i v m₁ news₁ gs₁ dr₁ h₁ tk₁ oI a b) done
theorem newsI {h : Heap} {o : Obj} (F : Fr g L h m) (N : News g L h news) : News g L (h.push o) ((h.objs.size, o) :: news) ∨ o.isFreed = true := by
  by_cases hf : o.isFreed = true
  · exact .inr hf
  · refine .inl fun p hp => ?_
    rcases List.mem_cons.mp hp with rfl | hp
    · refine ⟨Heap.get?_push_size _ (by simpa using hf), Nat.ne_of_gt F.ns.lt, ?_⟩
      cases q : g.get? h.objs.size with
      | none => rfl
      | some o => exact absurd (Heap.lt_size (F.keep _ _ q)) (Nat.lt_irrefl _)
    · exact ⟨Heap.get?_push_of_some _ (N p hp).1, (N p hp).2⟩
theorem newsI' {h : Heap} {o : Obj} (F : Fr g L h m) (N : News g L h news) (hf : o.isFreed = false) : News g L (h.push o) ((h.objs.size, o) :: news) := by
  rcases newsI (o := o) F N with h | h
  · exact h
  · rw [hf] at h; cases h
def TurnOn (prog : Program) (w : World) (A : Around) (target : Expr) (body : List Stmt) (env : Env) (Q : Flow → Shared → Prop) (s : Shared) (g : Heap) (L : Addr) (news : List (Addr × Obj)) (n : Nat) (P : Nat → Value → Prop) (J : Nat → (Str → Option Value) → List (Addr × Obj) → Array GenState → Drawn → Prop) : Prop :=
  ∀ (E' : Value → Shared → Prop) (T : Flow → Shared → Prop) i v m₁ news₁ gs₁ dr₁ h₁ tk₁ I oI, i < n → P i v → J i m₁ news₁ gs₁ dr₁ → Apart I news₁ → (∀ p ∈ news, p.1 < I) → L < I → Fr g L h₁ m₁ → News g L h₁ ((I, oI) :: news₁) → (∀ f s', Turned Q s g L I oI (J (i + 1)) f s' → T f s') →
      wpAny (model prog w) A (letOwnedTupleGo target (.ref I) v) (fun _ s₁' => wpAny (model prog w) A (assign target env v) (fun _ s₂ => wpAny (model prog w) A (execs body env) T E' s₂) E' s₁') E' { s with heap := h₁, toks := tk₁, gens := gs₁, drawn := dr₁ }
def DoneOn (Q : Flow → Shared → Prop) (s : Shared) (g : Heap) (L : Addr) (J : (Str → Option Value) → List (Addr × Obj) → Array GenState → Drawn → Prop) : Prop :=
  ∀ h tk gs dr m₁ news₁, Fr g L h m₁ → News g L h news₁ → J m₁ news₁ gs dr → Q .next { s with heap := h, toks := tk, gens := gs, drawn := dr }
theorem loop_list {items : List Value} (J : Nat → (Str → Option Value) → List (Addr × Obj) → Array GenState → Drawn → Prop) (hh : A.handled = none) (F : Fr g L s.heap m) (N : News g L s.heap news)
    (lJ : ∀ i m₁ n₁ gs₁ dr₁ h₁, J i m₁ n₁ gs₁ dr₁ → Fr g L h₁ m₁ → News g L h₁ n₁ → h₁.IsList l items.toArray) (hL : env.locals = L) (J0 : J 0 m news s.gens s.drawn)
    (turn : TurnOn prog w A target body env Q s g L news items.length (fun i v => items[i]? = some v) J) (done : DoneOn Q s g L (J items.length)) :
    LoopOn prog w A target body env Q E (.ref l) s := by
  have hl := lJ 0 m news s.gens s.drawn s.heap J0 F N
  have hlt : l < s.heap.objs.size := by obtain ⟨_, e, _⟩ := hl; exact Heap.lt_size e
  refine wpAny_pyIter_list hl ?_
  have W := Walks.list (prog := prog) (w := w) hh s.heap.objs.size l (Nat.ne_of_lt hlt) items.toArray
  rw [show items.toArray.size = items.length from List.size_toArray] at W
  refine loop_W W J ⟨⟨_, Heap.get?_push_size _ rfl, rfl, rfl⟩, hl.push _⟩ (F.push _) (newsI' F N rfl) (fun p hp => Nat.ne_of_lt (Heap.lt_size (N p hp).1)) hL J0 ?_ (fun i h st => by obtain ⟨o, e, _⟩ := st.1; exact ⟨o, e⟩) ?_ ?_
  · intro i h h' o m n gs dr st e e' hJ F' N'
    exact ⟨by obtain ⟨o', q, r⟩ := st.1; rw [e] at q; cases q; exact ⟨o, e', r⟩, lJ i m n gs dr h' hJ F' N'⟩
  · intro E' i v m₁ news₁ gs₁ dr₁ h₁ tk₁ oI hi hP hJ ap F₁ N₁
    exact turn E' _ i v m₁ news₁ gs₁ dr₁ h₁ tk₁ s.heap.objs.size oI hi (by simpa using hP) hJ ap (fun p hp => Heap.lt_size (N p hp).1) F.ns.lt F₁ N₁ fun _ _ x => x
  · intro h tk gs dr m₁ news₁ F₁ N₁ hJ
    exact done h tk gs dr m₁ news₁ F₁ N₁ hJ
theorem for_list {iter : Expr} {pos : Pos} {items : Array Value} (J : Nat → (Str → Option Value) → List (Addr × Obj) → Array GenState → Prop)
    (hh : A.handled = none) (F : Fr g L s.heap m) (N : News g L s.heap news) (lG : g.IsList l items) (hL : env.locals = L) (J0 : J 0 m news s.gens)
    (hiter : wpAny (model prog w) A (eval iter env) (fun v s₁ => v = .ref l ∧ s₁ = s) E s)
    (turn : TurnOn prog w A target body env Q s g L news items.size (fun i v => items[i]? = some v) (fun i m n gs dr => J i m n gs ∧ dr = s.drawn))
    (done : ∀ h tk gs m₁ news₁, Fr g L h m₁ → News g L h news₁ → J items.size m₁ news₁ gs → Q .next { s with heap := h, toks := tk, gens := gs })
    (hs : ∀ x, foldedSetIterable iter env x = pure x := by intro _; rfl) :
    wpAny (model prog w) A (exec (.For target iter body [] pos) env) Q E s := by
  refine for_on (wpAny_mono hiter (fun v s₁ e => ?_) fun _ _ e => e) hs
  obtain ⟨rfl, rfl⟩ := e
  cases items with | mk items =>
  refine loop_list (items := items) (fun i m n gs dr => J i m n gs ∧ dr = s₁.drawn) hh F N (fun _ _ _ _ _ _ _ F₁ _ => lG.at fun o e => F₁.keep _ o e) hL ⟨J0, rfl⟩ (fun E' T i v m₁ n₁ gs₁ dr₁ h₁ tk₁ I oI hi hP => turn E' T i v m₁ n₁ gs₁ dr₁ h₁ tk₁ I oI hi (by simpa using hP)) fun h tk gs dr m₁ n₁ F₁ N₁ hJ => ?_
  rw [hJ.2]
  exact done _ _ _ _ _ F₁ N₁ hJ.1
theorem loop_range {r : Addr} {a b c : Int} {t u v : Tok} {n : Nat} (J : Nat → (Str → Option Value) → List (Addr × Obj) → Array GenState → Drawn → Prop) (hh : A.handled = none) (F : Fr g L s.heap m) (N : News g L s.heap news)
    (hr : IsRange s.heap r a b c t u v) (hsm : Builtin.Range.small a b c = true) (hn : Builtin.Range.rangeSize a b c = (n : Int)) (hL : env.locals = L) (J0 : J 0 m news s.gens s.drawn)
    (turn : TurnOn prog w A target body env Q s g L news n (fun i v => ∃ t, v = .int (a + i * c) t) J) (done : DoneOn Q s g L (J n)) :
    LoopOn prog w A target body env Q E (.ref r) s := by
  refine wpAny_pyIter_range hr hsm ?_
  have W := Walks.range (prog := prog) (w := w) hh s.heap.objs.size a c n
  refine loop_W W J (by show IsRangeIter _ _ (a + ((0 : Nat) : Int) * c) ((n : Int) - ((0 : Nat) : Int)) c; rw [hn]; simpa using Heap.get?_push_size _ rfl) (F.push _) (newsI' F N rfl) (fun p hp => Nat.ne_of_lt (Heap.lt_size (N p hp).1)) hL J0 ?_ (fun i h st => ⟨_, st⟩) ?_ ?_
  · intro i h h' o m n gs dr st e e' hJ F' N'
    have st' : h.get? s.heap.objs.size = some _ := st
    show h'.get? s.heap.objs.size = some _
    rw [e', ← e]; exact st'
  · intro E' i v m₁ news₁ gs₁ dr₁ h₁ tk₁ oI hi hP hJ ap F₁ N₁
    exact turn E' _ i v m₁ news₁ gs₁ dr₁ h₁ tk₁ s.heap.objs.size oI hi hP hJ ap (fun p hp => Heap.lt_size (N p hp).1) F.ns.lt F₁ N₁ fun _ _ x => x
  · intro h tk gs dr m₁ news₁ F₁ N₁ hJ
    exact done h tk gs dr m₁ news₁ F₁ N₁ hJ
theorem loop_range1 {r : Addr} {a b : Int} {t u v : Tok} {n : Nat} (J : Nat → (Str → Option Value) → List (Addr × Obj) → Array GenState → Drawn → Prop) (hh : A.handled = none) (F : Fr g L s.heap m) (N : News g L s.heap news)
    (hr : IsRange s.heap r a b 1 t u v) (ha : -1000 ≤ a ∧ a ≤ 1000) (hb : -1000 ≤ b ∧ b ≤ 1000) (hn : n = (b - a).toNat) (hL : env.locals = L) (J0 : J 0 m news s.gens s.drawn)
    (turn : TurnOn prog w A target body env Q s g L news n (fun i v => ∃ t, v = .int (a + i) t) J) (done : DoneOn Q s g L (J n)) :
    LoopOn prog w A target body env Q E (.ref r) s := by
  subst hn
  refine loop_range (n := (b - a).toNat) J hh F N hr (small_one (by omega) (by omega) (by omega) (by omega)) (by rw [rangeSize_one]; split <;> omega) hL J0 ?_ done
  intro E' T i v m₁ news₁ gs₁ dr₁ h₁ tk₁ I oI hi hP hJ ap hlt hLI F₁ N₁ hT
  obtain ⟨t, rfl⟩ := hP
  exact turn E' T i _ m₁ news₁ gs₁ dr₁ h₁ tk₁ I oI hi ⟨t, by rw [Int.mul_one]⟩ hJ ap hlt hLI F₁ N₁ hT
end
end
section
def toB (n x : Nat) : Array UInt8 := ((List.range n).map fun i => (x / 256 ^ (n - 1 - i) % 256).toUInt8).toArray
def ofB (b : Array UInt8) : Nat := b.toList.foldl (fun a c => a * 256 + c.toNat) 0
theorem toB_size (n x : Nat) : (toB n x).size = n := by simp [toB]
theorem u8_nat (n : Nat) : (n % 256).toUInt8.toNat = n % 256 := by
  show (UInt8.ofNat (n % 256)).toNat = n % 256
  rw [UInt8.toNat_ofNat']; omega
theorem toB_get {n x i : Nat} (h : i < n) : ((toB n x).toList.getD i 0).toNat = x / 256 ^ (n - 1 - i) % 256 := by
  simp [toB, h]
theorem low_rev {n x : Nat} (hx : x < 256 ^ n) : (KTBy.low (x : Int) n).reverse = (toB n x).toList := by
  have e1 := KTBy.low_ints (x := (x : Int)) (n := n) (by omega) (by rw [KTBy.p256]; exact Int.ofNat_lt.mpr hx)
  have e2 : (KTBy.low (x : Int) n).map UInt8.toNat = (List.range n).map fun i => x / 256 ^ i % 256 := by
    have := congrArg (List.map Int.toNat) e1
    rw [List.map_map, List.map_map] at this
    refine Eq.trans ?_ (this.trans ?_)
    · exact List.map_congr_left fun c _ => by simp
    · refine List.map_congr_left fun i _ => ?_
      show ((x : Int) / 256 ^ i % 256).toNat = _
      rw [KTBy.p256]
      have : ((x : Int) / ((256 ^ i : Nat) : Int) % 256) = ((x / 256 ^ i % 256 : Nat) : Int) := by push_cast; rfl
      rw [this]; rfl
  have hl : (KTBy.low (x : Int) n).length = n := KTBy.low_length _ _
  refine List.ext_getElem (by rw [List.length_reverse, hl, Array.length_toList, toB_size]) fun i h1 h2 => ?_
  rw [List.length_reverse, hl] at h1
  refine UInt8.toNat_inj.mp ?_
  rw [List.getElem_reverse]
  have h3 : (KTBy.low (x : Int) n).length - 1 - i < ((KTBy.low (x : Int) n).map UInt8.toNat).length := by rw [List.length_map]; omega
  have e3 : ((KTBy.low (x : Int) n)[(KTBy.low (x : Int) n).length - 1 - i]'(by omega)).toNat = x / 256 ^ (n - 1 - i) % 256 := by
    have e4 : ((KTBy.low (x : Int) n).map UInt8.toNat)[n - 1 - i]? = some (x / 256 ^ (n - 1 - i) % 256) := by
      rw [e2, List.getElem?_map, List.getElem?_range (by omega)]; rfl
    rw [List.getElem?_map, List.getElem?_eq_getElem (by omega)] at e4
    simp only [Option.map_some, Option.some.injEq] at e4
    simp only [hl]; exact e4
  rw [e3]
  simp [toB]
section
variable {prog : Program} {w : World} {A : Around} {E : Value → Shared → Prop} {s : Shared}
theorem to_bytes_n {n x : Nat} {z y : Int} {t u v : Tok} {Q : Value → Shared → Prop} (hz : z = (x : Int)) (hy : y = (n : Int)) (hn : n ≤ 100) (hx : x < 256 ^ n) (h : ∀ t' k', Q (.bytes (toB n x) t') { s with toks := k' }) :
    wpAny (model prog w) A (call (.builtin "int.to_bytes") [.int z t, .int y u, .str (Str.ofString "big") v]) Q E s := by
  subst hz hy
  refine wpAny_call_entry KTBy.slot (typeIs_int s (x : Int) t) KTBy.entry ?_ (KTBy.args _ _ _)
  have hb : Builtin.Int.intBits (x : Int) ≤ 8 * n := by
    refine intBits_le_iff.mpr ?_
    have e2 : (2 : Nat) ^ 8 = 256 := by decide
    rw [Nat.pow_mul, e2, Int.natAbs_natCast]; exact hx
  generalize hxz : (x : Int) = zx
  show wpAny _ _ (Builtin.Int.intOfSelf (.int zx t) >>= fun y => _) _ _ s
  refine wpAny_bind (wpAny_of_eq (a := zx) rfl ?_)
  show wpAny _ _ (Builtin.Int.intBindNamed "to_bytes" ["length", "byteorder", "signed"] 0 2 [.int (n : Int) u, .str (Str.ofString "big") v] [] >>= fun l => _) _ _ s
  refine wpAny_bind (wpAny_of_eq (a := [some (.int (n : Int) u), some (.str (Str.ofString "big") v), none]) (by kernel_rfl) ?_)
  show wpAny _ _ (Builtin.Int.intIndex "int.to_bytes" (.int (n : Int) u) >>= fun n => _) _ _ s
  refine wpAny_bind (wpAny_of_eq (a := (n : Int)) rfl ?_)
  refine KTBy.if_not (by show (decide ((n : Int) < -(2 ^ 63 : Int)) || decide ((n : Int) ≥ 2 ^ 63)) = false; rw [decide_eq_false (show ¬ ((n : Int) < -(2 ^ 63 : Int)) by omega), decide_eq_false (show ¬ ((n : Int) ≥ 2 ^ 63) by omega)]; rfl) ?_
  refine wpAny_bind (wpAny_of_eq (a := Str.ofString "big") (by kernel_rfl) ?_)
  refine wpAny_bind (wpAny_of_eq (a := false) rfl ?_)
  refine wpAny_bind (wpAny_of_eq (a := false) (by kernel_rfl) ?_)
  refine wpAny_ite_false (decide_eq_false (show ¬ ((n : Int) < 0) by omega)) ?_
  refine wpAny_ite_false (decide_eq_false (show ¬ ((n : Int) > 2 ^ 63 - 1 - 33) by omega)) ?_
  refine wpAny_ite_false (decide_eq_false (show ¬ ((n : Int) > (sizeLine : Int)) by rw [sizeLine_eq]; omega)) ?_
  refine KTBy.if_not (by show (decide (zx < 0) && !false) = false; rw [decide_eq_false (show ¬ zx < 0 by omega)]; rfl) ?_
  subst hxz
  refine KTBy.if_not (by show (_ && decide ((Builtin.Int.intBits (x : Int) : Int) > 8 * (n : Int))) = false; rw [decide_eq_false (show ¬ ((Builtin.Int.intBits (x : Int) : Int) > 8 * (n : Int)) by omega), Bool.and_false]) ?_
  have e : (List.reverse (KTBy.low (x : Int) (Int.toNat (n : Int)))).toArray = toB n x := by rw [Int.toNat_natCast, low_rev hx]
  refine wpAny_bind (wpAny_mkBytes (wpAny_pure ⟨_, rfl, ?_⟩) ?_)
  · show Q (.bytes (List.reverse (KTBy.low (x : Int) (Int.toNat (n : Int)))).toArray _) _
    rw [e]; exact h _ _
  · show (List.reverse (KTBy.low (x : Int) (Int.toNat (n : Int)))).length ≤ sizeLine
    rw [List.length_reverse, KTBy.low_length, Int.toNat_natCast, sizeLine_eq]; omega
end
end
section
structure Near (dm um : Nat) (A : Around) : Prop where
  hh : A.handled = none
  hd : A.depth ≤ dm
  hu : A.units ≤ um
structure Gen1 (prog : Program) (w : World) (dm um : Nat) (C : Addr) (cenv : Env) (target elt : Expr) (I : Addr) (fp wr : List Addr) (n : Nat) (F : Nat → Value → Prop) (St : Nat → Heap → Prop) : Prop where
  sub : ∀ b ∈ wr, b ∈ fp
  frame : ∀ i h h', St i h → (∀ b ∈ C :: fp, ∀ o, h.get? b = some o → h'.get? b = some o) → St i h'
  turn : ∀ (A : Around) (E : Value → Shared → Prop) i s, Near dm um A → i < n → St i s.heap →
    wpAny (model prog w) A (pyNext (.ref I)) (fun r s₁ => ∃ v, r = some v ∧ wpAny (model prog w) A (letOwnedTupleGo target (.ref I) v) (fun _ s₂ => wpAny (model prog w) A (assign target cenv v) (fun _ s₃ =>
      wpAny (model prog w) A (eval elt cenv) (fun y s₄ => F i y ∧ GenSince C wr s s₄ ∧ St (i + 1) s₄.heap) E s₃) E s₂) E s₁) E s
  done : ∀ (A : Around) (E : Value → Shared → Prop) s, Near dm um A → St n s.heap → wpAny (model prog w) A (pyNext (.ref I)) (fun r s₁ => r = none ∧ GenSince C wr s s₁) E s
  self : ∀ (A : Around) (E : Value → Shared → Prop) s, Near dm um A → St 0 s.heap → wpAny (model prog w) A (pyIter (.ref I)) (fun v s₁ => v = .ref I ∧ GenSince C wr s s₁ ∧ St 0 s₁.heap) E s
abbrev allT : Nat → Bool := fun _ => true
theorem passT (n i : Nat) : passing allT n i = (List.range n).drop i := by
  unfold passing; exact List.filter_eq_self.mpr fun _ _ => rfl
theorem passT_len (n i : Nat) : (passing allT n i).length = n - i := by rw [passT]; simp
theorem gsTrans {C : Addr} {wr : List Addr} {a b c : Shared} (x : GenSince C wr a b) (y : GenSince C wr b c) : GenSince C wr a c := by
  obtain ⟨h, tk, rfl, hk⟩ := y
  exact x.step hk
section
variable {prog : Program} {w : World} {A : Around} {dm um : Nat} {C I : Addr} {cenv : Env} {target elt iter : Expr} {fp wr : List Addr} {n : Nat} {F : Nat → Value → Prop} {St : Nat → Heap → Prop} {scope : Scope} {pos : Pos}
abbrev gcode (elt target iter : Expr) (scope : Scope) (pos : Pos) (I : Addr) (cenv : Env) : Code := .compLoop (.GeneratorExp elt [⟨target, iter, [], 0⟩] scope pos) 0 (.ref I) .none cenv
theorem seg_loopG (G : Gen1 prog w dm um C cenv target elt I fp wr n F St) (hnear : Near dm um (A.over (gcode elt target iter scope pos I cenv) []))
    (hco : cenv.scope.isCoroutine = false) :
    ∀ (k i : Nat) (s₀ s : Shared), n - i = k → i ≤ n → St i s.heap → GenSince C wr s₀ s →
      Seg (model prog w) A (fun n s₀ r s₁ => r = .ok .next ∧ (n = 0 ∧ GenSince C wr s₀ s₁)) (genProto C fp wr allT n F) (passing allT n i).length s₀
        (gcode elt target iter scope pos I cenv) ((model prog w).den (gcode elt target iter scope pos I cenv)) [] s := by
  intro k
  induction k with
  | zero =>
    intro i s₀ s hk hi hst hs
    have hin : i = n := by omega
    subst hin
    show Seg _ A _ _ _ s₀ _ ((compTurn (.GeneratorExp elt [⟨target, iter, [], 0⟩] scope pos) 0 (.ref I) .none cenv).onRaise (leaving cenv)) [] s
    rw [compTurn_gen, Sem.onRaise_eq_wrap]
    refine seg_bind_wrap (wpAny_standAt ?_)
    refine seg_bind_wrap (wpAny_mono (G.done _ _ s hnear hst) (fun r s₁ h₁ => ?_) fun _ _ e => e)
    obtain ⟨rfl, hs₁⟩ := h₁
    exact seg_end (.ok .next) ⟨rfl, by rw [passing_end]; rfl, gsTrans hs hs₁⟩
  | succ k ih =>
    intro i s₀ s hk hi hst hs
    have hlt : i < n := by omega
    rw [passing_true hlt rfl, List.length_cons]
    show Seg _ A _ _ _ s₀ _ ((compTurn (.GeneratorExp elt [⟨target, iter, [], 0⟩] scope pos) 0 (.ref I) .none cenv).onRaise (leaving cenv)) [] s
    rw [compTurn_gen, Sem.onRaise_eq_wrap]
    refine seg_bind_wrap (wpAny_standAt ?_)
    refine seg_bind_wrap (wpAny_mono (G.turn _ _ i s hnear hlt hst) (fun r s₁ h₁ => ?_) fun _ _ e => e)
    obtain ⟨v, rfl, h₁⟩ := h₁
    refine seg_bind_wrap (wpAny_mono h₁ (fun _ s₂ h₂ => ?_) fun _ _ e => e)
    refine seg_bind_wrap (wpAny_mono h₂ (fun _ s₃ h₃ => ?_) fun _ _ e => e)
    simp only [List.forIn_nil]
    refine seg_bind_wrap (wpAny_pure ?_)
    have hy : ∀ v, yieldOut cenv v = yieldValue v := fun v => by simp only [yieldOut, hco, Bool.false_eq_true, if_false]
    simp only [hy, if_true]
    rw [Sem.bind_eq_wrap', Sem.bind_eq_wrap', Sem.wrap_wrap, Sem.wrap_wrap]
    refine seg_wrap (wpAny_mono h₃ (fun y s₄ h₄ => ?_) fun _ _ e => e)
    obtain ⟨hF, hs₄, hst₄⟩ := h₄
    refine seg_at (seg_yield rfl rfl rfl ⟨⟨i, passing_here hlt rfl, hF⟩, gsTrans hs hs₄, fun s'' hal => ?_⟩)
    exact seg_again rfl (ih (i + 1) s'' s'' (by omega) hlt (G.frame _ _ _ hst₄ hal) (GenSince.refl _ _ _))
theorem seg_startG (G : Gen1 prog w dm um C cenv target elt I fp wr n F St) (hnear : Near dm um (A.over (gcode elt target iter scope pos I cenv) []))
    (hnear' : Near dm um (A.over (.compStart (.GeneratorExp elt [⟨target, iter, [], 0⟩] scope pos) 0 (.ref I) .none cenv) []))
    (hco : cenv.scope.isCoroutine = false) (s₀ s : Shared) (hst : St 0 s.heap) (hs : GenSince C wr s₀ s) :
      Seg (model prog w) A (fun n s₀ r s₁ => r = .ok .next ∧ (n = 0 ∧ GenSince C wr s₀ s₁)) (genProto C fp wr allT n F) (passing allT n 0).length s₀
        (.compStart (.GeneratorExp elt [⟨target, iter, [], 0⟩] scope pos) 0 (.ref I) .none cenv) ((model prog w).den (.compStart (.GeneratorExp elt [⟨target, iter, [], 0⟩] scope pos) 0 (.ref I) .none cenv)) [] s := by
  have loop := fun s hst hs => seg_loopG (iter := iter) (scope := scope) (pos := pos) G hnear hco n 0 s₀ s (Nat.sub_zero _) (Nat.zero_le _) hst hs
  show Seg _ A _ _ _ s₀ _ ((compStart (.GeneratorExp elt [⟨target, iter, [], 0⟩] scope pos) 0 (.ref I) .none cenv).onRaise (leaving cenv)) [] s
  unfold compStart
  rw [Sem.onRaise_eq_wrap]
  show Seg _ A _ _ _ s₀ _ ((ask >>= _).wrap _ _ _ _) [] s
  refine seg_bind_wrap (wpAny_askSetting ?_)
  split
  · exact seg_again rfl (loop s hst hs)
  · refine seg_bind_wrap (wpAny_rule ?_)
    show Seg _ A _ _ _ s₀ _ ((standAt iter.pos >>= _).wrap _ _ _ _) [] s
    refine seg_bind_wrap (wpAny_standAt (seg_bind_wrap (wpAny_mono (G.self _ _ s hnear' hst) (fun v s₁ h₁ => ?_) fun _ _ e => e)))
    obtain ⟨rfl, hs₁, hst₁⟩ := h₁
    exact seg_again rfl (loop s₁ hst₁ (gsTrans hs hs₁))
theorem genAtG {a : Addr} {g : Nat} {s : Shared} (G : Gen1 prog w dm um C cenv target elt I fp wr n F St) (hnear : Near dm um (A.in1.over (gcode elt target iter scope pos I cenv) []))
    (hnear' : Near dm um (A.in1.over (.compStart (.GeneratorExp elt [⟨target, iter, [], 0⟩] scope pos) 0 (.ref I) .none cenv) []))
    (hco : cenv.scope.isCoroutine = false)
    (hg : s.heap.IsGen a g) (hgs : s.gens[g]? = some (.fresh (.compStart (.GeneratorExp elt [⟨target, iter, [], 0⟩] scope pos) 0 (.ref I) .none cenv)))
    (hst : St 0 s.heap) (hl : s.heap.NoLimit) : GenAt prog w A a g C fp wr allT n F 0 s :=
  ⟨hg, hl, _, hgs, fun s'' hal => ⟨rfl, seg_startG (A := A.in1) G hnear hnear' hco s'' s'' (G.frame _ _ _ hst hal) (GenSince.refl _ _ _)⟩⟩
end
def Tb (c P : Addr) (h : Heap) : Prop := ∃ ps, h.IsCode c P ps ∧ h.TableAt c P ps
def Bm (g : Addr) (h : Heap) : Prop := ∃ mg bm ob, h.Ns g mg ∧ mg "__builtins__" = some (.ref bm) ∧ bm ≠ builtinsNs ∧ h.get? bm = some ob ∧ ob.cls = .type "module" ∧ ob.dict = some builtinsNs ∧ ob.data = .plain
def ExtP (P : Addr) (h h' : Heap) : Prop := ∀ b o, b ≠ P → h.get? b = some o → h'.get? b = some o
theorem ExtP.refl (P : Addr) (h : Heap) : ExtP P h h := fun _ _ _ e => e
theorem ExtP.trans {P : Addr} {h h' h'' : Heap} (a : ExtP P h h') (b : ExtP P h' h'') : ExtP P h h'' := fun x o n e => b x o n (a x o n e)
theorem Ext.p {P : Addr} {h h' : Heap} (a : Ext h h') : ExtP P h h' := fun x o _ e => a x o e
theorem Tb.ext {c P : Addr} {h h' : Heap} (t : Tb c P h) (e : Ext h h') : Tb c P h' := let ⟨ps, a, b⟩ := t; ⟨ps, a.keeps e, b.keeps e⟩
theorem Tb.obj {c P : Addr} {h : Heap} (t : Tb c P h) : ∃ ps, h.get? P = some { cls := .none, data := .fields ps } := let ⟨ps, _, b⟩ := t; ⟨ps, b.2⟩
theorem ne_tab {c P b : Addr} {h : Heap} (t : Tb c P h) {o : Obj} (e : h.get? b = some o) (hc : o.cls ≠ .none) : b ≠ P := by
  rintro rfl
  obtain ⟨ps, e'⟩ := t.obj
  rw [e] at e'; cases e'; exact hc rfl
theorem Bm.extP {g c P : Addr} {h h' : Heap} (x : Bm g h) (t : Tb c P h) (e : ExtP P h h') : Bm g h' := by
  obtain ⟨mg, bm, ob, h1, h2, h3, h4, h5, r⟩ := x
  refine ⟨mg, bm, ob, h1.at' fun o q => e _ _ ?_ q, h2, h3, e _ _ (ne_tab t h4 (by rw [h5]; nofun)) h4, h5, r⟩
  obtain ⟨o', es, ep, a1, a2, _⟩ := h1
  rw [a1] at q; cases q
  rintro rfl
  obtain ⟨ps, e'⟩ := t.obj
  rw [a1] at e'; cases e'; cases a2
theorem NoLimit.extP {c P : Addr} {h h' : Heap} (x : h.NoLimit) (t : Tb c P h) (e : ExtP P h h') : h'.NoLimit := by
  refine x.extBut (fun b o n q => e b o n q) ?_
  rintro rfl
  obtain ⟨_, ⟨o', es, ep, a1, a2, _⟩, _⟩ := x
  obtain ⟨ps, e'⟩ := t.obj
  rw [a1] at e'; cases e'; cases a2
section
variable {prog : Program} {w : World} {M : Model} {A : Around} {E : Value → Shared → Prop} {s : Shared}
theorem genexprCode_tb {env : Env} {c P : Addr} {pos : Pos} {qualname : Str} {scope : Scope} {Q : Value → Shared → Prop} (hc : env.code = .ref c) (ht : Tb c P s.heap)
    (hQ : ∀ code h' tk, ExtP P s.heap h' → s.heap.objs.size ≤ h'.objs.size → Tb c P h' → Q code { s with heap := h', toks := tk }) : wpAny M A (genexprCode env pos qualname scope) Q E s := by
  obtain ⟨ps, hok, htab⟩ := ht
  cases hf : codeAmong pos ps.toList with
  | some cv => exact wpAny_genexprCode_hit hc hok hf (hQ cv s.heap s.toks (ExtP.refl _ _) (Nat.le_refl _) ⟨ps, hok, htab⟩)
  | none =>
    refine wpAny_genexprCodeX hc hok htab hf fun c' h' tk hx hge hlt hok' _ htab' _ => ?_
    exact hQ _ h' tk (fun b o n e => hx b o n e) (by omega) ⟨_, hok', htab'⟩
structure GenIt (prog : Program) (w : World) (dp : Nat) (fr : Option (List Env)) (gd : Option (List Code)) (un : Nat) (K a : Addr) (n : Nat) (F : Nat → Value → Prop) (s : Shared) : Prop where
  le : K ≤ s.heap.objs.size
  it : ∃ fp wr g St, WalksS prog w { handled := none, depth := dp, frames := fr, guards := gd, units := un } a fp wr (GenOnlyQ g) n F St ∧ St 0 s ∧ (∀ i s', St i s' → s'.heap.IsGen a g) ∧ a ∈ fp ∧ (∀ b ∈ fp, b < s.heap.objs.size) ∧ ∀ b ∈ wr, K ≤ b
theorem walksCongr {I : Addr} {fp wr : List Addr} {G : Array GenState → Array GenState → Prop} {n : Nat} {P P' : Nat → Value → Prop} {St : Nat → Shared → Prop} (W : WalksS prog w A I fp wr G n P St) (h : ∀ i v, P i v → P' i v) : WalksS prog w A I fp wr G n P' St where
  sub := W.sub
  grefl := W.grefl
  gtrans := W.gtrans
  frame := W.frame
  item := fun i s Q E hi st hQ => W.item i s Q E hi st fun v s' hp => hQ v s' (h i v hp)
  done := W.done
  self := W.self
theorem walksUnits {I : Addr} {fp wr : List Addr} {G : Array GenState → Array GenState → Prop} {n u : Nat} {P : Nat → Value → Prop} {St : Nat → Shared → Prop} (W : WalksS prog w A I fp wr G n P St) (hu : u ≤ A.units) : WalksS prog w { A with units := u } I fp wr G n P St where
  sub := W.sub
  grefl := W.grefl
  gtrans := W.gtrans
  frame := W.frame
  item := fun i s Q E hi st hQ => wpAny_units_le (W.item i s Q E hi st hQ) hu
  done := fun s Q E st hQ => wpAny_units_le (W.done s Q E st hQ) hu
  self := fun i s Q E st hQ => wpAny_units_le (W.self i s Q E st hQ) hu
theorem genexp_any {dp : Nat} {fr : Option (List Env)} {gd : Option (List Code)} {un dm um : Nat} {env : Env} {c P : Addr} {elt target iter : Expr} {scope : Scope} {cl : List (Str × Addr)} {pos : Pos} {n : Nat} {F : Nat → Value → Prop} {K : Addr} {Q : Value → Shared → Prop}
    (hco : scope.isCoroutine = false) (hclos : closureFor scope env = pure cl) (hcell : ∀ y ∈ scope.names, y.2 ≠ .cell) (h0 : scope.names.lookup (".0" : Str) = some NameKind.local) (hkind : scope.kind = .function)
    (hs : ∀ x, genFold iter env x = pure x) (hcode : env.code = .ref c) (hroom : dp < recursionLimit) (hdm : dp + 1 ≤ dm) (hum : un + 64 ≤ um)
    (h : wpAny (model prog w) { handled := none, depth := dp, frames := fr, guards := gd, units := un } (eval iter env) (fun xv s₁ => wpAny (model prog w) { handled := none, depth := dp, frames := fr, guards := gd, units := un } (pyIter xv) (fun it s₂ =>
      ∃ I, it = .ref I ∧ s₂.heap.NoLimit ∧ Tb c P s₂.heap ∧ Bm env.globals s₂.heap ∧ K ≤ s₂.heap.objs.size ∧
      ∀ (code : Value) (h₃ : Heap), ExtP P s₂.heap h₃ → s₂.heap.objs.size ≤ h₃.objs.size → Tb c P h₃ →
        ∃ fp wr St, Gen1 prog w dm um h₃.objs.size (genEnv scope cl h₃.objs.size code builtinsNs env) target elt I fp wr n F St ∧
          (∀ h₄, Ext h₃ h₄ → h₄.Ns h₃.objs.size (fun y => if y = ".0" then some (.ref I) else none) → St 0 h₄) ∧ (∀ b ∈ fp, b < h₃.objs.size) ∧ cStatics ∈ fp ∧ cStatics ∉ wr ∧ (∀ b ∈ wr, K ≤ b) ∧
          (∀ a h₅ tk gs, gs.bare = true → Ext h₃ h₅ → Tb c P h₅ → GenIt prog w dp fr gd (un + 60) K a n F { s₂ with gens := s₂.gens.push gs, toks := tk, heap := h₅ } →
            Q (.ref a) { s₂ with gens := s₂.gens.push gs, toks := tk, heap := h₅ })) E s₁) E s) :
    wpAny (model prog w) { handled := none, depth := dp, frames := fr, guards := gd, units := un } (eval (.GeneratorExp elt [⟨target, iter, [], 0⟩] scope pos) env) Q E s := by
  refine wpAny_GeneratorExp_make hco hclos hcell h0 hkind hroom (wpAny_mono h (fun xv s₁ h₁ => wpAny_mono h₁ (fun it s₂ h₂ => ?_) fun _ _ e => e) fun _ _ e => e) hs
  obtain ⟨I, rfl, hlim, ht, hb, hK, hall⟩ := h₂
  refine ⟨hlim, genexprCode_tb hcode ht fun code h₃ tk₃ hx₃ hsz₃ ht₃ => ?_⟩
  obtain ⟨fp, wr, St, G, hst, hfp, hcs, hcw, hwr, hQ⟩ := hall code h₃ hx₃ hsz₃ ht₃
  obtain ⟨mg, bm, ob, b1, b2, b3, b4, b5, b6, b7⟩ := hb.extP ht hx₃
  refine wpAny_builtinsFor b1 b2 b3 b4 b5 b6 b7 ?_
  intro h' hn' hs'
  have hsz : h'.objs.size = h₃.objs.size + 1 := by rw [hs'.1, Heap.size_push]
  have keep' : Ext h₃ h' := fun b o e => hs'.extBut b o (Nat.ne_of_lt (Heap.lt_size e)) (Heap.get?_push_of_some _ e)
  have keep₅ : Ext h₃ (h'.push { cls := .type "generator", data := .fields #[.int s₂.gens.size 0, .str "<genexpr>" (tk₃ + 1), .str (env.qual ++ "<genexpr>") (tk₃ + 1 + 1)] }) :=
    fun b o e => Heap.get?_push_of_some _ (keep' b o e)
  have hlim₃ := NoLimit.extP hlim ht hx₃
  have hsub : ∀ b ∈ wr, b ∈ fp := G.sub
  have haC : h'.objs.size ≠ h₃.objs.size := by rw [hsz]; exact Nat.succ_ne_self _
  have haf : h'.objs.size ∉ fp := fun hm => absurd (hfp _ hm) (by rw [hsz]; exact Nat.not_lt.mpr (Nat.le_succ _))
  have hcC : cStatics ≠ h₃.objs.size := Nat.ne_of_lt (hfp _ hcs)
  have hlen : (passing allT n 0).length = n := by rw [passT_len]; omega
  have W := WalksS.genexpQ (prog := prog) (w := w) (A := { handled := none, depth := dp, frames := fr, guards := gd, units := un + 60 }) rfl h'.objs.size s₂.gens.size h₃.objs.size fp wr allT n F haC haf hsub hroom hcs hcC hcw
  rw [hlen] at W
  have W' := walksCongr (P' := F) W (fun i v hp => by
    obtain ⟨j, hj, hF⟩ := hp
    rw [passT, List.drop_zero] at hj
    obtain ⟨hlt, e⟩ := List.getElem?_eq_some_iff.mp hj
    rw [List.getElem_range] at e
    exact e ▸ hF)
  refine hQ _ _ _ _ rfl keep₅ (ht₃.ext keep₅) ⟨?_, _, _, _, _, W', ?_, ?_, List.mem_cons_self, ?_, ?_⟩
  · show K ≤ (h'.push _).objs.size
    rw [Heap.size_push, hsz]
    exact Nat.le_trans hK (Nat.le_trans hsz₃ (Nat.le_succ_of_le (Nat.le_succ _)))
  · refine genAtG G ⟨rfl, hdm, Nat.le_trans (Nat.le_of_eq rfl) hum⟩ ⟨rfl, hdm, Nat.le_trans (Nat.le_of_eq rfl) hum⟩ hco ⟨_, _, _, Heap.get?_push_size _ rfl, rfl, rfl, rfl⟩ (Array.getElem?_push_size ..) (hst _ keep₅ (hn'.push _)) (hlim₃.keeps keep₅)
  · exact fun i s' st => st.1
  · intro b hb
    show b < (h'.push _).objs.size
    rw [Heap.size_push, hsz]
    rcases List.mem_cons.mp hb with rfl | hb
    · rw [hsz]; exact Nat.lt_succ_self _
    · rcases List.mem_cons.mp hb with rfl | hb
      · exact Nat.lt_succ_of_lt (Nat.lt_succ_self _)
      · exact Nat.lt_succ_of_lt (Nat.lt_succ_of_lt (hfp b hb))
  · intro b hb
    rcases List.mem_cons.mp hb with rfl | hb
    · exact Nat.le_trans hK hsz₃
    · exact hwr b hb
end
end
section
section
variable {prog : Program} {w : World} {s : Shared}
theorem gen_list {dp : Nat} {fr : Option (List Env)} {gd : Option (List Code)} {un dm um : Nat} {env : Env} {c P l : Addr} {elt iter : Expr} {x : Str} {px : Pos} {scope : Scope} {cl : List (Str × Addr)} {pos : Pos} {items : Array Value} {F : Nat → Value → Prop} {Q E : Value → Shared → Prop}
    (hco : scope.isCoroutine = false) (hclos : closureFor scope env = pure cl) (hcell : ∀ y ∈ scope.names, y.2 ≠ .cell) (h0 : scope.names.lookup (".0" : Str) = some NameKind.local) (hkind : scope.kind = .function)
    (hx : scope.names.lookup x = some NameKind.local) (hcode : env.code = .ref c) (hroom : dp < recursionLimit) (hdm : dp + 1 ≤ dm) (hum : un + 64 ≤ um)
    (hs : ∀ v, genFold iter env v = pure v)
    (hiter : wpAny (model prog w) { handled := none, depth := dp, frames := fr, guards := gd, units := un } (eval iter env) (fun v s₁ => v = .ref l ∧ s₁ = s) E s)
    (hl : s.heap.IsList l items) (hlim : s.heap.NoLimit) (ht : Tb c P s.heap) (hb : Bm env.globals s.heap)
    (helt : ∀ (A : Around) (E' : Value → Shared → Prop) i v C code (s' : Shared) m, Near dm um A → items[i]? = some v → s.heap.objs.size ≤ C → C ≠ P → s'.heap.Ns C m → m x = some v → (∀ b o, b ≠ P → s.heap.get? b = some o → s'.heap.get? b = some o) →
      wpAny (model prog w) A (eval elt (genEnv scope cl C code builtinsNs env)) (fun y s₄ => F i y ∧ ∃ h tk, s₄ = { s' with heap := h, toks := tk } ∧ Ext s'.heap h) E' s')
    (hQ : ∀ a h₅ tk gs, gs.bare = true → ExtP P s.heap h₅ → Tb c P h₅ → GenIt prog w dp fr gd (un + 60) s.heap.objs.size a items.size F { s with gens := s.gens.push gs, toks := tk, heap := h₅ } →
      Q (.ref a) { s with gens := s.gens.push gs, toks := tk, heap := h₅ }) :
    wpAny (model prog w) { handled := none, depth := dp, frames := fr, guards := gd, units := un } (eval (.GeneratorExp elt [⟨.Name x px, iter, [], 0⟩] scope pos) env) Q E s := by
  refine genexp_any (P := P) (n := items.size) (F := F) (K := s.heap.objs.size) hco hclos hcell h0 hkind hs hcode hroom hdm hum (wpAny_mono hiter (fun v s₁ h₁ => ?_) fun _ _ e => e)
  obtain ⟨rfl, e1⟩ := h₁
  rw [e1]
  have lP := ne_tab ht hl.choose_spec.1 (by rw [hl.choose_spec.2.1]; nofun)
  have hPlt : P < s.heap.objs.size := let ⟨ps, e⟩ := ht.obj; Heap.lt_size e
  have hIl : l ≠ s.heap.objs.size := Nat.ne_of_lt (let ⟨o, e, _⟩ := hl; Heap.lt_size e)
  refine wpAny_pyIter_list hl ⟨s.heap.objs.size, rfl, hlim.push _, ht.ext fun b o e => Heap.get?_push_of_some _ e, hb.extP ht (Ext.p fun b o e => Heap.get?_push_of_some _ e), by rw [Heap.size_push]; exact Nat.le_succ _, ?_⟩
  intro code h₃ hx₃ hsz₃ ht₃
  dsimp only at hx₃ hsz₃
  rw [Heap.size_push] at hsz₃
  have hI3 : h₃.IsListIter s.heap.objs.size l 0 := ⟨_, hx₃ _ _ (Nat.ne_of_gt hPlt) (Heap.get?_push_size _ rfl), rfl, rfl⟩
  have hl3 : h₃.IsList l items := let ⟨o, e, r⟩ := hl; ⟨o, hx₃ _ _ lP (Heap.get?_push_of_some _ e), r⟩
  have hlim3 : h₃.NoLimit := NoLimit.extP (hlim.push _) (ht.ext fun b o e => Heap.get?_push_of_some _ e) hx₃
  have k3 : ∀ b o, b ≠ P → s.heap.get? b = some o → h₃.get? b = some o := fun b o n e => hx₃ b o n (Heap.get?_push_of_some _ e)
  have rng : ∀ b o, h₃.get? b = some o → b ∈ List.range h₃.objs.size := fun b o e => List.mem_range.mpr (Heap.lt_size e)
  refine ⟨List.range h₃.objs.size, [s.heap.objs.size], fun i h => h.IsListIter s.heap.objs.size l i ∧ (∃ m, h.Ns h₃.objs.size m) ∧ (∀ b o, b ≠ s.heap.objs.size → h₃.get? b = some o → h.get? b = some o), ?_, ?_, ?_, ?_, ?_, ?_, fun a h₅ tk gs hg e t z => hQ a h₅ tk gs hg (fun b o n q => e _ _ (k3 b o n q)) t z⟩
  · refine ⟨?_, ?_, ?_, ?_, ?_⟩
    · intro b hb
      rw [List.mem_singleton.mp hb]
      exact List.mem_range.mpr hsz₃
    · rintro i h h' ⟨a1, ⟨m, a2⟩, a3⟩ hk
      exact ⟨a1.at fun o e => hk _ (.tail _ (List.mem_range.mpr hsz₃)) o e, ⟨m, a2.at' fun o e => hk _ (.head _) o e⟩, fun b o n e => hk b (.tail _ (rng b o e)) o (a3 b o n e)⟩
    · rintro A E' i s' hn hi ⟨a1, ⟨m, a2⟩, a3⟩
      have hl' : s'.heap.IsList l items := let ⟨o, e, r⟩ := hl3; ⟨o, a3 _ _ hIl e, r⟩
      refine wpAny_pyNext_list_item a1 hl' (x := items[i]) (by simp [hi]) fun h₁ it₁ sb => ⟨_, rfl, ?_⟩
      refine wpAny_pure ?_
      have hCl : h₃.objs.size ≠ s.heap.objs.size := Nat.ne_of_gt hsz₃
      refine wpAny_assign_Name (wpAny_storeName_local (by show scope.names.lookup x = _; exact hx) (a2.sameBut sb hCl) (fun h₂ n₂ sb₂ => ?_) (by show (scope.kind == .class || (scope.kind == .module && _)) = false; rw [hkind]; rfl))
      have up : ∀ b o, b ≠ h₃.objs.size → b ≠ s.heap.objs.size → s'.heap.get? b = some o → h₂.get? b = some o := fun b o q1 q2 e => sb₂.extBut b o q1 (sb.extBut b o q2 e)
      refine wpAny_mono (helt A _ i items[i] h₃.objs.size code _ _ hn (by simp [hi]) (Nat.le_of_lt hsz₃) (Nat.ne_of_gt (Nat.lt_trans hPlt hsz₃)) n₂ (by simp) fun b o n e => ?_) (fun y s₄ q => ?_) fun _ _ e => e
      · have l1 := Heap.lt_size e
        exact up b o (Nat.ne_of_lt (Nat.lt_trans l1 hsz₃)) (Nat.ne_of_lt l1) (a3 b o (Nat.ne_of_lt l1) (k3 b o n e))
      · obtain ⟨hF, h, tk, rfl, ex⟩ := q
        refine ⟨hF, ⟨h, tk, rfl, fun b o q1 q2 e => ex _ _ (up b o q1 (fun z => q2 (by rw [z]; exact .head _)) e)⟩, ?_, ⟨_, n₂.keeps ex⟩, fun b o n e => ex _ _ (up b o (Nat.ne_of_lt (Heap.lt_size e)) n (a3 b o n e))⟩
        exact (it₁.at fun o e => sb₂.extBut _ o (Nat.ne_of_lt hsz₃) e).at fun o e => ex _ _ e
    · rintro A E' s' hn ⟨a1, ⟨m, a2⟩, a3⟩
      have hl' : s'.heap.IsList l items := let ⟨o, e, r⟩ := hl3; ⟨o, a3 _ _ hIl e, r⟩
      refine wpAny_pyNext_list_end hn.hh a1 hl' (by simp) fun h' he' => ⟨rfl, h', s'.toks, rfl, fun b o q1 q2 e => he' b o (fun z => q2 (by rw [z]; exact .head _)) e⟩
    · rintro A E' s' hn st
      exact wpAny_pyIter_listiter st.1 ⟨rfl, GenSince.refl _ _ _, st⟩
  · intro h₄ e n
    exact ⟨hI3.at fun o q => e _ _ q, ⟨_, n⟩, fun b o _ q => e _ _ q⟩
  · intro b hb; exact List.mem_range.mp hb
  · obtain ⟨mc, ⟨o, es, ep, e, _⟩, _⟩ := hlim3; exact rng _ _ e
  · intro hm
    have := List.mem_singleton.mp hm
    obtain ⟨mc, ⟨o, es, ep, e, _⟩, _⟩ := hlim
    exact absurd this (Nat.ne_of_lt (Heap.lt_size e))
  · intro b hb; rw [List.mem_singleton.mp hb]; exact Nat.le_refl _
end
end
section
def GB (a b : Array GenState) : Prop := (∀ y ∈ a, y.bare = true) → ∀ y ∈ b, y.bare = true
theorem GB.refl (a : Array GenState) : GB a a := fun h => h
theorem GB.trans {a b c : Array GenState} (x : GB a b) (y : GB b c) : GB a c := fun h => y (x h)
theorem GB.push {a : Array GenState} {g : GenState} (h : g.bare = true) : GB a (a.push g) := fun k y hy => by
  rcases Array.mem_push.mp hy with q | rfl
  · exact k y q
  · exact h
theorem sub_gen_set : isSubtype (.type "generator") (.type "set") = pure false := by rw [isSubtype_type]; kernel_rfl
theorem sub_gen_frozenset : isSubtype (.type "generator") (.type "frozenset") = pure false := by rw [isSubtype_type]; kernel_rfl
theorem sub_gen_int : isSubtype (.type "generator") (.type "int") = pure false := by rw [isSubtype_type]; kernel_rfl
section
variable {prog : Program} {w : World} {A : Around} {s : Shared} {E : Value → Shared → Prop}
theorem call_set_walkS {I : Addr} {fp wr : List Addr} {G : Array GenState → Array GenState → Prop} {n : Nat} {P : Nat → Value → Prop} {St : Nat → Shared → Prop} {val : Nat → Int} {Q : Value → Shared → Prop}
    (hT : s.TypeIs (.ref I) "generator") (hW : ∀ u, u ≤ A.units + 20 → WalksS prog w { A with units := u } I fp wr G n P St) (hst : St 0 s) (hfp : ∀ b ∈ fp, b < s.heap.objs.size) (hI : I < s.heap.objs.size)
    (hval : ∀ i v, P i v → ∃ t, v = .int (val i) t) (hb : n + 1 < scanBound)
    (h : ∀ (s' : Shared), Moved (s.heap.objs.size :: wr) G { s with heap := s.heap.push { cls := .type "set", dict := none, data := .set #[] 0 (.fresh 0 0 true) } } s' ∨ Moved (s.heap.objs.size :: wr) G { s with heap := s.heap.push { cls := .type "set", dict := none, data := .set #[] 0 (.fresh 0 0 false) } } s' →
      s'.heap.SetOf (intKind prog w) s.heap.objs.size (fun k' => (firstMet val n).any (· == k')) (firstMet val n).length → Q (.ref s.heap.objs.size) s') :
    wpAny (model prog w) A (call (.type "set") [.ref I]) Q E s := by
  obtain ⟨c, tl, hmro⟩ := F.called_set.mro
  have hmade := F.called_set.made
  have hsub := F.called_set.sub
  refine wpAny_call (codeAny_of_tree ?_)
  show wpAny _ _ (callAny (.type "set") _) _ _ _
  refine wpAny_pure ⟨Code.quiet_builtin _ (by decide +kernel), codeAny_builtin F.entry_type_call ?_⟩
  rw [Around.under_plain (weight_type_call_type "set" [.ref I] []) rfl]
  have h1 := F.called_set.notType
  have h2 := F.called_set.canCreate
  have hct := F.typeCall_set_1 (.ref I)
  repeat (any_goals (first | assumption | wp_step))
  refine codeAny_mono (code_set_new_1 (.ref I) (E := E) (Q₁ := fun obj s₁ => ∃ led : Bool, obj = .ref s.heap.objs.size ∧ s₁ = { s with heap := s.heap.push { cls := .type "set", dict := none, data := .set #[] 0 (.fresh 0 0 led) } }) fun led => ⟨led, rfl, rfl⟩) fun r s₁ hr => ?_
  cases r with
  | error e => exact hr
  | ok fl =>
    cases fl with
    | ret obj =>
      obtain ⟨led, rfl, rfl⟩ := hr
      have hS : (s.heap.push { cls := .type "set", dict := none, data := .set #[] 0 (.fresh 0 0 led) }).get? s.heap.objs.size = some { cls := .type "set", dict := none, data := .set #[] 0 (.fresh 0 0 led) } := Heap.get?_push_size _ rfl
      have hT1 : Shared.TypeIs { s with heap := s.heap.push { cls := .type "set", dict := none, data := .set #[] 0 (.fresh 0 0 led) } } (.ref s.heap.objs.size) "set" := ⟨_, hS, rfl⟩
      have hT2 : Shared.TypeIs { s with heap := s.heap.push { cls := .type "set", dict := none, data := .set #[] 0 (.fresh 0 0 led) } } (.ref I) "generator" := let ⟨o, e, c⟩ := hT; ⟨o, Heap.get?_push_of_some _ e, c⟩
      have hli := F.called_set.init.lookup
      have hbi := F.called_set.init.bind (.ref s.heap.objs.size)
      repeat (any_goals (first | assumption | wp_step))
      have hSf : s.heap.objs.size ∉ fp := fun q => absurd (hfp _ q) (Nat.lt_irrefl _)
      refine codeAny_mono (codeAny_call_builtin (R := wants (fun r s₂ => r = .none ∧ Moved (s.heap.objs.size :: wr) G { s with heap := s.heap.push { cls := .type "set", dict := none, data := .set #[] 0 (.fresh 0 0 led) } } s₂ ∧
          s₂.heap.SetOf (intKind prog w) s.heap.objs.size (fun k' => (firstMet val n).any (· == k')) (firstMet val n).length) E) F.called_set.init.plain F.entry_set_init (check_set_init_1 hT1 ?_)) fun r₂ s₂ hr₂ => ?_
      · have hsls := sub_gen_set
        have hslf := sub_gen_frozenset
        have hne : (Value.type "generator" == Value.type "dict") = false := by decide
        obtain ⟨oI, hoI, hcI⟩ := hT2
        obtain ⟨ocls, odict, odata, oslots⟩ := oI
        dsimp only at hcI
        subst hcI
        have W0 := hW A.units (by omega)
        have hst1 : St 0 { s with heap := s.heap.push { cls := .type "set", dict := none, data := .set #[] 0 (.fresh 0 0 led) } } := W0.frame 0 s _ s.toks hst (Nat.le_refl _) fun b _ o e => Heap.get?_push_of_some _ e
        unfold Builtin.«set.__init__» noKeywords Builtin.Frozenset.updateFrom
        generalize hPI : pyIter = PI
        wp_walk
        subst hPI
        refine (hW (A.units + 2) (by omega)).self 0 _ _ _ hst1 ?_
        refine wpAny_bind (wpAny_runValue ?_)
        refine codeAny_set_update_loopS (hW (A.units + 3) (by omega)) s.heap.objs.size hSf val hval hb (n - 0) 0 _ (by omega) (Nat.zero_le _) hst1 ?hS0 ?hR
        case hS0 =>
          exact PyProof.Rows.SetOf_congr ((PyProof.Rows.setObjOf_fresh (knd := intKind prog w) led).setOf hS (by unfold scanBound; omega)) (fun _ => rfl) rfl
        case hR =>
          intro s' hm hS'
          show wpAny _ _ _ _ _ _
          refine wpAny_pure ?_
          show wpAny _ _ (ret Value.none) _ _ _
          exact wpAny_pure ⟨rfl, hm, hS'⟩
      · cases r₂ with
        | error e => exact hr₂
        | ok fl₂ =>
          cases fl₂ with
          | ret r =>
            obtain ⟨rfl, hm, hS'⟩ := hr₂
            repeat (any_goals (first | assumption | wp_step))
            refine h _ ?_ hS'
            cases led
            · exact .inr hm
            · exact .inl hm
          | next => exact hr₂.elim
          | brk => exact hr₂.elim
          | cont => exact hr₂.elim
    | next => exact hr.elim
    | brk => exact hr.elim
    | cont => exact hr.elim
end
end
section
section
variable {prog : Program} {w : World} {s : Shared} {Q E : Value → Shared → Prop} {dp un u : Nat} {fr : Option (List Env)} {gd : Option (List Code)} {K a : Addr} {n : Nat} {F : Nat → Value → Prop}
def Low (K : Nat) (h h' : Heap) : Prop := ∀ b o, b < K → h.get? b = some o → h'.get? b = some o
theorem Low.trans {K : Nat} {a b c : Heap} (x : Low K a b) (y : Low K b c) : Low K a c := fun q o n e => y q o n (x q o n e)
theorem set_gen (G : GenIt prog w dp fr gd un K a n F s) (hu : u + 20 ≤ un) {val : Nat → Int} (hval : ∀ i v, F i v → ∃ t, v = .int (val i) t) (hb : n + 1 < scanBound)
    (h : ∀ S h' tk gs, K ≤ S → GB s.gens gs → Low K s.heap h' → h'.SetOf (intKind prog w) S (fun k' => (firstMet val n).any (· == k')) (firstMet val n).length → Q (.ref S) { s with heap := h', toks := tk, gens := gs }) :
    wpAny (model prog w) { handled := none, depth := dp, frames := fr, guards := gd, units := u } (call (.type "set") [.ref a]) Q E s := by
  obtain ⟨fp, wr, g, St, W, hst, hty, haf, hfp, hwr⟩ := G.it
  have hKs := G.le
  refine call_set_walkS (A := { handled := none, depth := dp, frames := fr, guards := gd, units := u }) (hty 0 s hst).typeIs (fun u' hu' => walksUnits (A := { handled := none, depth := dp, frames := fr, guards := gd, units := un }) (u := u') W (Nat.le_trans hu' hu)) hst hfp (hfp _ haf) hval hb fun s' hm hS => ?_
  have fin : ∀ led : Bool, Moved (s.heap.objs.size :: wr) (GenOnlyQ g) { s with heap := s.heap.push { cls := .type "set", dict := none, data := .set #[] 0 (.fresh 0 0 led) } } s' → Q (.ref s.heap.objs.size) s' := by
    intro led hm
    obtain ⟨h', g', d', tk', os'⟩ := s'
    have ed : d' = s.drawn := hm.drawn
    have eo : os' = s.os := hm.os
    subst ed eo
    refine h _ h' tk' g' hKs (fun hb => hm.gens.bare hb) (fun b o hb e => hm.heap b o ?_ (Heap.get?_push_of_some _ e)) hS
    intro q
    rcases List.mem_cons.mp q with rfl | q
    · exact absurd (Heap.lt_size e) (Nat.lt_irrefl _)
    · exact absurd hb (Nat.not_lt.mpr (hwr b q))
  rcases hm with hm | hm
  · exact fin _ hm
  · exact fin _ hm
theorem sum_gen (G : GenIt prog w dp fr gd un K a n F s) (hu : u + 20 ≤ un) {val : Nat → Int} (hval : ∀ i v, F i v → ∃ t, v = .int (val i) t) (hfit : ∀ j, j < n → InLong (val j) ∧ InLong (preSum val (j + 1)))
    (h : ∀ t h' tk gs, GB s.gens gs → Low K s.heap h' → Q (.int (preSum val n) t) { s with heap := h', toks := tk, gens := gs }) :
    wpAny (model prog w) { handled := none, depth := dp, frames := fr, guards := gd, units := u } (call (.builtin "sum") [.ref a]) Q E s := by
  obtain ⟨fp, wr, g, St, W, hst, hty, haf, hfp, hwr⟩ := G.it
  refine call_sum_walkS ?_
  have W' := walksUnits (A := { handled := none, depth := dp, frames := fr, guards := gd, units := un }) (u := u + 1) W (by show u + 1 ≤ un; omega)
  refine W'.self 0 s _ _ hst ⟨a, fp, wr, GenOnlyQ g, n, F, St, val, rfl, W', hst, hfp, hval, hfit, fun s' t' hm => ?_⟩
  obtain ⟨h', g', d', tk', os'⟩ := s'
  have ed : d' = s.drawn := hm.drawn
  have eo : os' = s.os := hm.os
  subst ed eo
  exact h t' h' tk' g' (fun hb => hm.gens.bare hb) (fun b o hb e => hm.heap b o (fun q => absurd hb (Nat.not_lt.mpr (hwr b q))) e)
end
end
section
theorem bg_no_bytes : typeLookup (.type "generator") "__bytes__" = pure none := by rw [typeLookup_type, builtinLookup_eq_fast]; kernel_rfl
theorem bg_no_index : typeLookup (.type "generator") "__index__" = pure none := by rw [typeLookup_type, builtinLookup_eq_fast]; kernel_rfl
theorem bg_no_buffer : typeLookup (.type "generator") "__buffer__" = pure none := by rw [typeLookup_type, builtinLookup_eq_fast]; kernel_rfl
theorem bg_no_len : typeLookup (.type "generator") "__len__" = pure none := by rw [typeLookup_type, builtinLookup_eq_fast]; kernel_rfl
theorem bg_no_hint : typeLookup (.type "generator") "__length_hint__" = pure none := by rw [typeLookup_type, builtinLookup_eq_fast]; kernel_rfl
theorem sub_gen_str : isSubtype (.type "generator") (.type "str") = pure false := by rw [isSubtype_type]; kernel_rfl
section
variable {prog : Program} {w : World} {A : Around} {s : Shared} {E : Value → Shared → Prop}
def bOf (val : Nat → Nat) (n : Nat) : Array UInt8 := ((List.range n).map fun i => (val i).toUInt8).toArray
theorem bOf_size (val : Nat → Nat) (n : Nat) : (bOf val n).size = n := by simp [bOf]
theorem bOf_succ (val : Nat → Nat) (n : Nat) : bOf val (n + 1) = (bOf val n).push (val n).toUInt8 := by
  simp [bOf, List.range_succ]
theorem bytes_loopS {I : Addr} {fp wr : List Addr} {G : Array GenState → Array GenState → Prop} {n : Nat} {P : Nat → Value → Prop} {St : Nat → Shared → Prop} {val : Nat → Nat} {R : Result → Shared → Prop} (W : WalksS prog w A.in1 I fp wr G n P St) (S : Addr) (hSf : S ∉ fp)
    (hval : ∀ i v, P i v → ∃ t, v = .int (val i : Nat) t) (hr : ∀ i, i < n → val i < 256) (hz : n ≤ sizeLine) :
    ∀ (k i : Nat) (s : Shared), n - i = k → i ≤ n → St i s → s.heap.get? S = some { cls := .type "bytearray", data := .bytearray (bOf val i) } →
      (∀ s' t tk, Moved (S :: wr) G s s' → s'.toks ≤ tk → R (.ok (.ret (.bytes (bOf val n) t))) { s' with toks := tk }) →
      codeAny (model prog w) A (.builtin "bytes.__new__.loop" ⟨[.type "bytes", .ref I, .ref S], []⟩) R s := by
  have hSw : S ∉ wr := fun h => hSf (W.sub _ h)
  have hsub : ∀ b ∈ wr, b ∈ S :: wr := fun b hb => List.mem_cons_of_mem _ hb
  intro k
  induction k with
  | zero =>
    intro i s hk hle hst hS hR
    have hin : i = n := Nat.le_antisymm hle (Nat.le_of_sub_eq_zero hk)
    subst hin
    refine codeAny_builtin F.bm_entry_loop ?_
    rw [Around.under_plainId F.bm_plain_loop _]
    show wpAny _ A.in1 (pyNext (.ref I) >>= _) _ _ s
    refine wpAny_bind (W.done s _ _ hst fun s' hm => ?_)
    have hS' := hm.heap S _ hSw hS
    refine wpAny_bind ?_
    unfold Builtin.Bytes.payload Builtin.Bytes.payload?
    refine wpAny_bind (wpAny_bind (wpAny_load hS' ?_))
    refine wpAny_pure (wpAny_pure ?_)
    refine wpAny_bind (wpAny_mkBytes ?_ (by rw [bOf_size]; exact hz))
    show wpAny _ _ (if (Value.type "bytes" == Value.type "bytes") = true then _ else _) _ _ _
    refine bm_if_true (by decide) ?_
    first
      | exact wpAny_pure (hR s' _ _ (hm.mono hsub) (Nat.le_succ _))
      | exact wpAny_bind (wpAny_pure (wpAny_pure (hR s' _ _ (hm.mono hsub) (Nat.le_succ _))))
  | succ k ih =>
    intro i s hk hle hst hS hR
    have hlt : i < n := Nat.lt_of_sub_pos (hk ▸ Nat.succ_pos k)
    have h1 := hr i hlt
    refine codeAny_builtin F.bm_entry_loop ?_
    rw [Around.under_plainId F.bm_plain_loop _]
    show wpAny _ A.in1 (pyNext (.ref I) >>= _) _ _ s
    refine wpAny_bind (W.item i s _ _ hlt hst fun v s' hP hst' hm => ?_)
    obtain ⟨t, rfl⟩ := hval i v hP
    have hS' := hm.heap S _ hSw hS
    refine wpAny_bind (wpAny_holding (wpAny_of_eq (rfl : asIndex (.int (val i : Nat) t) = pure ((val i : Nat) : Int)) ?_))
    refine wpAny_bind (wpAny_letGo ?_)
    refine bm_if_false (by simp only [Bool.or_eq_false_iff, decide_eq_false_iff_not]; omega) ?_
    refine wpAny_bind ?_
    show wpAny _ _ (updateBytearray S (·.push ((val i : Nat) : Int).toNat.toUInt8)) _ _ _
    rw [Int.toNat_natCast]
    unfold updateBytearray
    refine wpAny_bind (wpAny_load hS' ?_)
    show wpAny _ _ (update S (Obj.mapBytearray (·.push (val i).toUInt8)) >>= fun _ => lookBehind S) _ _ _
    refine wpAny_bind (wpAny_update hS' ?_)
    have hS₂ : (s'.heap.update S (Obj.mapBytearray (·.push (val i).toUInt8))).get? S = some { cls := .type "bytearray", data := .bytearray (bOf val (i + 1)) } := by
      rw [bOf_succ]
      exact Heap.get?_update_self (Obj.mapBytearray (·.push (val i).toUInt8)) hS' rfl
    refine wpAny_lookBehind hS₂ ?_ ?_
    · show (if (bOf val (i + 1)).size > sizeLine then some "bytearray:memory" else none) = none
      rw [if_neg]
      rw [bOf_size]
      omega
    · refine wpAny_pure ⟨plainId_quiet F.bm_plain_loop _, ih (i + 1) { s' with heap := s'.heap.update S (Obj.mapBytearray (·.push (val i).toUInt8)) } (by rw [Nat.sub_succ, hk]; rfl) hlt ?_ hS₂ fun s3 t3 tk3 hm3 ht3 => ?_⟩
      · refine W.frame (i + 1) s' _ s'.toks hst' (Nat.le_refl _) fun b hb o e => ?_
        exact (Heap.get?_update_other _ _ (fun q => hSf (by rw [q]; exact hb))).trans e
      · refine hR s3 t3 tk3 (Moved.trans W.gtrans ((hm.mono hsub).then_heap (Nat.le_refl _) fun b o hb e => ?_) hm3) ht3
        exact (Heap.get?_update_other _ _ (fun q => hb (by rw [q]; exact List.mem_cons_self))).trans e
theorem bytes_newS {I : Addr} {fp wr : List Addr} {G : Array GenState → Array GenState → Prop} {n : Nat} {P : Nat → Value → Prop} {St : Nat → Shared → Prop} {val : Nat → Nat} {Q : Value → Shared → Prop}
    (hT : s.TypeIs (.ref I) "generator") (hdat : ∀ o, s.heap.get? I = some o → ∃ vs, o.data = .fields vs) (hW : ∀ u, u ≤ A.units + 20 → WalksS prog w { A with units := u } I fp wr G n P St) (hst : St 0 s) (hfp : ∀ b ∈ fp, b < s.heap.objs.size)
    (hval : ∀ i v, P i v → ∃ t, v = .int (val i : Nat) t) (hr : ∀ i, i < n → val i < 256) (hz : n ≤ sizeLine)
    (hQ : ∀ s' t tk, Moved (s.heap.objs.size :: wr) G { s with heap := s.heap.push { cls := .type "bytearray", data := .bytearray #[] } } s' → s'.toks ≤ tk → Q (.bytes (bOf val n) t) { s' with toks := tk }) :
    codeAny (model prog w) A (.call (.builtin "bytes.__new__") ⟨[.type "bytes", .ref I], []⟩) (wants Q E) s := by
  refine codeAny_of_tree ?_
  show wpAny _ A.in1 (do checkBuiltinCall "bytes.__new__" ⟨[.type "bytes", .ref I], []⟩; again (.builtin "bytes.__new__" ⟨[.type "bytes", .ref I], []⟩)) _ _ s
  refine wpAny_bind (wpAny_of_eq (F.bm_newCall _) (wpAny_pure ⟨plainId_quiet F.bm_plain _, codeAny_builtin F.bm_entry ?_⟩))
  rw [Around.under_plainId F.bm_plain _]
  obtain ⟨ol, hol, hoc⟩ := id hT
  obtain ⟨vs, hod⟩ := hdat ol hol
  unfold Builtin.«bytes.__new__»
  refine wpAny_bind (wpAny_of_eq (a := true) rfl ?_)
  refine bm_if_false rfl ?_
  refine wpAny_bind (wpAny_of_eq F.bm_sub ?_)
  refine bm_if_false rfl ?_
  refine wpAny_bind (wpAny_of_eq (F.bm_bind _) ?_)
  refine wpAny_bind (wpAny_of_eq (a := ()) rfl ?_)
  refine wpAny_bind (wpAny_of_eq (a := ()) rfl ?_)
  refine bm_if_false rfl ?_
  refine wpAny_bind (wpAny_specialOf hT bg_no_bytes ?_)
  refine wpAny_bind (wpAny_bind ?_)
  show wpAny _ _ (load I >>= _) _ _ _
  refine wpAny_bind (wpAny_load hol ?_)
  rw [hod]
  refine wpAny_pure (wpAny_pure ?_)
  refine bm_if_false rfl ?_
  refine wpAny_bind (wpAny_specialOf hT bg_no_index ?_)
  refine bm_if_true rfl ?_
  first
    | show wpAny _ _ (Builtin.Bytes.buffer? "bytes.__new__" (.ref I) true >>= _) _ _ _
    | (refine wpAny_bind ?_; show wpAny _ _ (Builtin.Bytes.buffer? "bytes.__new__" (.ref I) true >>= _) _ _ _)
  refine wpAny_bind ?_
  unfold Builtin.Bytes.buffer?
  refine wpAny_bind (wpAny_specialOf hT bg_no_buffer ?_)
  refine wpAny_bind (wpAny_specialOf hT bg_no_buffer ?_)
  refine wpAny_pure ?_
  refine wpAny_bind (wpAny_tryCatch ((hW (A.units + 1) (by omega)).self 0 s _ _ hst ?_))
  refine wpAny_bind (wpAny_holding ?_)
  unfold Builtin.Bytes.lengthHint
  refine wpAny_bind (wpAny_specialOf hT bg_no_len ?_)
  dsimp only
  refine bm_if_false rfl ?_
  refine bm_if_false rfl ?_
  refine wpAny_bind (wpAny_specialOf hT bg_no_hint ?_)
  refine wpAny_pure ?_
  refine wpAny_bind ?_
  unfold Builtin.Bytes.newBytearray
  refine wpAny_newObj_type ?_ (Nat.zero_le _)
  have hSf : s.heap.objs.size ∉ fp := fun q => absurd (hfp _ q) (Nat.lt_irrefl _)
  have hst1 : St 0 { s with heap := s.heap.push { cls := .type "bytearray", data := .bytearray #[] } } := (hW A.units (by omega)).frame 0 s _ s.toks hst (Nat.le_refl _) fun b _ o e => Heap.get?_push_of_some _ e
  have main := bytes_loopS (prog := prog) (w := w) (A := A) (R := wants Q E) (hW (A.units + 1) (by omega)) s.heap.objs.size hSf hval hr hz n 0 { s with heap := s.heap.push { cls := .type "bytearray", data := .bytearray #[] } } rfl (Nat.zero_le _) hst1 (Heap.get?_push_size _ rfl)
    fun s' t tk hm ht => hQ s' t tk hm ht
  first
    | exact wpAny_pure ⟨plainId_quiet F.bm_plain_loop _, main⟩
    | exact wpAny_pure (wpAny_pure ⟨plainId_quiet F.bm_plain_loop _, main⟩)
theorem call_bytes_walkS {I : Addr} {fp wr : List Addr} {G : Array GenState → Array GenState → Prop} {n : Nat} {P : Nat → Value → Prop} {St : Nat → Shared → Prop} {val : Nat → Nat} {Q : Value → Shared → Prop}
    (hT : s.TypeIs (.ref I) "generator") (hdat : ∀ o, s.heap.get? I = some o → ∃ vs, o.data = .fields vs) (hW : ∀ u, u ≤ A.units + 30 → WalksS prog w { A with units := u } I fp wr G n P St) (hst : St 0 s) (hfp : ∀ b ∈ fp, b < s.heap.objs.size)
    (hval : ∀ i v, P i v → ∃ t, v = .int (val i : Nat) t) (hr : ∀ i, i < n → val i < 256) (hz : n ≤ sizeLine)
    (hQ : ∀ s' t tk, Moved (s.heap.objs.size :: wr) G { s with heap := s.heap.push { cls := .type "bytearray", data := .bytearray #[] } } s' → s'.toks ≤ tk → Q (.bytes (bOf val n) t) { s' with toks := tk }) :
    wpAny (model prog w) A (call (.type "bytes") [.ref I]) Q E s := by
  refine callType_codes (Q₁ := fun obj s₁ => s₁.TypeIs obj "bytes" ∧ Q obj s₁) F.bm_called (F.bm_typeCall _) F.entry_object_init
    (bytes_newS (A := A.in1) hT hdat (fun u hu => hW u (by have : u ≤ A.units + 1 + 20 := hu; omega)) hst hfp hval hr hz fun s' t tk hm ht => ⟨PySem.W.typeIs_bytes _ _ _, hQ s' t tk hm ht⟩) fun obj s₁ h₁ => ?_
  exact ⟨h₁.1, F.args_object_init_2 obj _, object_init_meets F.bm_called.init.lookup F.bm_called.made (by decide) prog w A.in1 _ s₁ ⟨h₁.1, rfl, h₁.2⟩⟩
theorem bytes_gen {dp un u : Nat} {fr : Option (List Env)} {gd : Option (List Code)} {K a : Addr} {n : Nat} {F : Nat → Value → Prop} {Q : Value → Shared → Prop} (G : GenIt prog w dp fr gd un K a n F s) (hu : u + 40 ≤ un) {val : Nat → Nat} (hval : ∀ i v, F i v → ∃ t, v = .int (val i : Nat) t) (hr : ∀ i, i < n → val i < 256) (hz : n ≤ sizeLine)
    (h : ∀ t h' tk gs, GB s.gens gs → Low K s.heap h' → Q (.bytes (bOf val n) t) { s with heap := h', toks := tk, gens := gs }) :
    wpAny (model prog w) { handled := none, depth := dp, frames := fr, guards := gd, units := u } (call (.type "bytes") [.ref a]) Q E s := by
  obtain ⟨fp, wr, g, St, W, hst, hty, haf, hfp, hwr⟩ := G.it
  have hKs := G.le
  refine call_bytes_walkS (A := { handled := none, depth := dp, frames := fr, guards := gd, units := u }) (hty 0 s hst).typeIs ?_ (fun u' hu' => walksUnits (A := { handled := none, depth := dp, frames := fr, guards := gd, units := un }) (u := u') W (by have : u' ≤ u + 30 := hu'; show u' ≤ un; omega)) hst hfp hval hr hz fun s' t tk hm ht => ?_
  · intro o ho
    obtain ⟨o', nm, qn, e, r⟩ := hty 0 s hst
    rw [ho] at e; cases e
    exact ⟨_, r.2.1⟩
  obtain ⟨h', g', d', tk', os'⟩ := s'
  have ed : d' = s.drawn := hm.drawn
  have eo : os' = s.os := hm.os
  subst ed eo
  refine h t h' tk g' (fun hb => hm.gens.bare hb) (fun b o hb e => hm.heap b o ?_ (Heap.get?_push_of_some _ e))
  intro q
  rcases List.mem_cons.mp q with rfl | q
  · exact absurd (Heap.lt_size e) (Nat.lt_irrefl _)
  · exact absurd hb (Nat.not_lt.mpr (hwr b q))
end
end
section
section
variable {prog : Program} {w : World} {A : Around} {s : Shared} {E : Value → Shared → Prop}
open Builtin in
theorem nb_item {it : Addr} {i : Nat} {b : Array UInt8} {t : Tok} {c : UInt8} {Q : Value → Shared → Prop} (hit : KBw.IsBytesIter s.heap it b t i) (hx : b[i]? = some c)
    (hQ : ∀ h', KBw.IsBytesIter h' it b t (i + 1) → Heap.SameBut it s.heap h' → Q (.int (c.toNat : Int) s.toks) { s with heap := h', toks := s.toks + 1 }) : wpAny (model prog w) A (SmallTypes.nextOf (.ref it)) Q E s := by
  obtain ⟨o, ho, hc, hd⟩ := id hit
  unfold SmallTypes.nextOf
  refine wpAny_bind (wpAny_callSpecial?_slot (name := Str.ofString "__next__") (KBw.iter_typeIs hit) KBw.slot_next (wpAny_call_entry KBw.slot_next (KBw.iter_typeIs hit) KBw.entry_next ?_ (KBw.args_next _)))
  show wpAny _ _ (field (.ref it) 0 >>= _) _ _ s
  refine wpAny_bind (wpAny_field ho hd (x := .bytes b t) rfl ?_)
  show wpAny _ _ (if (Value.bytes b t == Value.none) = true then _ else _) _ _ s
  rw [if_neg (show ¬ ((Value.bytes b t == Value.none) = true) from Bool.false_ne_true)]
  show wpAny _ _ (field (.ref it) 1 >>= _) _ _ s
  refine wpAny_bind (wpAny_field ho hd (x := .int i 0) rfl ?_)
  refine wpAny_bind (wpAny_of_eq (a := b) rfl ?_)
  simp only [Int.toNat_natCast, hx]
  refine wpAny_bind (wpAny_setField ho hd (by simp) (wpAny_bind (wpAny_mkInt (wpAny_pure ⟨_, rfl, wpAny_pure (hQ _ ?_ (Heap.SameBut.update ..))⟩))))
  exact ⟨_, Heap.get?_update_self _ ho (Obj.isFreed_of_fields (Obj.data_mapFields hd _)), (Obj.cls_mapFields ..).trans hc, by
    rw [Obj.data_mapFields hd]; simp [rawInt]⟩
open Builtin in
theorem nb_end {it : Addr} {i : Nat} {b : Array UInt8} {t : Tok} {Q : Value → Shared → Prop} (hh : A.handled = none) (hit : KBw.IsBytesIter s.heap it b t i) (hx : b[i]? = none)
    (hE : ∀ h' e, Heap.ExtBut it s.heap h' → (∃ o, h'.get? e = some o ∧ o.cls = .type "StopIteration") → E (.ref e) { s with heap := h' }) : wpAny (model prog w) A (SmallTypes.nextOf (.ref it)) Q E s := by
  obtain ⟨o, ho, hc, hd⟩ := id hit
  unfold SmallTypes.nextOf
  refine wpAny_bind (wpAny_callSpecial?_slot (name := Str.ofString "__next__") (KBw.iter_typeIs hit) KBw.slot_next (wpAny_call_entry KBw.slot_next (KBw.iter_typeIs hit) KBw.entry_next ?_ (KBw.args_next _)))
  show wpAny _ _ (field (.ref it) 0 >>= _) _ _ s
  refine wpAny_bind (wpAny_field ho hd (x := .bytes b t) rfl ?_)
  show wpAny _ _ (if (Value.bytes b t == Value.none) = true then _ else _) _ _ s
  rw [if_neg (show ¬ ((Value.bytes b t == Value.none) = true) from Bool.false_ne_true)]
  show wpAny _ _ (field (.ref it) 1 >>= _) _ _ s
  refine wpAny_bind (wpAny_field ho hd (x := .int i 0) rfl ?_)
  refine wpAny_bind (wpAny_of_eq (a := b) rfl ?_)
  simp only [Int.toNat_natCast, hx]
  refine wpAny_bind (wpAny_rule (wpAny_bind (wpAny_setField ho hd (by simp) ?_)))
  show wpAny _ _ (newExc (.type "StopIteration") [] >>= _) _ _ _
  refine wpAny_bind ?_
  simp only [newExc, newTuple]
  refine wpAny_bind (wpAny_newObj_type ?_ (by size_fits))
  refine wpAny_bind (m := firstArgMember _ _) (wpAny_of_eq (a := Value.none) (by first | rfl | (simp only [firstArgMember]; rfl)) ?_)
  refine wpAny_newObj_type ?_ (by size_fits)
  simp only [raiseNew]
  refine wpAny_bind (wpAny_handled ?_)
  rw [show A.in1.handled = none from hh]
  refine wpAny_bind (wpAny_pure (wpAny_throw ?_))
  exact hE _ _ (((Heap.SameBut.update ..).extBut.push _).push _) ⟨_, Heap.get?_push_size _ rfl, rfl⟩
structure ZB (h : Heap) (z TI TO i1 i2 : Addr) (b1 b2 : Array UInt8) (t1 t2 : Tok) (k : Nat) (f0 : Value) : Prop where
  z : IsZip h z TI TO f0
  ti : IsPair h TI (.ref i1) (.ref i2)
  to : ∃ a b, IsPair h TO a b
  i1 : KBw.IsBytesIter h i1 b1 t1 k
  i2 : KBw.IsBytesIter h i2 b2 t2 k
theorem ne_of_objs {h : Heap} {a b : Addr} {o o' : Obj} (e : h.get? a = some o) (e' : h.get? b = some o') (n : o.cls ≠ o'.cls) : a ≠ b := by
  rintro rfl
  rw [e] at e'; cases e'; exact n rfl
theorem biter_at {h h' : Heap} {it : Addr} {b : Array UInt8} {t : Tok} {i : Nat} (x : KBw.IsBytesIter h it b t i) (k : ∀ o, h.get? it = some o → h'.get? it = some o) : KBw.IsBytesIter h' it b t i := let ⟨o, e, r⟩ := x; ⟨o, k _ e, r⟩
structure ZD (z TI TO i1 i2 : Addr) : Prop where
  a : TI ≠ TO
  b : i1 ≠ i2
theorem zip_item {z TI TO i1 i2 : Addr} {b1 b2 : Array UInt8} {t1 t2 : Tok} {k : Nat} {x y : UInt8} {Q : Option Value → Shared → Prop} (D : ZD z TI TO i1 i2) (Z : ZB s.heap z TI TO i1 i2 b1 b2 t1 t2 k .none)
    (hx : b1[k]? = some x) (hy : b2[k]? = some y)
    (hQ : ∀ h' (T : Addr) u v tk, ZB h' z TI TO i1 i2 b1 b2 t1 t2 (k + 1) (rawInt T) → IsPair h' T (.int (x.toNat : Int) u) (.int (y.toNat : Int) v) → s.heap.objs.size ≤ T →
      (∀ c o, c ∉ [z, TO, i1, i2] → s.heap.get? c = some o → h'.get? c = some o) → Q (some (.ref T)) { s with heap := h', toks := tk }) :
    wpAny (model prog w) A (pyNext (.ref z)) Q E s := by
  obtain ⟨hz, hTI, ⟨a, b, hTO⟩, h1, h2⟩ := Z
  obtain ⟨o1, ho1, hc1, hd1⟩ := id h1
  obtain ⟨o2, ho2, hc2, hd2⟩ := id h2
  have TIz : TI ≠ z := ne_of_objs hTI hz (by simp)
  have TOz : TO ≠ z := ne_of_objs hTO hz (by simp)
  have i1z : i1 ≠ z := ne_of_objs ho1 hz (by rw [hc1]; simp)
  have i2z : i2 ≠ z := ne_of_objs ho2 hz (by rw [hc2]; simp)
  have TOi1 : TO ≠ i1 := ne_of_objs hTO ho1 (by rw [hc1]; simp)
  have TOi2 : TO ≠ i2 := ne_of_objs hTO ho2 (by rw [hc2]; simp)
  have TIi1 : TI ≠ i1 := ne_of_objs hTI ho1 (by rw [hc1]; simp)
  have TIi2 : TI ≠ i2 := ne_of_objs hTI ho2 (by rw [hc2]; simp)
  have hT : s.TypeIs (.ref z) "zip" := ⟨_, hz, rfl⟩
  unfold pyNext
  refine wpAny_bind (wpAny_attempt (wpAny_callSpecial?_slot (name := Str.ofString "__next__") hT F.slot_zip_next (wpAny_call_entry F.slot_zip_next hT F.entry_zip_next ?_ (F.args_zip_next_1 _))))
  show wpAny _ _ (field (.ref z) 2 >>= _) _ _ _
  refine wpAny_bind (wpAny_field hz rfl (x := .bool false) rfl ?_)
  show wpAny _ _ (field (.ref z) 3 >>= _) _ _ _
  refine wpAny_bind (wpAny_field hz rfl (x := .ref TI) rfl ?_)
  refine wpAny_bind (wpAny_seqItems hTI rfl ?_)
  show wpAny _ _ (Builtin.SmallTypes.ownedTupleIsFree (.ref z) >>= _) _ _ _
  refine wpAny_bind ?_
  unfold Builtin.SmallTypes.ownedTupleIsFree
  refine wpAny_bind (wpAny_field hz rfl (x := .none) rfl (wpAny_pure ?_))
  simp only [if_true]
  refine wpAny_bind (wpAny_rule ?_)
  refine wpAny_bind (wpAny_field hz rfl (x := .ref TO) rfl ?_)
  refine wpAny_bind (wpAny_setField_rec hz (by simp) fun h₁ hz₁ hs₁ => ?_)
  replace hz₁ : IsZip h₁ z TI TO .ellipsis := hz₁
  refine wpAny_bind ?_
  simp only [List.zipIdx_cons, List.zipIdx_nil, List.forIn_cons, List.forIn_nil]
  refine wpAny_bind (wpAny_bind (wpAny_onRaise ?_))
  show wpAny _ _ (Builtin.SmallTypes.nextOf (.ref i1) >>= _) _ _ _
  refine wpAny_bind (nb_item (biter_at h1 fun o e => hs₁.extBut _ o i1z e) hx fun h₂ h1₂ hs₂ => wpAny_pure ?_)
  have hTO₂ : IsPair h₂ TO a b := hs₂.extBut _ _ TOi1 (hs₁.extBut _ _ TOz hTO)
  refine wpAny_bind (wpAny_seqItems hTO₂ rfl ?_)
  refine wpAny_bind (wpAny_updateSeq_pair hTO₂ fun h₃ hTO₃ hs₃ => ?_)
  replace hTO₃ : IsPair h₃ TO (.int (x.toNat : Int) s.toks) b := hTO₃
  refine wpAny_bind (wpAny_letGo (wpAny_pure ?_))
  refine wpAny_bind (wpAny_bind (wpAny_onRaise ?_))
  show wpAny _ _ (Builtin.SmallTypes.nextOf (.ref i2) >>= _) _ _ _
  refine wpAny_bind (nb_item (biter_at h2 fun o e => hs₃.extBut _ o TOi2.symm (hs₂.extBut _ o D.b.symm (hs₁.extBut _ o i2z e))) hy fun h₄ h2₄ hs₄ => wpAny_pure ?_)
  have hTO₄ : IsPair h₄ TO (.int (x.toNat : Int) s.toks) b := hs₄.extBut _ _ TOi2 hTO₃
  refine wpAny_bind (wpAny_seqItems hTO₄ rfl ?_)
  refine wpAny_bind (wpAny_updateSeq_pair hTO₄ fun h₅ hTO₅ hs₅ => ?_)
  replace hTO₅ : IsPair h₅ TO (.int (x.toNat : Int) s.toks) (.int (y.toNat : Int) (s.toks + 1)) := hTO₅
  refine wpAny_bind (wpAny_letGo (wpAny_pure (wpAny_pure ?_)))
  refine wpAny_bind (wpAny_seqItems hTO₅ rfl ?_)
  refine wpAny_bind (wpAny_newTuple ?_)
  have hsz : h₅.objs.size = s.heap.objs.size := by rw [hs₅.1, hs₄.1, hs₃.1, hs₂.1, hs₁.1]
  have hz₅ : IsZip h₅ z TI TO .ellipsis := hs₅.extBut _ _ TOz.symm (hs₄.extBut _ _ i2z.symm (hs₃.extBut _ _ TOz.symm (hs₂.extBut _ _ i1z.symm hz₁)))
  have k5 : ∀ c o, c ∉ [z, TO, i1, i2] → s.heap.get? c = some o → h₅.get? c = some o := fun c o hc e => by
    simp only [List.mem_cons, List.not_mem_nil, or_false, not_or] at hc
    obtain ⟨c1, c2, c3, c4⟩ := hc
    exact hs₅.extBut _ _ c2 (hs₄.extBut _ _ c4 (hs₃.extBut _ _ c2 (hs₂.extBut _ _ c3 (hs₁.extBut _ _ c1 e))))
  have h1₅ : KBw.IsBytesIter h₅ i1 b1 t1 (k + 1) := biter_at h1₂ fun o e => hs₅.extBut _ o TOi1.symm (hs₄.extBut _ o D.b (hs₃.extBut _ o TOi1.symm e))
  have h2₅ : KBw.IsBytesIter h₅ i2 b2 t2 (k + 1) := biter_at h2₄ fun o e => hs₅.extBut _ o TOi2.symm e
  have hzlt : z < h₅.objs.size := Heap.lt_size hz₅
  show wpAny _ _ (Builtin.SmallTypes.ownedTupleHandOut (.ref z) (.ref h₅.objs.size) >>= _) _ _ _
  refine wpAny_bind ?_
  unfold Builtin.SmallTypes.ownedTupleHandOut
  have hz₆ : IsZip (h₅.push { cls := .type "tuple", data := .seq #[.int (x.toNat : Int) s.toks, .int (y.toNat : Int) (s.toks + 1)] }) z TI TO .ellipsis := Heap.get?_push_of_some _ hz₅
  refine wpAny_bind (wpAny_setField_rec hz₆ (by simp) fun h₇ hz₇ hs₇ => ?_)
  replace hz₇ : IsZip h₇ z TI TO (rawInt h₅.objs.size) := hz₇
  refine wpAny_setField_rec hz₇ (by simp) fun h₈ hz₈ hs₈ => ?_
  replace hz₈ : IsZip h₈ z TI TO (rawInt h₅.objs.size) := hz₈
  have up : ∀ c o, c ≠ z → h₅.get? c = some o → h₈.get? c = some o := fun c o c1 e => hs₈.extBut _ _ c1 (hs₇.extBut _ _ c1 (Heap.get?_push_of_some _ e))
  have hT₈ : IsPair h₈ h₅.objs.size (.int (x.toNat : Int) s.toks) (.int (y.toNat : Int) (s.toks + 1)) := hs₈.extBut _ _ (Nat.ne_of_gt hzlt) (hs₇.extBut _ _ (Nat.ne_of_gt hzlt) (Heap.get?_push_size _ rfl))
  refine wpAny_pure ⟨_, rfl, ?_⟩
  refine wpAny_pure ?_
  have hTI5 : IsPair h₅ TI (.ref i1) (.ref i2) := hs₅.extBut _ _ D.a (hs₄.extBut _ _ TIi2 (hs₃.extBut _ _ D.a (hs₂.extBut _ _ TIi1 (hs₁.extBut _ _ TIz hTI))))
  exact hQ h₈ h₅.objs.size _ _ _ ⟨hz₈, up _ _ TIz hTI5, ⟨_, _, up _ _ TOz hTO₅⟩, biter_at h1₅ fun o e => up _ o i1z e, biter_at h2₅ fun o e => up _ o i2z e⟩ hT₈ (Nat.le_of_eq hsz.symm)
    fun c o hc e => up c o (fun q => hc (by simp [q])) (k5 c o hc e)
theorem zip_end {z TI TO i1 i2 : Addr} {b1 b2 : Array UInt8} {t1 t2 : Tok} {k : Nat} {Q : Option Value → Shared → Prop} (hh : A.handled = none) (Z : ZB s.heap z TI TO i1 i2 b1 b2 t1 t2 k .none)
    (hx : b1[k]? = none)
    (hQ : ∀ h', (∀ c o, c ∉ [z, TO, i1, i2] → s.heap.get? c = some o → h'.get? c = some o) → Q none { s with heap := h' }) :
    wpAny (model prog w) A (pyNext (.ref z)) Q E s := by
  obtain ⟨hz, hTI, ⟨a, b, hTO⟩, h1, h2⟩ := Z
  obtain ⟨o1, ho1, hc1, hd1⟩ := id h1
  have i1z : i1 ≠ z := ne_of_objs ho1 hz (by rw [hc1]; simp)
  have hT : s.TypeIs (.ref z) "zip" := ⟨_, hz, rfl⟩
  unfold pyNext
  refine wpAny_bind (wpAny_attempt (wpAny_callSpecial?_slot (name := Str.ofString "__next__") hT F.slot_zip_next (wpAny_call_entry F.slot_zip_next hT F.entry_zip_next ?_ (F.args_zip_next_1 _))))
  show wpAny _ _ (field (.ref z) 2 >>= _) _ _ _
  refine wpAny_bind (wpAny_field hz rfl (x := .bool false) rfl ?_)
  show wpAny _ _ (field (.ref z) 3 >>= _) _ _ _
  refine wpAny_bind (wpAny_field hz rfl (x := .ref TI) rfl ?_)
  refine wpAny_bind (wpAny_seqItems hTI rfl ?_)
  show wpAny _ _ (Builtin.SmallTypes.ownedTupleIsFree (.ref z) >>= _) _ _ _
  refine wpAny_bind ?_
  unfold Builtin.SmallTypes.ownedTupleIsFree
  refine wpAny_bind (wpAny_field hz rfl (x := .none) rfl (wpAny_pure ?_))
  simp only [if_true]
  refine wpAny_bind (wpAny_rule ?_)
  refine wpAny_bind (wpAny_field hz rfl (x := .ref TO) rfl ?_)
  refine wpAny_bind (wpAny_setField_rec hz (by simp) fun h₁ hz₁ hs₁ => ?_)
  replace hz₁ : IsZip h₁ z TI TO .ellipsis := hz₁
  refine wpAny_bind ?_
  simp only [List.zipIdx_cons, List.zipIdx_nil, List.forIn_cons, List.forIn_nil]
  refine wpAny_bind (wpAny_bind (wpAny_onRaise ?_))
  show wpAny _ _ (Builtin.SmallTypes.nextOf (.ref i1) >>= _) _ _ _
  refine wpAny_bind (nb_end hh (biter_at h1 fun o e => hs₁.extBut _ o i1z e) hx fun h₂ e hs₂ he => ?_)
  obtain ⟨oe, hoe, hce⟩ := he
  have hz₂ : IsZip h₂ z TI TO .ellipsis := hs₂ _ _ i1z.symm hz₁
  have hez : e ≠ z := fun x => by subst x; rw [hz₂] at hoe; cases hoe; simp at hce
  refine wpAny_setField_rec hz₂ (by simp) fun h₃ _ hs₃ => ?_
  have hoe3 := hs₃.extBut _ _ hez hoe
  refine wpAny_bind (wpAny_isInstance (T := "StopIteration") (b := true) ⟨oe, hoe3, hce⟩ isSubtype_stop ?_)
  refine wpAny_pure (hQ _ fun c o hc e => ?_)
  simp only [List.mem_cons, List.not_mem_nil, or_false, not_or] at hc
  exact hs₃.extBut _ _ hc.1 (hs₂ _ _ hc.2.2.1 (hs₁.extBut _ _ hc.1 e))
end
end
section
abbrev bi0 (b : Array UInt8) (t : Tok) : Obj := { cls := .type "bytes_iterator", data := .fields #[.bytes b t, .int 0 0] }
abbrev zb1 (h : Heap) (b1 : Array UInt8) (t1 : Tok) : Heap := h.push (bi0 b1 t1)
abbrev zb2 (h : Heap) (b1 b2 : Array UInt8) (t1 t2 : Tok) : Heap := (zb1 h b1 t1).push (bi0 b2 t2)
abbrev zb3 (h : Heap) (b1 b2 : Array UInt8) (t1 t2 : Tok) : Heap := (zb2 h b1 b2 t1 t2).push { cls := .type "tuple", data := .seq #[.ref h.objs.size, .ref (zb1 h b1 t1).objs.size] }
abbrev zb4 (h : Heap) (b1 b2 : Array UInt8) (t1 t2 : Tok) : Heap := (zb3 h b1 b2 t1 t2).push { cls := .type "tuple", data := .seq #[.none, .none] }
abbrev zb5 (h : Heap) (b1 b2 : Array UInt8) (t1 t2 : Tok) : Heap := (zb4 h b1 b2 t1 t2).push { cls := .type "zip", data := .fields #[.none, .bool false, .bool false, .ref (zb2 h b1 b2 t1 t2).objs.size, .ref (zb3 h b1 b2 t1 t2).objs.size] }
theorem meets_zipb (b1 b2 : Array UInt8) (t1 t2 : Tok) :
    Meets (Builtin.«zip.__new__» ⟨[.type "zip", .bytes b1 t1, .bytes b2 t2], []⟩) (fun _ R s => R (.ok (.ret (.ref (zb4 s.heap b1 b2 t1 t2).objs.size))) { s with heap := zb5 s.heap b1 b2 t1 t2 }) :=
  .of_wp fun prog w A R s h => by
    obtain ⟨hp, g, d, tk, os⟩ := s
    have hsub := sub_zip
    wp_walk using KBw.pyIter_bytes
    exact ⟨_, rfl, h⟩
section
variable {prog : Program} {w : World} {A : Around} {s : Shared} {E : Value → Shared → Prop}
theorem zip_make {b1 b2 : Array UInt8} {t1 t2 : Tok} {Q : Value → Shared → Prop}
    (h : ∀ h' (z TI TO i1 i2 : Addr), ZD z TI TO i1 i2 → ZB h' z TI TO i1 i2 b1 b2 t1 t2 0 .none → Ext s.heap h' → s.heap.objs.size ≤ z → s.heap.objs.size ≤ TO → s.heap.objs.size ≤ i1 → s.heap.objs.size ≤ i2 → Q (.ref z) { s with heap := h' }) :
    wpAny (model prog w) A (call (.type "zip") [.bytes b1 t1, .bytes b2 t2]) Q E s := by
  refine callType_new F.called_zip (by decide) (F.typeCall_zip_2 _ _) (F.newCall_zip_2 _ _) (fun obj => F.args_object_init_3 obj _ _) F.entry_zip_new (meets_zipb b1 b2 t1 t2) ?_
  have z1 : (zb1 s.heap b1 t1).objs.size = s.heap.objs.size + 1 := Heap.size_push ..
  have z2 : (zb2 s.heap b1 b2 t1 t2).objs.size = s.heap.objs.size + 2 := by rw [Heap.size_push, z1]
  have z3 : (zb3 s.heap b1 b2 t1 t2).objs.size = s.heap.objs.size + 3 := by rw [Heap.size_push, z2]
  have z4 : (zb4 s.heap b1 b2 t1 t2).objs.size = s.heap.objs.size + 4 := by rw [Heap.size_push, z3]
  have g5 : (zb5 s.heap b1 b2 t1 t2).get? (zb4 s.heap b1 b2 t1 t2).objs.size = some _ := Heap.get?_push_size _ rfl
  have g4 : (zb5 s.heap b1 b2 t1 t2).get? (zb3 s.heap b1 b2 t1 t2).objs.size = some _ := Heap.get?_push_of_some _ (Heap.get?_push_size _ rfl)
  have g3 : (zb5 s.heap b1 b2 t1 t2).get? (zb2 s.heap b1 b2 t1 t2).objs.size = some _ := Heap.get?_push_of_some _ (Heap.get?_push_of_some _ (Heap.get?_push_size _ rfl))
  have g2 : (zb5 s.heap b1 b2 t1 t2).get? (zb1 s.heap b1 t1).objs.size = some _ := Heap.get?_push_of_some _ (Heap.get?_push_of_some _ (Heap.get?_push_of_some _ (Heap.get?_push_size _ rfl)))
  have g1 : (zb5 s.heap b1 b2 t1 t2).get? s.heap.objs.size = some _ := Heap.get?_push_of_some _ (Heap.get?_push_of_some _ (Heap.get?_push_of_some _ (Heap.get?_push_of_some _ (Heap.get?_push_size _ rfl))))
  refine ⟨⟨_, g5, rfl⟩, h _ _ _ _ _ _ ⟨?_, ?_⟩ ⟨g5, g3, ⟨_, _, g4⟩, ⟨_, g1, rfl, rfl⟩, ⟨_, g2, rfl, rfl⟩⟩ (fun c o x => ?_) ?_ ?_ ?_ ?_⟩
  · rw [z2, z3]; exact Nat.ne_of_lt (Nat.lt_succ_self _)
  · rw [z1]; exact Nat.ne_of_lt (Nat.lt_succ_self _)
  · exact Heap.get?_push_of_some _ (Heap.get?_push_of_some _ (Heap.get?_push_of_some _ (Heap.get?_push_of_some _ (Heap.get?_push_of_some _ x))))
  · rw [z4]; exact Nat.le_add_right _ _
  · rw [z3]; exact Nat.le_add_right _ _
  · exact Nat.le_refl _
  · rw [z1]; exact Nat.le_add_right _ _
theorem gen_zip {dp : Nat} {fr : Option (List Env)} {gd : Option (List Code)} {un dm um : Nat} {env : Env} {c P : Addr} {elt iter : Expr} {x y : Str} {px py pt : Pos} {kt : Nat} {scope : Scope} {cl : List (Str × Addr)} {pos : Pos} {b1 b2 : Array UInt8} {F : Nat → Value → Prop} {Q : Value → Shared → Prop}
    (hco : scope.isCoroutine = false) (hclos : closureFor scope env = pure cl) (hcell : ∀ y ∈ scope.names, y.2 ≠ .cell) (h0 : scope.names.lookup (".0" : Str) = some NameKind.local) (hkind : scope.kind = .function)
    (hx : scope.names.lookup x = some NameKind.local) (hy : scope.names.lookup y = some NameKind.local) (hxy : x ≠ y) (hcode : env.code = .ref c) (hroom : dp < recursionLimit) (hdm : dp + 1 ≤ dm) (hum : un + 64 ≤ um)
    (hs : ∀ v, genFold iter env v = pure v)
    {K : Addr} (hiter : wpAny (model prog w) { handled := none, depth := dp, frames := fr, guards := gd, units := un } (eval iter env) (fun v s₁ => ∃ z TI TO i1 i2 t1 t2 h' tk, v = .ref z ∧ s₁ = { s with heap := h', toks := tk } ∧ ZD z TI TO i1 i2 ∧ ZB h' z TI TO i1 i2 b1 b2 t1 t2 0 .none ∧ Ext s.heap h' ∧
      (∀ b ∈ [z, TO, i1, i2], K ≤ b ∧ s.heap.get? b = none)) E s)
    (hlim : s.heap.NoLimit) (ht : Tb c P s.heap) (hb : Bm env.globals s.heap) (hsize : b1.size = b2.size)
    (helt : ∀ (A : Around) (E' : Value → Shared → Prop) i v1 v2 u1 u2 C code (s' : Shared) m, Near dm um A → b1[i]? = some v1 → b2[i]? = some v2 → C ≠ P → s'.heap.Ns C m → m x = some (.int (v1.toNat : Int) u1) → m y = some (.int (v2.toNat : Int) u2) →
      (∀ b o, b ≠ P → s.heap.get? b = some o → s'.heap.get? b = some o) →
      wpAny (model prog w) A (eval elt (genEnv scope cl C code builtinsNs env)) (fun y s₄ => F i y ∧ ∃ h tk, s₄ = { s' with heap := h, toks := tk } ∧ Ext s'.heap h) E' s')
    (hQ : ∀ a h₅ tk gs, gs.bare = true → ExtP P s.heap h₅ → Tb c P h₅ → GenIt prog w dp fr gd (un + 60) K a b1.size F { s with gens := s.gens.push gs, toks := tk, heap := h₅ } →
      Q (.ref a) { s with gens := s.gens.push gs, toks := tk, heap := h₅ }) :
    wpAny (model prog w) { handled := none, depth := dp, frames := fr, guards := gd, units := un } (eval (.GeneratorExp elt [⟨.Tuple [.Name x px, .Name y py] kt pt, iter, [], 0⟩] scope pos) env) Q E s := by
  refine genexp_any (P := P) (n := b1.size) (F := F) (K := K) hco hclos hcell h0 hkind hs hcode hroom hdm hum (wpAny_mono hiter (fun v s₁ h₁ => ?_) fun _ _ e => e)
  obtain ⟨z, TI, TO, i1, i2, t1, t2, h₁, tk₁, rfl, rfl, D, Z, e1, lw⟩ := h₁
  have hPa : ∀ b, s.heap.get? b = none → b ≠ P := fun b e q => by obtain ⟨ps, e'⟩ := ht.obj; rw [q, e'] at e; cases e
  have hs1 : K ≤ h₁.objs.size := Nat.le_of_lt (Nat.lt_of_le_of_lt (lw z (by simp)).1 (Heap.lt_size Z.z))
  refine wpAny_pyIter_zip Z.z ⟨z, rfl, hlim.keeps e1, ht.ext e1, hb.extP ht (Ext.p e1), hs1, ?_⟩
  intro code h₃ hx₃ hsz₃ ht₃
  dsimp only at hx₃ hsz₃
  have zP : z ≠ P := hPa _ (lw z (by simp)).2
  have TOP : TO ≠ P := hPa _ (lw TO (by simp)).2
  have i1P : i1 ≠ P := hPa _ (lw i1 (by simp)).2
  have i2P : i2 ≠ P := hPa _ (lw i2 (by simp)).2
  have TIP : TI ≠ P := ne_tab (ht.ext e1) Z.ti (by simp)
  have Z3 : ZB h₃ z TI TO i1 i2 b1 b2 t1 t2 0 .none := by
    obtain ⟨a1, a2, ⟨a, b, a3⟩, a4, a5⟩ := Z
    exact ⟨hx₃ _ _ zP a1, hx₃ _ _ TIP a2, ⟨a, b, hx₃ _ _ TOP a3⟩, biter_at a4 fun o e => hx₃ _ o i1P e, biter_at a5 fun o e => hx₃ _ o i2P e⟩
  have hlim3 : h₃.NoLimit := NoLimit.extP (hlim.keeps e1) (ht.ext e1) hx₃
  have k3 : ∀ b o, b ≠ P → s.heap.get? b = some o → h₃.get? b = some o := fun b o n e => hx₃ b o n (e1 b o e)
  have rng : ∀ b o, h₃.get? b = some o → b ∈ List.range h₃.objs.size := fun b o e => List.mem_range.mpr (Heap.lt_size e)
  have wrle : ∀ b ∈ [z, TO, i1, i2], K ≤ b := fun b hb => (lw b hb).1
  have wrn : ∀ b o, s.heap.get? b = some o → b ∉ [z, TO, i1, i2] := fun b o e q => by rw [(lw b q).2] at e; cases e
  have alive : ∀ b o, s.heap.get? b = some o → b ≠ h₃.objs.size := fun b o e => Nat.ne_of_lt (Nat.lt_of_lt_of_le (Heap.lt_size (e1 b o e)) hsz₃)
  have wrlt : ∀ b ∈ [z, TO, i1, i2], b < h₃.objs.size := by
    intro b hb
    obtain ⟨a1, a2, ⟨a, b', a3⟩, ⟨_, a4, _⟩, ⟨_, a5, _⟩⟩ := Z3
    simp only [List.mem_cons, List.not_mem_nil, or_false] at hb
    rcases hb with rfl | rfl | rfl | rfl
    · exact Heap.lt_size a1
    · exact Heap.lt_size a3
    · exact Heap.lt_size a4
    · exact Heap.lt_size a5
  have CnW : h₃.objs.size ∉ [z, TO, i1, i2] := fun q => absurd (wrlt _ q) (Nat.lt_irrefl _)
  have TIlt : TI < h₃.objs.size := Heap.lt_size Z3.ti
  have frameZ : ∀ {h h' : Heap} {k f0}, ZB h z TI TO i1 i2 b1 b2 t1 t2 k f0 → (∀ b, b < h₃.objs.size → ∀ o, h.get? b = some o → h'.get? b = some o) → ZB h' z TI TO i1 i2 b1 b2 t1 t2 k f0 := by
    intro h h' k f0 x hk
    obtain ⟨a1, a2, ⟨a, b, a3⟩, a4, a5⟩ := x
    exact ⟨hk _ (wrlt _ (by simp)) _ a1, hk _ TIlt _ a2, ⟨a, b, hk _ (wrlt _ (by simp)) _ a3⟩, biter_at a4 fun o e => hk _ (wrlt _ (by simp)) o e, biter_at a5 fun o e => hk _ (wrlt _ (by simp)) o e⟩
  refine ⟨List.range h₃.objs.size, [z, TO, i1, i2], fun i h => ZB h z TI TO i1 i2 b1 b2 t1 t2 i .none ∧ (∃ m, h.Ns h₃.objs.size m) ∧ (∀ b o, b ∉ [z, TO, i1, i2] → h₃.get? b = some o → h.get? b = some o), ?_, ?_, ?_, ?_, ?_, ?_,
    fun a h₅ tk gs hg e t y => hQ a h₅ tk gs hg (fun b o n q => e _ _ (k3 b o n q)) t y⟩
  · refine ⟨?_, ?_, ?_, ?_, ?_⟩
    · intro b hb; exact List.mem_range.mpr (wrlt b hb)
    · rintro i h h' ⟨a1, ⟨m, a2⟩, a3⟩ hk
      exact ⟨frameZ a1 fun b hb o e => hk _ (.tail _ (List.mem_range.mpr hb)) o e, ⟨m, a2.at' fun o e => hk _ (.head _) o e⟩, fun b o n e => hk b (.tail _ (rng b o e)) o (a3 b o n e)⟩
    · rintro A E' i s' hn hi ⟨a1, ⟨m, a2⟩, a3⟩
      have hi2 : i < b2.size := hsize ▸ hi
      have hCs : h₃.objs.size < s'.heap.objs.size := a2.lt
      refine zip_item D a1 (x := b1[i]) (y := b2[i]) (by simp [hi]) (by simp [hi2]) fun h₄ T u v tk Z4 hT4 hTge k4 => ⟨_, rfl, ?_⟩
      have TneC : T ≠ h₃.objs.size := Nat.ne_of_gt (Nat.lt_of_lt_of_le hCs hTge)
      have Tnez : T ≠ z := Nat.ne_of_gt (Nat.lt_of_lt_of_le (Nat.lt_trans (wrlt z (by simp)) hCs) hTge)
      refine wpAny_letOwnedTupleGo_zip Z4.z fun h₅ hz₅ sb₅ => ?_
      have n4 : h₄.Ns h₃.objs.size m := a2.at' fun o e => k4 _ o CnW e
      have n5 : h₅.Ns h₃.objs.size m := n4.at' fun o e => sb₅.extBut _ o (fun q => CnW (by simp [q])) e
      have Z5 : ZB h₅ z TI TO i1 i2 b1 b2 t1 t2 (i + 1) .none := by
        obtain ⟨c1, c2, ⟨a, b, c3⟩, c4, c5⟩ := Z4
        have h1 := c4; have h2 := c5
        obtain ⟨o1, ho1, hc1, hd1⟩ := h1
        obtain ⟨o2, ho2, hc2, hd2⟩ := h2
        exact ⟨hz₅, sb₅.extBut _ _ (ne_of_objs c2 c1 (by simp)) c2, ⟨a, b, sb₅.extBut _ _ (ne_of_objs c3 c1 (by simp)) c3⟩, biter_at c4 fun o e => sb₅.extBut _ o (ne_of_objs ho1 c1 (by rw [hc1]; simp)) e, biter_at c5 fun o e => sb₅.extBut _ o (ne_of_objs ho2 c1 (by rw [hc2]; simp)) e⟩
      have hT5 : h₅.IsTuple T #[.int ((b1[i] : UInt8).toNat : Int) u, .int ((b2[i] : UInt8).toNat : Int) v] := ⟨_, sb₅.extBut _ _ Tnez hT4, rfl, _, rfl⟩
      refine kcp_assign hn.hh hT5 (by show scope.names.lookup x = _; exact hx) (by show scope.names.lookup y = _; exact hy) (by show (scope.kind == .class || (scope.kind == .module && _)) = false; rw [hkind]; rfl) n5 fun h₆ tk₆ n₆ k₆ => ?_
      have up : ∀ b o, b ≠ h₃.objs.size → b ∉ [z, TO, i1, i2] → s'.heap.get? b = some o → h₆.get? b = some o := fun b o q1 q2 e => k₆ b o q1 (sb₅.extBut b o (fun q => q2 (by simp [q])) (k4 b o q2 e))
      refine wpAny_mono (helt A _ i b1[i] b2[i] u v h₃.objs.size code _ _ hn (by simp [hi]) (by simp [hi2]) (fun q => by obtain ⟨ps, e⟩ := ht.obj; exact alive _ _ e q.symm) n₆ ?_ (by simp) fun b o n e => ?_) (fun y s₄ q => ?_) fun _ _ e => e
      · simp [hxy]
      · exact up b o (alive b o e) (wrn b o e) (a3 b o (wrn b o e) (k3 b o n e))
      · obtain ⟨hF, h, tk, rfl, ex⟩ := q
        refine ⟨hF, ⟨h, tk, rfl, fun b o q1 q2 e => ex _ _ (up b o q1 q2 e)⟩, ?_, ⟨_, n₆.keeps ex⟩, fun b o n e => ex _ _ (up b o (Nat.ne_of_lt (Heap.lt_size e)) n (a3 b o n e))⟩
        exact frameZ Z5 fun b hb o e => ex _ _ (k₆ b o (Nat.ne_of_lt hb) e)
    · rintro A E' s' hn ⟨a1, ⟨m, a2⟩, a3⟩
      exact zip_end hn.hh a1 (by simp) fun h' hk => ⟨rfl, h', s'.toks, rfl, fun b o q1 q2 e => hk b o q2 e⟩
    · rintro A E' s' hn st
      exact wpAny_pyIter_zip st.1.z ⟨rfl, GenSince.refl _ _ _, st⟩
  · intro h₄ e n
    exact ⟨frameZ Z3 fun b _ o q => e _ _ q, ⟨_, n⟩, fun b o _ q => e _ _ q⟩
  · intro b hb; exact List.mem_range.mp hb
  · obtain ⟨mc, ⟨o, es, ep, e, _⟩, _⟩ := hlim3; exact rng _ _ e
  · intro hm
    obtain ⟨mc, ⟨o, es, ep, e, _⟩, _⟩ := hlim
    exact wrn _ _ e hm
  · exact wrle
end
end
section
section
variable {prog : Program} {w : World} {A : Around} {s : Shared} {K : Frag} {Q E : Value → Shared → Prop}
  {name qual : Str} {params : Arguments} {body : List Stmt} {scope : Scope} {dV kV doc pm cdv ct oc : Value} {an od : Option Addr} {osl : Array (Option Value)} {f : Addr} {args : List Value} {binds : List (Str × Value)} {S : List Addr} {news : List (Addr × Obj)}
theorem enterC (X : K.In s.heap) (hlim : s.heap.NoLimit)
    (ho : K.lookup f = some ⟨oc, od, .func (fnOf name qual params body scope dV kV doc pm an cdv ct), osl⟩) (hcd : codeIn K cdv qual = true) (hroom : A.depth < recursionLimit)
    (hbind : BindsTo s (fnOf name qual params body scope dV kV doc pm an cdv ct) ⟨args, []⟩ binds) (hkind : (binds.all fun y => scope.names.lookup y.1 == some .local || scope.names.lookup y.1 == some .cell) = true)
    (hnd : ((cellsFrom 0 scope.names []).map (·.1)).Nodup) (hN : ∀ p ∈ news, s.heap.get? p.1 = some p.2 ∧ p.1 ∈ S) (hco : scope.isCoroutine = false) (hgen : scope.isGenerator = false) (hk : scope.kind = .function)
    (h : ∀ h₁ tk cells, Fr (hideAll s.heap S) s.heap.objs.size h₁ (bindL (envOfC qual scope s.heap.objs.size f cdv).kindOf binds fun _ => none) → News (hideAll s.heap S) s.heap.objs.size h₁ (cells ++ news) →
      CellsAre (bindC (envOfC qual scope s.heap.objs.size f cdv).kindOf binds fun _ => none) (cellsFrom (s.heap.objs.size + 1) scope.names []) cells →
      wpAny (model prog w) (A.deeper (envOfC qual scope s.heap.objs.size f cdv)) (execs body (envOfC qual scope s.heap.objs.size f cdv))
        (fun fl s' => Q (match fl with | .ret v => v | _ => .none) s')
        (fun _ _ => False)
        { s with heap := h₁, toks := tk }) :
    wpAny (model prog w) A (call (.ref f) args) Q E s := by
  refine wpAny_call (codeAny_call_function hroom (X _ _ ho) rfl hco hgen rfl (codeRec_of X hcd) (hbind _ _ _ _ ?_))
  refine wpAny_newFunctionEnv_cells hk (kindsX hkind _) fun env' he s' x => ?_
  subst he
  refine ⟨hlim.keeps x.toInCall.keep, codeAny_func ?_⟩
  obtain ⟨h₁, tk, rfl, _⟩ := x.done
  have hk₁ := x.toInCall.keep
  obtain ⟨cells, NC, Y⟩ := Cl.news (h₀ := s.heap) (Nat.le_refl _) fun n c hm => ⟨x.cell n c (lookup_of_mem_nodup (cellsFrom_names scope.names 0 (s.heap.objs.size + 1) [] [] rfl ▸ hnd) hm), x.above n c hm⟩
  refine wpAny_mono (h h₁ tk cells ⟨x.toInCall.ns, fun b o e => hk₁ b o (of_hideAll _ e), Nat.le_of_eq (hideAll_size _ _)⟩ (fun p hp => ?_) Y) (fun fl s' hl => hl) fun _ _ y => y.elim
  rcases List.mem_append.mp hp with hp | hp
  · refine ⟨(NC p hp).1, (NC p hp).2.1, ?_⟩
    cases q : (hideAll s.heap S).get? p.1 with
    | none => rfl
    | some o => have := of_hideAll _ q; rw [(NC p hp).2.2] at this; cases this
  · exact ⟨hk₁ _ _ (hN p hp).1, Nat.ne_of_lt (Heap.lt_size (hN p hp).1), hideAll_none _ (hN p hp).2⟩
theorem enterHE (X : K.In s.heap) (hlim : s.heap.NoLimit)
    (ho : K.lookup f = some ⟨oc, od, .func (fnOf name qual params body scope dV kV doc pm an cdv ct), osl⟩) (hcd : codeIn K cdv qual = true) (hroom : A.depth < recursionLimit)
    (hbind : BindsTo s (fnOf name qual params body scope dV kV doc pm an cdv ct) ⟨args, []⟩ binds) (hloc : ∀ y ∈ binds, scope.names.lookup y.1 = some .local)
    (hcell : ∀ x ∈ scope.names, x.2 ≠ .cell) (hco : scope.isCoroutine = false) (hgen : scope.isGenerator = false) (hk : scope.kind = .function) (hN : ∀ p ∈ news, s.heap.get? p.1 = some p.2 ∧ p.1 ∈ S)
    (h : ∀ h₁, Fr (hideAll s.heap S) s.heap.objs.size h₁ (fun y => binds.reverse.lookup y) → News (hideAll s.heap S) s.heap.objs.size h₁ news →
      wpAny (model prog w) (A.deeper (envOf qual scope s.heap.objs.size f cdv)) (execs body (envOf qual scope s.heap.objs.size f cdv))
        (fun fl s' => Q (match fl with | .ret v => v | _ => .none) s')
        (fun e s' => wpAny (model prog w) (A.deeper (envOf qual scope s.heap.objs.size f cdv)) (leaving (envOf qual scope s.heap.objs.size f cdv) e) (fun _ s'' => E e s'') (fun e' s'' => E e' s'') s')
        { s with heap := h₁, toks := s.toks + binds.length }) :
    wpAny (model prog w) A (call (.ref f) args) Q E s := by
  refine wpAny_call (codeAny_call_def (fd := fnOf name qual params body scope dV kV doc pm an cdv ct) (body := body) (binds := binds) hroom (X _ _ ho) rfl hlim (codeRec_of X hcd) rfl hbind hcell hloc (fun h₁ hns hk₁ => ?_) hco hgen hk)
  refine wpAny_mono (h h₁ ⟨hns, fun b o e => hk₁ b o (of_hideAll _ e), Nat.le_of_eq (hideAll_size _ _)⟩ fun p hp => ⟨hk₁ _ _ (hN p hp).1, Nat.ne_of_lt (Heap.lt_size (hN p hp).1), hideAll_none _ (hN p hp).2⟩) (fun fl s' hq => hq) fun _ _ y => y
theorem enterH (X : K.In s.heap) (hlim : s.heap.NoLimit)
    (ho : K.lookup f = some ⟨oc, od, .func (fnOf name qual params body scope dV kV doc pm an cdv ct), osl⟩) (hcd : codeIn K cdv qual = true) (hroom : A.depth < recursionLimit)
    (hbind : BindsTo s (fnOf name qual params body scope dV kV doc pm an cdv ct) ⟨args, []⟩ binds) (hloc : ∀ y ∈ binds, scope.names.lookup y.1 = some .local)
    (hcell : ∀ x ∈ scope.names, x.2 ≠ .cell) (hco : scope.isCoroutine = false) (hgen : scope.isGenerator = false) (hk : scope.kind = .function) (hN : ∀ p ∈ news, s.heap.get? p.1 = some p.2 ∧ p.1 ∈ S)
    (h : ∀ h₁, Fr (hideAll s.heap S) s.heap.objs.size h₁ (fun y => binds.reverse.lookup y) → News (hideAll s.heap S) s.heap.objs.size h₁ news →
      wpAny (model prog w) (A.deeper (envOf qual scope s.heap.objs.size f cdv)) (execs body (envOf qual scope s.heap.objs.size f cdv))
        (fun fl s' => Q (match fl with | .ret v => v | _ => .none) s')
        (fun _ _ => False)
        { s with heap := h₁, toks := s.toks + binds.length }) :
    wpAny (model prog w) A (call (.ref f) args) Q E s :=
  enterHE X hlim ho hcd hroom hbind hloc hcell hco hgen hk hN fun h₁ a b => wpAny_mono (h h₁ a b) (fun _ _ y => y) fun _ _ y => y.elim
end
theorem hide_ns {h : Heap} {S : List Addr} {a : Addr} {m : Str → Option Value} (x : h.Ns a m) (n : a ∉ S) : (hideAll h S).Ns a m := let ⟨o, es, ep, e, r⟩ := x; ⟨o, es, ep, hideAll_get _ e n, r⟩
theorem hide_top {h : Heap} {S : List Addr} {loose : List Str} {mean : ExcName → Option Value} {mg mb : Str → Option Value} (T : Top topProg loose mean mg mb h) (hg : mainGlobals ∉ S) (hb : builtinsNs ∉ S) (hc : cStatics ∉ S)
    (hm : ∀ bm, mg "__builtins__" = some (.ref bm) → bm ∉ S) : Top topProg loose mean mg mb (hideAll h S) where
  g := hide_ns T.g hg
  b := hide_ns T.b hb
  nolimit := let ⟨mc, a, r⟩ := T.nolimit; ⟨mc, hide_ns a hc, r⟩
  nodigits := let ⟨mc, a, r⟩ := T.nodigits; ⟨mc, hide_ns a hc, r⟩
  fn := fun d hd => absurd (show d ∈ ([] : List DefRec) from hd) List.not_mem_nil
  own := fun o ho => absurd (show o ∈ ([] : List OwnSpec) from ho) List.not_mem_nil
  const := fun x d e => by cases (show (none : Option PyData) = some d from e)
  free := T.free
  builtins := T.builtins
  tab := fun d hd => absurd (show d ∈ ([] : List DefRec) from hd) List.not_mem_nil
  bmain := let ⟨bm, ob, a1, a2, a3, r⟩ := T.bmain; ⟨bm, ob, a1, a2, hideAll_get _ a3 (hm bm a1), r⟩
  seer := fun e => absurd (show false = true from e) Bool.false_ne_true
theorem hide_K {K : Frag} {h : Heap} {S : List Addr} (X : K.In h) (n : ∀ a ∈ S, K.lookup a = none) : K.In (hideAll h S) := fun a o e => hideAll_get _ (X a o e) fun q => by rw [n a q] at e; cases e
inductive Retab (P : Addr) (o o' : Obj) : List (Addr × Obj) → List (Addr × Obj) → Prop
  | nil : Retab P o o' [] []
  | tab {r r'} : Retab P o o' r r' → Retab P o o' ((P, o) :: r) ((P, o') :: r')
  | skip {q r r'} : q.2 ≠ o → Retab P o o' r r' → Retab P o o' (q :: r) (q :: r')
  | skipA {q r r'} : q.1 ≠ P → Retab P o o' r r' → Retab P o o' (q :: r) (q :: r')
theorem Retab.news {h₀ h h' : Heap} {L P : Addr} {o o' : Obj} {news news' : List (Addr × Obj)} (R : Retab P o o' news news') (hP : h.get? P = some o) (k : ExtP P h h') (hP' : h'.get? P = some o') (N : News h₀ L h news) : News h₀ L h' news' := by
  induction R with
  | nil => exact fun p hp => nomatch hp
  | tab R ih =>
    intro p hp
    rcases List.mem_cons.mp hp with rfl | hp
    · exact ⟨hP', (N _ (.head _)).2⟩
    · exact ih (fun p hp => N p (.tail _ hp)) p hp
  | @skip q r r' n R ih =>
    intro p hp
    rcases List.mem_cons.mp hp with rfl | hp
    · refine ⟨k _ _ ?_ (N _ (.head _)).1, (N _ (.head _)).2⟩
      rintro rfl
      have := (N _ (.head _)).1
      rw [hP] at this; cases this; exact n rfl
    · exact ih (fun p hp => N p (.tail _ hp)) p hp
  | @skipA q r r' n R ih => exact fmc (⟨k _ _ n (N _ (.head _)).1, (N _ (.head _)).2⟩) (ih fun p hp => N p (.tail _ hp))
theorem frP {h₀ h h' : Heap} {L P : Addr} {m : Str → Option Value} {o : Obj} (F : Fr h₀ L h m) (hn : h₀.get? P = none) (hP : h.get? P = some o) (hd : ∀ es ep, o.data ≠ .dict es ep) (k : ExtP P h h') : Fr h₀ L h' m := by
  refine ⟨?_, fun b ob e => k _ _ ?_ (F.keep b ob e), F.above⟩
  · obtain ⟨oL, es, ep, hL, hLd, r⟩ := F.ns
    refine ⟨oL, es, ep, k _ _ ?_ hL, hLd, r⟩
    rintro rfl
    rw [hP] at hL; cases hL; exact hd _ _ hLd
  · rintro rfl
    rw [hn] at e; cases e
theorem Low.extP {P : Addr} {h h₅ h' : Heap} (e : ExtP P h h₅) (l : Low h.objs.size h₅ h') : ExtP P h h' := fun b o n q => l b o (Heap.lt_size q) (e b o n q)
theorem Tb.low {c P : Addr} {K : Nat} {h h' : Heap} (t : Tb c P h) (hc : c < K) (hP : P < K) (l : Low K h h') : Tb c P h' := by
  obtain ⟨ps, a, b⟩ := t
  refine ⟨ps, ?_, ?_⟩
  · obtain ⟨o, vs, file, tf, flags, tg, inF, text, tt, op, e1, r1, r2, r3, r4, r5, r6, e2, r⟩ := a
    exact ⟨o, vs, file, tf, flags, tg, inF, text, tt, op, l _ _ hc e1, r1, r2, r3, r4, r5, r6, l _ _ hP e2, r⟩
  · obtain ⟨⟨o, vs, e1, r⟩, e2⟩ := b
    exact ⟨⟨o, vs, l _ _ hc e1, r⟩, l _ _ hP e2⟩
theorem tri_of {h : Heap} {c P : Addr} {ps : Array Value} (hok : h.IsCode c P ps) (htab : h.TableAt c P ps) : TriplesOk ps.toList := by
  obtain ⟨o', vs', file, tf, flags, tg, inF, text, tt, op, f1, f2, f3, f4, f5, f6, f7, f8, f9, f10, f11⟩ := hok
  have e := htab.2
  rw [f8] at e; cases e; cases f9; exact f10
theorem hd_some {h : Heap} {c P : Addr} (x : CodeHd h c P) : ∃ o, h.get? c = some o := by
  obtain ⟨o, vs, file, tf, flags, tg, inF, text, tt, e1, r⟩ := x
  exact ⟨o, e1⟩
theorem hd_up {g h : Heap} {c P : Addr} (x : CodeHd h c P) (k : ∀ b o, b ≠ P → h.get? b = some o → g.get? b = some o) : CodeHd g c P := by
  obtain ⟨o, vs, file, tf, flags, tg, inF, text, tt, e1, r1, r2, r3, r4, r5, r6, r7, r8, r9⟩ := x
  exact ⟨o, vs, file, tf, flags, tg, inF, text, tt, k _ _ r9 e1, r1, r2, r3, r4, r5, r6, r7, r8, r9⟩
end
section
def FnOn (g : Heap) (f : Addr) : Prop := ∀ h, Ext g h → FnAt f h
theorem FnOn.at {g h : Heap} {f : Addr} (x : FnOn g f) (e : Ext g h) : FnAt f h := x h e
section
variable {prog : Program} {w : World} {A : Around} {s : Shared} {E : Value → Shared → Prop} {g : Heap} {L l : Addr} {news : List (Addr × Obj)} {its : List Value} {n : Nat}
theorem isList_news {h : Heap} (N : News g L h news) (hm : (l, ({ cls := .type "list", data := .seq its.toArray n } : Obj)) ∈ news) : h.IsList l its.toArray := ⟨_, (N _ hm).1, rfl, _, rfl⟩
theorem len_news {Q : Value → Shared → Prop} (N : News g L s.heap news) (hm : (l, ({ cls := .type "list", data := .seq its.toArray n } : Obj)) ∈ news) (hs : its.length ≤ 100000) (h : Q (.int (its.length : Int) (s.toks + 1)) { s with toks := s.toks + 1 + 1 }) :
    wpAny (model prog w) A (call (.builtin "len") [.ref l]) Q E s := by
  have := len_list (prog := prog) (w := w) (A := A) (E := E) (Q := Q) (isList_news N hm) (by simp; omega)
  rw [show its.toArray.size = its.length from List.size_toArray] at this
  exact this h
theorem item_news {value slice : Expr} {k : Int} {i : Nat} {u : Tok} {x : Value} {Q : Value → Shared → Prop} (N : News g L s.heap news) (hm : (l, ({ cls := .type "list", data := .seq its.toArray n } : Obj)) ∈ news)
    (hk : k = (i : Int)) (hi : i < 100000) (hx : its[i]? = some x) (h : Q x s)
    (hs : subscripted slice false (.ref l) (.int k u) = operate [.ref l, .int k u] (getItem (.ref l) (.int k u)) := by with_unfolding_all rfl) (hg : ∀ r, letTemporaryGo value (.ref l) r = pure () := by intro _; with_unfolding_all rfl) :
    wpAny (model prog w) A (subscriptTail value slice (.ref l) (.int k u)) Q E s := by
  subst hk
  exact item_list (isList_news N hm) (by omega) (by omega) (by simpa using hx) h hs hg
end
def cutT (n : Nat) (b : Array UInt8) : Array UInt8 := (b.toList.take n).toArray
def cutD (n : Nat) (b : Array UInt8) : Array UInt8 := (b.toList.drop n).toArray
theorem clip_nat' (n k : Nat) : clipAt n (k : Int) = min k n := clipAt_nat n k
theorem picked_upto (b : Array UInt8) (n : Nat) : KBy.picked b none (some (n : Int)) = cutT n b := by
  rw [KBc.picked_eq]
  unfold cutT
  simp only [Option.elim, clip_nat', List.drop_zero, Nat.sub_zero]
  congr 1
  rcases Nat.le_total n b.size with h | h
  · rw [Nat.min_eq_left h]
  · rw [Nat.min_eq_right h, List.take_of_length_le (by simp), List.take_of_length_le (by simpa using h)]
theorem picked_from (b : Array UInt8) (n : Nat) : KBy.picked b (some (n : Int)) none = cutD n b := by
  rw [KBc.picked_eq]
  unfold cutD
  simp only [Option.elim, clip_nat']
  congr 1
  rcases Nat.le_total n b.size with h | h
  · rw [Nat.min_eq_left h, List.take_of_length_le (by simp)]
  · rw [Nat.min_eq_right h, Nat.sub_self, List.take_zero, List.drop_of_length_le (by simpa using h)]
section
variable {prog : Program} {w : World} {A : Around} {E : Value → Shared → Prop} {s : Shared} {value slice : PySem.Expr} {b : Array UInt8} {t u : Tok} {h₀ : Heap} {L : Addr} {m : PySem.Str → Option Value} {news : List (Addr × Obj)} {Q : Value → Shared → Prop} {k : Int} {n : Nat}
theorem slice_upto (hF : Fr h₀ L s.heap m) (hN : News h₀ L s.heap news) (hk : k = (n : Int)) (hz : b.size ≤ 100000)
    (h : ∀ h' t' k', Fr h₀ L h' m → News h₀ L h' news → Q (.bytes (cutT n b) t') { s with heap := h', toks := k' })
    (hs : subscripted slice false (.bytes b t) (.ref s.heap.objs.size) = operate [.ref s.heap.objs.size, .bytes b t] (getItem (.bytes b t) (.ref s.heap.objs.size)) := by with_unfolding_all rfl)
    (ht : ∀ r, letTemporaryGo value (.bytes b t) r = pure () := by intro _; with_unfolding_all rfl) :
    wpAny (model prog w) A (subscriptTail value slice (.bytes b t) (.ref s.heap.objs.size)) Q E { s with heap := s.heap.push { cls := .type "slice", data := .fields #[.none, .int k u, .none] } } := by
  subst hk
  refine KBc.slice_K hF hN rfl (by constructor) (by constructor) (by rw [KBw.ints_length]; omega) (fun h' t' k F N _ => ?_) hs ht
  rw [picked_upto]
  exact h h' t' k F N
theorem slice_from (hF : Fr h₀ L s.heap m) (hN : News h₀ L s.heap news) (hk : k = (n : Int)) (hz : b.size ≤ 100000)
    (h : ∀ h' t' k', Fr h₀ L h' m → News h₀ L h' news → Q (.bytes (cutD n b) t') { s with heap := h', toks := k' })
    (hs : subscripted slice false (.bytes b t) (.ref s.heap.objs.size) = operate [.ref s.heap.objs.size, .bytes b t] (getItem (.bytes b t) (.ref s.heap.objs.size)) := by with_unfolding_all rfl)
    (ht : ∀ r, letTemporaryGo value (.bytes b t) r = pure () := by intro _; with_unfolding_all rfl) :
    wpAny (model prog w) A (subscriptTail value slice (.bytes b t) (.ref s.heap.objs.size)) Q E { s with heap := s.heap.push { cls := .type "slice", data := .fields #[.int k u, .none, .none] } } := by
  subst hk
  refine KBc.slice_K hF hN rfl (by constructor) (by constructor) (by rw [KBw.ints_length]; omega) (fun h' t' k F N _ => ?_) hs ht
  rw [picked_from]
  exact h h' t' k F N
end
end
section
open PySem PySem.W PySem.Calls PyProof.Rows
abbrev EnX (h : Heap) (e it : Addr) (i : Int) (old : Value) (a : Addr) (f : Bool) : Prop :=
  h.get? e = some { cls := .type "enumerate", dict := none, data := .fields #[rawInt a, .bool f, .ref it, rawInt i, .none, old], slots := #[] }
section
variable {prog : Program} {w : World} {A : Around} {E : Value → Shared → Prop} {s : Shared}
theorem en_next_out {e it l a : Addr} {f : Bool} {oa : Obj} {i : Nat} {items : Array Value} {x old : Value} {Q : Value → Shared → Prop}
    (he : EnX s.heap e it i old a f) (ha : s.heap.get? a = some oa) (hae : a ≠ e) (hai : a ≠ it) (hit : s.heap.IsListIter it l i) (hl : s.heap.IsList l items) (hx : items[i]? = some x) (hne : e ≠ it)
    (hQ : ∀ h', EnX h' e it ((i : Int) + 1) old a true → h'.IsListIter it l (i + 1) →
      h'.get? s.heap.objs.size = some { cls := .type "tuple", data := .seq #[.int i s.toks, x] } → h'.objs.size = s.heap.objs.size + 1 →
      (∀ b o, b ≠ e → b ≠ it → s.heap.get? b = some o → h'.get? b = some o) → Q (.ref s.heap.objs.size) { s with heap := h', toks := s.toks + 1 }) :
    wpAny (model prog w) A (Builtin.«enumerate.__next__» ⟨[.ref e], []⟩) (fun fin s' => ∃ v, fin = .done (.ret v) ∧ Q v s') E s := by
  obtain ⟨hp, g, d, tk, os⟩ := s
  show wpAny _ _ (field (.ref e) 2 >>= _) _ _ _
  refine wpAny_bind (wpAny_field he rfl (x := .ref it) rfl ?_)
  refine wpAny_bind (wpAny_nextOf_list_item hit hl hx fun h₁ hit₁ hs₁ => ?_)
  replace hs₁ : Heap.SameBut it hp h₁ := hs₁
  have he₁ : EnX h₁ e it i old a f := (hs₁.2 e hne).trans he
  show wpAny _ _ (field (.ref e) 3 >>= _) _ _ ⟨h₁, g, d, tk, os⟩
  refine wpAny_bind (wpAny_field he₁ rfl (x := rawInt i) rfl ?_)
  show wpAny _ _ (field (.ref e) 4 >>= _) _ _ ⟨h₁, g, d, tk, os⟩
  refine wpAny_bind (wpAny_field he₁ rfl (x := .none) rfl ?_)
  show wpAny _ _ (mkInt i >>= _) _ _ ⟨h₁, g, d, tk, os⟩
  refine wpAny_bind (wpAny_mkInt ?_)
  show wpAny _ _ (setField (.ref e) 3 (rawInt ((i : Int) + 1)) >>= _) _ _ ⟨h₁, g, d, tk + 1, os⟩
  refine wpAny_bind (wpAny_setField_rec he₁ (by simp) fun h₂ he₂ hs₂ => ?_)
  replace hs₂ : Heap.SameBut e h₁ h₂ := hs₂
  replace he₂ : EnX h₂ e it ((i : Int) + 1) old a f := he₂
  show wpAny _ _ (setField (.ref e) 4 .none >>= _) _ _ ⟨h₂, g, d, tk + 1, os⟩
  refine wpAny_bind (wpAny_setField_rec he₂ (by simp) fun h₃ he₃ hs₃ => ?_)
  replace hs₃ : Heap.SameBut e h₂ h₃ := hs₃
  replace he₃ : EnX h₃ e it ((i : Int) + 1) old a f := he₃
  show wpAny _ _ (newTuple [.int i tk, x] >>= _) _ _ ⟨h₃, g, d, tk + 1, os⟩
  refine wpAny_bind (wpAny_newTuple ?_)
  have he₄ : EnX (h₃.push { cls := .type "tuple", data := .seq #[.int i tk, x] }) e it ((i : Int) + 1) old a f := Heap.get?_push_of_some _ he₃
  generalize hh₄ : h₃.push { cls := .type "tuple", data := .seq #[.int i tk, x] } = h₄ at he₄
  have hsz : h₃.objs.size = hp.objs.size := by rw [hs₃.1, hs₂.1, hs₁.1]
  have hel : e < hp.objs.size := Heap.lt_size he
  have ht₄ : h₄.get? hp.objs.size = some { cls := .type "tuple", data := .seq #[.int i tk, x] } := by rw [← hh₄, ← hsz]; exact Heap.get?_push_size _ rfl
  have hz₄ : h₄.objs.size = hp.objs.size + 1 := by rw [← hh₄, Heap.size_push, hsz]
  have hk₄ : ∀ b o, b ≠ e → b ≠ it → hp.get? b = some o → h₄.get? b = some o := fun b o hbe hbi hb => by
    rw [← hh₄]; exact Heap.get?_push_of_some _ (hs₃.extBut b o hbe (hs₂.extBut b o hbe (hs₁.extBut b o hbi hb)))
  have hit₄ : h₄.IsListIter it l (i + 1) := by
    rw [← hh₄]; obtain ⟨o, ho, r⟩ := (hit₁.extBut hs₂.extBut (Ne.symm hne)).extBut hs₃.extBut (Ne.symm hne); exact ⟨o, Heap.get?_push_of_some _ ho, r⟩
  show wpAny _ _ (Builtin.SmallTypes.ownedTupleIsFree (.ref e) >>= _) _ _ ⟨h₄, g, d, tk + 1, os⟩
  rw [hsz]
  clear hh₄ he₃ hs₃ he₂ hs₂ he₁ hs₁ hit₁ hsz h₃ h₂ h₁
  have ha₄ : h₄.get? a = some oa := hk₄ a oa hae hai ha
  refine wpAny_bind ?_
  unfold Builtin.SmallTypes.ownedTupleIsFree
  refine wpAny_bind (wpAny_field he₄ rfl (x := rawInt a) rfl ?_)
  show wpAny _ _ (loadIfAlive ((a : Int).toNat) >>= _) _ _ _
  rw [Int.toNat_natCast]
  refine wpAny_bind (kdx_alive ha₄ ?_)
  simp only [Option.isNone_some, Bool.false_eq_true, if_false]
  refine wpAny_bind (wpAny_field he₄ rfl (x := .bool f) rfl ?_)
  have fin : ∀ h₅ : Heap, EnX h₅ e it ((i : Int) + 1) old a true → Heap.SameBut e h₄ h₅ → Q (.ref hp.objs.size) ⟨h₅, g, d, tk + 1, os⟩ := fun h₅ he₅ hs₅ =>
    hQ h₅ he₅ (hit₄.extBut hs₅.extBut (Ne.symm hne)) (hs₅.extBut _ _ (Nat.ne_of_gt hel) ht₄) (by show h₅.objs.size = hp.objs.size + 1; rw [hs₅.1, hz₄]) fun b o hbe hbi hb => hs₅.extBut b o hbe (hk₄ b o hbe hbi hb)
  cases f with
  | true =>
    rw [if_neg (show ¬ ((Value.bool true != Value.bool true) = true) from Bool.false_ne_true)]
    refine wpAny_pure ?_
    simp only [Bool.false_eq_true, if_false]
    exact wpAny_pure ⟨_, rfl, fin h₄ he₄ (Heap.SameBut.refl _ _)⟩
  | false =>
    rw [if_pos (show (Value.bool false != Value.bool true) = true from rfl)]
    refine wpAny_bind (wpAny_setField_rec he₄ (by simp) fun h₅ he₅ hs₅ => ?_)
    replace hs₅ : Heap.SameBut e h₄ h₅ := hs₅
    replace he₅ : EnX h₅ e it ((i : Int) + 1) old a true := he₅
    refine wpAny_pure ?_
    simp only [Bool.false_eq_true, if_false]
    exact wpAny_pure ⟨_, rfl, fin h₅ he₅ hs₅⟩
theorem en_pyNext_out {e it l a : Addr} {f : Bool} {oa : Obj} {i : Nat} {items : Array Value} {x old : Value} {Q : Option Value → Shared → Prop}
    (he : EnX s.heap e it i old a f) (ha : s.heap.get? a = some oa) (hae : a ≠ e) (hai : a ≠ it) (hit : s.heap.IsListIter it l i) (hl : s.heap.IsList l items) (hx : items[i]? = some x) (hne : e ≠ it)
    (hQ : ∀ h', EnX h' e it ((i : Int) + 1) old a true → h'.IsListIter it l (i + 1) →
      h'.get? s.heap.objs.size = some { cls := .type "tuple", data := .seq #[.int i s.toks, x] } → h'.objs.size = s.heap.objs.size + 1 →
      (∀ b o, b ≠ e → b ≠ it → s.heap.get? b = some o → h'.get? b = some o) → Q (some (.ref s.heap.objs.size)) { s with heap := h', toks := s.toks + 1 }) :
    wpAny (model prog w) A (pyNext (.ref e)) Q E s := by
  have hT : s.TypeIs (.ref e) "enumerate" := ⟨_, he, rfl⟩
  unfold pyNext
  exact wpAny_bind (wpAny_attempt (wpAny_callSpecial?_slot (name := Str.ofString "__next__") hT PySem.F.slot_enumerate_next
    (wpAny_call_entry PySem.F.slot_enumerate_next hT PySem.F.entry_enumerate_next
      (en_next_out he ha hae hai hit hl hx hne fun h' a b c d k => wpAny_pure (hQ h' a b c d k)) (PySem.F.args_enumerate_next_1 _))))
theorem en_end_out {e it l a : Addr} {f : Bool} {i : Nat} {items : Array Value} {old : Value} {Q : Option Value → Shared → Prop} (hh : A.handled = none)
    (he : EnX s.heap e it i old a f) (hit : s.heap.IsListIter it l i) (hl : s.heap.IsList l items) (hx : items[i]? = none)
    (hQ : ∀ h', Heap.ExtBut it s.heap h' → Q none { s with heap := h' }) : wpAny (model prog w) A (pyNext (.ref e)) Q E s := by
  have hT : s.TypeIs (.ref e) "enumerate" := ⟨_, he, rfl⟩
  unfold pyNext
  refine wpAny_bind (wpAny_attempt (wpAny_callSpecial?_slot (name := Str.ofString "__next__") hT PySem.F.slot_enumerate_next
    (wpAny_call_entry PySem.F.slot_enumerate_next hT PySem.F.entry_enumerate_next ?_ (PySem.F.args_enumerate_next_1 _))))
  show wpAny _ _ (field (.ref e) 2 >>= _) _ _ _
  refine wpAny_bind (wpAny_field he rfl (x := .ref it) rfl ?_)
  refine wpAny_bind (wpAny_nextOf_list_end hh hit hl hx fun h' x he' hx' => ?_)
  obtain ⟨o, ho, hc⟩ := hx'
  refine wpAny_bind (wpAny_isInstance (T := "StopIteration") (b := true) ⟨o, ho, hc⟩ isSubtype_stop ?_)
  exact wpAny_pure (hQ _ he')
def EnSt (h : Heap) (e it l S : Addr) (i : Nat) : Prop :=
  h.IsListIter it l i ∧ ((∃ old, IsEnum h e it i old) ∨ ∃ old a f oa, EnX h e it i old a f ∧ h.get? a = some oa ∧ a ≠ e ∧ a ≠ it ∧ a ≠ S)
theorem EnSt.keep {h h' : Heap} {e it l S : Addr} {i : Nat} (x : EnSt h e it l S i) (hk : ∀ b o, b ≠ S → h.get? b = some o → h'.get? b = some o) (hI : it ≠ S) (hE : e ≠ S) : EnSt h' e it l S i := by
  refine ⟨let ⟨o, ho, r⟩ := x.1; ⟨o, hk _ _ hI ho, r⟩, ?_⟩
  rcases x.2 with ⟨old, he⟩ | ⟨old, a, f, oa, he, ha, h1, h2, h3⟩
  · exact .inl ⟨old, hk _ _ hE he⟩
  · exact .inr ⟨old, a, f, oa, hk _ _ hE he, hk _ _ h3 ha, h1, h2, h3⟩
theorem en_item {e it l S : Addr} {i : Nat} {items : Array Value} {x : Value} {Q : Option Value → Shared → Prop} (hst : EnSt s.heap e it l S i) (hS : S < s.heap.objs.size) (hl : s.heap.IsList l items) (hx : items[i]? = some x) (hne : e ≠ it)
    (hQ : ∀ h', EnSt h' e it l S (i + 1) → h'.get? s.heap.objs.size = some { cls := .type "tuple", data := .seq #[.int i s.toks, x] } → h'.objs.size = s.heap.objs.size + 1 →
      (∀ b o, b ≠ e → b ≠ it → s.heap.get? b = some o → h'.get? b = some o) → Q (some (.ref s.heap.objs.size)) { s with heap := h', toks := s.toks + 1 }) :
    wpAny (model prog w) A (pyNext (.ref e)) Q E s := by
  have ec : ((i + 1 : Nat) : Int) = (i : Int) + 1 := by omega
  have hil : it < s.heap.objs.size := by obtain ⟨o, ho, _⟩ := hst.1; exact Heap.lt_size ho
  rcases hst.2 with ⟨old, he⟩ | ⟨old, a, f, oa, he, ha, h1, h2, h3⟩
  · exact wpAny_pyNext_enum_item he hst.1 hl hx hne fun h' he' hit' ht hz hk => hQ h' ⟨hit', .inr ⟨x, _, false, _, by rw [ec]; exact he', ht, Nat.ne_of_gt (Heap.lt_size he), Nat.ne_of_gt hil, Nat.ne_of_gt hS⟩⟩ ht hz hk
  · exact en_pyNext_out he ha h1 h2 hst.1 hl hx hne fun h' he' hit' ht hz hk => hQ h' ⟨hit', .inr ⟨old, a, true, oa, by rw [ec]; exact he', hk a oa h1 h2 ha, h1, h2, h3⟩⟩ ht hz hk
theorem en_done {e it l S : Addr} {i : Nat} {items : Array Value} {Q : Option Value → Shared → Prop} (hh : A.handled = none) (hst : EnSt s.heap e it l S i) (hl : s.heap.IsList l items) (hx : items[i]? = none)
    (hQ : ∀ h', Heap.ExtBut it s.heap h' → Q none { s with heap := h' }) : wpAny (model prog w) A (pyNext (.ref e)) Q E s := by
  rcases hst.2 with ⟨old, he⟩ | ⟨old, a, f, oa, he, ha, h1, h2, h3⟩
  · exact wpAny_pyNext_enum_end hh he hst.1 hl hx hQ
  · exact en_end_out hh he hst.1 hl hx hQ
end
structure EnG (items : List Value) (lo : Addr) (h : Heap) (as : List Addr) : Prop where
  above : ∀ a ∈ as, lo < a
  pairs : ∀ (j : Nat) (a : Addr), as[j]? = some a → ∃ t x, items[j]? = some x ∧ h.get? a = some { cls := .type "tuple", data := .seq #[.int (j : Nat) t, x] }
theorem EnG.there {items : List Value} {lo : Addr} {h : Heap} {as : List Addr} (g : EnG items lo h as) {a : Addr} (ha : a ∈ as) : a < h.objs.size := by
  obtain ⟨j, hj⟩ := List.mem_iff_getElem?.mp ha
  obtain ⟨_, _, _, e⟩ := g.pairs j a hj
  exact Heap.lt_size e
section
variable {prog : Program} {w : World} {A : Around} {s : Shared} {R : Result → Shared → Prop} {items : List Value}
theorem en_loop {S e it l : Addr} (hh : A.handled = none) (hSe : e < S) (hSi : it < S) (hei : e ≠ it) (hSl : l ≠ S) (hle : l ≠ e) (hli : l ≠ it) (hn : items.length ≤ sizeLine) (res : Value) {h₁ : Heap}
    (hR : ∀ h' tk acc c as, (∀ b o, b ≠ S → b ≠ e → b ≠ it → h₁.get? b = some o → h'.get? b = some o) → h'.get? S = some { cls := .type "list", dict := none, data := .seq acc c, slots := #[] } → as.length = items.length → EnG items (S) h' as →
      acc.toList = as.map Value.ref → R (.ok (.ret res)) { s with heap := h', toks := tk }) :
    ∀ (k i : Nat) (h : Heap) (tk c : Nat) (acc : Array Value) (as : List Addr), items.length - i = k → i ≤ items.length → EnSt h e it l S i → h.IsList l items.toArray → (∀ b o, b ≠ S → b ≠ e → b ≠ it → h₁.get? b = some o → h.get? b = some o) →
      h.get? S = some { cls := .type "list", dict := none, data := .seq acc c, slots := #[] } → acc.toList = as.map Value.ref → as.length = i → EnG items (S) h as → S < h.objs.size →
      codeAny (model prog w) A (.builtin "list.extend.loop" ⟨[.ref S, .ref e, res], []⟩) R { s with heap := h, toks := tk } := by
  have hne : S ≠ e := Nat.ne_of_gt hSe
  have hni : S ≠ it := Nat.ne_of_gt hSi
  intro k
  induction k with
  | zero =>
    intro i h tk c acc as hk hi hst hD hkeep hS hacc hal hG hIs
    have hin : i = items.length := Nat.le_antisymm hi (Nat.le_of_sub_eq_zero hk)
    refine codeAny_builtin PySem.F.entry_extend_loop ?_
    rw [Around.under_plainId PySem.F.plain_extend_loop _]
    show wpAny _ A.in1 (pyNext (.ref e) >>= _) _ _ _
    refine wpAny_bind (en_done (s := { s with heap := h, toks := tk }) (A := A.in1) hh hst hD (by simp [hin]) fun h' he => ?_)
    refine wpAny_pure (hR h' tk acc c as (fun b o h1 h2 h3 e => he b o h3 (hkeep b o h1 h2 h3 e)) (he S _ hni hS) (by omega) ⟨hG.above, fun j a hj => ?_⟩ hacc)
    obtain ⟨t, x, e1, e2⟩ := hG.pairs j a hj
    exact ⟨t, x, e1, he a _ (Nat.ne_of_gt (Nat.lt_trans hSi (hG.above a (List.mem_of_getElem? hj)))) e2⟩
  | succ k ih =>
    intro i h tk c acc as hk hi hst hD hkeep hS hacc hal hG hIs
    have hlt : i < items.length := Nat.lt_of_sub_pos (hk ▸ Nat.succ_pos k)
    obtain ⟨x, hx⟩ : ∃ p, items[i]? = some p := ⟨items[i], List.getElem?_eq_getElem hlt⟩
    have hsz : acc.size = i := by rw [← Array.length_toList, hacc, List.length_map, hal]
    refine codeAny_builtin PySem.F.entry_extend_loop ?_
    rw [Around.under_plainId PySem.F.plain_extend_loop _]
    show wpAny _ A.in1 (pyNext (.ref e) >>= _) _ _ _
    refine wpAny_bind (en_item (s := { s with heap := h, toks := tk }) (S := S) hst (Heap.lt_size hS) hD (by simpa using hx) hei fun h' hst' ht hz hkp => ?_)
    dsimp only at ht hz hkp ⊢
    have hS' := hkp S _ hne hni hS
    have up : ∀ b o, b ≠ S → h'.get? b = some o → (h'.update S (Obj.mapSeq (·.push (Value.ref h.objs.size)))).get? b = some o := fun b o hb e => (Heap.get?_update_other _ _ (Ne.symm hb)).trans e
    have hSlt : S < h.objs.size := Heap.lt_size hS
    show wpAny _ A.in1 (updateSeq S (·.push (Value.ref h.objs.size)) >>= _) _ _ _
    refine wpAny_bind ?_
    refine wpAny_updateSeq hS' rfl (wpAny_pure ⟨plainId_quiet PySem.F.plain_extend_loop _, ih (i + 1) _ (tk + 1) _ (acc.push (Value.ref h.objs.size)) (as ++ [h.objs.size]) (by rw [Nat.sub_succ, hk]; rfl) hlt (hst'.keep up (Ne.symm hni) (Ne.symm hne)) (hD.at fun o e => up l o hSl (hkp l o hle hli e))
      (fun b o h1 h2 h3 e => up b o h1 (hkp b o h2 h3 (hkeep b o h1 h2 h3 e))) (Heap.get?_update_self _ hS' rfl) (by rw [Array.toList_push, hacc, List.map_append]; rfl) (by rw [List.length_append, hal]; rfl) ⟨?_, ?_⟩ ?_⟩) (by rw [hsz]; omega) (by show (acc.push (Value.ref h.objs.size)).size ≤ sizeLine + 1; rw [Array.size_push, hsz]; omega)
    · intro a ha
      rcases List.mem_append.mp ha with ha | ha
      · exact hG.above a ha
      · rw [List.mem_singleton.mp ha]; exact hIs
    · intro j b hj
      rcases Nat.lt_trichotomy j as.length with h1 | h1 | h1
      · rw [List.getElem?_append_left h1] at hj
        obtain ⟨t, x', e1, e2⟩ := hG.pairs j b hj
        have hb := hG.above b (List.mem_of_getElem? hj)
        exact ⟨t, x', e1, up b _ (Nat.ne_of_gt hb) (hkp b _ (Nat.ne_of_gt (Nat.lt_trans hSe hb)) (Nat.ne_of_gt (Nat.lt_trans hSi hb)) e2)⟩
      · subst h1
        have hb : h.objs.size = b := by simpa using hj
        subst hb
        exact ⟨tk, x, by rw [hal]; exact hx, up _ _ (Nat.ne_of_gt hSlt) (by rw [hal]; exact ht)⟩
      · have hnone : (as ++ [h.objs.size])[j]? = none := List.getElem?_eq_none (by rw [List.length_append, List.length_singleton]; omega)
        rw [hnone] at hj; cases hj
    · have e : (h'.update S (Obj.mapSeq (·.push (Value.ref h.objs.size)))).get? h.objs.size = _ := up _ _ (Nat.ne_of_gt hSlt) ht
      exact Nat.lt_trans hIs (Heap.lt_size e)
end
theorem en_no_len : typeLookup (.type "enumerate") "__len__" = pure none := by rw [typeLookup_type, builtinLookup_eq_fast]; kernel_rfl
theorem en_no_hint : typeLookup (.type "enumerate") "__length_hint__" = pure none := by rw [typeLookup_type, builtinLookup_eq_fast]; kernel_rfl
section
variable {prog : Program} {w : World} {A : Around} {E : Value → Shared → Prop} {s : Shared} {items : List Value} {e it l : Addr}
theorem en_extend {R : Result → Shared → Prop} (hh : A.handled = none) {old : Value} (he : IsEnum s.heap e it 0 old) (hit : s.heap.IsListIter it l 0) (hl : s.heap.IsList l items.toArray) (S : Addr) (hSe : e < S) (hSi : it < S) (hei : e ≠ it) (hSl : l ≠ S) (hle : l ≠ e) (hli : l ≠ it) (res : Value) (c₀ : Nat) (hS : s.heap.get? S = some { cls := .type "list", data := .seq #[] c₀ })
    (hR : ∀ h' tk acc c as, (∀ b o, b ≠ S → b ≠ e → b ≠ it → s.heap.get? b = some o → h'.get? b = some o) → h'.get? S = some { cls := .type "list", dict := none, data := .seq acc c, slots := #[] } → as.length = items.length → EnG items (S) h' as →
      acc.toList = as.map Value.ref → R (.ok (.ret res)) { s with heap := h', toks := tk }) (hn : items.length ≤ sizeLine) :
    wpAny (model prog w) A.in1 (Builtin.List.listExtendWith (.ref S) (.ref e) res)
      (fun fin s' => match fin with | .done f => R (.ok f) s' | .again c' => c'.quiet = true ∧ codeAny (model prog w) A c' R s') (fun e s' => R (.error e) s') s := by
  have hT : s.TypeIs (.ref e) "enumerate" := ⟨_, he, rfl⟩
  have hSe' : S ≠ e := Nat.ne_of_gt hSe
  unfold Builtin.List.listExtendWith
  refine wpAny_bind (wpAny_typeOf hT ?_)
  have h1 : Builtin.List.listSameRef (.ref S) (.ref e) = false := by simp [Builtin.List.listSameRef, hSe']
  have h2 : (Value.type "enumerate" == Value.type "list") = false := by decide
  have h3 : (Value.type "enumerate" == Value.type "tuple") = false := by decide
  simp only [h1, h2, h3, Bool.or_false, Bool.false_eq_true, if_false]
  refine wpAny_bind (wpAny_pyIter_enum he ?_)
  refine wpAny_bind (wpAny_holding ?_)
  unfold Builtin.List.listLengthHint
  refine wpAny_bind (wpAny_specialOf hT en_no_len ?_)
  show wpAny _ A.in1 (specialOf (Value.ref e) (Str.ofString "__length_hint__") >>= _) _ _ _
  refine wpAny_bind (wpAny_specialOf hT en_no_hint ?_)
  refine wpAny_pure ?_
  show wpAny _ A.in1 (rule "list.extend.makes-room" >>= fun _ => Builtin.List.listTouch (.ref S) >>= fun _ =>
    again (.builtin "list.extend.loop" ⟨[.ref S, .ref e, res], []⟩)) _ _ _
  refine wpAny_bind (wpAny_rule ?_)
  refine wpAny_bind ?_
  show wpAny _ A.in1 (updateSeq S (·.push .none) >>= fun _ => updateSeq S (·.pop)) _ _ _
  refine wpAny_bind (wpAny_updateSeq hS rfl ?_)
  have hS₂ := Heap.get?_update_self (Obj.mapSeq (·.push Value.none)) hS rfl
  refine wpAny_updateSeq (hz := by seq_fits) hS₂ rfl ?_
  have hS₃ := Heap.get?_update_self (Obj.mapSeq (·.pop)) hS₂ rfl
  have oth : ∀ b o, b ≠ S → s.heap.get? b = some o → ((s.heap.update S (Obj.mapSeq (·.push Value.none))).update S (Obj.mapSeq (·.pop))).get? b = some o :=
    fun b o hb e => (Heap.get?_update_other _ _ (Ne.symm hb)).trans ((Heap.get?_update_other _ _ (Ne.symm hb)).trans e)
  have hit' : ((s.heap.update S (Obj.mapSeq (·.push Value.none))).update S (Obj.mapSeq (·.pop))).IsListIter it l 0 := let ⟨o, ho, r⟩ := hit; ⟨o, oth _ _ (Nat.ne_of_lt hSi) ho, r⟩
  have hl' := hl.at fun o e => oth l o hSl e
  have he' := oth _ _ hSe'.symm he
  refine wpAny_pure ⟨plainId_quiet PySem.F.plain_extend_loop _, en_loop (h₁ := s.heap) (s := s) hh hSe hSi hei hSl hle hli hn res (fun h' tk acc c as hk hS' hal hG hacc => hR h' tk acc c as hk hS' hal hG hacc) items.length 0 _ _ _ #[] [] (Nat.sub_zero _) (Nat.zero_le _)
    ⟨hit', .inl ⟨old, he'⟩⟩ hl' (fun b o h1 _ _ e => oth b o h1 e) hS₃ rfl rfl ⟨(fun _ ha => nomatch ha), (fun j a hj => by simp at hj)⟩ ?_⟩
  exact Heap.lt_size hS₃
theorem en_init {R : Result → Shared → Prop} (hh : A.handled = none) {old : Value} (he : IsEnum s.heap e it 0 old) (hit : s.heap.IsListIter it l 0) (hl : s.heap.IsList l items.toArray) (S : Addr) (hSe : e < S) (hSi : it < S) (hei : e ≠ it) (hSl : l ≠ S) (hle : l ≠ e) (hli : l ≠ it) (hS : s.heap.get? S = some { cls := .type "list", data := .seq #[] })
    (hR : ∀ h' tk acc c as, (∀ b o, b ≠ S → b ≠ e → b ≠ it → s.heap.get? b = some o → h'.get? b = some o) → h'.get? S = some { cls := .type "list", dict := none, data := .seq acc c, slots := #[] } → as.length = items.length → EnG items S h' as →
      acc.toList = as.map Value.ref → R (.ok (.ret .none)) { s with heap := h', toks := tk }) (hn : items.length ≤ sizeLine) :
    wpAny (model prog w) A.in1 (Builtin.«list.__init__» ⟨[.ref S, .ref e], []⟩)
      (fun fin s' => match fin with | .done f => R (.ok f) s' | .again c' => c'.quiet = true ∧ codeAny (model prog w) A c' R s') (fun e s' => R (.error e) s') s := by
  show wpAny _ _ (do let old ← Builtin.List.listItems (.ref S); Builtin.List.listUpdate (.ref S) (fun _ => #[]); letGo old.toList.reverse; Builtin.List.listExtendWith (.ref S) (.ref e) .none) _ _ s
  refine wpAny_bind ?_
  unfold Builtin.List.listItems
  refine wpAny_bind (wpAny_seqItems hS rfl (wpAny_pure ?_))
  show wpAny _ _ (updateSeq S (fun _ => #[]) >>= fun _ => letGo (#[] : Array Value).toList.reverse >>= fun _ => Builtin.List.listExtendWith (.ref S) (.ref e) .none) _ _ s
  refine wpAny_bind (wpAny_updateSeq hS rfl ?_)
  have hS₂ := Heap.get?_update_self (Obj.mapSeq (fun _ => (#[] : Array Value))) hS rfl
  have oth : ∀ b o, b ≠ S → s.heap.get? b = some o → (s.heap.update S (Obj.mapSeq (fun _ => (#[] : Array Value)))).get? b = some o :=
    fun b o hb e => (Heap.get?_update_other _ _ (Ne.symm hb)).trans e
  refine wpAny_bind (wpAny_letGo ?_)
  refine en_extend hh (oth _ _ (Nat.ne_of_lt hSe) he) (let ⟨o, ho, r⟩ := hit; ⟨o, oth _ _ (Nat.ne_of_lt hSi) ho, r⟩) (hl.at fun o e => oth l o hSl e) S hSe hSi hei hSl hle hli .none _ hS₂ (fun h' tk acc c as hk hS' hal hG hacc => ?_) hn
  exact hR h' tk acc c as (fun b o h1 h2 h3 e => hk b o h1 h2 h3 (oth b o h1 e)) hS' hal hG hacc
theorem en_call {Q : Value → Shared → Prop} (hh : A.handled = none) {old : Value} (he : IsEnum s.heap e it 0 old) (hit : s.heap.IsListIter it l 0) (hl : s.heap.IsList l items.toArray) (hei : e ≠ it) (hle : l ≠ e) (hli : l ≠ it) (hn : items.length ≤ sizeLine)
    (hQ : ∀ h' tk acc c as, (∀ b o, b ≠ e → b ≠ it → s.heap.get? b = some o → h'.get? b = some o) → h'.get? s.heap.objs.size = some { cls := .type "list", dict := none, data := .seq acc c, slots := #[] } → as.length = items.length → EnG items s.heap.objs.size h' as →
      acc.toList = as.map Value.ref → Q (.ref s.heap.objs.size) { s with heap := h', toks := tk }) :
    wpAny (model prog w) A (call (.type "list") [.ref e]) Q E s := by
  refine callType_codes (Q₁ := fun obj s₁ => obj = .ref s.heap.objs.size ∧ s₁ = { s with heap := s.heap.push { cls := .type "list", data := .seq #[] } }) PySem.F.called_list (PySem.F.typeCall_list_1 _) PySem.F.entry_list_init
    (code_list_new _ ⟨rfl, rfl⟩) fun obj s₁ h₁ => ?_
  obtain ⟨rfl, rfl⟩ := h₁
  have hS : (s.heap.push { cls := .type "list", data := .seq #[] }).get? s.heap.objs.size = some { cls := .type "list", data := .seq #[] } := Heap.get?_push_size _ rfl
  have hel : e < s.heap.objs.size := Heap.lt_size he
  have hil : it < s.heap.objs.size := let ⟨_, ho, _⟩ := hit; Heap.lt_size ho
  have hll : l < s.heap.objs.size := let ⟨_, ho, _⟩ := hl; Heap.lt_size ho
  refine ⟨⟨_, hS, rfl⟩, PySem.F.args_list_init_2 _ _, en_init (A := A.in1) hh (Heap.get?_push_of_some _ he) (let ⟨o, ho, x⟩ := hit; ⟨o, Heap.get?_push_of_some _ ho, x⟩) (hl.push _) _ hel hil hei (Nat.ne_of_lt hll) hle hli hS (fun h' tk acc c as hk hS' hal hG hacc => ?_) hn⟩
  exact ⟨rfl, hQ h' tk acc c as (fun b o h1 h2 e => hk b o (Nat.ne_of_lt (Heap.lt_size e)) h1 h2 (Heap.get?_push_of_some _ e)) hS' hal hG hacc⟩
theorem enum_make {g : Heap} {L : Addr} {m : Str → Option Value} {news : List (Addr × Obj)} {Q : Value → Shared → Prop} (F : Fr g L s.heap m) (N : News g L s.heap news) (hl : s.heap.IsList l items.toArray)
    (hQ : ∀ e it h' tk, Fr g L h' m → News g L h' news → IsEnum h' e it 0 .none → h'.IsListIter it l 0 → h'.IsList l items.toArray → e ≠ it → l ≠ e → l ≠ it → s.heap.objs.size ≤ e → s.heap.objs.size ≤ it → Q (.ref e) { s with heap := h', toks := tk }) :
    wpAny (model prog w) A (call (.type "enumerate") [.ref l]) Q E s := by
  have hll : l < s.heap.objs.size := let ⟨_, ho, _⟩ := hl; Heap.lt_size ho
  refine call_enumerate_list hl fun h' he hit hsz hk => ?_
  exact hQ _ _ h' _ (F.keeps hk) (fun p hp => ⟨hk _ _ (N p hp).1, (N p hp).2⟩) he hit (hl.at fun o e => hk l o e) (Nat.succ_ne_self _) (Nat.ne_of_lt (Nat.lt_succ_of_lt hll)) (Nat.ne_of_lt hll) (Nat.le_succ _) (Nat.le_refl _)
end
end
section
open PySem PySem.W PySem.Calls PyProof.Rows
open PySem.SeqAt
section
variable {prog : Program} {w : World} {A : Around} {E : Value → Shared → Prop} {Q : Value → Shared → Prop} {s : Shared}
theorem eqAt_bytes (b : Array UInt8) (t u : Tok) : EqAt A s (.bytes b t) (.bytes b u) true := fun prog w E Q hq => eqBool_bytes (by rw [decide_eq_true rfl]; exact hq)
theorem eqAt_int (a : Int) (t u : Tok) : EqAt A s (.int a t) (.int a u) true := by have := EqAt.int_int (A := A) (s := s) a t a u; rwa [beq_self_eq_true] at this
theorem eqAt_pair {a b : Addr} {x1 x2 y1 y2 : Value} (hne : a ≠ b) (ha : s.heap.IsTuple a #[x1, x2]) (hb : s.heap.IsTuple b #[y1, y2]) (hu : A.units < cLine) (e1 : EqAt A.in1 s x1 y1 true) (e2 : EqAt A.in1 s x2 y2 true) : EqAt A s (.ref a) (.ref b) true := by
  have := EqAt.of_refs hne (RcAt.tuples (e := fun _ => true) ha hb hu fun j h1 h2 => by
    match j, h1 with
    | 0, _ => exact e1
    | 1, _ => exact e2
    | j + 2, h1 => exact absurd (show j + 2 < 2 from h1) (by omega))
  have e : ((List.range (min (#[x1, x2] : Array Value).size (#[y1, y2] : Array Value).size)).all (fun _ => true) && (#[x1, x2] : Array Value).size == (#[y1, y2] : Array Value).size) = true := rfl
  rwa [e] at this
theorem get_of (xs : List Value) (j : Nat) (h : j < xs.toArray.size) : xs[j]? = some xs.toArray[j] := by
  rw [List.getElem?_eq_getElem (by simpa using h)]; simp
theorem ne_same {a b : Addr} {xs ys : List Value} (h1 : s.heap.IsList a xs.toArray) (h2 : s.heap.IsList b ys.toArray) (hl : xs.length = ys.length) (hu : A.units < cLine) (hp : ∀ (j : Nat) (x y : Value), xs[j]? = some x → ys[j]? = some y → EqAt A.in1 s x y true) (h : Q (.bool false) s) :
    wpAny (model prog w) A (compareOp .NotEq (.ref a) (.ref b)) Q E s := by
  refine RcNeAt.lists (e := fun _ => true) h1 h2 (by simpa using hl) hu (fun j g1 g2 => hp j _ _ (get_of xs j g1) (get_of ys j g2)) prog w E Q ?_
  have e : (!(List.range xs.toArray.size).all fun _ => true) = false := by simp
  rw [e]; exact h
theorem eq_same {a b : Addr} {xs ys : List Value} (h1 : s.heap.IsList a xs.toArray) (h2 : s.heap.IsList b ys.toArray) (hl : xs.length = ys.length) (hu : A.units < cLine) (hp : ∀ (j : Nat) (x y : Value), xs[j]? = some x → ys[j]? = some y → EqAt A.in1 s x y true) (h : Q (.bool true) s) :
    wpAny (model prog w) A (compareOp .Eq (.ref a) (.ref b)) Q E s := by
  refine eq_listAt (e := fun _ => true) h1 h2 (by simpa using hl) hu (fun j g1 g2 => hp j _ _ (get_of xs j g1) (get_of ys j g2)) ?_
  have e : ((List.range xs.toArray.size).all fun _ => true) = true := by simp
  rw [e]; exact h
theorem ne_ints {a b : Addr} {xs ys : List Value} {ns : List Int} (h1 : s.heap.IsList a xs.toArray) (h2 : s.heap.IsList b ys.toArray) (i1 : IntsAre xs ns) (i2 : IntsAre ys ns) (hu : A.units < cLine) (h : Q (.bool false) s) :
    wpAny (model prog w) A (compareOp .NotEq (.ref a) (.ref b)) Q E s := by
  refine ne_same h1 h2 (by rw [IntsAre.length i1, IntsAre.length i2]) hu (fun j x y hx hy => ?_) h
  obtain ⟨z, hz⟩ : ∃ z, ns[j]? = some z := ⟨_, List.getElem?_eq_getElem (by rw [← IntsAre.length i1]; exact (List.getElem?_eq_some_iff.mp hx).1)⟩
  obtain ⟨t1, e1⟩ := IntsAre.get i1 j z hz
  obtain ⟨t2, e2⟩ := IntsAre.get i2 j z hz
  rw [hx] at e1; rw [hy] at e2
  cases e1; cases e2
  exact eqAt_int _ _ _
end
section
variable {prog : Program} {w : World} {A : Around} {E : Value → Shared → Prop} {s : Shared} {items : List Value} {e it l : Addr} {g : Heap} {L : Addr} {m : Str → Option Value} {news : List (Addr × Obj)} {Q : Value → Shared → Prop}
theorem frTwo {h h' : Heap} (F : Fr g L h m) (he : @LT.lt Nat _ L e) (hi : @LT.lt Nat _ L it) (hk : ∀ b o, b ≠ e → b ≠ it → h.get? b = some o → h'.get? b = some o) : Fr g L h' m :=
  ⟨F.ns.at' fun o q => hk _ o (Nat.ne_of_lt he) (Nat.ne_of_lt hi) q, fun b o q => hk b o (fun x => absurd (Heap.lt_size q) (by rw [x]; exact Nat.not_lt.mpr (Nat.le_trans F.above (Nat.le_of_lt he)))) (fun x => absurd (Heap.lt_size q) (by rw [x]; exact Nat.not_lt.mpr (Nat.le_trans F.above (Nat.le_of_lt hi)))) (F.keep b o q), F.above⟩
theorem en_list (hh : A.handled = none) (F : Fr g L s.heap m) (N : News g L s.heap news) (he : IsEnum s.heap e it 0 .none) (hit : s.heap.IsListIter it l 0) (hl : s.heap.IsList l items.toArray) (hei : e ≠ it) (hle : l ≠ e) (hli : l ≠ it) (hn : items.length ≤ sizeLine)
    (hLe : @LT.lt Nat _ L e) (hLi : @LT.lt Nat _ L it) (ne : ∀ p ∈ news, @Ne Nat p.1 e) (ni : ∀ p ∈ news, @Ne Nat p.1 it)
    (hQ : ∀ D h' tk as, Fr g L h' m → News g L h' news → (∀ p ∈ news, @LT.lt Nat _ p.1 D) → h'.IsList D (as.map Value.ref).toArray → as.length = items.length → EnG items D h' as → Q (.ref D) { s with heap := h', toks := tk }) :
    wpAny (model prog w) A (call (.type "list") [.ref e]) Q E s := by
  refine en_call hh he hit hl hei hle hli hn fun h' tk acc c as hk hD hal hG hacc => ?_
  refine hQ _ h' tk as (frTwo F hLe hLi hk) (fun p hp => ⟨hk _ _ (ne p hp) (ni p hp) (N p hp).1, (N p hp).2⟩) (fun p hp => Heap.lt_size (N p hp).1) ⟨_, hD, rfl, c, ?_⟩ hal hG
  rw [← hacc, Array.toArray_toList]
end
end
section
section
variable {prog : Program} {w : World} {A : Around} {s : Shared} {E : Value → Shared → Prop} {g : Heap} {L l : Addr} {env : Env} {m : Str → Option Value} {news : List (Addr × Obj)} {target iter : Expr} {body : List Stmt} {pos : Pos} {Q : Flow → Shared → Prop}
theorem let_tupiter {elts : List Expr} {x1} {pos : Pos} {I T : Addr} {i : Nat} {Q : Unit → Shared → Prop} (hit : s.heap.IsTupleIter I l i) (hQ : Q () s) :
    wpAny (model prog w) A (letOwnedTupleGo (.Tuple elts x1 pos) (.ref I) (.ref T)) Q E s := by
  obtain ⟨o, ho, hc, hd⟩ := hit
  unfold letOwnedTupleGo
  refine wpAny_bind (wpAny_load ho ?_)
  rw [hc, hd]
  exact wpAny_pure hQ
def TurnTup (prog : Program) (w : World) (A : Around) (target : Expr) (body : List Stmt) (env : Env) (Q : Flow → Shared → Prop) (s : Shared) (g : Heap) (L l : Addr) (news : List (Addr × Obj)) (n : Nat) (P : Nat → Value → Prop) (J : Nat → (Str → Option Value) → List (Addr × Obj) → Array GenState → Drawn → Prop) : Prop :=
  ∀ (E' : Value → Shared → Prop) (T : Flow → Shared → Prop) i v m₁ news₁ gs₁ dr₁ h₁ tk₁ I oI, i < n → P i v → h₁.IsTupleIter I l (i + 1) → J i m₁ news₁ gs₁ dr₁ → Apart I news₁ → (∀ p ∈ news, p.1 < I) → L < I → Fr g L h₁ m₁ → News g L h₁ ((I, oI) :: news₁) → (∀ f s', Turned Q s g L I oI (J (i + 1)) f s' → T f s') →
      wpAny (model prog w) A (letOwnedTupleGo target (.ref I) v) (fun _ s₁' => wpAny (model prog w) A (assign target env v) (fun _ s₂ => wpAny (model prog w) A (execs body env) T E' s₂) E' s₁') E' { s with heap := h₁, toks := tk₁, gens := gs₁, drawn := dr₁ }
theorem loop_tuple {items : List Value} (J : Nat → (Str → Option Value) → List (Addr × Obj) → Array GenState → Drawn → Prop) (hh : A.handled = none) (F : Fr g L s.heap m) (N : News g L s.heap news)
    (lJ : ∀ i m₁ n₁ gs₁ dr₁ h₁, J i m₁ n₁ gs₁ dr₁ → Fr g L h₁ m₁ → News g L h₁ n₁ → h₁.IsTuple l items.toArray) (hL : env.locals = L) (J0 : J 0 m news s.gens s.drawn)
    (turn : TurnTup prog w A target body env Q s g L l news items.length (fun i v => items[i]? = some v) J) (done : DoneOn Q s g L (J items.length)) :
    LoopOn prog w A target body env Q E (.ref l) s := by
  have hl := lJ 0 m news s.gens s.drawn s.heap J0 F N
  have hlt : l < s.heap.objs.size := by obtain ⟨_, e, _⟩ := hl; exact Heap.lt_size e
  refine wpAny_pyIter_tuple hl ?_
  have W := Walks.tuple (prog := prog) (w := w) hh s.heap.objs.size l (Nat.ne_of_lt hlt) items.toArray
  rw [show items.toArray.size = items.length from List.size_toArray] at W
  refine loop_WS W J ⟨⟨_, Heap.get?_push_size _ rfl, rfl, rfl⟩, hl.push _⟩ (F.push _) (newsI' F N rfl) (fun p hp => Nat.ne_of_lt (Heap.lt_size (N p hp).1)) hL J0 ?_ (fun i h st => by obtain ⟨o, e, _⟩ := st.1; exact ⟨o, e⟩) ?_ ?_
  · intro i h h' o m n gs dr st e e' hJ F' N'
    exact ⟨by obtain ⟨o', q, r⟩ := st.1; rw [e] at q; cases q; exact ⟨o, e', r⟩, lJ i m n gs dr h' hJ F' N'⟩
  · intro E' i v m₁ news₁ gs₁ dr₁ h₁ tk₁ oI hi hP hSt hJ ap F₁ N₁
    exact turn E' _ i v m₁ news₁ gs₁ dr₁ h₁ tk₁ s.heap.objs.size oI hi (by simpa using hP) hSt.1 hJ ap (fun p hp => Heap.lt_size (N p hp).1) F.ns.lt F₁ N₁ fun _ _ x => x
  · intro h tk gs dr m₁ news₁ F₁ N₁ hJ
    exact done h tk gs dr m₁ news₁ F₁ N₁ hJ
end
end
local macro_rules | `(tactic| omega) => `(tactic| k_extra "mine omega")
local macro_rules | `(tactic| k_ne) => `(tactic| k_extra "mine ne")
local macro_rules | `(tactic| walk_at $s:str) => `(tactic| k_extra $s)
theorem lay_lev1 : True := by
  k_with_none
  k_with "mine stop" => with_reducible first
    | show wpAny _ _ (exec (Stmt.While ..) _) ..
    | show wpAny _ _ (exec (Stmt.For ..) _) ..
    | ((fail_if_success k_extra "mine calls"); show wpAny _ _ (call (Value.ref _) _) ..)
  k_with "mine ext" => ((rename Ext _ _ => eq9); (rename Fr _ _ _ _ => fq9); (rename News _ _ _ _ => nq9); (replace fq9 := frExt fq9 eq9); (replace nq9 := newsExt nq9 eq9); (try k_sweep); clear eq9; (try dsimp only); revert fq9 nq9; intro _ _)
  k_with "mine cx" => exact ⟨Frag.In.keeps (by assumption) (Fr.keep (by assumption)), Top.keeps (by assumption) (Fr.keep (by assumption)), by (try dsimp only [tp, Around.deeper]); omega, by (try dsimp only [tp, Around.deeper]); omega⟩
  k_with "mine list" => first | assumption | exact (by assumption : Heap.IsList _ _ _).at (fun o e => (by assumption : Fr _ _ _ _).keep _ _ e)
  k_with "mine steps" => repeat' ((fail_if_success (k_extra "mine stop")); first | (k_unfold; (try dsimp only)) | (walk1 <;> try ((fail_if_success (with_reducible show wpAny _ _ (subscriptTail ..) ..)); dsimp only)) | (dsimp only; walk1) | fail "no step")
  k_with "mine nat" => first | (with_reducible exact rfl) | k_dflt (exact natlit _) | k_dflt (exact rfl)
  k_with "mine b" => first | with_reducible assumption | decide | assumption | exact Nat.pow_pos (by decide) | omega
  k_with "binaryOp BitXor int int" => (refine' xor_n (by k_extra "mine nat") (by k_extra "mine nat") ?_; try dsimp only)
  k_with "binaryOp BitAnd int int" => (refine' and_n (by k_extra "mine nat") (by k_extra "mine nat") ?_; try dsimp only)
  k_with "binaryOp RShift int int" => (refine' shr_n (by k_extra "mine nat") (by k_extra "mine nat") ?_; try dsimp only)
  k_with "binaryOp LShift int int" => k_dflt (refine' shl_z (by k_extra "mine nat") (by omega) (by omega) (by k_extra "mine b") (by decide) ?_; (try dsimp only))
  k_with "binaryOp LShift int int" => (refine' shl_n (by k_extra "mine nat") (by k_extra "mine nat") (by k_extra "mine b") (by decide) (by k_extra "mine b") ?_; try dsimp only)
  k_with "binaryOp Add int int" => (refine' add_n (by k_extra "mine nat") (by k_extra "mine nat") ?_; try dsimp only)
  k_with "binaryOp Mult int int" => (refine' mul_n (by k_extra "mine nat") (by k_extra "mine nat") (by k_extra "mine b") (by decide) (by k_extra "mine b") (by decide) ?_; try dsimp only)
  k_with "binaryOp FloorDiv int int" => (refine' fdiv_n (by k_extra "mine nat") (by k_extra "mine nat") (by decide) (by decide) ?_; try dsimp only)
  k_with "binaryOp Mod int int" => (refine' mod_z (by k_extra "mine nat") (by k_extra "mine b") ?_; (try dsimp only))
  k_with "binaryOp Mod int int" => (refine' mod_n (by k_extra "mine nat") (by k_extra "mine nat") (by k_extra "mine b") ?_; try dsimp only)
  k_with "binaryOp Sub int int" => (refine' sub_n (by k_extra "mine nat") (by k_extra "mine nat") (by k_extra "mine b") ?_; try dsimp only)
  k_with "binaryOp Pow int int" => (refine' pow_n (by k_extra "mine nat") (by k_extra "mine nat") (by k_extra "mine b") (by k_extra "mine b") ?_; try dsimp only)
  k_with "compareOp Gt int int" => refine' gt_n (by k_extra "mine nat") (by k_extra "mine nat") ?_
  k_with "compareOp Lt int int" => refine' lt_n (by k_extra "mine nat") (by k_extra "mine nat") ?_
  k_with "compareOp Eq int int" => refine' eq_n (by k_extra "mine nat") (by k_extra "mine nat") ?_
  k_with "compareOp NotEq int int" => refine' ne_n (by k_extra "mine nat") (by k_extra "mine nat") ?_
  k_with "mine ret" => (intro _; constructor; intro _ _ _; k_extra "mine ext")
  k_with "mine in" => first | exact me 0 rfl | exact me 1 rfl | exact me 2 rfl | exact me 3 rfl | exact me 4 rfl | exact me 5 rfl | exact me 6 rfl | exact me 7 rfl | exact me 8 rfl | exact me 9 rfl | exact me 10 rfl | exact me 11 rfl | exact me 12 rfl | exact me 13 rfl | exact me 14 rfl | exact me 15 rfl | exact me 16 rfl | exact me 17 rfl | exact me 18 rfl | exact me 19 rfl | (with_reducible refine List.mem_append_right _ ?_; k_extra "mine in") | (with_reducible refine List.mem_append_left _ ?_; k_extra "mine in") | (with_reducible refine List.mem_cons_of_mem _ ?_; k_extra "mine in")
  k_with "mine tail" => first | with_reducible assumption | (with_reducible refine List.mem_cons_of_mem _ ?_; k_extra "mine tail") | (with_reducible refine List.mem_append_right _ ?_; k_extra "mine tail") | (with_reducible refine List.mem_append_left _ ?_; k_extra "mine tail")
  k_with "mine sub" => first | (with_reducible exact List.forall_mem_nil _) | (with_reducible refine fmc (by intros; k_extra "mine in") ?_; k_extra "mine sub") | (with_reducible refine fma ?_ ?_ <;> k_extra "mine sub") | (intro p hp; intros; first | contradiction | k_extra "mine tail")
  k_with "mine omega" => first | ((with_reducible show _ < recursionLimit); first | exact rm0 (by assumption) | exact rq 1 | exact rq 2 | exact rq 3 | exact rq 4 | exact rq 11 | exact rq 21 | exact rq 41 | exact rq2 3) | ((with_reducible show _ < cLine); first | exact rq 3 | exact rq 4 | exact rq 23 | exact rq 43 | exact rq 83 | exact rq 403 | exact rq 61 | exact rq 103 | exact rq2 80) | with_reducible exact sAdd (by decide) | with_reducible exact sAdd2 (by decide)
  k_with "mine ne" => with_reducible first | assumption | exact Ne.symm (by assumption) | exact Nat.ne_of_gt (by assumption) | exact Nat.ne_of_lt (by assumption) | fail ""
  trivial
section
section
variable {w : World} {p : Program} {loose : List Str} {mean : ExcName → Option Value} {mg mb : Str → Option Value} {dp un : Nat} {fr : Option (List Env)} {gd : Option (List Code)} {s : Shared} {Q E : Value → Shared → Prop}
def gtS : Nat → Nat → Nat → Nat → Nat → Nat
  | 0, _, _, _, told => told
  | n + 1, scalar, row, ones, told =>
    if scalar = 0 then told else
    gtS n (scalar / 2) ((((row ^^^ (((row >>> 7) &&& ones) <<< 7)) <<< 1) ^^^ (((row >>> 7) &&& ones) * 27))) ones (if scalar % 2 = 1 then told ^^^ row else told)
def gt (a r o : Nat) : Nat := gtS 8 a r o 0
theorem gtS_zero (n r o d : Nat) : gtS n 0 r o d = d := by cases n <;> simp [gtS]
theorem rowTop_lt {r o k : Nat} (h : r < 2 ^ k) : (((r >>> 7) &&& o) <<< 7) < 2 ^ k := by
  have h1 : (r >>> 7) &&& o ≤ r >>> 7 := Nat.and_le_left
  rw [Nat.shiftRight_eq_div_pow] at h1
  rw [Nat.shiftLeft_eq, Nat.shiftRight_eq_div_pow]
  have h2 : r / 2 ^ 7 * 2 ^ 7 ≤ r := Nat.div_mul_le_self r _
  have h3 : ((r / 2 ^ 7) &&& o) * 2 ^ 7 ≤ r / 2 ^ 7 * 2 ^ 7 := Nat.mul_le_mul_right _ h1
  omega
theorem rowX_lt {r o n : Nat} (h : r < 2 ^ (208 - n)) : r ^^^ (((r >>> 7) &&& o) <<< 7) < 2 ^ 210 :=
  Nat.lt_of_lt_of_le (Nat.xor_lt_two_pow h (rowTop_lt h)) (Nat.pow_le_pow_right (by decide) (by omega))
theorem rowN_lt {r o n : Nat} (h : r < 2 ^ (208 - n)) (hn : n ≤ 8) (hz : n ≠ 0) : ((r ^^^ (((r >>> 7) &&& o) <<< 7)) <<< 1) ^^^ (((r >>> 7) &&& o) * 27) < 2 ^ (208 - (n - 1)) := by
  have e : 208 - (n - 1) = (208 - n) + 1 := (by decide : ∀ n, n ≤ 8 → n ≠ 0 → 208 - (n - 1) = (208 - n) + 1) n hn hz
  rw [e]
  have h1 : r ^^^ (((r >>> 7) &&& o) <<< 7) < 2 ^ (208 - n) := Nat.xor_lt_two_pow h (rowTop_lt h)
  refine Nat.xor_lt_two_pow ?_ ?_
  · rw [Nat.shiftLeft_eq, Nat.pow_succ]; omega
  · have h2 := rowTop_lt (o := o) h
    rw [Nat.shiftLeft_eq] at h2
    rw [Nat.pow_succ]
    omega
inductive TimInv (a r o n : Nat) (m : Str → Option Value) : Prop
  | mk (a1 r1 d1 : Nat) (u1 u2 u3 u4 : Tok) (e : AllAt m [("scalar", .int a1 u1), ("row", .int r1 u2), ("told", .int d1 u3), ("ones", .int o u4)]) (c1 : n ≤ 8) (c2 : a1 < 2 ^ n) (c3 : r1 < 2 ^ (208 - n)) (c4 : gtS n a1 r1 o d1 = gt a r o)
theorem times_spec (C : Cx w p loose mean mg mb (dp + 1) (un + 20) s.heap) {a r o : Nat} {t1 t2 t3 : Tok} (ha : a < 256) (hr : r < 2 ^ 200) (ho : o < 2 ^ 200)
    (h : ∀ t, HQ Q (.int (gt a r o : Nat) t) s) :
    wpAny (model P1 w) (tp dp fr gd un) (call (.ref 195) [.int a t1, .int r t2, .int o t3]) Q E s := by
  obtain ⟨X, T, hd, hu⟩ := C
  refine' enter (binds := [("scalar", .int a t1), ("row", .int r t2), ("ones", .int o t3)]) ?k1 ?k2 ?k3 ?k4 ?k5 ?k6 ?k7 ?k8 ?k9 ?k10 ?k11 ?_
  ((case k1 => assumption); (case k2 => exact Top.nolimit (by assumption)); (case k3 | k4 => k_is); (case k5 => (dsimp only; omega)); (case k6 => first | exact BindsTo.of_eq rfl | exact binds_K (by assumption) rfl (by k_is) rfl rfl rfl); (case k7 => exact locs rfl); (case k8 => decide); (case k9 | k10 | k11 => exact rfl); k_whole; intro hh9 FF9 NN9; (dsimp only [List.reverse, List.reverseAux] at FF9); (try dsimp only))
  k_extra "mine steps"
  refine While_inv2 (fun n m _ => TimInv a r o n m) (n₀ := 8) (by assumption) (by assumption) ⟨a, r, 0, _, _, _, _, ⟨rfl, rfl, rfl, rfl, trivial⟩, by omega, ha, hr, rfl⟩ ?_ ?_
  · intro n m₁ news₁ h₁ tk₁ F₁ N₁ hJ
    obtain ⟨a1, r1, d1, u1, u2, u3, u4, e1, hn, hlt, hr1, hgt⟩ := hJ
    have F2 := frOv F₁ e1
    clear F₁
    have b0 : r1 < 2 ^ 210 := Nat.lt_of_lt_of_le hr1 (Nat.pow_le_pow_right (by decide) (by omega))
    have b1 : (r1 >>> 7) &&& o < 2 ^ 210 := Nat.lt_of_le_of_lt Nat.and_le_right (Nat.lt_of_lt_of_le ho (Nat.pow_le_pow_right (by decide) (by decide)))
    have b2 := rowX_lt (o := o) hr1
    have b4 := fun (hz : n ≠ 0) => rowN_lt (o := o) (n := n) hr1 hn hz
    have b3 : 27 < 2 ^ 210 := by decide
    k_extra "mine steps"
    · have hz : n ≠ 0 := by rintro rfl; omega
      rename Fr _ _ _ _ => F3
      rename News _ _ _ _ => N3
      rename a1 % 2 = 1 => hodd
      obtain ⟨n, rfl⟩ := Nat.exists_eq_succ_of_ne_zero hz
      refine ⟨_, _, _, _, n, rfl, F3, N3, by omega, _, _, _, _, _, _, _, ⟨rfl, rfl, rfl, rfl, trivial⟩, by omega, by rw [Nat.pow_succ] at hlt; omega, b4 hz, ?_⟩
      rw [← hgt, gtS, if_neg (by omega), if_pos hodd]
    · have hz : n ≠ 0 := by rintro rfl; omega
      rename Fr _ _ _ _ => F3
      rename News _ _ _ _ => N3
      rename ¬ a1 % 2 = 1 => hodd
      obtain ⟨n, rfl⟩ := Nat.exists_eq_succ_of_ne_zero hz
      refine ⟨_, _, _, _, n, rfl, F3, N3, by omega, _, _, _, _, _, _, _, ⟨rfl, rfl, rfl, rfl, trivial⟩, by omega, by rw [Nat.pow_succ] at hlt; omega, b4 hz, ?_⟩
      rw [← hgt, gtS, if_neg (by omega), if_neg hodd]
    · rename Fr _ _ _ _ => F3
      rename ¬ 0 < a1 => hz
      have hz : a1 = 0 := by omega
      subst hz
      rw [gtS_zero] at hgt
      subst hgt
      exact (h _).get _ _ F3.keep
  · passes_own
def mix : Nat := 222746560949354276391051289458670502401
def numF (ns : List Int) (i : Nat) : Int := if i < ns.length then ns.getD i 0 else ((mix * (i + 1) : Nat) : Int)
theorem number_spec (C : Cx w p loose mean mg mb (dp + 1) (un + 20) s.heap) {l : Addr} {vs : List Value} {ns : List Int} {i : Nat} {x : Int} {t : Tok} (hl : s.heap.IsList l vs.toArray) (hi : IntsAre vs ns) (hn : ns.length ≤ 63) (hx : x = (i : Int)) (hb : i < 1000)
    (h : ∀ t, HQ Q (.int (numF ns i) t) s) :
    wpAny (model P1 w) (tp dp fr gd un) (call (.ref 181) [.ref l, .int x t]) Q E s := by
  obtain ⟨X, T, hd, hu⟩ := C
  subst hx
  refine' enter (binds := [("script", .ref l), ("place", .int i t)]) ?k1 ?k2 ?k3 ?k4 ?k5 ?k6 ?k7 ?k8 ?k9 ?k10 ?k11 ?_
  ((case k1 => assumption); (case k2 => exact Top.nolimit (by assumption)); (case k3 | k4 => k_is); (case k5 => (dsimp only; omega)); (case k6 => first | exact BindsTo.of_eq rfl | exact binds_K (by assumption) rfl (by k_is) rfl rfl rfl); (case k7 => exact locs rfl); (case k8 => decide); (case k9 | k10 | k11 => exact rfl); k_whole; intro hh9 FF9 NN9; (dsimp only [List.reverse, List.reverseAux] at FF9); (try dsimp only))
  have b0 : 222746560949354276391051289458670502401 < 2 ^ 128 := by decide
  have b1 : i + 1 < 2 ^ 20 := by omega
  k_extra "mine steps"
  · rename Fr _ _ _ _ => F3
    have e : ns.getD (i : Int).toNat 0 = numF ns i := by unfold numF; rw [if_pos (by assumption)]; rfl
    rw [e]
    exact (h _).get _ _ F3.keep
  · rename Fr _ _ _ _ => F3
    have e : ((222746560949354276391051289458670502401 * (i + 1) : Nat) : Int) = numF ns i := by unfold numF; rw [if_neg (by assumption)]; rfl
    rw [e]
    exact (h _).get _ _ F3.keep
theorem lay_A1_CALL1 : True := by
  k_with "mine calls" => with_reducible first
    | show wpAny _ _ (call (Value.ref 181) _) ..
    | show wpAny _ _ (call (Value.ref 188) _) ..
    | show wpAny _ _ (call (Value.ref 195) _) ..
    | show wpAny _ _ (call (Value.ref 223) _) ..
  k_with "call ref" => ((with_reducible show wpAny _ _ (call (Value.ref 181) _) ..); k_dflt (refine' number_spec (by k_extra "mine cx") (by k_extra "mine list") (by assumption) (by assumption) (by k_extra "mine nat") (by k_extra "mine b") ?_; k_extra "mine ret"))
  trivial
def rowF (ns : List Int) (i size : Nat) : Nat := (numF ns i * (mix : Int) % ((256 ^ size : Nat) : Int)).toNat
theorem rowF_lt (ns : List Int) (i size : Nat) : rowF ns i size < 256 ^ size := by
  unfold rowF
  have hp : 0 < 256 ^ size := Nat.pow_pos (by decide)
  have h1 := Int.emod_nonneg (numF ns i * (mix : Int)) (show ((256 ^ size : Nat) : Int) ≠ 0 by omega)
  have h2 := Int.emod_lt_of_pos (numF ns i * (mix : Int)) (show (0 : Int) < ((256 ^ size : Nat) : Int) by omega)
  omega
theorem numF_bits {ns : List Int} {i : Nat} (hL : PyData.layable0 (.list (ns.map .int)) = true) (hi : i < 1000) : Builtin.Int.intBits (numF ns i) ≤ 1048576 := by
  unfold numF
  split
  · exact kbm_getD hL (by decide)
  · refine Nat.le_trans ((intBits_le_iff (m := 200)).mpr ?_) (by decide)
    have : mix * (i + 1) < 2 ^ 200 := by
      have h1 : mix < 2 ^ 128 := by decide
      have h2 : i + 1 < 2 ^ 10 := by omega
      calc mix * (i + 1) < 2 ^ 128 * 2 ^ 10 := Nat.mul_lt_mul'' h1 h2
        _ ≤ 2 ^ 200 := by decide
    rw [Int.natAbs_natCast]; exact this
theorem mul_mix {ns : List Int} {i : Nat} (hL : PyData.layable0 (.list (ns.map .int)) = true) (hi : i < 1000) : IntMulOk (numF ns i) (mix : Int) := by
  have h1 := numF_bits hL hi
  have h2 : Builtin.Int.intBits (mix : Int) ≤ 128 := intBits_le_iff.mpr (by decide)
  unfold IntMulOk Builtin.Int.intTooBig
  have e : bitsLine = 134217728 := by decide
  simp only [Bool.and_eq_true, decide_eq_true_eq, e]
  omega
theorem row_spec (C : Cx w p loose mean mg mb (dp + 2) (un + 40) s.heap) {l : Addr} {vs : List Value} {ns : List Int} {i size : Nat} {x y : Int} {t u : Tok} (hl : s.heap.IsList l vs.toArray) (hi : IntsAre vs ns) (hn : ns.length ≤ 63)
    (hL : PyData.layable0 (.list (ns.map .int)) = true) (hx : x = (i : Int)) (hb : i < 1000) (hy : y = (size : Int)) (hs : size ≤ 16)
    (h : ∀ t, HQ Q (.int (rowF ns i size : Nat) t) s) :
    wpAny (model P1 w) (tp dp fr gd un) (call (.ref 188) [.ref l, .int x t, .int y u]) Q E s := by
  obtain ⟨X, T, hd, hu⟩ := C
  subst hx hy
  refine' enter (binds := [("script", .ref l), ("place", .int i t), ("size", .int size u)]) ?k1 ?k2 ?k3 ?k4 ?k5 ?k6 ?k7 ?k8 ?k9 ?k10 ?k11 ?_
  ((case k1 => assumption); (case k2 => exact Top.nolimit (by assumption)); (case k3 | k4 => k_is); (case k5 => (dsimp only; omega)); (case k6 => first | exact BindsTo.of_eq rfl | exact binds_K (by assumption) rfl (by k_is) rfl rfl rfl); (case k7 => exact locs rfl); (case k8 => decide); (case k9 | k10 | k11 => exact rfl); k_whole; intro hh9 FF9 NN9; (dsimp only [List.reverse, List.reverseAux] at FF9); (try dsimp only))
  k_extra "mine steps"
  refine mul_int ?_ (mul_mix hL hb)
  have b0 : 256 < 2 ^ 63 := by decide
  have b1 : size ≤ 1000 := by omega
  k_extra "mine steps"
  rename Fr _ _ _ _ => F3
  exact (h _).get _ _ F3.keep
end
end
theorem lay_lev2 : True := by
  k_with_none
  k_with "mine stop" => with_reducible first
    | show wpAny _ _ (exec (Stmt.While ..) _) ..
    | show wpAny _ _ (exec (Stmt.For ..) _) ..
    | ((fail_if_success k_extra "mine calls"); show wpAny _ _ (call (Value.ref _) _) ..)
  k_with "mine ext" => ((rename Ext _ _ => eq9); (rename Fr _ _ _ _ => fq9); (rename News _ _ _ _ => nq9); (replace fq9 := frExt fq9 eq9); (replace nq9 := newsExt nq9 eq9); (try k_sweep); clear eq9; (try dsimp only); revert fq9 nq9; intro _ _)
  k_with "mine cx" => exact ⟨Frag.In.keeps (by assumption) (Fr.keep (by assumption)), Top.keeps (by assumption) (Fr.keep (by assumption)), by (try dsimp only [tp, Around.deeper]); omega, by (try dsimp only [tp, Around.deeper]); omega⟩
  k_with "mine list" => first | assumption | exact (by assumption : Heap.IsList _ _ _).at (fun o e => (by assumption : Fr _ _ _ _).keep _ _ e)
  k_with "mine steps" => repeat' ((fail_if_success (k_extra "mine stop")); first | (k_unfold; (try dsimp only)) | (walk1 <;> try ((fail_if_success (with_reducible show wpAny _ _ (subscriptTail ..) ..)); dsimp only)) | (dsimp only; walk1) | fail "no step")
  k_with "mine nat" => first | (with_reducible exact rfl) | k_dflt (exact natlit _) | k_dflt (exact rfl)
  k_with "mine b" => first | with_reducible assumption | decide | assumption | exact Nat.pow_pos (by decide) | omega
  k_with "binaryOp BitXor int int" => (refine' xor_n (by k_extra "mine nat") (by k_extra "mine nat") ?_; try dsimp only)
  k_with "binaryOp BitAnd int int" => (refine' and_n (by k_extra "mine nat") (by k_extra "mine nat") ?_; try dsimp only)
  k_with "binaryOp RShift int int" => (refine' shr_n (by k_extra "mine nat") (by k_extra "mine nat") ?_; try dsimp only)
  k_with "binaryOp LShift int int" => k_dflt (refine' shl_z (by k_extra "mine nat") (by omega) (by omega) (by k_extra "mine b") (by decide) ?_; (try dsimp only))
  k_with "binaryOp LShift int int" => (refine' shl_n (by k_extra "mine nat") (by k_extra "mine nat") (by k_extra "mine b") (by decide) (by k_extra "mine b") ?_; try dsimp only)
  k_with "binaryOp Add int int" => (refine' add_n (by k_extra "mine nat") (by k_extra "mine nat") ?_; try dsimp only)
  k_with "binaryOp Mult int int" => (refine' mul_n (by k_extra "mine nat") (by k_extra "mine nat") (by k_extra "mine b") (by decide) (by k_extra "mine b") (by decide) ?_; try dsimp only)
  k_with "binaryOp FloorDiv int int" => (refine' fdiv_n (by k_extra "mine nat") (by k_extra "mine nat") (by decide) (by decide) ?_; try dsimp only)
  k_with "binaryOp Mod int int" => (refine' mod_z (by k_extra "mine nat") (by k_extra "mine b") ?_; (try dsimp only))
  k_with "binaryOp Mod int int" => (refine' mod_n (by k_extra "mine nat") (by k_extra "mine nat") (by k_extra "mine b") ?_; try dsimp only)
  k_with "binaryOp Sub int int" => (refine' sub_n (by k_extra "mine nat") (by k_extra "mine nat") (by k_extra "mine b") ?_; try dsimp only)
  k_with "binaryOp Pow int int" => (refine' pow_n (by k_extra "mine nat") (by k_extra "mine nat") (by k_extra "mine b") (by k_extra "mine b") ?_; try dsimp only)
  k_with "compareOp Gt int int" => refine' gt_n (by k_extra "mine nat") (by k_extra "mine nat") ?_
  k_with "compareOp Lt int int" => refine' lt_n (by k_extra "mine nat") (by k_extra "mine nat") ?_
  k_with "compareOp Eq int int" => refine' eq_n (by k_extra "mine nat") (by k_extra "mine nat") ?_
  k_with "compareOp NotEq int int" => refine' ne_n (by k_extra "mine nat") (by k_extra "mine nat") ?_
  k_with "mine ret" => (intro _; constructor; intro _ _ _; k_extra "mine ext")
  k_with "mine in" => first | exact me 0 rfl | exact me 1 rfl | exact me 2 rfl | exact me 3 rfl | exact me 4 rfl | exact me 5 rfl | exact me 6 rfl | exact me 7 rfl | exact me 8 rfl | exact me 9 rfl | exact me 10 rfl | exact me 11 rfl | exact me 12 rfl | exact me 13 rfl | exact me 14 rfl | exact me 15 rfl | exact me 16 rfl | exact me 17 rfl | exact me 18 rfl | exact me 19 rfl | (with_reducible refine List.mem_append_right _ ?_; k_extra "mine in") | (with_reducible refine List.mem_append_left _ ?_; k_extra "mine in") | (with_reducible refine List.mem_cons_of_mem _ ?_; k_extra "mine in")
  k_with "mine tail" => first | with_reducible assumption | (with_reducible refine List.mem_cons_of_mem _ ?_; k_extra "mine tail") | (with_reducible refine List.mem_append_right _ ?_; k_extra "mine tail") | (with_reducible refine List.mem_append_left _ ?_; k_extra "mine tail")
  k_with "mine sub" => first | (with_reducible exact List.forall_mem_nil _) | (with_reducible refine fmc (by intros; k_extra "mine in") ?_; k_extra "mine sub") | (with_reducible refine fma ?_ ?_ <;> k_extra "mine sub") | (intro p hp; intros; first | contradiction | k_extra "mine tail")
  k_with "mine omega" => first | ((with_reducible show _ < recursionLimit); first | exact rm0 (by assumption) | exact rq 1 | exact rq 2 | exact rq 3 | exact rq 4 | exact rq 11 | exact rq 21 | exact rq 41 | exact rq2 3) | ((with_reducible show _ < cLine); first | exact rq 3 | exact rq 4 | exact rq 23 | exact rq 43 | exact rq 83 | exact rq 403 | exact rq 61 | exact rq 103 | exact rq2 80) | with_reducible exact sAdd (by decide) | with_reducible exact sAdd2 (by decide)
  k_with "mine ne" => with_reducible first | assumption | exact Ne.symm (by assumption) | exact Nat.ne_of_gt (by assumption) | exact Nat.ne_of_lt (by assumption) | fail ""
  trivial
section
theorem lay_A3_own0 : True := by
  k_with "mine stop" => first
    | (with_reducible show Exists _)
    | (with_reducible show wpAny _ _ (exec (Stmt.While _ _ _ _) _) _ _ _)
    | (with_reducible show wpAny _ _ (exec (Stmt.For _ _ _ _ _) _) _ _ _)
    | ((fail_if_success (k_extra "mine calls")); (with_reducible show wpAny _ _ (call (Value.ref _) _) _ _ _))
  trivial
theorem gtS_lt : ∀ (n a r o d k : Nat), r < 2 ^ k → d < 2 ^ (k + n) → gtS n a r o d < 2 ^ (k + n)
  | 0, _, _, _, _, _, _, h => h
  | n + 1, a, r, o, d, k, hr, hd => by
    unfold gtS
    split
    · exact hd
    · have h1 : ((r ^^^ (((r >>> 7) &&& o) <<< 7)) <<< 1) ^^^ (((r >>> 7) &&& o) * 27) < 2 ^ (k + 1) := by
        have h2 := rowTop_lt (o := o) hr
        refine Nat.xor_lt_two_pow ?_ ?_
        · have h3 : r ^^^ (((r >>> 7) &&& o) <<< 7) < 2 ^ k := Nat.xor_lt_two_pow hr h2
          rw [Nat.shiftLeft_eq, Nat.pow_succ]; omega
        · rw [Nat.shiftLeft_eq] at h2
          rw [Nat.pow_succ]; omega
      have e : k + (n + 1) = k + 1 + n := by omega
      rw [e] at hd ⊢
      refine gtS_lt n _ _ o _ (k + 1) h1 ?_
      split
      · exact Nat.xor_lt_two_pow hd (Nat.lt_of_lt_of_le hr (Nat.pow_le_pow_right (by decide) (by omega)))
      · exact hd
theorem step1_lt : ∀ r, r < 256 → ((r ^^^ (((r >>> 7) &&& 1) <<< 7)) <<< 1) ^^^ (((r >>> 7) &&& 1) * 27) < 256 := by decide +kernel
theorem gtS1_lt : ∀ (n a r d : Nat), r < 256 → d < 256 → gtS n a r 1 d < 256
  | 0, _, _, _, _, h => h
  | n + 1, a, r, d, hr, hd => by
    unfold gtS
    split
    · exact hd
    · refine gtS1_lt n _ _ _ (step1_lt r hr) ?_
      split
      · exact Nat.xor_lt_two_pow (n := 8) hd hr
      · exact hd
theorem gt1_lt (a r : Nat) (hr : r < 256) : gt a r 1 < 256 := gtS1_lt 8 a r 0 hr (by decide)
def prodF (l : List Nat) (x : Nat) : Nat := l.foldl (fun t p => gt (p ^^^ x) t 1) 1
abbrev natVals (l : List (Nat × Tok)) : Array Value := (l.map fun p => Value.int (p.1 : Int) p.2).toArray
theorem prodF_lt (l : List Nat) (x : Nat) : prodF l x < 256 := by
  have h : ∀ (l : List Nat) t, t < 256 → l.foldl (fun t p => gt (p ^^^ x) t 1) t < 256 := by
    intro l
    induction l with
    | nil => exact fun t h => h
    | cons p l ih => exact fun t h => ih _ (gt1_lt _ _ h)
  exact h l 1 (by decide)
theorem natVals_at {l : List (Nat × Tok)} {i : Nat} {v : Value} (hi : (natVals l)[i]? = some v) : ∃ p, l[i]? = some p ∧ v = .int (p.1 : Int) p.2 := by
  simp only [natVals, List.getElem?_toArray, List.getElem?_map, Option.map_eq_some_iff] at hi
  obtain ⟨q, a, b⟩ := hi
  exact ⟨q, a, b.symm⟩
theorem natVals_size (l : List (Nat × Tok)) : (natVals l).size = l.length := by simp [natVals]
theorem prodF_take {l : List (Nat × Tok)} {i : Nat} {p : Nat × Tok} (h : l[i]? = some p) (x : Nat) : prodF ((l.take (i + 1)).map (·.1)) x = gt (p.1 ^^^ x) (prodF ((l.take i).map (·.1)) x) 1 := by
  unfold prodF
  rw [List.take_add_one, h]
  simp
section
variable {w : World} {p : Program} {loose : List Str} {mean : ExcName → Option Value} {mg mb : Str → Option Value} {dp un : Nat} {fr : Option (List Env)} {gd : Option (List Code)} {s : Shared} {Q E : Value → Shared → Prop}
theorem product_spec (C : Cx w p loose mean mg mb (dp + 3) (un + 40) s.heap) {l : Addr} {ps : List (Nat × Tok)} {x : Nat} {t : Tok} (hl : s.heap.IsList l (natVals ps)) (hp : ∀ q ∈ ps, q.1 < 256) (hx : x < 256)
    (h : ∀ t, HQ Q (.int (prodF (ps.map (·.1)) x : Nat) t) s) :
    wpAny (model P1 w) (tp dp fr gd un) (call (.ref 209) [.ref l, .int x t]) Q E s := by
  obtain ⟨X, T, hd, hu⟩ := C
  refine' enter (binds := [("places", .ref l), ("x", .int x t)]) ?k1 ?k2 ?k3 ?k4 ?k5 ?k6 ?k7 ?k8 ?k9 ?k10 ?k11 ?_
  ((case k1 => assumption); (case k2 => exact Top.nolimit (by assumption)); (case k3 | k4 => k_is); (case k5 => (dsimp only; omega)); (case k6 => first | exact BindsTo.of_eq rfl | exact binds_K (by assumption) rfl (by k_is) rfl rfl rfl); (case k7 => exact locs rfl); (case k8 => decide); (case k9 | k10 | k11 => exact rfl); k_whole; intro hh9 FF9 NN9; (dsimp only [List.reverse, List.reverseAux] at FF9); (try dsimp only))
  k_extra "mine steps"
  rename Fr _ _ _ _ => F1
  rename News _ _ _ _ => N1
  obtain ⟨m, hm, ⟨ut, hr⟩, F2⟩ : ∃ m, AllAt m [("places", .ref l), ("x", .int x t)] ∧ (∃ u, m "told" = some (.int ((prodF [] x : Nat) : Int) u)) ∧ Fr s.heap s.heap.objs.size _ m := ⟨_, ⟨rfl, rfl, trivial⟩, ⟨_, rfl⟩, F1⟩
  clear F1
  refine for_list (l := l) (items := natVals ps) (fun i m₁ n₁ gs₁ => AllAt m₁ [("places", .ref l), ("x", .int x t)] ∧ (∃ u, m₁ "told" = some (.int ((prodF ((ps.take i).map (·.1)) x : Nat) : Int) u)) ∧ n₁ = [] ∧ gs₁ = s.gens) rfl F2 N1 hl rfl ⟨hm, ⟨ut, hr⟩, rfl, rfl⟩ ?_ ?_ ?_
  · rename_i tkx
    exact ld (frOv F2 hm) rfl ⟨rfl, rfl⟩
  · intro E' T9 i v m₁ n₁ gs₁ dr₁ h₁ tk₁ I oI hin hi hJ9 hap hap0 hLI F3 N3 hT9
    obtain ⟨⟨hm₁, ⟨u, hr₁⟩, rfl, rfl⟩, rfl⟩ := hJ9
    obtain ⟨q, hq, rfl⟩ := natVals_at hi
    have hq256 := hp q (List.mem_of_getElem? hq)
    refine wpAny_pure ?_
    clear F2 N1
    replace F3 : Fr s.heap s.heap.objs.size h₁ (ov [("places", .ref l), ("x", .int x t), ("told", .int ((prodF ((ps.take i).map (·.1)) x : Nat) : Int) u)] m₁) := frOv F3 ⟨hm₁.1, hm₁.2.1, hr₁, trivial⟩
    k_extra "mine steps"
    rename Fr _ _ _ _ => F4
    rename News _ _ _ _ => N4
    refine' times_spec (a := q.1 ^^^ x) (r := prodF ((ps.take i).map (·.1)) x) (o := 1) (p := p) (loose := loose) (mean := mean) (mg := mg) (mb := mb) ?tC (Nat.xor_lt_two_pow (n := 8) hq256 hx) (Nat.lt_of_lt_of_le (prodF_lt _ _) (by decide)) (by decide) fun t' => ⟨fun h' tk' e => ?_⟩
    case tC => exact ⟨Frag.In.keeps X F4.keep, T.keeps F4.keep, by (try dsimp only [tp, Around.deeper]); omega, by (try dsimp only [tp, Around.deeper]); omega⟩
    rw [← prodF_take hq]
    k_extra "mine ext"
    k_extra "mine steps"
    rename Fr _ _ _ _ => F5
    rename News _ _ _ _ => N5
    exact hT9 _ _ ⟨_, _, _, _, _, _, rfl, F5, N5, fun p hp => (nomatch hp), ⟨⟨rfl, rfl, trivial⟩, ⟨_, rfl⟩, rfl, rfl⟩, rfl⟩
  · rintro h' tk' gs' m₁ n₁ F3 N3 ⟨hm₁, ⟨u, hr₁⟩, rfl, rfl⟩
    rw [natVals_size, List.take_length] at hr₁
    clear F2 N1
    replace F3 : Fr s.heap s.heap.objs.size h' (ov [("told", .int ((prodF (ps.map (·.1)) x : Nat) : Int) u)] m₁) := frOv F3 ⟨hr₁, trivial⟩
    k_extra "mine steps"
    rename Fr _ _ _ _ => F4
    exact (h _).get _ _ F4.keep
end
end
theorem lay_lev3 : True := by
  k_with_none
  k_with "mine stop" => with_reducible first
    | show wpAny _ _ (exec (Stmt.While ..) _) ..
    | show wpAny _ _ (exec (Stmt.For ..) _) ..
    | ((fail_if_success k_extra "mine calls"); show wpAny _ _ (call (Value.ref _) _) ..)
  k_with "mine ext" => ((rename Ext _ _ => eq9); (rename Fr _ _ _ _ => fq9); (rename News _ _ _ _ => nq9); (replace fq9 := frExt fq9 eq9); (replace nq9 := newsExt nq9 eq9); (try k_sweep); clear eq9; (try dsimp only); revert fq9 nq9; intro _ _)
  k_with "mine cx" => exact ⟨Frag.In.keeps (by assumption) (Fr.keep (by assumption)), Top.keeps (by assumption) (Fr.keep (by assumption)), by (try dsimp only [tp, Around.deeper]); omega, by (try dsimp only [tp, Around.deeper]); omega⟩
  k_with "mine list" => first | assumption | exact (by assumption : Heap.IsList _ _ _).at (fun o e => (by assumption : Fr _ _ _ _).keep _ _ e)
  k_with "mine steps" => repeat' ((fail_if_success (k_extra "mine stop")); first | (k_unfold; (try dsimp only)) | (walk1 <;> try ((fail_if_success (with_reducible show wpAny _ _ (subscriptTail ..) ..)); dsimp only)) | (dsimp only; walk1) | fail "no step")
  k_with "mine nat" => first | (with_reducible exact rfl) | k_dflt (exact natlit _) | k_dflt (exact rfl)
  k_with "mine b" => first | with_reducible assumption | decide | assumption | exact Nat.pow_pos (by decide) | omega
  k_with "binaryOp BitXor int int" => (refine' xor_n (by k_extra "mine nat") (by k_extra "mine nat") ?_; try dsimp only)
  k_with "binaryOp BitAnd int int" => (refine' and_n (by k_extra "mine nat") (by k_extra "mine nat") ?_; try dsimp only)
  k_with "binaryOp RShift int int" => (refine' shr_n (by k_extra "mine nat") (by k_extra "mine nat") ?_; try dsimp only)
  k_with "binaryOp LShift int int" => k_dflt (refine' shl_z (by k_extra "mine nat") (by omega) (by omega) (by k_extra "mine b") (by decide) ?_; (try dsimp only))
  k_with "binaryOp LShift int int" => (refine' shl_n (by k_extra "mine nat") (by k_extra "mine nat") (by k_extra "mine b") (by decide) (by k_extra "mine b") ?_; try dsimp only)
  k_with "binaryOp Add int int" => (refine' add_n (by k_extra "mine nat") (by k_extra "mine nat") ?_; try dsimp only)
  k_with "binaryOp Mult int int" => (refine' mul_n (by k_extra "mine nat") (by k_extra "mine nat") (by k_extra "mine b") (by decide) (by k_extra "mine b") (by decide) ?_; try dsimp only)
  k_with "binaryOp FloorDiv int int" => (refine' fdiv_n (by k_extra "mine nat") (by k_extra "mine nat") (by decide) (by decide) ?_; try dsimp only)
  k_with "binaryOp Mod int int" => (refine' mod_z (by k_extra "mine nat") (by k_extra "mine b") ?_; (try dsimp only))
  k_with "binaryOp Mod int int" => (refine' mod_n (by k_extra "mine nat") (by k_extra "mine nat") (by k_extra "mine b") ?_; try dsimp only)
  k_with "binaryOp Sub int int" => (refine' sub_n (by k_extra "mine nat") (by k_extra "mine nat") (by k_extra "mine b") ?_; try dsimp only)
  k_with "binaryOp Pow int int" => (refine' pow_n (by k_extra "mine nat") (by k_extra "mine nat") (by k_extra "mine b") (by k_extra "mine b") ?_; try dsimp only)
  k_with "compareOp Gt int int" => refine' gt_n (by k_extra "mine nat") (by k_extra "mine nat") ?_
  k_with "compareOp Lt int int" => refine' lt_n (by k_extra "mine nat") (by k_extra "mine nat") ?_
  k_with "compareOp Eq int int" => refine' eq_n (by k_extra "mine nat") (by k_extra "mine nat") ?_
  k_with "compareOp NotEq int int" => refine' ne_n (by k_extra "mine nat") (by k_extra "mine nat") ?_
  k_with "mine ret" => (intro _; constructor; intro _ _ _; k_extra "mine ext")
  k_with "mine in" => first | exact me 0 rfl | exact me 1 rfl | exact me 2 rfl | exact me 3 rfl | exact me 4 rfl | exact me 5 rfl | exact me 6 rfl | exact me 7 rfl | exact me 8 rfl | exact me 9 rfl | exact me 10 rfl | exact me 11 rfl | exact me 12 rfl | exact me 13 rfl | exact me 14 rfl | exact me 15 rfl | exact me 16 rfl | exact me 17 rfl | exact me 18 rfl | exact me 19 rfl | (with_reducible refine List.mem_append_right _ ?_; k_extra "mine in") | (with_reducible refine List.mem_append_left _ ?_; k_extra "mine in") | (with_reducible refine List.mem_cons_of_mem _ ?_; k_extra "mine in")
  k_with "mine tail" => first | with_reducible assumption | (with_reducible refine List.mem_cons_of_mem _ ?_; k_extra "mine tail") | (with_reducible refine List.mem_append_right _ ?_; k_extra "mine tail") | (with_reducible refine List.mem_append_left _ ?_; k_extra "mine tail")
  k_with "mine sub" => first | (with_reducible exact List.forall_mem_nil _) | (with_reducible refine fmc (by intros; k_extra "mine in") ?_; k_extra "mine sub") | (with_reducible refine fma ?_ ?_ <;> k_extra "mine sub") | (intro p hp; intros; first | contradiction | k_extra "mine tail")
  k_with "mine omega" => first | ((with_reducible show _ < recursionLimit); first | exact rm0 (by assumption) | exact rq 1 | exact rq 2 | exact rq 3 | exact rq 4 | exact rq 11 | exact rq 21 | exact rq 41 | exact rq2 3) | ((with_reducible show _ < cLine); first | exact rq 3 | exact rq 4 | exact rq 23 | exact rq 43 | exact rq 83 | exact rq 403 | exact rq 61 | exact rq 103 | exact rq2 80) | with_reducible exact sAdd (by decide) | with_reducible exact sAdd2 (by decide)
  k_with "mine ne" => with_reducible first | assumption | exact Ne.symm (by assumption) | exact Nat.ne_of_gt (by assumption) | exact Nat.ne_of_lt (by assumption) | fail ""
  trivial
section
local macro_rules | `(tactic| x_close) => `(tactic| k_extra "mine close")
theorem lay_B1_own : True := by
  k_with "mine close" => (have z9 := HQ.get (by assumption); first | exact z9 _ _ (fun _ _ e => e) | exact z9 _ _ (memExt (by assumption)))
  trivial
section
variable {w : World} {A : Around} {s : Shared} {Q E : Value → Shared → Prop} {a : Addr} {v1 v2 : Value} {od : Option Addr}
theorem type_raw (X : (hd.heap_39 w.params).In s.heap) (hh : A.handled = none) (hd : A.depth + 2 < recursionLimit) (hu : A.units + 40 < cLine) (ha : s.heap.get? a = some ⟨.ref 145, od, .seq #[v1, v2] 0, #[]⟩)
    (hq : HQ Q (.ref 145) s) :
    wpAny (model P1 w) A (call (.type "type") [.ref a]) Q E s := by
  x_run
theorem sub_raw (X : (hd.heap_39 w.params).In s.heap) (hh : A.handled = none) (hd : A.depth + 2 < recursionLimit) (hu : A.units + 40 < cLine)
    (hq : HQ Q (.bool true) s) :
    wpAny (model P1 w) A (call (.builtin "issubclass") [.ref 145, .type "tuple"]) Q E s := by
  x_run
theorem kind_tgi : builtinKind "tuple.__getitem__" = some .slot := by decide +kernel
theorem split_tgi : splitId "tuple.__getitem__" = some ("tuple", "__getitem__") := by decide +kernel
theorem plain_tgi : plainId "tuple.__getitem__" = true := by decide +kernel
theorem entry_tgi : entryFor table "tuple.__getitem__" = some Builtin.«tuple.__getitem__» := entryFor_of_tree (by kernel_rfl)
theorem args_tgi (a b : Value) : argsOk "tuple.__getitem__" ⟨[a, b], []⟩ := by unfold argsOk; kernel_rfl
theorem item_raw {t : Tok} {k : Int} {v : Value} (X : (hd.heap_39 w.params).In s.heap) (ha : s.heap.get? a = some ⟨.ref 145, od, .seq #[v1, v2] 0, #[]⟩) (hk : (k = 0 ∧ v = v1) ∨ (k = 1 ∧ v = v2))
    (hq : Q v s) :
    wpAny (model P1 w) A (call (.builtin "tuple.__getitem__") [.ref a, .int k t]) Q E s := by
  obtain ⟨hh, g, d, tk, os⟩ := s
  dsimp only at X ha
  have L0 : Looks (model P1 w) hh (typeOf (.ref a)) (.ref 145) := (Looks.ld ha).andThen .now
  have L1 : Looks (model P1 w) hh (isInstance (.ref a) (.type "tuple")) true := L0.andThen (looks_subIn X (by k_is))
  refine wpAny_call (codeAny_call_builtin plain_tgi entry_tgi (@check_slot (model P1 w) _ _ _ "tuple.__getitem__" "tuple" "__getitem__" (.ref a) [_] [] _ kind_tgi split_tgi L1 (args_tgi (.ref a) _) ?_))
  unfold Builtin.«tuple.__getitem__»
  rcases hk with ⟨rfl, rfl⟩ | ⟨rfl, rfl⟩
  · repeat lk
    exact hq
  · repeat lk
    exact hq
end
theorem tt_type : typeOf (.type "tuple") = pure (.type "type") := by kernel_rfl
theorem tt_stub : Manifest.isStub "tuple" = false := by decide +kernel
section
variable {w : World} {p : Program} {loose : List Str} {mean : ExcName → Option Value} {mg mb : Str → Option Value} {dp un : Nat} {fr : Option (List Env)} {gd : Option (List Code)} {s : Shared} {Q E : Value → Shared → Prop}
theorem get0_spec (C : Cx w p loose mean mg mb (dp + 3) (un + 60) s.heap) {a : Addr} {v1 v2 : Value} {od : Option Addr} (ha : s.heap.get? a = some ⟨.ref 145, od, .seq #[v1, v2] 0, #[]⟩)
    (hq : HQ Q v1 s) :
    wpAny (model P1 w) (tp dp fr gd un) (call (.ref 56) [.ref 137, .ref a, .ref 145]) Q E s := by
  obtain ⟨X, T, hd, hu⟩ := C
  refine' enter (binds := [("self", .ref 137), ("obj", .ref a), ("objtype", .ref 145)]) ?k1 ?k2 ?k3 ?k4 ?k5 ?k6 ?k7 ?k8 ?k9 ?k10 ?k11 ?_
  ((case k1 => assumption); (case k2 => exact Top.nolimit (by assumption)); (case k3 | k4 => k_is); (case k5 => (dsimp only; omega)); (case k6 => first | exact BindsTo.of_eq rfl | exact binds_K (by assumption) rfl (by k_is) rfl rfl rfl); (case k7 => exact locs rfl); (case k8 => decide); (case k9 | k10 | k11 => exact rfl); k_whole; intro hh9 FF9 NN9; (dsimp only [List.reverse, List.reverseAux] at FF9); (try dsimp only))
  k_extra "mine steps"
  rename Fr _ _ _ _ => F1
  refine type_raw (Frag.In.keeps X F1.keep) rfl (by simp only [tp, depth_deeper]; omega) (by simp only [tp, units_deeper]; omega) (F1.keep _ _ ha) ⟨fun h' tk e => ?_⟩
  k_extra "mine ext"
  k_extra "mine steps"
  rename Fr _ _ _ _ => F1
  refine sub_raw (Frag.In.keeps X F1.keep) rfl (by simp only [tp, depth_deeper]; omega) (by simp only [tp, units_deeper]; omega) ⟨fun h' tk e => ?_⟩
  k_extra "mine ext"
  k_extra "mine steps"
  rename Fr _ _ _ _ => F1
  refine' method_type (v := .builtin "tuple.__getitem__") ?F ?X ?m ?st ?e ?h ?_
  case F => exact F1
  case X => exact X
  case m => exact tt_type
  case st => exact tt_stub
  case e => k_is
  case h => k_handed
  k_extra "mine steps"
  rename Fr _ _ _ _ => F1
  refine item_raw (Frag.In.keeps X F1.keep) (F1.keep _ _ ha) (.inl ⟨rfl, rfl⟩) ?_
  exact hq.get _ _ F1.keep
theorem get1_spec (C : Cx w p loose mean mg mb (dp + 3) (un + 60) s.heap) {a : Addr} {v1 v2 : Value} {od : Option Addr} (ha : s.heap.get? a = some ⟨.ref 145, od, .seq #[v1, v2] 0, #[]⟩)
    (hq : HQ Q v2 s) :
    wpAny (model P1 w) (tp dp fr gd un) (call (.ref 56) [.ref 140, .ref a, .ref 145]) Q E s := by
  obtain ⟨X, T, hd, hu⟩ := C
  refine' enter (binds := [("self", .ref 140), ("obj", .ref a), ("objtype", .ref 145)]) ?k1 ?k2 ?k3 ?k4 ?k5 ?k6 ?k7 ?k8 ?k9 ?k10 ?k11 ?_
  ((case k1 => assumption); (case k2 => exact Top.nolimit (by assumption)); (case k3 | k4 => k_is); (case k5 => (dsimp only; omega)); (case k6 => first | exact BindsTo.of_eq rfl | exact binds_K (by assumption) rfl (by k_is) rfl rfl rfl); (case k7 => exact locs rfl); (case k8 => decide); (case k9 | k10 | k11 => exact rfl); k_whole; intro hh9 FF9 NN9; (dsimp only [List.reverse, List.reverseAux] at FF9); (try dsimp only))
  k_extra "mine steps"
  rename Fr _ _ _ _ => F1
  refine type_raw (Frag.In.keeps X F1.keep) rfl (by simp only [tp, depth_deeper]; omega) (by simp only [tp, units_deeper]; omega) (F1.keep _ _ ha) ⟨fun h' tk e => ?_⟩
  k_extra "mine ext"
  k_extra "mine steps"
  rename Fr _ _ _ _ => F1
  refine sub_raw (Frag.In.keeps X F1.keep) rfl (by simp only [tp, depth_deeper]; omega) (by simp only [tp, units_deeper]; omega) ⟨fun h' tk e => ?_⟩
  k_extra "mine ext"
  k_extra "mine steps"
  rename Fr _ _ _ _ => F1
  refine' method_type (v := .builtin "tuple.__getitem__") ?F ?X ?m ?st ?e ?h ?_
  case F => exact F1
  case X => exact X
  case m => exact tt_type
  case st => exact tt_stub
  case e => k_is
  case h => k_handed
  k_extra "mine steps"
  rename Fr _ _ _ _ => F1
  refine item_raw (Frag.In.keeps X F1.keep) (F1.keep _ _ ha) (.inr ⟨rfl, rfl⟩) ?_
  exact hq.get _ _ F1.keep
def RawAt (h : Heap) (a : Addr) (v1 v2 : Value) : Prop := ∃ d o, h.get? a = some ⟨.ref 145, some d, .seq #[v1, v2] 0, #[]⟩ ∧ h.get? d = some o ∧ o.cls ≠ .none
theorem RawAt.keeps {h h' : Heap} {a : Addr} {v1 v2 : Value} (x : RawAt h a v1 v2) (k : Ext h h') : RawAt h' a v1 v2 := let ⟨d, o, a, b, c⟩ := x; ⟨d, o, k _ _ a, k _ _ b, c⟩
theorem inst_raw {h : Heap} {a d : Addr} {v1 v2 : Value} {o : Obj} (h1 : h.get? a = some ⟨.ref 145, some d, .seq #[v1, v2] 0, #[]⟩) (h2 : h.get? d = some o) : InstAt h a ⟨.ref 145, some d, .seq #[v1, v2] 0, #[]⟩ 145 (some o) :=
  ⟨h1, rfl, rfl, h2⟩
theorem kind_tga : builtinKind "tuple.__getattribute__" = some .slot := by decide +kernel
theorem split_tga : splitId "tuple.__getattribute__" = some ("tuple", "__getattribute__") := by decide +kernel
theorem findObj_data {K : Frag} {C : Addr} {od : Option Obj} {name : Str} {cd : ClassData} {a g : Value} (h1 : clsIn K C = some cd) (h2 : findIn K (.ref C) name = some (some a)) (h3 : specialIn K a "__get__" = some (some g)) (h4 : takesIn K a = some true) :
    findObj K C od name = some (.bind g a) := by
  unfold findObj
  rw [h1, Option.bind_some, h2, Option.bind_some]
  dsimp only
  rw [h3, Option.bind_some]
  dsimp only
  rw [h4, Option.bind_some]
theorem get_own {K : Frag} {A : Around} {x C : Addr} {ox : Obj} {od : Option Obj} {name : Str} {expr : Bool} {g a : Value} (X : K.In s.heap) (I : InstAt s.heap x ox C od) (hga : findIn K (.ref C) "__getattribute__" = some (some (.builtin "tuple.__getattribute__")))
    (hk : findIn K (.ref C) "__getattr__" = some none) (hsub : subIn K (.ref C) (.type "tuple") = some true) (hf : findObj K C od name = some (.bind g a))
    (h : ∀ E', wpAny (model P1 w) A.in1 (call g [a, .ref x, .ref C]) (fun v s' => wpAny (model P1 w) A (handedOut v) Q E s') E' { s with toks := s.toks + 1 }) :
    wpAny (model P1 w) A (getAttr (.ref x) name expr) Q E s := by
  obtain ⟨hh, gg, d, t, os⟩ := s
  have L0 := I.type (M := model P1 w)
  have L1 := looks_findIn (M := model P1 w) X hga
  have L2 := looks_findIn (M := model P1 w) X hk
  have L3 := looks_find (M := model P1 w) X I hf
  have L4 : Looks (model P1 w) hh (isInstance (.ref x) (.type "tuple")) true := L0.andThen (looks_subIn X hsub)
  unfold getAttr getAttrBy
  refine wpAny_bind (wpAny_mkText (wpAny_holding (wpAny_bind (L0.at (wpAny_bind (L1.at ?_))))))
  dsimp only
  rw [show (onTheHeap (Value.ref C) && Value.builtin "tuple.__getattribute__" == Value.builtin "object.__getattribute__") = false by rw [show (Value.builtin "tuple.__getattribute__" == Value.builtin "object.__getattribute__") = false by decide +kernel, Bool.and_false]]
  rw [if_neg Bool.false_ne_true]
  unfold getAttrByItsOwn
  refine wpAny_bind ?_
  show wpAny _ _ (typeLookup (.ref C) "__getattr__") _ _ _
  refine L2.at ?_
  refine wpAny_bind (wpAny_attempt (wpAny_holding ?_))
  unfold callGetattribute
  rw [if_neg (by cases expr <;> decide)]
  unfold boundAndCalled
  rw [F.slot_tuple_getattribute.bind (.ref x)]
  refine wpAny_bind (wpAny_pure ?_)
  refine wpAny_call (codeAny_call_builtin F.slot_tuple_getattribute.plain F.entry_tuple_ga (@check_slot (model P1 w) _ _ _ "tuple.__getattribute__" "tuple" "__getattribute__" (.ref x) [_] [] _ kind_tga split_tga L4 (F.args_tuple_getattribute_2 _ _) ?_))
  unfold Builtin.«object.__getattribute__»
  refine wpAny_bind (wpAny_pure ?_)
  dsimp only
  refine wpAny_bind (wpAny_pure ?_)
  refine wpAny_bind (L0.at (wpAny_bind (L3.at ?_)))
  dsimp only
  show wpAny _ _ (holding [a] (call g [a, .ref x, .ref C]) >>= ret) _ _ _
  refine wpAny_bind (wpAny_holding ?_)
  refine wpAny_mono (h _) (fun v s' z => wpAny_pure ?_) fun _ _ z => z
  exact z
theorem getx_spec (C : Cx w p loose mean mg mb (dp + 3) (un + 80) s.heap) {a : Addr} {v1 v2 : Value} {expr : Bool} (R : RawAt s.heap a v1 v2) (hh : handedIn v1 = true)
    (hq : HQ Q v1 s) :
    wpAny (model P1 w) (tp dp fr gd un) (getAttr (.ref a) "x" expr) Q E s := by
  obtain ⟨d, o, h1, h2, _⟩ := R
  refine' get_own (g := .ref 56) (a := .ref 137) C.X (inst_raw h1 h2) ?ga ?gt ?su (findObj_data ?f1 ?f2 ?f3 ?f4) fun E' => ?_
  case ga => k_is
  case gt => k_is
  case su => k_is
  case f1 => k_is
  case f2 => k_is
  case f3 => k_is
  case f4 => k_is
  refine get0_spec (s := { s with toks := s.toks + 1 }) (un := un + 1) ⟨C.X, C.T, C.hd, by have := C.hu; omega⟩ h1 ⟨fun h' tk e => ?_⟩
  rw [handedOut_of hh]
  exact wpAny_pure (hq.get _ _ e)
theorem getd_spec (C : Cx w p loose mean mg mb (dp + 3) (un + 80) s.heap) {a : Addr} {v1 v2 : Value} {expr : Bool} (R : RawAt s.heap a v1 v2) (hh : handedIn v2 = true)
    (hq : HQ Q v2 s) :
    wpAny (model P1 w) (tp dp fr gd un) (getAttr (.ref a) "data" expr) Q E s := by
  obtain ⟨d, o, h1, h2, _⟩ := R
  refine' get_own (g := .ref 56) (a := .ref 140) C.X (inst_raw h1 h2) ?ga ?gt ?su (findObj_data ?f1 ?f2 ?f3 ?f4) fun E' => ?_
  case ga => k_is
  case gt => k_is
  case su => k_is
  case f1 => k_is
  case f2 => k_is
  case f3 => k_is
  case f4 => k_is
  refine get1_spec (s := { s with toks := s.toks + 1 }) (un := un + 1) ⟨C.X, C.T, C.hd, by have := C.hu; omega⟩ h1 ⟨fun h' tk e => ?_⟩
  rw [handedOut_of hh]
  exact wpAny_pure (hq.get _ _ e)
end
end
theorem lay_lev4 : True := by
  k_with_none
  k_with "mine stop" => with_reducible first
    | show wpAny _ _ (exec (Stmt.While ..) _) ..
    | show wpAny _ _ (exec (Stmt.For ..) _) ..
    | ((fail_if_success k_extra "mine calls"); show wpAny _ _ (call (Value.ref _) _) ..)
  k_with "mine ext" => ((rename Ext _ _ => eq9); (rename Fr _ _ _ _ => fq9); (rename News _ _ _ _ => nq9); (replace fq9 := frExt fq9 eq9); (replace nq9 := newsExt nq9 eq9); (try k_sweep); clear eq9; (try dsimp only); revert fq9 nq9; intro _ _)
  k_with "mine cx" => exact ⟨Frag.In.keeps (by assumption) (Fr.keep (by assumption)), Top.keeps (by assumption) (Fr.keep (by assumption)), by (try dsimp only [tp, Around.deeper]); omega, by (try dsimp only [tp, Around.deeper]); omega⟩
  k_with "mine list" => first | assumption | exact (by assumption : Heap.IsList _ _ _).at (fun o e => (by assumption : Fr _ _ _ _).keep _ _ e)
  k_with "mine steps" => repeat' ((fail_if_success (k_extra "mine stop")); first | (k_unfold; (try dsimp only)) | (walk1 <;> try ((fail_if_success (with_reducible show wpAny _ _ (subscriptTail ..) ..)); dsimp only)) | (dsimp only; walk1) | fail "no step")
  k_with "mine nat" => first | (with_reducible exact rfl) | k_dflt (exact natlit _) | k_dflt (exact rfl)
  k_with "mine b" => first | with_reducible assumption | decide | assumption | exact Nat.pow_pos (by decide) | omega
  k_with "binaryOp BitXor int int" => (refine' xor_n (by k_extra "mine nat") (by k_extra "mine nat") ?_; try dsimp only)
  k_with "binaryOp BitAnd int int" => (refine' and_n (by k_extra "mine nat") (by k_extra "mine nat") ?_; try dsimp only)
  k_with "binaryOp RShift int int" => (refine' shr_n (by k_extra "mine nat") (by k_extra "mine nat") ?_; try dsimp only)
  k_with "binaryOp LShift int int" => k_dflt (refine' shl_z (by k_extra "mine nat") (by omega) (by omega) (by k_extra "mine b") (by decide) ?_; (try dsimp only))
  k_with "binaryOp LShift int int" => (refine' shl_n (by k_extra "mine nat") (by k_extra "mine nat") (by k_extra "mine b") (by decide) (by k_extra "mine b") ?_; try dsimp only)
  k_with "binaryOp Add int int" => (refine' add_n (by k_extra "mine nat") (by k_extra "mine nat") ?_; try dsimp only)
  k_with "binaryOp Mult int int" => (refine' mul_n (by k_extra "mine nat") (by k_extra "mine nat") (by k_extra "mine b") (by decide) (by k_extra "mine b") (by decide) ?_; try dsimp only)
  k_with "binaryOp FloorDiv int int" => (refine' fdiv_n (by k_extra "mine nat") (by k_extra "mine nat") (by decide) (by decide) ?_; try dsimp only)
  k_with "binaryOp Mod int int" => (refine' mod_z (by k_extra "mine nat") (by k_extra "mine b") ?_; (try dsimp only))
  k_with "binaryOp Mod int int" => (refine' mod_n (by k_extra "mine nat") (by k_extra "mine nat") (by k_extra "mine b") ?_; try dsimp only)
  k_with "binaryOp Sub int int" => (refine' sub_n (by k_extra "mine nat") (by k_extra "mine nat") (by k_extra "mine b") ?_; try dsimp only)
  k_with "binaryOp Pow int int" => (refine' pow_n (by k_extra "mine nat") (by k_extra "mine nat") (by k_extra "mine b") (by k_extra "mine b") ?_; try dsimp only)
  k_with "compareOp Gt int int" => refine' gt_n (by k_extra "mine nat") (by k_extra "mine nat") ?_
  k_with "compareOp Lt int int" => refine' lt_n (by k_extra "mine nat") (by k_extra "mine nat") ?_
  k_with "compareOp Eq int int" => refine' eq_n (by k_extra "mine nat") (by k_extra "mine nat") ?_
  k_with "compareOp NotEq int int" => refine' ne_n (by k_extra "mine nat") (by k_extra "mine nat") ?_
  k_with "mine ret" => (intro _; constructor; intro _ _ _; k_extra "mine ext")
  k_with "mine in" => first | exact me 0 rfl | exact me 1 rfl | exact me 2 rfl | exact me 3 rfl | exact me 4 rfl | exact me 5 rfl | exact me 6 rfl | exact me 7 rfl | exact me 8 rfl | exact me 9 rfl | exact me 10 rfl | exact me 11 rfl | exact me 12 rfl | exact me 13 rfl | exact me 14 rfl | exact me 15 rfl | exact me 16 rfl | exact me 17 rfl | exact me 18 rfl | exact me 19 rfl | (with_reducible refine List.mem_append_right _ ?_; k_extra "mine in") | (with_reducible refine List.mem_append_left _ ?_; k_extra "mine in") | (with_reducible refine List.mem_cons_of_mem _ ?_; k_extra "mine in")
  k_with "mine tail" => first | with_reducible assumption | (with_reducible refine List.mem_cons_of_mem _ ?_; k_extra "mine tail") | (with_reducible refine List.mem_append_right _ ?_; k_extra "mine tail") | (with_reducible refine List.mem_append_left _ ?_; k_extra "mine tail")
  k_with "mine sub" => first | (with_reducible exact List.forall_mem_nil _) | (with_reducible refine fmc (by intros; k_extra "mine in") ?_; k_extra "mine sub") | (with_reducible refine fma ?_ ?_ <;> k_extra "mine sub") | (intro p hp; intros; first | contradiction | k_extra "mine tail")
  k_with "mine omega" => first | ((with_reducible show _ < recursionLimit); first | exact rm0 (by assumption) | exact rq 1 | exact rq 2 | exact rq 3 | exact rq 4 | exact rq 11 | exact rq 21 | exact rq 41 | exact rq2 3) | ((with_reducible show _ < cLine); first | exact rq 3 | exact rq 4 | exact rq 23 | exact rq 43 | exact rq 83 | exact rq 403 | exact rq 61 | exact rq 103 | exact rq2 80) | with_reducible exact sAdd (by decide) | with_reducible exact sAdd2 (by decide)
  k_with "mine ne" => with_reducible first | assumption | exact Ne.symm (by assumption) | exact Nat.ne_of_gt (by assumption) | exact Nat.ne_of_lt (by assumption) | fail ""
  trivial
section
open PySem PySem.W PySem.W.X PySem.Calls PyProof.Rows Builtin Builtin.ObjectAttr
section
variable {w : World} {p : Program} {loose : List Str} {mean : ExcName → Option Value} {mg mb : Str → Option Value} {dp un : Nat} {fr : Option (List Env)} {gd : Option (List Code)} {s : Shared} {Q E : Value → Shared → Prop}
structure RQ (Q : Value → Shared → Prop) (v1 v2 : Value) (s : Shared) : Prop where
  get : ∀ (x d : Addr) (o : Obj) (h' : Heap) (tk : Nat), Ext s.heap h' → h'.get? x = some ⟨.ref 145, some d, .seq #[v1, v2] 0, #[]⟩ → h'.get? d = some o → o.cls ≠ .none → s.heap.get? x = none → s.heap.get? d = none → Q (.ref x) { s with heap := h', toks := tk }
theorem memAt {h h' : Heap} {news : List (Addr × Obj)} (D : Mem h h' [] news) {x d : Addr} {v1 v2 : Value} (hx : h'.get? x = some ⟨.ref 145, some d, .seq #[v1, v2] 0, #[]⟩) (o : Obj) (hd : h'.get? d = some o) (hc : o.cls ≠ .none) : RawAt h' x v1 v2 := ⟨d, o, hx, hd, hc⟩
theorem raw_made {h : Heap} (X : (hd.heap_39 w.params).In h) : Looks (model P1 w) h (Bind.madeBy (.ref 145)) none := by
  have hC := X 145 _ (by k_is)
  intro A Q E s k q
  have hC' := k _ _ hC
  unfold Bind.madeBy
  have hm : Looks (model P1 w) h (mroOf (.ref 145)) [.ref 145, .type "tuple", .type "object"] := ((Looks.ld (part := none) hC).andThen .now).andThen .now
  refine wpAny_bind (hm A _ E s k ?_)
  rw [List.forIn_cons]
  refine wpAny_bind (wpAny_bind (wpAny_bind (wpAny_bind (wpAny_loadPart hC' (wpAny_pure ?_)))))
  exact wpAny_pure (wpAny_pure (wpAny_pure q))
theorem tnew_raw2 {A : Around} {v1 v2 : Value} {n : Nat} {tp : Addr} (X : (hd.heap_39 w.params).In s.heap) (hh : A.handled = none) (hd : A.depth + 2 < recursionLimit) (hu : A.units + 40 < cLine) (ha : s.heap.get? tp = some ⟨.type "tuple", none, .seq #[v1, v2] n, #[]⟩)
    (hq : RQ Q v1 v2 s) :
    wpAny (model P1 w) A (call (.builtin "tuple.__new__") [.ref 145, .ref tp]) Q E s := by
  obtain ⟨h0, g, d, t, os⟩ := s
  dsimp only at X ha
  have hC := X 145 _ (by k_is)
  have made := raw_made (w := w) X
  have ty : Looks (model P1 w) h0 (PySem.isType (.ref 145)) true := (Looks.ld (part := some headPart) hC).andThen .now
  have sub : Looks (model P1 w) h0 (isSubtype (.ref 145) (.type "tuple")) true := looks_mroIn X (by k_is)
  have ini : Looks (model P1 w) h0 (typeLookup (.ref 145) "__init__") (some (.builtin "object.__init__")) := looks_findIn X (by k_is)
  refine wpAny_call (codeAny_call_builtin F.plain_tuple_new F.entry_tuple_new ?_)
  unfold checkBuiltinCall
  have mbT : Looks (model P1 w) h0 (Bind.madeBy (.type "tuple")) (some "tuple.__new__") := fun A Q E s k q => by rw [F.called_tuple.made]; exact wpAny_pure q
  refine wpAny_bind (ty.at ?_)
  refine wpAny_bind (sub.at ?_)
  repeat ((fail_if_success (with_reducible show wpAny _ _ (collect _) _ _ _)); first | simp only [bne_self_eq_false, Bool.not_true, Bool.false_eq_true, if_false] | lk)
  refine wpAny_collect_seq tp (.inr rfl) ha rfl rfl (fun h1 k1 => ?_) (by show 2 ≤ sizeLine; decide)
  refine wpAny_bind (wpAny_pure ?_)
  repeat lk
  have hC2 := fun a b => Heap.get?_push_of_some a (Heap.get?_push_of_some b (k1 _ _ hC))
  refine wpAny_load (hC2 _ _) (wpAny_pure (wpAny_pure ?_))
  refine wpAny_bind (wpAny_pure ?_)
  refine wpAny_pure ?_
  have n1 : ∀ z, h1.objs.size ≤ z → h0.get? z = none := fun z hz => by
    cases q : h0.get? z with
    | none => rfl
    | some o => exact absurd (Heap.lt_size (k1 _ _ q)) (Nat.not_lt.mpr hz)
  exact hq.get _ h1.objs.size { cls := .type "dict", data := .dict #[] } _ _ (fun b o e => Heap.get?_push_of_some _ (Heap.get?_push_of_some _ (k1 b o e))) (Heap.get?_push_size _ rfl) (Heap.get?_push_of_some _ (Heap.get?_push_size _ rfl)) nofun (n1 _ (by rw [Heap.size_push]; exact Nat.le_succ _)) (n1 _ (Nat.le_refl _))
theorem new_spec (C : Cx w p loose mean mg mb (dp + 4) (un + 60) s.heap) {v1 v2 : Value} (hq : RQ Q v1 v2 s) :
    wpAny (model P1 w) (Mine.tp dp fr gd un) (call (.ref 95) [.ref 145, v1, v2]) Q E s := by
  obtain ⟨X, T, hd, hu⟩ := C
  refine' enter (binds := [("_cls", .ref 145), ("x", v1), ("data", v2)]) ?k1 ?k2 ?k3 ?k4 ?k5 ?k6 ?k7 ?k8 ?k9 ?k10 ?k11 ?_
  ((case k1 => assumption); (case k2 => exact Top.nolimit (by assumption)); (case k3 | k4 => k_is); (case k5 => (dsimp only; omega)); (case k6 => first | exact BindsTo.of_eq rfl | exact binds_K (by assumption) rfl (by k_is) rfl rfl rfl); (case k7 => exact locs rfl); (case k8 => decide); (case k9 | k10 | k11 => exact rfl); k_whole; intro hh9 FF9 NN9; (dsimp only [List.reverse, List.reverseAux] at FF9); (try dsimp only))
  k_extra "mine steps"
  rename Fr _ _ _ _ => F1
  refine' method_type (v := .builtin "tuple.__new__") ?F ?X ?m ?st ?e ?h ?_
  case F => exact F1
  case X => exact X
  case m => exact tt_type
  case st => exact tt_stub
  case e => k_is
  case h => k_handed
  k_extra "mine steps"
  rename Fr _ _ _ _ => F1
  rename News _ _ _ _ => N1
  refine tnew_raw2 (Frag.In.keeps X F1.keep) rfl (by simp only [Mine.tp, depth_deeper]; omega) (by simp only [Mine.tp, units_deeper]; omega) (N1 _ (List.Mem.head _)).1 ⟨fun x d o h' tk e r1 r2 r3 f fd => ?_⟩
  have hf : s.heap.get? x = none := by
    cases q : s.heap.get? x with
    | none => rfl
    | some o => have q1 := F1.keep _ _ q; rw [show _ = none from f] at q1; cases q1
  have hfd : s.heap.get? d = none := by
    cases q : s.heap.get? d with
    | none => rfl
    | some o => have q1 := F1.keep _ _ q; rw [show _ = none from fd] at q1; cases q1
  have r1' := r1
  have r2' := r2
  k_extra "mine ext"
  k_extra "mine steps"
  rename Fr _ _ _ _ => F1
  exact hq.get x d o _ _ F1.keep r1 r2 r3 hf hfd
theorem oi_run2 {A : Around} {a : Addr} {v1 v2 : Value} {od : Option Addr} {Q : Fin → Shared → Prop} (X : (hd.heap_39 w.params).In s.heap) (ha : s.heap.get? a = some ⟨.ref 145, od, .seq #[v1, v2] 0, #[]⟩)
    (hq : Q (.done (.ret .none)) s) :
    wpAny (model P1 w) A (Builtin.«object.__init__» ⟨[.ref a, v1, v2], []⟩) Q E s := by
  obtain ⟨hh, g, d, t, os⟩ := s
  dsimp only at X ha
  have made := raw_made (w := w) X
  have L0 : Looks (model P1 w) hh (typeOf (.ref a)) (.ref 145) := (Looks.ld ha).andThen .now
  have L1 : Looks (model P1 w) hh (typeLookup (.ref 145) "__init__") (some (.builtin "object.__init__")) := looks_findIn X (by k_is)
  unfold Builtin.«object.__init__»
  repeat (first | simp only [bne_self_eq_false, Bool.false_eq_true, if_false] | lk)
  exact hq
theorem raw_make (C : Cx w p loose mean mg mb (dp + 5) (un + 80) s.heap) {v1 v2 : Value} (hq : RQ Q v1 v2 s) :
    wpAny (model P1 w) (Mine.tp dp fr gd un) (call (.ref 145) [v1, v2]) Q E s := by
  obtain ⟨hh, g, d, t, os⟩ := s
  obtain ⟨X, T, hd, hu⟩ := C
  dsimp only at X T
  have hC := X 145 _ (by k_is)
  have made := raw_made (w := w) X
  have call : Looks (model P1 w) hh (specialOf (.ref 145) "__call__") (some (.builtin "type.__call__")) := looks_specialIn X (by k_is)
  have typ : Looks (model P1 w) hh (isInstance (.ref 145) (.type "type")) true := looks_instIn X (by k_is)
  have self : Looks (model P1 w) hh (isSubtype (.ref 145) (.ref 145)) true := looks_mroIn X (by k_is)
  have top : Looks (model P1 w) hh (isSubtype (.ref 145) (.type "object")) true := looks_mroIn X (by k_is)
  have hi : Looks (model P1 w) hh (typeLookup (.ref 145) "__init__") (some (.builtin "object.__init__")) := looks_findIn X (by k_is)
  refine wpAny_call (codeAny_of_tree ?_)
  show wpAny _ _ (callAny (.ref 145) _) _ _ _
  refine nd_load hC ?_
  show wpAny _ _ (callAny.viaDunder (.ref 145) _) _ _ _
  unfold callAny.viaDunder
  refine wpAny_bind (call.at ?_)
  dsimp only
  rw [tc_bind]
  refine wpAny_bind (wpAny_pure (wpAny_bind (wpAny_pure ?_)))
  refine wpAny_pure (a := Fin.again (.call (.builtin "type.__call__") ⟨[.ref 145, v1, v2], []⟩)) (And.intro rfl ?_)
  refine codeAny_call_builtin_at (Code.quiet_builtin _ (by decide +kernel)) entry_typeCall (check_slot tc_kind tc_split typ (tc_args _ _ _) ?_)
  unfold Builtin.«type.__call__»
  have hm : Looks (model P1 w) hh (mroOf (.ref 145)) [.ref 145, .type "tuple", .type "object"] := ((Looks.ld (part := none) hC).andThen .now).andThen .now
  repeat ((fail_if_success (with_reducible show wpAny _ _ (getAttr _ _ _) _ _ _)); first | simp only [Bool.false_eq_true, if_false] | lk)
  refine' cls_bind (mc := .type "type") (g := .builtin "staticmethod.__get__") (a := .ref 146) (obj := .none) (tp := .ref 145) X ?hr ?he (wpAny_call (sm_get (f := .ref 95) (rest := []) (s := { heap := hh, gens := g, drawn := d, toks := t + 1, os := os }) X ?hp (handed_on rfl ?_)))
  case hr => k_is
  case he => k_is
  case hp => k_is
  refine wpAny_bind (wpAny_holding ?_)
  have e0 : (Mine.tp dp fr gd un).under (.builtin "type.__call__" ⟨[.ref 145, v1, v2], []⟩) = Mine.tp (dp + 1) (pushEnvs [] fr) (pushGuards [] gd) (un + (Code.builtin "type.__call__" ⟨[.ref 145, v1, v2], []⟩).cUnits) := rfl
  have e1 : (Code.builtin "type.__call__" ⟨[.ref 145, v1, v2], []⟩).cUnits ≤ 20 := by rw [show (Code.builtin "type.__call__" ⟨[.ref 145, v1, v2], []⟩).cUnits = 1 from rfl]; decide
  rw [e0]
  refine new_spec (dp := dp + 1) (s := { heap := hh, gens := g, drawn := d, toks := t + 1, os := os }) ⟨X, T, by omega, by omega⟩ ⟨fun x dx o h' tk e r1 r2 r3 f fd => ?_⟩
  have self' := self.keeps e
  have hi' := hi.keeps e
  have t1 : Looks (model P1 w) h' (typeOf (.ref x)) (.ref 145) := (Looks.ld r1).andThen .now
  have t2 : Looks (model P1 w) h' (isInstance (.ref x) (.ref 145)) true := t1.andThen self'
  have t3 : Looks (model P1 w) h' (isInstance (.ref x) (.type "object")) true := t1.andThen (top.keeps e)
  refine wpAny_bind (t2.at ?_)
  simp only [Bool.not_true, Bool.false_eq_true, if_false]
  unfold callSpecial? specialOf
  refine wpAny_bind (wpAny_holding ?_)
  refine wpAny_bind (wpAny_bind (t1.at (hi'.at ?_)))
  dsimp only
  refine wpAny_holding ?_
  rw [oi_bind]
  refine wpAny_bind (wpAny_pure ?_)
  refine wpAny_bind (wpAny_call (codeAny_call_builtin oi_plain entry_oi (@check_slot (model P1 w) _ _ _ "object.__init__" "object" "__init__" (.ref x) [v1, v2] [] _ oi_kind oi_split t3 (by unfold argsOk; kernel_rfl) ?_)))
  refine oi_run2 (Frag.In.keeps X e) r1 ?_
  refine wpAny_pure (wpAny_pure ?_)
  exact hq.get x dx o h' tk e r1 r2 r3 f fd
end
end
section
def xt3 (a : Nat) : Nat := a ^^^ (if a < 128 then 2 * a else (2 * a) ^^^ 283)
def expGo : Nat → Nat → List Nat
  | 0, _ => []
  | n + 1, a => a :: expGo n (xt3 a)
def expL : List Nat := expGo 255 1
def EX (i : Nat) : Nat := expL.getD i 0
def LG (a : Nat) : Nat := if a = 0 then 0 else expL.idxOf a
theorem logtab (w : World) : ∃ b t, nsIn (hd.heap_39 w.params) mainGlobals "LOG_TABLE" = some (some (.bytes b t)) ∧ b.size = 256 ∧ ∀ i, i < 256 → (b.toList.getD i 0).toNat = LG i := by
  refine ⟨_, _, by k_is, ?_, ?_⟩
  · decide +kernel
  · decide +kernel
theorem exptab (w : World) : ∃ b t, nsIn (hd.heap_39 w.params) mainGlobals "EXP_TABLE" = some (some (.bytes b t)) ∧ b.size = 255 ∧ ∀ i, i < 255 → (b.toList.getD i 0).toNat = EX i := by
  refine ⟨_, _, by k_is, ?_, ?_⟩
  · decide +kernel
  · decide +kernel
theorem LG_lt (a : Nat) : LG a < 256 := by
  unfold LG
  split
  · decide
  · have : expL.length = 255 := by decide +kernel
    have := List.idxOf_le_length (a := a) (l := expL)
    omega
theorem EX_lt : ∀ i, EX i < 256 := by
  have h : ∀ i, i < 255 → EX i < 256 := by decide +kernel
  intro i
  by_cases hi : i < 255
  · exact h i hi
  · have hl : expL.length = 255 := by decide +kernel
    unfold EX
    rw [List.getD_eq_getElem?_getD, List.getElem?_eq_none (by omega)]
    decide
section
variable {M : Model} {A : Around} {E : Value → Shared → Prop} {s : Shared} {env : Env} {m : Str → Option Value} {x : Str} {pos px : Pos} {v : Value} {Q : Value → Shared → Prop}
theorem ev_local (hn : s.heap.Ns env.locals m) (hv : m x = some v) (h : Q v s) (hk : env.scope.kind = .function) (hl : env.kindOf x = some .local) (hd : (x == ("__debug__" : Str)) = false) : wpAny M A (eval (.Name x pos) env) Q E s :=
  wpAny_Name (wpAny_loadName_local hk hl hn hv h) hd
theorem ev_free {c : Addr} (hc : env.cells.lookup x = some c) (hv : s.heap.IsCell c (some v)) (h : Q v s) (hk : env.scope.kind = .function) (hl : env.kindOf x = some .free) (hd : (x == ("__debug__" : Str)) = false) (hn : (x == ("__classdict__" : Str)) = false) : wpAny M A (eval (.Name x pos) env) Q E s :=
  wpAny_Name (wpAny_loadName_free hk hl hc hv h hn) hd
theorem ev_cell {c : Addr} (hc : env.cells.lookup x = some c) (hv : s.heap.IsCell c (some v)) (h : Q v s) (hk : env.scope.kind = .function) (hl : env.kindOf x = some .cell) (hd : (x == ("__debug__" : Str)) = false) : wpAny M A (eval (.Name x pos) env) Q E s :=
  wpAny_Name (wpAny_loadName_cell hk hl hc hv h) hd
theorem ev_glob {K : Frag} {mg : Str → Option Value} (X : K.In s.heap) (G : s.heap.Ns mainGlobals mg) (e : nsIn K mainGlobals x = some (some v)) (h : Q v s) (hg : env.globals = mainGlobals) (hk : env.scope.kind = .function) (hl : env.kindOf x = some .globalImplicit) (hd : (x == ("__debug__" : Str)) = false) : wpAny M A (eval (.Name x pos) env) Q E s :=
  Name_function_global hk hl (loadGlobal_global (env := env) (by rw [hg]; exact G) (mg_of X G e) h) hd
theorem ev_built {K : Frag} {p : Program} {loose : List Str} {mean : ExcName → Option Value} {mg mb : Str → Option Value} (X : K.In s.heap) (T : Top p loose mean mg mb s.heap) (e : nsIn K mainGlobals x = some none) (hv : bootBuiltins x = some v) (hn : x ≠ "__name__") (h : Q v s)
    (hg : env.globals = mainGlobals) (hb : env.builtins = builtinsNs) (hk : env.scope.kind = .function) (hl : env.kindOf x = some .globalImplicit) (hd : (x == ("__debug__" : Str)) = false) : wpAny M A (eval (.Name x pos) env) Q E s :=
  Name_function_global hk hl (loadGlobal_builtin (env := env) (by rw [hg]; exact T.g) (mg_none_of X T.g e) (by rw [hb]; exact T.b) ((T.builtins x hn).trans hv) h) hd
theorem ev_attr {n : Str} (h : wpAny M A (eval (.Name x px) env) (fun v s' => wpAny M A (getAttr v n true) Q E s') E s) : wpAny M A (eval (.Attribute (.Name x px) n pos) env) Q E s := by
  rw [arm_eval_Attribute]
  refine wpAny_bind (m := attributeBase (.Name x px) n env (eval (.Name x px) env)) ?_
  show wpAny M A (eval (.Name x px) env) _ E s
  refine wpAny_mono h (fun v s' h' => wpAny_bind (wpAny_standAt (wpAny_bind (wpAny_holding (wpAny_mono h' (fun r s'' h'' => ?_) fun _ _ e => e))))) fun _ _ e => e
  exact wpAny_bind (wpAny_pure (wpAny_pure h''))
end
section
variable {prog : Program} {w : World} {A : Around} {E : Value → Shared → Prop} {s : Shared} {env : Env} {Q : Value → Shared → Prop}
theorem getB {b : Array UInt8} {t u : Tok} {i : Nat} {z : Int} (hz : z = (i : Int)) (hi : i < b.size) (hb : b.size ≤ 1000000) (h : Q (.int ((b.toList.getD i 0).toNat : Int) s.toks) { s with toks := s.toks + 1 }) : wpAny (model prog w) A (getItem (.bytes b t) (.int z u)) Q E s := by
  subst hz
  have hl : b.toList.length = b.size := Array.length_toList
  have e := PySem.W.getItem_bytes (prog := prog) (w := w) (A := A) (E := E) (s := s) (t := t) (u := u) (l := b.toList) (i := (i : Int)) (Q := Q) (by omega) (by omega) (by omega) h
  exact e
theorem ev_sub {e l r : Expr} {op : Operator} {pos p : Pos}
    (h : wpAny (model prog w) A (eval e env) (fun o s₁ => wpAny (model prog w) A (eval (.BinOp l op r p) env) (fun i s₂ => ∃ b t z k u, o = .bytes b t ∧ i = .int z u ∧ z = (k : Nat) ∧ k < b.size ∧ b.size ≤ 1000000 ∧ Q (.int ((b.toList.getD k 0).toNat : Int) s₂.toks) { s₂ with toks := s₂.toks + 1 }) E s₁) E s)
    (ht : ∀ o r, letTemporaryGo e o r = pure () := by intro _ _; rfl) :
    wpAny (model prog w) A (eval (.Subscript e (.BinOp l op r p) pos) env) Q E s := by
  refine wpAny_Subscript_BinOp_late (wpAny_mono h (fun o s₁ h₁ => wpAny_mono h₁ (fun i s₂ h₂ => ?_) fun _ _ e => e) fun _ _ e => e) ht
  obtain ⟨b, t, z, k, u, rfl, rfl, hz, hk, hb, hQ⟩ := h₂
  exact ⟨"bytes", _, FB.slot_bytes_getitem.lookup, PySem.W.typeIs_bytes s₂ b t, getB hz hk hb hQ⟩
theorem ev_subn {e : Expr} {x : Str} {pos p : Pos}
    (h : wpAny (model prog w) A (eval e env) (fun o s₁ => wpAny (model prog w) A (eval (.Name x p) env) (fun i s₂ => ∃ b t z k u, o = .bytes b t ∧ i = .int z u ∧ z = (k : Nat) ∧ k < b.size ∧ b.size ≤ 1000000 ∧ Q (.int ((b.toList.getD k 0).toNat : Int) s₂.toks) { s₂ with toks := s₂.toks + 1 }) E s₁) E s)
    (ht : ∀ o r, letTemporaryGo e o r = pure () := by intro _ _; rfl) :
    wpAny (model prog w) A (eval (.Subscript e (.Name x p) pos) env) Q E s := by
  refine wpAny_Subscript_Name_late (wpAny_mono h (fun o s₁ h₁ => wpAny_mono h₁ (fun i s₂ h₂ => ?_) fun _ _ e => e) fun _ _ e => e) ht
  obtain ⟨b, t, z, k, u, rfl, rfl, hz, hk, hb, hQ⟩ := h₂
  exact ⟨"bytes", _, FB.slot_bytes_getitem.lookup, PySem.W.typeIs_bytes s₂ b t, getB hz hk hb hQ⟩
end
end
section
structure Sh where
  a : Addr
  x : Nat
  t : Tok
  b : Array UInt8
  u : Tok
abbrev ShAt (h : Heap) (q : Sh) : Prop := RawAt h q.a (.int (q.x : Int) q.t) (.bytes q.b q.u)
abbrev shVals (l : List Sh) : Array Value := (l.map fun q => Value.ref q.a).toArray
section
variable {w : World} {p : Program} {loose : List Str} {mean : ExcName → Option Value} {mg mb : Str → Option Value} {A : Around} {s : Shared} {Q E : Value → Shared → Prop} {env : Env} {nm : Str} {px pos : Pos} {q : Sh}
theorem ev_x (hA : A.handled = none) (hdp : A.depth + 3 < recursionLimit) (hu : A.units + 80 < cLine) (X : (hd.heap_39 w.params).In s.heap) (T : Top p loose mean mg mb s.heap) (R : ShAt s.heap q)
    (hname : ∀ Q' : Value → Shared → Prop, Q' (.ref q.a) s → wpAny (model P1 w) A (eval (.Name nm px) env) Q' E s) (hQ : ∀ h tk, Ext s.heap h → Q (.int (q.x : Int) q.t) { s with heap := h, toks := tk }) :
    wpAny (model P1 w) A (eval (.Attribute (.Name nm px) "x" pos) env) Q E s := by
  obtain ⟨ah, ad, af, ag, au⟩ := A
  dsimp only at hA hdp hu
  subst hA
  exact ev_attr (hname _ (getx_spec (dp := ad) (un := au) ⟨X, T, hdp, hu⟩ R rfl ⟨hQ⟩))
theorem ev_d (hA : A.handled = none) (hdp : A.depth + 3 < recursionLimit) (hu : A.units + 80 < cLine) (X : (hd.heap_39 w.params).In s.heap) (T : Top p loose mean mg mb s.heap) (R : ShAt s.heap q)
    (hname : ∀ Q' : Value → Shared → Prop, Q' (.ref q.a) s → wpAny (model P1 w) A (eval (.Name nm px) env) Q' E s) (hQ : ∀ h tk, Ext s.heap h → Q (.bytes q.b q.u) { s with heap := h, toks := tk }) :
    wpAny (model P1 w) A (eval (.Attribute (.Name nm px) "data" pos) env) Q E s := by
  obtain ⟨ah, ad, af, ag, au⟩ := A
  dsimp only at hA hdp hu
  subst hA
  exact ev_attr (hname _ (getd_spec (dp := ad) (un := au) ⟨X, T, hdp, hu⟩ R rfl ⟨hQ⟩))
theorem ev_log {rhs : Expr} {y : Nat} {p1 p2 p3 p4 : Pos} (hA : A.handled = none) (hdp : A.depth + 3 < recursionLimit) (hu : A.units + 80 < cLine) (X : (hd.heap_39 w.params).In s.heap) (T : Top p loose mean mg mb s.heap) (R : ShAt s.heap q)
    (hx : q.x < 256) (hy : y < 256) (hg : env.globals = mainGlobals) (hk : env.scope.kind = .function) (hl : env.kindOf "LOG_TABLE" = some .globalImplicit)
    (hname : ∀ Q' : Value → Shared → Prop, Q' (.ref q.a) s → wpAny (model P1 w) A (eval (.Name nm px) env) Q' E s)
    (hrhs : ∀ (h : Heap) (tk : Nat) (Q' : Value → Shared → Prop), Ext s.heap h → (∀ u h' tk', Ext h h' → Q' (.int (y : Int) u) { s with heap := h', toks := tk' }) → wpAny (model P1 w) A (eval rhs env) Q' E { s with heap := h, toks := tk })
    (hQ : ∀ t h tk, Ext s.heap h → Q (.int (LG (q.x ^^^ y) : Nat) t) { s with heap := h, toks := tk }) :
    wpAny (model P1 w) A (eval (.Subscript (.Name "LOG_TABLE" p1) (.BinOp (.Attribute (.Name nm px) "x" p2) .BitXor rhs p3) p4) env) Q E s := by
  obtain ⟨b, t, hb, hz, hv⟩ := logtab w
  refine ev_sub (ev_glob X T.g hb ?_ hg hk hl (by decide))
  refine wpAny_BinOp (ev_x hA hdp hu X T R hname fun h tk e => hrhs h tk _ e fun u h' tk' e' => xor_n rfl rfl ?_)
  have hlt : q.x ^^^ y < 256 := Nat.xor_lt_two_pow (n := 8) hx hy
  refine ⟨b, t, _, q.x ^^^ y, _, rfl, rfl, rfl, by omega, by omega, ?_⟩
  rw [hv _ hlt]
  exact hQ _ _ _ (e.trans e')
theorem ev_len {p1 p2 : Pos} (hA : A.handled = none) (hdp : A.depth + 3 < recursionLimit) (hu : A.units + 80 < cLine) (X : (hd.heap_39 w.params).In s.heap) (T : Top p loose mean mg mb s.heap) (R : ShAt s.heap q) (hb : q.b.size ≤ 100000)
    (hname : ∀ (h : Heap) (tk : Nat) (Q' : Value → Shared → Prop), Ext s.heap h → Q' (.ref q.a) { s with heap := h, toks := tk } → wpAny (model P1 w) A (eval (.Name nm px) env) Q' E { s with heap := h, toks := tk })
    (hlen : ∀ (Q' : Value → Shared → Prop), Q' (.builtin "len") s → wpAny (model P1 w) A (eval (.Name "len" p1) env) Q' E s)
    (hQ : ∀ t h tk, Ext s.heap h → Q (.int (q.b.size : Nat) t) { s with heap := h, toks := tk }) :
    wpAny (model P1 w) A (eval (.Call (.Name "len" p1) [.Attribute (.Name nm px) "data" pos] [] p2) env) Q E s := by
  walk1
  refine hlen _ ?_
  walk1
  walk1
  refine ev_d hA hdp hu X T R (fun Q' => hname s.heap s.toks Q' (Ext.refl _)) fun h tk e => ?_
  walk1
  refine PySem.W.len_bytes (by omega) ?_
  exact hQ _ _ _ e
def mulB (l v : Nat) : Nat := if v = 0 then 0 else EX ((LG v + l) % 255)
theorem mulB_lt (l v : Nat) : mulB l v < 256 := by
  unfold mulB; split
  · decide
  · exact EX_lt _
theorem ev_byte {v r l : Nat} {tv tr tl : Tok} {m : Str → Option Value} {c : Addr} {p1 p2 p3 p4 p5 p6 p7 p8 p9 pa pb pc pd pe pf pg : Pos} (X : (hd.heap_39 w.params).In s.heap) (T : Top p loose mean mg mb s.heap)
    (hv : v < 256) (hr : r < 256) (hl : l < 255) (hg : env.globals = mainGlobals) (hk : env.scope.kind = .function) (hL : env.kindOf "LOG_TABLE" = some .globalImplicit) (hE : env.kindOf "EXP_TABLE" = some .globalImplicit)
    (hns : s.heap.Ns env.locals m) (h1 : m "share_val" = some (.int (v : Int) tv)) (h2 : m "intermediate_sum" = some (.int (r : Int) tr)) (k1 : env.kindOf "share_val" = some .local) (k2 : env.kindOf "intermediate_sum" = some .local)
    (k3 : env.kindOf "log_basis_eval" = some .free) (hc : env.cells.lookup ("log_basis_eval" : Str) = some c) (hcv : s.heap.IsCell c (some (.int (l : Int) tl)))
    (hQ : ∀ t h tk, Ext s.heap h → Q (.int (r ^^^ mulB l v : Nat) t) { s with heap := h, toks := tk }) :
    wpAny (model P1 w) A (eval (.BinOp (.Name "intermediate_sum" p1) .BitXor (.IfExp (.Compare (.Name "share_val" p2) [.NotEq] [.Constant (.int 0) 0 p3] p4)
      (.Subscript (.Name "EXP_TABLE" p5) (.BinOp (.BinOp (.Subscript (.Name "LOG_TABLE" p6) (.Name "share_val" p7) p8) .Add (.Name "log_basis_eval" p9) pa) .Mod (.Constant (.int 255) 0 pb) pc) pd) (.Constant (.int 0) 0 pe) pf) pg) env) Q E s := by
  obtain ⟨bL, tL, hbL, hzL, hvL⟩ := logtab w
  obtain ⟨bE, tE, hbE, hzE, hvE⟩ := exptab w
  refine wpAny_BinOp (ev_local hns h2 ?_ hk k2 (by decide))
  refine wpAny_IfExp (wpAny_isTrue_Compare1 (ev_local hns h1 ?_ hk k1 (by decide)))
  refine wpAny_Constant_int (ne_n rfl rfl (wpAny_truthy_bool ?_))
  by_cases h0 : v = 0
  · rw [if_neg (by simp [h0])]
    refine wpAny_Constant_int (xor_n rfl (natlit 0) ?_)
    have e : mulB l v = 0 := by unfold mulB; rw [if_pos h0]
    rw [e] at hQ
    exact hQ _ _ _ (Ext.refl _)
  · rw [if_pos (by simp [h0])]
    refine ev_sub (ev_glob X T.g hbE ?_ hg hk hE (by decide))
    refine wpAny_BinOp (wpAny_BinOp (ev_subn (ev_glob X T.g hbL ?_ hg hk hL (by decide))))
    refine ev_local hns h1 ⟨_, _, _, v, _, rfl, rfl, rfl, by omega, by omega, ?_⟩ hk k1 (by decide)
    refine ev_free hc hcv (add_n rfl rfl (wpAny_Constant_int (mod_n rfl (natlit 255) (by decide) ?_))) hk k3 (by decide) (by decide)
    have hlt : ((bL.toList.getD v 0).toNat + l) % 255 < 255 := Nat.mod_lt _ (by decide)
    refine ⟨_, _, _, ((bL.toList.getD v 0).toNat + l) % 255, _, rfl, rfl, rfl, by omega, by omega, xor_n rfl rfl ?_⟩
    rw [hvE _ hlt, hvL _ hv]
    have e : mulB l v = EX ((LG v + l) % 255) := by unfold mulB; rw [if_neg h0]
    rw [← e]
    exact hQ _ _ _ (Ext.refl _)
end
end
section
theorem dedup_nodup : ∀ (l acc : List Int), (acc ++ l).Nodup → l.foldl step_dedup acc = acc ++ l
  | [], acc, _ => by simp
  | x :: l, acc, h => by
    have hx : acc.any (· == x) = false := by
      rw [List.any_eq_false]
      intro y hy e
      rw [beq_iff_eq] at e; subst e
      rw [List.nodup_append] at h
      exact h.2.2 y hy y (by simp) rfl
    rw [List.foldl_cons]
    have e : step_dedup acc x = acc ++ [x] := by unfold step_dedup; rw [if_neg (by rw [hx]; decide)]
    rw [e, dedup_nodup l (acc ++ [x]) (by simpa using h)]
    simp
theorem dedup_same : ∀ (l : List Int) (a : Int), (∀ x ∈ l, x = a) → l.foldl step_dedup [a] = [a]
  | [], _, _ => rfl
  | x :: l, a, h => by
    obtain rfl := h x (by simp)
    rw [List.foldl_cons]
    have e : step_dedup [x] x = [x] := by unfold step_dedup; simp
    rw [e]; exact dedup_same l x fun y hy => h y (by simp [hy])
def xsVal (shs : List Sh) (i : Nat) : Int := ((shs[i]?.map Sh.x).getD 0 : Nat)
def nsVal (shs : List Sh) (i : Nat) : Int := ((shs[i]?.map fun q => q.b.size).getD 0 : Nat)
theorem xsVal_map (shs : List Sh) : (List.range shs.length).map (xsVal shs) = shs.map fun q => (q.x : Int) := by
  refine List.ext_getElem (by simp) fun i h1 h2 => ?_
  simp only [List.length_map, List.length_range] at h1
  simp [xsVal, h1]
theorem nsVal_map (shs : List Sh) : (List.range shs.length).map (nsVal shs) = shs.map fun q => (q.b.size : Int) := by
  refine List.ext_getElem (by simp) fun i h1 h2 => ?_
  simp only [List.length_map, List.length_range] at h1
  simp [nsVal, h1]
theorem shVals_size (shs : List Sh) : (shVals shs).size = shs.length := by simp [shVals]
theorem firstX {shs : List Sh} (h : (shs.map Sh.x).Nodup) : firstMet (xsVal shs) shs.length = shs.map fun q => (q.x : Int) := by
  unfold firstMet
  rw [xsVal_map, dedup_nodup _ [] (by
    rw [List.nil_append, show (shs.map fun q => (q.x : Int)) = (shs.map Sh.x).map Int.ofNat by simp]
    exact List.Pairwise.map _ (fun a b hab q => hab (Int.ofNat.inj q)) h)]
  simp
theorem firstN {shs : List Sh} {n : Nat} (h : ∀ q ∈ shs, q.b.size = n) (hne : shs ≠ []) : firstMet (nsVal shs) shs.length = [(n : Int)] := by
  unfold firstMet
  rw [nsVal_map]
  cases shs with
  | nil => exact absurd rfl hne
  | cons q l =>
    rw [List.map_cons, List.foldl_cons]
    have e : step_dedup [] ((q.b.size : Nat) : Int) = [(q.b.size : Int)] := rfl
    rw [e, h q (by simp)]
    refine dedup_same _ _ fun x hx => ?_
    obtain ⟨r, hr, rfl⟩ := List.mem_map.mp hx
    rw [h r (by simp [hr])]
theorem preSum_shs (shs : List Sh) (f : Sh → Nat) : preSum (fun i => (((shs[i]?.map f).getD 0 : Nat) : Int)) shs.length = (((shs.map f).sum : Nat) : Int) := by
  have h : ∀ k, k ≤ shs.length → preSum (fun i => (((shs[i]?.map f).getD 0 : Nat) : Int)) k = ((((shs.take k).map f).sum : Nat) : Int) := by
    intro k
    induction k with
    | zero => intro _; rfl
    | succ k ih =>
      intro hk
      have hlt : k < shs.length := hk
      have e : shs.take (k + 1) = shs.take k ++ [shs[k]] := by rw [List.take_add_one, List.getElem?_eq_getElem hlt]; rfl
      rw [preSum, ih (by omega), e, List.map_append, List.sum_append, List.getElem?_eq_getElem hlt]
      simp only [Option.map_some, Option.getD_some, List.map_cons, List.map_nil, List.sum_cons, List.sum_nil, Nat.add_zero]
      omega
  have := h shs.length (Nat.le_refl _)
  rwa [List.take_length] at this
def lprod (shs : List Sh) (x0 : Nat) : Nat := (shs.map fun q => LG (q.x ^^^ x0)).sum
def lsum (shs : List Sh) (x : Nat) : Nat := (shs.map fun q => LG (x ^^^ q.x)).sum
def lbe (shs : List Sh) (x0 : Nat) (q : Sh) : Nat := (((lprod shs x0 : Int) - (LG (q.x ^^^ x0) : Int) - (lsum shs q.x : Int)) % 255).toNat
def addMul (l : Nat) (b r : Array UInt8) : Array UInt8 := bOf (fun i => (r.toList.getD i 0).toNat ^^^ mulB l (b.toList.getD i 0).toNat) b.size
def lagr (shs : List Sh) (x0 n : Nat) (k : Nat) : Array UInt8 := (shs.take k).foldl (fun r q => addMul (lbe shs x0 q) q.b r) (bOf (fun _ => 0) n)
theorem lagr_succ {shs : List Sh} {x0 n k : Nat} {q : Sh} (h : shs[k]? = some q) : lagr shs x0 n (k + 1) = addMul (lbe shs x0 q) q.b (lagr shs x0 n k) := by
  unfold lagr
  rw [List.take_add_one, h]
  simp
theorem lagr_size {shs : List Sh} {x0 n : Nat} (h : ∀ q ∈ shs, q.b.size = n) : ∀ k, (lagr shs x0 n k).size = n
  | 0 => by unfold lagr; simp [bOf_size]
  | k + 1 => by
    cases e : shs[k]? with
    | none =>
      have : shs.take (k + 1) = shs.take k := by rw [List.take_add_one, e]; simp
      unfold lagr; rw [this]; exact lagr_size h k
    | some q =>
      rw [lagr_succ e]; unfold addMul; rw [bOf_size]; exact h q (List.mem_of_getElem? e)
theorem lbe_lt (shs : List Sh) (x0 : Nat) (q : Sh) : lbe shs x0 q < 255 := by unfold lbe; omega
def interpB (shs : List Sh) (x0 n : Nat) : Array UInt8 := match shs.find? fun q => q.x == x0 with
  | some q => q.b
  | none => lagr shs x0 n shs.length
theorem find_nodup : ∀ {shs : List Sh} {q : Sh}, (shs.map Sh.x).Nodup → q ∈ shs → shs.find? (fun p => p.x == q.x) = some q
  | [], _, _, h => nomatch h
  | r :: l, q, hn, h => by
    rw [List.map_cons, List.nodup_cons] at hn
    rcases List.mem_cons.mp h with rfl | h
    · rw [List.find?_cons_of_pos (by simp)]
    · have : r.x ≠ q.x := fun e => hn.1 (e ▸ List.mem_map_of_mem h)
      rw [List.find?_cons_of_neg (by simpa using this)]
      exact find_nodup hn.2 h
theorem interpB_found {shs : List Sh} {q : Sh} {x0 n : Nat} (hn : (shs.map Sh.x).Nodup) (h : q ∈ shs) (e : q.x = x0) : interpB shs x0 n = q.b := by
  subst e; unfold interpB; rw [find_nodup hn h]
theorem interpB_none {shs : List Sh} {x0 n : Nat} (h : x0 ∉ shs.map Sh.x) : interpB shs x0 n = lagr shs x0 n shs.length := by
  have e : shs.find? (fun q => q.x == x0) = none := by
    rw [List.find?_eq_none]
    intro q hq e
    exact h (List.mem_map.mpr ⟨q, hq, by simpa using e⟩)
  unfold interpB; rw [e]
section
variable {prog : Program} {w : World} {A : Around} {s : Shared} {Q E : Value → Shared → Prop}
theorem len_setobj {S : Addr} {o : Obj} {Sf : Int → Bool} {n : Nat} (e : s.heap.get? S = some o) (h : o.SetObjOf (intKind prog w) Sf n) (hn : n < 1000) (hQ : Q (.int (n : Int) (s.toks + 1)) { s with toks := s.toks + 1 + 1 }) :
    wpAny (model prog w) A (call (.builtin "len") [.ref S]) Q E s := by
  obtain ⟨hex, es, ep, t, hd, hel, hmem, hsz, hf⟩ := h
  subst hsz
  exact call_len_set e hex hd hf (by omega) hQ
theorem in_setobj {S : Addr} {o : Obj} {Sf : Int → Bool} {n : Nat} {z : Int} {t : Tok} (e : s.heap.get? S = some o) (h : o.SetObjOf (intKind prog w) Sf n) (hn : n < scanBound) (hQ : Q (.bool (Sf z)) { s with toks := s.toks + 1 }) :
    wpAny (model prog w) A (compareOp .In (.int z t) (.ref S)) Q E s :=
  wpAny_inSet_of (knd := intKind prog w) (k := z) (intKind_is _ _ _ _) rfl (h.setOf e hn) hQ
end
end
section
section
variable {prog : Program} {w : World} {A : Around} {s : Shared} {E : Value → Shared → Prop}
theorem wpAny_choose1 {M : Model} {src : Source} {n : Nat} {Q : Nat → Shared → Prop} (hn : n = 1) (h : Q 0 { s with drawn := s.drawn.bump src }) : wpAny M A (choose src n) Q E s := fun Γ p hΓ => by
  subst hn
  refine ⟨by decide, ?_⟩
  show Q (_ % 1) _
  rw [Nat.mod_one]; exact h
theorem meth_set_pop {S : Addr} {o : Obj} {Sf : Int → Bool} {n : Nat} {pl : Sem Bool} {Q : Value × List Value → Shared → Prop} (e : s.heap.get? S = some o) (h : o.SetObjOf (intKind prog w) Sf n) (hn : n < 1000) (hQ : Q (.builtin "set.pop", [.ref S]) s) :
    wpAny (model prog w) A (getMethod (.ref S) "pop" pl) Q E s := by
  have hS := h.setOf e (by unfold scanBound; omega)
  exact getMethod_builtin hS.typeIs F.plainAttrs_set F.slot_set_pop F.type_set_pop hS.noDict hQ
theorem call_set_pop {S : Addr} {o : Obj} {Sf : Int → Bool} {z : Int} {Q : Value → Shared → Prop} (e : s.heap.get? S = some o) (h : o.SetObjOf (intKind prog w) Sf 1) (hz : ∀ k, Sf k = true → k = z)
    (hQ : ∀ t h' o' dr, h'.get? S = some o' → (∃ es ep t', o'.data = .set es ep t') → Heap.SameBut S s.heap h' → Q (.int z t) { s with heap := h', drawn := dr }) :
    wpAny (model prog w) A (call (.builtin "set.pop") [.ref S]) Q E s := by
  have hS := h.setOf e (by unfold scanBound; omega)
  obtain ⟨hex, es, ep, t, hd, hel, hmem, hsz, hf⟩ := h
  refine wpAny_call_entry F.slot_set_pop hS.typeIs F.entry_set_pop ?_ (F.args_set_pop_1 _)
  unfold Builtin.«set.pop» Builtin.Frozenset.noArgs Builtin.Frozenset.addrOf
  simp only [List.isEmpty_nil, bind_assoc]
  refine wpAny_bind (wpAny_pure ?_)
  try dsimp only
  refine wpAny_bind ?_
  unfold setPop
  refine wpAny_bind (wpAny_setState_of e hd ?_ ?_)
  · exact hf
  have hpl : t.place.size = 1 := by
    simp only [SetTable.fits, Bool.and_eq_true, beq_iff_eq, decide_eq_true_eq] at hf
    omega
  have hpop : t.popPlace = some 0 := by
    unfold SetTable.popPlace
    rw [if_neg (by intro h; rw [Array.isEmpty_iff_size_eq_zero] at h; omega)]
    dsimp only
    split
    · rename_i h; rw [hpl] at h; congr 1; omega
    · rfl
  obtain ⟨⟨hv, x⟩, hx⟩ : ∃ p, es[0]? = some p := ⟨es[0]'(by omega), by simp [hsz]⟩
  have hxm : (hv, x) ∈ es.toList := by
    rw [Array.mem_toList_iff]; exact Array.mem_of_getElem? hx
  obtain ⟨k, hk, -⟩ := (hel (hv, x) hxm).1
  have hkz := hz k ((hmem k).mpr ⟨_, hxm, hk⟩)
  subst hkz
  obtain ⟨tx, rfl⟩ := Value.isInt_shape hk
  have fin : ∀ dr, wpAny (model prog w) A.in1 (do
            storeSet S (SetTable.eraseAt es 0) (t.popped 0)
            pure (some (Value.int k tx)))
      (fun a s' =>
      wpAny (model prog w) A.in1
        (match a with
        | some x => ret x
        | x => do
          rule "set.pop.empty"
          raiseErrorWords "KeyError" "pop from an empty set")
        (fun fin s' => ∃ v, fin = Fin.done (Flow.ret v) ∧ Q v s') E s') E { s with drawn := dr } := by
    intro dr
    refine wpAny_bind (wpAny_storeSet_of (s := { s with drawn := dr }) e hd ?_ ?_)
    · refine wpAny_pure (wpAny_pure ⟨_, rfl, ?_⟩)
      obtain ⟨c, d, dt, sl⟩ := o
      dsimp only at hd
      subst hd
      exact hQ tx _ _ dr (Heap.get?_update_self _ e rfl) ⟨_, _, _, rfl⟩ (Heap.SameBut.update ..)
    · have : (SetTable.eraseAt es 0).size = 0 := by simp [SetTable.eraseAt, hsz]
      omega
  dsimp only
  rw [hpop]
  dsimp only
  unfold setsByText
  refine wpAny_bind (wpAny_bind (wpAny_askSetting (wpAny_pure ?_)))
  split
  · refine wpAny_bind (wpAny_choose1 hsz ?_)
    rw [hx]
    exact fin _
  · refine wpAny_bind ?_
    k_node
    rw [if_neg (by simp [hsz])]
    refine wpAny_pure ?_
    refine wpAny_bind (wpAny_pure ?_)
    rw [hx]
    exact fin s.drawn
end
end
section
theorem bi_no_bytes : typeLookup (.type "int") "__bytes__" = pure none := by rw [typeLookup_type, builtinLookup_eq_fast]; kernel_rfl
theorem bi_index : typeLookup (.type "int") "__index__" = pure (some (.builtin "int.__index__")) := by rw [typeLookup_type, builtinLookup_eq_fast]; kernel_rfl
section
variable {prog : Program} {w : World} {A : Around} {s : Shared} {E : Value → Shared → Prop}
theorem bytes_newI {n : Nat} {z : Int} {t : Tok} {Q : Value → Shared → Prop} (hz : z = (n : Int)) (hn : n ≤ 1000)
    (hQ : ∀ t tk, Q (.bytes (bOf (fun _ => 0) n) t) { s with toks := tk }) :
    codeAny (model prog w) A (.call (.builtin "bytes.__new__") ⟨[.type "bytes", .int z t], []⟩) (wants Q E) s := by
  subst hz
  refine codeAny_of_tree ?_
  show wpAny _ A.in1 (do checkBuiltinCall "bytes.__new__" ⟨[.type "bytes", .int n t], []⟩; again (.builtin "bytes.__new__" ⟨[.type "bytes", .int n t], []⟩)) _ _ s
  refine wpAny_bind (wpAny_of_eq (F.bm_newCall _) (wpAny_pure ⟨plainId_quiet F.bm_plain _, codeAny_builtin F.bm_entry ?_⟩))
  rw [Around.under_plainId F.bm_plain _]
  have hvi := bi_index
  have hT : s.TypeIs (.int (n : Int) t) "int" := typeIs_int _ _ _
  generalize hz9 : (n : Int) = z9 at hT ⊢
  unfold Builtin.«bytes.__new__»
  refine wpAny_bind (wpAny_of_eq (a := true) rfl ?_)
  refine bm_if_false rfl ?_
  refine wpAny_bind (wpAny_of_eq F.bm_sub ?_)
  refine bm_if_false rfl ?_
  refine wpAny_bind (wpAny_of_eq (F.bm_bind _) ?_)
  refine wpAny_bind (wpAny_of_eq (a := ()) rfl ?_)
  refine wpAny_bind (wpAny_of_eq (a := ()) rfl ?_)
  refine bm_if_false rfl ?_
  refine wpAny_bind (wpAny_specialOf hT bi_no_bytes ?_)
  refine wpAny_bind (wpAny_of_eq (a := false) rfl ?_)
  refine bm_if_false rfl ?_
  refine wpAny_bind (wpAny_specialOf hT hvi ?_)
  refine bm_if_false rfl ?_
  refine wpAny_bind (wpAny_attempt (wpAny_of_eq (rfl : asIndex (.int z9 t) = pure z9) ?_))
  dsimp only
  have c1 : (!Builtin.Bytes.fitsIndex z9) = false := by
    simp only [Builtin.Bytes.fitsIndex, Bool.not_eq_false', Bool.and_eq_true, decide_eq_true_eq]; omega
  refine bm_if_false c1 ?_
  rw [if_neg (by omega)]
  rw [if_neg (by omega)]
  have e9 : z9.toNat = n := by omega
  rw [e9]
  rw [if_neg (by unfold Builtin.Bytes.tooLong; rw [sizeLine_eq]; simp; omega)]
  refine wpAny_bind (wpAny_rule ?_)
  refine wpAny_bind (wpAny_mkBytes ?_ (by rw [Array.size_replicate, sizeLine_eq]; omega))
  have eb : Array.replicate n (0 : UInt8) = bOf (fun _ => 0) n := by
    refine Array.ext (by simp [bOf_size]) fun i h1 h2 => ?_
    simp [bOf]
  rw [eb]
  show wpAny _ _ (if (Value.type "bytes" == Value.type "bytes") = true then _ else _) _ _ _
  refine bm_if_true (by decide) ?_
  first
    | exact wpAny_pure (hQ _ _)
    | exact wpAny_bind (wpAny_pure (wpAny_pure (hQ _ _)))
theorem call_bytes_count {n : Nat} {z : Int} {t : Tok} {Q : Value → Shared → Prop} (hz : z = (n : Int)) (hn : n ≤ 1000)
    (hQ : ∀ t tk, Q (.bytes (bOf (fun _ => 0) n) t) { s with toks := tk }) :
    wpAny (model prog w) A (call (.type "bytes") [.int z t]) Q E s := by
  refine callType_codes (Q₁ := fun obj s₁ => s₁.TypeIs obj "bytes" ∧ Q obj s₁) F.bm_called (F.bm_typeCall _) F.entry_object_init
    (bytes_newI (A := A.in1) hz hn fun t tk => ⟨PySem.W.typeIs_bytes _ _ _, hQ t tk⟩) fun obj s₁ h₁ => ?_
  exact ⟨h₁.1, F.args_object_init_2 obj _, object_init_meets F.bm_called.init.lookup F.bm_called.made (by decide) prog w A.in1 _ s₁ ⟨h₁.1, rfl, h₁.2⟩⟩
end
end
section
theorem nt_cell {o : Obj} {v : Option Value} (d : o.data = .cell v) (ps : Array Value) : o ≠ tabObj ps := fun q => by rw [q] at d; cases d
theorem nt_set {o : Obj} {es ep t} (d : o.data = .set es ep t) (ps : Array Value) : o ≠ tabObj ps := fun q => by rw [q] at d; cases d
theorem lay_I1_own0 : True := by
  k_with "mine retab" => first | exact Retab.nil | (apply Retab.tab; k_extra "mine retab") | (apply Retab.skipA; assumption; k_extra "mine retab") | (apply Retab.skip; (first | exact nt_cell (by assumption) _ | exact nt_set (by assumption) _ | nofun); k_extra "mine retab")
  trivial
theorem inLong_nat {f : Nat → Nat} (hf : ∀ i, f i < 2 ^ 16) {j : Nat} (hj : j < 1000) : InLong ((f j : Nat) : Int) ∧ InLong (preSum (fun i => ((f i : Nat) : Int)) (j + 1)) := by
  have hs : ∀ k, 0 ≤ preSum (fun i => ((f i : Nat) : Int)) k ∧ preSum (fun i => ((f i : Nat) : Int)) k ≤ 65536 * k := by
    intro k
    induction k with
    | zero => exact ⟨Int.le_refl _, Int.le_refl _⟩
    | succ k ih =>
      have := hf k
      rw [preSum]; omega
  have h1 := hf j
  have h2 := hs (j + 1)
  unfold InLong
  omega
theorem shAt {shs : List Sh} {i : Nat} {v : Value} (hi : (shVals shs)[i]? = some v) : ∃ q, shs[i]? = some q ∧ v = .ref q.a := by
  simp only [shVals, List.getElem?_toArray, List.getElem?_map, Option.map_eq_some_iff] at hi
  obtain ⟨q, a, b⟩ := hi
  exact ⟨q, a, b.symm⟩
inductive AfterE (g h h' : Heap) (P L : Addr) (m : Str → Option Value) (news : List (Addr × Obj)) (ps : Array Value) : Prop
  | mk (ps' : Array Value) (a1 : TriplesOk ps'.toList) (a2 : Fr g L h' m) (a3 : ExtP P h h') (a4 : ∀ news', Retab P (tabObj ps) (tabObj ps') news news' → News g L h' news')
inductive AfterK (g h' : Heap) (P L : Addr) (m : Str → Option Value) (news : List (Addr × Obj)) (ps : Array Value) : Prop
  | mk (ps' : Array Value) (a1 : TriplesOk ps'.toList) (a2 : Fr g L h' m) (a3 : ∀ news', Retab P (tabObj ps) (tabObj ps') news news' → News g L h' news')
inductive InI1 (m m₁ : Str → Option Value) (gs₁ gs₈ : Array GenState) (shs : List Sh) (x0 i : Nat) (S' S L : Addr) (oS' oS oc2 oc3 : Obj) (ps : Array Value) (n₁ : List (Addr × Obj)) : Prop
  | mk (a1 : m₁ = m) (a2 : gs₁ = gs₈) (a3 : ∀ j q, j < i → shs[j]? = some q → q.x ≠ x0) (o : Obj) (v : Option Value) (a4 : o.data = .cell v) (a5 : n₁ = [(S', oS'), (S, oS), (L + 1 + 1 + 1, o), (L + 1 + 1, oc2), (L + 1, oc3), (150, tabObj ps)])
inductive InI2 (gs₀ gs₁ : Array GenState) (b : Array UInt8) (l : Addr) (lp : Nat) (tv : Tok) (L : Addr) (oc3 : Obj) (m₁ : Str → Option Value) (n₁ : List (Addr × Obj)) : Prop
  | mk (a1 : AllAt m₁ [("shares", .ref l), ("log_prod", .int (lp : Int) tv)]) (u : Tok) (a2 : m₁ "result" = some (.bytes b u)) (a3 : GB gs₀ gs₁) (o1 : Obj) (v1 : Option Value) (o2 : Obj) (v2 : Option Value) (ps' : Array Value) (a4 : o1.data = .cell v1) (a5 : o2.data = .cell v2) (a6 : TriplesOk ps'.toList)
    (a7 : n₁ = [(L + 1 + 1 + 1, o1), (L + 1 + 1, o2), (L + 1, oc3), (150, tabObj ps')])
theorem after {g h h₅ h' : Heap} {c P L : Addr} {m : Str → Option Value} {news : List (Addr × Obj)} {ps : Array Value} (F : Fr g L h m) (N : News g L h news) (hG : g.get? P = none) (hm : (P, tabObj ps) ∈ news) (cd : CodeHd g c P)
    (ex : ExtP P h h₅) (t5 : Tb c P h₅) (low : Low h.objs.size h₅ h') :
    AfterE g h h' P L m news ps := by
  have hP := (N _ hm).1
  obtain ⟨o, e1⟩ := hd_some cd
  have t' := t5.low (K := h.objs.size) (Heap.lt_size (F.keep _ _ e1)) (Heap.lt_size hP) low
  obtain ⟨ps', hok, htab⟩ := t'
  have ex' := Low.extP ex low
  refine ⟨ps', ?_, frP F hG hP (by intro es ep q; cases q) ex', ex', fun news' R => R.news hP ex' htab.2 N⟩
  exact tri_of hok htab
theorem afterK {g h h₅ h' : Heap} {c P L K : Addr} {m : Str → Option Value} {news : List (Addr × Obj)} {ps : Array Value} (F : Fr g L h m) (N : News g L h news) (hG : g.get? P = none) (hm : (P, tabObj ps) ∈ news) (cd : CodeHd g c P)
    (ex : ExtP P h h₅) (t5 : Tb c P h₅) (low : Low K h₅ h') (hL : L < K) (hN : ∀ p ∈ news, p.1 < K) :
    AfterK g h' P L m news ps := by
  have hP := (N _ hm).1
  obtain ⟨o, e1⟩ := hd_some cd
  have gK : ∀ b o, g.get? b = some o → b < K := fun b o e => Nat.lt_trans (Nat.lt_of_lt_of_le (Heap.lt_size e) F.above) hL
  have t' := t5.low (K := K) (gK _ _ e1) (hN _ hm) low
  obtain ⟨ps', hok, htab⟩ := t'
  have k : ∀ b o, b < K → b ≠ P → h.get? b = some o → h'.get? b = some o := fun b o l n e => low b o l (ex b o n e)
  refine ⟨ps', ?_, ⟨?_, fun b ob e => k _ _ (gK _ _ e) ?_ (F.keep b ob e), F.above⟩, fun news' R => ?_⟩
  · exact tri_of hok htab
  · obtain ⟨oL, es, ep, hLo, hLd, r'⟩ := F.ns
    refine ⟨oL, es, ep, k _ _ hL ?_ hLo, hLd, r'⟩
    rintro rfl
    rw [hP] at hLo; cases hLo; cases hLd
  · rintro rfl; rw [hG] at e; cases e
  · have hn' : ∀ p ∈ news, p.1 < K := hN
    clear hm hN
    induction R with
    | nil => exact fun p hp => nomatch hp
    | tab R ih =>
      intro p hp
      rcases List.mem_cons.mp hp with rfl | hp
      · exact ⟨htab.2, (N _ (.head _)).2⟩
      · exact ih (fun p hp => N p (.tail _ hp)) (fun p hp => hn' p (.tail _ hp)) p hp
    | @skip q r r' n R ih =>
      intro p hp
      rcases List.mem_cons.mp hp with rfl | hp
      · refine ⟨k _ _ (hn' _ (.head _)) ?_ (N _ (.head _)).1, (N _ (.head _)).2⟩
        rintro rfl
        have := (N _ (.head _)).1
        rw [hP] at this; exact n (Option.some.inj this).symm
      · exact ih (fun p hp => N p (.tail _ hp)) (fun p hp => hn' p (.tail _ hp)) p hp
    | @skipA q r r' n R ih => exact fmc (⟨k _ _ (hn' _ (.head _)) n (N _ (.head _)).1, (N _ (.head _)).2⟩) (ih (fun p hp => N p (.tail _ hp)) (fun p hp => hn' p (.tail _ hp)))
theorem newsIn {g h h' : Heap} {L S : Addr} {m : Str → Option Value} {news : List (Addr × Obj)} {o : Obj} (F : Fr g L h m) (hS : h.objs.size ≤ S) (N : News g L h' news) (e : h'.get? S = some o) : News g L h' ((S, o) :: news) := by
  intro p hp
  rcases List.mem_cons.mp hp with rfl | hp
  · refine ⟨e, Nat.ne_of_gt (Nat.lt_of_lt_of_le F.ns.lt hS), ?_⟩
    cases q : g.get? S with
    | none => rfl
    | some o' => exact absurd (Heap.lt_size (F.keep _ _ q)) (Nat.not_lt.mpr hS)
  · exact N p hp
structure Cy (w : World) (loose : List Str) (mean : ExcName → Option Value) (mg mb : Str → Option Value) (dp un : Nat) (h : Heap) : Prop where
  X : (hd.heap_39 w.params).In h
  T : Top topProg loose mean mg mb h
  t : Tb 154 150 h
  hd : dp < recursionLimit
  hu : un < cLine
theorem lay_I1_own1 : True := by
  k_with "mine stop" => with_reducible first
    | show wpAny _ _ (exec (Stmt.While ..) _) ..
    | show wpAny _ _ (exec (Stmt.For ..) _) ..
    | show wpAny _ _ (eval (Expr.GeneratorExp ..) _) ..
    | show wpAny _ _ (eval (Expr.Subscript ..) _) ..
    | show Exists _
    | show wpAny _ _ (getAttr (Value.ref _) ..) ..
    | show wpAny _ _ (compareOp CmpOp.In ..) ..
    | show wpAny _ _ (call (Value.type _) _) ..
    | show wpAny _ _ (call (Value.builtin _) _) ..
    | ((fail_if_success k_extra "mine calls"); show wpAny _ _ (call (Value.ref _) _) ..)
  trivial
theorem bm_of {p : Program} {loose : List Str} {mean : ExcName → Option Value} {mg mb : Str → Option Value} {g h : Heap} (T : Top p loose mean mg mb g) (k : ∀ b o, g.get? b = some o → h.get? b = some o) : Bm mainGlobals h := by
  obtain ⟨bm, ob, a1, a2, a3, a4, a5, a6⟩ := T.bmain
  exact ⟨mg, bm, ob, T.g.keeps k, a1, a2, k _ _ a3, a4, a5, a6⟩
theorem tb_of {c P L : Addr} {g h : Heap} {ps : Array Value} {news : List (Addr × Obj)} (hc : CodeHd g c P) (ht : TriplesOk ps.toList) (k : ∀ b o, g.get? b = some o → h.get? b = some o) (N : News g L h news) (hm : (P, tabObj ps) ∈ news) : Tb c P h :=
  ⟨ps, (hc.keeps k).code (N _ hm).1 ht, (hc.keeps k).tab (N _ hm).1⟩
section
variable {w : World} {loose : List Str} {mean : ExcName → Option Value} {mg mb : Str → Option Value} {dp un : Nat} {fr : Option (List Env)} {gd : Option (List Code)} {s : Shared} {Q E : Value → Shared → Prop}
theorem interp_spec (C : Cy w loose mean mg mb (dp + 20) (un + 400) s.heap) {l : Addr} {shs : List Sh} {x0 : Nat} {tx : Tok} (hl : s.heap.IsList l (shVals shs)) (hsh : ∀ q ∈ shs, ShAt s.heap q)
    (hnd : (shs.map Sh.x).Nodup) {n : Nat} (hbn : ∀ q ∈ shs, q.b.size = n) (hne : shs ≠ []) (hlen : shs.length ≤ 10) (hn1 : n ≤ 1000) (hx : ∀ q ∈ shs, q.x < 256) (hx0 : x0 < 256)
    (hQ : ∀ h' tk gs dr u, ExtP 150 s.heap h' → Tb 154 150 h' → GB s.gens gs → Q (.bytes (interpB shs x0 n) u) { s with heap := h', toks := tk, gens := gs, drawn := dr }) :
    wpAny (model P1 w) (tp dp fr gd un) (call (.ref 155) [.ref l, .int x0 tx]) Q E s := by
  obtain ⟨X, T, ht, hd, hu⟩ := C
  obtain ⟨ps, hok, htab⟩ := id ht
  refine' enterC (S := [150]) (news := [(150, tabObj ps)]) (binds := [("shares", .ref l), ("x", .int x0 tx)]) ?k1 ?k2 ?k3 ?k4 ?k5 ?k6 ?k7 ?k8 ?kN ?k9 ?k10 ?k11 ?_
  case k1 => assumption
  case k2 => exact Top.nolimit (by assumption)
  case k3 => k_is
  case k4 => k_is
  case k5 => dsimp only; omega
  case k6 => first | exact BindsTo.of_eq rfl | exact binds_K (by assumption) rfl (by k_is) rfl rfl rfl
  case k7 => exact rfl
  case k8 => decide +kernel
  case kN =>
    intro p hp
    rw [List.mem_singleton.mp hp]
    exact ⟨htab.2, by simp⟩
  case k9 => exact rfl
  case k10 => exact rfl
  case k11 => exact rfl
  k_whole
  intro h₁ tk cells F1 N1 Y
  have n150 : ∀ a o, s.heap.get? a = some o → o ≠ tabObj ps → a ≠ 150 := fun a o e n q => by rw [q, htab.2] at e; cases e; exact n rfl
  have XG : (Mine.hd.heap_39 w.params).In (hideAll s.heap [150]) := hide_K X fun a ha => by rw [List.mem_singleton.mp ha]; exact rfl
  have TG : Top topProg loose mean mg mb (hideAll s.heap [150]) := hide_top T (by decide) (by decide) (by decide) fun bm hbm hm => by
    obtain ⟨bm', ob, e1, e2, e3, e4, e5, e6⟩ := T.bmain
    rw [e1] at hbm; cases hbm
    exact n150 _ _ e3 (fun q => by rw [q] at e4; cases e4) (List.mem_singleton.mp hm)
  have lG : (hideAll s.heap [150]).IsList l (shVals shs) := by
    obtain ⟨o, e, c, r⟩ := hl
    exact ⟨o, hideAll_get _ e fun hm => n150 _ _ e (fun q => by rw [q] at c; cases c) (List.mem_singleton.mp hm), c, r⟩
  have hG : (hideAll s.heap [150]).get? 150 = none := hideAll_none _ (by simp)
  have lowG : ∀ b o, (hideAll s.heap [150]).get? b = some o → s.heap.get? b = some o := fun b o e => of_hideAll _ e
  have upG : ∀ b o, b ≠ 150 → s.heap.get? b = some o → (hideAll s.heap [150]).get? b = some o := fun b o n e => hideAll_get _ e fun hm => n (List.mem_singleton.mp hm)
  have shG : ∀ q ∈ shs, ShAt (hideAll s.heap [150]) q := fun q hq => by
    obtain ⟨d, o, a, b, c⟩ := hsh q hq
    exact ⟨d, o, upG _ _ (n150 _ _ a (by simp)) a, upG _ _ (n150 _ _ b (fun q => c (by rw [q]))) b, c⟩
  generalize hideAll s.heap [150] = g at F1 N1 XG TG lG hG lowG upG shG
  have hP150 : @LT.lt Nat _ 150 s.heap.objs.size := Heap.lt_size htab.2
  obtain ⟨oc1, oc2, oc3, hcE, dc1, dc2, dc3⟩ := CellsAre.three Y
  subst hcE
  clear Y
  simp only [List.cons_append, List.nil_append] at N1
  replace dc1 : oc1.data = .cell none := dc1
  replace dc2 : oc2.data = .cell none := dc2
  replace dc3 : oc3.data = .cell (some (.int x0 tx)) := dc3
  k_extra "mine steps"
  have cdG : CodeHd g 154 150 := hd_up (CodeHd.of hok htab) upG
  have tri : TriplesOk ps.toList := by
    exact tri_of hok htab
  refine' gen_list (c := 154) (P := 150) (l := l) (items := shVals shs) (dm := dp + 5) (um := un + 100) (F := fun i v => ∃ q t, shs[i]? = some q ∧ v = .int (q.x : Int) t) ?a1 ?a2 ?a3 ?a4 ?a5 ?a6 ?a7 ?a8 ?a9 ?a10 ?a11 ?a12 ?a13 ?a14 ?a15 ?a16 ?a17 ?a18
  case a1 => exact rfl
  case a2 => exact rfl
  case a3 => decide
  case a4 => exact rfl
  case a5 => exact rfl
  case a6 => exact rfl
  case a7 => exact rfl
  case a8 => (try dsimp only [tp, Around.deeper]); omega
  case a9 => (try dsimp only [tp, Around.deeper]); omega
  case a10 => (try dsimp only [tp, Around.deeper]); omega
  case a11 => exact fun _ => rfl
  case a12 => exact ldLoc F1 rfl ⟨rfl, rfl⟩
  case a13 => exact lG.at fun o e => F1.keep _ o e
  case a14 => exact TG.nolimit.keeps F1.keep
  case a15 => exact tb_of cdG tri F1.keep N1 (by k_mem)
  case a16 => exact bm_of TG F1.keep
  case a17 =>
    intro A E' i v C code s' m hn hi hC hCP hns hm kp
    obtain ⟨n1, n2, n3⟩ := hn
    have hkg : ∀ b o, g.get? b = some o → s'.heap.get? b = some o := fun b o e => kp b o (fun q => by rw [q, hG] at e; cases e) (F1.keep _ _ e)
    obtain ⟨q, hq, rfl⟩ := shAt hi
    refine ev_x n1 (by omega) (by omega) (Frag.In.keeps XG hkg) (TG.keeps hkg) ((shG q (List.mem_of_getElem? hq)).keeps hkg) (fun Q' hQ' => ev_local hns hm hQ' rfl rfl (by decide)) fun h tk e => ?_
    exact ⟨⟨q, _, hq, rfl⟩, h, tk, rfl, e⟩
  intro a h₅ tk₅ gs hgs ex t5 G
  walk1
  refine set_gen (u := un + 3) (val := xsVal shs) G (by show un + 3 + 20 ≤ un + 3 + 60; omega) ?_ ?_ ?_
  · rintro i v ⟨q, t, hq, rfl⟩
    exact ⟨t, by unfold xsVal; rw [hq]; rfl⟩
  · rw [shVals_size]; unfold scanBound; omega
  intro S h₆ tk₆ gs₆ hS hgb hlow hset
  rw [shVals_size, firstX hnd, List.length_map] at hset
  have hSlt : @LT.lt Nat _ (s.heap.objs.size + 1 + 1 + 1) S := Nat.lt_of_lt_of_le (Heap.lt_size (N1 (s.heap.objs.size + 1 + 1 + 1, oc1) (by k_mem)).1) hS
  obtain ⟨oS, eS, hoS⟩ := hset.objOf
  obtain ⟨es, ep, te, dS⟩ : ∃ es ep t, oS.data = .set es ep t := let ⟨_, es, ep, t, d, _⟩ := hoS; ⟨es, ep, t, d⟩
  obtain ⟨ps₆, tri₆, F6, ex6, N6⟩ := after F1 N1 hG (by k_mem) cdG ex t5 hlow
  have N6 := newsIn F1 hS (N6 _ (by k_extra "mine retab")) eS
  have hgb₆ := (GB.push (a := s.gens) hgs).trans hgb
  clear N1 F1 ex6 hgb hlow hset eS t5 ex G
  k_extra "mine steps"
  rename News _ _ _ _ => N7
  refine len_setobj (N7 (S, oS) (by k_mem)).1 hoS (by omega) ?_
  k_extra "mine steps"
  rename Fr _ _ _ _ => F7
  refine len_list (lG.at fun o e => F7.keep _ o e) (by rw [shVals_size]; omega) ?_
  rw [shVals_size]
  k_extra "mine steps"
  rename Fr _ _ _ _ => F7
  rename News _ _ _ _ => N7
  refine' gen_list (c := 154) (P := 150) (l := l) (items := shVals shs) (dm := dp + 5) (um := un + 100) (F := fun i v => ∃ q t, shs[i]? = some q ∧ v = .int (q.b.size : Int) t) ?b1 ?b2 ?b3 ?b4 ?b5 ?b6 ?b7 ?b8 ?b9 ?b10 ?b11 ?b12 ?b13 ?b14 ?b15 ?b16 ?b17 ?b18
  case b1 => exact rfl
  case b2 => exact rfl
  case b3 => decide
  case b4 => exact rfl
  case b5 => exact rfl
  case b6 => exact rfl
  case b7 => exact rfl
  case b8 => (try dsimp only [tp, Around.deeper]); omega
  case b9 => (try dsimp only [tp, Around.deeper]); omega
  case b10 => (try dsimp only [tp, Around.deeper]); omega
  case b11 => exact fun _ => rfl
  case b12 => exact ldLoc F7 rfl ⟨rfl, rfl⟩
  case b13 => exact lG.at fun o e => F7.keep _ o e
  case b14 => exact TG.nolimit.keeps F7.keep
  case b15 => exact tb_of cdG tri₆ F7.keep N7 (by k_mem)
  case b16 => exact bm_of TG F7.keep
  case b17 =>
    intro A E' i v C code s' m hn hi hC hCP hns hm kp
    obtain ⟨n1, n2, n3⟩ := hn
    have hkg : ∀ b o, g.get? b = some o → s'.heap.get? b = some o := fun b o e => kp b o (fun q => by rw [q, hG] at e; cases e) (F7.keep _ _ e)
    obtain ⟨q, hq, rfl⟩ := shAt hi
    refine ev_len n1 (by omega) (by omega) (Frag.In.keeps XG hkg) (TG.keeps hkg) ((shG q (List.mem_of_getElem? hq)).keeps hkg) (by have := hbn q (List.mem_of_getElem? hq); omega) (fun h tk Q' e hQ' => ev_local (hns.keeps e) hm hQ' rfl rfl (by decide))
      (fun Q' hQ' => ev_built (Frag.In.keeps XG hkg) (TG.keeps hkg) (by k_is) (by boot_by_name) (by decide) hQ' rfl rfl rfl rfl (by decide)) fun t h tk e => ?_
    exact ⟨⟨q, _, hq, rfl⟩, h, tk, rfl, e⟩
  intro a h₅ tk₅ gs hgs ex t5 G
  walk1
  refine set_gen (u := un + 3) (val := nsVal shs) G (by show un + 3 + 20 ≤ un + 3 + 60; omega) ?_ ?_ ?_
  · rintro i v ⟨q, t, hq, rfl⟩
    exact ⟨t, by unfold nsVal; rw [hq]; rfl⟩
  · rw [shVals_size]; unfold scanBound; omega
  intro S' h₈ tk₈ gs₈ hS' hgb' hlow hset
  rw [shVals_size, firstN hbn hne, List.length_singleton] at hset
  have hSlt' : @LT.lt Nat _ (s.heap.objs.size + 1 + 1 + 1) S' := Nat.lt_of_lt_of_le (Heap.lt_size (N7 (s.heap.objs.size + 1 + 1 + 1, oc1) (by k_mem)).1) hS'
  obtain ⟨oS', eS', hoS'⟩ := hset.objOf
  have hSS : @LT.lt Nat _ S S' := Nat.lt_of_lt_of_le (Heap.lt_size (N7 (S, oS) (by k_mem)).1) hS'
  obtain ⟨es', ep', te', dS'⟩ : ∃ es ep t, oS'.data = .set es ep t := let ⟨_, es, ep, t, d, _⟩ := hoS'; ⟨es, ep, t, d⟩
  obtain ⟨ps₈, tri₈, F8, ex8, N8⟩ := after F7 N7 hG (by k_mem) cdG ex t5 hlow
  have N8 := newsIn F7 hS' (N8 _ (by k_extra "mine retab")) eS'
  have hgb₈ := (hgb₆.trans (GB.push hgs)).trans hgb'
  clear N7 F7 ex8 hgb' hgb₆ hlow hset eS' t5 ex G
  k_extra "mine steps"
  rename News _ _ _ _ => N9
  refine len_setobj (N9 (S', oS') (by k_mem)).1 hoS' (by omega) ?_
  k_extra "mine steps"
  rename News _ _ _ _ => N10
  rename Fr _ _ _ _ => F10
  refine in_setobj (N10 (S, oS) (by k_mem)).1 hoS (by unfold scanBound; omega) (wpAny_truthy_bool ?_)
  have hSx : ((shs.map fun q => (q.x : Int)).any fun k => k == (x0 : Int)) = decide (x0 ∈ shs.map Sh.x) := by
    rw [Bool.eq_iff_iff, List.any_eq_true, decide_eq_true_iff]
    constructor
    · rintro ⟨k, hk, e⟩
      obtain ⟨q, hq, rfl⟩ := List.mem_map.mp hk
      have : (q.x : Int) = (x0 : Int) := beq_iff_eq.mp e
      exact List.mem_map.mpr ⟨q, hq, by omega⟩
    · intro h
      obtain ⟨q, hq, rfl⟩ := List.mem_map.mp h
      exact ⟨_, List.mem_map.mpr ⟨q, hq, rfl⟩, by simp⟩
  rw [hSx]
  by_cases hfx : x0 ∈ shs.map Sh.x
  · rw [if_pos (decide_eq_true hfx)]
    k_extra "mine steps"
    rename News _ _ _ _ => N11
    rename Fr _ _ _ _ => F11
    obtain ⟨m, hm, F12⟩ : ∃ m, AllAt m [("shares", .ref l), ("x_coordinates", .ref S), ("share_value_lengths", .ref S')] ∧ Fr g s.heap.objs.size _ m := ⟨_, ⟨rfl, rfl, rfl, trivial⟩, F11⟩
    clear F11
    refine for_list (l := l) (items := shVals shs) (fun i m₁ n₁ gs₁ => InI1 m m₁ gs₁ gs₈ shs x0 i S' S s.heap.objs.size oS' oS oc2 oc3 ps₈ n₁) rfl F12 N11 lG rfl ⟨rfl, rfl, fun _ _ h => absurd h (Nat.not_lt_zero _), oc1, _, dc1, rfl⟩ (ldLoc (frOv F12 hm) rfl ⟨rfl, rfl⟩) ?_ ?_
    · intro E' T9 i v m₁ n₁ gs₁ dr₁ h₁ tk₁ I oI hin hi hJ9 hap hap0 hLI F13 N13 hT9
      obtain ⟨⟨rfl, rfl, hj, oc, vc, dco, rfl⟩, rfl⟩ := hJ9
      obtain ⟨q, hq, rfl⟩ := shAt hi
      have hR := shG q (List.mem_of_getElem? hq)
      refine wpAny_pure ?_
      have hI3' : @LT.lt Nat _ (s.heap.objs.size + 1 + 1 + 1) I := hap0 (s.heap.objs.size + 1 + 1 + 1, oc1) (by k_mem)
      have hI3 : @Ne Nat (s.heap.objs.size + 1 + 1 + 1) I := Nat.ne_of_lt hI3'
      have h150 : @Ne Nat 150 (s.heap.objs.size + 1 + 1 + 1) := Nat.ne_of_lt (Nat.lt_trans (Nat.lt_of_lt_of_le hP150 (Nat.le_refl _)) (by omega))
      clear F12 N11
      replace F13 := frOv F13 hm
      k_extra "mine steps"
      rename Fr _ _ _ _ => F14
      refine' getx_spec ?gxC (RawAt.keeps hR F14.keep) rfl ⟨fun h9 t9 e9 => ?_⟩
      case gxC => k_extra "mine cx"
      k_extra "mine ext"
      k_extra "mine steps"
      · rename Fr _ _ _ _ => F14
        refine' getd_spec ?gdC (RawAt.keeps hR F14.keep) rfl ⟨fun h9 t9 e9 => ?_⟩
        case gdC => k_extra "mine cx"
        k_extra "mine ext"
        k_extra "mine steps"
        rename Fr _ _ _ _ => F15
        rename News _ _ _ _ => N15
        rename q.x = x0 => hqx
        have e := fun tk => hQ _ tk _ s.drawn q.u (fun b o n e => F15.keep _ _ (upG b o n e)) (tb_of cdG tri₈ F15.keep N15 (by k_mem)) hgb₈
        rw [interpB_found hnd (List.mem_of_getElem? hq) hqx] at e
        exact hT9 _ _ (e _)
      · rename Fr _ _ _ _ => F15
        rename News _ _ _ _ => N15
        rename ¬ q.x = x0 => hqx
        rename Obj.data _ = Data.cell (some (Value.ref _)) => dc
        rw [ov_eq hm] at F15
        refine hT9 _ _ ⟨_, _, _, _, _, _, rfl, F15, N15, hap.of rfl, ⟨rfl, rfl, fun j r hj' hr => ?_, _, _, dc, rfl⟩, rfl⟩
        by_cases hji : j = i
        · subst hji
          rw [hq] at hr; cases hr; exact hqx
        · exact hj j r (by omega) hr
    · rintro h tk gs m₁ n₁ F15 N15 ⟨rfl, rfl, hj, -⟩
      exfalso
      obtain ⟨q, hq, e⟩ := List.mem_map.mp hfx
      obtain ⟨j, hj'⟩ := List.getElem?_of_mem hq
      have hjl : j < (shVals shs).size := by
        rw [shVals_size]
        exact (List.getElem?_eq_some_iff.mp hj').1
      exact hj j q hjl hj' e
  · rw [if_neg (by simpa using hfx)]
    k_extra "mine steps"
    rename News _ _ _ _ => N11
    rename Fr _ _ _ _ => F11
    obtain ⟨m, hm, F12⟩ : ∃ m, AllAt m [("shares", .ref l), ("x_coordinates", .ref S), ("share_value_lengths", .ref S')] ∧ Fr g s.heap.objs.size _ m := ⟨_, ⟨rfl, rfl, rfl, trivial⟩, F11⟩
    clear F11
    have F13 := frOv F12 hm
    clear F12
    have k1 : @Ne Nat (s.heap.objs.size + 1) 150 := by omega
    refine' gen_list (c := 154) (P := 150) (l := l) (items := shVals shs) (dm := dp + 5) (um := un + 100) (F := fun i v => ∃ q t, shs[i]? = some q ∧ v = .int (LG (q.x ^^^ x0) : Nat) t) ?c1 ?c2 ?c3 ?c4 ?c5 ?c6 ?c7 ?c8 ?c9 ?c10 ?c11 ?c12 ?c13 ?c14 ?c15 ?c16 ?c17 ?c18
    case c1 => exact rfl
    case c2 => exact rfl
    case c3 => decide
    case c4 => exact rfl
    case c5 => exact rfl
    case c6 => exact rfl
    case c7 => exact rfl
    case c8 => (try dsimp only [tp, Around.deeper]); omega
    case c9 => (try dsimp only [tp, Around.deeper]); omega
    case c10 => (try dsimp only [tp, Around.deeper]); omega
    case c11 => exact fun _ => rfl
    case c12 => exact ldLoc F13 rfl ⟨rfl, rfl⟩
    case c13 => exact lG.at fun o e => F13.keep _ o e
    case c14 => exact TG.nolimit.keeps F13.keep
    case c15 => exact tb_of cdG tri₈ F13.keep N11 (by k_mem)
    case c16 => exact bm_of TG F13.keep
    case c17 =>
      intro A E' i v C code s' m hn hi hC hCP hns hm kp
      obtain ⟨n1, n2, n3⟩ := hn
      have hkg : ∀ b o, g.get? b = some o → s'.heap.get? b = some o := fun b o e => kp b o (fun q => by rw [q, hG] at e; cases e) (F13.keep _ _ e)
      obtain ⟨q, hq, rfl⟩ := shAt hi
      have hcell : s'.heap.IsCell (s.heap.objs.size + 1) (some (.int x0 tx)) := ⟨oc3, kp _ _ k1 (N11 (s.heap.objs.size + 1, oc3) (by k_mem)).1, dc3⟩
      refine ev_log n1 (by omega) (by omega) (Frag.In.keeps XG hkg) (TG.keeps hkg) ((shG q (List.mem_of_getElem? hq)).keeps hkg) (hx q (List.mem_of_getElem? hq)) hx0 rfl rfl rfl (fun Q' hQ' => ev_local hns hm hQ' rfl rfl (by decide))
        (fun h tk Q' e hQ' => ev_free (c := s.heap.objs.size + 1) rfl (hcell.keeps e) (hQ' _ h tk (Ext.refl _)) rfl rfl (by decide) (by decide)) fun t h tk e => ?_
      exact ⟨⟨q, _, hq, rfl⟩, h, tk, rfl, e⟩
    intro a h₅ tk₅ gs hgs ex t5 G
    walk1
    refine sum_gen (u := un + 3) (val := fun i => (((shs[i]?.map fun q => LG (q.x ^^^ x0)).getD 0 : Nat) : Int)) G (by show un + 3 + 20 ≤ un + 3 + 60; omega) ?_ ?_ ?_
    · rintro i v ⟨q, t, hq, rfl⟩
      exact ⟨t, by rw [hq]; rfl⟩
    · intro j hj
      rw [shVals_size] at hj
      exact inLong_nat (j := j) (f := fun i => (shs[i]?.map fun q => LG (q.x ^^^ x0)).getD 0) (fun i => by cases shs[i]? with | none => exact Nat.zero_lt_succ _ | some q => exact Nat.lt_trans (LG_lt _) (by decide)) (by omega)
    intro tv h₉ tk₉ gs₉ hgb' hlow
    obtain ⟨ps₉, tri₉, F14, ex9, N9⟩ := after F13 N11 hG (by k_mem) cdG ex t5 hlow
    have N14 := N9 _ (by k_extra "mine retab")
    have hgb₉ := (hgb₈.trans (GB.push hgs)).trans hgb'
    clear N9 N11 F13 ex9 hgb' hgb₈ hlow t5 ex G
    k_extra "mine steps"
    rename News _ _ _ _ => N15
    refine meth_set_pop (N15 (S', oS') (by k_mem)).1 hoS' (by omega) ?_
    k_extra "mine steps"
    rename Fr _ _ _ _ => F15
    rename News _ _ _ _ => N15
    refine call_set_pop (z := (n : Int)) (N15 (S', oS') (by k_mem)).1 hoS' (fun k hk => by rw [List.any_cons, List.any_nil, Bool.or_false, beq_iff_eq] at hk; exact hk.symm) fun tp' h₁₀ o' dr e' d' sb => ?_
    have F16 : Fr g s.heap.objs.size h₁₀ _ := ⟨F15.ns.sameBut sb (Ne.symm (N15 (S', oS') (by k_mem)).2.1), fun b o e => sb.extBut b o (fun q => by rw [q, (N15 (S', oS') (by k_mem)).2.2] at e; cases e) (F15.keep b o e), F15.above⟩
    have N16 : News g s.heap.objs.size h₁₀ [(s.heap.objs.size + 1 + 1 + 1, oc1), (s.heap.objs.size + 1 + 1, oc2), (s.heap.objs.size + 1, oc3), (150, tabObj ps₉)] := by
      intro p hp
      have hp' : p ∈ [(S', oS'), (S, oS), (s.heap.objs.size + 1 + 1 + 1, oc1), (s.heap.objs.size + 1 + 1, oc2), (s.heap.objs.size + 1, oc3), (150, tabObj ps₉)] := List.mem_cons_of_mem _ (List.mem_cons_of_mem _ hp)
      refine ⟨sb.extBut _ _ ?_ (N15 p hp').1, (N15 p hp').2⟩
      have : @LT.lt Nat _ p.1 S' := by
        simp only [List.mem_cons, List.not_mem_nil, or_false] at hp
        rcases hp with rfl | rfl | rfl | rfl
        · exact hSlt'
        · exact Nat.lt_trans (Nat.lt_succ_self _) hSlt'
        · exact Nat.lt_trans (Nat.lt_succ_self _) (Nat.lt_trans (Nat.lt_succ_self _) hSlt')
        · exact Nat.lt_trans hP150 (Nat.lt_trans (Nat.lt_succ_self _) (Nat.lt_trans (Nat.lt_succ_self _) (Nat.lt_trans (Nat.lt_succ_self _) hSlt')))
      exact Nat.ne_of_lt this
    clear N15 F15
    k_extra "mine steps"
    refine call_bytes_count rfl hn1 fun tb tkb => ?_
    k_extra "mine steps"
    rename News _ _ _ _ => N17
    rename Fr _ _ _ _ => F17
    have hL : preSum (fun i => ((Option.map (fun q => LG (q.x ^^^ x0)) shs[i]?).getD 0 : Nat)) (shVals shs).size = ((lprod shs x0 : Nat) : Int) := by rw [shVals_size]; exact preSum_shs shs fun q => LG (q.x ^^^ x0)
    rw [hL] at F17
    obtain ⟨m', hm', hr', F18⟩ : ∃ m', AllAt m' [("shares", .ref l), ("log_prod", .int ((lprod shs x0 : Nat) : Int) tv)] ∧ m' "result" = some (.bytes (bOf (fun _ => 0) n) tb) ∧ Fr g s.heap.objs.size _ m' := ⟨_, ⟨rfl, rfl, trivial⟩, rfl, F17⟩
    clear F17
    refine for_list (l := l) (items := shVals shs) (fun i m₁ n₁ gs₁ => InI2 s.gens gs₁ (lagr shs x0 n i) l (lprod shs x0) tv s.heap.objs.size oc3 m₁ n₁) rfl F18 N17 lG rfl
      ⟨hm', tb, hr', hgb₉, oc1, _, oc2, _, ps₉, dc1, dc2, tri₉, rfl⟩ (ldLoc (frOv F18 hm') rfl ⟨rfl, rfl⟩) ?_ ?_
    · intro E' T9 i v m₁ n₁ gs₁ dr₁ h₁ tk₁ I oI hin hi hJ9 hap hap0 hLI F19 N19 hT9
      obtain ⟨⟨hm₁, ur, hr₁, hgb₁, o1, v1, o2, v2, ps', d1, d2, tri', rfl⟩, rfl⟩ := hJ9
      obtain ⟨q, hq, rfl⟩ := shAt hi
      have hR := shG q (List.mem_of_getElem? hq)
      refine wpAny_pure ?_
      have hI9 : @Ne Nat I 150 := (hap (150, tabObj ps') (by k_mem)).symm
      have hI3' : @LT.lt Nat _ (s.heap.objs.size + 1 + 1 + 1) I := hap0 (s.heap.objs.size + 1 + 1 + 1, oc1) (by k_mem)
      have hI3 : @Ne Nat (s.heap.objs.size + 1 + 1 + 1) I := Nat.ne_of_lt hI3'
      have hI2 : @Ne Nat (s.heap.objs.size + 1 + 1) I := Nat.ne_of_lt (Nat.lt_trans (Nat.lt_succ_self _) hI3')
      have h150 : @Ne Nat 150 (s.heap.objs.size + 1 + 1 + 1) := Nat.ne_of_lt (Nat.lt_trans (Nat.lt_of_lt_of_le hP150 (Nat.le_refl _)) (by omega))
      clear F18 N17
      replace F19 : Fr g s.heap.objs.size h₁ (ov [("shares", .ref l), ("log_prod", .int ((lprod shs x0 : Nat) : Int) tv), ("result", .bytes (lagr shs x0 n i) ur)] m₁) := frOv F19 ⟨hm₁.1, hm₁.2.1, hr₁, trivial⟩
      k_extra "mine steps"
      rename Fr _ _ _ _ => F20
      rename News _ _ _ _ => N20
      rename Obj.data _ = Data.cell (some (Value.ref _)) => dsh
      have hxq := hx q (List.mem_of_getElem? hq)
      refine ev_log (q := q) rfl (by dsimp only [tp, Around.deeper]; omega) (by dsimp only [tp, Around.deeper]; omega) (Frag.In.keeps XG F20.keep) (TG.keeps F20.keep) (RawAt.keeps hR F20.keep) hxq hx0 rfl rfl rfl (fun Q' hQ' => ev_cell (c := s.heap.objs.size + 1 + 1 + 1) rfl ⟨_, (N20 (s.heap.objs.size + 1 + 1 + 1, _) (by k_mem)).1, dsh⟩ hQ' rfl rfl (by decide))
        (fun h tk Q' e hQ' => ev_cell (c := s.heap.objs.size + 1) rfl ⟨oc3, e _ _ (N20 (s.heap.objs.size + 1, oc3) (by k_mem)).1, dc3⟩ (hQ' _ h tk (Ext.refl _)) rfl rfl (by decide)) fun t1 h2 tk2 e2 => ?_
      k_extra "mine ext"
      k_extra "mine steps"
      rename Fr _ _ _ _ => F21
      rename News _ _ _ _ => N21
      have k3 : @Ne Nat (s.heap.objs.size + 1 + 1 + 1) 150 := by omega
      refine' gen_list (c := 154) (P := 150) (l := l) (items := shVals shs) (dm := dp + 5) (um := un + 100) (F := fun j v => ∃ q2 t, shs[j]? = some q2 ∧ v = .int (LG (q.x ^^^ q2.x) : Nat) t) ?d1 ?d2 ?d3 ?d4 ?d5 ?d6 ?d7 ?d8 ?d9 ?d10 ?d11 ?d12 ?d13 ?d14 ?d15 ?d16 ?d17 ?d18
      case d1 => exact rfl
      case d2 => exact rfl
      case d3 => decide
      case d4 => exact rfl
      case d5 => exact rfl
      case d6 => exact rfl
      case d7 => exact rfl
      case d8 => (try dsimp only [tp, Around.deeper]); omega
      case d9 => (try dsimp only [tp, Around.deeper]); omega
      case d10 => (try dsimp only [tp, Around.deeper]); omega
      case d11 => exact fun _ => rfl
      case d12 => exact ldLoc F21 rfl ⟨rfl, rfl⟩
      case d13 => exact lG.at fun o e => F21.keep _ o e
      case d14 => exact TG.nolimit.keeps F21.keep
      case d15 => exact tb_of cdG tri' F21.keep N21 (by k_mem)
      case d16 => exact bm_of TG F21.keep
      case d17 =>
        intro A E' j v C code s' m hn hj hC hCP hns hm kp
        obtain ⟨n1, n2, n3⟩ := hn
        have hkg : ∀ b o, g.get? b = some o → s'.heap.get? b = some o := fun b o e => kp b o (fun q => by rw [q, hG] at e; cases e) (F21.keep _ _ e)
        obtain ⟨q2, hq2, rfl⟩ := shAt hj
        have hcell : s'.heap.IsCell (s.heap.objs.size + 1 + 1 + 1) (some (.ref q.a)) := ⟨_, kp _ _ k3 (N21 (s.heap.objs.size + 1 + 1 + 1, _) (by k_mem)).1, dsh⟩
        refine ev_log (q := q) n1 (by omega) (by omega) (Frag.In.keeps XG hkg) (TG.keeps hkg) (hR.keeps hkg) hxq (hx q2 (List.mem_of_getElem? hq2)) rfl rfl rfl (fun Q' hQ' => ev_free (c := s.heap.objs.size + 1 + 1 + 1) rfl hcell hQ' rfl rfl (by decide) (by decide))
          (fun h tk Q' e hQ' => ev_x (q := q2) n1 (by omega) (by omega) (Frag.In.keeps XG fun b o z => e _ _ (hkg b o z)) (TG.keeps fun b o z => e _ _ (hkg b o z)) ((shG q2 (List.mem_of_getElem? hq2)).keeps fun b o z => e _ _ (hkg b o z)) (fun Q'' hQ'' => ev_local (hns.keeps e) hm hQ'' rfl rfl (by decide)) fun h' tk' e' => hQ' _ h' tk' e') fun t h tk e => ?_
        exact ⟨⟨q2, _, hq2, rfl⟩, h, tk, rfl, e⟩
      intro a2 h₅ tk₅ gs5 hgs5 ex t5 G
      walk1
      refine sum_gen (u := un + 3) (val := fun j => (((shs[j]?.map fun q2 => LG (q.x ^^^ q2.x)).getD 0 : Nat) : Int)) G (by show un + 3 + 20 ≤ un + 3 + 60; omega) ?_ ?_ ?_
      · rintro j v ⟨q2, t, hq2, rfl⟩
        exact ⟨t, by rw [hq2]; rfl⟩
      · intro j hj
        rw [shVals_size] at hj
        exact inLong_nat (j := j) (f := fun j => (shs[j]?.map fun q2 => LG (q.x ^^^ q2.x)).getD 0) (fun j => by cases shs[j]? with | none => exact Nat.zero_lt_succ _ | some q2 => exact Nat.lt_trans (LG_lt _) (by decide)) (by omega)
      intro ts h₁₁ tk₁₁ gs₁₁ hgb' hlow
      have hLs : preSum (fun j => ((Option.map (fun q2 => LG (q.x ^^^ q2.x)) shs[j]?).getD 0 : Nat)) (shVals shs).size = ((lsum shs q.x : Nat) : Int) := by rw [shVals_size]; exact preSum_shs shs fun q2 => LG (q.x ^^^ q2.x)
      rw [hLs]
      obtain ⟨ps₁₁, tri₁₁, F22, ex11, N22⟩ := after F21 N21 hG (by k_mem) cdG ex t5 hlow
      have N22 := N22 _ (by k_extra "mine retab")
      have hgb₁₁ := (hgb₁.trans (GB.push hgs5)).trans hgb'
      clear N21 F21 ex11 hgb' hgb₁ hlow t5 ex G
      k_extra "mine steps"
      rename Fr _ _ _ _ => F23
      rename News _ _ _ _ => N23
      rename Obj.data _ = Data.cell (some (Value.int _ _)) => dl0
      have dl1 : ∃ tl, _ = Data.cell (some (Value.int ((lbe shs x0 q : Nat) : Int) tl)) := ⟨_, dl0⟩
      obtain ⟨tl, dl⟩ := dl1
      clear dl0
      have k2 : @Ne Nat (s.heap.objs.size + 1 + 1) 150 := by omega
      have hbq := hbn q (List.mem_of_getElem? hq)
      have hsz2 : (lagr shs x0 n i).size = n := lagr_size hbn i
      have hli : lbe shs x0 q < 255 := lbe_lt shs x0 q
      refine' gen_zip (c := 154) (P := 150) (K := I + 1) (b1 := q.b) (b2 := lagr shs x0 n i) (dm := dp + 5) (um := un + 100) (F := fun j v => ∃ t, v = .int ((((lagr shs x0 n i).toList.getD j 0).toNat ^^^ mulB (lbe shs x0 q) (q.b.toList.getD j 0).toNat : Nat) : Int) t) ?e1 ?e2 ?e3 ?e4 ?e5 ?e6 ?e7 ?e8 ?e9 ?e10 ?e11 ?e12 ?e13 ?e14 ?e15 ?e16 ?e17 ?e18 ?e19 ?e20
      case e1 => exact rfl
      case e2 => exact rfl
      case e3 => decide
      case e4 => exact rfl
      case e5 => exact rfl
      case e6 => exact rfl
      case e7 => exact rfl
      case e8 => decide
      case e9 => exact rfl
      case e10 => (try dsimp only [tp, Around.deeper]); omega
      case e11 => (try dsimp only [tp, Around.deeper]); omega
      case e12 => (try dsimp only [tp, Around.deeper]); omega
      case e13 => exact fun _ => rfl
      case e14 =>
        walk1
        walk1
        walk1
        walk1
        refine ev_d (q := q) rfl (by dsimp only [tp, Around.deeper]; omega) (by dsimp only [tp, Around.deeper]; omega) (Frag.In.keeps XG F23.keep) (TG.keeps F23.keep) (RawAt.keeps hR F23.keep) (fun Q' hQ' => ev_cell (c := s.heap.objs.size + 1 + 1 + 1) rfl ⟨_, (N23 (s.heap.objs.size + 1 + 1 + 1, _) (by k_mem)).1, dsh⟩ hQ' rfl rfl (by decide)) fun h tk e => ?_
        walk1
        refine ldLoc (frExt F23 e) rfl ?_
        walk1
        refine zip_make fun h' z TI TO i1 i2 D Z ex l1 l2 l3 l4 => ⟨z, TI, TO, i1, i2, _, _, h', _, rfl, rfl, D, Z, fun b o y => ex _ _ (e _ _ y), ?_⟩
        have hIh : I < h.objs.size := Heap.lt_size (e _ _ (N23 (I, oI) (by k_mem)).1)
        intro b hb
        have hbh : h.objs.size ≤ b := by
          simp only [List.mem_cons, List.not_mem_nil, or_false] at hb
          rcases hb with rfl | rfl | rfl | rfl <;> assumption
        refine ⟨Nat.lt_of_lt_of_le hIh hbh, ?_⟩
        cases y : Heap.get? _ b with
        | none => rfl
        | some o => exact absurd (Heap.lt_size (e _ _ y)) (Nat.not_lt.mpr hbh)
      case e15 => exact TG.nolimit.keeps F23.keep
      case e16 => exact tb_of cdG tri₁₁ F23.keep N23 (by k_mem)
      case e17 => exact bm_of TG F23.keep
      case e18 => rw [hsz2]; exact hbq
      case e19 =>
        intro A E' j v1 v2 u1 u2 C code s' m hn hj1 hj2 hCP hns hm1 hm2 kp
        obtain ⟨n1, n2, n3⟩ := hn
        have hkg : ∀ b o, g.get? b = some o → s'.heap.get? b = some o := fun b o e => kp b o (fun q => by rw [q, hG] at e; cases e) (F23.keep _ _ e)
        have hcell : s'.heap.IsCell (s.heap.objs.size + 1 + 1) (some (.int ((lbe shs x0 q : Nat) : Int) tl)) := ⟨_, kp _ _ k2 (N23 (s.heap.objs.size + 1 + 1, _) (by k_mem)).1, dl⟩
        refine ev_byte (c := s.heap.objs.size + 1 + 1) (Frag.In.keeps XG hkg) (TG.keeps hkg) v1.toNat_lt v2.toNat_lt hli rfl rfl rfl rfl hns hm1 hm2 rfl rfl rfl rfl hcell fun t h tk e => ?_
        refine ⟨⟨t, ?_⟩, h, tk, rfl, e⟩
        have q1 : q.b.toList.getD j 0 = v1 := by rw [List.getD_eq_getElem?_getD, Array.getElem?_toList, hj1]; rfl
        have q2 : (lagr shs x0 n i).toList.getD j 0 = v2 := by rw [List.getD_eq_getElem?_getD, Array.getElem?_toList, hj2]; rfl
        rw [q1, q2]
      intro a3 h₁₂ tk₁₂ gs12 hgs12 ex t5 G
      walk1
      refine bytes_gen (u := un + 3) (val := fun j => ((lagr shs x0 n i).toList.getD j 0).toNat ^^^ mulB (lbe shs x0 q) (q.b.toList.getD j 0).toNat) G (by show un + 3 + 40 ≤ un + 3 + 60; omega) ?_ ?_ ?_ ?_
      · rintro j v ⟨t, rfl⟩
        exact ⟨t, rfl⟩
      · intro j hj
        exact Nat.xor_lt_two_pow (n := 8) (UInt8.toNat_lt _) (mulB_lt _ _)
      · rw [hbq, sizeLine_eq]; omega
      intro tb2 h₁₃ tk₁₃ gs₁₃ hgb' hlow
      have eB : bOf (fun j => ((lagr shs x0 n i).toList.getD j 0).toNat ^^^ mulB (lbe shs x0 q) (q.b.toList.getD j 0).toNat) q.b.size = lagr shs x0 n (i + 1) := by rw [lagr_succ hq]; rfl
      obtain ⟨ps₁₃, tri₁₃, F24, N24⟩ := afterK F23 N23 hG (by k_mem) cdG ex t5 hlow (Nat.lt_succ_of_lt hLI) (by
        intro p hp
        simp only [List.mem_cons, List.not_mem_nil, or_false] at hp
        rcases hp with rfl | rfl | rfl | rfl | rfl
        · exact Nat.lt_succ_self _
        · exact Nat.lt_succ_of_lt hI3'
        · exact Nat.lt_succ_of_lt (Nat.lt_trans (Nat.lt_succ_self _) hI3')
        · exact Nat.lt_succ_of_lt (Nat.lt_trans (Nat.lt_succ_self _) (Nat.lt_trans (Nat.lt_succ_self _) hI3'))
        · exact Nat.lt_succ_of_lt (Nat.lt_trans hP150 hLI))
      have N24 := N24 _ (by k_extra "mine retab")
      have hgb₁₃ := (hgb₁₁.trans (GB.push hgs12)).trans hgb'
      clear N23 F23 hgb' hgb₁₁ hlow t5 ex G
      k_extra "mine steps"
      rename Fr _ _ _ _ => F25
      rename News _ _ _ _ => N25
      refine hT9 _ _ ⟨_, _, _, _, _, _, rfl, F25, N25, hap.of rfl, ⟨⟨rfl, rfl, trivial⟩, tb2, ?_, hgb₁₃, _, _, _, _, _, dsh, dl, tri₁₃, rfl⟩, rfl⟩
      rw [← eB]; rfl
    · rintro h tk gs m₁ n₁ F26 N26 ⟨hm₁, ur, hr₁, hgb₁, o1, v1, o2, v2, ps', d1, d2, tri', rfl⟩
      rw [shVals_size] at hr₁
      clear F18 N17
      replace F26 : Fr g s.heap.objs.size h (ov [("shares", .ref l), ("log_prod", .int ((lprod shs x0 : Nat) : Int) tv), ("result", .bytes (lagr shs x0 n shs.length) ur)] m₁) := frOv F26 ⟨hm₁.1, hm₁.2.1, hr₁, trivial⟩
      k_extra "mine steps"
      rename Fr _ _ _ _ => F27
      rename News _ _ _ _ => N27
      have e := fun tk => hQ _ tk _ dr ur (fun b o n e => F27.keep _ _ (upG b o n e)) (tb_of cdG tri' F27.keep N27 (by k_mem)) hgb₁
      rw [interpB_none hfx] at e
      exact e _
end
end
theorem lay_lev5 : True := by
  k_with_none
  k_with "mine stop" => with_reducible first
    | show wpAny _ _ (exec (Stmt.While ..) _) ..
    | show wpAny _ _ (exec (Stmt.For ..) _) ..
    | ((fail_if_success k_extra "mine calls"); show wpAny _ _ (call (Value.ref _) _) ..)
  k_with "mine ext" => ((rename Ext _ _ => eq9); (rename Fr _ _ _ _ => fq9); (rename News _ _ _ _ => nq9); (replace fq9 := frExt fq9 eq9); (replace nq9 := newsExt nq9 eq9); (try k_sweep); clear eq9; (try dsimp only); revert fq9 nq9; intro _ _)
  k_with "mine cx" => exact ⟨Frag.In.keeps (by assumption) (Fr.keep (by assumption)), Top.keeps (by assumption) (Fr.keep (by assumption)), by (try dsimp only [tp, Around.deeper]); omega, by (try dsimp only [tp, Around.deeper]); omega⟩
  k_with "mine list" => first | assumption | exact (by assumption : Heap.IsList _ _ _).at (fun o e => (by assumption : Fr _ _ _ _).keep _ _ e)
  k_with "mine steps" => repeat' ((fail_if_success (k_extra "mine stop")); first | (k_unfold; (try dsimp only)) | (walk1 <;> try ((fail_if_success (with_reducible show wpAny _ _ (subscriptTail ..) ..)); dsimp only)) | (dsimp only; walk1) | fail "no step")
  k_with "mine nat" => first | (with_reducible exact rfl) | k_dflt (exact natlit _) | k_dflt (exact rfl)
  k_with "mine b" => first | with_reducible assumption | decide | assumption | exact Nat.pow_pos (by decide) | omega
  k_with "binaryOp BitXor int int" => (refine' xor_n (by k_extra "mine nat") (by k_extra "mine nat") ?_; try dsimp only)
  k_with "binaryOp BitAnd int int" => (refine' and_n (by k_extra "mine nat") (by k_extra "mine nat") ?_; try dsimp only)
  k_with "binaryOp RShift int int" => (refine' shr_n (by k_extra "mine nat") (by k_extra "mine nat") ?_; try dsimp only)
  k_with "binaryOp LShift int int" => k_dflt (refine' shl_z (by k_extra "mine nat") (by omega) (by omega) (by k_extra "mine b") (by decide) ?_; (try dsimp only))
  k_with "binaryOp LShift int int" => (refine' shl_n (by k_extra "mine nat") (by k_extra "mine nat") (by k_extra "mine b") (by decide) (by k_extra "mine b") ?_; try dsimp only)
  k_with "binaryOp Add int int" => (refine' add_n (by k_extra "mine nat") (by k_extra "mine nat") ?_; try dsimp only)
  k_with "binaryOp Mult int int" => (refine' mul_n (by k_extra "mine nat") (by k_extra "mine nat") (by k_extra "mine b") (by decide) (by k_extra "mine b") (by decide) ?_; try dsimp only)
  k_with "binaryOp FloorDiv int int" => (refine' fdiv_n (by k_extra "mine nat") (by k_extra "mine nat") (by decide) (by decide) ?_; try dsimp only)
  k_with "binaryOp Mod int int" => (refine' mod_z (by k_extra "mine nat") (by k_extra "mine b") ?_; (try dsimp only))
  k_with "binaryOp Mod int int" => (refine' mod_n (by k_extra "mine nat") (by k_extra "mine nat") (by k_extra "mine b") ?_; try dsimp only)
  k_with "binaryOp Sub int int" => (refine' sub_n (by k_extra "mine nat") (by k_extra "mine nat") (by k_extra "mine b") ?_; try dsimp only)
  k_with "binaryOp Pow int int" => (refine' pow_n (by k_extra "mine nat") (by k_extra "mine nat") (by k_extra "mine b") (by k_extra "mine b") ?_; try dsimp only)
  k_with "compareOp Gt int int" => refine' gt_n (by k_extra "mine nat") (by k_extra "mine nat") ?_
  k_with "compareOp Lt int int" => refine' lt_n (by k_extra "mine nat") (by k_extra "mine nat") ?_
  k_with "compareOp Eq int int" => refine' eq_n (by k_extra "mine nat") (by k_extra "mine nat") ?_
  k_with "compareOp NotEq int int" => refine' ne_n (by k_extra "mine nat") (by k_extra "mine nat") ?_
  k_with "mine ret" => (intro _; constructor; intro _ _ _; k_extra "mine ext")
  k_with "mine in" => first | exact me 0 rfl | exact me 1 rfl | exact me 2 rfl | exact me 3 rfl | exact me 4 rfl | exact me 5 rfl | exact me 6 rfl | exact me 7 rfl | exact me 8 rfl | exact me 9 rfl | exact me 10 rfl | exact me 11 rfl | exact me 12 rfl | exact me 13 rfl | exact me 14 rfl | exact me 15 rfl | exact me 16 rfl | exact me 17 rfl | exact me 18 rfl | exact me 19 rfl | (with_reducible refine List.mem_append_right _ ?_; k_extra "mine in") | (with_reducible refine List.mem_append_left _ ?_; k_extra "mine in") | (with_reducible refine List.mem_cons_of_mem _ ?_; k_extra "mine in")
  k_with "mine tail" => first | with_reducible assumption | (with_reducible refine List.mem_cons_of_mem _ ?_; k_extra "mine tail") | (with_reducible refine List.mem_append_right _ ?_; k_extra "mine tail") | (with_reducible refine List.mem_append_left _ ?_; k_extra "mine tail")
  k_with "mine sub" => first | (with_reducible exact List.forall_mem_nil _) | (with_reducible refine fmc (by intros; k_extra "mine in") ?_; k_extra "mine sub") | (with_reducible refine fma ?_ ?_ <;> k_extra "mine sub") | (intro p hp; intros; first | contradiction | k_extra "mine tail")
  k_with "mine omega" => first | ((with_reducible show _ < recursionLimit); first | exact rm0 (by assumption) | exact rq 1 | exact rq 2 | exact rq 3 | exact rq 4 | exact rq 11 | exact rq 21 | exact rq 41 | exact rq2 3) | ((with_reducible show _ < cLine); first | exact rq 3 | exact rq 4 | exact rq 23 | exact rq 43 | exact rq 83 | exact rq 403 | exact rq 61 | exact rq 103 | exact rq2 80) | with_reducible exact sAdd (by decide) | with_reducible exact sAdd2 (by decide)
  k_with "mine ne" => with_reducible first | assumption | exact Ne.symm (by assumption) | exact Nat.ne_of_gt (by assumption) | exact Nat.ne_of_lt (by assumption) | fail ""
  trivial
section
theorem off1_all {D : Addr} {l : List (Addr × Obj)} (h : LCg.Off1 D l) : ∀ p ∈ l, @Ne Nat p.1 D := by
  induction l with
  | nil => exact fun p hp => absurd hp List.not_mem_nil
  | cons q l ih =>
    intro p hp
    rcases List.mem_cons.mp hp with rfl | hp
    · exact h.1
    · exact ih h.2 p hp
def shOf (p : Nat × Array UInt8) : Sh := ⟨0, p.1, 0, p.2, 0⟩
def interpP (pts : List (Nat × Array UInt8)) (x0 n : Nat) : Array UInt8 := interpB (pts.map shOf) x0 n
theorem map_congr2 {α β γ : Type} {f : α → γ} {g : β → γ} {l : List α} {r : List β} {k : α → β} (e : l.map k = r) (h : ∀ a, f a = g (k a)) : l.map f = r.map g := by
  subst e; rw [List.map_map]; exact List.map_congr_left fun a _ => h a
theorem foldl_congr2 {α β σ : Type} {f : σ → α → σ} {g : σ → β → σ} {k : α → β} (h : ∀ s a, f s a = g s (k a)) : ∀ (l : List α) (s : σ), l.foldl f s = (l.map k).foldl g s
  | [], _ => rfl
  | a :: l, s => by rw [List.foldl_cons, List.map_cons, List.foldl_cons, h]; exact foldl_congr2 h l _
theorem interpB_pts (shs : List Sh) (x0 n : Nat) : interpB shs x0 n = interpP (shs.map fun q => (q.x, q.b)) x0 n := by
  have e : (shs.map fun q => (q.x, q.b)).map shOf = shs.map fun q => (⟨0, q.x, 0, q.b, 0⟩ : Sh) := by rw [List.map_map]; rfl
  unfold interpP
  rw [e]
  generalize hk : (fun q : Sh => (⟨0, q.x, 0, q.b, 0⟩ : Sh)) = k
  have kx : ∀ q, (k q).x = q.x := fun q => by rw [← hk]
  have kb : ∀ q, (k q).b = q.b := fun q => by rw [← hk]
  have e1 : ∀ x, lprod (shs.map k) x = lprod shs x := fun x => by
    unfold lprod; rw [List.map_map]; congr 1; exact List.map_congr_left fun q _ => by simp [kx]
  have e2 : ∀ x, lsum (shs.map k) x = lsum shs x := fun x => by
    unfold lsum; rw [List.map_map]; congr 1; exact List.map_congr_left fun q _ => by simp [kx]
  have e3 : lagr (shs.map k) x0 n (shs.map k).length = lagr shs x0 n shs.length := by
    unfold lagr
    rw [List.take_length, List.take_length]
    exact (foldl_congr2 (k := k) (fun r q => by unfold lbe; rw [e1, e2, kx, kb]) shs _).symm
  unfold interpB
  rw [e3]
  have e4 : (shs.map k).find? (fun q => q.x == x0) = (shs.find? fun q => q.x == x0).map k := by
    rw [List.find?_map]
    congr 1
    congr 1
    funext q
    simp [kx]
  rw [e4]
  cases shs.find? fun q => q.x == x0 with
  | none => rfl
  | some q => exact (kb q).symm
def basePts (t : Nat) (ds : List (Array UInt8 × Tok)) (dig sec : Array UInt8) : List (Nat × Array UInt8) := ((List.range (t - 2)).map fun j => (j, (ds.getD j (#[], 0)).1)) ++ [(254, dig), (255, sec)]
def splitRow (t : Nat) (ds : List (Array UInt8 × Tok)) (dig sec : Array UInt8) (j : Nat) : Array UInt8 := if j < t - 2 then (ds.getD j (#[], 0)).1 else interpP (basePts t ds dig sec) j sec.size
end
section
theorem lay_A2_CALL1 : True := by
  k_with "mine calls" => with_reducible first
    | show wpAny _ _ (call (Value.ref 181) _) ..
    | show wpAny _ _ (call (Value.ref 188) _) ..
    | show wpAny _ _ (call (Value.ref 195) _) ..
    | show wpAny _ _ (call (Value.ref 223) _) ..
  k_with "call ref" => ((with_reducible show wpAny _ _ (call (Value.ref 181) _) ..); k_dflt (refine' number_spec (by k_extra "mine cx") (by k_extra "mine list") (by assumption) (by assumption) (by k_extra "mine nat") (by k_extra "mine b") ?_; k_extra "mine ret"))
  trivial
section
variable {w : World} {p : Program} {loose : List Str} {mean : ExcName → Option Value} {mg mb : Str → Option Value} {dp un : Nat} {fr : Option (List Env)} {gd : Option (List Code)} {s : Shared} {Q E : Value → Shared → Prop}
def blen (x : Nat) : Nat := if x = 0 then 0 else x.log2 + 1
def invStep (h l a b : Nat) : Nat × Nat × Nat × Nat :=
  if blen h < blen l then (l ^^^ (h <<< (blen l - blen h)), h, b ^^^ (a <<< (blen l - blen h)), a)
  else (h ^^^ (l <<< (blen h - blen l)), l, a ^^^ (b <<< (blen h - blen l)), b)
def invRun : Nat → Nat × Nat × Nat × Nat → Option Nat
  | 0, _ => none
  | n + 1, (h, l, a, b) => if h = 1 then some a else if h < 65536 ∧ l < 65536 ∧ a < 65536 ∧ b < 65536 then invRun n (invStep h l a b) else none
def invF (s : Nat) : Nat := (invRun 40 (s, 283, 1, 0)).getD 0
theorem invRun_ok : ∀ s, s < 256 → s ≠ 0 → invRun 40 (s, 283, 1, 0) = some (invF s) := by decide +kernel
theorem intBits_blen (x : Nat) : Builtin.Int.intBits (x : Int) = blen x := by
  unfold Builtin.Int.intBits blen
  by_cases h : x = 0
  · simp [h]
  · have : ((x : Int) == 0) = false := beq_false_of_ne (by omega)
    rw [this, if_neg h, Int.natAbs_natCast]; rfl
theorem blen_le {x : Nat} (h : x < 65536) : blen x ≤ 16 := by
  rw [← intBits_blen]; exact intBits_le_iff.mpr (by rw [Int.natAbs_natCast]; exact h)
theorem invRun_succ {n h l a b r : Nat} (hr : invRun n (h, l, a, b) = some r) (hh : h ≠ 1) : ∃ m, n = m + 1 ∧ (h < 65536 ∧ l < 65536 ∧ a < 65536 ∧ b < 65536) ∧ invRun m (invStep h l a b) = some r := by
  cases n with
  | zero => cases hr
  | succ m =>
    unfold invRun at hr
    rw [if_neg hh] at hr
    split at hr
    · rename_i hb; exact ⟨m, rfl, hb, hr⟩
    · cases hr
theorem invRun_one {n l a b r : Nat} (hr : invRun n (1, l, a, b) = some r) : a = r := by
  cases n with
  | zero => cases hr
  | succ m => unfold invRun at hr; rw [if_pos rfl] at hr; exact Option.some.inj hr
inductive InvInv (a n : Nat) (m : Str → Option Value) : Prop
  | mk (h1 l1 a1 b1 : Nat) (u1 u2 u3 u4 : Tok) (e : AllAt m [("high", .int h1 u1), ("low", .int l1 u2), ("above", .int a1 u3), ("below", .int b1 u4)]) (r : invRun n (h1, l1, a1, b1) = some (invF a))
theorem inverse_spec (C : Cx w p loose mean mg mb (dp + 2) (un + 40) s.heap) {a : Nat} {x : Int} {t1 : Tok} (hx : x = (a : Int)) (ha : a < 256) (h0 : a ≠ 0)
    (h : ∀ t, HQ Q (.int (invF a : Nat) t) s) :
    wpAny (model P1 w) (tp dp fr gd un) (call (.ref 202) [.int x t1]) Q E s := by
  obtain ⟨X, T, hd, hu⟩ := C
  subst hx
  refine' enter (binds := [("scalar", .int a t1)]) ?k1 ?k2 ?k3 ?k4 ?k5 ?k6 ?k7 ?k8 ?k9 ?k10 ?k11 ?_
  ((case k1 => assumption); (case k2 => exact Top.nolimit (by assumption)); (case k3 | k4 => k_is); (case k5 => (dsimp only; omega)); (case k6 => first | exact BindsTo.of_eq rfl | exact binds_K (by assumption) rfl (by k_is) rfl rfl rfl); (case k7 => exact locs rfl); (case k8 => decide); (case k9 | k10 | k11 => exact rfl); k_whole; intro hh9 FF9 NN9; (dsimp only [List.reverse, List.reverseAux] at FF9); (try dsimp only))
  k_extra "mine steps"
  refine While_inv2 (fun n m _ => InvInv a n m) (n₀ := 40) (by assumption) News.nil ⟨a, 283, 1, 0, _, _, _, _, ⟨rfl, rfl, rfl, rfl, trivial⟩, invRun_ok a ha h0⟩ ?_ ?_
  · intro n m₁ news₁ h₁ tk₁ F₁ N₁ hJ
    obtain ⟨h1, l1, a1, b1, u1, u2, u3, u4, e1, hr⟩ := hJ
    have F2 := frOv F₁ e1
    have N2 : News s.heap s.heap.objs.size h₁ [] := News.nil
    clear F₁ N₁ e1
    by_cases hone : h1 = 1
    · subst hone
      have hfin := invRun_one hr
      subst hfin
      k_extra "mine steps"
      rename Fr _ _ _ _ => F3
      exact (h _).get _ _ F3.keep
    · obtain ⟨n', rfl, ⟨c1, c2, c3, c4⟩, hr'⟩ := invRun_succ hr hone
      have q1 := blen_le c1
      have q2 := blen_le c2
      have p1 : h1 < 2 ^ 16 := c1
      have p2 : l1 < 2 ^ 16 := c2
      have p3 : a1 < 2 ^ 16 := c3
      have p4 : b1 < 2 ^ 16 := c4
      have i1 := intBits_blen h1
      have i2 := intBits_blen l1
      clear c1 c2 c3 c4
      k_extra "mine steps"
      · rename Fr _ _ _ _ => F3
        rename News _ _ _ _ => N3
        have e : (-((Builtin.Int.intBits (h1 : Int) : Int) - (Builtin.Int.intBits (l1 : Int) : Int))).toNat = blen l1 - blen h1 := by rw [i1, i2]; exact neg_toNat _ _
        refine ⟨_, _, _, _, n', rfl, F3, N3, Nat.lt_succ_self _, _, _, _, _, _, _, _, _, ⟨rfl, rfl, rfl, rfl, trivial⟩, ?_⟩
        rw [← hr', invStep, if_pos (by omega), e]
      · rename Fr _ _ _ _ => F3
        rename News _ _ _ _ => N3
        have e : ((Builtin.Int.intBits (h1 : Int) : Int) - (Builtin.Int.intBits (l1 : Int) : Int)).toNat = blen h1 - blen l1 := by rw [i1, i2]; exact Int.toNat_sub _ _
        refine ⟨_, _, _, _, n', rfl, F3, N3, Nat.lt_succ_self _, _, _, _, _, _, _, _, _, ⟨rfl, rfl, rfl, rfl, trivial⟩, ?_⟩
        rw [← hr', invStep, if_neg (by omega), e]
  · passes_own
end
end
theorem lay_lev6 : True := by
  k_with_none
  k_with "mine stop" => with_reducible first
    | show wpAny _ _ (exec (Stmt.While ..) _) ..
    | show wpAny _ _ (exec (Stmt.For ..) _) ..
    | ((fail_if_success k_extra "mine calls"); show wpAny _ _ (call (Value.ref _) _) ..)
  k_with "mine ext" => ((rename Ext _ _ => eq9); (rename Fr _ _ _ _ => fq9); (rename News _ _ _ _ => nq9); (replace fq9 := frExt fq9 eq9); (replace nq9 := newsExt nq9 eq9); (try k_sweep); clear eq9; (try dsimp only); revert fq9 nq9; intro _ _)
  k_with "mine cx" => exact ⟨Frag.In.keeps (by assumption) (Fr.keep (by assumption)), Top.keeps (by assumption) (Fr.keep (by assumption)), by (try dsimp only [tp, Around.deeper]); omega, by (try dsimp only [tp, Around.deeper]); omega⟩
  k_with "mine list" => first | assumption | exact (by assumption : Heap.IsList _ _ _).at (fun o e => (by assumption : Fr _ _ _ _).keep _ _ e)
  k_with "mine steps" => repeat' ((fail_if_success (k_extra "mine stop")); first | (k_unfold; (try dsimp only)) | (walk1 <;> try ((fail_if_success (with_reducible show wpAny _ _ (subscriptTail ..) ..)); dsimp only)) | (dsimp only; walk1) | fail "no step")
  k_with "mine nat" => first | (with_reducible exact rfl) | k_dflt (exact natlit _) | k_dflt (exact rfl)
  k_with "mine b" => first | with_reducible assumption | decide | assumption | exact Nat.pow_pos (by decide) | omega
  k_with "binaryOp BitXor int int" => (refine' xor_n (by k_extra "mine nat") (by k_extra "mine nat") ?_; try dsimp only)
  k_with "binaryOp BitAnd int int" => (refine' and_n (by k_extra "mine nat") (by k_extra "mine nat") ?_; try dsimp only)
  k_with "binaryOp RShift int int" => (refine' shr_n (by k_extra "mine nat") (by k_extra "mine nat") ?_; try dsimp only)
  k_with "binaryOp LShift int int" => k_dflt (refine' shl_z (by k_extra "mine nat") (by omega) (by omega) (by k_extra "mine b") (by decide) ?_; (try dsimp only))
  k_with "binaryOp LShift int int" => (refine' shl_n (by k_extra "mine nat") (by k_extra "mine nat") (by k_extra "mine b") (by decide) (by k_extra "mine b") ?_; try dsimp only)
  k_with "binaryOp Add int int" => (refine' add_n (by k_extra "mine nat") (by k_extra "mine nat") ?_; try dsimp only)
  k_with "binaryOp Mult int int" => (refine' mul_n (by k_extra "mine nat") (by k_extra "mine nat") (by k_extra "mine b") (by decide) (by k_extra "mine b") (by decide) ?_; try dsimp only)
  k_with "binaryOp FloorDiv int int" => (refine' fdiv_n (by k_extra "mine nat") (by k_extra "mine nat") (by decide) (by decide) ?_; try dsimp only)
  k_with "binaryOp Mod int int" => (refine' mod_z (by k_extra "mine nat") (by k_extra "mine b") ?_; (try dsimp only))
  k_with "binaryOp Mod int int" => (refine' mod_n (by k_extra "mine nat") (by k_extra "mine nat") (by k_extra "mine b") ?_; try dsimp only)
  k_with "binaryOp Sub int int" => (refine' sub_n (by k_extra "mine nat") (by k_extra "mine nat") (by k_extra "mine b") ?_; try dsimp only)
  k_with "binaryOp Pow int int" => (refine' pow_n (by k_extra "mine nat") (by k_extra "mine nat") (by k_extra "mine b") (by k_extra "mine b") ?_; try dsimp only)
  k_with "compareOp Gt int int" => refine' gt_n (by k_extra "mine nat") (by k_extra "mine nat") ?_
  k_with "compareOp Lt int int" => refine' lt_n (by k_extra "mine nat") (by k_extra "mine nat") ?_
  k_with "compareOp Eq int int" => refine' eq_n (by k_extra "mine nat") (by k_extra "mine nat") ?_
  k_with "compareOp NotEq int int" => refine' ne_n (by k_extra "mine nat") (by k_extra "mine nat") ?_
  k_with "mine ret" => (intro _; constructor; intro _ _ _; k_extra "mine ext")
  k_with "mine in" => first | exact me 0 rfl | exact me 1 rfl | exact me 2 rfl | exact me 3 rfl | exact me 4 rfl | exact me 5 rfl | exact me 6 rfl | exact me 7 rfl | exact me 8 rfl | exact me 9 rfl | exact me 10 rfl | exact me 11 rfl | exact me 12 rfl | exact me 13 rfl | exact me 14 rfl | exact me 15 rfl | exact me 16 rfl | exact me 17 rfl | exact me 18 rfl | exact me 19 rfl | (with_reducible refine List.mem_append_right _ ?_; k_extra "mine in") | (with_reducible refine List.mem_append_left _ ?_; k_extra "mine in") | (with_reducible refine List.mem_cons_of_mem _ ?_; k_extra "mine in")
  k_with "mine tail" => first | with_reducible assumption | (with_reducible refine List.mem_cons_of_mem _ ?_; k_extra "mine tail") | (with_reducible refine List.mem_append_right _ ?_; k_extra "mine tail") | (with_reducible refine List.mem_append_left _ ?_; k_extra "mine tail")
  k_with "mine sub" => first | (with_reducible exact List.forall_mem_nil _) | (with_reducible refine fmc (by intros; k_extra "mine in") ?_; k_extra "mine sub") | (with_reducible refine fma ?_ ?_ <;> k_extra "mine sub") | (intro p hp; intros; first | contradiction | k_extra "mine tail")
  k_with "mine omega" => first | ((with_reducible show _ < recursionLimit); first | exact rm0 (by assumption) | exact rq 1 | exact rq 2 | exact rq 3 | exact rq 4 | exact rq 11 | exact rq 21 | exact rq 41 | exact rq2 3) | ((with_reducible show _ < cLine); first | exact rq 3 | exact rq 4 | exact rq 23 | exact rq 43 | exact rq 83 | exact rq 403 | exact rq 61 | exact rq 103 | exact rq2 80) | with_reducible exact sAdd (by decide) | with_reducible exact sAdd2 (by decide)
  k_with "mine ne" => with_reducible first | assumption | exact Ne.symm (by assumption) | exact Nat.ne_of_gt (by assumption) | exact Nat.ne_of_lt (by assumption) | fail ""
  trivial
section
def stp (r o : Nat) : Nat := ((r ^^^ (((r >>> 7) &&& o) <<< 7)) <<< 1) ^^^ (((r >>> 7) &&& o) * 27)
theorem gtS_succ (k a r o d : Nat) : gtS (k + 1) a r o d = gtS k (a / 2) (stp r o) o (if a % 2 = 1 then d ^^^ r else d) := by
  rw [gtS]
  split
  · next h => subst h; rw [show (0 : Nat) / 2 = 0 from rfl, gtS_zero]; simp
  · rfl
theorem tb_pk (q b i : Nat) (hb : b < 256) : (256 * q + b).testBit i = if i < 8 then b.testBit i else q.testBit (i - 8) := Nat.testBit_two_pow_mul_add (i := 8) q hb i
theorem xor_pk {q b q' b' : Nat} (hb : b < 256) (hb' : b' < 256) : (256 * q + b) ^^^ (256 * q' + b') = 256 * (q ^^^ q') + (b ^^^ b') := by
  refine Nat.eq_of_testBit_eq fun i => ?_
  rw [Nat.testBit_xor, tb_pk _ _ _ hb, tb_pk _ _ _ hb', tb_pk _ _ _ (Nat.xor_lt_two_pow (n := 8) hb hb')]
  split <;> rw [Nat.testBit_xor]
theorem top_pk {q b o : Nat} (hb : b < 256) : ((256 * q + b) >>> 7) &&& (256 * o + 1) = 256 * ((q >>> 7) &&& o) + ((b >>> 7) &&& 1) := by
  have hlt : (b >>> 7) &&& 1 < 256 := Nat.lt_of_le_of_lt Nat.and_le_right (by decide)
  refine Nat.eq_of_testBit_eq fun i => ?_
  rw [Nat.testBit_and, Nat.testBit_shiftRight, tb_pk _ _ _ hb, tb_pk _ _ _ (by decide : 1 < 256), tb_pk _ _ _ hlt]
  by_cases h : i < 8
  · rw [if_pos h, if_pos h, Nat.testBit_and, Nat.testBit_shiftRight]
    cases i with
    | zero => rfl
    | succ i => rw [show Nat.testBit 1 (i + 1) = false by rw [Nat.testBit_succ]; simp]; simp
  · rw [if_neg h, if_neg h, if_neg (by omega), Nat.testBit_and, Nat.testBit_shiftRight, show 7 + i - 8 = 7 + (i - 8) from Nat.add_sub_assoc (Nat.le_of_not_lt h) 7]
theorem top1_le (b : Nat) : (b >>> 7) &&& 1 ≤ 1 := Nat.and_le_right
theorem low7_lt {b : Nat} (hb : b < 256) : b ^^^ (((b >>> 7) &&& 1) <<< 7) < 128 := by
  revert b; decide
theorem stp1_lt {b : Nat} (hb : b < 256) : stp b 1 < 256 := by revert b; decide +kernel
theorem stp_pk {q b o : Nat} (hb : b < 256) : stp (256 * q + b) (256 * o + 1) = 256 * stp q o + stp b 1 := by
  unfold stp
  rw [top_pk hb]
  have ht := top1_le b
  have h7 := low7_lt hb
  generalize hT : (q >>> 7) &&& o = T
  generalize hS : (b >>> 7) &&& 1 = S at ht h7 ⊢
  have e1 : (256 * T + S) <<< 7 = 256 * (T <<< 7) + S <<< 7 := by rw [Nat.shiftLeft_eq, Nat.shiftLeft_eq, Nat.shiftLeft_eq]; omega
  have hs7 : S <<< 7 < 256 := by rw [Nat.shiftLeft_eq]; omega
  rw [e1, xor_pk hb hs7]
  generalize (q ^^^ T <<< 7) = U
  generalize b ^^^ S <<< 7 = V at h7 ⊢
  have e2 : (256 * U + V) <<< 1 = 256 * (U <<< 1) + V <<< 1 := by rw [Nat.shiftLeft_eq, Nat.shiftLeft_eq, Nat.shiftLeft_eq]; omega
  have e3 : (256 * T + S) * 27 = 256 * (T * 27) + S * 27 := by omega
  rw [e2, e3, xor_pk (by rw [Nat.shiftLeft_eq]; omega) (by omega)]
theorem gtS_pk : ∀ (k a q b o d e : Nat), b < 256 → e < 256 → gtS k a (256 * q + b) (256 * o + 1) (256 * d + e) = 256 * gtS k a q o d + gtS k a b 1 e
  | 0, _, _, _, _, _, _, _, _ => rfl
  | k + 1, a, q, b, o, d, e, hb, he => by
    rw [gtS_succ, gtS_succ k a q, gtS_succ k a b, stp_pk hb]
    split
    · rw [xor_pk he hb]; exact gtS_pk k _ _ _ _ _ _ (stp1_lt hb) (Nat.xor_lt_two_pow (n := 8) he hb)
    · exact gtS_pk k _ _ _ _ _ _ (stp1_lt hb) he
theorem gt_pk {a q b o : Nat} (hb : b < 256) : gt a (256 * q + b) (256 * o + 1) = 256 * gt a q o + gt a b 1 := gtS_pk 8 a q b o 0 0 hb (by decide)
theorem gtS1_lt' : ∀ (k a b e : Nat), b < 256 → e < 256 → gtS k a b 1 e < 256
  | 0, _, _, _, _, he => he
  | k + 1, a, b, e, hb, he => by
    rw [gtS_succ]
    refine gtS1_lt' k _ _ _ (stp1_lt hb) ?_
    split
    · exact Nat.xor_lt_two_pow (n := 8) he hb
    · exact he
theorem gt1_lt' {a b : Nat} (hb : b < 256) : gt a b 1 < 256 := gtS1_lt' 8 a b 0 hb (by decide)
def oct (r j : Nat) : Nat := r / 256 ^ j % 256
theorem oct_lt (r j : Nat) : oct r j < 256 := Nat.mod_lt _ (by decide)
theorem oct_zero (r : Nat) : oct r 0 = r % 256 := by simp [oct]
theorem oct_succ (r j : Nat) : oct r (j + 1) = oct (r / 256) j := by unfold oct; rw [Nat.pow_succ, Nat.mul_comm, Nat.div_div_eq_div_mul]
theorem oct_xor (a b j : Nat) : oct (a ^^^ b) j = oct a j ^^^ oct b j := by
  unfold oct
  rw [show (256 : Nat) ^ j = 2 ^ (8 * j) by rw [Nat.pow_mul], Nat.xor_div_two_pow, show (256 : Nat) = 2 ^ 8 by decide, Nat.xor_mod_two_pow]
def onesF : Nat → Nat
  | 0 => 0
  | n + 1 => 256 * onesF n + 1
theorem oct_gt : ∀ (n a r j : Nat), j < n → oct (gt a r (onesF n)) j = gt a (oct r j) 1
  | 0, _, _, _, h => absurd h (Nat.not_lt_zero _)
  | n + 1, a, r, j, h => by
    have hr : r = 256 * (r / 256) + r % 256 := (Nat.div_add_mod r 256).symm
    have hm : r % 256 < 256 := Nat.mod_lt _ (by decide)
    have e : gt a r (onesF (n + 1)) = 256 * gt a (r / 256) (onesF n) + gt a (r % 256) 1 := by
      conv => lhs; rw [hr]
      exact gt_pk hm
    have hl := gt1_lt' (a := a) hm
    rw [e]
    cases j with
    | zero => rw [oct_zero, oct_zero]; omega
    | succ j =>
      rw [oct_succ, oct_succ, show (256 * gt a (r / 256) (onesF n) + gt a (r % 256) 1) / 256 = gt a (r / 256) (onesF n) by omega]
      exact oct_gt n _ _ _ (by omega)
theorem xx {a b c d : Nat} : (a ^^^ b) ^^^ (c ^^^ d) = (a ^^^ c) ^^^ (b ^^^ d) := by
  rw [Nat.xor_assoc, Nat.xor_assoc, ← Nat.xor_assoc b, Nat.xor_comm b c, Nat.xor_assoc c]
theorem stp_xor {a b : Nat} (ha : a < 256) (hb : b < 256) : stp (a ^^^ b) 1 = stp a 1 ^^^ stp b 1 := by
  have tl : ∀ r : Nat, r < 256 → stp r 1 = ((r * 2) % 256) ^^^ (if r / 128 = 1 then 27 else 0) := by decide +kernel
  have hab := Nat.xor_lt_two_pow (n := 8) ha hb
  rw [tl _ ha, tl _ hb, tl _ hab, xx]
  have e1 : (a ^^^ b) * 2 % 256 = (a * 2 % 256) ^^^ (b * 2 % 256) := by
    rw [show (256 : Nat) = 2 ^ 8 by decide, ← Nat.xor_mod_two_pow]
    congr 1
    have := Nat.shiftLeft_xor_distrib (a := a) (b := b) (i := 1)
    simpa [Nat.shiftLeft_eq] using this
  rw [e1]
  congr 1
  have e2 : (a ^^^ b) / 128 = (a / 128) ^^^ (b / 128) := by rw [show (128 : Nat) = 2 ^ 7 by decide, Nat.xor_div_two_pow]
  rw [e2]
  have h1 : a / 128 < 2 := Nat.div_lt_of_lt_mul (by assumption)
  have h2 : b / 128 < 2 := Nat.div_lt_of_lt_mul (by assumption)
  revert h1 h2
  generalize a / 128 = u
  generalize b / 128 = v
  intro h1 h2
  rcases Nat.le_one_iff_eq_zero_or_eq_one.mp (Nat.le_of_lt_succ h1) with rfl | rfl <;> rcases Nat.le_one_iff_eq_zero_or_eq_one.mp (Nat.le_of_lt_succ h2) with rfl | rfl <;> decide
theorem gtS_row : ∀ (k a r r' d d' : Nat), r < 256 → r' < 256 → gtS k a (r ^^^ r') 1 (d ^^^ d') = gtS k a r 1 d ^^^ gtS k a r' 1 d'
  | 0, _, _, _, _, _, _, _ => rfl
  | k + 1, a, r, r', d, d', h, h' => by
    rw [gtS_succ, gtS_succ k a r, gtS_succ k a r', stp_xor h h']
    split
    · rw [xx]; exact gtS_row k _ _ _ _ _ (stp1_lt h) (stp1_lt h')
    · exact gtS_row k _ _ _ _ _ (stp1_lt h) (stp1_lt h')
theorem gt_row (a : Nat) {r r' : Nat} (h : r < 256) (h' : r' < 256) : gt a (r ^^^ r') 1 = gt a r 1 ^^^ gt a r' 1 := gtS_row 8 a r r' 0 0 h h'
theorem gtS_sca : ∀ (k a a' r d d' : Nat), gtS k (a ^^^ a') r 1 (d ^^^ d') = gtS k a r 1 d ^^^ gtS k a' r 1 d'
  | 0, _, _, _, _, _ => rfl
  | k + 1, a, a', r, d, d' => by
    rw [gtS_succ, gtS_succ k a r, gtS_succ k a' r]
    have e1 : (a ^^^ a') / 2 = a / 2 ^^^ a' / 2 := Nat.xor_div_two_pow (n := 1)
    have e2 : (a ^^^ a') % 2 = a % 2 ^^^ a' % 2 := Nat.xor_mod_two_pow (n := 1)
    rw [e1, ← gtS_sca k]
    congr 1
    rw [e2]
    rcases Nat.mod_two_eq_zero_or_one a with h | h <;> rcases Nat.mod_two_eq_zero_or_one a' with h' | h' <;> rw [h, h']
    · simp
    · simp [Nat.xor_assoc]
    · simp only [show (1 ^^^ 0 : Nat) = 1 from rfl, if_true, show ¬ ((0 : Nat) = 1) by decide, if_false]
      rw [Nat.xor_assoc, Nat.xor_comm d' r, ← Nat.xor_assoc]
    · simp only [show (1 ^^^ 1 : Nat) = 0 from rfl, if_true, show ¬ ((0 : Nat) = 1) by decide, if_false]
      rw [xx, Nat.xor_self, Nat.xor_zero]
theorem gt_sca (a a' r : Nat) : gt (a ^^^ a') r 1 = gt a r 1 ^^^ gt a' r 1 := gtS_sca 8 a a' r 0 0
theorem lin_zero {f : Nat → Nat} (h : ∀ a b, a < 256 → b < 256 → f (a ^^^ b) = f a ^^^ f b) : f 0 = 0 := by
  have := h 0 0 (by decide) (by decide)
  rw [Nat.xor_self, Nat.xor_self] at this
  exact this
theorem bits8 : ∀ x : Nat, x < 256 → ((((((((x &&& 1) ^^^ (x &&& 2)) ^^^ (x &&& 4)) ^^^ (x &&& 8)) ^^^ (x &&& 16)) ^^^ (x &&& 32)) ^^^ (x &&& 64)) ^^^ (x &&& 128)) = x := by decide +kernel
theorem bit_or : ∀ k < 8, ∀ x : Nat, x < 256 → x &&& 2 ^ k = 0 ∨ x &&& 2 ^ k = 2 ^ k := by decide +kernel
theorem lin_ext {f g : Nat → Nat} (hf : ∀ a b, a < 256 → b < 256 → f (a ^^^ b) = f a ^^^ f b) (hg : ∀ a b, a < 256 → b < 256 → g (a ^^^ b) = g a ^^^ g b) (h : ∀ k < 8, f (2 ^ k) = g (2 ^ k)) (x : Nat) (hx : x < 256) : f x = g x := by
  have z : f 0 = g 0 := by rw [lin_zero hf, lin_zero hg]
  have b : ∀ k < 8, f (x &&& 2 ^ k) = g (x &&& 2 ^ k) := fun k hk => by
    rcases bit_or k hk x hx with e | e <;> rw [e]
    · exact z
    · exact h k hk
  have lt : ∀ m, x &&& m < 256 := fun m => Nat.lt_of_le_of_lt Nat.and_le_left hx
  have lx : ∀ {a b : Nat}, a < 256 → b < 256 → a ^^^ b < 256 := fun h h' => Nat.xor_lt_two_pow (n := 8) h h'
  have key : ∀ F : Nat → Nat, (∀ a b, a < 256 → b < 256 → F (a ^^^ b) = F a ^^^ F b) → F x = ((((((((F (x &&& 2 ^ 0)) ^^^ (F (x &&& 2 ^ 1))) ^^^ (F (x &&& 2 ^ 2))) ^^^ (F (x &&& 2 ^ 3))) ^^^ (F (x &&& 2 ^ 4))) ^^^ (F (x &&& 2 ^ 5))) ^^^ (F (x &&& 2 ^ 6))) ^^^ (F (x &&& 2 ^ 7))) := by
    intro F hF
    conv => lhs; rw [← bits8 x hx]
    rw [hF _ _ (lx (lx (lx (lx (lx (lx (lt _) (lt _)) (lt _)) (lt _)) (lt _)) (lt _)) (lt _)) (lt _), hF _ _ (lx (lx (lx (lx (lx (lt _) (lt _)) (lt _)) (lt _)) (lt _)) (lt _)) (lt _), hF _ _ (lx (lx (lx (lx (lt _) (lt _)) (lt _)) (lt _)) (lt _)) (lt _),
      hF _ _ (lx (lx (lx (lt _) (lt _)) (lt _)) (lt _)) (lt _), hF _ _ (lx (lx (lt _) (lt _)) (lt _)) (lt _), hF _ _ (lx (lt _) (lt _)) (lt _), hF _ _ (lt _) (lt _)]
  rw [key f hf, key g hg, b 0 (by decide), b 1 (by decide), b 2 (by decide), b 3 (by decide), b 4 (by decide), b 5 (by decide), b 6 (by decide), b 7 (by decide)]
def mu (a b : Nat) : Nat := gt (a % 256) (b % 256) 1
theorem mu_lt (a b : Nat) : mu a b < 256 := gt1_lt' (Nat.mod_lt _ (by decide))
theorem mod_xor (a b : Nat) : (a ^^^ b) % 256 = a % 256 ^^^ b % 256 := Nat.xor_mod_two_pow (n := 8)
theorem mu_xor (a b c : Nat) : mu a (b ^^^ c) = mu a b ^^^ mu a c := by
  unfold mu; rw [mod_xor]; exact gt_row _ (Nat.mod_lt _ (by decide)) (Nat.mod_lt _ (by decide))
theorem xor_mu (a b c : Nat) : mu (a ^^^ b) c = mu a c ^^^ mu b c := by
  unfold mu; rw [mod_xor]; exact gt_sca _ _ _
theorem mu_mod (a b : Nat) : mu a (b % 256) = mu a b := by unfold mu; rw [Nat.mod_mod]
theorem mod_mu (a b : Nat) : mu (a % 256) b = mu a b := by unfold mu; rw [Nat.mod_mod]
theorem gt_mu {a b : Nat} (ha : a < 256) (hb : b < 256) : gt a b 1 = mu a b := by unfold mu; rw [Nat.mod_eq_of_lt ha, Nat.mod_eq_of_lt hb]
theorem mu_comm (a b : Nat) : mu a b = mu b a := by
  rw [← mod_mu a, ← mod_mu b, ← mu_mod _ b, ← mu_mod _ a]
  have ha : a % 256 < 256 := Nat.mod_lt _ (by decide)
  have hb : b % 256 < 256 := Nat.mod_lt _ (by decide)
  revert ha hb
  generalize a % 256 = x
  generalize b % 256 = y
  intro hx hy
  refine lin_ext (f := fun x => mu x y) (g := fun x => mu y x) (fun _ _ _ _ => xor_mu _ _ _) (fun _ _ _ _ => mu_xor _ _ _) (fun k hk => ?_) x hx
  refine lin_ext (f := fun y => mu (2 ^ k) y) (g := fun y => mu y (2 ^ k)) (fun _ _ _ _ => mu_xor _ _ _) (fun _ _ _ _ => xor_mu _ _ _) (fun l hl => ?_) y hy
  revert k l
  decide +kernel
theorem ass512 : ∀ k < 8, ∀ l < 8, ∀ m < 8, mu (mu (2 ^ k) (2 ^ l)) (2 ^ m) = mu (2 ^ k) (mu (2 ^ l) (2 ^ m)) := by decide +kernel
theorem mu_assoc (a b c : Nat) : mu (mu a b) c = mu a (mu b c) := by
  have key : ∀ x y z : Nat, x < 256 → y < 256 → z < 256 → mu (mu x y) z = mu x (mu y z) := by
    intro x y z hx hy hz
    refine lin_ext (f := fun x => mu (mu x y) z) (g := fun x => mu x (mu y z)) (fun _ _ _ _ => by simp only [xor_mu]) (fun _ _ _ _ => xor_mu _ _ _) (fun k hk => ?_) x hx
    refine lin_ext (f := fun y => mu (mu (2 ^ k) y) z) (g := fun y => mu (2 ^ k) (mu y z)) (fun _ _ _ _ => by simp only [xor_mu, mu_xor]) (fun _ _ _ _ => by simp only [xor_mu, mu_xor]) (fun l hl => ?_) y hy
    refine lin_ext (f := fun z => mu (mu (2 ^ k) (2 ^ l)) z) (g := fun z => mu (2 ^ k) (mu (2 ^ l) z)) (fun _ _ _ _ => mu_xor _ _ _) (fun _ _ _ _ => by simp only [mu_xor]) (fun m hm => ?_) z hz
    have := ass512 k hk l hl m hm
    exact this
  have h := key (a % 256) (b % 256) (c % 256) (Nat.mod_lt _ (by decide)) (Nat.mod_lt _ (by decide)) (Nat.mod_lt _ (by decide))
  rwa [mod_mu, mu_mod, mu_mod, mod_mu, mod_mu, mu_mod] at h
theorem mu_zero (a : Nat) : mu a 0 = 0 := by
  have h := mu_xor a 0 0
  rwa [Nat.xor_self, Nat.xor_self] at h
theorem zero_mu (a : Nat) : mu 0 a = 0 := by rw [mu_comm]; exact mu_zero a
theorem mu_one {a : Nat} (ha : a < 256) : mu a 1 = a := by
  revert ha a; decide +kernel
theorem one_mu {a : Nat} (ha : a < 256) : mu 1 a = a := by rw [mu_comm]; exact mu_one ha
end
section
theorem inv_mu : ∀ a, a < 256 → a ≠ 0 → mu (invF a) a = 1 := by decide +kernel
theorem mu_zero_or {a b : Nat} (h : mu a b = 0) : a % 256 = 0 ∨ b % 256 = 0 := by
  rcases Nat.decEq (a % 256) 0 with h0 | h0
  · right
    have h1 := inv_mu (a % 256) (Nat.mod_lt _ (by decide)) h0
    have h2 : mu (invF (a % 256)) (mu (a % 256) (b % 256)) = b % 256 := by
      rw [← mu_assoc, h1, one_mu (Nat.mod_lt _ (by decide))]
    rw [mod_mu, mu_mod, h, mu_zero] at h2
    exact h2.symm
  · exact .inl h0
theorem gt1_ne0 (a : Nat) (ha : a < 256) (r : Nat) (hr : r < 256) (h : a ≠ 0) (h0 : r ≠ 0) : gt a r 1 ≠ 0 := by
  rw [gt_mu ha hr]
  intro e
  rcases mu_zero_or e with e | e
  · rw [Nat.mod_eq_of_lt ha] at e; exact h e
  · rw [Nat.mod_eq_of_lt hr] at e; exact h0 e
end
section
def exN (i : Nat) : Nat := EX (i % 255)
theorem ex3 : ∀ i, i < 255 → EX ((i + 1) % 255) = mu 3 (EX i) := by decide +kernel
theorem exN_succ (i : Nat) : exN (i + 1) = mu 3 (exN i) := by
  unfold exN
  rw [← ex3 _ (Nat.mod_lt _ (by decide)), Nat.mod_add_mod]
theorem exN_add (i j : Nat) : exN (i + j) = mu (exN i) (exN j) := by
  induction i with
  | zero => rw [Nat.zero_add, show exN 0 = 1 by decide +kernel]; exact (one_mu (EX_lt _)).symm
  | succ i ih => rw [show i + 1 + j = i + j + 1 by omega, exN_succ, ih, exN_succ, mu_assoc]
def exZ (z : Int) : Nat := EX (z % 255).toNat
theorem exZ_nat (n : Nat) : exZ (n : Int) = exN n := by
  unfold exZ exN
  have : ((n : Int) % 255).toNat = n % 255 := rfl
  rw [this]
theorem exZ_mod (z : Int) : exZ z = exN (z % 255).toNat := by
  unfold exZ exN
  have : (z % 255).toNat % 255 = (z % 255).toNat := Nat.mod_eq_of_lt (emod_toNat_lt z (c := 255) (by decide))
  rw [this]
theorem exZ_add (z w : Int) : exZ (z + w) = mu (exZ z) (exZ w) := by
  rw [exZ_mod z, exZ_mod w, ← exN_add, ← exZ_nat]
  unfold exZ
  congr 1
  rw [Int.natCast_add, Int.toNat_of_nonneg (Int.emod_nonneg z (by decide)), Int.toNat_of_nonneg (Int.emod_nonneg w (by decide)), ← Int.add_emod]
theorem exZ_zero : exZ 0 = 1 := by decide +kernel
theorem exLG : ∀ a, a < 256 → a ≠ 0 → exN (LG a) = a := by decide +kernel
theorem LG0 : LG 0 = 0 := by decide
theorem exN_lt (i : Nat) : exN i < 256 := EX_lt _
theorem mulB_mu {l v : Nat} (hv : v < 256) : mulB l v = mu v (exN l) := by
  unfold mulB
  split
  · next h => rw [h, zero_mu]
  · next h =>
    show exN (LG v + l) = _
    rw [exN_add, exLG v hv h]
def hor : List Nat → Nat → Nat
  | [], _ => 0
  | c :: cs, x => c ^^^ mu x (hor cs x)
theorem x256 {a b : Nat} (ha : a < 256) (hb : b < 256) : a ^^^ b < 256 := Nat.xor_lt_two_pow (n := 8) ha hb
theorem hor_lt : ∀ (cs : List Nat) (x : Nat), (∀ c ∈ cs, c < 256) → hor cs x < 256
  | [], _, _ => by show 0 < 256; decide
  | c :: cs, x, h => x256 (h c (by simp)) (mu_lt _ _)
def Poly (t : Nat) (f : Nat → Nat) : Prop := ∃ cs : List Nat, cs.length = t ∧ (∀ c ∈ cs, c < 256) ∧ ∀ x, x < 256 → f x = hor cs x
theorem Poly.lt {t : Nat} {f : Nat → Nat} (h : Poly t f) {x : Nat} (hx : x < 256) : f x < 256 := by
  obtain ⟨cs, _, hc, e⟩ := h
  rw [e x hx]; exact hor_lt cs x hc
theorem Poly.congr {t : Nat} {f g : Nat → Nat} (h : Poly t f) (e : ∀ x, x < 256 → g x = f x) : Poly t g := by
  obtain ⟨cs, hl, hc, q⟩ := h
  exact ⟨cs, hl, hc, fun x hx => (e x hx).trans (q x hx)⟩
theorem Poly.const {c : Nat} (h : c < 256) : Poly 1 fun _ => c := ⟨[c], rfl, by simpa using h, fun x _ => by simp [hor, mu_zero]⟩
theorem hor_pad (x : Nat) : ∀ cs : List Nat, hor (cs ++ [0]) x = hor cs x
  | [] => by simp [hor, mu_zero]
  | c :: cs => by rw [List.cons_append, hor, hor_pad x cs, hor]
theorem Poly.pad {t : Nat} {f : Nat → Nat} (h : Poly t f) : Poly (t + 1) f := by
  obtain ⟨cs, hl, hc, e⟩ := h
  refine ⟨cs ++ [0], by simp [hl], fun c h => ?_, fun x hx => by rw [hor_pad, e x hx]⟩
  rcases List.mem_append.mp h with h | h
  · exact hc c h
  · rw [List.mem_singleton.mp h]; decide
theorem Poly.up {t k : Nat} {f : Nat → Nat} (h : Poly t f) (hk : t ≤ k) : Poly k f := by
  obtain ⟨d, rfl⟩ := Nat.exists_eq_add_of_le hk
  clear hk
  induction d with
  | zero => exact h
  | succ d ih => exact ih.pad
theorem hor_xor (x : Nat) : ∀ as bs : List Nat, as.length = bs.length → hor (List.zipWith (· ^^^ ·) as bs) x = hor as x ^^^ hor bs x
  | [], [], _ => by simp [hor]
  | a :: as, b :: bs, h => by
    rw [List.zipWith_cons_cons, hor, hor_xor x as bs (by simpa using h), mu_xor, hor, hor, xx]
  | [], _ :: _, h => by simp at h
  | _ :: _, [], h => by simp at h
theorem zip_lt : ∀ as bs : List Nat, (∀ c ∈ as, c < 256) → (∀ c ∈ bs, c < 256) → ∀ c ∈ List.zipWith (· ^^^ ·) as bs, c < 256
  | [], _, _, _, c, h => by simp at h
  | _ :: _, [], _, _, c, h => by simp at h
  | a :: as, b :: bs, ha, hb, c, h => by
    rw [List.zipWith_cons_cons] at h
    rcases List.mem_cons.mp h with rfl | h
    · exact x256 (ha a (by simp)) (hb b (by simp))
    · exact zip_lt as bs (fun c h => ha c (by simp [h])) (fun c h => hb c (by simp [h])) c h
theorem Poly.xor {t : Nat} {f g : Nat → Nat} (hf : Poly t f) (hg : Poly t g) : Poly t fun x => f x ^^^ g x := by
  obtain ⟨as, la, ca, ea⟩ := hf
  obtain ⟨bs, lb, cb, eb⟩ := hg
  exact ⟨_, by rw [List.length_zipWith, la, lb, Nat.min_self], zip_lt as bs ca cb, fun x hx => by dsimp only; rw [hor_xor x as bs (by rw [la, lb]), ea x hx, eb x hx]⟩
theorem hor_mul (a x : Nat) : ∀ cs : List Nat, hor (cs.map (mu a)) x = mu a (hor cs x)
  | [] => by simp [hor, mu_zero]
  | c :: cs => by rw [List.map_cons, hor, hor_mul a x cs, hor, mu_xor, ← mu_assoc, mu_comm x a, mu_assoc]
theorem Poly.mul {t : Nat} {f : Nat → Nat} (a : Nat) (h : Poly t f) : Poly t fun x => mu a (f x) := by
  obtain ⟨cs, hl, hc, e⟩ := h
  refine ⟨cs.map (mu a), by simp [hl], fun c h => ?_, fun x hx => by dsimp only; rw [hor_mul, e x hx]⟩
  obtain ⟨d, _, rfl⟩ := List.mem_map.mp h
  exact mu_lt _ _
theorem Poly.shift {t : Nat} {f : Nat → Nat} (h : Poly t f) : Poly (t + 1) fun x => mu x (f x) := by
  obtain ⟨cs, hl, hc, e⟩ := h
  refine ⟨0 :: cs, by simp [hl], fun c h => ?_, fun x hx => by dsimp only; rw [hor, Nat.zero_xor, e x hx]⟩
  rcases List.mem_cons.mp h with rfl | h
  · decide
  · exact hc c h
theorem Poly.lin {t : Nat} {f : Nat → Nat} (a : Nat) (h : Poly t f) : Poly (t + 1) fun x => mu (x ^^^ a) (f x) :=
  (h.shift.xor (h.mul a).pad).congr fun x _ => xor_mu _ _ _
theorem hor_div (a : Nat) : ∀ cs : List Nat, (∀ c ∈ cs, c < 256) → ∃ ds : List Nat, ds.length = cs.length - 1 ∧ (∀ c ∈ ds, c < 256) ∧ ∀ x, hor cs x = hor cs a ^^^ mu (x ^^^ a) (hor ds x)
  | [], _ => ⟨[], rfl, by simp, fun x => by simp [hor, mu_zero]⟩
  | [c], h => ⟨[], rfl, by simp, fun x => by simp [hor, mu_zero]⟩
  | c :: d :: cs, h => by
    obtain ⟨ds, hl, hc, e⟩ := hor_div a (d :: cs) (fun c h' => h c (by simp at h' ⊢; exact .inr h'))
    refine ⟨hor (d :: cs) a :: ds, by rw [List.length_cons, hl]; simp, fun c' h' => ?_, fun x => ?_⟩
    · rcases List.mem_cons.mp h' with rfl | h'
      · exact hor_lt _ _ fun c h' => h c (by simp at h' ⊢; exact .inr h')
      · exact hc c' h'
    · show c ^^^ mu x (hor (d :: cs) x) = (c ^^^ mu a (hor (d :: cs) a)) ^^^ mu (x ^^^ a) (hor (d :: cs) a ^^^ mu x (hor ds x))
      rw [e x]
      generalize hor (d :: cs) a = u
      generalize hor ds x = v
      simp only [mu_xor, xor_mu, ← mu_assoc]
      rw [mu_comm a x]
      generalize mu x u = m1
      generalize mu a u = m2
      generalize mu (mu x x) v = m3
      generalize mu (mu x a) v = m4
      apply Nat.eq_of_testBit_eq; intro i
      simp only [Nat.testBit_xor]
      cases c.testBit i <;> cases m1.testBit i <;> cases m2.testBit i <;> cases m3.testBit i <;> cases m4.testBit i <;> rfl
theorem xor_zero_eq {a b : Nat} (h : a ^^^ b = 0) : a = b := by
  have := congrArg (· ^^^ b) h
  simpa [Nat.xor_assoc] using this
theorem Poly.roots : ∀ (xs : List Nat) {f : Nat → Nat}, Poly xs.length f → xs.Nodup → (∀ x ∈ xs, x < 256 ∧ f x = 0) → ∀ x, x < 256 → f x = 0
  | [], f, ⟨cs, hl, _, e⟩, _, _, x, hx => by
    rw [e x hx, List.length_eq_zero_iff.mp hl]; rfl
  | a :: xs, f, ⟨cs, hl, hc, e⟩, nd, h, x, hx => by
    obtain ⟨ds, dl, dc, de⟩ := hor_div a cs hc
    obtain ⟨ha, fa⟩ := h a (by simp)
    rw [e a ha] at fa
    rw [List.nodup_cons] at nd
    have e2 : ∀ x, x < 256 → f x = mu (x ^^^ a) (hor ds x) := fun x hx => by rw [e x hx, de x, fa, Nat.zero_xor]
    have z := Poly.roots xs (f := hor ds) ⟨ds, by rw [dl, hl]; simp, dc, fun _ _ => rfl⟩ nd.2 (fun y hy => ?_) x hx
    · rw [e2 x hx, z, mu_zero]
    · obtain ⟨hy1, hy2⟩ := h y (by simp [hy])
      refine ⟨hy1, ?_⟩
      rw [e2 y hy1] at hy2
      rcases mu_zero_or hy2 with q | q
      · rw [Nat.mod_eq_of_lt (x256 hy1 ha)] at q
        exact absurd (xor_zero_eq q ▸ hy) nd.1
      · rwa [Nat.mod_eq_of_lt (hor_lt ds y dc)] at q
def pr : List Nat → Nat → Nat
  | [], _ => 1
  | a :: l, x => mu (x ^^^ a) (pr l x)
theorem pr_lt : ∀ (l : List Nat) (x : Nat), pr l x < 256
  | [], _ => by show 1 < 256; decide
  | a :: l, x => mu_lt _ _
theorem pr_poly : ∀ l : List Nat, Poly (l.length + 1) (pr l)
  | [] => Poly.const (by decide)
  | a :: l => (pr_poly l).lin a
theorem pr_zero {x : Nat} : ∀ {l : List Nat}, x ∈ l → pr l x = 0
  | a :: l, h => by
    rw [pr]
    rcases List.mem_cons.mp h with rfl | h
    · rw [Nat.xor_self, zero_mu]
    · rw [pr_zero h, mu_zero]
theorem pr_ex {x : Nat} (hx : x < 256) : ∀ l : List Nat, (∀ a ∈ l, a < 256 ∧ a ≠ x) → exN ((l.map fun a => LG (a ^^^ x)).sum) = pr l x
  | [], _ => by show exN 0 = 1; decide +kernel
  | a :: l, h => by
    obtain ⟨ha, hn⟩ := h a (by simp)
    rw [List.map_cons, List.sum_cons, exN_add, pr_ex hx l (fun b hb => h b (by simp [hb])), exLG _ (x256 ha hx) (fun q => hn (xor_zero_eq q)), pr, Nat.xor_comm]
def xsum {α : Type} (g : α → Nat) : List α → Nat
  | [] => 0
  | a :: l => g a ^^^ xsum g l
theorem xsum_fold {α : Type} (g : α → Nat) : ∀ (l : List α) (r : Nat), l.foldl (fun r q => r ^^^ g q) r = r ^^^ xsum g l
  | [], r => by simp [xsum]
  | a :: l, r => by rw [List.foldl_cons, xsum_fold g l, xsum, Nat.xor_assoc]
theorem hor_rep (x : Nat) : ∀ t, hor (List.replicate t 0) x = 0
  | 0 => rfl
  | t + 1 => by rw [List.replicate_succ, hor, hor_rep x t, mu_zero]; rfl
theorem xsum_poly {α : Type} {t : Nat} {g : α → Nat → Nat} : ∀ l : List α, (∀ a ∈ l, Poly t (g a)) → Poly t fun x => xsum (fun a => g a x) l
  | [], _ => ⟨List.replicate t 0, by simp, fun c h => by rw [(List.mem_replicate.mp h).2]; decide, fun x _ => (hor_rep x t).symm⟩
  | a :: l, h => (h a (by simp)).xor (xsum_poly l fun b hb => h b (by simp [hb]))
theorem xsum_zero {α : Type} {g : α → Nat} : ∀ {l : List α}, (∀ b ∈ l, g b = 0) → xsum g l = 0
  | [], _ => rfl
  | b :: l, h => by rw [xsum, h b (by simp), xsum_zero fun c hc => h c (by simp [hc])]; rfl
theorem xsum_one {g : Nat → Nat} {a : Nat} : ∀ {l : List Nat}, l.Nodup → a ∈ l → (∀ b ∈ l, b ≠ a → g b = 0) → xsum g l = g a
  | b :: l, nd, h, z => by
    rw [List.nodup_cons] at nd
    rcases List.mem_cons.mp h with rfl | h
    · rw [xsum, xsum_zero fun c hc => z c (by simp [hc]) (fun e => nd.1 (e ▸ hc)), Nat.xor_zero]
    · rw [xsum, xsum_one nd.2 h fun c hc => z c (by simp [hc]), z b (by simp) (fun e => nd.1 (e ▸ h)), Nat.zero_xor]
theorem xsum_congr {α : Type} {g g' : α → Nat} : ∀ {l : List α}, (∀ b ∈ l, g b = g' b) → xsum g l = xsum g' l
  | [], _ => rfl
  | b :: l, h => by rw [xsum, xsum, h b (by simp), xsum_congr fun c hc => h c (by simp [hc])]
def lbeX (xs : List Nat) (x0 a : Nat) : Nat := ((((xs.map fun b => LG (b ^^^ x0)).sum : Nat) : Int) - (LG (a ^^^ x0) : Int) - (((xs.map fun b => LG (a ^^^ b)).sum : Nat) : Int)).emod 255 |>.toNat
def cof (xs : List Nat) (a : Nat) : Nat := exZ (-((((xs.erase a).map fun b => LG (b ^^^ a)).sum : Nat) : Int))
theorem sum_erase {xs : List Nat} {a : Nat} (h : a ∈ xs) (f : Nat → Nat) : (xs.map f).sum = f a + ((xs.erase a).map f).sum := by
  rw [((List.perm_cons_erase h).map f).sum_nat, List.map_cons, List.sum_cons]
theorem lbeX_mu {xs : List Nat} {x0 a : Nat} (hx : x0 < 256) (hs : ∀ b ∈ xs, b < 256) (hn : x0 ∉ xs) (ha : a ∈ xs) : exN (lbeX xs x0 a) = mu (cof xs a) (pr (xs.erase a) x0) := by
  have e1 := sum_erase ha fun b => LG (b ^^^ x0)
  have e2 := sum_erase ha fun b => LG (a ^^^ b)
  have e3 : (fun b => LG (a ^^^ b)) = fun b => LG (b ^^^ a) := by funext b; rw [Nat.xor_comm]
  rw [Nat.xor_self, LG0] at e2
  have e4 : lbeX xs x0 a = ((-((((xs.erase a).map fun b => LG (b ^^^ a)).sum : Nat) : Int) + ((((xs.erase a).map fun b => LG (b ^^^ x0)).sum : Nat) : Int)) % 255).toNat := by
    unfold lbeX
    rw [e1, e2, e3]
    show ((_ : Int) % 255).toNat = _
    congr 2
    omega
  rw [e4, ← exZ_mod, exZ_add, exZ_nat, pr_ex hx]
  · rfl
  · exact fun b hb => ⟨hs b (List.mem_of_mem_erase hb), fun e => hn (e ▸ List.mem_of_mem_erase hb)⟩
theorem cof_one {xs : List Nat} {a : Nat} (hs : ∀ b ∈ xs, b < 256) (nd : xs.Nodup) (ha : a ∈ xs) : mu (cof xs a) (pr (xs.erase a) a) = 1 := by
  rw [← pr_ex (hs a ha) _ (fun b hb => ⟨hs b (List.mem_of_mem_erase hb), (nd.mem_erase_iff.mp hb).1⟩), ← exZ_nat]
  unfold cof
  rw [← exZ_add, show ∀ z : Int, -z + z = 0 by omega, exZ_zero]
theorem lagrange {f : Nat → Nat} {xs : List Nat} (hf : Poly xs.length f) (nd : xs.Nodup) (hs : ∀ b ∈ xs, b < 256) {x : Nat} (hx : x < 256) : f x = xsum (fun a => mu (f a) (mu (cof xs a) (pr (xs.erase a) x))) xs := by
  refine xor_zero_eq (Poly.roots xs (f := fun x => f x ^^^ xsum (fun a => mu (f a) (mu (cof xs a) (pr (xs.erase a) x))) xs) (hf.xor (xsum_poly xs fun a ha => ?_)) nd (fun b hb => ⟨hs b hb, ?_⟩) x hx)
  · have p := ((pr_poly (xs.erase a)).mul (cof xs a)).mul (f a)
    rw [List.length_erase_of_mem ha] at p
    have : 0 < xs.length := List.length_pos_of_mem ha
    rwa [show xs.length - 1 + 1 = xs.length by omega] at p
  · show f b ^^^ _ = 0
    rw [xsum_one (a := b) nd hb fun c hc hcb => ?_, cof_one hs nd hb, mu_one (hf.lt (hs b hb)), Nat.xor_self]
    rw [pr_zero (nd.mem_erase_iff.mpr ⟨fun e => hcb e.symm, hb⟩), mu_zero, mu_zero]
theorem lagrange_code {f : Nat → Nat} {xs : List Nat} (hf : Poly xs.length f) (nd : xs.Nodup) (hs : ∀ b ∈ xs, b < 256) {x : Nat} (hx : x < 256) (hn : x ∉ xs) : xsum (fun a => mulB (lbeX xs x a) (f a)) xs = f x := by
  rw [lagrange hf nd hs hx]
  exact xsum_congr fun a ha => by rw [mulB_mu (hf.lt (hs a ha)), lbeX_mu hx hs hn ha]
end
theorem lay_lev7 : True := by
  k_with_none
  k_with "mine stop" => with_reducible first
    | show wpAny _ _ (exec (Stmt.While ..) _) ..
    | show wpAny _ _ (exec (Stmt.For ..) _) ..
    | ((fail_if_success k_extra "mine calls"); show wpAny _ _ (call (Value.ref _) _) ..)
  k_with "mine ext" => ((rename Ext _ _ => eq9); (rename Fr _ _ _ _ => fq9); (rename News _ _ _ _ => nq9); (replace fq9 := frExt fq9 eq9); (replace nq9 := newsExt nq9 eq9); (try k_sweep); clear eq9; (try dsimp only); revert fq9 nq9; intro _ _)
  k_with "mine cx" => exact ⟨Frag.In.keeps (by assumption) (Fr.keep (by assumption)), Top.keeps (by assumption) (Fr.keep (by assumption)), by (try dsimp only [tp, Around.deeper]); omega, by (try dsimp only [tp, Around.deeper]); omega⟩
  k_with "mine list" => first | assumption | exact (by assumption : Heap.IsList _ _ _).at (fun o e => (by assumption : Fr _ _ _ _).keep _ _ e)
  k_with "mine steps" => repeat' ((fail_if_success (k_extra "mine stop")); first | (k_unfold; (try dsimp only)) | (walk1 <;> try ((fail_if_success (with_reducible show wpAny _ _ (subscriptTail ..) ..)); dsimp only)) | (dsimp only; walk1) | fail "no step")
  k_with "mine nat" => first | (with_reducible exact rfl) | k_dflt (exact natlit _) | k_dflt (exact rfl)
  k_with "mine b" => first | with_reducible assumption | decide | assumption | exact Nat.pow_pos (by decide) | omega
  k_with "binaryOp BitXor int int" => (refine' xor_n (by k_extra "mine nat") (by k_extra "mine nat") ?_; try dsimp only)
  k_with "binaryOp BitAnd int int" => (refine' and_n (by k_extra "mine nat") (by k_extra "mine nat") ?_; try dsimp only)
  k_with "binaryOp RShift int int" => (refine' shr_n (by k_extra "mine nat") (by k_extra "mine nat") ?_; try dsimp only)
  k_with "binaryOp LShift int int" => k_dflt (refine' shl_z (by k_extra "mine nat") (by omega) (by omega) (by k_extra "mine b") (by decide) ?_; (try dsimp only))
  k_with "binaryOp LShift int int" => (refine' shl_n (by k_extra "mine nat") (by k_extra "mine nat") (by k_extra "mine b") (by decide) (by k_extra "mine b") ?_; try dsimp only)
  k_with "binaryOp Add int int" => (refine' add_n (by k_extra "mine nat") (by k_extra "mine nat") ?_; try dsimp only)
  k_with "binaryOp Mult int int" => (refine' mul_n (by k_extra "mine nat") (by k_extra "mine nat") (by k_extra "mine b") (by decide) (by k_extra "mine b") (by decide) ?_; try dsimp only)
  k_with "binaryOp FloorDiv int int" => (refine' fdiv_n (by k_extra "mine nat") (by k_extra "mine nat") (by decide) (by decide) ?_; try dsimp only)
  k_with "binaryOp Mod int int" => (refine' mod_z (by k_extra "mine nat") (by k_extra "mine b") ?_; (try dsimp only))
  k_with "binaryOp Mod int int" => (refine' mod_n (by k_extra "mine nat") (by k_extra "mine nat") (by k_extra "mine b") ?_; try dsimp only)
  k_with "binaryOp Sub int int" => (refine' sub_n (by k_extra "mine nat") (by k_extra "mine nat") (by k_extra "mine b") ?_; try dsimp only)
  k_with "binaryOp Pow int int" => (refine' pow_n (by k_extra "mine nat") (by k_extra "mine nat") (by k_extra "mine b") (by k_extra "mine b") ?_; try dsimp only)
  k_with "compareOp Gt int int" => refine' gt_n (by k_extra "mine nat") (by k_extra "mine nat") ?_
  k_with "compareOp Lt int int" => refine' lt_n (by k_extra "mine nat") (by k_extra "mine nat") ?_
  k_with "compareOp Eq int int" => refine' eq_n (by k_extra "mine nat") (by k_extra "mine nat") ?_
  k_with "compareOp NotEq int int" => refine' ne_n (by k_extra "mine nat") (by k_extra "mine nat") ?_
  k_with "mine ret" => (intro _; constructor; intro _ _ _; k_extra "mine ext")
  k_with "mine in" => first | exact me 0 rfl | exact me 1 rfl | exact me 2 rfl | exact me 3 rfl | exact me 4 rfl | exact me 5 rfl | exact me 6 rfl | exact me 7 rfl | exact me 8 rfl | exact me 9 rfl | exact me 10 rfl | exact me 11 rfl | exact me 12 rfl | exact me 13 rfl | exact me 14 rfl | exact me 15 rfl | exact me 16 rfl | exact me 17 rfl | exact me 18 rfl | exact me 19 rfl | (with_reducible refine List.mem_append_right _ ?_; k_extra "mine in") | (with_reducible refine List.mem_append_left _ ?_; k_extra "mine in") | (with_reducible refine List.mem_cons_of_mem _ ?_; k_extra "mine in")
  k_with "mine tail" => first | with_reducible assumption | (with_reducible refine List.mem_cons_of_mem _ ?_; k_extra "mine tail") | (with_reducible refine List.mem_append_right _ ?_; k_extra "mine tail") | (with_reducible refine List.mem_append_left _ ?_; k_extra "mine tail")
  k_with "mine sub" => first | (with_reducible exact List.forall_mem_nil _) | (with_reducible refine fmc (by intros; k_extra "mine in") ?_; k_extra "mine sub") | (with_reducible refine fma ?_ ?_ <;> k_extra "mine sub") | (intro p hp; intros; first | contradiction | k_extra "mine tail")
  k_with "mine omega" => first | ((with_reducible show _ < recursionLimit); first | exact rm0 (by assumption) | exact rq 1 | exact rq 2 | exact rq 3 | exact rq 4 | exact rq 11 | exact rq 21 | exact rq 41 | exact rq2 3) | ((with_reducible show _ < cLine); first | exact rq 3 | exact rq 4 | exact rq 23 | exact rq 43 | exact rq 83 | exact rq 403 | exact rq 61 | exact rq 103 | exact rq2 80) | with_reducible exact sAdd (by decide) | with_reducible exact sAdd2 (by decide)
  k_with "mine ne" => with_reducible first | assumption | exact Ne.symm (by assumption) | exact Nat.ne_of_gt (by assumption) | exact Nat.ne_of_lt (by assumption) | fail ""
  k_with "mine stop" => with_reducible first
    | show Exists _
    | show LCg.CompSrc ..
    | show LCg.CompEnd ..
    | show LoopOn ..
    | show Turned ..
    | show wpAny _ _ (exec (Stmt.While ..) _) ..
    | show wpAny _ _ (exec (Stmt.For ..) _) ..
    | show wpAny _ _ (exec (Stmt.FunctionDef ..) _) ..
    | show wpAny _ _ (eval (Expr.ListComp ..) _) ..
    | show wpAny _ _ (call (Value.builtin "int.to_bytes") _) ..
    | show wpAny _ _ (call (Value.ref _) [Value.bytes .., Value.str ..]) ..
    | ((fail_if_success k_extra "mine calls"); show wpAny _ _ (call (Value.ref (OfNat.ofNat _)) _) ..)
  k_with "eval Name" => (kc_free; (rename News _ _ _ _ => nq9); k_dflt (refine' nameX_F nq9 (by rfl) (by k_mem) (by with_reducible assumption) ?_ (by rfl) (by rfl); k_whole))
  k_with "call builtin:len" => ((rename News _ _ _ _ => nq9); k_dflt (refine' len_news nq9 (by k_mem) (by (simp only [List.length_append, List.length_cons, List.length_nil]; omega)) ?_; k_whole))
  trivial
section
section
variable {prog : Program} {w : World} {A : Around} {s : Shared} {Q E : Value → Shared → Prop}
theorem value_ofB (b : Array UInt8) : KFB.value (KBw.bInts b) = (ofB b : Int) := by
  unfold KFB.value ofB KBw.bInts
  exact (KFB.fold_cast b.toList 0).symm
theorem from_bytes_n {h₀ : Heap} {L x : Addr} {b : Array UInt8} {t u : Tok} {news : List (Addr × Obj)} (N : News h₀ L s.heap news) (hm : (x, KFB.bound) ∈ news) (hl : b.size ≤ 8)
    (h : ∀ t' k, Q (.int (ofB b : Int) t') { s with toks := k }) : wpAny (model prog w) A (call (.ref x) [.bytes b t, .str (PySem.Str.ofString "big") u]) Q E s :=
  KFB.call_big N hm rfl (by rw [KBw.ints_length]; exact hl) fun t' k => by rw [value_ofB]; exact h t' k
theorem mul_zn {x y : Int} {b : Nat} {t u : Tok} (hx : Builtin.Int.intBits x ≤ 2000000) (hy : y = (b : Int)) (hb : b < 2 ^ 200) (h : Q (.int (x * (b : Int)) s.toks) { s with toks := s.toks + 1 }) : wpAny (model prog w) A (binaryOp .Mult (.int x t) (.int y u)) Q E s := by
  subst hy
  refine mul_int h ?_
  have h2 : Builtin.Int.intBits (b : Int) ≤ 200 := intBits_le_iff.mpr (by simpa using hb)
  unfold IntMulOk Builtin.Int.intTooBig
  have e : bitsLine = 134217728 := by decide
  simp only [Bool.and_eq_true, decide_eq_true_eq, e]
  omega
theorem intBits_add5 {x : Int} (hx : Builtin.Int.intBits x ≤ 1048576) : Builtin.Int.intBits (x + 5) ≤ 2000000 := by
  have h1 := intBits_le_iff.mp hx
  refine intBits_le_iff.mpr ?_
  have h2 : (2 : Nat) ^ 1048576 + 5 ≤ 2 ^ 1048577 := by
    have : (5 : Nat) ≤ 2 ^ 1048576 := Nat.le_trans (by decide : 5 ≤ 2 ^ 3) (Nat.pow_le_pow_right (by decide) (by decide))
    rw [show (1048577 : Nat) = 1048576 + 1 from rfl, Nat.pow_succ]; omega
  have h3 : (2 : Nat) ^ 1048577 ≤ 2 ^ 2000000 := Nat.pow_le_pow_right (by decide) (by decide)
  generalize 2 ^ 1048576 = X at *
  generalize 2 ^ 1048577 = Y at *
  generalize 2 ^ 2000000 = Z at *
  omega
end
theorem ofB_foldl_lt : ∀ (l : List UInt8) (a : Nat), l.foldl (fun a c => a * 256 + c.toNat) a < (a + 1) * 256 ^ l.length
  | [], a => by simp
  | c :: l, a => by
    rw [List.foldl_cons, List.length_cons, Nat.pow_succ]
    refine Nat.lt_of_lt_of_le (ofB_foldl_lt l _) ?_
    have h1 : a * 256 + c.toNat + 1 ≤ (a + 1) * 256 := by have := c.toNat_lt; omega
    calc (a * 256 + c.toNat + 1) * 256 ^ l.length ≤ ((a + 1) * 256) * 256 ^ l.length := Nat.mul_le_mul_right _ h1
      _ = (a + 1) * (256 ^ l.length * 256) := by rw [Nat.mul_assoc, Nat.mul_comm 256]
theorem ofB_lt (b : Array UInt8) : ofB b < 256 ^ b.size := by
  have := ofB_foldl_lt b.toList 0
  rw [Array.length_toList] at this
  simpa [ofB] using this
theorem ofB_lt200 {b : Array UInt8} (h : b.size ≤ 8) : ofB b + 3 < 2 ^ 200 := by
  have h1 := ofB_lt b
  have h2 : 256 ^ b.size ≤ 256 ^ 8 := Nat.pow_le_pow_right (by decide) h
  have h3 : (256 : Nat) ^ 8 + 3 < 2 ^ 200 := by decide
  omega
def digF (key : Int) (data secret : Array UInt8) : Nat := ((key * (((ofB data + 3 : Nat)) : Int) + (key + 5) * ((ofB secret : Nat) : Int)) % ((281474976710597 : Nat) : Int)).toNat
def digB (key : Int) (data secret : Array UInt8) : Array UInt8 := toB 6 (digF key data secret)
theorem digF_lt (key : Int) (data secret : Array UInt8) : digF key data secret < 256 ^ 6 := by
  unfold digF
  have h1 := Int.emod_nonneg (key * (((ofB data + 3 : Nat)) : Int) + (key + 5) * ((ofB secret : Nat) : Int)) (show ((281474976710597 : Nat) : Int) ≠ 0 by decide)
  have h2 := Int.emod_lt_of_pos (key * (((ofB data + 3 : Nat)) : Int) + (key + 5) * ((ofB secret : Nat) : Int)) (show (0 : Int) < ((281474976710597 : Nat) : Int) by decide)
  have h3 : (256 : Nat) ^ 6 = 281474976710656 := by decide
  omega
section
variable {w : World} {p : Program} {loose : List Str} {mean : ExcName → Option Value} {mg mb : Str → Option Value} {dp un : Nat} {fr : Option (List Env)} {gd : Option (List Code)} {s : Shared} {Q E : Value → Shared → Prop}
theorem digest_spec (C : Cx w p loose mean mg mb (dp + 3) (un + 40) s.heap) {key : Int} {tk : Tok} {b1 b2 : Array UInt8} {t1 t2 : Tok} (hk : Builtin.Int.intBits key ≤ 1048576) (hb1 : b1.size ≤ 8) (hb2 : b2.size ≤ 8)
    (h : ∀ t, HQ Q (.bytes (digB key b1 b2) t) s) :
    wpAny (model P1 w) (tp dp fr gd un) (call (.ref 223) [.int key tk, .bytes b1 t1, .bytes b2 t2]) Q E s := by
  obtain ⟨X, T, hd, hu⟩ := C
  refine' enter (binds := [("key", .int key tk), ("data", .bytes b1 t1), ("secret", .bytes b2 t2)]) ?k1 ?k2 ?k3 ?k4 ?k5 ?k6 ?k7 ?k8 ?k9 ?k10 ?k11 ?_
  ((case k1 => assumption); (case k2 => exact Top.nolimit (by assumption)); (case k3 | k4 => k_is); (case k5 => (dsimp only; omega)); (case k6 => first | exact BindsTo.of_eq rfl | exact binds_K (by assumption) rfl (by k_is) rfl rfl rfl); (case k7 => exact locs rfl); (case k8 => decide); (case k9 | k10 | k11 => exact rfl); k_whole; intro hh9 FF9 NN9; (dsimp only [List.reverse, List.reverseAux] at FF9); (try dsimp only))
  k_extra "mine steps"
  rename News _ _ _ _ => N1
  refine from_bytes_n N1 (by k_mem) hb1 fun _ _ => ?_
  k_extra "mine steps"
  refine mul_zn (b := ofB b1 + 3) (Nat.le_trans hk (by decide)) rfl (ofB_lt200 hb1) ?_
  k_extra "mine steps"
  rename News _ _ _ _ => N1
  refine from_bytes_n N1 (by k_mem) hb2 fun _ _ => ?_
  k_extra "mine steps"
  refine mul_zn (b := ofB b2) (intBits_add5 hk) rfl (Nat.lt_of_le_of_lt (Nat.le_add_right _ 3) (ofB_lt200 hb2)) ?_
  k_extra "mine steps"
  refine to_bytes_n (x := digF key b1 b2) (n := 6) rfl rfl (by decide) (digF_lt _ _ _) fun _ _ => ?_
  k_extra "mine steps"
  rename Fr _ _ _ _ => F3
  exact (h _).get _ _ F3.keep
end
end
section
open LCg
section
variable {prog : Program} {w : World} {A : Around} {E : Value → Shared → Prop} {s : Shared} {h₀ : Heap} {L : Addr} {m : Str → Option Value} {env : Env} {elt : Expr} {x : Str} {scope : Scope} {cl : List (Str × Addr)}
theorem CompEnd.mono {s₁ : Shared} {I C D : Addr} {oI oC oD : Obj} {S : List (Addr × Obj) → Prop} {r r' : Value → List (Addr × Obj) → Prop} {y : Value} {s₂ : Shared} (h : CompEnd h₀ L m s₁ I oI C oC D oD S r y s₂) (k : ∀ y n, r y n → r' y n) : CompEnd h₀ L m s₁ I oI C oC D oD S r' y s₂ :=
  let ⟨h', tk, n, e, F, N, o, hS, hr⟩ := h; ⟨h', tk, n, e, F, N, o, hS, k _ _ hr⟩
def Elem (prog : Program) (w : World) (A : Around) (h₀ : Heap) (L : Addr) (m : Str → Option Value) (env : Env) (elt : Expr) (x : Str) (scope : Scope) (cl : List (Str × Addr)) (s : Shared) (S : List (Addr × Obj) → Prop) (P : Nat → Value → Prop) (n : Nat) (J : Nat → List Value → List (Addr × Obj) → Prop) : Prop :=
  ∀ i ys news v I oI C oC D m₂ h tk (E' : Value → Shared → Prop), i < n → ys.length = i → J i ys news → P i v → S news → NsObj oC m₂ → m₂ x = some v → Fr h₀ L h m → News h₀ L h ((I, oI) :: (C, oC) :: (D, lst ys) :: news) → Off3 I C D news → ((@Ne Nat I C) ∧ (@Ne Nat I D) ∧ (@Ne Nat C D)) →
    wpAny (model prog w) A (eval elt (compEnvC scope cl C env)) (CompEnd h₀ L m { s with heap := h, toks := tk } I oI C oC D (lst ys) S (fun y news' => J (i + 1) (ys ++ [y]) news')) E' { s with heap := h, toks := tk }
theorem rest_of {S : List (Addr × Obj) → Prop} {P : Nat → Value → Prop} {n : Nat} {J : Nat → List Value → List (Addr × Obj) → Prop} {Fin : List Value → List (Addr × Obj) → Prop} (el : Elem prog w A h₀ L m env elt x scope cl s S P n J) (fin : ∀ ys news, ys.length = n → J n ys news → Fin ys news) :
    ∀ k i ys news, i + k = n → ys.length = i → S news → J i ys news → CompRest prog w A h₀ L m env elt x scope cl s S P Fin k i ys news
  | 0, i, ys, news, e, hl, hS, hJ => by
    rw [Nat.add_zero] at e; subst e
    exact CompRest.zero (fin _ _ hl hJ)
  | k + 1, i, ys, news, e, hl, hS, hJ => by
    refine CompRest.succ fun v I oI C oC D m₂ h tk E' hP hC hx F N o3 ne => ?_
    refine wpAny_mono (el i ys news v I oI C oC D m₂ h tk E' (by omega) hl hJ hP hS hC hx F N o3 ne) (fun y s₂ hE => ?_) fun _ _ e => e
    obtain ⟨h', tk', n', e', F', N', o', hS', hr⟩ := hE
    exact ⟨h', tk', n', e', F', N', o', hS', rest_of el fin k (i + 1) _ n' (by omega) (by simp [hl]) hS' hr⟩
theorem src_range {Fin : Shared → List Value → List (Addr × Obj) → Prop} {r : Addr} {a b : Int} {t u v : Tok} {n : Nat} {news : List (Addr × Obj)} {s₁ : Shared} (J : Nat → List Value → List (Addr × Obj) → Prop)
    (hh : A.handled = none) (F : Fr h₀ L s₁.heap m) (N : News h₀ L s₁.heap news) (hr : IsRange s₁.heap r a b 1 t u v) (ha : -1000 ≤ a ∧ a ≤ 1000) (hb : -1000 ≤ b ∧ b ≤ 1000) (hn : n = (b - a).toNat) (J0 : J 0 [] news)
    (el : ∀ g, Elem prog w A h₀ L m env elt x scope cl { s₁ with heap := g } (fun _ => True) (fun i v => ∃ t, v = .int (a + (i : Int)) t) n J)
    (fin : ∀ g ys news, ys.length = n → J n ys news → Fin { s₁ with heap := g } ys news) :
    CompSrc prog w A h₀ L m env elt x scope cl Fin (.ref r) s₁ := by
  subst hn
  refine CompSrc.range (n := (b - a).toNat) hh F N hr (small_one (by omega) (by omega) (by omega) (by omega)) ?_ (by rw [sizeLine_eq]; omega) fun g => rest_of (el g) (fin g) _ 0 [] news (by omega) rfl trivial J0
  rw [rangeSize_one]; split <;> omega
theorem src_base {Fin : Shared → List Value → List (Addr × Obj) → Prop} {ax : Addr} {its : Array Value} {news : List (Addr × Obj)} {s₁ : Shared} (J : Nat → List Value → List (Addr × Obj) → Prop)
    (hh : A.handled = none) (F : Fr h₀ L s₁.heap m) (N : News h₀ L s₁.heap news) (hl : h₀.IsList ax its) (hsz : its.size ≤ 1000) (J0 : J 0 [] news)
    (el : ∀ g, Elem prog w A h₀ L m env elt x scope cl { s₁ with heap := g } (SrcAt h₀ ax its) (fun i v => its[i]? = some v) its.size J)
    (fin : ∀ g ys news, ys.length = its.size → J its.size ys news → Fin { s₁ with heap := g } ys news) :
    CompSrc prog w A h₀ L m env elt x scope cl Fin (.ref ax) s₁ :=
  CompSrc.base hh F N hl (by rw [sizeLine_eq]; omega) fun g => rest_of (el g) (fin g) _ 0 [] news (by omega) rfl (.inl hl) J0
theorem src_news {Fin : Shared → List Value → List (Addr × Obj) → Prop} {ax : Addr} {its : List Value} {news : List (Addr × Obj)} {k : Nat} {s₁ : Shared} (J : Nat → List Value → List (Addr × Obj) → Prop)
    (hh : A.handled = none) (F : Fr h₀ L s₁.heap m) (N : News h₀ L s₁.heap news) (hm : (ax, ({ cls := .type "list", data := .seq its.toArray k } : Obj)) ∈ news) (hsz : its.length ≤ 1000) (J0 : J 0 [] news)
    (el : ∀ g, Elem prog w A h₀ L m env elt x scope cl { s₁ with heap := g } (SrcAt h₀ ax its.toArray) (fun i v => its[i]? = some v) its.length J)
    (fin : ∀ g ys news, ys.length = its.length → J its.length ys news → Fin { s₁ with heap := g } ys news) :
    CompSrc prog w A h₀ L m env elt x scope cl Fin (.ref ax) s₁ := by
  refine CompSrc.ledger hh F N hm (by rw [sizeLine_eq]; simp; omega) fun g => ?_
  have e : (fun (i : Nat) (v : Value) => its.toArray[i]? = some v) = (fun i v => its[i]? = some v) := by funext i v; simp
  rw [e, List.size_toArray]
  exact rest_of (el g) (fin g) _ 0 [] news (by omega) rfl (.inr ⟨_, hm, rfl, _, rfl⟩) J0
theorem elem_end {s₁ : Shared} {I C D : Addr} {oI oC : Obj} {ys : List Value} {news all : List (Addr × Obj)} {S : List (Addr × Obj) → Prop} {r : Value → List (Addr × Obj) → Prop} {y : Value} {h' : Heap} {tk : Nat}
    (F : Fr h₀ L h' m) (N : News h₀ L h' all) (sub : ∀ p ∈ (I, oI) :: (C, oC) :: (D, lst ys) :: news, p ∈ all) (o3 : Off3 I C D news) (hS : S news) (hr : r y news) : CompEnd h₀ L m s₁ I oI C oC D (lst ys) S r y { s₁ with heap := h', toks := tk } :=
  CompEnd.intro F N news sub o3 hS hr
end
theorem snoc_get {α : Type} {ys : List α} {i j : Nat} (hl : ys.length = i) (y : α) (hj : j < i + 1) : (j < i ∧ (ys ++ [y])[j]? = ys[j]?) ∨ (j = i ∧ (ys ++ [y])[j]? = some y) := by
  subst hl
  by_cases h : j < ys.length
  · exact .inl ⟨h, List.getElem?_append_left h⟩
  · have : j = ys.length := by omega
    subst this
    exact .inr ⟨rfl, by simp⟩
structure LQ (Q : Value → Shared → Prop) (ys : List Value) (s : Shared) : Prop where
  get : ∀ D h' tk, Ext s.heap h' → s.heap.get? D = none → h'.get? D = some (lst ys) → Q (.ref D) { s with heap := h', toks := tk }
def bytesVals (l : List (Array UInt8 × Tok)) : List Value := l.map fun p => .bytes p.1 p.2
section
variable {w : World} {p : Program} {loose : List Str} {mean : ExcName → Option Value} {mg mb : Str → Option Value} {dp un : Nat} {fr : Option (List Env)} {gd : Option (List Code)} {s : Shared} {Q E : Value → Shared → Prop}
theorem rows_spec (C : Cx w p loose mean mg mb (dp + 3) (un + 40) s.heap) {l : Addr} {ps : List (Nat × Tok)} {n : Nat} {tn : Tok} (hl : s.heap.IsList l (natVals ps)) (hp : ∀ q ∈ ps, q.1 < 256 ^ n) (hn : n ≤ 20) (hlen : ps.length ≤ 100)
    (hQ : ∀ ys : List Value, ys.length = ps.length → (∀ (i : Nat) (q : Nat × Tok), ps[i]? = some q → ∃ t, ys[i]? = some (Value.bytes (toB n q.1) t)) → LQ Q ys s) :
    wpAny (model P1 w) (tp dp fr gd un) (call (.ref 242) [.ref l, .int n tn]) Q E s := by
  obtain ⟨X, T, hd, hu⟩ := C
  refine' enterC (S := []) (news := []) (binds := [("rows", .ref l), ("size", .int n tn)]) ?k1 ?k2 ?k3 ?k4 ?k5 ?k6 ?k7 ?k8 ?kN ?k9 ?k10 ?k11 ?_
  case kN => exact fun p hp => nomatch hp
  ((try (case k1 => assumption)); (try (case k2 => exact Top.nolimit (by assumption))); (case k3 | k4 => k_is); (case k5 => (dsimp only; omega)); (try (case k6 => first | exact BindsTo.of_eq rfl | exact binds_K (by assumption) rfl (by k_is) rfl rfl rfl)); (case k8 => decide +kernel); (case k7 | k9 | k10 | k11 => exact rfl))
  k_whole
  intro h₁ tk cells F1 N1 Y
  obtain ⟨oc, hcE, dc⟩ := CellsAre.one Y
  subst hcE
  clear Y
  replace dc : oc.data = .cell (some (.int (n : Int) tn)) := dc
  obtain ⟨m, hm, F2⟩ : ∃ m, AllAt m [(Str.ofString "rows", Value.ref l)] ∧ Fr s.heap s.heap.objs.size h₁ m := ⟨_, ⟨rfl, trivial⟩, F1⟩
  clear F1
  replace F2 := frOv F2 hm
  replace N1 : News s.heap s.heap.objs.size h₁ [(s.heap.objs.size + 1, oc)] := N1
  k_extra "mine steps"
  (refine' LCg.ListComp_U (F₀ := ?cF_1) ?c1_1 ?c2_1 ?c3_1 ?c4_1 ?c5_1 ?_; (case cF_1 => k_asm); (case c1_1 => with_unfolding_all rfl); (case c2_1 | c4_1 => decide); (case c3_1 | c5_1 => rfl))
  k_extra "mine steps"
  rename Fr _ _ _ _ => F3
  rename News _ _ _ _ => N3
  refine src_base (fun i ys news => news = [(s.heap.objs.size + 1, oc)] ∧ ∀ (j : Nat) (q : Nat × Tok), j < i → ps[j]? = some q → ∃ t, ys[j]? = some (Value.bytes (toB n q.1) t)) rfl F3 N3 hl (by rw [natVals_size]; omega) ⟨rfl, fun j q h => absurd h (Nat.not_lt_zero _)⟩ (fun g => ?_) (fun g ys news hl' ⟨hn', hys⟩ => ?_)
  · intro i ys news v I oI C oC D m₂ h tk E' hi hyl p90 hP hS hC hx F4 N4 o3 ne
    obtain ⟨rfl, hys⟩ := p90
    refine genQ fun QC hQC => ?_
    obtain ⟨q, hq, rfl⟩ := natVals_at hP
    clear F3 N3
    k_extra "mine steps"
    refine to_bytes_n (x := q.1) (n := n) rfl rfl (by omega) (hp q (List.mem_of_getElem? hq)) fun t' k' => ?_
    k_extra "mine steps"
    refine hQC _ _ ?_
    refine CompEnd.intro F4 N4 [(s.heap.objs.size + 1, oc)] (fun _ hp => hp) o3 hS ⟨rfl, fun j q2 hj hq2 => ?_⟩
    rcases snoc_get hyl (Value.bytes (toB n q.1) t') hj with ⟨h1, h2⟩ | ⟨rfl, h2⟩
    · rw [h2]; exact hys j q2 h1 hq2
    · rw [hq] at hq2; cases hq2
      exact ⟨_, h2⟩
  · subst hn'
    intro D h tk F4 N4 o1
    refine (hQ ys (by rw [hl', natVals_size]) (fun i q hq => ?_)).get D h tk F4.keep (N4 (D, _) (.head _)).2.2 (N4 (D, _) (.head _)).1
    exact hys i q (by rw [natVals_size]; exact (List.getElem?_eq_some_iff.mp hq).1) hq
end
end
section
section
variable {w : World} {p : Program} {loose : List Str} {mean : ExcName → Option Value} {mg mb : Str → Option Value} {dp un : Nat} {fr : Option (List Env)} {gd : Option (List Code)} {s : Shared} {Q E : Value → Shared → Prop}
theorem times_spec' (C : Cx w p loose mean mg mb (dp + 1) (un + 20) s.heap) {a r o : Nat} {x y z : Int} {t1 t2 t3 : Tok} (hx : x = (a : Int)) (hy : y = (r : Int)) (hz : z = (o : Int)) (ha : a < 256) (hr : r < 2 ^ 200) (ho : o < 2 ^ 200)
    (h : ∀ t, HQ Q (.int (gt a r o : Nat) t) s) :
    wpAny (model P1 w) (tp dp fr gd un) (call (.ref 195) [.int x t1, .int y t2, .int z t3]) Q E s := by
  subst hx hy hz
  exact times_spec C ha hr ho h
end
theorem lay_A5_CALL3 : True := by
  k_with "mine calls" => with_reducible first
    | show wpAny _ _ (call (Value.ref 181) _) ..
    | show wpAny _ _ (call (Value.ref 188) _) ..
    | show wpAny _ _ (call (Value.ref 195) _) ..
    | show wpAny _ _ (call (Value.ref 223) _) ..
  k_with "call ref" => ((with_reducible show wpAny _ _ (call (Value.ref 195) _) ..); k_dflt (refine' times_spec' (by k_extra "mine cx") (by k_extra "mine nat") (by k_extra "mine nat") (by k_extra "mine nat") (by k_extra "mine b") (by k_extra "mine b") (by k_extra "mine b") ?_; k_extra "mine ret"))
  trivial
theorem gt_lt {a r o k : Nat} (h : r < 2 ^ k) : gt a r o < 2 ^ (k + 8) := gtS_lt 8 a r o 0 k h (Nat.pow_pos (by decide))
def freeF (x ones : Nat) : List Nat → Nat → Nat := fun l f => l.foldl (fun f r => gt x f ones ^^^ r) f
theorem freeF_lt {x ones : Nat} : ∀ (l : List Nat) (f k : Nat), 64 ≤ k → f < 2 ^ k → (∀ r ∈ l, r < 2 ^ 64) → freeF x ones l f < 2 ^ (k + 8 * l.length)
  | [], f, k, _, hf, _ => hf
  | r :: l, f, k, hk, hf, hl => by
    have h1 : gt x f ones ^^^ r < 2 ^ (k + 8) := Nat.xor_lt_two_pow (gt_lt hf) (Nat.lt_of_lt_of_le (hl r (by simp)) (Nat.pow_le_pow_right (by decide) (by omega)))
    have := freeF_lt (x := x) (ones := ones) l _ (k + 8) (by omega) h1 fun r hr => hl r (by simp [hr])
    rw [List.length_cons, show k + 8 * (l.length + 1) = k + 8 + 8 * l.length by omega]
    exact this
theorem freeF_snoc (x ones : Nat) (l : List Nat) (f r : Nat) : freeF x ones (l ++ [r]) f = gt x (freeF x ones l f) ones ^^^ r := by simp [freeF]
def shareF (secret digest : Nat) (rows : List Nat) (x ones : Nat) : Nat :=
  (secret ^^^ gt (x ^^^ 255) (secret ^^^ digest) ones) ^^^ (match rows with
    | [] => 0
    | r :: l => gt (gt (x ^^^ 255) (x ^^^ 254) 1) (freeF x ones l r) ones)
section
variable {w : World} {p : Program} {loose : List Str} {mean : ExcName → Option Value} {mg mb : Str → Option Value} {dp un : Nat} {fr : Option (List Env)} {gd : Option (List Code)} {s : Shared} {Q E : Value → Shared → Prop}
theorem share_spec (C : Cx w p loose mean mg mb (dp + 3) (un + 40) s.heap) {l : Addr} {ps : List (Nat × Tok)} {sc dg x on : Nat} {t1 t2 t3 t4 : Tok} (hl : s.heap.IsList l (natVals ps)) (hp : ∀ q ∈ ps, q.1 < 2 ^ 64) (hlen : ps.length ≤ 4)
    (hs : sc < 2 ^ 64) (hd : dg < 2 ^ 64) (hx : x < 256) (ho : on < 2 ^ 64)
    (h : ∀ t, HQ Q (.int (shareF sc dg (ps.map (·.1)) x on : Nat) t) s) :
    wpAny (model P1 w) (tp dp fr gd un) (call (.ref 216) [.int sc t1, .int dg t2, .ref l, .int x t3, .int on t4]) Q E s := by
  obtain ⟨X, T, hdp, hu⟩ := C
  refine' enter (binds := [("secret", .int sc t1), ("digest", .int dg t2), ("rows", .ref l), ("x", .int x t3), ("ones", .int on t4)]) ?k1 ?k2 ?k3 ?k4 ?k5 ?k6 ?k7 ?k8 ?k9 ?k10 ?k11 ?_
  ((case k1 => assumption); (case k2 => exact Top.nolimit (by assumption)); (case k3 | k4 => k_is); (case k5 => (dsimp only; omega)); (case k6 => first | exact BindsTo.of_eq rfl | exact binds_K (by assumption) rfl (by k_is) rfl rfl rfl); (case k7 => exact locs rfl); (case k8 => decide); (case k9 | k10 | k11 => exact rfl); k_whole; intro hh9 FF9 NN9; (dsimp only [List.reverse, List.reverseAux] at FF9); (try dsimp only))
  have b1 : x ^^^ 255 < 256 := Nat.xor_lt_two_pow (n := 8) hx (by decide)
  have b1' : x ^^^ 254 < 256 := Nat.xor_lt_two_pow (n := 8) hx (by decide)
  have b2 : sc ^^^ dg < 2 ^ 200 := Nat.lt_of_lt_of_le (Nat.xor_lt_two_pow hs hd) (by decide)
  have b3 : on < 2 ^ 200 := by omega
  have b4 : x ^^^ 254 < 2 ^ 200 := by omega
  k_extra "mine steps"
  rename Fr _ _ _ _ => F1
  refine len_list (hl.at fun o e => F1.keep _ o e) (by rw [natVals_size]; omega) ?_
  rw [natVals_size]
  cases ps with
  | nil =>
    k_extra "mine steps"
    rename Fr _ _ _ _ => F3
    have e : sc ^^^ gt (x ^^^ 255) (sc ^^^ dg) on = shareF sc dg ([].map fun q : Nat × Tok => q.1) x on := by simp [shareF]
    rw [e]
    exact (h _).get _ _ F3.keep
  | cons q qs =>
    k_extra "mine steps"
    (refine for_on ?_; k_extra "mine steps")
    · rename News _ _ _ _ => N2
      rename Fr _ _ _ _ => F2
      have es : slicePick (natVals (q :: qs)) (some 1) none none = (qs.map fun p => Value.int (p.1 : Int) p.2).toArray := by
        rw [show (1 : Int) = ((1 : Nat) : Int) from rfl, slicePick_from']; rfl
      rw [es] at N2
      dsimp only at N2 ⊢
      obtain ⟨m, tk9, hm, ⟨uf, hf⟩, F3⟩ : ∃ m tk9, AllAt m [("told", .int (sc ^^^ gt (x ^^^ 255) (sc ^^^ dg) on : Nat) tk9), ("x", .int x t3), ("ones", .int on t4)] ∧ (∃ u, m "free" = some (.int (freeF x on ((qs.take 0).map (·.1)) q.1 : Nat) u)) ∧ Fr s.heap s.heap.objs.size _ m := ⟨_, _, ⟨rfl, rfl, rfl, trivial⟩, ⟨_, rfl⟩, F2⟩
      clear F2
      rename News _ _ _ _ => N2
      refine loop_list (items := qs.map fun p => Value.int (p.1 : Int) p.2) (fun i m₁ n₁ gs₁ dr₁ => AllAt m₁ [("told", .int (sc ^^^ gt (x ^^^ 255) (sc ^^^ dg) on : Nat) tk9), ("x", .int x t3), ("ones", .int on t4)] ∧ (∃ u, m₁ "free" = some (.int (freeF x on ((qs.take i).map (·.1)) q.1 : Nat) u)) ∧ n₁ = _ ∧ gs₁ = s.gens ∧ dr₁ = s.drawn) rfl F3 N2 ?_ rfl ⟨hm, ⟨uf, hf⟩, rfl, rfl, rfl⟩ ?_ ?_
      · rintro i m₁ n₁ gs₁ dr₁ h₁ ⟨_, _, rfl, _⟩ F N
        exact ⟨_, (N _ (.head _)).1, rfl, _, rfl⟩
      · intro E' T9 i v m₁ n₁ gs₁ dr₁ h₁ tk₁ I oI hi hP hJ9 hap hap0 hLI F4 N4 hT9
        obtain ⟨hm₁, ⟨u, hf₁⟩, rfl, rfl, rfl⟩ := hJ9
        rw [List.getElem?_map, Option.map_eq_some_iff] at hP
        obtain ⟨q2, hq2, rfl⟩ := hP
        refine wpAny_pure ?_
        clear F3 N2
        have bf : freeF x on ((qs.take i).map (·.1)) q.1 < 2 ^ 200 := by
          refine Nat.lt_of_lt_of_le (freeF_lt _ _ 64 (Nat.le_refl _) (hp q (by simp)) fun r hr => ?_) (Nat.pow_le_pow_right (by decide) ?_)
          · obtain ⟨z, hz, rfl⟩ := List.mem_map.mp hr
            exact hp z (List.mem_cons_of_mem _ (List.mem_of_mem_take hz))
          · rw [List.length_map, List.length_take]
            rw [List.length_cons] at hlen
            omega
        replace F4 := frOv F4 (l := [("told", .int (sc ^^^ gt (x ^^^ 255) (sc ^^^ dg) on : Nat) tk9), ("x", .int x t3), ("ones", .int on t4), ("free", .int (freeF x on ((qs.take i).map (·.1)) q.1 : Nat) u)]) ⟨hm₁.1, hm₁.2.1, hm₁.2.2.1, hf₁, trivial⟩
        k_extra "mine steps"
        rename Fr _ _ _ _ => F5
        rename News _ _ _ _ => N5
        have e : gt x (freeF x on ((qs.take i).map (·.1)) q.1) on ^^^ q2.1 = freeF x on ((qs.take (i + 1)).map (·.1)) q.1 := by
          rw [List.take_add_one, hq2, Option.toList_some, List.map_append, List.map_cons, List.map_nil, freeF_snoc]
        rw [e] at F5
        exact hT9 _ _ ⟨_, _, _, _, _, _, rfl, F5, N5, hap, ⟨rfl, rfl, rfl, trivial⟩, ⟨_, rfl⟩, rfl, rfl, rfl⟩
      · rintro h' tk' gs' dr' m₁ n₁ F4 N4 ⟨hm₁, ⟨u, hf₁⟩, rfl, rfl, rfl⟩
        rw [List.length_map, List.take_length] at hf₁
        clear F3 N2
        have bf : freeF x on (qs.map (·.1)) q.1 < 2 ^ 200 := by
          refine Nat.lt_of_lt_of_le (freeF_lt _ _ 64 (Nat.le_refl _) (hp q (by simp)) fun r hr => ?_) (Nat.pow_le_pow_right (by decide) ?_)
          · obtain ⟨z, hz, rfl⟩ := List.mem_map.mp hr
            exact hp z (List.mem_cons_of_mem _ hz)
          · rw [List.length_map]
            rw [List.length_cons] at hlen
            omega
        have bg : gt (x ^^^ 255) (x ^^^ 254) 1 < 256 := gt1_lt _ _ b1'
        replace F4 := frOv F4 (l := [("told", .int (sc ^^^ gt (x ^^^ 255) (sc ^^^ dg) on : Nat) tk9), ("x", .int x t3), ("ones", .int on t4), ("free", .int (freeF x on (qs.map (·.1)) q.1 : Nat) u)]) ⟨hm₁.1, hm₁.2.1, hm₁.2.2.1, hf₁, trivial⟩
        k_extra "mine steps"
        rename Fr _ _ _ _ => F5
        exact (h _).get _ _ F5.keep
    · exact absurd (Nat.succ_pos _) (by assumption)
end
end
theorem lay_lev8 : True := by
  k_with_none
  k_with "mine stop" => with_reducible first
    | show wpAny _ _ (exec (Stmt.While ..) _) ..
    | show wpAny _ _ (exec (Stmt.For ..) _) ..
    | ((fail_if_success k_extra "mine calls"); show wpAny _ _ (call (Value.ref _) _) ..)
  k_with "mine ext" => ((rename Ext _ _ => eq9); (rename Fr _ _ _ _ => fq9); (rename News _ _ _ _ => nq9); (replace fq9 := frExt fq9 eq9); (replace nq9 := newsExt nq9 eq9); (try k_sweep); clear eq9; (try dsimp only); revert fq9 nq9; intro _ _)
  k_with "mine cx" => exact ⟨Frag.In.keeps (by assumption) (Fr.keep (by assumption)), Top.keeps (by assumption) (Fr.keep (by assumption)), by (try dsimp only [tp, Around.deeper]); omega, by (try dsimp only [tp, Around.deeper]); omega⟩
  k_with "mine list" => first | assumption | exact (by assumption : Heap.IsList _ _ _).at (fun o e => (by assumption : Fr _ _ _ _).keep _ _ e)
  k_with "mine steps" => repeat' ((fail_if_success (k_extra "mine stop")); first | (k_unfold; (try dsimp only)) | (walk1 <;> try ((fail_if_success (with_reducible show wpAny _ _ (subscriptTail ..) ..)); dsimp only)) | (dsimp only; walk1) | fail "no step")
  k_with "mine nat" => first | (with_reducible exact rfl) | k_dflt (exact natlit _) | k_dflt (exact rfl)
  k_with "mine b" => first | with_reducible assumption | decide | assumption | exact Nat.pow_pos (by decide) | omega
  k_with "binaryOp BitXor int int" => (refine' xor_n (by k_extra "mine nat") (by k_extra "mine nat") ?_; try dsimp only)
  k_with "binaryOp BitAnd int int" => (refine' and_n (by k_extra "mine nat") (by k_extra "mine nat") ?_; try dsimp only)
  k_with "binaryOp RShift int int" => (refine' shr_n (by k_extra "mine nat") (by k_extra "mine nat") ?_; try dsimp only)
  k_with "binaryOp LShift int int" => k_dflt (refine' shl_z (by k_extra "mine nat") (by omega) (by omega) (by k_extra "mine b") (by decide) ?_; (try dsimp only))
  k_with "binaryOp LShift int int" => (refine' shl_n (by k_extra "mine nat") (by k_extra "mine nat") (by k_extra "mine b") (by decide) (by k_extra "mine b") ?_; try dsimp only)
  k_with "binaryOp Add int int" => (refine' add_n (by k_extra "mine nat") (by k_extra "mine nat") ?_; try dsimp only)
  k_with "binaryOp Mult int int" => (refine' mul_n (by k_extra "mine nat") (by k_extra "mine nat") (by k_extra "mine b") (by decide) (by k_extra "mine b") (by decide) ?_; try dsimp only)
  k_with "binaryOp FloorDiv int int" => (refine' fdiv_n (by k_extra "mine nat") (by k_extra "mine nat") (by decide) (by decide) ?_; try dsimp only)
  k_with "binaryOp Mod int int" => (refine' mod_z (by k_extra "mine nat") (by k_extra "mine b") ?_; (try dsimp only))
  k_with "binaryOp Mod int int" => (refine' mod_n (by k_extra "mine nat") (by k_extra "mine nat") (by k_extra "mine b") ?_; try dsimp only)
  k_with "binaryOp Sub int int" => (refine' sub_n (by k_extra "mine nat") (by k_extra "mine nat") (by k_extra "mine b") ?_; try dsimp only)
  k_with "binaryOp Pow int int" => (refine' pow_n (by k_extra "mine nat") (by k_extra "mine nat") (by k_extra "mine b") (by k_extra "mine b") ?_; try dsimp only)
  k_with "compareOp Gt int int" => refine' gt_n (by k_extra "mine nat") (by k_extra "mine nat") ?_
  k_with "compareOp Lt int int" => refine' lt_n (by k_extra "mine nat") (by k_extra "mine nat") ?_
  k_with "compareOp Eq int int" => refine' eq_n (by k_extra "mine nat") (by k_extra "mine nat") ?_
  k_with "compareOp NotEq int int" => refine' ne_n (by k_extra "mine nat") (by k_extra "mine nat") ?_
  k_with "mine ret" => (intro _; constructor; intro _ _ _; k_extra "mine ext")
  k_with "mine in" => first | exact me 0 rfl | exact me 1 rfl | exact me 2 rfl | exact me 3 rfl | exact me 4 rfl | exact me 5 rfl | exact me 6 rfl | exact me 7 rfl | exact me 8 rfl | exact me 9 rfl | exact me 10 rfl | exact me 11 rfl | exact me 12 rfl | exact me 13 rfl | exact me 14 rfl | exact me 15 rfl | exact me 16 rfl | exact me 17 rfl | exact me 18 rfl | exact me 19 rfl | (with_reducible refine List.mem_append_right _ ?_; k_extra "mine in") | (with_reducible refine List.mem_append_left _ ?_; k_extra "mine in") | (with_reducible refine List.mem_cons_of_mem _ ?_; k_extra "mine in")
  k_with "mine tail" => first | with_reducible assumption | (with_reducible refine List.mem_cons_of_mem _ ?_; k_extra "mine tail") | (with_reducible refine List.mem_append_right _ ?_; k_extra "mine tail") | (with_reducible refine List.mem_append_left _ ?_; k_extra "mine tail")
  k_with "mine sub" => first | (with_reducible exact List.forall_mem_nil _) | (with_reducible refine fmc (by intros; k_extra "mine in") ?_; k_extra "mine sub") | (with_reducible refine fma ?_ ?_ <;> k_extra "mine sub") | (intro p hp; intros; first | contradiction | k_extra "mine tail")
  k_with "mine omega" => first | ((with_reducible show _ < recursionLimit); first | exact rm0 (by assumption) | exact rq 1 | exact rq 2 | exact rq 3 | exact rq 4 | exact rq 11 | exact rq 21 | exact rq 41 | exact rq2 3) | ((with_reducible show _ < cLine); first | exact rq 3 | exact rq 4 | exact rq 23 | exact rq 43 | exact rq 83 | exact rq 403 | exact rq 61 | exact rq 103 | exact rq2 80) | with_reducible exact sAdd (by decide) | with_reducible exact sAdd2 (by decide)
  k_with "mine ne" => with_reducible first | assumption | exact Ne.symm (by assumption) | exact Nat.ne_of_gt (by assumption) | exact Nat.ne_of_lt (by assumption) | fail ""
  k_with "mine stop" => with_reducible first
    | show Exists _
    | show LCg.CompSrc ..
    | show LCg.CompEnd ..
    | show LoopOn ..
    | show Turned ..
    | show wpAny _ _ (exec (Stmt.While ..) _) ..
    | show wpAny _ _ (exec (Stmt.For ..) _) ..
    | show wpAny _ _ (exec (Stmt.FunctionDef ..) _) ..
    | show wpAny _ _ (eval (Expr.ListComp ..) _) ..
    | show wpAny _ _ (call (Value.builtin "int.to_bytes") _) ..
    | show wpAny _ _ (call (Value.ref _) [Value.bytes .., Value.str ..]) ..
    | ((fail_if_success k_extra "mine calls"); show wpAny _ _ (call (Value.ref (OfNat.ofNat _)) _) ..)
  k_with "eval Name" => (kc_free; (rename News _ _ _ _ => nq9); k_dflt (refine' nameX_F nq9 (by rfl) (by k_mem) (by with_reducible assumption) ?_ (by rfl) (by rfl); k_whole))
  k_with "call builtin:len" => ((rename News _ _ _ _ => nq9); k_dflt (refine' len_news nq9 (by k_mem) (by (simp only [List.length_append, List.length_cons, List.length_nil]; omega)) ?_; k_whole))
  trivial
section
open LCg (lst)
theorem lay_Ch_own0 : True := by
  k_with "mine stop" => first
    | (with_reducible show wpAny _ _ (subscriptTail _ _ (Value.ref _) (Value.int _ _)) _ _ _)
    | (with_reducible show wpAny _ _ (call (Value.ref (OfNat.ofNat _)) _) _ _ _)
  trivial
def HoldsAll (h : Heap) (obs : List (Addr × Obj)) : Prop := ∀ p ∈ obs, h.get? p.1 = some p.2
section
variable {prog : Program} {w : World} {A : Around} {s : Shared} {Q E : Value → Shared → Prop}
  {name qual : Str} {params : Arguments} {body : List Stmt} {scope : Scope} {doc pm ctv : Value} {c' : Addr} {cl : List (Str × Addr)} {f : Addr} {args : List Value} {binds : List (Str × Value)} {S : List Addr} {news : List (Addr × Obj)}
theorem enterX (hlim : s.heap.NoLimit) (ho : s.heap.get? f = some (fnMade name qual params body scope cl doc pm c' ctv)) (hcd : s.heap.CodeRec (.ref c') qual) (hroom : A.depth < recursionLimit)
    (hbind : BindsTo s (fnX name qual params body scope cl .none .none doc pm none (.ref c') ctv) ⟨args, []⟩ binds) (hloc : ∀ y ∈ binds, scope.names.lookup y.1 = some .local)
    (hcell : ∀ x ∈ scope.names, x.2 ≠ .cell) (hco : scope.isCoroutine = false) (hgen : scope.isGenerator = false) (hk : scope.kind = .function) (hN : ∀ p ∈ news, s.heap.get? p.1 = some p.2 ∧ p.1 ∈ S)
    (h : ∀ h₁, Fr (hideAll s.heap S) s.heap.objs.size h₁ (fun y => binds.reverse.lookup y) → News (hideAll s.heap S) s.heap.objs.size h₁ news →
      wpAny (model prog w) (A.deeper (envX qual scope s.heap.objs.size f (.ref c') cl)) (execs body (envX qual scope s.heap.objs.size f (.ref c') cl))
        (fun fl s' => Q (match fl with | .ret v => v | _ => .none) s')
        (fun _ _ => False)
        { s with heap := h₁, toks := s.toks + binds.length }) :
    wpAny (model prog w) A (call (.ref f) args) Q E s := by
  refine wpAny_call (codeAny_call_def (fd := fnX name qual params body scope cl .none .none doc pm none (.ref c') ctv) (body := body) (binds := binds) hroom ho rfl hlim hcd rfl hbind hcell hloc (fun h₁ hns hk₁ => ?_) hco hgen hk)
  refine wpAny_mono (h h₁ ⟨hns, fun b o e => hk₁ b o (of_hideAll _ e), Nat.le_of_eq (hideAll_size _ _)⟩ fun p hp => ⟨hk₁ _ _ (hN p hp).1, Nat.ne_of_lt (Heap.lt_size (hN p hp).1), hideAll_none _ (hN p hp).2⟩) (fun fl s' hq => hq) fun _ _ y => y.elim
end
theorem ext_hide {g h : Heap} {S : List Addr} (e : Ext g h) (n : ∀ a ∈ S, g.get? a = none) : Ext g (hideAll h S) := fun b o q => hideAll_get _ (e _ _ q) fun hm => by rw [n b hm] at q; cases q
theorem none_of_hide {h : Heap} {S : List Addr} {a : Addr} (q : (hideAll h S).get? a = none) (n : a ∉ S) : h.get? a = none := by
  cases e : h.get? a with
  | none => rfl
  | some o => rw [hideAll_get _ e n] at q; cases q
theorem none_ext {g h : Heap} {a : Addr} (e : Ext g h) (q : h.get? a = none) : g.get? a = none := by
  cases e' : g.get? a with
  | none => rfl
  | some o => rw [e _ _ e'] at q; cases q
theorem new_of {h h' : Heap} {P L : Addr} {nw rest : List (Addr × Obj)} (N : News (hideAll h [P]) L h' (nw ++ rest)) (hne : ∀ p ∈ nw, @Ne Nat p.1 P) : ∀ p ∈ nw, h'.get? p.1 = some p.2 ∧ h.get? p.1 = none := fun p hp =>
  ⟨(N p (List.mem_append_left _ hp)).1, none_of_hide (N p (List.mem_append_left _ hp)).2.2 (by simpa using hne p hp)⟩
theorem lst_snoc' (ys : List Value) (y : Value) : lst (ys ++ [y]) = W.listOf (ys ++ [y]).toArray (ys.length + 1) := by
  show ({ cls := .type "list", data := .seq (ys ++ [y]).toArray (ys ++ [y]).length } : Obj) = _
  rw [List.length_append]; rfl
def TabOk (line col : Int) (qual : Str) (ps : Array Value) (obs : List (Addr × Obj)) : Prop :=
  ps = #[] ∨ ∃ c' oc vs t, ps = #[rawInt line, rawInt col, .ref c'] ∧ (c', oc) ∈ obs ∧ oc.data = .fields vs ∧ vs[1]? = some (.str qual t)
theorem news_rot {g h : Heap} {L : Addr} {x : Addr × Obj} {A B : List (Addr × Obj)} (N : News g L h (x :: (A ++ B))) : News g L h (x :: (B ++ A)) := fun p hp => N p (by
  rcases List.mem_cons.mp hp with rfl | hp
  · exact .head _
  · exact .tail _ ((List.mem_append.mp hp).elim (List.mem_append_right _) (List.mem_append_left _)))
theorem TabOk.mono {line col : Int} {qual : Str} {ps : Array Value} {obs obs' : List (Addr × Obj)} (x : TabOk line col qual ps obs) (k : ∀ p ∈ obs, p ∈ obs') : TabOk line col qual ps obs' := by
  rcases x with h | ⟨c', oc, vs, t, h1, h2, h3⟩
  · exact .inl h
  · exact .inr ⟨c', oc, vs, t, h1, k _ h2, h3⟩
theorem nest_any {M : Model} {A : Around} {E : Value → Shared → Prop} {s : Shared} {h₀ : Heap} {L a c P : Addr} {m mg mb : Str → Option Value} {cn : Str} {cs : Scope} {ccd : Value} {cl : List (Str × Addr)} {news : List (Addr × Obj)} {g : Obj → List (Addr × Obj)}
    {p : Program} {loose : List Str} {mean : ExcName → Option Value} {name qual : Str} {params : Arguments} {body : List Stmt} {scope : Scope} {ps : Array Value} {pos : Pos} {firstLine : Nat} {clos : List (Str × Addr)} {cobs : List (Addr × Obj)} {line col : Int} {Q : Value → Shared → Prop}
    (F : Fr h₀ L s.heap m) (N : News h₀ L s.heap news) (T : Top p loose mean mg mb h₀) (C : CodeHd h₀ c P) (hcd : ccd = .ref c) (U : UpdF P (tabObj ps) news g) (hps : TabOk line col qual ps cobs) (hl : (pos.line : Int) = line) (hc : (pos.col : Int) = col) (hm : (P, tabObj ps) ∈ news) (hg : g (tabObj ps) = news)
    (hcl : closureFor scope (envX cn cs L a ccd cl) = pure clos)
    (h : ∀ f c' oc vs t ctv doc h' tk ps' nwc, Fr h₀ L h' m → News h₀ L h' ((f, fnMade name qual params body scope clos doc ((mg "__name__").getD .none) c' ctv) :: (nwc ++ g (tabObj ps'))) → (c', oc) ∈ nwc ++ cobs → oc.data = .fields vs → vs[1]? = some (.str qual t) →
      TabOk line col qual ps' (nwc ++ cobs) → (∀ q ∈ nwc ++ news, q.1 < f) → (∀ q ∈ nwc, ∀ r ∈ news, r.1 < q.1) → Q (.ref f) { s with heap := h', toks := tk }) :
    wpAny M A (makeFunction name qual params (.stmts body) scope (envX cn cs L a ccd cl) [] [] [] pos firstLine) Q E s := by
  subst hl hc
  rcases hps with rfl | ⟨c', oc, vs, t, rfl, hm', hd, hv⟩
  · refine nest_K F N T C hcd U True.intro rfl hcl fun f c' oc vs t ctv doc h' tk F' N' d v l1 l2 => h f c' oc vs t ctv doc h' tk _ [(c', oc)] F' N' (.head _) d v (.inr ⟨c', oc, vs, t, rfl, .head _, d, v⟩) ?_ ?_
    · exact fmc l2 (fun q hq => Nat.lt_trans (l1 q hq) l2)
    · intro q hq r hr
      rw [List.mem_singleton.mp hq]; exact l1 r hr
  · exact nestHit_K F N T C hcd hm (by simp [TriplesOk, rawInt]) (by simp [codeAmong, rawInt]) hcl fun f ctv doc h' tk F' N' l1 => h f c' oc vs t ctv doc h' tk _ [] F' (hg.symm ▸ N') hm' hd hv (.inr ⟨c', oc, vs, t, rfl, hm', hd, hv⟩) l1 fun q hq => nomatch hq
structure ChanceAt (w : World) (g : Heap) (obs : List (Addr × Obj)) (f asked : Addr) (ds : List (Array UInt8 × Tok)) : Prop where
  fn : ∀ h, Ext g h → HoldsAll h obs → FnAt f h
  call : ∀ {dp un : Nat} {fr : Option (List Env)} {gd : Option (List Code)} {s : Shared} {Q E : Value → Shared → Prop} {z : Int} {t u : Tok} {ys : List Value} {b : Array UInt8},
    dp + 3 < recursionLimit → un + 60 < cLine → Ext g s.heap → HoldsAll s.heap obs → s.heap.get? asked = some (lst ys) → ds[ys.length]? = some (b, u) → ys.length < 20 →
    (∀ h' tk, ExtP asked s.heap h' → h'.get? asked = some (lst (ys ++ [.int z t])) → Q (.bytes b u) { s with heap := h', toks := tk }) →
    wpAny (model P1 w) (tp dp fr gd un) (call (.ref f) [.int z t]) Q E s
section
variable {w : World} {loose : List Str} {mean : ExcName → Option Value} {mg mb : Str → Option Value} {dp un : Nat} {fr : Option (List Env)} {gd : Option (List Code)} {s : Shared} {Q E : Value → Shared → Prop}
theorem chance_spec {g : Heap} (X : (hd.heap_39 w.params).In g) (T : Top topProg loose mean mg mb g) (e : Ext g s.heap) (hd' : dp + 20 < recursionLimit) (hu : un + 400 < cLine) (ht : CodeHd g 229 225) (hg : g.get? 225 = none)
    {ps : Array Value} {cobs : List (Addr × Obj)} (hP : s.heap.get? 225 = some (tabObj ps)) (hps : TabOk 171 4 (Str.ofString "_law_chance.<locals>.draw") ps cobs) (hcobs : HoldsAll s.heap cobs) {dl al : Addr} (hal : g.get? al = none) (hdl : g.get? dl = none)
    {ds : List (Array UInt8 × Tok)} {kd : Nat} (hod : s.heap.get? dl = some { cls := .type "list", data := .seq (bytesVals ds).toArray kd }) (hne : al ≠ dl)
    (hQ : ∀ f h' tk ps' nw, ExtP 225 s.heap h' → h'.get? 225 = some (tabObj ps') → TabOk 171 4 (Str.ofString "_law_chance.<locals>.draw") ps' (nw ++ cobs) → (∀ p ∈ nw, h'.get? p.1 = some p.2 ∧ s.heap.get? p.1 = none) → ChanceAt w g ((dl, { cls := .type "list", data := .seq (bytesVals ds).toArray kd }) :: (nw ++ cobs)) f al ds → Q (.ref f) { s with heap := h', toks := tk }) :
    wpAny (model P1 w) (tp dp fr gd un) (call (.ref 230) [.ref dl, .ref al]) Q E s := by
  have Xs := X.keeps e
  have Ts := T.keeps e
  refine' enterC (S := [225]) (news := [(225, tabObj ps)]) (binds := [("draws", .ref dl), ("asked", .ref al)]) ?k1 ?k2 ?k3 ?k4 ?k5 ?k6 ?k7 ?k8 ?kN ?k9 ?k10 ?k11 ?_
  case kN =>
    intro p hp
    rw [List.mem_singleton.mp hp]
    exact ⟨hP, by simp⟩
  ((try (case k1 => assumption)); (try (case k2 => exact Top.nolimit (by assumption))); (case k3 | k4 => k_is); (case k5 => (dsimp only; omega)); (try (case k6 => first | exact BindsTo.of_eq rfl | exact binds_K (by assumption) rfl (by k_is) rfl rfl rfl)); (case k8 => decide +kernel); (case k7 | k9 | k10 | k11 => exact rfl))
  k_whole
  intro h₁ tk cells F1 N1 Y
  have eg : Ext g (hideAll s.heap [225]) := ext_hide e fun a ha => by rw [List.mem_singleton.mp ha]; exact hg
  have XG := X.keeps eg
  have TG := T.keeps eg
  have CG := ht.keeps eg
  obtain ⟨oc1, oc2, hcE, dc1, dc2⟩ := CellsAre.two Y
  subst hcE
  clear Y
  simp only [List.cons_append, List.nil_append] at N1
  have l0 : @LT.lt Nat _ 225 s.heap.objs.size := Heap.lt_size hP
  replace dc1 : oc1.data = .cell (some (.ref al)) := dc1
  replace dc2 : oc2.data = .cell (some (.ref dl)) := dc2
  clear ht
  k_extra "mine steps"
  refine' nestDef_K ?d0 ?k0 ?a0 ?_
  case d0 => exact rfl
  case k0 => exact rfl
  case a0 => exact rfl
  refine nest_any F1 N1 TG CG rfl (by k_updF) hps rfl rfl (by k_mem) rfl rfl ?_
  intro f' c' oc' vs' t' ct' dc' h' tk' ps' nwc F2 N2 hc' cd cv tb lf ln
  try dsimp only at N2
  replace N2 := news_rot N2
  dsimp only [List.cons_append, List.nil_append] at N2
  clear F1 N1
  k_extra "mine steps"
  rename Fr _ _ _ _ => F2
  rename News _ _ _ _ => N2
  generalize hfo : fnMade _ _ _ _ _ _ _ _ _ _ = fo at N2
  refine hQ f' _ _ ps' ((f', fo) :: (s.heap.objs.size + 1 + 1, oc1) :: (s.heap.objs.size + 1, oc2) :: nwc) (fun b o n q => F2.keep b o (hideAll_get _ q (by simpa using n))) (N2 (225, _) (by k_mem)).1 (tb.mono fun p hp => .tail _ (.tail _ (.tail _ hp))) (fun p hp => ?_) ?_
  · have hm := (by k_extra "mine sub" : ∀ p ∈ (f', fo) :: (s.heap.objs.size + 1 + 1, oc1) :: (s.heap.objs.size + 1, oc2) :: nwc, p ∈ (f', fo) :: (s.heap.objs.size + 1 + 1, oc1) :: (s.heap.objs.size + 1, oc2) :: (225, tabObj ps') :: nwc) p hp
    have l9 : @Ne Nat f' 225 := Nat.ne_of_gt (lf (225, tabObj ps) (List.mem_append_right _ (by k_mem)))
    have hne9 : ∀ p ∈ (f', fo) :: (s.heap.objs.size + 1 + 1, oc1) :: (s.heap.objs.size + 1, oc2) :: nwc, @Ne Nat p.1 225 := fmc l9 ((fmc (Nat.ne_of_gt (Nat.lt_trans l0 (Nat.lt_succ_of_lt (Nat.lt_succ_self _)))) ((fmc (Nat.ne_of_gt (Nat.lt_trans l0 (Nat.lt_succ_self _))) (fun q hq => Nat.ne_of_gt (ln q hq (225, tabObj ps) (by k_mem)))))))
    exact ⟨(N2 p hm).1, none_of_hide (N2 p hm).2.2 (by simpa using hne9 p hp)⟩
  · refine ⟨fun h _ ho => ⟨_, _, _, _, (ho (f', fo) (by simp)).trans (congrArg some hfo.symm)⟩, ?_⟩
    intro dp' un' fr' gd' s' Q' E' z t u ys b hdp hun hge hob hys hb hyl hQ'
    have hf : s'.heap.get? f' = some fo := hob (f', fo) (by simp)
    subst hfo
    have hc : s'.heap.CodeRec (.ref c') _ := ⟨c', oc', vs', t', rfl, hob (c', oc') (.tail _ (.tail _ (.tail _ (.tail _ hc')))), cd, cv⟩
    have h1 : s'.heap.get? (s.heap.objs.size + 1 + 1) = some oc1 := hob (_, oc1) (by simp)
    have h2 : s'.heap.get? (s.heap.objs.size + 1) = some oc2 := hob (_, oc2) (by simp)
    have h3 : s'.heap.get? dl = some { cls := .type "list", data := .seq (bytesVals ds).toArray kd } := hob (dl, _) (.head _)
    refine' enterX (S := [al, s.heap.objs.size + 1 + 1, s.heap.objs.size + 1, dl]) (news := [(al, lst ys), (s.heap.objs.size + 1 + 1, oc1), (s.heap.objs.size + 1, oc2), (dl, { cls := .type "list", data := .seq (bytesVals ds).toArray kd })]) (binds := [("size", .int z t)]) (T.nolimit.keeps hge) hf hc ?k5 ?k6 ?k7 ?k8 ?k9 ?k10 ?k11 ?kN ?_
    case k5 => dsimp only; omega
    case k6 => exact BindsTo.of_eq rfl
    case k7 => exact locs rfl
    case k8 => decide
    case k9 => exact rfl
    case k10 => exact rfl
    case k11 => exact rfl
    case kN =>
      intro p hp
      simp only [List.mem_cons, List.not_mem_nil, or_false] at hp
      rcases hp with rfl | rfl | rfl | rfl
      · exact ⟨hys, by simp⟩
      · exact ⟨h1, by simp⟩
      · exact ⟨h2, by simp⟩
      · exact ⟨h3, by simp⟩
    k_whole
    intro h₁ F3 N3
    have q1 : g.get? (s.heap.objs.size + 1 + 1) = none := none_ext eg (N2 (s.heap.objs.size + 1 + 1, oc1) (by k_mem)).2.2
    have q2 : g.get? (s.heap.objs.size + 1) = none := none_ext eg (N2 (s.heap.objs.size + 1, oc2) (by k_mem)).2.2
    have eg2 : Ext g (hideAll s'.heap [al, s.heap.objs.size + 1 + 1, s.heap.objs.size + 1, dl]) := ext_hide hge fun a ha => by
      simp only [List.mem_cons, List.not_mem_nil, or_false] at ha
      rcases ha with rfl | rfl | rfl | rfl <;> assumption
    have X2 := X.keeps eg2
    have T2 := T.keeps eg2
    have a1 : @Ne Nat al (s.heap.objs.size + 1 + 1) := fun q => by rw [q, h1] at hys; cases hys; cases dc1
    have a2 : @Ne Nat al (s.heap.objs.size + 1) := fun q => by rw [q, h2] at hys; cases hys; cases dc2
    have a3 : @Ne Nat al dl := hne
    have up : ∀ h' : Heap, (∀ b o, (hideAll s'.heap [al, s.heap.objs.size + 1 + 1, s.heap.objs.size + 1, dl]).get? b = some o → h'.get? b = some o) → h'.get? (s.heap.objs.size + 1 + 1) = some oc1 → h'.get? (s.heap.objs.size + 1) = some oc2 →
        h'.get? dl = some { cls := .type "list", data := .seq (bytesVals ds).toArray kd } → ExtP al s'.heap h' := fun h' k x1 x2 x3 b o n q => by
      by_cases y1 : b = s.heap.objs.size + 1 + 1
      · rw [y1] at q ⊢; rw [h1] at q; rw [← q]; exact x1
      by_cases y2 : b = s.heap.objs.size + 1
      · rw [y2] at q ⊢; rw [h2] at q; rw [← q]; exact x2
      by_cases y3 : b = dl
      · rw [y3] at q ⊢; rw [h3] at q; rw [← q]; exact x3
      exact k b o (hideAll_get _ q (by simp only [List.mem_cons, List.not_mem_nil, or_false, not_or]; exact ⟨n, y1, y2, y3⟩))
    generalize hideAll s'.heap [al, s.heap.objs.size + 1 + 1, s.heap.objs.size + 1, dl] = g2 at F3 N3 X2 T2 eg2 up
    clear X T XG TG CG Xs Ts F2 N2 hob hf hc h1 h2 h3 hge eg eg2 cd cv lf ln tb hc' hod hys q1 q2 e
    k_extra "mine steps"
    rename News _ _ _ _ => N4
    refine item_news (i := ys.length) (x := .bytes b u) N4 (by k_mem) (by simp) (by omega) (by simp [bytesVals, hb]) ?_
    k_extra "mine steps"
    rename Fr _ _ _ _ => F5
    rename News _ _ _ _ => N5
    exact hQ' _ _ (up _ F5.keep (N5 (_, oc1) (by k_mem)).1 (N5 (_, oc2) (by k_mem)).1 (N5 (dl, _) (by k_mem)).1) (by rw [lst_snoc']; exact (N5 (al, _) (by k_mem)).1)
end
end
theorem lay_lev9 : True := by
  k_with_none
  k_with "mine stop" => with_reducible first
    | show wpAny _ _ (exec (Stmt.While ..) _) ..
    | show wpAny _ _ (exec (Stmt.For ..) _) ..
    | ((fail_if_success k_extra "mine calls"); show wpAny _ _ (call (Value.ref _) _) ..)
  k_with "mine ext" => ((rename Ext _ _ => eq9); (rename Fr _ _ _ _ => fq9); (rename News _ _ _ _ => nq9); (replace fq9 := frExt fq9 eq9); (replace nq9 := newsExt nq9 eq9); (try k_sweep); clear eq9; (try dsimp only); revert fq9 nq9; intro _ _)
  k_with "mine cx" => exact ⟨Frag.In.keeps (by assumption) (Fr.keep (by assumption)), Top.keeps (by assumption) (Fr.keep (by assumption)), by (try dsimp only [tp, Around.deeper]); omega, by (try dsimp only [tp, Around.deeper]); omega⟩
  k_with "mine list" => first | assumption | exact (by assumption : Heap.IsList _ _ _).at (fun o e => (by assumption : Fr _ _ _ _).keep _ _ e)
  k_with "mine steps" => repeat' ((fail_if_success (k_extra "mine stop")); first | (k_unfold; (try dsimp only)) | (walk1 <;> try ((fail_if_success (with_reducible show wpAny _ _ (subscriptTail ..) ..)); dsimp only)) | (dsimp only; walk1) | fail "no step")
  k_with "mine nat" => first | (with_reducible exact rfl) | k_dflt (exact natlit _) | k_dflt (exact rfl)
  k_with "mine b" => first | with_reducible assumption | decide | assumption | exact Nat.pow_pos (by decide) | omega
  k_with "binaryOp BitXor int int" => (refine' xor_n (by k_extra "mine nat") (by k_extra "mine nat") ?_; try dsimp only)
  k_with "binaryOp BitAnd int int" => (refine' and_n (by k_extra "mine nat") (by k_extra "mine nat") ?_; try dsimp only)
  k_with "binaryOp RShift int int" => (refine' shr_n (by k_extra "mine nat") (by k_extra "mine nat") ?_; try dsimp only)
  k_with "binaryOp LShift int int" => k_dflt (refine' shl_z (by k_extra "mine nat") (by omega) (by omega) (by k_extra "mine b") (by decide) ?_; (try dsimp only))
  k_with "binaryOp LShift int int" => (refine' shl_n (by k_extra "mine nat") (by k_extra "mine nat") (by k_extra "mine b") (by decide) (by k_extra "mine b") ?_; try dsimp only)
  k_with "binaryOp Add int int" => (refine' add_n (by k_extra "mine nat") (by k_extra "mine nat") ?_; try dsimp only)
  k_with "binaryOp Mult int int" => (refine' mul_n (by k_extra "mine nat") (by k_extra "mine nat") (by k_extra "mine b") (by decide) (by k_extra "mine b") (by decide) ?_; try dsimp only)
  k_with "binaryOp FloorDiv int int" => (refine' fdiv_n (by k_extra "mine nat") (by k_extra "mine nat") (by decide) (by decide) ?_; try dsimp only)
  k_with "binaryOp Mod int int" => (refine' mod_z (by k_extra "mine nat") (by k_extra "mine b") ?_; (try dsimp only))
  k_with "binaryOp Mod int int" => (refine' mod_n (by k_extra "mine nat") (by k_extra "mine nat") (by k_extra "mine b") ?_; try dsimp only)
  k_with "binaryOp Sub int int" => (refine' sub_n (by k_extra "mine nat") (by k_extra "mine nat") (by k_extra "mine b") ?_; try dsimp only)
  k_with "binaryOp Pow int int" => (refine' pow_n (by k_extra "mine nat") (by k_extra "mine nat") (by k_extra "mine b") (by k_extra "mine b") ?_; try dsimp only)
  k_with "compareOp Gt int int" => refine' gt_n (by k_extra "mine nat") (by k_extra "mine nat") ?_
  k_with "compareOp Lt int int" => refine' lt_n (by k_extra "mine nat") (by k_extra "mine nat") ?_
  k_with "compareOp Eq int int" => refine' eq_n (by k_extra "mine nat") (by k_extra "mine nat") ?_
  k_with "compareOp NotEq int int" => refine' ne_n (by k_extra "mine nat") (by k_extra "mine nat") ?_
  k_with "mine ret" => (intro _; constructor; intro _ _ _; k_extra "mine ext")
  k_with "mine in" => first | exact me 0 rfl | exact me 1 rfl | exact me 2 rfl | exact me 3 rfl | exact me 4 rfl | exact me 5 rfl | exact me 6 rfl | exact me 7 rfl | exact me 8 rfl | exact me 9 rfl | exact me 10 rfl | exact me 11 rfl | exact me 12 rfl | exact me 13 rfl | exact me 14 rfl | exact me 15 rfl | exact me 16 rfl | exact me 17 rfl | exact me 18 rfl | exact me 19 rfl | (with_reducible refine List.mem_append_right _ ?_; k_extra "mine in") | (with_reducible refine List.mem_append_left _ ?_; k_extra "mine in") | (with_reducible refine List.mem_cons_of_mem _ ?_; k_extra "mine in")
  k_with "mine tail" => first | with_reducible assumption | (with_reducible refine List.mem_cons_of_mem _ ?_; k_extra "mine tail") | (with_reducible refine List.mem_append_right _ ?_; k_extra "mine tail") | (with_reducible refine List.mem_append_left _ ?_; k_extra "mine tail")
  k_with "mine sub" => first | (with_reducible exact List.forall_mem_nil _) | (with_reducible refine fmc (by intros; k_extra "mine in") ?_; k_extra "mine sub") | (with_reducible refine fma ?_ ?_ <;> k_extra "mine sub") | (intro p hp; intros; first | contradiction | k_extra "mine tail")
  k_with "mine omega" => first | ((with_reducible show _ < recursionLimit); first | exact rm0 (by assumption) | exact rq 1 | exact rq 2 | exact rq 3 | exact rq 4 | exact rq 11 | exact rq 21 | exact rq 41 | exact rq2 3) | ((with_reducible show _ < cLine); first | exact rq 3 | exact rq 4 | exact rq 23 | exact rq 43 | exact rq 83 | exact rq 403 | exact rq 61 | exact rq 103 | exact rq2 80) | with_reducible exact sAdd (by decide) | with_reducible exact sAdd2 (by decide)
  k_with "mine ne" => with_reducible first | assumption | exact Ne.symm (by assumption) | exact Nat.ne_of_gt (by assumption) | exact Nat.ne_of_lt (by assumption) | fail ""
  k_with "mine stop" => with_reducible first
    | show Exists _
    | show LCg.CompSrc ..
    | show LCg.CompEnd ..
    | show LoopOn ..
    | show Turned ..
    | show wpAny _ _ (exec (Stmt.While ..) _) ..
    | show wpAny _ _ (exec (Stmt.For ..) _) ..
    | show wpAny _ _ (exec (Stmt.FunctionDef ..) _) ..
    | show wpAny _ _ (eval (Expr.ListComp ..) _) ..
    | show wpAny _ _ (call (Value.builtin "int.to_bytes") _) ..
    | show wpAny _ _ (call (Value.ref _) [Value.bytes .., Value.str ..]) ..
    | ((fail_if_success k_extra "mine calls"); show wpAny _ _ (call (Value.ref (OfNat.ofNat _)) _) ..)
  k_with "eval Name" => (kc_free; (rename News _ _ _ _ => nq9); k_dflt (refine' nameX_F nq9 (by rfl) (by k_mem) (by with_reducible assumption) ?_ (by rfl) (by rfl); k_whole))
  k_with "call builtin:len" => ((rename News _ _ _ _ => nq9); k_dflt (refine' len_news nq9 (by k_mem) (by (simp only [List.length_append, List.length_cons, List.length_nil]; omega)) ?_; k_whole))
  trivial
section
open LCg (lst)
theorem lay_Hm_CALL4 : True := by
  k_with "mine calls" => with_reducible first
    | show wpAny _ _ (call (Value.ref 181) _) ..
    | show wpAny _ _ (call (Value.ref 188) _) ..
    | show wpAny _ _ (call (Value.ref 195) _) ..
    | show wpAny _ _ (call (Value.ref 223) _) ..
  k_with "call ref" => ((with_reducible show wpAny _ _ (call (Value.ref 223) _) ..); k_dflt (refine' digest_spec (by k_extra "mine cx") (by k_extra "mine b") (by k_extra "mine b") (by k_extra "mine b") ?_; k_extra "mine ret"))
  trivial
structure HmacAt (w : World) (g : Heap) (obs : List (Addr × Obj)) (f heard : Addr) (cap : Nat) (ans : Array UInt8 → Array UInt8 → Array UInt8) : Prop where
  fn : ∀ h, Ext g h → HoldsAll h obs → FnAt f h
  call : ∀ {dp un : Nat} {fr : Option (List Env)} {gd : Option (List Code)} {s : Shared} {Q E : Value → Shared → Prop} {b1 b2 : Array UInt8} {t1 t2 : Tok} {ys : List Value},
    dp + 10 < recursionLimit → un + 100 < cLine → Ext g s.heap → HoldsAll s.heap obs → s.heap.get? heard = some (lst ys) → b1.size ≤ cap → b2.size ≤ cap → ys.length < 20 →
    (∀ h' tk T u, ExtP heard s.heap h' → s.heap.get? T = none → h'.get? T = some { cls := .type "tuple", data := .seq #[.bytes b1 t1, .bytes b2 t2] 0 } → h'.get? heard = some (lst (ys ++ [.ref T])) → Q (.bytes (ans b1 b2) u) { s with heap := h', toks := tk }) →
    wpAny (model P1 w) (tp dp fr gd un) (call (.ref f) [.bytes b1 t1, .bytes b2 t2]) Q E s
def ansF (key : Int) (forced : Array UInt8) (b1 b2 : Array UInt8) : Array UInt8 := if 0 < forced.size then forced else digB key b1 b2
section
variable {w : World} {loose : List Str} {mean : ExcName → Option Value} {mg mb : Str → Option Value} {dp un : Nat} {fr : Option (List Env)} {gd : Option (List Code)} {s : Shared} {Q E : Value → Shared → Prop}
theorem hmac_spec {g : Heap} (X : (hd.heap_39 w.params).In g) (T : Top topProg loose mean mg mb g) (e : Ext g s.heap) (hd' : dp + 20 < recursionLimit) (hu : un + 400 < cLine) (ht : CodeHd g 236 232) (hg : g.get? 232 = none)
    {ps : Array Value} {cobs : List (Addr × Obj)} (hP : s.heap.get? 232 = some (tabObj ps)) (hps : TabOk 177 4 (Str.ofString "_law_hmac.<locals>.tell") ps cobs) (hcobs : HoldsAll s.heap cobs) {al : Addr} (hal : g.get? al = none)
    {key : Int} {forced : Array UInt8} {tk tf : Tok} (hk : Builtin.Int.intBits key ≤ 1048576) (hff : forced.size ≤ 1000)
    (hQ : ∀ f h' tk' ps' nw, ExtP 232 s.heap h' → h'.get? 232 = some (tabObj ps') → TabOk 177 4 (Str.ofString "_law_hmac.<locals>.tell") ps' (nw ++ cobs) → (∀ p ∈ nw, h'.get? p.1 = some p.2 ∧ s.heap.get? p.1 = none) → HmacAt w g (nw ++ cobs) f al 8 (ansF key forced) → Q (.ref f) { s with heap := h', toks := tk' }) :
    wpAny (model P1 w) (tp dp fr gd un) (call (.ref 237) [.int key tk, .bytes forced tf, .ref al]) Q E s := by
  have Xs := X.keeps e
  have Ts := T.keeps e
  refine' enterC (S := [232]) (news := [(232, tabObj ps)]) (binds := [("key", .int key tk), ("forced", .bytes forced tf), ("heard", .ref al)]) ?k1 ?k2 ?k3 ?k4 ?k5 ?k6 ?k7 ?k8 ?kN ?k9 ?k10 ?k11 ?_
  case kN =>
    intro p hp
    rw [List.mem_singleton.mp hp]
    exact ⟨hP, by simp⟩
  ((try (case k1 => assumption)); (try (case k2 => exact Top.nolimit (by assumption))); (case k3 | k4 => k_is); (case k5 => (dsimp only; omega)); (try (case k6 => first | exact BindsTo.of_eq rfl | exact binds_K (by assumption) rfl (by k_is) rfl rfl rfl)); (case k8 => decide +kernel); (case k7 | k9 | k10 | k11 => exact rfl))
  k_whole
  intro h₁ tk₁ cells F1 N1 Y
  have eg : Ext g (hideAll s.heap [232]) := ext_hide e fun a ha => by rw [List.mem_singleton.mp ha]; exact hg
  have XG := X.keeps eg
  have TG := T.keeps eg
  have CG := ht.keeps eg
  obtain ⟨oc1, oc2, oc3, hcE, dc1, dc2, dc3⟩ := CellsAre.three Y
  subst hcE
  clear Y
  simp only [List.cons_append, List.nil_append] at N1
  have l0 : @LT.lt Nat _ 232 s.heap.objs.size := Heap.lt_size hP
  replace dc1 : oc1.data = .cell (some (.ref al)) := dc1
  replace dc2 : oc2.data = .cell (some (.bytes forced tf)) := dc2
  replace dc3 : oc3.data = .cell (some (.int key tk)) := dc3
  clear ht
  k_extra "mine steps"
  refine' nestDef_K ?d0 ?k0 ?a0 ?_
  case d0 => exact rfl
  case k0 => exact rfl
  case a0 => exact rfl
  refine nest_any F1 N1 TG CG rfl (by k_updF) hps rfl rfl (by k_mem) rfl rfl ?_
  intro f' c' oc' vs' t' ct' dc' h' tk' ps' nwc F2 N2 hc' cd cv tb lf ln
  try dsimp only at N2
  replace N2 := news_rot N2
  dsimp only [List.cons_append, List.nil_append] at N2
  clear F1 N1
  k_extra "mine steps"
  rename Fr _ _ _ _ => F2
  rename News _ _ _ _ => N2
  generalize hfo : fnMade _ _ _ _ _ _ _ _ _ _ = fo at N2
  refine hQ f' _ _ ps' ((f', fo) :: (s.heap.objs.size + 1 + 1 + 1, oc1) :: (s.heap.objs.size + 1 + 1, oc2) :: (s.heap.objs.size + 1, oc3) :: nwc) (fun b o n q => F2.keep b o (hideAll_get _ q (by simpa using n))) (N2 (232, _) (by k_mem)).1 (tb.mono fun p hp => .tail _ (.tail _ (.tail _ (.tail _ hp)))) (fun p hp => ?_) ?_
  · have hm := (by k_extra "mine sub" : ∀ p ∈ (f', fo) :: (s.heap.objs.size + 1 + 1 + 1, oc1) :: (s.heap.objs.size + 1 + 1, oc2) :: (s.heap.objs.size + 1, oc3) :: nwc, p ∈ (f', fo) :: (s.heap.objs.size + 1 + 1 + 1, oc1) :: (s.heap.objs.size + 1 + 1, oc2) :: (s.heap.objs.size + 1, oc3) :: (232, tabObj ps') :: nwc) p hp
    have l9 : @Ne Nat f' 232 := Nat.ne_of_gt (lf (232, tabObj ps) (List.mem_append_right _ (by k_mem)))
    have hne9 : ∀ p ∈ (f', fo) :: (s.heap.objs.size + 1 + 1 + 1, oc1) :: (s.heap.objs.size + 1 + 1, oc2) :: (s.heap.objs.size + 1, oc3) :: nwc, @Ne Nat p.1 232 := fmc l9 ((fmc (Nat.ne_of_gt (Nat.lt_trans l0 (Nat.lt_succ_of_lt (Nat.lt_succ_of_lt (Nat.lt_succ_self _))))) ((fmc (Nat.ne_of_gt (Nat.lt_trans l0 (Nat.lt_succ_of_lt (Nat.lt_succ_self _)))) ((fmc (Nat.ne_of_gt (Nat.lt_trans l0 (Nat.lt_succ_self _))) (fun q hq => Nat.ne_of_gt (ln q hq (232, tabObj ps) (by k_mem)))))))))
    exact ⟨(N2 p hm).1, none_of_hide (N2 p hm).2.2 (by simpa using hne9 p hp)⟩
  · refine ⟨fun h _ ho => ⟨_, _, _, _, (ho (f', fo) (by simp)).trans (congrArg some hfo.symm)⟩, ?_⟩
    intro dp' un' fr' gd' s' Q' E' b1 b2 t1 t2 ys hdp hun hge hob hys hb1 hb2 hyl hQ'
    have hf : s'.heap.get? f' = some fo := hob (f', fo) (by simp)
    subst hfo
    have hc : s'.heap.CodeRec (.ref c') _ := ⟨c', oc', vs', t', rfl, hob (c', oc') (.tail _ (.tail _ (.tail _ (.tail _ hc')))), cd, cv⟩
    have h1 : s'.heap.get? (s.heap.objs.size + 1 + 1 + 1) = some oc1 := hob (_, oc1) (by simp)
    have h2 : s'.heap.get? (s.heap.objs.size + 1 + 1) = some oc2 := hob (_, oc2) (by simp)
    have h3 : s'.heap.get? (s.heap.objs.size + 1) = some oc3 := hob (_, oc3) (by simp)
    refine' enterX (S := [al, s.heap.objs.size + 1 + 1 + 1, s.heap.objs.size + 1 + 1, s.heap.objs.size + 1]) (news := [(al, lst ys), (s.heap.objs.size + 1 + 1 + 1, oc1), (s.heap.objs.size + 1 + 1, oc2), (s.heap.objs.size + 1, oc3)]) (binds := [("data", .bytes b1 t1), ("secret", .bytes b2 t2)]) (T.nolimit.keeps hge) hf hc ?k5 ?k6 ?k7 ?k8 ?k9 ?k10 ?k11 ?kN ?_
    case k5 => dsimp only; omega
    case k6 => exact BindsTo.of_eq rfl
    case k7 => exact locs rfl
    case k8 => decide
    case k9 => exact rfl
    case k10 => exact rfl
    case k11 => exact rfl
    case kN =>
      intro p hp
      simp only [List.mem_cons, List.not_mem_nil, or_false] at hp
      rcases hp with rfl | rfl | rfl | rfl
      · exact ⟨hys, by simp⟩
      · exact ⟨h1, by simp⟩
      · exact ⟨h2, by simp⟩
      · exact ⟨h3, by simp⟩
    k_whole
    intro h₁ F3 N3
    have q1 : g.get? (s.heap.objs.size + 1 + 1 + 1) = none := none_ext eg (N2 (s.heap.objs.size + 1 + 1 + 1, oc1) (by k_mem)).2.2
    have q2 : g.get? (s.heap.objs.size + 1 + 1) = none := none_ext eg (N2 (s.heap.objs.size + 1 + 1, oc2) (by k_mem)).2.2
    have q3 : g.get? (s.heap.objs.size + 1) = none := none_ext eg (N2 (s.heap.objs.size + 1, oc3) (by k_mem)).2.2
    have eg2 : Ext g (hideAll s'.heap [al, s.heap.objs.size + 1 + 1 + 1, s.heap.objs.size + 1 + 1, s.heap.objs.size + 1]) := ext_hide hge fun a ha => by
      simp only [List.mem_cons, List.not_mem_nil, or_false] at ha
      rcases ha with rfl | rfl | rfl | rfl <;> assumption
    have X2 := X.keeps eg2
    have T2 := T.keeps eg2
    have a1 : @Ne Nat al (s.heap.objs.size + 1 + 1 + 1) := fun q => by rw [q, h1] at hys; cases hys; cases dc1
    have a2 : @Ne Nat al (s.heap.objs.size + 1 + 1) := fun q => by rw [q, h2] at hys; cases hys; cases dc2
    have a3 : @Ne Nat al (s.heap.objs.size + 1) := fun q => by rw [q, h3] at hys; cases hys; cases dc3
    have nt : ∀ T, g.get? T = none → True := fun _ _ => trivial
    have up : ∀ h' : Heap, (∀ b o, (hideAll s'.heap [al, s.heap.objs.size + 1 + 1 + 1, s.heap.objs.size + 1 + 1, s.heap.objs.size + 1]).get? b = some o → h'.get? b = some o) → h'.get? (s.heap.objs.size + 1 + 1 + 1) = some oc1 → h'.get? (s.heap.objs.size + 1 + 1) = some oc2 → h'.get? (s.heap.objs.size + 1) = some oc3 → ExtP al s'.heap h' := fun h' k x1 x2 x3 b o n q => by
      by_cases y1 : b = s.heap.objs.size + 1 + 1 + 1
      · rw [y1] at q ⊢; rw [h1] at q; rw [← q]; exact x1
      by_cases y2 : b = s.heap.objs.size + 1 + 1
      · rw [y2] at q ⊢; rw [h2] at q; rw [← q]; exact x2
      by_cases y3 : b = s.heap.objs.size + 1
      · rw [y3] at q ⊢; rw [h3] at q; rw [← q]; exact x3
      exact k b o (hideAll_get _ q (by simp only [List.mem_cons, List.not_mem_nil, or_false, not_or]; exact ⟨n, y1, y2, y3⟩))
    have nn : ∀ T, (hideAll s'.heap [al, s.heap.objs.size + 1 + 1 + 1, s.heap.objs.size + 1 + 1, s.heap.objs.size + 1]).get? T = none → @Ne Nat T al → @Ne Nat T (s.heap.objs.size + 1 + 1 + 1) → @Ne Nat T (s.heap.objs.size + 1 + 1) → @Ne Nat T (s.heap.objs.size + 1) → s'.heap.get? T = none := fun T q y0 y1 y2 y3 => none_of_hide q (by simp only [List.mem_cons, List.not_mem_nil, or_false, not_or]; exact ⟨y0, y1, y2, y3⟩)
    generalize hideAll s'.heap [al, s.heap.objs.size + 1 + 1 + 1, s.heap.objs.size + 1 + 1, s.heap.objs.size + 1] = g2 at F3 N3 X2 T2 eg2 up nn
    clear X T XG TG CG Xs Ts F2 N2 hob hf hc h1 h2 h3 hge eg eg2 cd cv lf ln tb hc' hys q1 q2 q3 e
    k_extra "mine steps"
    · rename Fr _ _ _ _ => F5
      rename News _ _ _ _ => N5
      rename 0 < forced.size => hpos
      have z := fun tkB => hQ' _ tkB _ tf (up _ F5.keep (N5 (_, oc1) (by k_mem)).1 (N5 (_, oc2) (by k_mem)).1 (N5 (_, oc3) (by k_mem)).1) (nn _ (N5 _ (.head _)).2.2 (by dsimp only; omega) (by dsimp only; omega) (by dsimp only; omega) (by dsimp only; omega)) (N5 _ (.head _)).1 (by rw [lst_snoc']; exact (N5 (al, _) (by k_mem)).1)
      rw [ansF, if_pos hpos] at z
      exact z _
    · rename Fr _ _ _ _ => F5
      rename News _ _ _ _ => N5
      rename ¬ 0 < forced.size => hpos
      have z := fun tkB u => hQ' _ tkB _ u (up _ F5.keep (N5 (_, oc1) (by k_mem)).1 (N5 (_, oc2) (by k_mem)).1 (N5 (_, oc3) (by k_mem)).1) (nn _ (N5 _ (.head _)).2.2 (by dsimp only; omega) (by dsimp only; omega) (by dsimp only; omega) (by dsimp only; omega)) (N5 _ (.head _)).1 (by rw [lst_snoc']; exact (N5 (al, _) (by k_mem)).1)
      rw [ansF, if_neg hpos] at z
      exact z _ _
end
end
theorem lay_lev10 : True := by
  k_with_none
  k_with "mine stop" => with_reducible first
    | show wpAny _ _ (exec (Stmt.While ..) _) ..
    | show wpAny _ _ (exec (Stmt.For ..) _) ..
    | ((fail_if_success k_extra "mine calls"); show wpAny _ _ (call (Value.ref _) _) ..)
  k_with "mine ext" => ((rename Ext _ _ => eq9); (rename Fr _ _ _ _ => fq9); (rename News _ _ _ _ => nq9); (replace fq9 := frExt fq9 eq9); (replace nq9 := newsExt nq9 eq9); (try k_sweep); clear eq9; (try dsimp only); revert fq9 nq9; intro _ _)
  k_with "mine cx" => exact ⟨Frag.In.keeps (by assumption) (Fr.keep (by assumption)), Top.keeps (by assumption) (Fr.keep (by assumption)), by (try dsimp only [tp, Around.deeper]); omega, by (try dsimp only [tp, Around.deeper]); omega⟩
  k_with "mine list" => first | assumption | exact (by assumption : Heap.IsList _ _ _).at (fun o e => (by assumption : Fr _ _ _ _).keep _ _ e)
  k_with "mine steps" => repeat' ((fail_if_success (k_extra "mine stop")); first | (k_unfold; (try dsimp only)) | (walk1 <;> try ((fail_if_success (with_reducible show wpAny _ _ (subscriptTail ..) ..)); dsimp only)) | (dsimp only; walk1) | fail "no step")
  k_with "mine nat" => first | (with_reducible exact rfl) | k_dflt (exact natlit _) | k_dflt (exact rfl)
  k_with "mine b" => first | with_reducible assumption | decide | assumption | exact Nat.pow_pos (by decide) | omega
  k_with "binaryOp BitXor int int" => (refine' xor_n (by k_extra "mine nat") (by k_extra "mine nat") ?_; try dsimp only)
  k_with "binaryOp BitAnd int int" => (refine' and_n (by k_extra "mine nat") (by k_extra "mine nat") ?_; try dsimp only)
  k_with "binaryOp RShift int int" => (refine' shr_n (by k_extra "mine nat") (by k_extra "mine nat") ?_; try dsimp only)
  k_with "binaryOp LShift int int" => k_dflt (refine' shl_z (by k_extra "mine nat") (by omega) (by omega) (by k_extra "mine b") (by decide) ?_; (try dsimp only))
  k_with "binaryOp LShift int int" => (refine' shl_n (by k_extra "mine nat") (by k_extra "mine nat") (by k_extra "mine b") (by decide) (by k_extra "mine b") ?_; try dsimp only)
  k_with "binaryOp Add int int" => (refine' add_n (by k_extra "mine nat") (by k_extra "mine nat") ?_; try dsimp only)
  k_with "binaryOp Mult int int" => (refine' mul_n (by k_extra "mine nat") (by k_extra "mine nat") (by k_extra "mine b") (by decide) (by k_extra "mine b") (by decide) ?_; try dsimp only)
  k_with "binaryOp FloorDiv int int" => (refine' fdiv_n (by k_extra "mine nat") (by k_extra "mine nat") (by decide) (by decide) ?_; try dsimp only)
  k_with "binaryOp Mod int int" => (refine' mod_z (by k_extra "mine nat") (by k_extra "mine b") ?_; (try dsimp only))
  k_with "binaryOp Mod int int" => (refine' mod_n (by k_extra "mine nat") (by k_extra "mine nat") (by k_extra "mine b") ?_; try dsimp only)
  k_with "binaryOp Sub int int" => (refine' sub_n (by k_extra "mine nat") (by k_extra "mine nat") (by k_extra "mine b") ?_; try dsimp only)
  k_with "binaryOp Pow int int" => (refine' pow_n (by k_extra "mine nat") (by k_extra "mine nat") (by k_extra "mine b") (by k_extra "mine b") ?_; try dsimp only)
  k_with "compareOp Gt int int" => refine' gt_n (by k_extra "mine nat") (by k_extra "mine nat") ?_
  k_with "compareOp Lt int int" => refine' lt_n (by k_extra "mine nat") (by k_extra "mine nat") ?_
  k_with "compareOp Eq int int" => refine' eq_n (by k_extra "mine nat") (by k_extra "mine nat") ?_
  k_with "compareOp NotEq int int" => refine' ne_n (by k_extra "mine nat") (by k_extra "mine nat") ?_
  k_with "mine ret" => (intro _; constructor; intro _ _ _; k_extra "mine ext")
  k_with "mine in" => first | exact me 0 rfl | exact me 1 rfl | exact me 2 rfl | exact me 3 rfl | exact me 4 rfl | exact me 5 rfl | exact me 6 rfl | exact me 7 rfl | exact me 8 rfl | exact me 9 rfl | exact me 10 rfl | exact me 11 rfl | exact me 12 rfl | exact me 13 rfl | exact me 14 rfl | exact me 15 rfl | exact me 16 rfl | exact me 17 rfl | exact me 18 rfl | exact me 19 rfl | (with_reducible refine List.mem_append_right _ ?_; k_extra "mine in") | (with_reducible refine List.mem_append_left _ ?_; k_extra "mine in") | (with_reducible refine List.mem_cons_of_mem _ ?_; k_extra "mine in")
  k_with "mine tail" => first | with_reducible assumption | (with_reducible refine List.mem_cons_of_mem _ ?_; k_extra "mine tail") | (with_reducible refine List.mem_append_right _ ?_; k_extra "mine tail") | (with_reducible refine List.mem_append_left _ ?_; k_extra "mine tail")
  k_with "mine sub" => first | (with_reducible exact List.forall_mem_nil _) | (with_reducible refine fmc (by intros; k_extra "mine in") ?_; k_extra "mine sub") | (with_reducible refine fma ?_ ?_ <;> k_extra "mine sub") | (intro p hp; intros; first | contradiction | k_extra "mine tail")
  k_with "mine omega" => first | ((with_reducible show _ < recursionLimit); first | exact rm0 (by assumption) | exact rq 1 | exact rq 2 | exact rq 3 | exact rq 4 | exact rq 11 | exact rq 21 | exact rq 41 | exact rq2 3) | ((with_reducible show _ < cLine); first | exact rq 3 | exact rq 4 | exact rq 23 | exact rq 43 | exact rq 83 | exact rq 403 | exact rq 61 | exact rq 103 | exact rq2 80) | with_reducible exact sAdd (by decide) | with_reducible exact sAdd2 (by decide)
  k_with "mine ne" => with_reducible first | assumption | exact Ne.symm (by assumption) | exact Nat.ne_of_gt (by assumption) | exact Nat.ne_of_lt (by assumption) | fail ""
  k_with "mine stop" => with_reducible first
    | show Exists _
    | show LCg.CompSrc ..
    | show LCg.CompEnd ..
    | show LoopOn ..
    | show Turned ..
    | show wpAny _ _ (exec (Stmt.While ..) _) ..
    | show wpAny _ _ (exec (Stmt.For ..) _) ..
    | show wpAny _ _ (exec (Stmt.FunctionDef ..) _) ..
    | show wpAny _ _ (eval (Expr.ListComp ..) _) ..
    | show wpAny _ _ (call (Value.builtin "int.to_bytes") _) ..
    | show wpAny _ _ (call (Value.ref _) [Value.bytes .., Value.str ..]) ..
    | ((fail_if_success k_extra "mine calls"); show wpAny _ _ (call (Value.ref (OfNat.ofNat _)) _) ..)
  k_with "eval Name" => (kc_free; (rename News _ _ _ _ => nq9); k_dflt (refine' nameX_F nq9 (by rfl) (by k_mem) (by with_reducible assumption) ?_ (by rfl) (by rfl); k_whole))
  k_with "call builtin:len" => ((rename News _ _ _ _ => nq9); k_dflt (refine' len_news nq9 (by k_mem) (by (simp only [List.length_append, List.length_cons, List.length_nil]; omega)) ?_; k_whole))
  trivial
section
def onF (n : Nat) : Nat := (256 ^ n - 1) / 255
def packN (n : Nat) : Prop := n = 4 ∨ n = 5 ∨ n = 6 ∨ n = 9 ∨ n = 16
theorem pack4 {n : Nat} (h : packN n) : 4 ≤ n := by rcases h with rfl | rfl | rfl | rfl | rfl <;> decide
theorem onF_top {n : Nat} (h : packN n) : (onF n).testBit (8 * (n - 1)) = true := by
  rcases h with rfl | rfl | rfl | rfl | rfl <;> decide +kernel
theorem onF_27 {n : Nat} (h : packN n) : onF n * 27 < 256 ^ n := by
  rcases h with rfl | rfl | rfl | rfl | rfl <;> decide +kernel
theorem pow256 (n : Nat) : 256 ^ n = 2 ^ (8 * n) := by rw [Nat.pow_mul]
theorem rowNext_lt {n r : Nat} (h : packN n) (hr : r < 256 ^ n) : ((r ^^^ (((r >>> 7) &&& onF n) <<< 7)) <<< 1) ^^^ (((r >>> 7) &&& onF n) * 27) < 256 ^ n := by
  have hn : 1 ≤ n := Nat.le_trans (by decide) (pack4 h)
  have h27 := onF_27 h
  have htop := onF_top h
  rw [pow256] at *
  refine Nat.xor_lt_two_pow ?_ ?_
  · have h1 : r ^^^ (((r >>> 7) &&& onF n) <<< 7) < 2 ^ (8 * n - 1) := by
      refine Nat.lt_pow_two_of_testBit _ fun i hi => ?_
      rcases Nat.lt_or_ge i (8 * n) with h2 | h2
      · have e : i = 8 * (n - 1) + 7 := by
          cases n with
          | zero => cases hn
          | succ n => exact Nat.le_antisymm (Nat.le_of_lt_succ h2) hi
        subst e
        simp only [Nat.testBit_xor, Nat.testBit_shiftLeft, Nat.testBit_and, Nat.testBit_shiftRight]
        rw [show 8 * (n - 1) + 7 - 7 = 8 * (n - 1) from rfl, htop, show 7 + 8 * (n - 1) = 8 * (n - 1) + 7 from Nat.add_comm _ _]
        simp
      · have b1 : r.testBit i = false := Nat.testBit_lt_two_pow (Nat.lt_of_lt_of_le hr (Nat.pow_le_pow_right (by decide) h2))
        have h3 : (((r >>> 7) &&& onF n) <<< 7) < 2 ^ (8 * n) := rowTop_lt hr
        have b2 : (((r >>> 7) &&& onF n) <<< 7).testBit i = false := Nat.testBit_lt_two_pow (Nat.lt_of_lt_of_le h3 (Nat.pow_le_pow_right (by decide) h2))
        rw [Nat.testBit_xor, b1, b2]; rfl
    rw [Nat.shiftLeft_eq]
    have : 2 ^ (8 * n) = 2 ^ (8 * n - 1) * 2 := by rw [← Nat.pow_succ]; congr 1; exact (Nat.sub_add_cancel (Nat.le_trans hn (Nat.le_mul_of_pos_left n (by decide)))).symm
    omega
  · have h1 : (r >>> 7) &&& onF n ≤ onF n := Nat.and_le_right
    have : ((r >>> 7) &&& onF n) * 27 ≤ onF n * 27 := Nat.mul_le_mul_right _ h1
    omega
theorem gtS_pack {n : Nat} (h : packN n) : ∀ (k a r d : Nat), r < 256 ^ n → d < 256 ^ n → gtS k a r (onF n) d < 256 ^ n
  | 0, _, _, _, _, hd => hd
  | k + 1, a, r, d, hr, hd => by
    unfold gtS
    split
    · exact hd
    · refine gtS_pack h k _ _ _ (rowNext_lt h hr) ?_
      split
      · rw [pow256] at *; exact Nat.xor_lt_two_pow hd hr
      · exact hd
theorem gt_pack {n a r : Nat} (h : packN n) (hr : r < 256 ^ n) : gt a r (onF n) < 256 ^ n := gtS_pack h 8 a r 0 hr (Nat.pow_pos (by decide))
theorem xor256 {n a b : Nat} (ha : a < 256 ^ n) (hb : b < 256 ^ n) : a ^^^ b < 256 ^ n := by rw [pow256] at *; exact Nat.xor_lt_two_pow ha hb
theorem freeF_pack {n x : Nat} (h : packN n) : ∀ (l : List Nat) (f : Nat), f < 256 ^ n → (∀ r ∈ l, r < 256 ^ n) → freeF x (onF n) l f < 256 ^ n
  | [], f, hf, _ => hf
  | r :: l, f, hf, hl => freeF_pack h l _ (xor256 (gt_pack h hf) (hl r (by simp))) fun q hq => hl q (by simp [hq])
theorem shareF_pack {n sc dg x : Nat} {rows : List Nat} (h : packN n) (hs : sc < 256 ^ n) (hd : dg < 256 ^ n) (hr : ∀ r ∈ rows, r < 256 ^ n) : shareF sc dg rows x (onF n) < 256 ^ n := by
  unfold shareF
  refine xor256 (xor256 hs (gt_pack h (xor256 hs hd))) ?_
  cases rows with
  | nil => exact Nat.pow_pos (by decide)
  | cons r l => exact gt_pack h (freeF_pack h l _ (hr r (by simp)) fun q hq => hr q (by simp [hq]))
end
local macro_rules | `(tactic| k_all) => `(tactic| with_reducible assumption)
theorem lay_lev11 : True := by
  k_with_none
  k_with "mine stop" => with_reducible first
    | show wpAny _ _ (exec (Stmt.While ..) _) ..
    | show wpAny _ _ (exec (Stmt.For ..) _) ..
    | ((fail_if_success k_extra "mine calls"); show wpAny _ _ (call (Value.ref _) _) ..)
  k_with "mine ext" => ((rename Ext _ _ => eq9); (rename Fr _ _ _ _ => fq9); (rename News _ _ _ _ => nq9); (replace fq9 := frExt fq9 eq9); (replace nq9 := newsExt nq9 eq9); (try k_sweep); clear eq9; (try dsimp only); revert fq9 nq9; intro _ _)
  k_with "mine cx" => exact ⟨Frag.In.keeps (by assumption) (Fr.keep (by assumption)), Top.keeps (by assumption) (Fr.keep (by assumption)), by (try dsimp only [tp, Around.deeper]); omega, by (try dsimp only [tp, Around.deeper]); omega⟩
  k_with "mine list" => first | assumption | exact (by assumption : Heap.IsList _ _ _).at (fun o e => (by assumption : Fr _ _ _ _).keep _ _ e)
  k_with "mine steps" => repeat' ((fail_if_success (k_extra "mine stop")); first | (k_unfold; (try dsimp only)) | (walk1 <;> try ((fail_if_success (with_reducible show wpAny _ _ (subscriptTail ..) ..)); dsimp only)) | (dsimp only; walk1) | fail "no step")
  k_with "mine nat" => first | (with_reducible exact rfl) | k_dflt (exact natlit _) | k_dflt (exact rfl)
  k_with "mine b" => first | with_reducible assumption | decide | assumption | exact Nat.pow_pos (by decide) | omega
  k_with "binaryOp BitXor int int" => (refine' xor_n (by k_extra "mine nat") (by k_extra "mine nat") ?_; try dsimp only)
  k_with "binaryOp BitAnd int int" => (refine' and_n (by k_extra "mine nat") (by k_extra "mine nat") ?_; try dsimp only)
  k_with "binaryOp RShift int int" => (refine' shr_n (by k_extra "mine nat") (by k_extra "mine nat") ?_; try dsimp only)
  k_with "binaryOp LShift int int" => k_dflt (refine' shl_z (by k_extra "mine nat") (by omega) (by omega) (by k_extra "mine b") (by decide) ?_; (try dsimp only))
  k_with "binaryOp LShift int int" => (refine' shl_n (by k_extra "mine nat") (by k_extra "mine nat") (by k_extra "mine b") (by decide) (by k_extra "mine b") ?_; try dsimp only)
  k_with "binaryOp Add int int" => (refine' add_n (by k_extra "mine nat") (by k_extra "mine nat") ?_; try dsimp only)
  k_with "binaryOp Mult int int" => (refine' mul_n (by k_extra "mine nat") (by k_extra "mine nat") (by k_extra "mine b") (by decide) (by k_extra "mine b") (by decide) ?_; try dsimp only)
  k_with "binaryOp FloorDiv int int" => (refine' fdiv_n (by k_extra "mine nat") (by k_extra "mine nat") (by decide) (by decide) ?_; try dsimp only)
  k_with "binaryOp Mod int int" => (refine' mod_z (by k_extra "mine nat") (by k_extra "mine b") ?_; (try dsimp only))
  k_with "binaryOp Mod int int" => (refine' mod_n (by k_extra "mine nat") (by k_extra "mine nat") (by k_extra "mine b") ?_; try dsimp only)
  k_with "binaryOp Sub int int" => (refine' sub_n (by k_extra "mine nat") (by k_extra "mine nat") (by k_extra "mine b") ?_; try dsimp only)
  k_with "binaryOp Pow int int" => (refine' pow_n (by k_extra "mine nat") (by k_extra "mine nat") (by k_extra "mine b") (by k_extra "mine b") ?_; try dsimp only)
  k_with "compareOp Gt int int" => refine' gt_n (by k_extra "mine nat") (by k_extra "mine nat") ?_
  k_with "compareOp Lt int int" => refine' lt_n (by k_extra "mine nat") (by k_extra "mine nat") ?_
  k_with "compareOp Eq int int" => refine' eq_n (by k_extra "mine nat") (by k_extra "mine nat") ?_
  k_with "compareOp NotEq int int" => refine' ne_n (by k_extra "mine nat") (by k_extra "mine nat") ?_
  k_with "mine ret" => (intro _; constructor; intro _ _ _; k_extra "mine ext")
  k_with "mine in" => first | exact me 0 rfl | exact me 1 rfl | exact me 2 rfl | exact me 3 rfl | exact me 4 rfl | exact me 5 rfl | exact me 6 rfl | exact me 7 rfl | exact me 8 rfl | exact me 9 rfl | exact me 10 rfl | exact me 11 rfl | exact me 12 rfl | exact me 13 rfl | exact me 14 rfl | exact me 15 rfl | exact me 16 rfl | exact me 17 rfl | exact me 18 rfl | exact me 19 rfl | (with_reducible refine List.mem_append_right _ ?_; k_extra "mine in") | (with_reducible refine List.mem_append_left _ ?_; k_extra "mine in") | (with_reducible refine List.mem_cons_of_mem _ ?_; k_extra "mine in")
  k_with "mine tail" => first | with_reducible assumption | (with_reducible refine List.mem_cons_of_mem _ ?_; k_extra "mine tail") | (with_reducible refine List.mem_append_right _ ?_; k_extra "mine tail") | (with_reducible refine List.mem_append_left _ ?_; k_extra "mine tail")
  k_with "mine sub" => first | (with_reducible exact List.forall_mem_nil _) | (with_reducible refine fmc (by intros; k_extra "mine in") ?_; k_extra "mine sub") | (with_reducible refine fma ?_ ?_ <;> k_extra "mine sub") | (intro p hp; intros; first | contradiction | k_extra "mine tail")
  k_with "mine omega" => first | ((with_reducible show _ < recursionLimit); first | exact rm0 (by assumption) | exact rq 1 | exact rq 2 | exact rq 3 | exact rq 4 | exact rq 11 | exact rq 21 | exact rq 41 | exact rq2 3) | ((with_reducible show _ < cLine); first | exact rq 3 | exact rq 4 | exact rq 23 | exact rq 43 | exact rq 83 | exact rq 403 | exact rq 61 | exact rq 103 | exact rq2 80) | with_reducible exact sAdd (by decide) | with_reducible exact sAdd2 (by decide)
  k_with "mine ne" => with_reducible first | assumption | exact Ne.symm (by assumption) | exact Nat.ne_of_gt (by assumption) | exact Nat.ne_of_lt (by assumption) | fail ""
  k_with "mine stop" => with_reducible first
    | show Exists _
    | show LCg.CompSrc ..
    | show LCg.CompEnd ..
    | show LoopOn ..
    | show Turned ..
    | show wpAny _ _ (exec (Stmt.While ..) _) ..
    | show wpAny _ _ (exec (Stmt.For ..) _) ..
    | show wpAny _ _ (exec (Stmt.FunctionDef ..) _) ..
    | show wpAny _ _ (eval (Expr.ListComp ..) _) ..
    | show wpAny _ _ (call (Value.builtin "int.to_bytes") _) ..
    | show wpAny _ _ (call (Value.ref _) [Value.bytes .., Value.str ..]) ..
    | ((fail_if_success k_extra "mine calls"); show wpAny _ _ (call (Value.ref (OfNat.ofNat _)) _) ..)
  k_with "eval Name" => (kc_free; (rename News _ _ _ _ => nq9); k_dflt (refine' nameX_F nq9 (by rfl) (by k_mem) (by with_reducible assumption) ?_ (by rfl) (by rfl); k_whole))
  k_with "call builtin:len" => ((rename News _ _ _ _ => nq9); k_dflt (refine' len_news nq9 (by k_mem) (by (simp only [List.length_append, List.length_cons, List.length_nil]; omega)) ?_; k_whole))
  k_with "mine stop" => with_reducible first
    | show Exists _
    | show LCg.CompSrc ..
    | show LCg.CompEnd ..
    | show LoopOn ..
    | show Turned ..
    | show wpAny _ _ (exec (Stmt.While ..) _) ..
    | show wpAny _ _ (exec (Stmt.For ..) _) ..
    | show wpAny _ _ (exec (Stmt.Assign _ (Expr.ListComp ..) _) _) ..
    | show wpAny _ _ (eval (Expr.ListComp ..) _) ..
    | show wpAny _ _ (call (Value.builtin "int.to_bytes") _) ..
    | ((fail_if_success k_extra "mine calls"); show wpAny _ _ (call (Value.ref _) _) ..)
  k_with "subscriptTail" => ((with_reducible show wpAny _ _ (subscriptTail _ (Expr.Slice none (some _) ..) (Value.bytes ..) (Value.ref _)) ..); (with_reducible rename Fr _ _ _ _ => fq9); (with_reducible rename News _ _ _ _ => nq9); k_dflt (refine' slice_upto (s := ⟨_, _, _, _, _⟩) fq9 nq9 (by k_extra "mine nat") (by k_extra "mine b") ?_); clear fq9 nq9; intro _ _ _ _ _; (try dsimp only))
  k_with "subscriptTail" => ((with_reducible show wpAny _ _ (subscriptTail _ (Expr.Slice (some _) none ..) (Value.bytes ..) (Value.ref _)) ..); (with_reducible rename Fr _ _ _ _ => fq9); (with_reducible rename News _ _ _ _ => nq9); k_dflt (refine' slice_from (s := ⟨_, _, _, _, _⟩) fq9 nq9 (by k_extra "mine nat") (by k_extra "mine b") ?_); clear fq9 nq9; intro _ _ _ _ _; (try dsimp only))
  k_with "binaryOp Add bytes bytes" => (k_dflt (refine' KBy.add_bytes (by with_reducible assumption) ?_); intro _ _; (try dsimp only))
  trivial
section
open LCg (lst)
section
variable {g h h' : Heap} {L P : Addr} {m : Str → Option Value} {news : List (Addr × Obj)} {G : Obj → List (Addr × Obj)} {o o' : Obj}
theorem newsPut (N : News g L h news) (U : UpdF P o news G) (k : ExtP P h h') (e : h'.get? P = some o') : News g L h' (G o') := by
  obtain ⟨pre, post, rfl, hG, h1, h2⟩ := U.split
  rw [hG]
  intro p hp
  rcases List.mem_append.mp hp with hp | hp
  · have n := N p (List.mem_append_left _ hp)
    exact ⟨k _ _ (h1 p hp) n.1, n.2⟩
  · rcases List.mem_cons.mp hp with rfl | hp
    · exact ⟨e, (N _ (List.mem_append_right _ (.head _))).2⟩
    · have n := N p (List.mem_append_right _ (.tail _ hp))
      exact ⟨k _ _ (h2 p hp) n.1, n.2⟩
theorem frPut (F : Fr g L h m) (N : News g L h news) (hm : (P, o) ∈ news) (hd : ∀ es ep, o.data ≠ .dict es ep) (k : ExtP P h h') : Fr g L h' m := frP F (N _ hm).2.2 (N _ hm).1 hd k
theorem newsAdd {nw : List (Addr × Obj)} (F : Fr g L h m) (N : News g L h' news) (hn : ∀ p ∈ nw, h'.get? p.1 = some p.2 ∧ h.get? p.1 = none) : News g L h' (nw ++ news) := by
  intro p hp
  rcases List.mem_append.mp hp with hp | hp
  · obtain ⟨a, b⟩ := hn p hp
    refine ⟨a, fun q => ?_, ?_⟩
    · obtain ⟨oL, es, ep, e, r⟩ := F.ns
      rw [q, e] at b; cases b
    · cases q : g.get? p.1 with
      | none => rfl
      | some o => rw [F.keep _ _ q] at b; cases b
  · exact N p hp
theorem newsOff {nw : List (Addr × Obj)} (N : News g L h news) (hn : ∀ p ∈ nw, h.get? p.1 = none) : ∀ p ∈ news, ∀ q ∈ nw, @Ne Nat q.1 p.1 := fun p hp q hq e => by
  have := hn q hq
  rw [e, (N p hp).1] at this; cases this
end
theorem HmacAt.on {w : World} {g G : Heap} {obs : List (Addr × Obj)} {f heard : Addr} {cap : Nat} {ans : Array UInt8 → Array UInt8 → Array UInt8} (H : HmacAt w g obs f heard cap ans) (e : Ext g G) (ho : HoldsAll G obs) : HmacAt w G [] f heard cap ans := by
  refine ⟨fun h e' _ => H.fn h (e.trans e') fun p hp => e' _ _ (ho p hp), ?_⟩
  intro dp un fr gd s Q E b1 b2 t1 t2 ys h1 h2 h3 h4
  exact H.call h1 h2 (e.trans h3) fun p hp => h3 _ _ (ho p hp)
theorem HmacAt.mono {w : World} {G G' : Heap} {f heard : Addr} {cap : Nat} {ans : Array UInt8 → Array UInt8 → Array UInt8} (H : HmacAt w G [] f heard cap ans) (e : Ext G G') : HmacAt w G' [] f heard cap ans := H.on e fun p hp => nomatch hp
theorem ChanceAt.on {w : World} {g G : Heap} {obs : List (Addr × Obj)} {f asked : Addr} {ds : List (Array UInt8 × Tok)} (H : ChanceAt w g obs f asked ds) (e : Ext g G) (ho : HoldsAll G obs) : ChanceAt w G [] f asked ds := by
  refine ⟨fun h e' _ => H.fn h (e.trans e') fun p hp => e' _ _ (ho p hp), ?_⟩
  intro dp un fr gd s Q E z t u ys b h1 h2 h3 h4
  exact H.call h1 h2 (e.trans h3) fun p hp => h3 _ _ (ho p hp)
theorem ChanceAt.mono {w : World} {G G' : Heap} {f asked : Addr} {ds : List (Array UInt8 × Tok)} (H : ChanceAt w G [] f asked ds) (e : Ext G G') : ChanceAt w G' [] f asked ds := H.on e fun p hp => nomatch hp
section
variable {w : World} {loose : List Str} {mean : ExcName → Option Value} {mg mb : Str → Option Value} {dp un : Nat} {fr : Option (List Env)} {gd : Option (List Code)} {s : Shared} {Q E : Value → Shared → Prop}
theorem create_spec {g : Heap} (X : (hd.heap_39 w.params).In g) (T : Top topProg loose mean mg mb g) (e : Ext g s.heap) (hd' : dp + 20 < recursionLimit) (hu : un + 400 < cLine) {fh heard : Addr} (hg : g.get? heard = none)
    {cap : Nat} {ans : Array UInt8 → Array UInt8 → Array UInt8} (H : HmacAt w g [] fh heard cap ans) {ys : List Value} (hys : s.heap.get? heard = some (lst ys)) {b1 b2 : Array UInt8} {t1 t2 : Tok} (h1 : b1.size ≤ cap) (h2 : b2.size ≤ cap) (hyl : ys.length < 20) (ha : (ans b1 b2).size ≤ 100000)
    (hQ : ∀ h' tk T u, ExtP heard s.heap h' → s.heap.get? T = none → h'.get? T = some { cls := .type "tuple", data := .seq #[.bytes b1 t1, .bytes b2 t2] 0 } → h'.get? heard = some (lst (ys ++ [.ref T])) → Q (.bytes (cutT 4 (ans b1 b2)) u) { s with heap := h', toks := tk }) :
    wpAny (model P1 w) (tp dp fr gd un) (call (.ref 162) [.bytes b1 t1, .bytes b2 t2, .ref fh]) Q E s := by
  have Xs := X.keeps e
  have Ts := T.keeps e
  refine' enterH (S := [heard]) (news := [(heard, lst ys)]) (binds := [("random_data", .bytes b1 t1), ("shared_secret", .bytes b2 t2), ("hmac_sha256", .ref fh)]) ?k1 ?k2 ?k3 ?k4 ?k5 ?k6 ?k7 ?k8 ?k9 ?k10 ?k11 ?kN ?_
  case k1 => exact Xs
  case k2 => exact Ts.nolimit
  case k3 => k_is
  case k4 => k_is
  case k5 => dsimp only; omega
  case k6 => first | exact BindsTo.of_eq rfl | exact binds_K Xs rfl (by k_is) rfl rfl rfl
  case k7 => exact locs rfl
  case k8 => decide
  case k9 => exact rfl
  case k10 => exact rfl
  case k11 => exact rfl
  case kN =>
    intro p hp
    rw [List.mem_singleton.mp hp]
    exact ⟨hys, by simp⟩
  k_whole
  intro h₁ F1 N1
  have eg : Ext g (hideAll s.heap [heard]) := ext_hide e fun a ha => by rw [List.mem_singleton.mp ha]; exact hg
  have XG := X.keeps eg
  have TG := T.keeps eg
  have fnH : FnOn (hideAll s.heap [heard]) fh := fun h e => H.fn h (eg.trans e) fun p hp => nomatch hp
  k_extra "mine steps"
  refine callWith_F (FnOn.at fnH (Fr.keep (by assumption))) ?_
  k_whole
  iterate 5 walk1
  refine ⟨FnOn.at fnH (Fr.keep (by assumption)), ?_⟩
  try dsimp only [List.nil_append, List.cons_append]
  rename Fr _ _ _ _ => F3
  rename News _ _ _ _ => N3
  refine H.call (ys := ys) (by dsimp only [tp, Around.deeper]; omega) (by dsimp only [tp, Around.deeper]; omega) (eg.trans F3.keep) (fun p hp => nomatch hp) (N3 _ (.head _)).1 h1 h2 hyl fun h' tk' T u k nT eT eh => ?_
  have F4 := frPut F3 N3 (.head _) (by intro es ep q; cases q) k
  have N4 := newsPut N3 (by k_updF) k eh
  have nT' : s.heap.get? T = none := none_of_hide (none_ext F3.keep nT) (by
    rw [List.mem_singleton]
    rintro rfl
    rw [(N3 _ (.head _)).1] at nT; cases nT)
  have N5 := newsAdd (nw := [(T, { cls := .type "tuple", data := .seq #[.bytes b1 t1, .bytes b2 t2] 0 })]) F3 N4 (fun p hp => by rw [List.mem_singleton.mp hp]; exact ⟨eT, nT⟩)
  clear F3 N3 N4
  simp only [List.cons_append, List.nil_append] at N5
  try dsimp only
  k_extra "mine steps"
  rename Fr _ _ _ _ => F6
  rename News _ _ _ _ => N6
  refine hQ _ _ T _ (fun b o n q => F6.keep _ _ (hideAll_get _ q (by simpa using n))) nT' (N6 (T, _) (.head _)).1 (N6 (heard, _) (by k_mem)).1
end
end
section
open LCg (lst)
section
variable {w : World} {loose : List Str} {mean : ExcName → Option Value} {mg mb : Str → Option Value} {dp un : Nat} {fr : Option (List Env)} {gd : Option (List Code)} {s : Shared} {Q E : Value → Shared → Prop}
theorem cutD_size (n : Nat) (b : Array UInt8) : (cutD n b).size = b.size - n := by simp [cutD]
theorem interpB_size {shs : List Sh} {n : Nat} (hbn : ∀ q ∈ shs, q.b.size = n) (x0 : Nat) : (interpB shs x0 n).size = n := by
  unfold interpB
  split
  · rename_i q hq
    exact hbn q (List.mem_of_find?_eq_some hq)
  · exact lagr_size hbn _
theorem interp_led {g : Heap} {L : Addr} {m : Str → Option Value} {news : List (Addr × Obj)} {ps : Array Value} {G : Obj → List (Addr × Obj)} (F : Fr g L s.heap m) (N : News g L s.heap news) (U : UpdF 150 (tabObj ps) news G) (hm : (150, tabObj ps) ∈ news) (tri : TriplesOk ps.toList)
    (X : (hd.heap_39 w.params).In g) (T : Top topProg loose mean mg mb g) (CG : CodeHd g 154 150) (hd' : dp + 20 < recursionLimit) (hu : un + 400 < cLine) {l : Addr} {shs : List Sh} {x : Int} {x0 : Nat} {tx : Tok} (hx : x = (x0 : Int)) (hl : s.heap.IsList l (shVals shs)) (hsh : ∀ q ∈ shs, ShAt s.heap q)
    (hnd : (shs.map Sh.x).Nodup) {n : Nat} (hbn : ∀ q ∈ shs, q.b.size = n) (hne : shs ≠ []) (hlen : shs.length ≤ 10) (hn1 : n ≤ 1000) (hxs : ∀ q ∈ shs, q.x < 256) (hx0 : x0 < 256)
    (hQ : ∀ h' tk gs dr ps' u, Fr g L h' m → News g L h' (G (tabObj ps')) → TriplesOk ps'.toList → GB s.gens gs → Q (.bytes (interpB shs x0 n) u) { s with heap := h', toks := tk, gens := gs, drawn := dr }) :
    wpAny (model P1 w) (tp dp fr gd un) (call (.ref 155) [.ref l, .int x tx]) Q E s := by
  subst hx
  refine interp_spec (loose := loose) (mean := mean) (mg := mg) (mb := mb) ⟨X.keeps F.keep, T.keeps F.keep, tb_of CG tri F.keep N hm, hd', hu⟩ hl hsh hnd hbn hne hlen hn1 hxs hx0 fun h' tk gs dr u k t5 G' => ?_
  obtain ⟨ps', hok, htab⟩ := t5
  have tri' : TriplesOk ps'.toList := by
    exact tri_of hok htab
  exact hQ h' tk gs dr ps' u (frPut F N hm (by intro es ep q; cases q) k) (newsPut N U k htab.2) tri' G'
theorem create_led {g : Heap} {L : Addr} {m : Str → Option Value} {news : List (Addr × Obj)} {G : Obj → List (Addr × Obj)} {heard fh : Addr} {ys : List Value} (F : Fr g L s.heap m) (N : News g L s.heap news) (U : UpdF heard (lst ys) news G) (hm : (heard, lst ys) ∈ news)
    (X : (hd.heap_39 w.params).In g) (T : Top topProg loose mean mg mb g) (hd' : dp + 20 < recursionLimit) (hu : un + 400 < cLine)
    {cap : Nat} {ans : Array UInt8 → Array UInt8 → Array UInt8} (H : HmacAt w g [] fh heard cap ans) {b1 b2 : Array UInt8} {t1 t2 : Tok} (h1 : b1.size ≤ cap) (h2 : b2.size ≤ cap) (hyl : ys.length < 20) (ha : (ans b1 b2).size ≤ 100000)
    (hQ : ∀ h' tk T u, Fr g L h' m → News g L h' ((T, { cls := .type "tuple", data := .seq #[.bytes b1 t1, .bytes b2 t2] 0 }) :: G (lst (ys ++ [.ref T]))) → (∀ p ∈ news, @Ne Nat T p.1) → s.heap.get? T = none → Q (.bytes (cutT 4 (ans b1 b2)) u) { s with heap := h', toks := tk }) :
    wpAny (model P1 w) (tp dp fr gd un) (call (.ref 162) [.bytes b1 t1, .bytes b2 t2, .ref fh]) Q E s := by
  refine create_spec X T F.keep hd' hu (N _ hm).2.2 H (N _ hm).1 h1 h2 hyl ha fun h' tk T u k nT eT eh => ?_
  have F4 := frPut F N hm (by intro es ep q; cases q) k
  have N4 := newsPut N U k eh
  have N5 := newsAdd (nw := [(T, { cls := .type "tuple", data := .seq #[.bytes b1 t1, .bytes b2 t2] 0 })]) F N4 (fun p hp => by rw [List.mem_singleton.mp hp]; exact ⟨eT, nT⟩)
  exact hQ h' tk T u F4 N5 (fun p hp => newsOff N (nw := [(T, { cls := .type "tuple", data := .seq #[.bytes b1 t1, .bytes b2 t2] 0 })]) (fun p hp => by rw [List.mem_singleton.mp hp]; exact nT) p hp _ (.head _)) nT
theorem recover_core {g : Heap} (X : (hd.heap_39 w.params).In g) (T : Top topProg loose mean mg mb g) (e : Ext g s.heap) (hd' : dp + 60 < recursionLimit) (hu : un + 1000 < cLine) {fh heard : Addr} (hg : g.get? heard = none) (hg1 : g.get? 150 = none) (ht : CodeHd g 154 150)
    {ps : Array Value} (hP : s.heap.get? 150 = some (tabObj ps)) (tri : TriplesOk ps.toList)
    {cap : Nat} {ans : Array UInt8 → Array UInt8 → Array UInt8} (H : HmacAt w (hideAll s.heap [150, heard]) [] fh heard cap ans) {ys : List Value} (hys : s.heap.get? heard = some (lst ys)) (hyl : ys.length < 20)
    {l : Addr} {shs : List Sh} {t : Nat} {tt : Tok} (ht2 : 2 ≤ t) (ht3 : t < 1000) (hl : (hideAll s.heap [150, heard]).IsList l (shVals shs)) (hsh : ∀ q ∈ shs, ShAt (hideAll s.heap [150, heard]) q) (hnd : (shs.map Sh.x).Nodup) {n : Nat} (hbn : ∀ q ∈ shs, q.b.size = n) (hne : shs ≠ []) (hlen : shs.length ≤ 10) (hn1 : n ≤ cap) (hcap : cap ≤ 1000) (hx : ∀ q ∈ shs, q.x < 256)
    (ha : ∀ b1 b2, (ans b1 b2).size ≤ 100000)
    (hQ : cutT 4 (interpB shs 254 n) = cutT 4 (ans (cutD 4 (interpB shs 254 n)) (interpB shs 255 n)) → ∀ h' tk gs dr ps' T u u1 u2, (∀ b o, b ≠ 150 → b ≠ heard → s.heap.get? b = some o → h'.get? b = some o) → h'.get? 150 = some (tabObj ps') → TriplesOk ps'.toList → GB s.gens gs → s.heap.get? T = none →
      h'.get? T = some { cls := .type "tuple", data := .seq #[.bytes (cutD 4 (interpB shs 254 n)) u1, .bytes (interpB shs 255 n) u2] 0 } → h'.get? heard = some (lst (ys ++ [.ref T])) → Q (.bytes (interpB shs 255 n) u) { s with heap := h', toks := tk, gens := gs, drawn := dr })
    (hE : ¬ cutT 4 (interpB shs 254 n) = cutT 4 (ans (cutD 4 (interpB shs 254 n)) (interpB shs 255 n)) → ∀ env8 h8 h9 tk gs dr ps' T u1 u2 x args, env8.frame = some s.heap.objs.size → env8.scope.kind ≠ .module → (∀ b o, b ≠ 150 → b ≠ heard → s.heap.get? b = some o → h8.get? b = some o) → h8.get? 150 = some (tabObj ps') → TriplesOk ps'.toList → GB s.gens gs → s.heap.get? T = none →
      h8.get? T = some { cls := .type "tuple", data := .seq #[.bytes (cutD 4 (interpB shs 254 n)) u1, .bytes (interpB shs 255 n) u2] 0 } → h8.get? heard = some (lst (ys ++ [.ref T])) → (∃ o2, h8.get? s.heap.objs.size = some o2 ∧ ∀ vs, o2.data ≠ .fields vs) → T ≠ s.heap.objs.size → Heap.MadeExcOf h8 h9 x (.ref 31) args →
      wpAny (model P1 w) ((tp dp fr gd un).deeper env8) (leaving env8 (.ref x)) (fun _ s'' => E (.ref x) s'') (fun e' s'' => E e' s'') { s with heap := h9, toks := tk, gens := gs, drawn := dr }) :
    wpAny (model P1 w) (tp dp fr gd un) (call (.ref 174) [.int t tt, .ref l, .ref fh]) Q E s := by
  have Xs := X.keeps e
  have Ts := T.keeps e
  refine' enterHE (S := [150, heard]) (news := [(heard, lst ys), (150, tabObj ps)]) (binds := [("threshold", .int t tt), ("shares", .ref l), ("hmac_sha256", .ref fh)]) ?k1 ?k2 ?k3 ?k4 ?k5 ?k6 ?k7 ?k8 ?k9 ?k10 ?k11 ?kN ?_
  case k1 => exact Xs
  case k2 => exact Ts.nolimit
  case k3 => k_is
  case k4 => k_is
  case k5 => dsimp only; omega
  case k6 => first | exact BindsTo.of_eq rfl | exact binds_K Xs rfl (by k_is) rfl rfl rfl
  case k7 => exact locs rfl
  case k8 => decide
  case k9 => exact rfl
  case k10 => exact rfl
  case k11 => exact rfl
  case kN =>
    intro p hp
    simp only [List.mem_cons, List.not_mem_nil, or_false] at hp
    rcases hp with rfl | rfl
    · exact ⟨hys, by simp⟩
    · exact ⟨hP, by simp⟩
  k_whole
  intro h₁ F1 N1
  have eg : Ext g (hideAll s.heap [150, heard]) := ext_hide e fun a ha => by
    simp only [List.mem_cons, List.not_mem_nil, or_false] at ha
    rcases ha with rfl | rfl <;> assumption
  have XG := X.keeps eg
  have TG := T.keeps eg
  have CG := ht.keeps eg
  have fnH : FnOn (hideAll s.heap [150, heard]) fh := fun h e => H.fn h e fun p hp => nomatch hp
  have hne150 : @Ne Nat heard 150 := fun q => by rw [q, hP] at hys; cases hys
  have up : ∀ b o, b ≠ 150 → b ≠ heard → s.heap.get? b = some o → (hideAll s.heap [150, heard]).get? b = some o := fun b o n1 n2 q => hideAll_get _ q (by simp only [List.mem_cons, List.not_mem_nil, or_false, not_or]; exact ⟨n1, n2⟩)
  have nn : ∀ a, (hideAll s.heap [150, heard]).get? a = none → a ≠ 150 → a ≠ heard → s.heap.get? a = none := fun a q n1 n2 => none_of_hide q (by simp only [List.mem_cons, List.not_mem_nil, or_false, not_or]; exact ⟨n1, n2⟩)
  have n150 : (hideAll s.heap [150, heard]).get? 150 = none := hideAll_none _ (by simp)
  generalize hideAll s.heap [150, heard] = g2 at F1 N1 XG TG CG fnH H hl hsh up nn eg n150
  clear X T Xs Ts ht e
  k_extra "mine steps"
  rename Fr _ _ _ _ => F2
  rename News _ _ _ _ => N2
  refine interp_led (x0 := 255) F2 N2 (by k_updF) (by k_mem) tri XG TG CG (by (try dsimp only [tp, Around.deeper]); omega) (by (try dsimp only [tp, Around.deeper]); omega) rfl (hl.at fun o e => F2.keep _ o e) (fun q hq => (hsh q hq).keeps F2.keep) hnd hbn hne hlen (by omega) hx (by decide) fun h3 tk3 gs3 dr3 ps3 u3 F3 N3 tri3 hG3 => ?_
  clear F2 N2
  try dsimp only
  k_extra "mine steps"
  rename Fr _ _ _ _ => F4
  rename News _ _ _ _ => N4
  refine interp_led (x0 := 254) F4 N4 (by k_updF) (by k_mem) tri3 XG TG CG (by (try dsimp only [tp, Around.deeper]); omega) (by (try dsimp only [tp, Around.deeper]); omega) rfl (hl.at fun o e => F4.keep _ o e) (fun q hq => (hsh q hq).keeps F4.keep) hnd hbn hne hlen (by omega) hx (by decide) fun h5 tk5 gs5 dr5 ps5 u5 F5 N5 tri5 hG5 => ?_
  clear F4 N4
  have hG := hG3.trans hG5
  clear hG3 hG5 tri3
  have hsz : ∀ x0, (interpB shs x0 n).size = n := fun x0 => interpB_size hbn x0
  have hs1 : (interpB shs 254 n).size ≤ 100000 := by rw [hsz]; omega
  try dsimp only
  k_extra "mine steps"
  rename Fr _ _ _ _ => F6
  rename News _ _ _ _ => N6
  have hs2 : (cutD 4 (interpB shs 254 n)).size ≤ cap := by rw [cutD_size, hsz]; omega
  have hs3 : (interpB shs 255 n).size ≤ cap := by rw [hsz]; omega
  refine create_led F6 N6 (by k_updF) (by k_mem) XG TG (by (try dsimp only [tp, Around.deeper]); omega) (by (try dsimp only [tp, Around.deeper]); omega) H hs2 hs3 hyl (ha _ _) fun h7 tk7 T7 u7 F7 N7 _ nT7 => ?_
  have nT : s.heap.get? T7 = none := nn _ (none_ext F6.keep nT7) (fun q => by rw [q, (N6 (150, _) (by k_mem)).1] at nT7; cases nT7) (fun q => by rw [q, (N6 (heard, _) (by k_mem)).1] at nT7; cases nT7)
  clear F6 N6 nT7
  try dsimp only
  k_extra "mine steps"
  · rename Heap.MadeExcOf _ _ _ _ _ => hx
    rename (_ != _) = true => hbad
    rename Fr _ _ _ _ => F8
    rename News _ _ _ _ => N8
    obtain ⟨o2, es2, ep2, e82, d82, _⟩ := F8.ns
    exact hE (by simpa using hbad) _ _ _ _ _ _ ps5 T7 _ _ _ _ rfl (by show ScopeKind.function ≠ ScopeKind.module; decide) (fun b o n1 n2 q => F8.keep _ _ (up _ _ n1 n2 q)) (N8 (150, _) (by k_mem)).1 tri5 hG nT (N8 (T7, _) (by k_mem)).1 (N8 (heard, _) (by k_mem)).1 ⟨o2, e82, fun vs q => by rw [d82] at q; cases q⟩ (N8 (T7, _) (by k_mem)).2.1 hx
  · rename (_ != _) = false => hgood
    rename Fr _ _ _ _ => F8
    rename News _ _ _ _ => N8
    exact hQ (by simpa using hgood) _ _ _ _ ps5 T7 u3 _ _ (fun b o n1 n2 q => F8.keep _ _ (up _ _ n1 n2 q)) (N8 (150, _) (by k_mem)).1 tri5 hG nT (N8 (T7, _) (by k_mem)).1 (N8 (heard, _) (by k_mem)).1
theorem recover_spec {g : Heap} (X : (hd.heap_39 w.params).In g) (T : Top topProg loose mean mg mb g) (e : Ext g s.heap) (hd' : dp + 60 < recursionLimit) (hu : un + 1000 < cLine) {fh heard : Addr} (hg : g.get? heard = none) (hg1 : g.get? 150 = none) (ht : CodeHd g 154 150)
    {ps : Array Value} (hP : s.heap.get? 150 = some (tabObj ps)) (tri : TriplesOk ps.toList)
    {cap : Nat} {ans : Array UInt8 → Array UInt8 → Array UInt8} (H : HmacAt w (hideAll s.heap [150, heard]) [] fh heard cap ans) {ys : List Value} (hys : s.heap.get? heard = some (lst ys)) (hyl : ys.length < 20)
    {l : Addr} {shs : List Sh} {t : Nat} {tt : Tok} (ht2 : 2 ≤ t) (ht3 : t < 1000) (hl : (hideAll s.heap [150, heard]).IsList l (shVals shs)) (hsh : ∀ q ∈ shs, ShAt (hideAll s.heap [150, heard]) q) (hnd : (shs.map Sh.x).Nodup) {n : Nat} (hbn : ∀ q ∈ shs, q.b.size = n) (hne : shs ≠ []) (hlen : shs.length ≤ 10) (hn1 : n ≤ cap) (hcap : cap ≤ 1000) (hx : ∀ q ∈ shs, q.x < 256)
    (ha : ∀ b1 b2, (ans b1 b2).size ≤ 100000) (heq : cutT 4 (interpB shs 254 n) = cutT 4 (ans (cutD 4 (interpB shs 254 n)) (interpB shs 255 n)))
    (hQ : ∀ h' tk gs dr ps' T u u1 u2, (∀ b o, b ≠ 150 → b ≠ heard → s.heap.get? b = some o → h'.get? b = some o) → h'.get? 150 = some (tabObj ps') → TriplesOk ps'.toList → GB s.gens gs → s.heap.get? T = none →
      h'.get? T = some { cls := .type "tuple", data := .seq #[.bytes (cutD 4 (interpB shs 254 n)) u1, .bytes (interpB shs 255 n) u2] 0 } → h'.get? heard = some (lst (ys ++ [.ref T])) → Q (.bytes (interpB shs 255 n) u) { s with heap := h', toks := tk, gens := gs, drawn := dr }) :
    wpAny (model P1 w) (tp dp fr gd un) (call (.ref 174) [.int t tt, .ref l, .ref fh]) Q E s :=
  recover_core X T e hd' hu hg hg1 ht hP tri H hys hyl ht2 ht3 hl hsh hnd hbn hne hlen hn1 hcap hx ha (fun _ => hQ) fun h => absurd heq h
end
end
section
open LCg (lst)
theorem sub_toNat (a b : Nat) : b - a = ((b : Int) - (a : Int)).toNat := (Int.toNat_sub b a).symm
theorem up_ne {a L : Nat} (h : a < L) (k : Nat) : @Ne Nat (L + k) a := Nat.ne_of_gt (Nat.lt_of_lt_of_le h (Nat.le_add_right _ _))
theorem cutT_size (n : Nat) (b : Array UInt8) : (cutT n b).size = min n b.size := by simp [cutT]
abbrev rawObj (d : Addr) (v1 v2 : Value) : Obj := ⟨.ref 145, some d, .seq #[v1, v2] 0, #[]⟩
def ShIn (news : List (Addr × Obj)) (q : Sh) : Prop := ∃ d o, (q.a, rawObj d (.int (q.x : Int) q.t) (.bytes q.b q.u)) ∈ news ∧ (d, o) ∈ news ∧ o.cls ≠ .none
theorem ShIn.at {news : List (Addr × Obj)} {q : Sh} {g h : Heap} {L : Addr} (x : ShIn news q) (N : News g L h news) : ShAt h q := let ⟨d, o, a, b, c⟩ := x; ⟨d, o, (N _ a).1, (N _ b).1, c⟩
theorem ShIn.mono {news news' : List (Addr × Obj)} {q : Sh} (x : ShIn news q) (k : ∀ p ∈ news, p ∈ news') : ShIn news' q := let ⟨d, o, a, b, c⟩ := x; ⟨d, o, k _ a, k _ b, c⟩
inductive SplInv1 (ds : List (Array UInt8 × Tok)) (sz : Nat) (asked heard L : Addr) (oc1 oc2 : Obj) (ps : Array Value) (i : Nat) (ys : List Value) (news : List (Addr × Obj)) : Prop
  | mk (shs : List Sh) (shn : List (Addr × Obj)) (zs : List Value) (a1 : shs.length = i) (a2 : ys = shs.map (fun q => Value.ref q.a)) (a3 : ∀ q ∈ shs, ShIn shn q) (a4 : ∀ (j : Nat) (q : Sh), shs[j]? = some q → q.x = j ∧ ds[j]? = some (q.b, q.u)) (a5 : IntsAre zs (List.replicate i (sz : Int)))
      (a6 : ∀ p ∈ shn, @Ne Nat p.1 asked) (a7 : ∀ p ∈ shn, @Ne Nat p.1 heard) (a8 : ∀ p ∈ shn, @Ne Nat p.1 150) (a9 : news = (L + 1 + 1, oc1) :: (L + 1, oc2) :: (asked, lst zs) :: (heard, lst []) :: (150, tabObj ps) :: shn)
inductive SplInv2 (t : Nat) (ds : List (Array UInt8 × Tok)) (two bl : Array UInt8) (ul ts : Tok) (sec : Array UInt8) (D asked heard T9 B : Addr) (shn0 : List (Addr × Obj)) (zs7 vs : List Value) (i : Nat) (n₁ : List (Addr × Obj)) : Prop
  | mk (shs' : List Sh) (shn' : List (Addr × Obj)) (ps' : Array Value) (a1 : shs'.length = t - 2 + i) (a2 : ∀ q ∈ shs', ShIn shn' q) (a3 : ∀ (j : Nat) (q : Sh), shs'[j]? = some q → q.x = j ∧ q.b = splitRow t ds two sec j) (a4 : ∀ p ∈ shn0, p ∈ shn') (a5 : ∀ p ∈ shn', @Ne Nat p.1 D)
      (a6 : ∀ p ∈ shn', @Ne Nat p.1 asked) (a7 : ∀ p ∈ shn', @Ne Nat p.1 heard) (a8 : ∀ p ∈ shn', @Ne Nat p.1 150) (a9 : TriplesOk ps'.toList)
      (a10 : n₁ = (B, { cls := .type "list", data := .seq vs.toArray }) :: (D, lst (shs'.map fun q => Value.ref q.a)) :: (T9, { cls := .type "tuple", data := .seq #[.bytes bl ul, .bytes sec ts] 0 }) :: (asked, lst zs7) :: (heard, lst ([] ++ [Value.ref T9])) :: (150, tabObj ps') :: shn')
section
variable {w : World} {loose : List Str} {mean : ExcName → Option Value} {mg mb : Str → Option Value} {dp un : Nat} {fr : Option (List Env)} {gd : Option (List Code)} {s : Shared} {Q E : Value → Shared → Prop}
theorem chance_led {g : Heap} {L : Addr} {m : Str → Option Value} {news : List (Addr × Obj)} {G : Obj → List (Addr × Obj)} {asked fc : Addr} {ys : List Value} (F : Fr g L s.heap m) (N : News g L s.heap news) (U : UpdF asked (lst ys) news G) (hm : (asked, lst ys) ∈ news)
    (hd' : dp + 3 < recursionLimit) (hu : un + 60 < cLine) {ds : List (Array UInt8 × Tok)} (H : ChanceAt w g [] fc asked ds) {z : Int} {t u : Tok} {b : Array UInt8} (hb : ds[ys.length]? = some (b, u)) (hyl : ys.length < 20)
    (hQ : ∀ h' tk, Fr g L h' m → News g L h' (G (lst (ys ++ [.int z t]))) → Q (.bytes b u) { s with heap := h', toks := tk }) :
    wpAny (model P1 w) (tp dp fr gd un) (call (.ref fc) [.int z t]) Q E s := by
  refine H.call hd' hu F.keep (fun p hp => nomatch hp) (N _ hm).1 hb hyl fun h' tk k eh => ?_
  exact hQ h' tk (frPut F N hm (by intro es ep q; cases q) k) (newsPut N U k eh)
theorem chance_ints {g : Heap} {L : Addr} {m : Str → Option Value} {news : List (Addr × Obj)} {G : Obj → List (Addr × Obj)} {asked fc : Addr} {ys : List Value} (F : Fr g L s.heap m) (N : News g L s.heap news) (U : UpdF asked (lst ys) news G) (hm : (asked, lst ys) ∈ news)
    (hd' : dp + 3 < recursionLimit) (hu : un + 60 < cLine) {ds : List (Array UInt8 × Tok)} (H : ChanceAt w g [] fc asked ds) {z : Int} {t u : Tok} {b : Array UInt8} {ns : List Int} (hzi : IntsAre ys ns) (hb : ds[ys.length]? = some (b, u)) (hyl : ys.length < 20)
    (hQ : ∀ h' tk zs, IntsAre zs (ns ++ [z]) → Fr g L h' m → News g L h' (G (lst zs)) → Q (.bytes b u) { s with heap := h', toks := tk }) :
    wpAny (model P1 w) (tp dp fr gd un) (call (.ref fc) [.int z t]) Q E s :=
  chance_led F N U hm hd' hu H hb hyl fun h' tk F' N' => hQ h' tk _ (IntsAre.append hzi (.cons _ _ .nil)) F' N'
theorem raw_led {g : Heap} {L : Addr} {m : Str → Option Value} {news : List (Addr × Obj)} (F : Fr g L s.heap m) (N : News g L s.heap news) (X : (hd.heap_39 w.params).In g) (T : Top topProg loose mean mg mb g) (hd' : dp + 5 < recursionLimit) (hu : un + 80 < cLine) {v1 v2 : Value}
    (hQ : ∀ x d o h' tk, Fr g L h' m → News g L h' ((x, rawObj d v1 v2) :: (d, o) :: news) → o.cls ≠ .none → (∀ p ∈ news, @Ne Nat x p.1) → (∀ p ∈ news, @Ne Nat d p.1) → s.heap.get? x = none → s.heap.get? d = none → Q (.ref x) { s with heap := h', toks := tk }) :
    wpAny (model P1 w) (tp dp fr gd un) (call (.ref 145) [v1, v2]) Q E s := by
  refine raw_make (loose := loose) (mean := mean) (mg := mg) (mb := mb) ⟨X.keeps F.keep, T.keeps F.keep, hd', hu⟩ ⟨fun x d o h' tk e r1 r2 r3 f fd => ?_⟩
  have F2 := frExt F e
  have N2 := newsExt N e
  have N3 := newsAdd (nw := [(x, rawObj d v1 v2), (d, o)]) F N2 (fun p hp => by
    simp only [List.mem_cons, List.not_mem_nil, or_false] at hp
    rcases hp with rfl | rfl
    · exact ⟨r1, f⟩
    · exact ⟨r2, fd⟩)
  have ox := newsOff N (nw := [(x, rawObj d v1 v2), (d, o)]) (fun p hp => by
    simp only [List.mem_cons, List.not_mem_nil, or_false] at hp
    rcases hp with rfl | rfl <;> assumption)
  exact hQ x d o h' tk F2 N3 r3 (fun p hp => ox p hp _ (.head _)) (fun p hp => ox p hp _ (.tail _ (.head _))) f fd
end
section
variable {w : World} {loose : List Str} {mean : ExcName → Option Value} {mg mb : Str → Option Value} {dp un : Nat} {fr : Option (List Env)} {gd : Option (List Code)} {s : Shared} {Q E : Value → Shared → Prop}
theorem split_spec {g : Heap} (X : (hd.heap_39 w.params).In g) (T : Top topProg loose mean mg mb g) (e : Ext g s.heap) (hd' : dp + 60 < recursionLimit) (hu : un + 1000 < cLine) {fc fh asked heard : Addr} (hg0 : g.get? asked = none) (hg : g.get? heard = none) (hg1 : g.get? 150 = none) (ht : CodeHd g 154 150)
    {ps : Array Value} (hP : s.heap.get? 150 = some (tabObj ps)) (tri : TriplesOk ps.toList) (hne : asked ≠ heard)
    {cap : Nat} {ans : Array UInt8 → Array UInt8 → Array UInt8} (H : HmacAt w (hideAll s.heap [asked, heard, 150]) [] fh heard cap ans) (hys : s.heap.get? heard = some (lst []))
    {ds : List (Array UInt8 × Tok)} (HC : ChanceAt w (hideAll s.heap [asked, heard, 150]) [] fc asked ds) (hzs : s.heap.get? asked = some (lst []))
    {t n : Nat} {tt tn ts : Tok} {sec : Array UInt8} (ht2 : 2 ≤ t) (htn : t ≤ n) (hn : n ≤ 10) (hs4 : 4 ≤ sec.size) (hcap : sec.size ≤ cap) (hcap2 : cap ≤ 1000) (hds : ds.length = t - 1) (hdz : ∀ j b u, ds[j]? = some (b, u) → b.size = if j < t - 2 then sec.size else sec.size - 4)
    (ha : ∀ b1 b2, 4 ≤ (ans b1 b2).size ∧ (ans b1 b2).size ≤ 1000)
    (hQ : ∀ (h' : Heap) (tk : Nat) (gs : Array GenState) (dr : Drawn) (ps' : Array Value) (D T : Addr) (zs : List Value) (bl : Array UInt8) (ul : Tok) (shs : List Sh) (shn : List (Addr × Obj)), (∀ b o, b ∉ [asked, heard, 150] → s.heap.get? b = some o → h'.get? b = some o) → h'.get? 150 = some (tabObj ps') → TriplesOk ps'.toList → GB s.gens gs →
      h'.get? asked = some (lst zs) → IntsAre zs (List.replicate (t - 2) (sec.size : Int) ++ [((sec.size - 4 : Nat) : Int)]) → ds[t - 2]? = some (bl, ul) →
      h'.get? heard = some (lst [.ref T]) → h'.get? T = some { cls := .type "tuple", data := .seq #[.bytes bl ul, .bytes sec ts] 0 } → s.heap.get? T = none → h'.get? D = some (lst (shs.map fun q => Value.ref q.a)) → s.heap.get? D = none →
      (∀ p ∈ shn, h'.get? p.1 = some p.2 ∧ s.heap.get? p.1 = none) → (∀ q ∈ shs, ShIn shn q) → shs.length = n → (∀ (j : Nat) (q : Sh), shs[j]? = some q → q.x = j ∧ q.b = splitRow t ds (cutT 4 (ans bl sec) ++ bl) sec j) → Q (.ref D) { s with heap := h', toks := tk, gens := gs, drawn := dr }) :
    wpAny (model P1 w) (tp dp fr gd un) (call (.ref 167) [.int t tt, .int n tn, .bytes sec ts, .ref fc, .ref fh]) Q E s := by
  have Xs := X.keeps e
  have Ts := T.keeps e
  refine' enterC (S := [asked, heard, 150]) (news := [(asked, lst []), (heard, lst []), (150, tabObj ps)]) (binds := [("threshold", .int t tt), ("share_count", .int n tn), ("shared_secret", .bytes sec ts), ("random_bytes", .ref fc), ("hmac_sha256", .ref fh)]) ?k1 ?k2 ?k3 ?k4 ?k5 ?k6 ?k7 ?k8 ?kN ?k9 ?k10 ?k11 ?_
  case kN =>
    intro p hp
    simp only [List.mem_cons, List.not_mem_nil, or_false] at hp
    rcases hp with rfl | rfl | rfl
    · exact ⟨hzs, by simp⟩
    · exact ⟨hys, by simp⟩
    · exact ⟨hP, by simp⟩
  ((try (case k1 => assumption)); (try (case k2 => exact Top.nolimit (by assumption))); (case k3 | k4 => k_is); (case k5 => (dsimp only; omega)); (try (case k6 => first | exact BindsTo.of_eq rfl | exact binds_K (by assumption) rfl (by k_is) rfl rfl rfl)); (case k8 => decide +kernel); (case k7 | k9 | k10 | k11 => exact rfl))
  k_whole
  intro h₁ tk₁ cells F1 N1 Y
  have eg : Ext g (hideAll s.heap [asked, heard, 150]) := ext_hide e fun a ha => by
    simp only [List.mem_cons, List.not_mem_nil, or_false] at ha
    rcases ha with rfl | rfl | rfl <;> assumption
  have XG := X.keeps eg
  have TG := T.keeps eg
  have CG := ht.keeps eg
  have fnH : FnOn (hideAll s.heap [asked, heard, 150]) fh := fun h e => H.fn h e fun p hp => nomatch hp
  have fnC : FnOn (hideAll s.heap [asked, heard, 150]) fc := fun h e => HC.fn h e fun p hp => nomatch hp
  have d1 : ∀ k, k ≤ 50 → dp + k < recursionLimit := upto (by assumption) 50
  have u1 : ∀ k, k ≤ 900 → un + k < cLine := upto (by assumption) 900
  have t20 : t - 2 < 20 := Nat.lt_of_le_of_lt (Nat.le_trans (Nat.sub_le _ _) (Nat.le_trans htn hn)) (by decide)
  have tlt : t - 2 < t - 1 := Nat.sub_lt_sub_left (Nat.lt_of_lt_of_le (by decide) ht2) (by decide)
  have a1 : @Ne Nat heard 150 := fun q => by rw [q, hP] at hys; cases hys
  have a2 : @Ne Nat asked 150 := fun q => by rw [q, hP] at hzs; cases hzs
  have a3 : @Ne Nat asked heard := hne
  have up : ∀ b o, b ∉ [asked, heard, 150] → s.heap.get? b = some o → (hideAll s.heap [asked, heard, 150]).get? b = some o := fun b o n1 q => hideAll_get _ q n1
  have nn : ∀ a, (hideAll s.heap [asked, heard, 150]).get? a = none → a ∉ [asked, heard, 150] → s.heap.get? a = none := fun a q n1 => none_of_hide q n1
  have lh : ∀ a ∈ [asked, heard, 150], @LT.lt Nat _ a s.heap.objs.size := fun a ha => by
    simp only [List.mem_cons, List.not_mem_nil, or_false] at ha
    rcases ha with rfl | rfl | rfl
    · exact Heap.lt_size hzs
    · exact Heap.lt_size hys
    · exact Heap.lt_size hP
  have l1 := lh asked (by simp)
  have l2 := lh heard (by simp)
  have l3 := lh 150 (by simp)
  have b1 : @Ne Nat (s.heap.objs.size + 1 + 1) asked := up_ne l1 2
  have b2 : @Ne Nat (s.heap.objs.size + 1) asked := up_ne l1 1
  have b3 : @Ne Nat (s.heap.objs.size + 1 + 1) heard := up_ne l2 2
  have b4 : @Ne Nat (s.heap.objs.size + 1) heard := up_ne l2 1
  have b5 : @Ne Nat (s.heap.objs.size + 1 + 1) 150 := up_ne l3 2
  have b6 : @Ne Nat (s.heap.objs.size + 1) 150 := up_ne l3 1
  have dpo : (tp dp fr gd un).depth + 1 + 40 < recursionLimit := by dsimp only [tp]; omega
  have unv : (tp dp fr gd un).units = un := rfl
  have n150 : (hideAll s.heap [asked, heard, 150]).get? 150 = none := hideAll_none _ (by simp)
  obtain ⟨oc1, oc2, hcE, dc1, dc2⟩ := CellsAre.two Y
  subst hcE
  clear Y
  simp only [List.cons_append, List.nil_append] at N1
  generalize hideAll s.heap [asked, heard, 150] = g2 at F1 N1 XG TG CG fnH fnC H HC up nn eg n150
  clear X T Xs Ts ht e
  replace dc1 : oc1.data = .cell (some (.ref fc)) := dc1
  replace dc2 : oc2.data = .cell (some (.bytes sec ts)) := dc2
  obtain ⟨m, hm, F2⟩ : ∃ m, AllAt m [(Str.ofString "threshold", .int t tt), (Str.ofString "share_count", .int n tn), (Str.ofString "hmac_sha256", .ref fh)] ∧ Fr g2 s.heap.objs.size h₁ m := ⟨_, ⟨rfl, rfl, rfl, trivial⟩, F1⟩
  clear F1
  replace F2 := frOv F2 hm
  k_extra "mine steps"
  (refine' LCg.Assign_ListComp_U (F₀ := ?cF_1) ?c0_1 ?c1_1 ?c2_1 ?c3_1 ?c4_1 ?c5_1 ?c6_1 ?c7_1 ?c8_1 ?_; (case cF_1 => k_asm); (case c1_1 | c2_1 => with_unfolding_all rfl); (case c3_1 | c5_1 => decide); (case c0_1 | c4_1 | c6_1 | c7_1 | c8_1 => rfl))
  k_extra "mine steps"
  rename Fr _ _ _ _ => F3
  rename News _ _ _ _ => N3
  refine src_range (fun i ys news => SplInv1 ds sec.size asked heard s.heap.objs.size oc1 oc2 ps i ys news) rfl F3 N3 (by assumption) (by decide) (small_nat (Nat.le_of_lt (Nat.lt_trans t20 (by decide)))) rfl ⟨[], [], [], rfl, rfl, (fun q hq => nomatch hq), (fun j q hq => by simp at hq), IntsAre.nil, (fun p hp => nomatch hp), (fun p hp => nomatch hp), (fun p hp => nomatch hp), rfl⟩ (fun g => ?_) (fun g ys news hl' hJ => ?_)
  · intro i ys news v I oI C oC D m₂ h tk' E' hi hyl p90 p91 hS hC hx F4 N4 off ne
    obtain ⟨shs, shn, zs, hsl, rfl, hsh, hsj, hzi, o1, o2, o3, rfl⟩ := p90
    obtain ⟨tv, rfl⟩ := p91
    refine genQ fun QC hQC => ?_
    clear F3 N3
    rw [Int.zero_add] at hx
    replace hi : i < t - 2 := by simpa using hi
    k_extra "mine steps"
    refine callWith_F (FnOn.at fnC (Fr.keep (by assumption))) ?_
    k_whole
    iterate 9 walk1
    refine ⟨FnOn.at fnC (Fr.keep (by assumption)), ?_⟩
    try dsimp only [List.nil_append, List.cons_append]
    have hzl : zs.length = i := by rw [IntsAre.length hzi, List.length_replicate]
    obtain ⟨⟨b, u⟩, hdi⟩ : ∃ q, ds[i]? = some q := ⟨_, List.getElem?_eq_getElem (by rw [hds]; exact Nat.lt_trans hi tlt)⟩
    simp only [LCg.Off3] at off
    obtain ⟨f1, f2, f3, f4, f5, off⟩ := off
    obtain ⟨e1, e2, e3⟩ := ne
    rename Fr _ _ _ _ => F5
    refine chance_ints F5 N4 (.tail f3.1.symm (.tail f3.2.1.symm (.tail f3.2.2.symm (.tail b1 (.tail b2 (.head (fmc (a3.symm) ((fmc (a2.symm) o1))))))))) (by k_mem) (d1 4 (by decide)) (u1 63 (by decide)) HC hzi (by rw [hzl]; exact hdi) (by rw [hzl]; exact Nat.lt_trans hi t20) fun h6 tk6 zs6 hzi6 F6 N6 => ?_
    clear F5 N4
    try dsimp only
    k_extra "mine steps"
    rename Fr _ _ _ _ => F7
    rename News _ _ _ _ => N7
    refine raw_led F7 N7 XG TG (d1 6 (by decide)) (u1 83 (by decide)) fun x d o h8 tk8 F8 N8 hoc ox1 ox2 hx8 hd8 => ?_
    clear F7 N7 hx8 hd8
    refine hQC _ _ ?_
    refine LCg.CompEnd.intro F8 N8 ((s.heap.objs.size + 1 + 1, oc1) :: (s.heap.objs.size + 1, oc2) :: (asked, lst zs6) :: (heard, lst []) :: (150, tabObj ps) :: (x, rawObj d (.int (i : Int) tv) (.bytes b u)) :: (d, o) :: shn) (fun p hp => ?_) ?_ trivial
      ⟨shs ++ [⟨x, i, tv, b, u⟩], (x, rawObj d (.int (i : Int) tv) (.bytes b u)) :: (d, o) :: shn, zs6, by simp [hsl], by simp, ?_, ?_, ?_, ?_, ?_, ?_, rfl⟩
    · revert hp
      revert p
      k_extra "mine sub"
    · simp only [LCg.Off3]
      refine ⟨f1, f2, f3, f4, f5, ⟨ox1 (I, oI) (by k_mem), ox1 (C, oC) (by k_mem), ox1 (D, _) (by k_mem)⟩, ⟨ox2 (I, oI) (by k_mem), ox2 (C, oC) (by k_mem), ox2 (D, _) (by k_mem)⟩, off⟩
    · intro q hq
      rcases List.mem_append.mp hq with hq | hq
      · exact (hsh q hq).mono fun p hp => .tail _ (.tail _ hp)
      · rw [List.mem_singleton.mp hq]
        exact ⟨d, o, .head _, .tail _ (.head _), hoc⟩
    · intro j q hq
      by_cases hj : j < shs.length
      · rw [List.getElem?_append_left hj] at hq; exact hsj j q hq
      · have hj2 : j = shs.length := by
          have := (List.getElem?_eq_some_iff.mp hq).1
          simp at this; omega
        subst hj2
        simp at hq
        subst hq
        exact ⟨hsl.symm, by rw [hsl]; exact hdi⟩
    · rw [List.replicate_succ']
      exact hzi6
    · exact fmc (ox1 (asked, _) (by k_mem)) ((fmc (ox2 (asked, _) (by k_mem)) o1))
    · exact fmc (ox1 (heard, _) (by k_mem)) ((fmc (ox2 (heard, _) (by k_mem)) o2))
    · exact fmc (ox1 (150, _) (by k_mem)) ((fmc (ox2 (150, _) (by k_mem)) o3))
  · obtain ⟨shs, shn, zs, hsl, rfl, hsh, hsj, hzi, o1, o2, o3, rfl⟩ := hJ
    have hn2 : ((t - 2 : Nat) : Int) - 0 = ((t - 2 : Nat) : Int) := Int.sub_zero _
    rw [hn2, Int.toNat_natCast] at hsl hzi
    clear hl' hn2
    clear F3 N3
    intro D h tk F4 N4 off
    obtain ⟨f1, f2, f3, f4, f5, off⟩ := off
    obtain ⟨m2, hm2, F5⟩ : ∃ m2, AllAt m2 [(Str.ofString "share_count", .int n tn), (Str.ofString "hmac_sha256", .ref fh), (Str.ofString "random_share_count", .int ((t - 2 : Nat) : Int) _), (Str.ofString "shares", .ref D)] ∧ Fr g2 s.heap.objs.size h m2 := ⟨_, ⟨rfl, rfl, rfl, rfl, trivial⟩, F4⟩
    clear F4
    replace F5 := frOv F5 hm2
    k_extra "mine steps"
    refine callWith_F (FnOn.at fnC (Fr.keep (by assumption))) ?_
    k_whole
    iterate 12 walk1
    refine ⟨FnOn.at fnC (Fr.keep (by assumption)), ?_⟩
    try dsimp only [List.nil_append, List.cons_append]
    have hzl : zs.length = t - 2 := by rw [IntsAre.length hzi, List.length_replicate]
    obtain ⟨⟨bl, ul⟩, hdl⟩ : ∃ q, ds[t - 2]? = some q := ⟨_, List.getElem?_eq_getElem (by rw [hds]; exact tlt)⟩
    have hbl : bl.size = sec.size - 4 := by rw [hdz _ _ _ hdl, if_neg (Nat.lt_irrefl _)]
    rename Fr _ _ _ _ => F6
    refine chance_ints F6 N4 (.tail f3.symm (.tail b1 (.tail b2 (.head (fmc (a3.symm) ((fmc (a2.symm) o1))))))) (by k_mem) (d1 4 (by decide)) (u1 63 (by decide)) HC hzi (by rw [hzl]; exact hdl) (by rw [hzl]; exact t20) fun h7 tk7 zs7 hzi7 F7 N7 => ?_
    clear F6 N4
    try dsimp only
    k_extra "mine steps"
    rename Fr _ _ _ _ => F8
    rename News _ _ _ _ => N8
    refine create_led F8 N8 (.tail f4.symm (.tail b3 (.tail b4 (.tail a3 (.head (fmc (a1.symm) o2)))))) (by k_mem) XG TG (d1 21 (by decide)) (u1 403 (by decide)) H (by rw [hbl]; exact Nat.le_trans (Nat.sub_le _ _) hcap) hcap (by decide) (Nat.le_trans (ha _ _).2 (by decide)) fun h9 tk9 T9 u9 F9 N9 oT nT9 => ?_
    clear F8 N8
    have hcat : (cutT 4 (ans bl sec)).size + bl.size ≤ 16777216 := by
      rw [cutT_size, hbl]
      exact Nat.le_trans (Nat.add_le_add (Nat.min_le_left _ _) (Nat.le_trans (Nat.sub_le _ _) (Nat.le_trans hcap hcap2))) (by decide)
    try dsimp only
    k_extra "mine steps"
    rename Fr _ _ _ _ => F11
    rename News _ _ _ _ => N11
    rename_i t11 k11
    refine raw_led F11 N11 XG TG (d1 6 (by decide)) (u1 83 (by decide)) fun x1 dx1 ox1 h12 tk12 F12 N12 hoc1 oA1 oA2 hx12 hd12 => ?_
    clear F11 N11 hx12 hd12
    try dsimp only
    k_extra "mine steps"
    rename Fr _ _ _ _ => F13
    rename News _ _ _ _ => N13
    refine raw_led F13 N13 XG TG (d1 6 (by decide)) (u1 83 (by decide)) fun x2 dx2 ox2 h14 tk14 F14 N14 hoc2 oB1 oB2 hx14 hd14 => ?_
    clear F13 N13 hx14 hd14
    try dsimp only
    k_extra "mine steps"
    (refine for_on ?_; k_extra "mine steps")
    rename Fr _ _ _ _ => F15
    rename News _ _ _ _ => N15
    rename IsRange _ _ _ _ _ _ _ _ => hR
    dsimp only at N15 hR ⊢
    obtain ⟨B, m3, hm3, F16, N16⟩ : ∃ B m3, AllAt m3 [(Str.ofString "shares", .ref D), (Str.ofString "base_shares", .ref B)] ∧ Fr g2 s.heap.objs.size _ m3 ∧
        News g2 s.heap.objs.size _ ((B, { cls := .type "list", data := .seq (List.map (fun q => Value.ref q.a) shs ++ [Value.ref x1, Value.ref x2]).toArray }) :: (D, lst (List.map (fun q => Value.ref q.a) shs)) :: (T9, { cls := .type "tuple", data := .seq #[.bytes bl ul, .bytes sec ts] 0 }) ::
          (asked, lst zs7) :: (heard, lst ([] ++ [Value.ref T9])) :: (150, tabObj ps) :: (x2, rawObj dx2 (.int 255 198) (.bytes sec ts)) :: (dx2, ox2) :: (x1, rawObj dx1 (.int 254 200) (.bytes (cutT 4 (ans bl sec) ++ bl) t11)) :: (dx1, ox1) :: shn) :=
      ⟨_, _, ⟨rfl, rfl, trivial⟩, F15, fun p hp => N15 p (by
        revert hp
        revert p
        k_extra "mine sub")⟩
    clear F15 N15
    have offD := off1_all off
    clear hm hm2
    obtain ⟨bsh, ebsh⟩ : ∃ bsh : List Sh, bsh = shs ++ [⟨x1, 254, 200, cutT 4 (ans bl sec) ++ bl, t11⟩, ⟨x2, 255, 198, sec, ts⟩] := ⟨_, rfl⟩
    have elist : (List.map (fun q => Value.ref q.a) shs ++ [Value.ref x1, Value.ref x2]) = bsh.map fun q => Value.ref q.a := by rw [ebsh]; simp
    have epts : (bsh.map fun q => (q.x, q.b)) = basePts t ds (cutT 4 (ans bl sec) ++ bl) sec := by
      rw [ebsh, List.map_append, basePts]
      congr 1
      refine List.ext_getElem (by simp [hsl]) fun j h1 h2 => ?_
      simp only [List.length_map] at h1
      have := hsj j shs[j] (List.getElem?_eq_getElem h1)
      simp [this.1, this.2]
    have ebx : ∀ q ∈ bsh, q.x < 256 := by
      intro q hq
      rw [ebsh] at hq
      rcases List.mem_append.mp hq with hq | hq
      · obtain ⟨j, hj, rfl⟩ := List.getElem_of_mem hq
        rw [(hsj j _ (List.getElem?_eq_getElem hj)).1]
        exact Nat.lt_trans (Nat.lt_of_lt_of_le hj (Nat.le_of_eq hsl)) (Nat.lt_trans t20 (by decide))
      · simp only [List.mem_cons, List.not_mem_nil, or_false] at hq
        rcases hq with rfl | rfl
        · exact (by decide : 254 < 256)
        · exact (by decide : 255 < 256)
    have ebn : ∀ q ∈ bsh, q.b.size = sec.size := by
      intro q hq
      rw [ebsh] at hq
      rcases List.mem_append.mp hq with hq | hq
      · obtain ⟨j, hj, rfl⟩ := List.getElem_of_mem hq
        rw [hdz _ _ _ (hsj j _ (List.getElem?_eq_getElem hj)).2, if_pos (by rw [← hsl]; exact hj)]
      · simp only [List.mem_cons, List.not_mem_nil, or_false] at hq
        rcases hq with rfl | rfl
        · show (cutT 4 (ans bl sec) ++ bl).size = sec.size
          rw [Array.size_append, cutT_size, hbl, Nat.min_eq_left (ha _ _).1]
          exact Nat.add_sub_cancel' hs4
        · rfl
    have end' : (bsh.map Sh.x).Nodup := by
      have e : bsh.map Sh.x = (List.range (t - 2)) ++ [254, 255] := by
        have := congrArg (List.map Prod.fst) epts
        rw [List.map_map] at this
        rw [show (Prod.fst ∘ fun q : Sh => (q.x, q.b)) = Sh.x from rfl] at this
        rw [this, basePts, List.map_append, List.map_map]
        congr 1
        exact List.map_id _
      rw [e, List.nodup_append]
      refine ⟨List.nodup_range, by decide, ?_⟩
      intro a ha b hb
      rw [List.mem_range] at ha
      simp only [List.mem_cons, List.not_mem_nil, or_false] at hb
      rintro rfl
      rcases hb with hb | hb
      · exact absurd (hb ▸ ha) (fun q => absurd (Nat.lt_trans q t20) (by decide))
      · exact absurd (hb ▸ ha) (fun q => absurd (Nat.lt_trans q t20) (by decide))
    have hbD : ∀ p ∈ (x2, rawObj dx2 (.int 255 198) (.bytes sec ts)) :: (dx2, ox2) :: (x1, rawObj dx1 (.int 254 200) (.bytes (cutT 4 (ans bl sec) ++ bl) t11)) :: (dx1, ox1) :: shn, @Ne Nat p.1 D ∧ @Ne Nat p.1 asked ∧ @Ne Nat p.1 heard ∧ @Ne Nat p.1 150 := by
      intro p hp
      simp only [List.mem_cons] at hp
      rcases hp with rfl | rfl | rfl | rfl | hp
      · exact ⟨oB1 (D, _) (by k_mem), oB1 (asked, _) (by k_mem), oB1 (heard, _) (by k_mem), oB1 (150, _) (by k_mem)⟩
      · exact ⟨oB2 (D, _) (by k_mem), oB2 (asked, _) (by k_mem), oB2 (heard, _) (by k_mem), oB2 (150, _) (by k_mem)⟩
      · exact ⟨oA1 (D, _) (by k_mem), oA1 (asked, _) (by k_mem), oA1 (heard, _) (by k_mem), oA1 (150, _) (by k_mem)⟩
      · exact ⟨oA2 (D, _) (by k_mem), oA2 (asked, _) (by k_mem), oA2 (heard, _) (by k_mem), oA2 (150, _) (by k_mem)⟩
      · exact ⟨offD p hp, o1 p hp, o2 p hp, o3 p hp⟩
    have hbIn : ∀ q ∈ bsh, ShIn ((x2, rawObj dx2 (.int 255 198) (.bytes sec ts)) :: (dx2, ox2) :: (x1, rawObj dx1 (.int 254 200) (.bytes (cutT 4 (ans bl sec) ++ bl) t11)) :: (dx1, ox1) :: shn) q := by
      intro q hq
      rw [ebsh] at hq
      rcases List.mem_append.mp hq with hq | hq
      · exact (hsh q hq).mono fun p hp => .tail _ (.tail _ (.tail _ (.tail _ hp)))
      · simp only [List.mem_cons, List.not_mem_nil, or_false] at hq
        rcases hq with rfl | rfl
        · exact ⟨dx1, ox1, .tail _ (.tail _ (.head _)), .tail _ (.tail _ (.tail _ (.head _))), hoc1⟩
        · exact ⟨dx2, ox2, .head _, .tail _ (.head _), hoc2⟩
    have hshIn : ∀ q ∈ shs, ShIn ((x2, rawObj dx2 (.int 255 198) (.bytes sec ts)) :: (dx2, ox2) :: (x1, rawObj dx1 (.int 254 200) (.bytes (cutT 4 (ans bl sec) ++ bl) t11)) :: (dx1, ox1) :: shn) q := fun q hq => hbIn q (by rw [ebsh]; exact List.mem_append_left _ hq)
    have nTD : @Ne Nat T9 D := oT (D, _) (by k_mem)
    have nT1 : @Ne Nat T9 150 := oT (150, _) (by k_mem)
    have nTa : @Ne Nat T9 asked := oT (asked, _) (by k_mem)
    have nTh : @Ne Nat T9 heard := oT (heard, _) (by k_mem)
    rw [elist] at N16
    have nBD : @Ne Nat B D := fun q => by
      have y1 := (N16 (B, _) (.head _)).1
      have y2 := (N16 (D, _) (.tail _ (.head _))).1
      rw [show (B, ({ cls := .type "list", data := .seq (bsh.map fun q => Value.ref q.a).toArray } : Obj)).1 = D from q] at y1
      rw [show (D, lst (List.map (fun q => Value.ref q.a) shs)).1 = D from rfl] at y2
      rw [y1] at y2
      have y3 := congrArg (fun o : Option Obj => o.map fun o => match o.data with | .seq a _ => a.size | _ => 0) y2
      have y4 : bsh.length = shs.length := by simpa [lst] using y3
      rw [ebsh, List.length_append] at y4
      exact absurd y4 (by simp)
    have nB1 : @Ne Nat B 150 := fun q => by
      have y1 := (N16 (B, _) (.head _)).1
      have y2 := (N16 (150, _) (by k_mem)).1
      rw [show (B, ({ cls := .type "list", data := .seq (bsh.map fun q => Value.ref q.a).toArray } : Obj)).1 = 150 from q] at y1
      rw [y1] at y2; cases y2
    have blen : bsh.length ≤ 10 := by rw [ebsh, List.length_append, hsl]; exact Nat.le_trans (Nat.le_of_eq (Nat.sub_add_cancel ht2)) (Nat.le_trans htn hn)
    have bne : bsh ≠ [] := fun q => by rw [q] at ebsh; cases shs <;> cases ebsh
    generalize ((x2, rawObj dx2 (.int 255 198) (.bytes sec ts)) :: (dx2, ox2) :: (x1, rawObj dx1 (.int 254 200) (.bytes (cutT 4 (ans bl sec) ++ bl) t11)) :: (dx1, ox1) :: shn) = shn0 at hbD hbIn hshIn N16
    clear oA1 oA2 oB1 oB2 oT hoc1 hoc2 ebsh hsh o1 o2 o3 offD off nT9
    k_sweep
    have hrow : ∀ i, t - 2 + i < n → interpB bsh (t - 2 + i) sec.size = splitRow t ds (cutT 4 (ans bl sec) ++ bl) sec (t - 2 + i) := fun i _ => by
      rw [interpB_pts, epts, splitRow, if_neg (Nat.not_lt.mpr (Nat.le_add_right _ _))]
    have hn256 : ∀ i, t - 2 + i < n → t - 2 + i < 256 := fun i h => Nat.lt_of_lt_of_le h (Nat.le_trans hn (by decide))
    have hscap : sec.size ≤ 1000 := Nat.le_trans hcap hcap2
    have hJ0 : ∀ (j : Nat) (q : Sh), shs[j]? = some q → q.x = j ∧ q.b = splitRow t ds (cutT 4 (ans bl sec) ++ bl) sec j := fun j q hq => by
      obtain ⟨z1, z2⟩ := hsj j q hq
      have z3 : j < t - 2 := by rw [← hsl]; exact (List.getElem?_eq_some_iff.mp hq).1
      exact ⟨z1, by rw [splitRow, if_pos z3, List.getD_eq_getElem?_getD, z2]; rfl⟩
    refine loop_range1 (n := n - (t - 2)) (fun i m₁ n₁ gs₁ dr₁ => AllAt m₁ [(Str.ofString "shares", .ref D), (Str.ofString "base_shares", .ref B)] ∧ GB s.gens gs₁ ∧ SplInv2 t ds (cutT 4 (ans bl sec) ++ bl) bl ul ts sec D asked heard T9 B shn0 zs7 (bsh.map fun q => Value.ref q.a) i n₁)
      rfl F16 N16 hR (small_nat (Nat.le_of_lt (Nat.lt_trans t20 (by decide)))) (small_nat (Nat.le_trans hn (by decide))) (sub_toNat _ _) rfl ⟨hm3, GB.refl _, shs, shn0, ps, hsl, hshIn, hJ0, fun p hp => hp, fun p hp => (hbD p hp).1, fun p hp => (hbD p hp).2.1, fun p hp => (hbD p hp).2.2.1, fun p hp => (hbD p hp).2.2.2, tri, rfl⟩ ?_ ?_
    · intro E' TL9 i v m₁ n₁ gs₁ dr₁ h17 tk17 I oI hi hP9 hJ9 hap hap0 hLI F17 N17 hT9
      obtain ⟨hm₁, hgb, shs', shn', ps', hl', hIn', hrows, hsub, oD, oa, oh, o1, tri', rfl⟩ := hJ9
      obtain ⟨tv, hv⟩ := hP9
      clear F16 N16 hR
      rw [show ((t - 2 : Nat) : Int) + (i : Int) = ((t - 2 + i : Nat) : Int) by push_cast; rfl] at hv
      subst hv
      have hit : t - 2 + i < n := Nat.add_lt_of_lt_sub' hi
      have iB : @Ne Nat I B := (hap (B, _) (by k_mem)).symm
      have iD : @Ne Nat I D := (hap (D, _) (by k_mem)).symm
      have i1 : @Ne Nat I 150 := (hap (150, _) (by k_mem)).symm
      have dD1 : @Ne Nat D 150 := fun q => by
        have y1 := (N17 (D, _) (by k_mem)).1
        have y2 := (N17 (150, _) (by k_mem)).1
        rw [show (D, lst (List.map (fun q => Value.ref q.a) shs')).1 = 150 from q] at y1
        rw [y1] at y2; cases y2
      refine wpAny_pure ?_
      replace F17 := frOv F17 hm₁
      k_extra "mine steps"
      rename Fr _ _ _ _ => F18
      rename News _ _ _ _ => N18
      refine interp_led (x0 := t - 2 + i) (shs := bsh) (n := sec.size) F18 N18 (.tail i1 (.tail nB1 (.tail dD1 (.tail nT1 (.tail a2 (.tail a1 (.head o1))))))) (by k_mem) tri' XG TG CG (d1 21 (by decide)) (u1 403 (by decide)) rfl ⟨_, (N18 (B, _) (by k_mem)).1, rfl, _, rfl⟩
        (fun q hq => ((hbIn q hq).mono hsub).at (fun p hp => N18 p (.tail _ (.tail _ (.tail _ (.tail _ (.tail _ (.tail _ (.tail _ hp))))))))) end' ebn bne blen hscap ebx (hn256 i hit) fun h19 tk19 gs19 dr19 ps19 u19 F19 N19 tri19 hgb19 => ?_
      rw [hrow i hit]
      have hgb2 := hgb.trans hgb19
      clear F18 N18 hgb hgb19 tri'
      try dsimp only
      k_extra "mine steps"
      rename Fr _ _ _ _ => F20
      rename News _ _ _ _ => N20
      refine raw_led F20 N20 XG TG (d1 6 (by decide)) (u1 83 (by decide)) fun x dx ox h21 tk21 F21 N21 hoc oX1 oX2 hx21 hd21 => ?_
      clear F20 N20 hx21 hd21
      have xD : @Ne Nat x D := oX1 (D, _) (by k_mem)
      have xdD : @Ne Nat dx D := oX2 (D, _) (by k_mem)
      try dsimp only
      k_extra "mine steps"
      rename Fr _ _ _ _ => F22
      rename News _ _ _ _ => N22
      have eD : lst ((shs' ++ [(⟨x, t - 2 + i, tv, splitRow t ds (cutT 4 (ans bl sec) ++ bl) sec (t - 2 + i), u19⟩ : Sh)]).map fun q => Value.ref q.a) = W.listOf (List.map (fun q => Value.ref q.a) shs' ++ [Value.ref x]).toArray ((List.map (fun q => Value.ref q.a) shs').length + 1) := by
        rw [List.map_append]; exact lst_snoc' _ _
      refine hT9 _ _ ⟨_, _, _, _, _, (B, { cls := .type "list", data := .seq (bsh.map fun q => Value.ref q.a).toArray }) :: (D, lst ((shs' ++ [(⟨x, t - 2 + i, tv, splitRow t ds (cutT 4 (ans bl sec) ++ bl) sec (t - 2 + i), u19⟩ : Sh)]).map fun q => Value.ref q.a)) :: (T9, { cls := .type "tuple", data := .seq #[.bytes bl ul, .bytes sec ts] 0 }) ::
          (asked, lst zs7) :: (heard, lst ([] ++ [Value.ref T9])) :: (150, tabObj ps19) :: (x, rawObj dx (.int ((t - 2 + i : Nat) : Int) tv) (.bytes (splitRow t ds (cutT 4 (ans bl sec) ++ bl) sec (t - 2 + i)) u19)) :: (dx, ox) :: shn', rfl, F22, fun p hp => N22 p ?_, ?_, ⟨rfl, rfl, trivial⟩, hgb2,
          shs' ++ [(⟨x, t - 2 + i, tv, splitRow t ds (cutT 4 (ans bl sec) ++ bl) sec (t - 2 + i), u19⟩ : Sh)], (x, rawObj dx (.int ((t - 2 + i : Nat) : Int) tv) (.bytes (splitRow t ds (cutT 4 (ans bl sec) ++ bl) sec (t - 2 + i)) u19)) :: (dx, ox) :: shn', ps19, ?_, ?_, ?_, fun p hp => .tail _ (.tail _ (hsub p hp)), ?_, ?_, ?_, ?_, tri19, rfl⟩
      · rw [eD, ← List.push_toArray] at hp
        revert hp
        revert p
        k_extra "mine sub"
      · intro p hp
        simp only [List.mem_cons] at hp
        rcases hp with rfl | rfl | rfl | rfl | rfl | rfl | rfl | rfl | hp
        · exact iB.symm
        · exact iD.symm
        · exact hap (T9, _) (by k_mem)
        · exact hap (asked, _) (by k_mem)
        · exact hap (heard, _) (by k_mem)
        · exact i1.symm
        · exact oX1 (I, _) (by k_mem)
        · exact oX2 (I, _) (by k_mem)
        · exact hap p (.tail _ (.tail _ (.tail _ (.tail _ (.tail _ (.tail _ hp))))))
      · rw [List.length_append, hl']; rfl
      · intro q hq
        rcases List.mem_append.mp hq with hq | hq
        · exact (hIn' q hq).mono fun p hp => .tail _ (.tail _ hp)
        · rw [List.mem_singleton.mp hq]
          exact ⟨dx, ox, .head _, .tail _ (.head _), hoc⟩
      · intro j q hq
        rcases snoc_get hl' _ (show j < t - 2 + i + 1 by
          have := (List.getElem?_eq_some_iff.mp hq).1
          rw [List.length_append, hl'] at this; exact this) with ⟨h1, h2⟩ | ⟨h1, h2⟩
        · rw [h2] at hq; exact hrows j q hq
        · rw [h2] at hq; cases hq
          exact ⟨h1.symm, by rw [h1]⟩
      · exact fmc xD ((fmc xdD oD))
      · exact fmc (oX1 (asked, _) (by k_mem)) ((fmc (oX2 (asked, _) (by k_mem)) oa))
      · exact fmc (oX1 (heard, _) (by k_mem)) ((fmc (oX2 (heard, _) (by k_mem)) oh))
      · exact fmc (oX1 (150, _) (by k_mem)) ((fmc (oX2 (150, _) (by k_mem)) o1))
    · intro h23 tk23 gs23 dr23 m₁ n₁ F23 N23 p90
      obtain ⟨hm₁, hgb, shs', shn', ps', hl', hIn', hrows, hsub, oD, oa, oh, o1, tri', rfl⟩ := p90
      clear F16 N16 hR
      replace F23 := frOv F23 hm₁
      k_extra "mine steps"
      have k3 : ∀ a, @Ne Nat a asked → @Ne Nat a heard → @Ne Nat a 150 → a ∉ [asked, heard, 150] := fun a x y z => by
        simp only [List.mem_cons, List.not_mem_nil, or_false, not_or]; exact ⟨x, y, z⟩
      have hlen : shs'.length = n := by rw [hl']; exact Nat.add_sub_of_le (Nat.le_trans (Nat.sub_le _ _) htn)
      exact hQ h23 _ gs23 dr23 ps' D T9 zs7 bl ul shs' shn' (fun b o n q => F23.keep _ _ (up b o n q)) (N23 (150, _) (by k_mem)).1 tri' hgb (N23 (asked, _) (by k_mem)).1 hzi7 hdl (N23 (heard, _) (by k_mem)).1 (N23 (T9, _) (by k_mem)).1
        (nn T9 (N23 (T9, _) (by k_mem)).2.2 (k3 _ nTa nTh nT1)) (N23 (D, _) (by k_mem)).1 (nn D (N23 (D, _) (by k_mem)).2.2 (k3 _ (Ne.symm f3) (Ne.symm f4) (Ne.symm f5)))
        (fun p hp => have y := N23 p (.tail _ (.tail _ (.tail _ (.tail _ (.tail _ (.tail _ hp)))))); ⟨y.1, nn p.1 y.2.2 (k3 _ (oa p hp) (oh p hp) (o1 p hp))⟩) hIn' hlen hrows
end
end
section
noncomputable section
open LCg (lst)
def lawFn (w : World) (f : Addr) : FuncData := match (hd.heap_39 w.params).lookup f with
  | some ⟨_, _, .func fd, _⟩ => fd
  | _ => default
def lawBody (w : World) (f : Addr) : List Stmt := match (lawFn w f).body with
  | .stmts b => b
  | _ => []
def lawSeg (w : World) (f : Addr) (i k : Nat) : List Stmt := ((lawBody w f).drop i).take k
def lawEnv (w : World) (f L : Addr) : Env := envOfC (lawFn w f).qualname (lawFn w f).scope L f (lawFn w f).code
section
variable {M : Model} {w : World} {A : Around} {s : Shared} {E : Value → Shared → Prop} {Q : Flow → Shared → Prop} {name qual : Str} {params : Arguments} {body : List Stmt} {scope : Scope} {dV kV doc pm cdv ct oc : Value} {an od : Option Addr} {osl : Array (Option Value)} {f L : Addr} {i k : Nat}
theorem seg_of (ho : (hd.heap_39 w.params).lookup f = some ⟨oc, od, .func (fnOf name qual params body scope dV kV doc pm an cdv ct), osl⟩)
    (h : wpAny M (A.deeper (envOfC qual scope L f cdv)) (execs ((body.drop i).take k) (envOfC qual scope L f cdv)) Q E s) : wpAny M (A.deeper (lawEnv w f L)) (execs (lawSeg w f i k) (lawEnv w f L)) Q E s := by
  have e : lawFn w f = fnOf name qual params body scope dV kV doc pm an cdv ct := by unfold lawFn; rw [ho]
  unfold lawSeg lawBody lawEnv
  rw [e]
  exact h
theorem execs_append (a b : List Stmt) (env : Env) : execs (a ++ b) env = (do match ← execs a env with | .next => execs b env | f => pure f) := by
  induction a with
  | nil => rfl
  | cons st a ih =>
    rw [List.cons_append, execs_cons, execs_cons, ih, bind_assoc]
    congr 1
    funext fl
    cases fl <;> rfl
theorem execs_app {a b : List Stmt} {env : Env} (h : wpAny M A (execs a env) (fun fl s' => match fl with | .next => wpAny M A (execs b env) Q E s' | f => Q f s') E s) : wpAny M A (execs (a ++ b) env) Q E s := by
  rw [execs_append]
  refine wpAny_bind (wpAny_mono h (fun fl s' h' => ?_) fun _ _ e => e)
  cases fl with
  | next => exact h'
  | brk => exact wpAny_pure h'
  | cont => exact wpAny_pure h'
  | ret v => exact wpAny_pure h'
end
end
end
section
open LCg (lst)
section
variable {w : World} {loose : List Str} {mean : ExcName → Option Value} {mg mb : Str → Option Value} {dp un : Nat} {fr : Option (List Env)} {gd : Option (List Code)} {s : Shared} {Q E : Value → Shared → Prop}
theorem recover_raise {g : Heap} (X : (hd.heap_39 w.params).In g) (T : Top topProg loose mean mg mb g) (e : Ext g s.heap) (hd' : dp + 60 < recursionLimit) (hu : un + 1000 < cLine) {fh heard : Addr} (hg : g.get? heard = none) (hg1 : g.get? 150 = none) (ht : CodeHd g 154 150)
    {ps : Array Value} (hP : s.heap.get? 150 = some (tabObj ps)) (tri : TriplesOk ps.toList)
    {cap : Nat} {ans : Array UInt8 → Array UInt8 → Array UInt8} (H : HmacAt w (hideAll s.heap [150, heard]) [] fh heard cap ans) {ys : List Value} (hys : s.heap.get? heard = some (lst ys)) (hyl : ys.length < 20)
    {l : Addr} {shs : List Sh} {t : Nat} {tt : Tok} (ht2 : 2 ≤ t) (ht3 : t < 1000) (hl : (hideAll s.heap [150, heard]).IsList l (shVals shs)) (hsh : ∀ q ∈ shs, ShAt (hideAll s.heap [150, heard]) q) (hnd : (shs.map Sh.x).Nodup) {n : Nat} (hbn : ∀ q ∈ shs, q.b.size = n) (hne : shs ≠ []) (hlen : shs.length ≤ 10) (hn1 : n ≤ cap) (hcap : cap ≤ 1000) (hx : ∀ q ∈ shs, q.x < 256)
    (ha : ∀ b1 b2, (ans b1 b2).size ≤ 100000) (hbadq : cutT 4 (interpB shs 254 n) ≠ cutT 4 (ans (cutD 4 (interpB shs 254 n)) (interpB shs 255 n)))
    {env : Env} {L : Addr} (hfL : env.frame = some L) (hfk : env.scope.kind ≠ .module) {oL : Obj} (hoL : s.heap.get? L = some oL) (hoLd : ∀ vs, oL.data ≠ .fields vs) (hL1 : L ≠ 150) (hL2 : L ≠ heard)
    (hE : ∀ h' h8 tk gs dr ps' T u1 u2 x L2 a0, (∀ b o, b ≠ 150 → b ≠ heard → s.heap.get? b = some o → h8.get? b = some o) → h8.get? 150 = some (tabObj ps') → TriplesOk ps'.toList → GB s.gens gs → s.heap.get? T = none →
      h8.get? T = some { cls := .type "tuple", data := .seq #[.bytes (cutD 4 (interpB shs 254 n)) u1, .bytes (interpB shs 255 n) u2] 0 } → h8.get? heard = some (lst (ys ++ [.ref T])) → s.heap.get? L2 = none → T ≠ L2 → Heap.FlyingW (hideAll h8 [L2, L]) [env] x (.ref 31) a0 h' → h8.UpToSlots h' → E (.ref x) { s with heap := h', toks := tk, gens := gs, drawn := dr }) :
    wpAny (model P1 w) (tp dp (some [env]) gd un) (call (.ref 174) [.int t tt, .ref l, .ref fh]) Q E s := by
  refine recover_core X T e hd' hu hg hg1 ht hP tri H hys hyl ht2 ht3 hl hsh hnd hbn hne hlen hn1 hcap hx ha (fun h => absurd h hbadq) fun _ env8 h8 h9 tk gs dr ps' T8 u1 u2 x args hf hk k8 p8 tri8 g8 nT e8 eh hL8 hTL hx => ?_
  obtain ⟨o2, e82, d82⟩ := hL8
  have e8L := k8 L oL hL1 hL2 hoL
  refine wpAny_leaves_madeW (base := hideAll h8 [s.heap.objs.size, L]) (outer := [env]) rfl hf (fun b o q => of_hideAll _ q) ⟨hk, ⟨_, o2, hf, hideAll_none _ (by simp), e82, d82⟩, hfk, ⟨L, oL, hfL, hideAll_none _ (by simp), e8L, hoLd⟩, trivial⟩ hx fun h' t x1 x2 x3 x4 => ?_
  exact hE _ _ _ _ _ ps' T8 _ _ _ s.heap.objs.size _ k8 p8 tri8 g8 nT e8 eh (Heap.get?_none_of_le (Nat.le_refl _)) hTL x1 ((Heap.UpToSlots.of_keeps hx.keeps).trans x4)
end
end
section
open LCg (lst)
section
variable {w : World} {loose : List Str} {mean : ExcName → Option Value} {mg mb : Str → Option Value} {dp un : Nat} {gd : Option (List Code)} {s : Shared} {Q E : Value → Shared → Prop} {g : Heap} {L : Addr} {m : Str → Option Value} {rs : List (Addr × Obj)}
theorem recover_fail (X : (hd.heap_39 w.params).In g) (T : Top topProg loose mean mg mb g) (hd' : dp + 60 < recursionLimit) (hu : un + 1000 < cLine) {fh heard : Addr} (ht : CodeHd g 154 150) {ps : Array Value} (tri : TriplesOk ps.toList)
    (F : Fr g L s.heap m) (N : News g L s.heap ((heard, lst []) :: (150, tabObj ps) :: rs)) (n1 : ∀ p ∈ rs, @Ne Nat p.1 heard) (n3 : ∀ p ∈ rs, @Ne Nat p.1 150)
    {ob1 : List (Addr × Obj)} (h1 : ∀ p ∈ ob1, p ∈ rs) {cap : Nat} {ans : Array UInt8 → Array UInt8 → Array UInt8} (H : HmacAt w g ob1 fh heard cap ans)
    {l : Addr} {shs : List Sh} {k t : Nat} {tt : Tok} (ht2 : 2 ≤ t) (ht3 : t < 1000) (hl : (l, ({ cls := .type "list", data := .seq (shVals shs) k } : Obj)) ∈ rs) (hsh : ∀ q ∈ shs, ShIn rs q) (hnd : (shs.map Sh.x).Nodup) {n : Nat} (hbn : ∀ q ∈ shs, q.b.size = n) (hne : shs ≠ []) (hlen : shs.length ≤ 10) (hn1 : n ≤ cap) (hcap : cap ≤ 1000) (hx : ∀ q ∈ shs, q.x < 256)
    (ha : ∀ b1 b2, (ans b1 b2).size ≤ 100000) (hbad : cutT 4 (interpB shs 254 n) ≠ cutT 4 (ans (cutD 4 (interpB shs 254 n)) (interpB shs 255 n)))
    {env : Env} (hfL : env.frame = some L) (hfk : env.scope.kind ≠ .module)
    (hE : ∀ h' tk gs dr ps' T u1 u2 x B a0, g.StaysIn B → B.get? L = none → Fr g L h' m → (∀ p ∈ (heard, lst [.ref T]) :: (150, tabObj ps') :: (T, { cls := .type "tuple", data := .seq #[.bytes (cutD 4 (interpB shs 254 n)) u1, .bytes (interpB shs 255 n) u2] 0 }) :: rs, B.get? p.1 = some p.2 ∧ g.get? p.1 = none) → TriplesOk ps'.toList → GB s.gens gs → s.heap.get? T = none → Heap.FlyingW B [env] x (.ref 31) a0 h' → E (.ref x) { s with heap := h', toks := tk, gens := gs, drawn := dr }) :
    wpAny (model P1 w) (tp dp (some [env]) gd un) (call (.ref 174) [.int t tt, .ref l, .ref fh]) Q E s := by
  have m1 := N (heard, lst []) (.head _)
  have m3 := N (150, tabObj ps) (.tail _ (.head _))
  have gn : ∀ a ∈ [150, heard], g.get? a = none := fun a ha => by
    simp only [List.mem_cons, List.not_mem_nil, or_false] at ha
    rcases ha with rfl | rfl
    · exact m3.2.2
    · exact m1.2.2
  have eg : Ext g (hideAll s.heap [150, heard]) := ext_hide F.keep gn
  have up : ∀ p ∈ rs, (hideAll s.heap [150, heard]).get? p.1 = some p.2 := fun p hr => by
    refine hideAll_get _ (N p (.tail _ (.tail _ hr))).1 ?_
    simp only [List.mem_cons, List.not_mem_nil, or_false, not_or]
    exact ⟨n3 p hr, n1 p hr⟩
  have hL : L ≠ 150 ∧ L ≠ heard := ⟨fun h => m3.2.1 h.symm, fun h => m1.2.1 h.symm⟩
  obtain ⟨oL, es, ep, eL, dL, rL⟩ := id F.ns
  refine recover_raise X T F.keep hd' hu m1.2.2 m3.2.2 ht m3.1 tri (H.on eg fun p hp => up p (h1 p hp)) m1.1 (by decide) ht2 ht3 ⟨_, up _ hl, rfl, _, rfl⟩ (fun q hq => ?_) hnd hbn hne hlen hn1 hcap hx ha hbad hfL hfk eL (fun vs q => by rw [dL] at q; cases q) hL.1 hL.2
    fun h' h8 tk gs dr ps' T' u1 u2 x L2 a0 keep e150 tr gb nT eT eh nL2 nTL fly ups => ?_
  · obtain ⟨d, o, a, b, c⟩ := hsh q hq
    exact ⟨d, o, up _ a, up _ b, c⟩
  have F8 : Fr g L h8 m := ⟨F.ns.at' fun o q => keep _ o hL.1 hL.2 q, fun b o q => keep b o (fun hm => by rw [gn b (by simp [hm])] at q; cases q) (fun hm => by rw [gn b (by simp [hm])] at q; cases q) (F.keep b o q), F.above⟩
  have gL : g.get? L = none := Heap.get?_none_of_le F.above
  have gL2 : ∀ b o, s.heap.get? b = some o → b ≠ L2 := fun b o q e => by rw [e, nL2] at q; cases q
  have stay : g.StaysIn (hideAll h8 [L2, L]) := fun b o q => hideAll_get _ (F8.keep b o q) (by
    simp only [List.mem_cons, List.not_mem_nil, or_false, not_or]
    exact ⟨gL2 b o (F.keep b o q), fun e => by rw [e, gL] at q; cases q⟩)
  have inB : ∀ (a : Addr) (o : Obj), h8.get? a = some o → a ≠ L2 → a ≠ L → (hideAll h8 [L2, L]).get? a = some o := fun a o q h1 h2 => hideAll_get _ q (by
    simp only [List.mem_cons, List.not_mem_nil, or_false, not_or]; exact ⟨h1, h2⟩)
  have hTL : T' ≠ L := fun q => by rw [q, eL] at nT; cases nT
  have gT : g.get? T' = none := by
    cases q : g.get? T' with
    | none => rfl
    | some o => rw [F.keep _ _ q] at nT; cases nT
  refine hE h' tk gs dr ps' T' u1 u2 x _ a0 stay (hideAll_none _ (by simp)) (F8.of_stays (fun b o q => fly.1 b o (stay b o q)) ups) (fun p hp => ?_) tr gb nT fly
  simp only [List.mem_cons] at hp
  rcases hp with rfl | rfl | rfl | hp
  · exact ⟨inB _ _ eh (gL2 _ _ m1.1) m1.2.1, m1.2.2⟩
  · exact ⟨inB _ _ e150 (gL2 _ _ m3.1) m3.2.1, m3.2.2⟩
  · exact ⟨inB _ _ eT nTL hTL, gT⟩
  · have n := N p (.tail _ (.tail _ hp))
    exact ⟨inB _ _ (keep _ _ (n3 p hp) (n1 p hp) n.1) (gL2 _ _ n.1) n.2.1, n.2.2⟩
end
section
variable {prog : Program} {w : World} {A : Around} {E : Value → Shared → Prop} {s' : Shared} {g B : Heap} {L e C : Addr} {m : Str → Option Value} {env : Env} {a0 : Value}
  {b₀ : Stmt} {suite : List Stmt} {pos np : Pos} {rest : List ExceptHandler} {Q : Flow → Shared → Prop} {news : List (Addr × Obj)} {KF : Frag} {bmB : List Value} {newId : String}
  {p : Program} {loose : List Str} {mg mb : Str → Option Value} {x : Str}
theorem caught_law (hfr : A.frames = some [env]) (hfL : env.frame = some L) (hB : g.StaysIn B) (hBL : B.get? L = none) (F : Fr g L s'.heap m) (R : Heap.FlyingW B [env] e (.ref C) a0 s'.heap)
    (X : KF.In g) (T : TopRead p loose mg mb g) (ex : nsIn KF mainGlobals x = some (some (.ref C))) (q : excIn KF C bmB newId = true) (hbase : bmB.contains (.type "BaseException") = true)
    (hl : ∀ p ∈ news, B.get? p.1 = some p.2 ∧ g.get? p.1 = none)
    (hg : env.globals = mainGlobals) (hk : env.scope.kind = .function) (hx : env.kindOf x = some .globalImplicit) (hd : (x == ("__debug__" : Str)) = false)
    (k : ∀ h', Fr g L h' m → News g L h' news → wpAny (model prog w) (A.mark (some (.ref e))) (execs (b₀ :: suite) env) Q (fun _ _ => False) { s' with heap := h' }) :
    wpAny (model prog w) A (noteFrame (.ref e) env)
      (fun _ s₂ => wpAny (model prog w) A (setFlight (.ref e) none) (fun _ s₃ =>
        wpAny (model prog w) A (handleBy (.ref e) env (.ExceptHandler (some (.Name x np)) none (b₀ :: suite) pos :: rest)) Q (fun _ _ => False) s₃) (fun _ _ => False) s₂) (fun _ _ => False) s' := by
  refine wpAny_looks_onW hfr hfL R fun h₄ hheld₄ hsm₄ => ?_
  refine wpAny_landsW hheld₄ fun h₅ hheld hsm₅' => ?_
  have hsm₅ := hsm₄.trans hsm₅'
  have hheld' := flyingW_base hB hheld
  have F₅ := F.of_stays hheld'.1 hsm₅
  obtain ⟨ob, hob, hobc⟩ := hheld'.there
  refine wpAny_handleBy_cons (codeAny_handlers_test (ev_glob (X.keeps F₅.keep) (T.g.keeps F₅.keep) ex ?_ hg hk hx hd)) (by intro q; cases q)
  obtain ⟨bm, N, nm, qn, bs, hdct, sn, sub, ab, col, dd, k0, k1, k2, k3, k5, mN, hC, hN, hni, TL⟩ := ((own_of_in X T ex q).keeps F₅.keep).obj
  refine wpAny_excMatches_sub_self hC hob hobc (TL.hasType hbase) (codeAny_handlers_suite ?_)
  refine lands_againW hheld fun h₆ hfl₆ hsm₆ => ?_
  have hfl₆' := flyingW_base hB hfl₆
  have F₆ := F₅.of_stays hfl₆'.1 hsm₆
  exact wpAny_passesOwnAt PassesOwnAt.never (k h₆ F₆ fun p hp => ⟨hfl₆.1 _ _ (hl p hp).1, (fun z => by have := (hl p hp).1; rw [z, hBL] at this; cases this), (hl p hp).2⟩)
end
end
theorem lay_lev12 : True := by
  k_with_none
  k_with "mine stop" => with_reducible first
    | show wpAny _ _ (exec (Stmt.While ..) _) ..
    | show wpAny _ _ (exec (Stmt.For ..) _) ..
    | ((fail_if_success k_extra "mine calls"); show wpAny _ _ (call (Value.ref _) _) ..)
  k_with "mine ext" => ((rename Ext _ _ => eq9); (rename Fr _ _ _ _ => fq9); (rename News _ _ _ _ => nq9); (replace fq9 := frExt fq9 eq9); (replace nq9 := newsExt nq9 eq9); (try k_sweep); clear eq9; (try dsimp only); revert fq9 nq9; intro _ _)
  k_with "mine cx" => exact ⟨Frag.In.keeps (by assumption) (Fr.keep (by assumption)), Top.keeps (by assumption) (Fr.keep (by assumption)), by (try dsimp only [tp, Around.deeper]); omega, by (try dsimp only [tp, Around.deeper]); omega⟩
  k_with "mine list" => first | assumption | exact (by assumption : Heap.IsList _ _ _).at (fun o e => (by assumption : Fr _ _ _ _).keep _ _ e)
  k_with "mine steps" => repeat' ((fail_if_success (k_extra "mine stop")); first | (k_unfold; (try dsimp only)) | (walk1 <;> try ((fail_if_success (with_reducible show wpAny _ _ (subscriptTail ..) ..)); dsimp only)) | (dsimp only; walk1) | fail "no step")
  k_with "mine nat" => first | (with_reducible exact rfl) | k_dflt (exact natlit _) | k_dflt (exact rfl)
  k_with "mine b" => first | with_reducible assumption | decide | assumption | exact Nat.pow_pos (by decide) | omega
  k_with "binaryOp BitXor int int" => (refine' xor_n (by k_extra "mine nat") (by k_extra "mine nat") ?_; try dsimp only)
  k_with "binaryOp BitAnd int int" => (refine' and_n (by k_extra "mine nat") (by k_extra "mine nat") ?_; try dsimp only)
  k_with "binaryOp RShift int int" => (refine' shr_n (by k_extra "mine nat") (by k_extra "mine nat") ?_; try dsimp only)
  k_with "binaryOp LShift int int" => k_dflt (refine' shl_z (by k_extra "mine nat") (by omega) (by omega) (by k_extra "mine b") (by decide) ?_; (try dsimp only))
  k_with "binaryOp LShift int int" => (refine' shl_n (by k_extra "mine nat") (by k_extra "mine nat") (by k_extra "mine b") (by decide) (by k_extra "mine b") ?_; try dsimp only)
  k_with "binaryOp Add int int" => (refine' add_n (by k_extra "mine nat") (by k_extra "mine nat") ?_; try dsimp only)
  k_with "binaryOp Mult int int" => (refine' mul_n (by k_extra "mine nat") (by k_extra "mine nat") (by k_extra "mine b") (by decide) (by k_extra "mine b") (by decide) ?_; try dsimp only)
  k_with "binaryOp FloorDiv int int" => (refine' fdiv_n (by k_extra "mine nat") (by k_extra "mine nat") (by decide) (by decide) ?_; try dsimp only)
  k_with "binaryOp Mod int int" => (refine' mod_z (by k_extra "mine nat") (by k_extra "mine b") ?_; (try dsimp only))
  k_with "binaryOp Mod int int" => (refine' mod_n (by k_extra "mine nat") (by k_extra "mine nat") (by k_extra "mine b") ?_; try dsimp only)
  k_with "binaryOp Sub int int" => (refine' sub_n (by k_extra "mine nat") (by k_extra "mine nat") (by k_extra "mine b") ?_; try dsimp only)
  k_with "binaryOp Pow int int" => (refine' pow_n (by k_extra "mine nat") (by k_extra "mine nat") (by k_extra "mine b") (by k_extra "mine b") ?_; try dsimp only)
  k_with "compareOp Gt int int" => refine' gt_n (by k_extra "mine nat") (by k_extra "mine nat") ?_
  k_with "compareOp Lt int int" => refine' lt_n (by k_extra "mine nat") (by k_extra "mine nat") ?_
  k_with "compareOp Eq int int" => refine' eq_n (by k_extra "mine nat") (by k_extra "mine nat") ?_
  k_with "compareOp NotEq int int" => refine' ne_n (by k_extra "mine nat") (by k_extra "mine nat") ?_
  k_with "mine ret" => (intro _; constructor; intro _ _ _; k_extra "mine ext")
  k_with "mine in" => first | exact me 0 rfl | exact me 1 rfl | exact me 2 rfl | exact me 3 rfl | exact me 4 rfl | exact me 5 rfl | exact me 6 rfl | exact me 7 rfl | exact me 8 rfl | exact me 9 rfl | exact me 10 rfl | exact me 11 rfl | exact me 12 rfl | exact me 13 rfl | exact me 14 rfl | exact me 15 rfl | exact me 16 rfl | exact me 17 rfl | exact me 18 rfl | exact me 19 rfl | (with_reducible refine List.mem_append_right _ ?_; k_extra "mine in") | (with_reducible refine List.mem_append_left _ ?_; k_extra "mine in") | (with_reducible refine List.mem_cons_of_mem _ ?_; k_extra "mine in")
  k_with "mine tail" => first | with_reducible assumption | (with_reducible refine List.mem_cons_of_mem _ ?_; k_extra "mine tail") | (with_reducible refine List.mem_append_right _ ?_; k_extra "mine tail") | (with_reducible refine List.mem_append_left _ ?_; k_extra "mine tail")
  k_with "mine sub" => first | (with_reducible exact List.forall_mem_nil _) | (with_reducible refine fmc (by intros; k_extra "mine in") ?_; k_extra "mine sub") | (with_reducible refine fma ?_ ?_ <;> k_extra "mine sub") | (intro p hp; intros; first | contradiction | k_extra "mine tail")
  k_with "mine omega" => first | ((with_reducible show _ < recursionLimit); first | exact rm0 (by assumption) | exact rq 1 | exact rq 2 | exact rq 3 | exact rq 4 | exact rq 11 | exact rq 21 | exact rq 41 | exact rq2 3) | ((with_reducible show _ < cLine); first | exact rq 3 | exact rq 4 | exact rq 23 | exact rq 43 | exact rq 83 | exact rq 403 | exact rq 61 | exact rq 103 | exact rq2 80) | with_reducible exact sAdd (by decide) | with_reducible exact sAdd2 (by decide)
  k_with "mine ne" => with_reducible first | assumption | exact Ne.symm (by assumption) | exact Nat.ne_of_gt (by assumption) | exact Nat.ne_of_lt (by assumption) | fail ""
  k_with "mine stop" => with_reducible first
    | show Exists _
    | show LCg.CompSrc ..
    | show LCg.CompEnd ..
    | show LoopOn ..
    | show Turned ..
    | show wpAny _ _ (exec (Stmt.While ..) _) ..
    | show wpAny _ _ (exec (Stmt.For ..) _) ..
    | show wpAny _ _ (exec (Stmt.FunctionDef ..) _) ..
    | show wpAny _ _ (eval (Expr.ListComp ..) _) ..
    | show wpAny _ _ (call (Value.builtin "int.to_bytes") _) ..
    | show wpAny _ _ (call (Value.ref _) [Value.bytes .., Value.str ..]) ..
    | ((fail_if_success k_extra "mine calls"); show wpAny _ _ (call (Value.ref (OfNat.ofNat _)) _) ..)
  k_with "eval Name" => (kc_free; (rename News _ _ _ _ => nq9); k_dflt (refine' nameX_F nq9 (by rfl) (by k_mem) (by with_reducible assumption) ?_ (by rfl) (by rfl); k_whole))
  k_with "call builtin:len" => ((rename News _ _ _ _ => nq9); k_dflt (refine' len_news nq9 (by k_mem) (by (simp only [List.length_append, List.length_cons, List.length_nil]; omega)) ?_; k_whole))
  k_with "mine stop" => with_reducible first
    | show Exists _
    | show LCg.CompSrc ..
    | show LCg.CompEnd ..
    | show LoopOn ..
    | show Turned ..
    | show wpAny _ _ (exec (Stmt.While ..) _) ..
    | show wpAny _ _ (exec (Stmt.For ..) _) ..
    | show wpAny _ _ (exec (Stmt.Assign _ (Expr.ListComp ..) _) _) ..
    | show wpAny _ _ (eval (Expr.ListComp ..) _) ..
    | show wpAny _ _ (call (Value.builtin "int.to_bytes") _) ..
    | ((fail_if_success k_extra "mine calls"); show wpAny _ _ (call (Value.ref _) _) ..)
  k_with "subscriptTail" => ((with_reducible show wpAny _ _ (subscriptTail _ (Expr.Slice none (some _) ..) (Value.bytes ..) (Value.ref _)) ..); (with_reducible rename Fr _ _ _ _ => fq9); (with_reducible rename News _ _ _ _ => nq9); k_dflt (refine' slice_upto (s := ⟨_, _, _, _, _⟩) fq9 nq9 (by k_extra "mine nat") (by k_extra "mine b") ?_); clear fq9 nq9; intro _ _ _ _ _; (try dsimp only))
  k_with "subscriptTail" => ((with_reducible show wpAny _ _ (subscriptTail _ (Expr.Slice (some _) none ..) (Value.bytes ..) (Value.ref _)) ..); (with_reducible rename Fr _ _ _ _ => fq9); (with_reducible rename News _ _ _ _ => nq9); k_dflt (refine' slice_from (s := ⟨_, _, _, _, _⟩) fq9 nq9 (by k_extra "mine nat") (by k_extra "mine b") ?_); clear fq9 nq9; intro _ _ _ _ _; (try dsimp only))
  k_with "binaryOp Add bytes bytes" => (k_dflt (refine' KBy.add_bytes (by with_reducible assumption) ?_); intro _ _; (try dsimp only))
  k_with "mine stop5" => with_reducible first
    | (show wpAny _ _ (exec ..) ..; first | show wpAny _ _ (exec (Stmt.While ..) _) .. | show wpAny _ _ (exec (Stmt.For ..) _) .. | show wpAny _ _ (exec (Stmt.Try ..) _) .. | show wpAny _ _ (exec (Stmt.Assign _ (Expr.ListComp ..) _) _) ..)
    | (show wpAny _ _ (call ..) ..; first | show wpAny _ _ (call (Value.builtin "int.to_bytes") _) .. | show wpAny _ _ (call (Value.ref _) [Value.bytes .., Value.str ..]) .. | (show wpAny _ _ (call (Value.ref (OfNat.ofNat _)) _) ..; fail_if_success k_extra "mine calls"))
    | show wpAny _ _ (eval (Expr.ListComp ..) _) ..
    | show wpAny _ _ (subscriptTail _ _ (Value.ref _) (Value.int ..)) ..
    | show wpAny _ _ (compareOp CmpOp.In ..) ..
    | show wpAny _ _ (compareOp CmpOp.NotIn ..) ..
    | show wpAny _ _ (compareOp CmpOp.NotEq (Value.ref _) (Value.ref _)) ..
    | show wpAny _ _ (compareOp CmpOp.Eq (Value.ref _) (Value.ref _)) ..
    | ((fail_if_success show wpAny ..); first
      | show Exists _
      | show LCg.CompSrc ..
      | show LCg.CompEnd ..
      | show LCt.CompSrcT ..
      | show LoopOn ..
      | show Turned ..)
  k_with "mine steps" => repeat' ((fail_if_success (k_extra "mine stop5")); first | (k_unfold; (try dsimp only)) | (walk1 <;> try ((fail_if_success (with_reducible show wpAny _ _ (subscriptTail ..) ..)); dsimp only)) | (dsimp only; walk1) | fail "no step")
  k_with "mine calls" => with_reducible first
    | show wpAny _ _ (call (Value.ref 181) _) ..
    | show wpAny _ _ (call (Value.ref 188) _) ..
    | show wpAny _ _ (call (Value.ref 195) _) ..
    | show wpAny _ _ (call (Value.ref 223) _) ..
  k_with "call ref" => ((with_reducible show wpAny _ _ (call (Value.ref 181) _) ..); k_dflt (refine' number_spec (by k_extra "mine cx") (by k_extra "mine list") (by assumption) (by assumption) (by k_extra "mine nat") (by k_extra "mine b") ?_; k_extra "mine ret"))
  k_with "call ref" => ((with_reducible show wpAny _ _ (call (Value.ref 188) _) ..); k_dflt (refine' row_spec (by k_extra "mine cx") (by k_extra "mine list") (by assumption) (by assumption) (by assumption) (by k_extra "mine nat") (by k_extra "mine b") (by k_extra "mine nat") (by k_extra "mine b") ?_; k_extra "mine ret"))
  k_with "call ref" => ((with_reducible show wpAny _ _ (call (Value.ref 195) _) ..); k_dflt (refine' times_spec' (by k_extra "mine cx") (by k_extra "mine nat") (by k_extra "mine nat") (by k_extra "mine nat") (by k_extra "mine b") (by k_extra "mine b") (by k_extra "mine b") ?_; k_extra "mine ret"))
  k_with "call ref" => ((with_reducible show wpAny _ _ (call (Value.ref 223) _) ..); k_dflt (refine' digest_spec (by k_extra "mine cx") (by k_extra "mine b") (by k_extra "mine b") (by k_extra "mine b") ?_; k_extra "mine ret"))
  trivial
section
open LCg (lst)
def thF (ns : List Int) : Nat := 2 + (numF ns 0 % ((3 : Nat) : Int)).toNat
def menuF (t : Nat) : Nat := if t = 2 then 6 else if t = 3 then 3 else 2
def cnF (ns : List Int) : Nat := thF ns + (numF ns 1 % ((menuF (thF ns) : Nat) : Int)).toNat
def szF (ns : List Int) : Nat := 4 + (numF ns 2 % ((3 : Nat) : Int)).toNat
def knF (ns : List Int) : Nat := thF ns - 2 + (numF ns 3 % ((2 : Nat) : Int)).toNat
theorem lt_up (L k : Nat) : L < L + (k + 1) := Nat.lt_add_of_pos_right (Nat.succ_pos k)
theorem ne_up (L i j : Nat) (h : i ≠ j) : @Ne Nat (L + i) (L + j) := fun e => h (Nat.add_left_cancel e)
theorem emod_nat_lt (z : Int) {m : Nat} (h : 0 < m) : (z % (m : Int)).toNat < m := by
  have h1 := Int.emod_lt_of_pos z (b := (m : Int)) (Int.ofNat_lt.mpr h)
  have h2 := Int.emod_nonneg z (b := (m : Int)) (Int.ne_of_gt (Int.ofNat_lt.mpr h))
  exact (Int.toNat_lt h2).mpr h1
theorem thF_le (ns : List Int) : 2 ≤ thF ns ∧ thF ns ≤ 4 := ⟨Nat.le_add_right _ _, Nat.add_le_add_left (Nat.le_of_lt_succ (emod_nat_lt (m := 3) _ (by decide))) 2⟩
theorem menuF_pos (t : Nat) : 0 < menuF t := by unfold menuF; split <;> (try split) <;> decide
theorem menu_get {t : Nat} (h : 2 ≤ t ∧ t ≤ 4) : [(6 : Int), 3, 2].getD ((t - 2 : Nat) : Int).toNat 0 = ((menuF t : Nat) : Int) := by
  obtain ⟨h1, h2⟩ := h
  match t, h1, h2 with
  | 0, h, _ => exact absurd h (by decide)
  | 1, h, _ => exact absurd h (by decide)
  | 2, _, _ => rfl
  | 3, _, _ => rfl
  | 4, _, _ => rfl
  | t + 5, _, h => exact absurd (Nat.le_trans (Nat.le_add_left 5 t) h) (by decide)
theorem szF_le (ns : List Int) : 4 ≤ szF ns ∧ szF ns ≤ 6 := ⟨Nat.le_add_right _ _, Nat.add_le_add_left (Nat.le_of_lt_succ (emod_nat_lt (m := 3) _ (by decide))) 4⟩
theorem nat_snoc {f : Nat → Nat} {i : Nat} {rp : List (Nat × Tok)} {y : Value} {t : Tok} (h : rp.map (·.1) = (List.range i).map f) (e : y = .int (f i : Nat) t) :
    ∃ rp' : List (Nat × Tok), rp.map (fun p => Value.int (p.1 : Int) p.2) ++ [y] = rp'.map (fun p => Value.int (p.1 : Int) p.2) ∧ rp'.map (·.1) = (List.range (i + 1)).map f := by
  subst e
  exact ⟨rp ++ [(f i, t)], by rw [List.map_append]; rfl, by rw [List.map_append, h, List.range_succ, List.map_append]; rfl⟩
section
variable {w : World} {loose : List Str} {mean : ExcName → Option Value} {mg mb : Str → Option Value} {dp un : Nat} {gd : Option (List Code)} {s : Shared} {Q : Flow → Shared → Prop} {E : Value → Shared → Prop} {g : Heap} {L l : Addr} {m : Str → Option Value} {vs : List Value} {ns : List Int}
theorem segA (X : (hd.heap_39 w.params).In g) (T : Top topProg loose mean mg mb g) (hd' : dp + 200 < recursionLimit) (hu : un + 3000 < cLine) (hl : g.IsList l vs.toArray) (hi : IntsAre vs ns) (hn : ns.length ≤ 63) (hL : PyData.layable0 (.list (ns.map .int)) = true)
    (F : Fr g L s.heap m) {c1 c2 c3 c4 c5 c6 c7 c8 : Obj} {rest : List (Addr × Obj)}
    (N : News g L s.heap ((L + 1 + 1 + 1 + 1 + 1 + 1 + 1 + 1, c8) :: (L + 1 + 1 + 1 + 1 + 1 + 1 + 1, c7) :: (L + 1 + 1 + 1 + 1 + 1 + 1, c6) :: (L + 1 + 1 + 1 + 1 + 1, c5) :: (L + 1 + 1 + 1 + 1, c4) :: (L + 1 + 1 + 1, c3) :: (L + 1 + 1, c2) :: (L + 1, c1) :: rest))
    (hr : ∀ p ∈ rest, @LT.lt Nat _ p.1 L)
    (d1 : c1.data = .cell (some (.ref l))) {v2 v3 v4 v5 v6 v7 v8 : Option Value} (d2 : c2.data = .cell v2) (d3 : c3.data = .cell v3) (d4 : c4.data = .cell v4) (d5 : c5.data = .cell v5)
    (hQ : ∀ h' tk m' c2 c3 c4 c5 D (rp : List (Nat × Tok)) t1 t2 t3 t4 t5 t6 t7 t8 t9, Fr g L h' m' →
      News g L h' ((D, lst (rp.map fun p => Value.int (p.1 : Int) p.2)) :: (L + 1 + 1 + 1 + 1 + 1 + 1 + 1 + 1, c8) :: (L + 1 + 1 + 1 + 1 + 1 + 1 + 1, c7) :: (L + 1 + 1 + 1 + 1 + 1 + 1, c6) :: (L + 1 + 1 + 1 + 1 + 1, c5) :: (L + 1 + 1 + 1 + 1, c4) :: (L + 1 + 1 + 1, c3) :: (L + 1 + 1, c2) :: (L + 1, c1) :: rest) →
      c2.data = .cell (some (.int (szF ns : Nat) t1)) → c3.data = .cell (some (.int (onF (szF ns) : Nat) t2)) → c4.data = .cell (some (.int (rowF ns 5 (szF ns) : Nat) t3)) → c5.data = .cell (some (.ref D)) →
      LCg.Off1 D ((L + 1 + 1 + 1 + 1 + 1 + 1 + 1 + 1, c8) :: (L + 1 + 1 + 1 + 1 + 1 + 1 + 1, c7) :: (L + 1 + 1 + 1 + 1 + 1 + 1, c6) :: (L + 1 + 1 + 1 + 1 + 1, c5) :: (L + 1 + 1 + 1 + 1, c4) :: (L + 1 + 1 + 1, c3) :: (L + 1 + 1, c2) :: (L + 1, c1) :: rest) →
      AllAt m' [(Str.ofString "threshold", .int (thF ns : Nat) t4), (Str.ofString "count", .int (cnF ns : Nat) t5), (Str.ofString "known", .int (knF ns : Nat) t6), (Str.ofString "key", .int (numF ns 4) t7), (Str.ofString "second", .int (rowF ns 6 (szF ns) : Nat) t8), (Str.ofString "part", .bytes (toB (szF ns - 4) (rowF ns 7 (szF ns - 4))) t9)] →
      rp.map (·.1) = (List.range (thF ns - 2)).map (fun j => rowF ns (8 + j) (szF ns)) → Q .next { s with heap := h', toks := tk }) :
    wpAny (model P1 w) ((tp dp (some []) gd un).deeper (lawEnv w 247 L)) (execs (lawSeg w 247 0 10) (lawEnv w 247 L)) Q E s := by
  refine' seg_of ?ho ?_
  case ho => k_is
  dsimp only [List.drop, List.take]
  have eth : 2 + (numF ns 0 % ((3 : Nat) : Int)).toNat = thF ns := rfl
  have ecn : thF ns + (numF ns 1 % ((menuF (thF ns) : Nat) : Int)).toNat = cnF ns := rfl
  have esz : 4 + (numF ns 2 % ((3 : Nat) : Int)).toNat = szF ns := rfl
  have ekn : thF ns - 2 + (numF ns 3 % ((2 : Nat) : Int)).toNat = knF ns := rfl
  have hth := thF_le ns
  have hpos := menuF_pos (thF ns)
  have hth2 : 2 ≤ thF ns := hth.1
  have hsz4 : 4 ≤ szF ns := (szF_le ns).1
  have hszk : szF ns ≤ 1000 := Nat.le_trans (szF_le ns).2 (by decide)
  have hsz16 : szF ns ≤ 16 := Nat.le_trans (szF_le ns).2 (by decide)
  have hsz16' : szF ns - 4 ≤ 16 := Nat.le_trans (Nat.sub_le _ _) hsz16
  have hpow : 1 ≤ 256 ^ (4 + (numF ns 2 % ((3 : Nat) : Int)).toNat) := Nat.pow_pos (by decide)
  have r2 : ∀ p ∈ rest, @Ne Nat p.1 (L + 1 + 1) := fun p hp => Nat.ne_of_lt (Nat.lt_trans (hr p hp) (lt_up L 1))
  have r3 : ∀ p ∈ rest, @Ne Nat p.1 (L + 1 + 1 + 1) := fun p hp => Nat.ne_of_lt (Nat.lt_trans (hr p hp) (lt_up L 2))
  have r4 : ∀ p ∈ rest, @Ne Nat p.1 (L + 1 + 1 + 1 + 1) := fun p hp => Nat.ne_of_lt (Nat.lt_trans (hr p hp) (lt_up L 3))
  have r5 : ∀ p ∈ rest, @Ne Nat p.1 (L + 1 + 1 + 1 + 1 + 1) := fun p hp => Nat.ne_of_lt (Nat.lt_trans (hr p hp) (lt_up L 4))
  clear hr
  k_extra "mine steps"
  rename Fr _ _ _ _ => F1
  rename News _ _ _ _ => N1
  rw [eth] at F1 ⊢
  refine item_anyT (vs := [_, _, _]) (ns := [6, 3, 2]) (News.isTup N1 (by k_mem)) (.cons _ _ (.cons _ _ (.cons _ _ .nil))) (Int.natCast_nonneg _) (Int.ofNat_lt.mpr (Nat.lt_of_le_of_lt (Nat.sub_le_sub_right hth.2 2) (by decide))) (by clear eth ecn esz ekn hpow hpos; omega) (fun tq => ?_)
  rw [menu_get hth]
  replace N1 : News g L _ ((L + 1 + 1 + 1 + 1 + 1 + 1 + 1 + 1, c8) :: (L + 1 + 1 + 1 + 1 + 1 + 1 + 1, c7) :: (L + 1 + 1 + 1 + 1 + 1 + 1, c6) :: (L + 1 + 1 + 1 + 1 + 1, c5) :: (L + 1 + 1 + 1 + 1, c4) :: (L + 1 + 1 + 1, c3) :: (L + 1 + 1, c2) :: (L + 1, c1) :: rest) := fun p hp => N1 p (.tail _ hp)
  k_extra "mine steps"
  refine to_bytes_n (x := rowF ns 7 (szF ns - 4)) (n := szF ns - 4) rfl rfl (Nat.le_trans hsz16' (by decide)) (rowF_lt _ _ _) fun t6 k6 => ?_
  try dsimp only
  k_extra "mine steps"
  rename Fr _ _ _ _ => F1
  rename News _ _ _ _ => N1
  obtain ⟨m2, hm2, F2⟩ : ∃ m2, (∃ (t1 t2 t3 t4 t5 t6 : Tok), AllAt m2 [(Str.ofString "threshold", .int (thF ns : Nat) t1), (Str.ofString "count", .int (cnF ns : Nat) t2), (Str.ofString "known", .int (knF ns : Nat) t3), (Str.ofString "key", .int (numF ns 4) t4), (Str.ofString "second", .int (rowF ns 6 (szF ns) : Nat) t5), (Str.ofString "part", .bytes (toB (szF ns - 4) (rowF ns 7 (szF ns - 4))) t6)]) ∧ Fr g L _ m2 := ⟨_, ⟨_, _, _, _, _, _, rfl, rfl, rfl, rfl, rfl, rfl, trivial⟩, F1⟩
  clear F1
  obtain ⟨t1, t2, t3, t4, t5, t6, hm2⟩ := hm2
  replace F2 := frOv F2 hm2
  walk1
  (refine' LCg.ListComp_U (F₀ := ?cF_1) ?c1_1 ?c2_1 ?c3_1 ?c4_1 ?c5_1 ?_; (case cF_1 => k_asm); (case c1_1 => with_unfolding_all rfl); (case c2_1 | c4_1 => decide); (case c3_1 | c5_1 => rfl))
  k_extra "mine steps"
  rename Fr _ _ _ _ => F3
  rename News _ _ _ _ => N3
  refine src_range (fun i ys news => news = _ ∧ ∃ rp : List (Nat × Tok), ys = rp.map (fun p => Value.int (p.1 : Int) p.2) ∧ rp.map (·.1) = (List.range i).map fun j => rowF ns (8 + j) (szF ns)) rfl F3 N3 (by assumption) (by decide) (small_nat (Nat.le_trans (Nat.sub_le _ _) (Nat.le_trans hth.2 (by decide)))) rfl ⟨rfl, [], rfl, rfl⟩ (fun g => ?_) (fun g ys news hl' hJ => ?_)
  · intro i ys news v I oI C oC D m₂ h tk' E' hi' hyl p90 p91 hS hC hx F4 N4 off ne
    obtain ⟨rfl, rp, rfl, hrp⟩ := p90
    obtain ⟨tv, rfl⟩ := p91
    refine genQ fun QC hQC => ?_
    clear F3 N3
    rw [Int.zero_add] at hx
    replace hi' : i < thF ns - 2 := by simpa using hi'
    have h8 : 8 + i < 1000 := Nat.lt_of_lt_of_le (Nat.add_lt_add_left (Nat.lt_of_lt_of_le hi' (Nat.le_trans (Nat.sub_le _ _) hth.2)) 8) (by decide)
    k_extra "mine steps"
    rename Fr _ _ _ _ => F5
    rename News _ _ _ _ => N5
    refine hQC _ _ ?_
    refine LCg.CompEnd.intro F5 N5 _ (fun _ hp => hp) off trivial ⟨rfl, nat_snoc hrp rfl⟩
  · obtain ⟨rfl, rp, rfl, hrp⟩ := hJ
    intro D h tk' F4 N4 off
    clear F3 N3
    obtain ⟨f1, f2, f3, f4, f5, f6, f7, f8, f9⟩ := id off
    try dsimp only
    k_extra "mine steps"
    rename Fr _ _ _ _ => F5
    rename News _ _ _ _ => N5
    exact hQ _ _ _ _ _ _ _ D rp _ _ _ _ _ _ _ _ _ F5 N5 (by assumption) (by assumption) (by assumption) (by assumption) ⟨f1, f2, f3, f4, f5, f6, f7, f8, f9⟩ ⟨rfl, rfl, rfl, rfl, rfl, rfl, trivial⟩ hrp
end
end
section
open LCg LCt
section
variable {prog : Program} {w : World} {A : Around} {E : Value → Shared → Prop} {s : Shared} {h₀ : Heap} {L : Addr} {m : Str → Option Value} {env : Env} {ct elt : Expr} {x : Str} {scope : Scope} {cl : List (Str × Addr)}
def ElemT (prog : Program) (w : World) (A : Around) (h₀ : Heap) (L : Addr) (m : Str → Option Value) (env : Env) (ct elt : Expr) (x : Str) (scope : Scope) (cl : List (Str × Addr)) (s : Shared) (S : List (Addr × Obj) → Prop) (P : Nat → Value → Prop) (n : Nat) (J : Nat → List Value → List (Addr × Obj) → Prop) : Prop :=
  ∀ i ys news v I oI C oC D m₂ h tk (E' : Value → Shared → Prop), i < n → J i ys news → P i v → S news → NsObj oC m₂ → m₂ x = some v → Fr h₀ L h m → News h₀ L h ((I, oI) :: (C, oC) :: (D, lst ys) :: news) → Off3 I C D news → ((@Ne Nat I C) ∧ (@Ne Nat I D) ∧ (@Ne Nat C D)) →
    wpAny (model prog w) A (isTrue ct (compEnvC scope cl C env) (eval ct (compEnvC scope cl C env))) (fun ok s' => if ok = true then
        wpAny (model prog w) A (eval elt (compEnvC scope cl C env)) (CompEnd h₀ L m { s with heap := h, toks := tk } I oI C oC D (lst ys) S (fun y news' => J (i + 1) (ys ++ [y]) news')) E' s'
        else CompEnd h₀ L m { s with heap := h, toks := tk } I oI C oC D (lst ys) S (fun _ news' => J (i + 1) ys news') Value.none s') E' { s with heap := h, toks := tk }
theorem rest_ofT {S : List (Addr × Obj) → Prop} {P : Nat → Value → Prop} {n : Nat} {J : Nat → List Value → List (Addr × Obj) → Prop} {Fin : List Value → List (Addr × Obj) → Prop} (el : ElemT prog w A h₀ L m env ct elt x scope cl s S P n J) (fin : ∀ ys news, J n ys news → Fin ys news) :
    ∀ k i ys news, i + k = n → S news → J i ys news → CompRestT prog w A h₀ L m env ct elt x scope cl s S P Fin k i ys news
  | 0, i, ys, news, e, hS, hJ => by
    rw [Nat.add_zero] at e; subst e
    exact CompRestT.zero (fin _ _ hJ)
  | k + 1, i, ys, news, e, hS, hJ => by
    refine CompRestT.succ fun v I oI C oC D m₂ h tk E' hP hC hx F N o3 ne => ?_
    refine wpAny_mono (el i ys news v I oI C oC D m₂ h tk E' (by omega) hJ hP hS hC hx F N o3 ne) (fun ok s₂ hE => ?_) fun _ _ e => e
    have up : ∀ {y : Value} {s₃ : Shared} {zs : List Value}, CompEnd h₀ L m { s with heap := h, toks := tk } I oI C oC D (lst ys) S (fun _ news' => J (i + 1) zs news') y s₃ → CompEnd h₀ L m { s with heap := h, toks := tk } I oI C oC D (lst ys) S (fun _ news' => CompRestT prog w A h₀ L m env ct elt x scope cl s S P Fin k (i + 1) zs news') y s₃ := by
      rintro y s₃ zs ⟨h', tk', n', e', F', N', o', hS', hr⟩
      exact ⟨h', tk', n', e', F', N', o', hS', rest_ofT el fin k (i + 1) _ n' (by omega) hS' hr⟩
    by_cases hok : ok = true
    · rw [if_pos hok] at hE ⊢
      refine wpAny_mono hE (fun y s₃ hE => ?_) fun _ _ e => e
      obtain ⟨h', tk', n', e', F', N', o', hS', hr⟩ := hE
      exact ⟨h', tk', n', e', F', N', o', hS', rest_ofT el fin k (i + 1) _ n' (by omega) hS' hr⟩
    · rw [if_neg hok] at hE ⊢
      exact up hE
theorem src_rangeT {Fin : Shared → List Value → List (Addr × Obj) → Prop} {r : Addr} {a b : Int} {t u v : Tok} {n : Nat} {news : List (Addr × Obj)} {s₁ : Shared} (J : Nat → List Value → List (Addr × Obj) → Prop)
    (hh : A.handled = none) (F : Fr h₀ L s₁.heap m) (N : News h₀ L s₁.heap news) (hr : IsRange s₁.heap r a b 1 t u v) (ha : -1000 ≤ a ∧ a ≤ 1000) (hb : -1000 ≤ b ∧ b ≤ 1000) (hn : n = (b - a).toNat) (J0 : J 0 [] news)
    (el : ∀ g, ElemT prog w A h₀ L m env ct elt x scope cl { s₁ with heap := g } (fun _ => True) (fun i v => ∃ t, v = .int (a + (i : Int)) t) n J)
    (fin : ∀ g ys news, J n ys news → Fin { s₁ with heap := g } ys news) :
    CompSrcT prog w A h₀ L m env ct elt x scope cl Fin (.ref r) s₁ := by
  subst hn
  refine CompSrcT.range (n := (b - a).toNat) hh F N hr (small_one (by omega) (by omega) (by omega) (by omega)) ?_ (by rw [sizeLine_eq]; omega) fun g => rest_ofT (el g) (fin g) _ 0 [] news (by omega) trivial J0
  rw [rangeSize_one]; split <;> omega
end
end
section
open LCg (lst)
section
variable {prog : Program} {w : World} {A : Around} {s : Shared} {E : Value → Shared → Prop} {g : Heap} {L l : Addr} {news : List (Addr × Obj)} {rp : List (Nat × Tok)} {n : Nat} {k : Int} {x : Nat} {t : Tok} {Q : Value → Shared → Prop}
theorem any_nat (rp : List (Nat × Tok)) (x : Nat) : (rp.map fun p => Value.int (p.1 : Int) p.2).toArray.any (fun y => match y with | .int i _ => i == (x : Int) | _ => false) = decide (x ∈ rp.map (·.1)) := by
  rw [List.any_toArray, List.any_map]
  induction rp with
  | nil => rfl
  | cons p rp ih =>
    rw [List.any_cons, ih, List.map_cons]
    have : ((p.1 : Int) == (x : Int)) = decide (x = p.1) := by
      by_cases h : x = p.1
      · subst h; simp
      · rw [decide_eq_false h]; exact beq_false_of_ne (by omega)
    show (((p.1 : Int) == (x : Int)) || _) = _
    rw [this, ← Bool.decide_or]
    exact decide_eq_decide.mpr List.mem_cons.symm
theorem in_nat (N : News g L s.heap news) (hm : (l, ({ cls := .type "list", data := .seq (rp.map fun p => Value.int (p.1 : Int) p.2).toArray n } : Obj)) ∈ news) (hk : k = (x : Int)) (h : Q (.bool (decide (x ∈ rp.map (·.1)))) s) :
    wpAny (model prog w) A (compareOp .In (.int k t) (.ref l)) Q E s := by
  subst hk
  refine SeqRoads2.in_list (items := (rp.map fun p => Value.int (p.1 : Int) p.2).toArray) (n := n) (fun y => match y with | .int i _ => i == (x : Int) | _ => false) (fun y hy => ?_) (N _ hm).1 ?_
  · rw [List.mem_toArray, List.mem_map] at hy
    obtain ⟨p, _, rfl⟩ := hy
    exact PySem.MeetsSeq.EqGives.int _ _ _ _
  · rw [any_nat]; exact h
theorem notIn_nat (N : News g L s.heap news) (hm : (l, ({ cls := .type "list", data := .seq (rp.map fun p => Value.int (p.1 : Int) p.2).toArray n } : Obj)) ∈ news) (hk : k = (x : Int)) (h : Q (.bool (!decide (x ∈ rp.map (·.1)))) s) :
    wpAny (model prog w) A (compareOp .NotIn (.int k t) (.ref l)) Q E s := by
  subst hk
  refine SeqRoads2.notIn_list (items := (rp.map fun p => Value.int (p.1 : Int) p.2).toArray) (n := n) (fun y => match y with | .int i _ => i == (x : Int) | _ => false) (fun y hy => ?_) (N _ hm).1 ?_
  · rw [List.mem_toArray, List.mem_map] at hy
    obtain ⟨p, _, rfl⟩ := hy
    exact PySem.MeetsSeq.EqGives.int _ _ _ _
  · rw [any_nat]; exact h
end
theorem allLt_mem {d : Nat} : ∀ {l : List (Addr × Obj)}, AllLt d l → ∀ p ∈ l, @LT.lt Nat _ p.1 d
  | [], _, p, hp => absurd hp List.not_mem_nil
  | q :: l, h, p, hp => by
    rcases List.mem_cons.mp hp with rfl | hp
    · exact h.1
    · exact allLt_mem h.2 p hp
theorem nodup_sub_len : ∀ (l1 l2 : List Nat), l1.Nodup → (∀ x ∈ l1, x ∈ l2) → l1.length ≤ l2.length
  | [], _, _, _ => Nat.zero_le _
  | x :: l1, l2, hn, hs => by
    rw [List.nodup_cons] at hn
    have h1 := nodup_sub_len l1 (l2.erase x) hn.2 fun y hy => (List.mem_erase_of_ne (fun q : y = x => hn.1 (by rw [← q]; exact hy))).mpr (hs y (by simp [hy]))
    have h2 : x ∈ l2 := hs x (by simp)
    rw [List.length_erase_of_mem h2] at h1
    have := List.length_pos_of_mem h2
    rw [List.length_cons]; omega
theorem pigeon {al : List Nat} {c : Nat} (h : al.length < c) : ∃ r, r < c ∧ r ∉ al := by
  rcases Classical.em (∃ r, r < c ∧ r ∉ al) with h1 | h1
  · exact h1
  exfalso
  have h2 : ∀ r ∈ List.range c, r ∈ al := fun r hr => Classical.byContradiction fun q => h1 ⟨r, List.mem_range.mp hr, q⟩
  have h3 : (List.range c).length ≤ al.length := nodup_sub_len _ _ List.nodup_range h2
  rw [List.length_range] at h3
  omega
theorem free_at {al : List Nat} {c p : Nat} (h : al.length < c) (hp : p < c) : ∃ j, j ≤ c ∧ (p + j) % c ∉ al := by
  obtain ⟨r, hr, hn⟩ := pigeon h
  refine ⟨(r + c - p) % c, Nat.le_of_lt (Nat.mod_lt _ (by omega)), ?_⟩
  have : (p + (r + c - p) % c) % c = r := by
    rw [Nat.add_mod_mod, show p + (r + c - p) = r + c by omega, Nat.add_mod_right, Nat.mod_eq_of_lt hr]
  rw [this]; exact hn
section
variable {w : World} {loose : List Str} {mean : ExcName → Option Value} {mg mb : Str → Option Value} {dp un : Nat} {gd : Option (List Code)} {s : Shared} {Q : Flow → Shared → Prop} {g : Heap} {L l : Addr} {m : Str → Option Value} {vs : List Value} {ns : List Int}
theorem segB (X : (hd.heap_39 w.params).In g) (T : Top topProg loose mean mg mb g) (hd' : dp + 200 < recursionLimit) (hu : un + 3000 < cLine) (hl : g.IsList l vs.toArray) (hi : IntsAre vs ns) (hn : ns.length ≤ 63) (hL : PyData.layable0 (.list (ns.map .int)) = true)
    {th cn kn : Nat} (hkn : kn < cn) (hcn : cn ≤ 10) {t1 t2 t3 t4 t5 t6 : Tok} {ky : Int} {se : Nat} {pt : Array UInt8}
    (F : Fr g L s.heap m) (hm : AllAt m [(Str.ofString "threshold", .int (th : Nat) t1), (Str.ofString "count", .int (cn : Nat) t2), (Str.ofString "known", .int (kn : Nat) t3), (Str.ofString "key", .int ky t4), (Str.ofString "second", .int (se : Nat) t5), (Str.ofString "part", .bytes pt t6)])
    {c1 c2 c3 c4 c5 c6 c7 c8 : Obj} {rest : List (Addr × Obj)}
    (N : News g L s.heap ((L + 1 + 1 + 1 + 1 + 1 + 1 + 1 + 1, c8) :: (L + 1 + 1 + 1 + 1 + 1 + 1 + 1, c7) :: (L + 1 + 1 + 1 + 1 + 1 + 1, c6) :: (L + 1 + 1 + 1 + 1 + 1, c5) :: (L + 1 + 1 + 1 + 1, c4) :: (L + 1 + 1 + 1, c3) :: (L + 1 + 1, c2) :: (L + 1, c1) :: rest))
    (r6 : ∀ p ∈ rest, @Ne Nat p.1 (L + 1 + 1 + 1 + 1 + 1 + 1))
    (d1 : c1.data = .cell (some (.ref l))) {v6 : Option Value} (d6 : c6.data = .cell v6)
    (hQ : ∀ (h' : Heap) (tk : Nat) (m' : Str → Option Value) (o6 : Obj) (A R : Addr) (al rp : List (Nat × Tok)), Fr g L h' m' → News g L h' ((R, lst (rp.map fun p => Value.int (p.1 : Int) p.2)) :: (A, lst (al.map fun p => Value.int (p.1 : Int) p.2)) :: (L + 1 + 1 + 1 + 1 + 1 + 1 + 1 + 1, c8) :: (L + 1 + 1 + 1 + 1 + 1 + 1 + 1, c7) :: (L + 1 + 1 + 1 + 1 + 1 + 1, o6) :: (L + 1 + 1 + 1 + 1 + 1, c5) :: (L + 1 + 1 + 1 + 1, c4) :: (L + 1 + 1 + 1, c3) :: (L + 1 + 1, c2) :: (L + 1, c1) :: rest) →
      o6.data = .cell (some (.ref A)) → al.length = kn → (al.map (·.1)).Nodup → (∀ x ∈ al.map (·.1), x < cn) → rp.map (·.1) = (List.range cn).filter (fun x => !decide (x ∈ al.map (·.1))) →
      AllAt m' [(Str.ofString "threshold", .int (th : Nat) t1), (Str.ofString "count", .int (cn : Nat) t2), (Str.ofString "known", .int (kn : Nat) t3), (Str.ofString "key", .int ky t4), (Str.ofString "second", .int (se : Nat) t5), (Str.ofString "part", .bytes pt t6), (Str.ofString "rest", .ref R)] → Q .next { s with heap := h', toks := tk }) :
    wpAny (model P1 w) ((tp dp (some []) gd un).deeper (lawEnv w 247 L)) (execs (lawSeg w 247 10 3) (lawEnv w 247 L)) Q (fun _ _ => False) s := by
  refine' seg_of ?ho ?_
  case ho => k_is
  dsimp only [List.drop, List.take]
  replace F := frOv F hm
  k_extra "mine steps"
  (refine for_on ?_; k_extra "mine steps")
  rename Fr _ _ _ _ => F2
  rename News _ _ _ _ => N2
  rename IsRange _ _ _ _ _ _ _ _ => hR
  dsimp only at N2 hR ⊢
  k_sweep
  obtain ⟨A, o6, m2, e6, hm2, F3, N3, hA⟩ : ∃ A o6 m2, o6.data = .cell (some (.ref A)) ∧ AllAt m2 [(Str.ofString "threshold", .int (th : Nat) t1), (Str.ofString "count", .int (cn : Nat) t2), (Str.ofString "known", .int (kn : Nat) t3), (Str.ofString "key", .int ky t4), (Str.ofString "second", .int (se : Nat) t5), (Str.ofString "part", .bytes pt t6)] ∧ Fr g L _ m2 ∧
      News g L _ ((A, lst (([] : List (Nat × Tok)).map fun p => Value.int (p.1 : Int) p.2)) :: (L + 1 + 1 + 1 + 1 + 1 + 1 + 1 + 1, c8) :: (L + 1 + 1 + 1 + 1 + 1 + 1 + 1, c7) :: (L + 1 + 1 + 1 + 1 + 1 + 1, o6) :: (L + 1 + 1 + 1 + 1 + 1, c5) :: (L + 1 + 1 + 1 + 1, c4) :: (L + 1 + 1 + 1, c3) :: (L + 1 + 1, c2) :: (L + 1, c1) :: rest) ∧
      ∀ p ∈ (L + 1 + 1 + 1 + 1 + 1 + 1 + 1 + 1, c8) :: (L + 1 + 1 + 1 + 1 + 1 + 1 + 1, c7) :: (L + 1 + 1 + 1 + 1 + 1 + 1, o6) :: (L + 1 + 1 + 1 + 1 + 1, c5) :: (L + 1 + 1 + 1 + 1, c4) :: (L + 1 + 1 + 1, c3) :: (L + 1 + 1, c2) :: (L + 1, c1) :: rest, @Ne Nat p.1 A :=
    ⟨_, _, _, by assumption, ⟨rfl, rfl, rfl, rfl, rfl, rfl, trivial⟩, F2, N2, by
      rename _ ∧ _ => l1
      obtain ⟨x1, x2, x3, x4, x5, x6, x7, x8, x9⟩ := l1
      intro p hp
      simp only [List.mem_cons] at hp
      rcases hp with rfl | rfl | rfl | rfl | rfl | rfl | rfl | rfl | hp
      · exact Nat.ne_of_lt x1
      · exact Nat.ne_of_lt x2
      · exact Nat.ne_of_lt x3
      · exact Nat.ne_of_lt x4
      · exact Nat.ne_of_lt x5
      · exact Nat.ne_of_lt x6
      · exact Nat.ne_of_lt x7
      · exact Nat.ne_of_lt x8
      · exact Nat.ne_of_lt (allLt_mem x9 p hp)⟩
  clear F2 N2
  have hcn0 : 0 < cn := Nat.lt_of_le_of_lt (Nat.zero_le _) hkn
  refine loop_range1 (n := kn) (fun i m₁ n₁ gs₁ dr₁ => AllAt m₁ [(Str.ofString "threshold", .int (th : Nat) t1), (Str.ofString "count", .int (cn : Nat) t2), (Str.ofString "known", .int (kn : Nat) t3), (Str.ofString "key", .int ky t4), (Str.ofString "second", .int (se : Nat) t5), (Str.ofString "part", .bytes pt t6)] ∧ gs₁ = s.gens ∧ dr₁ = s.drawn ∧
      ∃ al : List (Nat × Tok), al.length = i ∧ (al.map (·.1)).Nodup ∧ (∀ x ∈ al.map (·.1), x < cn) ∧ n₁ = (A, lst (al.map fun p => Value.int (p.1 : Int) p.2)) :: (L + 1 + 1 + 1 + 1 + 1 + 1 + 1 + 1, c8) :: (L + 1 + 1 + 1 + 1 + 1 + 1 + 1, c7) :: (L + 1 + 1 + 1 + 1 + 1 + 1, o6) :: (L + 1 + 1 + 1 + 1 + 1, c5) :: (L + 1 + 1 + 1 + 1, c4) :: (L + 1 + 1 + 1, c3) :: (L + 1 + 1, c2) :: (L + 1, c1) :: rest)
    rfl F3 N3 hR (by decide) (small_nat (Nat.le_trans (Nat.le_of_lt hkn) (Nat.le_trans hcn (by decide)))) (toNat0 _) rfl ⟨hm2, rfl, rfl, [], rfl, List.nodup_nil, (fun x hx => nomatch hx), rfl⟩ ?_ ?_
  · intro E' T9 i v m₁ n₁ gs₁ dr₁ h17 tk17 I oI hi' hP9 hJ9 hap hap0 hLI F17 N17 hT9
    obtain ⟨hm₁, rfl, rfl, al, hal, hnd, hlt, rfl⟩ := hJ9
    obtain ⟨tv, hv⟩ := hP9
    clear F3 N3 hR
    rw [Int.zero_add] at hv
    subst hv
    have h10 : 10 + i < 1000 := Nat.lt_of_lt_of_le (Nat.add_lt_add_left (Nat.lt_trans hi' hkn) 10) (Nat.le_trans (Nat.add_le_add_left hcn 10) (by decide))
    have hIA : @Ne Nat I A := (hap (A, _) (.head _)).symm
    refine wpAny_pure ?_
    replace F17 := frOv F17 hm₁
    k_extra "mine steps"
    rename Fr _ _ _ _ => F4
    rename News _ _ _ _ => N4
    obtain ⟨p0, hp0, hp1⟩ : ∃ p0 : Nat, p0 = (numF ns (10 + i) % ((cn : Nat) : Int)).toNat ∧ p0 < cn := ⟨_, rfl, emod_toNat_lt _ hcn0⟩
    rw [← hp0] at F4
    obtain ⟨j0, hj0, hj1⟩ := free_at (al := al.map (·.1)) (c := cn) (p := p0) (by rw [List.length_map, hal]; exact Nat.lt_trans hi' hkn) hp1
    obtain ⟨m4, hm4, F5⟩ : ∃ m4, (AllAt m4 [(Str.ofString "threshold", .int (th : Nat) t1), (Str.ofString "count", .int (cn : Nat) t2), (Str.ofString "known", .int (kn : Nat) t3), (Str.ofString "key", .int ky t4), (Str.ofString "second", .int (se : Nat) t5), (Str.ofString "part", .bytes pt t6)] ∧ ∃ tp, m4 (Str.ofString "place") = some (.int (p0 : Nat) tp)) ∧ Fr g L _ m4 := ⟨_, ⟨⟨rfl, rfl, rfl, rfl, rfl, rfl, trivial⟩, _, rfl⟩, F4⟩
    clear F4
    refine wpAny_mono (E := fun _ _ => False) ?_ (fun _ _ h => h) (fun _ _ h => h.elim)
    obtain ⟨tp0, hm5⟩ := hm4.2
    refine While_inv2 (fun k m n' => AllAt m [(Str.ofString "threshold", .int (th : Nat) t1), (Str.ofString "count", .int (cn : Nat) t2), (Str.ofString "known", .int (kn : Nat) t3), (Str.ofString "key", .int ky t4), (Str.ofString "second", .int (se : Nat) t5), (Str.ofString "part", .bytes pt t6)] ∧ n' = (I, oI) :: (A, lst (al.map fun p => Value.int (p.1 : Int) p.2)) :: (L + 1 + 1 + 1 + 1 + 1 + 1 + 1 + 1, c8) :: (L + 1 + 1 + 1 + 1 + 1 + 1 + 1, c7) :: (L + 1 + 1 + 1 + 1 + 1 + 1, o6) :: (L + 1 + 1 + 1 + 1 + 1, c5) :: (L + 1 + 1 + 1 + 1, c4) :: (L + 1 + 1 + 1, c3) :: (L + 1 + 1, c2) :: (L + 1, c1) :: rest ∧ ∃ (p0 : Nat) (tp : Tok), m (Str.ofString "place") = some (.int (p0 : Nat) tp) ∧ p0 < cn ∧ ∃ j, j ≤ k ∧ (p0 + j) % cn ∉ al.map (·.1)) (n₀ := cn) F5 N4 ⟨hm4.1, rfl, p0, tp0, hm5, hp1, j0, hj0, hj1⟩ ?_
    intro k m₅ n₅ h5 tk5 F6 N6 p90
    obtain ⟨hm6, rfl, p, tp, hmp, hpc, j, hjk, hjn⟩ := p90
    clear F5 N4
    replace F6 := frOv F6 (l := (Str.ofString "place", .int (p : Nat) tp) :: [(Str.ofString "threshold", .int (th : Nat) t1), (Str.ofString "count", .int (cn : Nat) t2), (Str.ofString "known", .int (kn : Nat) t3), (Str.ofString "key", .int ky t4), (Str.ofString "second", .int (se : Nat) t5), (Str.ofString "part", .bytes pt t6)]) ⟨hmp, hm6⟩
    k_extra "mine steps"
    rename News _ _ _ _ => N7
    refine in_nat (rp := al) N7 (by k_mem) rfl ?_
    k_extra "mine steps"
    · rename Fr _ _ _ _ => F8
      rename News _ _ _ _ => N8
      rename p ∈ _ => hin
      have hj0' : j ≠ 0 := by
        rintro rfl
        rw [Nat.add_zero, Nat.mod_eq_of_lt hpc] at hjn
        exact hjn hin
      obtain ⟨j, rfl⟩ := Nat.exists_eq_succ_of_ne_zero hj0'
      obtain ⟨k, rfl⟩ := Nat.exists_eq_succ_of_ne_zero (show k ≠ 0 from fun q => by rw [q] at hjk; exact absurd hjk (Nat.not_succ_le_zero _))
      refine ⟨_, _, _, _, k, rfl, F8, N8, Nat.lt_succ_self _, ⟨rfl, rfl, rfl, rfl, rfl, rfl, trivial⟩, rfl, (p + 1) % cn, _, rfl, Nat.mod_lt _ hcn0, j, Nat.le_of_succ_le_succ hjk, ?_⟩
      rw [Nat.mod_add_mod, show p + 1 + j = p + (j + 1) from by rw [Nat.add_assoc, Nat.add_comm 1 j]]
      exact hjn
    · rename Fr _ _ _ _ => F8
      rename News _ _ _ _ => N8
      rename ¬ p ∈ _ => hin
      have eD : lst ((al ++ [(p, tp)]).map fun p => Value.int (p.1 : Int) p.2) = W.listOf ((List.map (fun p : Nat × Tok => Value.int (p.1 : Int) p.2) al).toArray.push (Value.int (p : Int) tp)) ((List.map (fun p : Nat × Tok => Value.int (p.1 : Int) p.2) al).length + 1) := by
        rw [List.map_append]; exact (LCg.lst_snoc _ _).symm
      rw [← eD] at N8
      refine hT9 _ _ ⟨_, _, _, _, _, _, rfl, F8, N8, ?_, ⟨rfl, rfl, rfl, rfl, rfl, rfl, trivial⟩, rfl, rfl, al ++ [(p, tp)], by rw [List.length_append, hal]; rfl, ?_, ?_, rfl⟩
      · exact hap.of rfl
      · rw [List.map_append, List.nodup_append]
        refine ⟨hnd, by simp, ?_⟩
        intro a ha b hb
        rw [List.map_cons, List.map_nil, List.mem_singleton] at hb
        rintro rfl
        rw [hb] at ha
        exact hin ha
      · intro x hx
        rw [List.map_append] at hx
        rcases List.mem_append.mp hx with hx | hx
        · exact hlt x hx
        · rw [List.map_cons, List.map_nil, List.mem_singleton] at hx
          rw [hx]; exact hpc
  · intro h23 tk23 gs23 dr23 m₁ n₁ F23 N23 p90
    obtain ⟨hm₁, rfl, rfl, al, hal, hnd, hlt, rfl⟩ := p90
    clear F3 N3 hR
    replace F23 := frOv F23 hm₁
    k_extra "mine steps"
    (refine' LCt.Assign_ListComp_T (F₀ := ?cF_1) ?c0_1 ?c1_1 ?c2_1 ?c3_1 ?c4_1 ?c5_1 ?c6_1 ?c7_1 ?c8_1 ?_; (case cF_1 => k_asm); (case c1_1 | c2_1 => with_unfolding_all rfl); (case c3_1 | c5_1 => decide); (case c0_1 | c4_1 | c6_1 | c7_1 | c8_1 => rfl))
    k_extra "mine steps"
    rename Fr _ _ _ _ => F24
    rename News _ _ _ _ => N24
    rename IsRange _ _ _ _ _ _ _ _ => hR
    refine src_rangeT (n := cn) (fun i ys news => news = (A, lst (al.map fun p => Value.int (p.1 : Int) p.2)) :: (L + 1 + 1 + 1 + 1 + 1 + 1 + 1 + 1, c8) :: (L + 1 + 1 + 1 + 1 + 1 + 1 + 1, c7) :: (L + 1 + 1 + 1 + 1 + 1 + 1, o6) :: (L + 1 + 1 + 1 + 1 + 1, c5) :: (L + 1 + 1 + 1 + 1, c4) :: (L + 1 + 1 + 1, c3) :: (L + 1 + 1, c2) :: (L + 1, c1) :: rest ∧ ∃ rp : List (Nat × Tok), ys = rp.map (fun p => Value.int (p.1 : Int) p.2) ∧ rp.map (·.1) = (List.range i).filter fun x => !decide (x ∈ al.map (·.1))) rfl F24 N24 hR (by omega) (by omega) (by omega) ⟨rfl, [], rfl, rfl⟩ (fun g => ?_) (fun g ys news hJ => ?_)
    · intro i ys news v I oI C oC D m₂ h tk' E' hi' p90 p91 hS hC hx F4 N4 off ne
      obtain ⟨rfl, rp, rfl, hrp⟩ := p90
      obtain ⟨tv, rfl⟩ := p91
      clear F24 N24 hR
      rw [Int.zero_add] at hx
      k_extra "mine steps"
      rename News _ _ _ _ => N7
      refine notIn_nat (rp := al) N7 (by k_mem) rfl ?_
      k_extra "mine steps"
      all_goals rename Fr _ _ _ _ => F8
      all_goals rename News _ _ _ _ => N8
      all_goals first
        | (refine LCg.CompEnd.intro F8 N8 _ (fun _ hp => hp) off trivial ⟨rfl, rp ++ [(i, tv)], by rw [List.map_append]; rfl, ?_⟩
           rw [List.map_append, hrp, List.range_succ, List.filter_append, List.filter_cons_of_pos (by simp_all)]; rfl)
        | (refine LCg.CompEnd.intro F8 N8 _ (fun _ hp => hp) off trivial ⟨rfl, rp, rfl, ?_⟩
           rw [hrp, List.range_succ, List.filter_append, List.filter_cons_of_neg (by simp_all), List.filter_nil, List.append_nil])
    · obtain ⟨rfl, rp, rfl, hrp⟩ := hJ
      intro D h tk' F4 N4 off
      try dsimp only
      clear F24 N24 hR
      k_extra "mine steps"
      exact hQ _ _ _ o6 A D al rp F4 N4 e6 hal hnd hlt hrp ⟨rfl, rfl, rfl, rfl, rfl, rfl, rfl, trivial⟩
end
end
section
open LCg (lst)
theorem bytes_of : ∀ (ps : List (Nat × Tok)) (ys : List Value) (n : Nat), ys.length = ps.length → (∀ (i : Nat) (q : Nat × Tok), ps[i]? = some q → ∃ t, ys[i]? = some (Value.bytes (toB n q.1) t)) → ∃ bs : List (Array UInt8 × Tok), ys = bytesVals bs ∧ bs.map (·.1) = ps.map fun q => toB n q.1
  | [], [], _, _, _ => ⟨[], rfl, rfl⟩
  | q :: ps, y :: ys, n, hl, h => by
    obtain ⟨t, ht⟩ := h 0 q rfl
    obtain ⟨bs, e1, e2⟩ := bytes_of ps ys n (by simpa using hl) fun i q hq => h (i + 1) q hq
    simp only [List.getElem?_cons_zero, Option.some.injEq] at ht
    exact ⟨(toB n q.1, t) :: bs, by rw [ht, e1]; rfl, by rw [List.map_cons, List.map_cons, e2]⟩
section
variable {w : World} {loose : List Str} {mean : ExcName → Option Value} {mg mb : Str → Option Value} {dp un : Nat} {fr : Option (List Env)} {gd : Option (List Code)} {s : Shared} {Q E : Value → Shared → Prop} {g : Heap} {L l : Addr} {m : Str → Option Value} {news : List (Addr × Obj)}
theorem rows_led (F : Fr g L s.heap m) (N : News g L s.heap news) (X : (hd.heap_39 w.params).In g) (T : Top topProg loose mean mg mb g) (hd' : dp + 3 < recursionLimit) (hu : un + 40 < cLine) {ps : List (Nat × Tok)} {k n : Nat} {z : Int} {tn : Tok} (hz : z = (n : Int))
    (hm : (l, ({ cls := .type "list", data := .seq (ps.map fun p => Value.int (p.1 : Int) p.2).toArray k } : Obj)) ∈ news) (hp : ∀ q ∈ ps, q.1 < 256 ^ n) (hn : n ≤ 20) (hlen : ps.length ≤ 100)
    (hQ : ∀ D h' tk (bs : List (Array UInt8 × Tok)), bs.map (·.1) = (ps.map fun q => toB n q.1) → Fr g L h' m → News g L h' ((D, lst (bytesVals bs)) :: news) → (∀ p ∈ news, @Ne Nat D p.1) → Q (.ref D) { s with heap := h', toks := tk }) :
    wpAny (model P1 w) (tp dp fr gd un) (call (.ref 242) [.ref l, .int z tn]) Q E s := by
  subst hz
  refine rows_spec (loose := loose) (mean := mean) (mg := mg) (mb := mb) ⟨X.keeps F.keep, T.keeps F.keep, hd', hu⟩ (isList_news N hm) hp hn hlen fun ys hl h => ⟨fun D h' tk e q0 q1 => ?_⟩
  obtain ⟨bs, rfl, e2⟩ := bytes_of ps ys n hl h
  refine hQ D h' tk bs e2 (frExt F e) (newsAdd (nw := [(D, lst (bytesVals bs))]) F (newsExt N e) (fun p hp => by rw [List.mem_singleton.mp hp]; exact ⟨q1, q0⟩)) fun p hp => newsOff N (nw := [(D, lst (bytesVals bs))]) (fun p hp => by rw [List.mem_singleton.mp hp]; exact q0) p hp _ (.head _)
end
theorem invF_lt : ∀ s, s < 256 → invF s < 256 := by decide +kernel
theorem xor_ne {a b : Nat} (h : a ≠ b) : a ^^^ b ≠ 0 := fun q => h (by
  have := congrArg (· ^^^ b) q
  simpa [Nat.xor_assoc] using this)
theorem prodF_ne {l : List Nat} {x : Nat} (hx : x < 256) (hl : ∀ p ∈ l, p < 256 ∧ p ≠ x) : prodF l x ≠ 0 := by
  have key : ∀ (l : List Nat) (t : Nat), t < 256 → t ≠ 0 → (∀ p ∈ l, p < 256 ∧ p ≠ x) → l.foldl (fun t p => gt (p ^^^ x) t 1) t ≠ 0 := by
    intro l
    induction l with
    | nil => exact fun t _ h _ => h
    | cons p l ih =>
      intro t ht h0 hl
      obtain ⟨h1, h2⟩ := hl p (by simp)
      exact ih _ (gt1_lt _ _ ht) (gt1_ne0 _ (Nat.xor_lt_two_pow (n := 8) h1 hx) _ ht (xor_ne h2) h0) fun q hq => hl q (by simp [hq])
  exact key l 1 (by decide) (by decide) hl
theorem toB_le {n x : Nat} (h : n ≤ 8) : (toB n x).size ≤ 8 := by rw [toB_size]; exact h
theorem digB_size (key : Int) (a b : Array UInt8) : (digB key a b).size = 6 := toB_size _ _
theorem cutT4_dig (key : Int) (a b : Array UInt8) : (cutT 4 (digB key a b)).size = 4 := by rw [cutT_size, digB_size]; rfl
section
variable {w : World} {loose : List Str} {mean : ExcName → Option Value} {mg mb : Str → Option Value} {dp un : Nat} {gd : Option (List Code)} {s : Shared} {Q : Flow → Shared → Prop} {g : Heap} {L l : Addr} {m : Str → Option Value} {vs : List Value} {ns : List Int}
theorem segC1 (X : (hd.heap_39 w.params).In g) (T : Top topProg loose mean mg mb g) (hd' : dp + 200 < recursionLimit) (hu : un + 3000 < cLine) (hl : g.IsList l vs.toArray) (hi : IntsAre vs ns) (hn : ns.length ≤ 63) (hL : PyData.layable0 (.list (ns.map .int)) = true)
    {th cn kn sz sc se : Nat} (hcn : cn ≤ 10) (hpk : packN sz) (hs8 : sz ≤ 8) {t1 t2 t3 t4 t5 t6 t7 t8 t9 : Tok} {ky : Int} {pt : Array UInt8} (hky : Builtin.Int.intBits ky ≤ 1048576) (hsc : sc < 256 ^ sz) (hse : se < 256 ^ sz) (hpt : pt.size = sz - 4)
    {R A Dr : Addr} {al rp rws : List (Nat × Tok)} (hrl : rws.length ≤ 4) (hrw : ∀ q ∈ rws, q.1 < 256 ^ sz) (hal : ∀ x ∈ al.map (·.1), x < cn)
    (F : Fr g L s.heap m) (hm : AllAt m [(Str.ofString "threshold", .int (th : Nat) t1), (Str.ofString "count", .int (cn : Nat) t2), (Str.ofString "known", .int (kn : Nat) t3), (Str.ofString "key", .int ky t4), (Str.ofString "second", .int (se : Nat) t5), (Str.ofString "part", .bytes pt t6), (Str.ofString "rest", .ref R)])
    {c1 c2 c3 c4 c5 c6 c7 c8 : Obj} {rest : List (Addr × Obj)}
    (N : News g L s.heap ((R, lst (rp.map fun p => Value.int (p.1 : Int) p.2)) :: (A, lst (al.map fun p => Value.int (p.1 : Int) p.2)) :: (L + 1 + 1 + 1 + 1 + 1 + 1 + 1 + 1, c8) :: (L + 1 + 1 + 1 + 1 + 1 + 1 + 1, c7) :: (L + 1 + 1 + 1 + 1 + 1 + 1, c6) :: (L + 1 + 1 + 1 + 1 + 1, c5) :: (L + 1 + 1 + 1 + 1, c4) :: (L + 1 + 1 + 1, c3) :: (L + 1 + 1, c2) :: (L + 1, c1) :: (Dr, lst (rws.map fun p => Value.int (p.1 : Int) p.2)) :: rest))
    (nR7 : @Ne Nat R (L + 1 + 1 + 1 + 1 + 1 + 1 + 1)) (nA7 : @Ne Nat A (L + 1 + 1 + 1 + 1 + 1 + 1 + 1)) (nD7 : @Ne Nat Dr (L + 1 + 1 + 1 + 1 + 1 + 1 + 1)) (r7 : ∀ p ∈ rest, @Ne Nat p.1 (L + 1 + 1 + 1 + 1 + 1 + 1 + 1))
    {dg : Nat} (hdg : dg = ofB (cutT 4 (digB ky pt (toB sz sc)) ++ pt))
    (e1 : c1.data = .cell (some (.ref l))) (e2 : c2.data = .cell (some (.int (sz : Nat) t7))) (e3 : c3.data = .cell (some (.int (onF sz : Nat) t8))) (e4 : c4.data = .cell (some (.int (sc : Nat) t9))) (e5 : c5.data = .cell (some (.ref Dr))) (e6 : c6.data = .cell (some (.ref A))) {v7 : Option Value} (e7 : c7.data = .cell v7)
    (hQ : ∀ (h' : Heap) (tk : Nat) (m' : Str → Option Value) (c7 : Obj) (W O : Addr) (op : List (Nat × Tok)) (u0 u1 t10 t11 : Tok), Fr g L h' m' →
      News g L h' ((O, lst (op.map fun p => Value.int (p.1 : Int) p.2)) :: (W, lst (bytesVals [(toB sz sc, u0), (toB sz se, u1)])) :: (R, lst (rp.map fun p => Value.int (p.1 : Int) p.2)) :: (A, lst (al.map fun p => Value.int (p.1 : Int) p.2)) :: (L + 1 + 1 + 1 + 1 + 1 + 1 + 1 + 1, c8) :: (L + 1 + 1 + 1 + 1 + 1 + 1 + 1, c7) :: (L + 1 + 1 + 1 + 1 + 1 + 1, c6) :: (L + 1 + 1 + 1 + 1 + 1, c5) :: (L + 1 + 1 + 1 + 1, c4) :: (L + 1 + 1 + 1, c3) :: (L + 1 + 1, c2) :: (L + 1, c1) :: (Dr, lst (rws.map fun p => Value.int (p.1 : Int) p.2)) :: rest) →
      c7.data = .cell (some (.int (dg : Nat) t10)) → op.map (·.1) = (List.range cn).map (fun x => shareF sc dg (rws.map (·.1)) x (onF sz)) →
      AllAt m' [(Str.ofString "threshold", .int (th : Nat) t1), (Str.ofString "count", .int (cn : Nat) t2), (Str.ofString "known", .int (kn : Nat) t3), (Str.ofString "key", .int ky t4), (Str.ofString "second", .int (se : Nat) t5), (Str.ofString "part", .bytes pt t6), (Str.ofString "rest", .ref R), (Str.ofString "wholes", .ref W), (Str.ofString "one", .ref O), (Str.ofString "high", .int (gt (invF (prodF (al.map (·.1)) 255)) (sc ^^^ se) (onF sz) : Nat) t11)] → Q .next { s with heap := h', toks := tk }) :
    wpAny (model P1 w) ((tp dp (some []) gd un).deeper (lawEnv w 247 L)) (execs (lawSeg w 247 13 4) (lawEnv w 247 L)) Q (fun _ _ => False) s := by
  refine' seg_of ?ho ?_
  case ho => k_is
  dsimp only [List.drop, List.take]
  replace F := frOv F hm
  k_extra "mine steps"
  rename Fr _ _ _ _ => F1
  rename News _ _ _ _ => N1
  have hd50 : ∀ k, k ≤ 150 → dp + k < recursionLimit := upto (by assumption) 150
  have hu50 : ∀ k, k ≤ 2500 → un + k < cLine := upto (by assumption) 2500
  refine rows_led (ps := [(sc, t9), (se, t5)]) (n := sz) F1 N1 X T (hd50 4 (by decide)) (hu50 43 (by decide)) rfl (.head _) (by simpa using ⟨hsc, hse⟩) (Nat.le_trans hs8 (by decide)) (Nat.le_trans (Nat.le_refl 2) (by decide)) fun W h2 tk2 bs hbs F2 N2 oW => ?_
  obtain ⟨u0, u1, rfl⟩ : ∃ u0 u1, bs = [(toB sz sc, u0), (toB sz se, u1)] := by
    rcases bs with _ | ⟨⟨b0, u0⟩, _ | ⟨⟨b1, u1⟩, _ | _⟩⟩ <;> simp at hbs
    obtain ⟨rfl, rfl⟩ := hbs
    exact ⟨u0, u1, rfl⟩
  replace N2 : News g L h2 ((W, lst (bytesVals [(toB sz sc, u0), (toB sz se, u1)])) :: (R, lst (rp.map fun p => Value.int (p.1 : Int) p.2)) :: (A, lst (al.map fun p => Value.int (p.1 : Int) p.2)) :: (L + 1 + 1 + 1 + 1 + 1 + 1 + 1 + 1, c8) :: (L + 1 + 1 + 1 + 1 + 1 + 1 + 1, c7) :: (L + 1 + 1 + 1 + 1 + 1 + 1, c6) :: (L + 1 + 1 + 1 + 1 + 1, c5) :: (L + 1 + 1 + 1 + 1, c4) :: (L + 1 + 1 + 1, c3) :: (L + 1 + 1, c2) :: (L + 1, c1) :: (Dr, lst (rws.map fun p => Value.int (p.1 : Int) p.2)) :: rest) := fun p hp => N2 p (by rcases List.mem_cons.mp hp with rfl | hp; exact .head _; exact .tail _ (.tail _ hp))
  have nW7 : @Ne Nat W (L + 1 + 1 + 1 + 1 + 1 + 1 + 1) := oW (L + 1 + 1 + 1 + 1 + 1 + 1 + 1, c7) (by k_mem)
  clear F1 N1 oW
  have hp8 : pt.size ≤ 8 := by rw [hpt]; exact Nat.le_trans (Nat.sub_le _ _) hs8
  have hw0 : (toB sz sc).size ≤ 8 := toB_le hs8
  have hw1 : (toB sz se).size ≤ 8 := toB_le hs8
  have hdsz : (digB ky pt (toB sz sc)).size ≤ 100000 := by rw [digB_size]; decide
  have hcat : (cutT 4 (digB ky pt (toB sz sc))).size + pt.size ≤ 16777216 := by rw [cutT4_dig, hpt]; exact Nat.le_trans (Nat.add_le_add_left (Nat.le_trans (Nat.sub_le _ _) hs8) 4) (by decide)
  have hcat8 : (cutT 4 (digB ky pt (toB sz sc)) ++ pt).size = sz := by
    rw [Array.size_append, cutT4_dig, hpt]; exact Nat.add_sub_cancel' (pack4 hpk)
  try dsimp only
  k_extra "mine steps"
  rename News _ _ _ _ => N3
  refine item_news (i := 0) N3 (by k_mem) rfl (by decide) rfl ?_
  try dsimp only
  k_extra "mine steps"
  rename News _ _ _ _ => N3
  refine from_bytes_n N3 (by k_mem) (by rw [hcat8]; exact hs8) fun t6' k6' => ?_
  rw [← hdg]
  have hdg1 : dg < 256 ^ sz := by rw [hdg]; have := ofB_lt (cutT 4 (digB ky pt (toB sz sc)) ++ pt); rwa [hcat8] at this
  have h64 : ∀ x, x < 256 ^ sz → x < 2 ^ 64 := fun x h => Nat.lt_of_lt_of_le h (by rw [pow256]; exact Nat.pow_le_pow_right (by decide) (Nat.mul_le_mul_left 8 hs8))
  have hon : onF sz < 2 ^ 64 := h64 _ (Nat.lt_of_le_of_lt (Nat.le_mul_of_pos_right _ (by decide)) (onF_27 hpk))
  try dsimp only
  k_extra "mine steps"
  rename News _ _ _ _ => N4
  rename Fr _ _ _ _ => F4
  obtain ⟨c7', e7', N5⟩ : ∃ c7', c7'.data = .cell (some (.int (dg : Nat) t6')) ∧ News g L _ ((W, lst (bytesVals [(toB sz sc, u0), (toB sz se, u1)])) :: (R, lst (rp.map fun p => Value.int (p.1 : Int) p.2)) :: (A, lst (al.map fun p => Value.int (p.1 : Int) p.2)) :: (L + 1 + 1 + 1 + 1 + 1 + 1 + 1 + 1, c8) :: (L + 1 + 1 + 1 + 1 + 1 + 1 + 1, c7') :: (L + 1 + 1 + 1 + 1 + 1 + 1, c6) :: (L + 1 + 1 + 1 + 1 + 1, c5) :: (L + 1 + 1 + 1 + 1, c4) :: (L + 1 + 1 + 1, c3) :: (L + 1 + 1, c2) :: (L + 1, c1) :: (Dr, lst (rws.map fun p => Value.int (p.1 : Int) p.2)) :: rest) :=
    ⟨_, by assumption, fun p hp => N4 p (.tail _ hp)⟩
  clear N4
  (refine' LCg.Assign_ListComp_U (F₀ := ?cF_1) ?c0_1 ?c1_1 ?c2_1 ?c3_1 ?c4_1 ?c5_1 ?c6_1 ?c7_1 ?c8_1 ?_; (case cF_1 => k_asm); (case c1_1 | c2_1 => with_unfolding_all rfl); (case c3_1 | c5_1 => decide); (case c0_1 | c4_1 | c6_1 | c7_1 | c8_1 => rfl))
  k_extra "mine steps"
  rename Fr _ _ _ _ => F5
  rename News _ _ _ _ => N6
  rename IsRange _ _ _ _ _ _ _ _ => hR
  refine src_range (n := cn) (fun i ys news => news = _ ∧ ∃ op : List (Nat × Tok), ys = op.map (fun p => Value.int (p.1 : Int) p.2) ∧ op.map (·.1) = (List.range i).map fun x => shareF sc dg (rws.map (·.1)) x (onF sz)) rfl F5 N6 hR (by decide) (small_nat (Nat.le_trans hcn (by decide))) (toNat0 _) ⟨rfl, [], rfl, rfl⟩ (fun g => ?_) (fun g ys news hl' hJ => ?_)
  · intro i ys news v I oI C oC D m₂ h tk' E' hi' hyl p90 p91 hS hC hx F7 N7 off ne
    obtain ⟨rfl, op, rfl, hop⟩ := p90
    obtain ⟨tv, rfl⟩ := p91
    refine genQ fun QC hQC => ?_
    clear F5 N6 hR
    rw [Int.zero_add] at hx
    k_extra "mine steps"
    rename Fr _ _ _ _ => F8
    rename News _ _ _ _ => N8
    refine share_spec (loose := loose) (mean := mean) (mg := mg) (mb := mb) ⟨X.keeps F8.keep, T.keeps F8.keep, hd50 4 (by decide), hu50 43 (by decide)⟩ (isList_news N8 (l := Dr) (by k_mem)) (fun q hq => h64 _ (hrw q hq)) hrl (h64 _ hsc) (h64 _ hdg1) (Nat.lt_of_lt_of_le hi' (Nat.le_trans hcn (by decide))) hon fun t => ⟨fun h9 tk9 e9 => ?_⟩
    replace F8 := frExt F8 e9
    replace N8 := newsExt N8 e9
    try dsimp only
    k_extra "mine steps"
    rename Fr _ _ _ _ => F9
    rename News _ _ _ _ => N9
    refine hQC _ _ ?_
    refine LCg.CompEnd.intro F9 N9 _ (fun _ hp => hp) off trivial ⟨rfl, nat_snoc hop rfl⟩
  · obtain ⟨rfl, op, rfl, hop⟩ := hJ
    intro O h tk' F7 N7 off
    clear F5 N6 hR
    have hprod : ∀ x, x < 256 → prodF (al.map (·.1)) x < 2 ^ 200 := fun x hx => Nat.lt_of_lt_of_le (prodF_lt _ _) (by decide)
    have hal256 : ∀ q ∈ al, q.1 < 256 := fun q hq => Nat.lt_of_lt_of_le (hal _ (List.mem_map_of_mem hq)) (Nat.le_trans hcn (by decide))
    try dsimp only
    k_extra "mine steps"
    rename Fr _ _ _ _ => F8
    rename News _ _ _ _ => N8
    have hal5 : ∀ p ∈ al.map (·.1), p < 256 ∧ p ≠ 255 := fun p hp => have := hal p hp; ⟨Nat.lt_of_lt_of_le this (Nat.le_trans hcn (by decide)), by omega⟩
    refine product_spec (loose := loose) (mean := mean) (mg := mg) (mb := mb) ⟨X.keeps F8.keep, T.keeps F8.keep, hd50 4 (by decide), hu50 43 (by decide)⟩ (isList_news N8 (l := A) (by k_mem)) hal256 (by decide) fun t => ⟨fun h9 tk9 e9 => ?_⟩
    replace F8 := frExt F8 e9
    replace N8 := newsExt N8 e9
    skip
    try dsimp only
    k_extra "mine steps"
    rename Fr _ _ _ _ => F9
    rename News _ _ _ _ => N9
    refine inverse_spec (loose := loose) (mean := mean) (mg := mg) (mb := mb) ⟨X.keeps F9.keep, T.keeps F9.keep, hd50 3 (by decide), hu50 43 (by decide)⟩ rfl (prodF_lt _ _) (prodF_ne (by decide) hal5) fun t => ⟨fun h10 tk10 e10 => ?_⟩
    replace F9 := frExt F9 e10
    replace N9 := newsExt N9 e10
    have hinv : invF (prodF (al.map (·.1)) 255) < 256 := invF_lt _ (prodF_lt _ _)
    have hxo : sc ^^^ se < 2 ^ 200 := Nat.lt_of_lt_of_le (h64 _ (xor256 hsc hse)) (by decide)
    have hon2 : onF sz < 2 ^ 200 := Nat.lt_of_lt_of_le hon (by decide)
    skip
    try dsimp only
    k_extra "mine steps"
    rename Fr _ _ _ _ => F11
    rename News _ _ _ _ => N11
    exact hQ _ _ _ c7' W O op u0 u1 t6' _ F11 N11 e7' hop ⟨rfl, rfl, rfl, rfl, rfl, rfl, rfl, rfl, rfl, rfl, trivial⟩
end
end
section
open LCg (lst)
def PickF (ns : List Int) (th kn sz : Nat) (ky : Int) (dg se high : Nat) (al : List Nat) (low : Nat) (forced other : Array UInt8) : Prop :=
  (kn = th - 2 ∧ forced = #[] ∧ other = toB (sz - 4) (rowF ns 13 (sz - 4)) ∧ low = gt (invF (prodF al 254)) (dg ^^^ ofB (cutT 4 (digB ky other (toB sz se)) ++ other)) (onF sz)) ∨
  (kn ≠ th - 2 ∧ low = high ∧ forced = cutT 4 (toB sz (dg ^^^ gt (prodF al 254) high (onF sz))) ++ #[42, 0] ∧ other = cutD 4 (toB sz (dg ^^^ gt (prodF al 254) high (onF sz))))
section
variable {w : World} {loose : List Str} {mean : ExcName → Option Value} {mg mb : Str → Option Value} {dp un : Nat} {gd : Option (List Code)} {s : Shared} {Q : Flow → Shared → Prop} {g : Heap} {L l : Addr} {m : Str → Option Value} {vs : List Value} {ns : List Int}
theorem segC2 (X : (hd.heap_39 w.params).In g) (T : Top topProg loose mean mg mb g) (hd' : dp + 200 < recursionLimit) (hu : un + 3000 < cLine) (hl : g.IsList l vs.toArray) (hi : IntsAre vs ns) (hn : ns.length ≤ 63) (hL : PyData.layable0 (.list (ns.map .int)) = true)
    {th cn kn sz se dg hh : Nat} (hth2 : 2 ≤ th) (hcn : cn ≤ 10) (hpk : packN sz) (hs8 : sz ≤ 8) {t1 t2 t3 t4 t5 t6 t7 t8 t10 t11 u0 u1 : Tok} {ky : Int} {pt w0 : Array UInt8} (hky : Builtin.Int.intBits ky ≤ 1048576) (hse : se < 256 ^ sz) (hdg : dg < 256 ^ sz) (hhh : hh < 256 ^ sz)
    {R A Dr W O : Addr} {al rp : List (Nat × Tok)} (hal : ∀ x ∈ al.map (·.1), x < cn)
    (F : Fr g L s.heap m) (hm : AllAt m [(Str.ofString "threshold", .int (th : Nat) t1), (Str.ofString "count", .int (cn : Nat) t2), (Str.ofString "known", .int (kn : Nat) t3), (Str.ofString "key", .int ky t4), (Str.ofString "second", .int (se : Nat) t5), (Str.ofString "part", .bytes pt t6), (Str.ofString "rest", .ref R), (Str.ofString "wholes", .ref W), (Str.ofString "one", .ref O), (Str.ofString "high", .int (hh : Nat) t11)])
    {c1 c2 c3 c4 c5 c6 c7 c8 : Obj} {rest : List (Addr × Obj)}
    (N : News g L s.heap ((W, lst (bytesVals [(w0, u0), (toB sz se, u1)])) :: (A, lst (al.map fun p => Value.int (p.1 : Int) p.2)) :: (L + 1 + 1 + 1 + 1 + 1 + 1 + 1, c7) :: (L + 1 + 1 + 1 + 1 + 1 + 1, c6) :: (L + 1 + 1 + 1, c3) :: (L + 1 + 1, c2) :: (L + 1, c1) :: rest))
    (e1 : c1.data = .cell (some (.ref l))) (e2 : c2.data = .cell (some (.int (sz : Nat) t7))) (e3 : c3.data = .cell (some (.int (onF sz : Nat) t8))) (e6 : c6.data = .cell (some (.ref A))) (e7 : c7.data = .cell (some (.int (dg : Nat) t10)))
    (hQ : ∀ (h' : Heap) (tk : Nat) (m' : Str → Option Value) (low : Nat) (forced other : Array UInt8) (t12 t13 t14 : Tok), PickF ns th kn sz ky dg se hh (al.map (·.1)) low forced other → Fr g L h' m' →
      News g L h' ((W, lst (bytesVals [(w0, u0), (toB sz se, u1)])) :: (A, lst (al.map fun p => Value.int (p.1 : Int) p.2)) :: (L + 1 + 1 + 1 + 1 + 1 + 1 + 1, c7) :: (L + 1 + 1 + 1 + 1 + 1 + 1, c6) :: (L + 1 + 1 + 1, c3) :: (L + 1 + 1, c2) :: (L + 1, c1) :: rest) →
      AllAt m' [(Str.ofString "threshold", .int (th : Nat) t1), (Str.ofString "count", .int (cn : Nat) t2), (Str.ofString "known", .int (kn : Nat) t3), (Str.ofString "key", .int ky t4), (Str.ofString "part", .bytes pt t6), (Str.ofString "rest", .ref R), (Str.ofString "wholes", .ref W), (Str.ofString "one", .ref O), (Str.ofString "high", .int (hh : Nat) t11), (Str.ofString "low", .int (low : Nat) t12), (Str.ofString "forced", .bytes forced t13), (Str.ofString "other", .bytes other t14)] → Q .next { s with heap := h', toks := tk }) :
    wpAny (model P1 w) ((tp dp (some []) gd un).deeper (lawEnv w 247 L)) (execs (lawSeg w 247 17 1) (lawEnv w 247 L)) Q (fun _ _ => False) s := by
  refine' seg_of ?ho ?_
  case ho => k_is
  dsimp only [List.drop, List.take]
  replace F := frOv F hm
  have hd50 : ∀ k, k ≤ 150 → dp + k < recursionLimit := upto (by assumption) 150
  have hu50 : ∀ k, k ≤ 2500 → un + k < cLine := upto (by assumption) 2500
  have hsz4 : 4 ≤ sz := pack4 hpk
  have hsz16' : sz - 4 ≤ 16 := Nat.le_trans (Nat.sub_le _ _) (Nat.le_trans hs8 (by decide))
  have h64 : ∀ x, x < 256 ^ sz → x < 2 ^ 64 := fun x h => Nat.lt_of_lt_of_le h (by rw [pow256]; exact Nat.pow_le_pow_right (by decide) (Nat.mul_le_mul_left 8 hs8))
  have hon : onF sz < 2 ^ 64 := h64 _ (Nat.lt_of_le_of_lt (Nat.le_mul_of_pos_right _ (by decide)) (onF_27 hpk))
  have hal256 : ∀ q ∈ al, q.1 < 256 := fun q hq => Nat.lt_of_lt_of_le (hal _ (List.mem_map_of_mem hq)) (Nat.le_trans hcn (by decide))
  have hal5 : ∀ p ∈ al.map (·.1), p < 256 ∧ p ≠ 254 := fun p hp => have := hal p hp; ⟨Nat.lt_of_lt_of_le this (Nat.le_trans hcn (by decide)), by omega⟩
  have hw1 : (toB sz se).size ≤ 8 := toB_le hs8
  have hpr : prodF (al.map (·.1)) 254 < 256 := prodF_lt _ _
  have hon2 : onF sz < 2 ^ 200 := Nat.lt_of_lt_of_le hon (by decide)
  have hhh2 : hh < 2 ^ 200 := Nat.lt_of_lt_of_le (h64 _ hhh) (by decide)
  obtain ⟨oth, hoth⟩ : ∃ oth, oth = toB (sz - 4) (rowF ns 13 (sz - 4)) := ⟨_, rfl⟩
  have hosz : oth.size = sz - 4 := by rw [hoth, toB_size]
  have hos8 : oth.size ≤ 8 := Nat.le_trans (Nat.le_of_eq hosz) (Nat.le_trans (Nat.sub_le _ _) hs8)
  have hdsz : (digB ky oth (toB sz se)).size ≤ 100000 := by rw [digB_size]; decide
  have hcat : (cutT 4 (digB ky oth (toB sz se))).size + oth.size ≤ 16777216 := by rw [cutT4_dig]; exact Nat.le_trans (Nat.add_le_add_left hos8 4) (by decide)
  have hcat8 : (cutT 4 (digB ky oth (toB sz se)) ++ oth).size = sz := by rw [Array.size_append, cutT4_dig, hosz]; exact Nat.add_sub_cancel' hsz4
  have hlo : dg ^^^ ofB (cutT 4 (digB ky oth (toB sz se)) ++ oth) < 256 ^ sz := xor256 hdg (by have := ofB_lt (cutT 4 (digB ky oth (toB sz se)) ++ oth); rwa [hcat8] at this)
  have hlo2 : dg ^^^ ofB (cutT 4 (digB ky oth (toB sz se)) ++ oth) < 2 ^ 200 := Nat.lt_of_lt_of_le (h64 _ hlo) (by decide)
  have hinv : invF (prodF (al.map (·.1)) 254) < 256 := invF_lt _ (prodF_lt _ _)
  have hbo : dg ^^^ gt (prodF (al.map (·.1)) 254) hh (onF sz) < 256 ^ sz := xor256 hdg (gt_pack hpk hhh)
  have hbs : (toB sz (dg ^^^ gt (prodF (al.map (·.1)) 254) hh (onF sz))).size ≤ 100000 := by rw [toB_size]; exact Nat.le_trans hs8 (by decide)
  have hcat2 : (cutT 4 (toB sz (dg ^^^ gt (prodF (al.map (·.1)) 254) hh (onF sz)))).size + (#[42, 0] : Array UInt8).size ≤ 16777216 := by
    rw [cutT_size]
    exact Nat.le_trans (Nat.add_le_add (Nat.min_le_left _ _) (Nat.le_refl 2)) (by decide)
  k_extra "mine steps"
  · refine to_bytes_n (x := rowF ns 13 (sz - 4)) (n := sz - 4) rfl rfl (Nat.le_trans hsz16' (by decide)) (rowF_lt _ _ _) fun t20 k20 => ?_
    rw [← hoth]
    try dsimp only
    k_extra "mine steps"
    rename News _ _ _ _ => N3
    refine item_news (i := 1) N3 (by k_mem) rfl (by decide) rfl ?_
    try dsimp only
    k_extra "mine steps"
    rename News _ _ _ _ => N4
    refine from_bytes_n N4 (by k_mem) (by rw [hcat8]; exact hs8) fun t21 k21 => ?_
    try dsimp only
    k_extra "mine steps"
    rename Fr _ _ _ _ => F8
    rename News _ _ _ _ => N8
    refine product_spec (loose := loose) (mean := mean) (mg := mg) (mb := mb) ⟨X.keeps F8.keep, T.keeps F8.keep, hd50 4 (by decide), hu50 43 (by decide)⟩ (isList_news N8 (l := A) (by k_mem)) hal256 (by decide) fun t => ⟨fun h9 tk9 e9 => ?_⟩
    replace F8 := frExt F8 e9
    replace N8 := newsExt N8 e9
    try dsimp only
    k_extra "mine steps"
    rename Fr _ _ _ _ => F9
    rename News _ _ _ _ => N9
    refine inverse_spec (loose := loose) (mean := mean) (mg := mg) (mb := mb) ⟨X.keeps F9.keep, T.keeps F9.keep, hd50 3 (by decide), hu50 43 (by decide)⟩ rfl (prodF_lt _ _) (prodF_ne (by decide) hal5) fun t => ⟨fun h10 tk10 e10 => ?_⟩
    replace F9 := frExt F9 e10
    replace N9 := newsExt N9 e10
    try dsimp only
    k_extra "mine steps"
    rename Fr _ _ _ _ => F11
    rename News _ _ _ _ => N11
    exact hQ _ _ _ _ _ oth _ _ _ (.inl ⟨by assumption, rfl, hoth, rfl⟩) F11 (fun p hp => N11 p (.tail _ hp)) ⟨rfl, rfl, rfl, rfl, rfl, rfl, rfl, rfl, rfl, rfl, rfl, rfl, trivial⟩
  · rename Fr _ _ _ _ => F8
    rename News _ _ _ _ => N8
    refine product_spec (loose := loose) (mean := mean) (mg := mg) (mb := mb) ⟨X.keeps F8.keep, T.keeps F8.keep, hd50 4 (by decide), hu50 43 (by decide)⟩ (isList_news N8 (l := A) (by k_mem)) hal256 (by decide) fun t => ⟨fun h9 tk9 e9 => ?_⟩
    replace F8 := frExt F8 e9
    replace N8 := newsExt N8 e9
    try dsimp only
    k_extra "mine steps"
    refine to_bytes_n (x := dg ^^^ gt (prodF (al.map (·.1)) 254) hh (onF sz)) (n := sz) rfl rfl (Nat.le_trans hs8 (by decide)) hbo fun t20 k20 => ?_
    try dsimp only
    k_extra "mine steps"
    rename Fr _ _ _ _ => F11
    rename News _ _ _ _ => N11
    exact hQ _ _ _ _ _ _ _ _ _ (.inr ⟨by assumption, rfl, rfl, rfl⟩) F11 N11 ⟨rfl, rfl, rfl, rfl, rfl, rfl, rfl, rfl, rfl, rfl, rfl, rfl, trivial⟩
end
end
section
open LCg (lst)
def twoF (al : List Nat) (on high low x one : Nat) : Nat := one ^^^ gt (prodF al x) (high ^^^ gt (x ^^^ 255) (high ^^^ low) on) on
theorem ints_nat : ∀ tw : List (Nat × Tok), IntsAre (tw.map fun p => Value.int (p.1 : Int) p.2) (tw.map fun p => (p.1 : Int))
  | [] => .nil
  | p :: tw => .cons _ _ (ints_nat tw)
theorem map_set_nat (tw : List (Nat × Tok)) (i v : Nat) (t : Tok) : (tw.set i (v, t)).map (fun p => Value.int (p.1 : Int) p.2) = (tw.map fun p => Value.int (p.1 : Int) p.2).set i (.int (v : Int) t) := by
  rw [List.map_set]
theorem two_step {f g : Nat → Nat} {tw : List (Nat × Tok)} {cn i x v : Nat} {t : Tok} {rl : List Nat} (h : tw.map (·.1) = (List.range cn).map fun y => if y ∈ rl.take i then f y else g y) (hx : rl[i]? = some x) (hc : x < cn) (hv : v = f x) :
    (tw.set x (v, t)).map (·.1) = (List.range cn).map fun y => if y ∈ rl.take (i + 1) then f y else g y := by
  have htl : tw.length = cn := by have := congrArg List.length h; simpa using this
  rw [List.map_set, h]
  refine List.ext_getElem (by simp) fun j h1 h2 => ?_
  simp only [List.length_set, List.length_map, List.length_range] at h1
  rw [List.getElem_set]
  simp only [List.getElem_map, List.getElem_range]
  rw [List.take_add_one, hx]
  by_cases e : x = j
  · subst e
    rw [if_pos rfl, if_pos (by simp), hv]
  · rw [if_neg e]
    by_cases hm : j ∈ rl.take i
    · rw [if_pos hm, if_pos (List.mem_append_left _ hm)]
    · rw [if_neg hm, if_neg (by
        rw [List.mem_append]
        rintro (h3 | h3)
        · exact hm h3
        · rw [Option.toList_some, List.mem_singleton] at h3; exact e h3.symm)]
section
variable {w : World} {loose : List Str} {mean : ExcName → Option Value} {mg mb : Str → Option Value} {dp un : Nat} {gd : Option (List Code)} {s : Shared} {Q : Flow → Shared → Prop} {g : Heap} {L : Addr} {m : Str → Option Value}
theorem segC3 (X : (hd.heap_39 w.params).In g) (T : Top topProg loose mean mg mb g) (hd' : dp + 200 < recursionLimit) (hu : un + 3000 < cLine)
    {th cn kn sz hh low : Nat} (hcn : cn ≤ 10) (hpk : packN sz) (hs8 : sz ≤ 8) {t1 t2 t3 t4 t6 t8 t11 t12 t13 t14 u0 u1 : Tok} {ky : Int} {pt forced other : Array UInt8} (hhh : hh < 256 ^ sz) (hlow : low < 256 ^ sz)
    {R A W O : Addr} {al rp op : List (Nat × Tok)} (hal : ∀ x ∈ al.map (·.1), x < cn) (hrp : ∀ x ∈ rp.map (·.1), x < cn) (hopl : op.length = cn) (hnd : (rp.map (·.1)).Nodup)
    (F : Fr g L s.heap m) (hm : AllAt m [(Str.ofString "threshold", .int (th : Nat) t1), (Str.ofString "count", .int (cn : Nat) t2), (Str.ofString "known", .int (kn : Nat) t3), (Str.ofString "key", .int ky t4), (Str.ofString "part", .bytes pt t6), (Str.ofString "rest", .ref R), (Str.ofString "wholes", .ref W), (Str.ofString "one", .ref O), (Str.ofString "high", .int (hh : Nat) t11), (Str.ofString "low", .int (low : Nat) t12), (Str.ofString "forced", .bytes forced t13), (Str.ofString "other", .bytes other t14)])
    {c3 c6 : Obj} {rest : List (Addr × Obj)}
    (N : News g L s.heap ((O, lst (op.map fun p => Value.int (p.1 : Int) p.2)) :: (R, lst (rp.map fun p => Value.int (p.1 : Int) p.2)) :: (A, lst (al.map fun p => Value.int (p.1 : Int) p.2)) :: (L + 1 + 1 + 1 + 1 + 1 + 1, c6) :: (L + 1 + 1 + 1, c3) :: rest))
    (e3 : c3.data = .cell (some (.int (onF sz : Nat) t8))) (e6 : c6.data = .cell (some (.ref A)))
    (hQ : ∀ (h' : Heap) (tk : Nat) (m' : Str → Option Value) (D : Addr) (tw : List (Nat × Tok)) (k : Nat), Fr g L h' m' → News g L h' ((D, PySem.W.listOf (tw.map fun p => Value.int (p.1 : Int) p.2).toArray k) :: (O, lst (op.map fun p => Value.int (p.1 : Int) p.2)) :: (R, lst (rp.map fun p => Value.int (p.1 : Int) p.2)) :: (A, lst (al.map fun p => Value.int (p.1 : Int) p.2)) :: (L + 1 + 1 + 1 + 1 + 1 + 1, c6) :: (L + 1 + 1 + 1, c3) :: rest) → AllAt m' [(Str.ofString "threshold", .int (th : Nat) t1), (Str.ofString "count", .int (cn : Nat) t2), (Str.ofString "known", .int (kn : Nat) t3), (Str.ofString "key", .int ky t4), (Str.ofString "part", .bytes pt t6), (Str.ofString "rest", .ref R), (Str.ofString "wholes", .ref W), (Str.ofString "one", .ref O), (Str.ofString "high", .int (hh : Nat) t11), (Str.ofString "low", .int (low : Nat) t12), (Str.ofString "forced", .bytes forced t13), (Str.ofString "other", .bytes other t14), (Str.ofString "two", .ref D)] →
      tw.map (·.1) = (List.range cn).map (fun x => if x ∈ rp.map (·.1) then twoF (al.map (·.1)) (onF sz) hh low x ((op.map (·.1)).getD x 0) else (op.map (·.1)).getD x 0) → Q .next { s with heap := h', toks := tk }) :
    wpAny (model P1 w) ((tp dp (some []) gd un).deeper (lawEnv w 247 L)) (execs (lawSeg w 247 18 2) (lawEnv w 247 L)) Q (fun _ _ => False) s := by
  refine' seg_of ?ho ?_
  case ho => k_is
  dsimp only [List.drop, List.take]
  replace F := frOv F hm
  k_extra "mine steps"
  (refine for_on ?_; k_extra "mine steps")
  rename Fr _ _ _ _ => F1
  rename News _ _ _ _ => N1
  have hd50 : ∀ k, k ≤ 150 → dp + k < recursionLimit := upto (by assumption) 150
  have hu50 : ∀ k, k ≤ 2500 → un + k < cLine := upto (by assumption) 2500
  have h64 : ∀ x, x < 256 ^ sz → x < 2 ^ 64 := fun x h => Nat.lt_of_lt_of_le h (by rw [pow256]; exact Nat.pow_le_pow_right (by decide) (by omega))
  have hon : onF sz < 2 ^ 200 := Nat.lt_of_lt_of_le (h64 _ (Nat.lt_of_le_of_lt (Nat.le_mul_of_pos_right _ (by decide)) (onF_27 hpk))) (by decide)
  have h200 : ∀ x, x < 256 ^ sz → x < 2 ^ 200 := fun x h => Nat.lt_of_lt_of_le (h64 x h) (by decide)
  have hal256 : ∀ q ∈ al, q.1 < 256 := fun q hq => Nat.lt_of_lt_of_le (hal _ (List.mem_map_of_mem hq)) (Nat.le_trans hcn (by decide))
  have hhl : hh ^^^ low < 2 ^ 200 := h200 _ (xor256 hhh hlow)
  obtain ⟨D, kD, m2, hm2, F2, N2, hD⟩ : ∃ D kD m2, AllAt m2 [(Str.ofString "threshold", .int (th : Nat) t1), (Str.ofString "count", .int (cn : Nat) t2), (Str.ofString "known", .int (kn : Nat) t3), (Str.ofString "key", .int ky t4), (Str.ofString "part", .bytes pt t6), (Str.ofString "rest", .ref R), (Str.ofString "wholes", .ref W), (Str.ofString "one", .ref O), (Str.ofString "high", .int (hh : Nat) t11), (Str.ofString "low", .int (low : Nat) t12), (Str.ofString "forced", .bytes forced t13), (Str.ofString "other", .bytes other t14), (Str.ofString "two", .ref D)] ∧ Fr g L _ m2 ∧ News g L _ ((D, PySem.W.listOf (op.map fun p => Value.int (p.1 : Int) p.2).toArray kD) :: (O, lst (op.map fun p => Value.int (p.1 : Int) p.2)) :: (R, lst (rp.map fun p => Value.int (p.1 : Int) p.2)) :: (A, lst (al.map fun p => Value.int (p.1 : Int) p.2)) :: (L + 1 + 1 + 1 + 1 + 1 + 1, c6) :: (L + 1 + 1 + 1, c3) :: rest) ∧
      ∀ p ∈ (O, lst (op.map fun p => Value.int (p.1 : Int) p.2)) :: (R, lst (rp.map fun p => Value.int (p.1 : Int) p.2)) :: (A, lst (al.map fun p => Value.int (p.1 : Int) p.2)) :: (L + 1 + 1 + 1 + 1 + 1 + 1, c6) :: (L + 1 + 1 + 1, c3) :: rest, @Ne Nat p.1 D :=
    ⟨_, _, _, ⟨rfl, rfl, rfl, rfl, rfl, rfl, rfl, rfl, rfl, rfl, rfl, rfl, rfl, trivial⟩, F1, N1, by
      rename _ ∧ _ => l1
      obtain ⟨x1, x2, x3, x4, x5, x9⟩ := l1
      intro p hp
      simp only [List.mem_cons] at hp
      rcases hp with rfl | rfl | rfl | rfl | rfl | hp
      · exact Nat.ne_of_lt x1
      · exact Nat.ne_of_lt x2
      · exact Nat.ne_of_lt x3
      · exact Nat.ne_of_lt x4
      · exact Nat.ne_of_lt x5
      · exact Nat.ne_of_lt (allLt_mem x9 p hp)⟩
  clear F1 N1
  refine loop_list (items := rp.map fun p => Value.int (p.1 : Int) p.2) (fun i m₁ n₁ gs₁ dr₁ => AllAt m₁ [(Str.ofString "threshold", .int (th : Nat) t1), (Str.ofString "count", .int (cn : Nat) t2), (Str.ofString "known", .int (kn : Nat) t3), (Str.ofString "key", .int ky t4), (Str.ofString "part", .bytes pt t6), (Str.ofString "rest", .ref R), (Str.ofString "wholes", .ref W), (Str.ofString "one", .ref O), (Str.ofString "high", .int (hh : Nat) t11), (Str.ofString "low", .int (low : Nat) t12), (Str.ofString "forced", .bytes forced t13), (Str.ofString "other", .bytes other t14), (Str.ofString "two", .ref D)] ∧ gs₁ = s.gens ∧ dr₁ = s.drawn ∧ ∃ (tw : List (Nat × Tok)) (k : Nat),
      tw.map (·.1) = (List.range cn).map (fun x => if x ∈ (rp.map (·.1)).take i then twoF (al.map (·.1)) (onF sz) hh low x ((op.map (·.1)).getD x 0) else (op.map (·.1)).getD x 0) ∧
      n₁ = (D, PySem.W.listOf (tw.map fun p => Value.int (p.1 : Int) p.2).toArray k) :: (O, lst (op.map fun p => Value.int (p.1 : Int) p.2)) :: (R, lst (rp.map fun p => Value.int (p.1 : Int) p.2)) :: (A, lst (al.map fun p => Value.int (p.1 : Int) p.2)) :: (L + 1 + 1 + 1 + 1 + 1 + 1, c6) :: (L + 1 + 1 + 1, c3) :: rest) rfl F2 N2 ?_ rfl ⟨hm2, rfl, rfl, op, kD, ?_, rfl⟩ ?_ ?_
  · rintro i m₁ n₁ gs₁ dr₁ h₁ ⟨_, _, _, tw, k, _, rfl⟩ F N
    exact ⟨_, (N (R, _) (by k_mem)).1, rfl, _, rfl⟩
  · refine List.ext_getElem (by simp [hopl]) fun j h1 h2 => ?_
    simp only [List.length_map] at h1
    simp [List.getD_eq_getElem?_getD, h1]
  · intro E' T9 i v m₁ n₁ gs₁ dr₁ h17 tk17 I oI hi hP hJ9 hap hap0 hLI F17 N17 hT9
    obtain ⟨hm₁, rfl, rfl, tw, k, htw, rfl⟩ := hJ9
    clear F2 N2
    rw [List.getElem?_map, Option.map_eq_some_iff] at hP
    obtain ⟨q, hq, rfl⟩ := hP
    have hqc : q.1 < cn := hrp _ (List.mem_map_of_mem (List.mem_of_getElem? hq))
    have hq256 : q.1 < 256 := Nat.lt_of_lt_of_le hqc (Nat.le_trans hcn (by decide))
    have hx255 : q.1 ^^^ 255 < 256 := Nat.xor_lt_two_pow (n := 8) hq256 (by decide)
    have hg1 : gt (q.1 ^^^ 255) (hh ^^^ low) (onF sz) < 256 ^ sz := gt_pack hpk (xor256 hhh hlow)
    have hg2 : hh ^^^ gt (q.1 ^^^ 255) (hh ^^^ low) (onF sz) < 2 ^ 200 := h200 _ (xor256 hhh hg1)
    have hpr : prodF (al.map (·.1)) q.1 < 256 := prodF_lt _ _
    obtain ⟨z, hz⟩ : ∃ z, op[q.1]? = some z := ⟨_, List.getElem?_eq_getElem (by rw [hopl]; exact hqc)⟩
    have hID : @Ne Nat I D := (hap (D, _) (by k_mem)).symm
    refine wpAny_pure ?_
    replace F17 := frOv F17 hm₁
    k_extra "mine steps"
    rename News _ _ _ _ => N3
    refine item_news (i := q.1) (x := .int (z.1 : Int) z.2) N3 (l := O) (by k_mem) rfl (Nat.lt_trans hq256 (by decide)) (by rw [List.getElem?_map, hz]; rfl) ?_
    k_extra "mine steps"
    rename Fr _ _ _ _ => F8
    rename News _ _ _ _ => N8
    refine product_spec (loose := loose) (mean := mean) (mg := mg) (mb := mb) ⟨X.keeps F8.keep, T.keeps F8.keep, hd50 4 (by decide), hu50 43 (by decide)⟩ (isList_news N8 (l := A) (by k_mem)) hal256 hq256 fun t => ⟨fun h9 tk9 e9 => ?_⟩
    replace F8 := frExt F8 e9
    replace N8 := newsExt N8 e9
    try dsimp only
    k_extra "mine steps"
    rename Fr _ _ _ _ => F9
    rename News _ _ _ _ => N9
    have htl : tw.length = cn := by have := congrArg List.length htw; simpa using this
    refine ksa_set (vs := tw.map fun p => Value.int (p.1 : Int) p.2) (ns := tw.map fun p => (p.1 : Int)) F9 N9 (.tail hID (.head hD)) (ints_nat tw) (by omega) (by rw [List.length_map, htl]; omega) (by omega) fun h10 F10 N10 _ _ _ => ?_
    rw [Int.toNat_natCast, ← map_set_nat] at N10
    try dsimp only
    k_extra "mine steps"
    rename Fr _ _ _ _ => F11
    rename News _ _ _ _ => N11
    refine hT9 _ _ ⟨_, _, _, _, _, _, rfl, F11, N11, hap.of rfl, ⟨rfl, rfl, rfl, rfl, rfl, rfl, rfl, rfl, rfl, rfl, rfl, rfl, rfl, trivial⟩, rfl, rfl, _, k, ?_, rfl⟩
    refine two_step (f := fun x => twoF (al.map (·.1)) (onF sz) hh low x ((op.map (·.1)).getD x 0)) (g := fun x => (op.map (·.1)).getD x 0) htw (by rw [List.getElem?_map, hq]; rfl) hqc ?_
    simp [twoF, List.getD_eq_getElem?_getD, hz]
  · intro h23 tk23 gs23 dr23 m₁ n₁ F23 N23 p90
    obtain ⟨hm₁, rfl, rfl, tw, k, htw, rfl⟩ := p90
    rw [List.length_map, List.take_of_length_le (by simp)] at htw
    clear F2 N2
    k_extra "mine steps"
    exact hQ _ _ _ D tw k F23 N23 hm₁ htw
end
end
section
open LCg (lst)
section
variable {g h h' : Heap} {L P : Addr} {m : Str → Option Value} {rs : List (Addr × Obj)} {o o' : Obj}
theorem newsHead (N : News g L h ((P, o) :: rs)) (nP : ∀ p ∈ rs, @Ne Nat p.1 P) (k : ExtP P h h') (e : h'.get? P = some o') : News g L h' ((P, o') :: rs) := by
  intro p hp
  rcases List.mem_cons.mp hp with rfl | hp
  · exact ⟨e, (N _ (.head _)).2⟩
  · exact ⟨k _ _ (nP p hp) (N p (.tail _ hp)).1, (N p (.tail _ hp)).2⟩
end
section
variable {w : World} {loose : List Str} {mean : ExcName → Option Value} {mg mb : Str → Option Value} {dp un : Nat} {fr : Option (List Env)} {gd : Option (List Code)} {s : Shared} {Q E : Value → Shared → Prop} {g : Heap} {L : Addr} {m : Str → Option Value} {rs : List (Addr × Obj)}
theorem chance_make (X : (hd.heap_39 w.params).In g) (T : Top topProg loose mean mg mb g) (hd' : dp + 20 < recursionLimit) (hu : un + 400 < cLine) (ht : CodeHd g 229 225) {ps : Array Value} (F : Fr g L s.heap m) (N : News g L s.heap ((225, tabObj ps) :: rs)) (nP : ∀ p ∈ rs, @Ne Nat p.1 225)
    {cobs : List (Addr × Obj)} (hps : TabOk 171 4 (Str.ofString "_law_chance.<locals>.draw") ps cobs) (hc : ∀ p ∈ cobs, p ∈ rs) {dl al : Addr} {oal : Obj} (hal : (al, oal) ∈ rs) {ds : List (Array UInt8 × Tok)} {kd : Nat} (hdl : (dl, ({ cls := .type "list", data := .seq (bytesVals ds).toArray kd } : Obj)) ∈ rs) (hne : al ≠ dl)
    (hQ : ∀ f h' tk ps' nw, Fr g L h' m → News g L h' ((225, tabObj ps') :: nw ++ rs) → TabOk 171 4 (Str.ofString "_law_chance.<locals>.draw") ps' (nw ++ cobs) → (∀ p ∈ nw, s.heap.get? p.1 = none) → ChanceAt w g ((dl, { cls := .type "list", data := .seq (bytesVals ds).toArray kd }) :: (nw ++ cobs)) f al ds → Q (.ref f) { s with heap := h', toks := tk }) :
    wpAny (model P1 w) (tp dp fr gd un) (call (.ref 230) [.ref dl, .ref al]) Q E s := by
  refine chance_spec X T F.keep hd' hu ht (N _ (.head _)).2.2 (N _ (.head _)).1 hps (fun p hp => (N p (.tail _ (hc p hp))).1) (N _ (.tail _ hal)).2.2 (N _ (.tail _ hdl)).2.2 (N _ (.tail _ hdl)).1 hne fun f h' tk ps' nw k e1 tb hnw H => ?_
  have F' := frPut F N (.head _) (by intro es ep q; cases q) k
  have N' := newsHead N nP k e1
  have N2 := newsAdd (nw := nw) F N' (fun p hp => hnw p hp)
  refine hQ f h' tk ps' nw F' (fun p hp => N2 p ?_) tb (fun p hp => (hnw p hp).2) H
  revert hp
  revert p
  k_extra "mine sub"
theorem hmac_make (X : (hd.heap_39 w.params).In g) (T : Top topProg loose mean mg mb g) (hd' : dp + 20 < recursionLimit) (hu : un + 400 < cLine) (ht : CodeHd g 236 232) {ps : Array Value} (F : Fr g L s.heap m) (N : News g L s.heap ((232, tabObj ps) :: rs)) (nP : ∀ p ∈ rs, @Ne Nat p.1 232)
    {cobs : List (Addr × Obj)} (hps : TabOk 177 4 (Str.ofString "_law_hmac.<locals>.tell") ps cobs) (hc : ∀ p ∈ cobs, p ∈ rs) {al : Addr} {oal : Obj} (hal : (al, oal) ∈ rs) {key : Int} {forced : Array UInt8} {tk tf : Tok} (hk : Builtin.Int.intBits key ≤ 1048576) (hff : forced.size ≤ 1000)
    (hQ : ∀ f h' tk' ps' nw, Fr g L h' m → News g L h' ((232, tabObj ps') :: nw ++ rs) → TabOk 177 4 (Str.ofString "_law_hmac.<locals>.tell") ps' (nw ++ cobs) → (∀ p ∈ nw, s.heap.get? p.1 = none) → HmacAt w g (nw ++ cobs) f al 8 (ansF key forced) → Q (.ref f) { s with heap := h', toks := tk' }) :
    wpAny (model P1 w) (tp dp fr gd un) (call (.ref 237) [.int key tk, .bytes forced tf, .ref al]) Q E s := by
  refine hmac_spec X T F.keep hd' hu ht (N _ (.head _)).2.2 (N _ (.head _)).1 hps (fun p hp => (N p (.tail _ (hc p hp))).1) (N _ (.tail _ hal)).2.2 hk hff fun f h' tk ps' nw k e1 tb hnw H => ?_
  have F' := frPut F N (.head _) (by intro es ep q; cases q) k
  have N' := newsHead N nP k e1
  have N2 := newsAdd (nw := nw) F N' (fun p hp => hnw p hp)
  refine hQ f h' tk ps' nw F' (fun p hp => N2 p ?_) tb (fun p hp => (hnw p hp).2) H
  revert hp
  revert p
  k_extra "mine sub"
theorem split_make (X : (hd.heap_39 w.params).In g) (T : Top topProg loose mean mg mb g) (hd' : dp + 60 < recursionLimit) (hu : un + 1000 < cLine) {fc fh asked heard : Addr} (ht : CodeHd g 154 150) {ps : Array Value} (tri : TriplesOk ps.toList) (hne : asked ≠ heard)
    (F : Fr g L s.heap m) (N : News g L s.heap ((heard, lst []) :: (asked, lst []) :: (150, tabObj ps) :: rs)) (n1 : ∀ p ∈ rs, @Ne Nat p.1 heard) (n2 : ∀ p ∈ rs, @Ne Nat p.1 asked) (n3 : ∀ p ∈ rs, @Ne Nat p.1 150)
    {ob1 ob2 : List (Addr × Obj)} (h1 : ∀ p ∈ ob1, p ∈ rs) (h2 : ∀ p ∈ ob2, p ∈ rs) {cap : Nat} {ans : Array UInt8 → Array UInt8 → Array UInt8} (H : HmacAt w g ob1 fh heard cap ans) {ds : List (Array UInt8 × Tok)} (HC : ChanceAt w g ob2 fc asked ds)
    {t n : Nat} {tt tn ts : Tok} {sec : Array UInt8} (ht2 : 2 ≤ t) (htn : t ≤ n) (hn : n ≤ 10) (hs4 : 4 ≤ sec.size) (hcap : sec.size ≤ cap) (hcap2 : cap ≤ 1000) (hds : ds.length = t - 1) (hdz : ∀ j b u, ds[j]? = some (b, u) → b.size = if j < t - 2 then sec.size else sec.size - 4)
    (ha : ∀ b1 b2, 4 ≤ (ans b1 b2).size ∧ (ans b1 b2).size ≤ 1000)
    (hQ : ∀ (h' : Heap) (tk : Nat) (gs : Array GenState) (dr : Drawn) (ps' : Array Value) (D T : Addr) (zs : List Value) (bl : Array UInt8) (ul : Tok) (shs : List Sh) (shn : List (Addr × Obj)), Fr g L h' m →
      News g L h' ((heard, lst [.ref T]) :: (asked, lst zs) :: (150, tabObj ps') :: (D, lst (shs.map fun q => Value.ref q.a)) :: (T, { cls := .type "tuple", data := .seq #[.bytes bl ul, .bytes sec ts] 0 }) :: (shn ++ rs)) → TriplesOk ps'.toList → GB s.gens gs →
      IntsAre zs (List.replicate (t - 2) (sec.size : Int) ++ [((sec.size - 4 : Nat) : Int)]) → ds[t - 2]? = some (bl, ul) → s.heap.get? T = none → s.heap.get? D = none → (∀ p ∈ shn, s.heap.get? p.1 = none) →
      (∀ q ∈ shs, ShIn shn q) → shs.length = n → (∀ (j : Nat) (q : Sh), shs[j]? = some q → q.x = j ∧ q.b = splitRow t ds (cutT 4 (ans bl sec) ++ bl) sec j) → Q (.ref D) { s with heap := h', toks := tk, gens := gs, drawn := dr }) :
    wpAny (model P1 w) (tp dp fr gd un) (call (.ref 167) [.int t tt, .int n tn, .bytes sec ts, .ref fc, .ref fh]) Q E s := by
  have m1 := N (heard, lst []) (.head _)
  have m2 := N (asked, lst []) (.tail _ (.head _))
  have m3 := N (150, tabObj ps) (.tail _ (.tail _ (.head _)))
  have gn : ∀ a ∈ [asked, heard, 150], g.get? a = none := fun a ha => by
    simp only [List.mem_cons, List.not_mem_nil, or_false] at ha
    rcases ha with rfl | rfl | rfl
    · exact m2.2.2
    · exact m1.2.2
    · exact m3.2.2
  have eg : Ext g (hideAll s.heap [asked, heard, 150]) := ext_hide F.keep gn
  have hold : ∀ obs : List (Addr × Obj), (∀ p ∈ obs, p ∈ rs) → HoldsAll (hideAll s.heap [asked, heard, 150]) obs := fun obs ho p hp => by
    have hr := ho p hp
    refine hideAll_get _ (N p (.tail _ (.tail _ (.tail _ hr)))).1 ?_
    simp only [List.mem_cons, List.not_mem_nil, or_false, not_or]
    exact ⟨n2 p hr, n1 p hr, n3 p hr⟩
  refine split_spec X T F.keep hd' hu m2.2.2 m1.2.2 m3.2.2 ht m3.1 tri hne (H.on eg (hold _ h1)) m1.1 (HC.on eg (hold _ h2)) m2.1 ht2 htn hn hs4 hcap hcap2 hds hdz ha
    fun h' tk gs dr ps' D T' zs bl ul shs shn keep e150 tr gb ea za dl eh eT nT eD nD hsh hin hlen hval => ?_
  have hL : L ∉ [asked, heard, 150] := fun hm => by
    simp only [List.mem_cons, List.not_mem_nil, or_false] at hm
    rcases hm with h | h | h
    · exact m2.2.1 h.symm
    · exact m1.2.1 h.symm
    · exact m3.2.1 h.symm
  have F' : Fr g L h' m := ⟨F.ns.at' fun o q => keep _ o hL q, fun b o q => keep b o (fun hm => by rw [gn b hm] at q; cases q) (F.keep b o q), F.above⟩
  have fresh : ∀ (a : Addr) (o : Obj), h'.get? a = some o → s.heap.get? a = none → h'.get? a = some o ∧ @Ne Nat a L ∧ g.get? a = none := fun a o ea na => by
      refine ⟨ea, fun q => ?_, ?_⟩
      · obtain ⟨oL, es, ep, e, r⟩ := F.ns
        rw [q, e] at na; cases na
      · cases q : g.get? a with
        | none => rfl
        | some o => rw [F.keep _ _ q] at na; cases na
  refine hQ h' tk gs dr ps' D T' zs bl ul shs shn F' (fun p hp => ?_) tr gb za dl nT nD (fun p hp => (hsh p hp).2) hin hlen hval
  simp only [List.mem_cons, List.mem_append] at hp
  rcases hp with rfl | rfl | rfl | rfl | rfl | hp | hp
  · exact ⟨eh, m1.2⟩
  · exact ⟨ea, m2.2⟩
  · exact ⟨e150, m3.2⟩
  · exact fresh _ _ eD nD
  · exact fresh _ _ eT nT
  · exact fresh _ _ (hsh p hp).1 (hsh p hp).2
  · have n := N p (.tail _ (.tail _ (.tail _ hp)))
    refine ⟨keep _ _ ?_ n.1, n.2⟩
    simp only [List.mem_cons, List.not_mem_nil, or_false, not_or]
    exact ⟨n2 p hp, n1 p hp, n3 p hp⟩
end
end
section
open LCg (lst)
section
variable {g h : Heap} {L : Addr} {all l l' : List (Addr × Obj)}
theorem newsPick (N : News g L h all) (i : Nat) {p : Addr × Obj} (e : all[i]? = some p) (r : News g L h l) : News g L h (p :: l) := fun q hq => by
  rcases List.mem_cons.mp hq with rfl | hq
  · exact N _ (List.mem_of_getElem? e)
  · exact r q hq
theorem newsDrop (N : News g L h all) (i : Nat) : News g L h (all.drop i) := fun q hq => N q (List.mem_of_mem_drop hq)
theorem newsRight (N : News g L h (l ++ l')) : News g L h l' := fun q hq => N q (List.mem_append_right _ hq)
theorem newsLeft (N : News g L h (l ++ l')) : News g L h l := fun q hq => N q (List.mem_append_left _ hq)
theorem newsApp (N : News g L h l) (N' : News g L h l') : News g L h (l ++ l') := fun q hq => by
  rcases List.mem_append.mp hq with h | h
  · exact N q h
  · exact N' q h
end
theorem pick_upto (xs : List Value) (k : Nat) : slicePick xs.toArray none (some (k : Int)) none = (xs.take k).toArray := by
  have e : sliceBounds none (some (k : Int)) none xs.toArray.size = (((0 : Nat) : Int), ((min k xs.toArray.size : Nat) : Int), 1) := by
    simp only [sliceBounds, Option.getD_none, show (1 : Int) > 0 by decide, if_true, if_neg (show ¬ ((k : Int) < 0) by omega)]
    congr 1
    congr 1
    omega
  rw [kmk_pick_nat _ e]
  show ((xs.drop 0).take (min k xs.toArray.size - 0)).toArray = _
  rw [List.drop_zero, Nat.sub_zero, List.size_toArray, kmk_take_min]
section
variable {prog : Program} {w : World} {A : Around} {s : Shared} {E Q : Value → Shared → Prop} {g : Heap} {L a b : Addr} {m : Str → Option Value} {news : List (Addr × Obj)}
theorem add_end (F : Fr g L s.heap m) (N : News g L s.heap news) {xs : List Value} {y : Value} {k j : Nat} (ha : (a, ({ cls := .type "list", data := .seq xs.toArray k } : Obj)) ∈ news) (hb : (b, PySem.W.listOf #[y] j) ∈ news) (hx : xs.length ≤ 1000)
    (h : ∀ D h', Fr g L h' m → News g L h' ((D, { cls := .type "list", data := .seq (xs ++ [y]).toArray }) :: news) → (∀ p ∈ news, @LT.lt Nat _ p.1 D) → Q (.ref D) { s with heap := h' }) : wpAny (model prog w) A (binaryOp .Add (.ref a) (.ref b)) Q E s := by
  refine P.add_list (N _ ha).1 (N _ hb).1 ?_ (by rw [sizeLine_eq]; simp; omega)
  have e : xs.toArray ++ #[y] = (xs ++ [y]).toArray := by simp
  rw [e]
  exact h _ _ (F.push _) (newsI' F N rfl) fun p hp => Heap.lt_size (N p hp).1
end
def forBody : List Stmt → List Stmt
  | [.For _ _ b _ _] => b
  | _ => []
noncomputable def lawTurn (w : World) (f : Addr) (i j k : Nat) : List Stmt := ((forBody (lawSeg w f i 1)).drop j).take k
section
variable {M : Model} {w : World} {A : Around} {s : Shared} {E : Value → Shared → Prop} {Q : Flow → Shared → Prop} {name qual : Str} {params : Arguments} {body : List Stmt} {scope : Scope} {dV kV doc pm cdv ct oc : Value} {an od : Option Addr} {osl : Array (Option Value)} {f L : Addr} {i : Nat}
theorem law_is (ho : (hd.heap_39 w.params).lookup f = some ⟨oc, od, .func (fnOf name qual params body scope dV kV doc pm an cdv ct), osl⟩) : lawFn w f = fnOf name qual params body scope dV kV doc pm an cdv ct := by unfold lawFn; rw [ho]
theorem turn_of {j k : Nat} (ho : (hd.heap_39 w.params).lookup f = some ⟨oc, od, .func (fnOf name qual params body scope dV kV doc pm an cdv ct), osl⟩)
    (h : wpAny M (A.deeper (envOfC qual scope L f cdv)) (execs (((forBody ((body.drop i).take 1)).drop j).take k) (envOfC qual scope L f cdv)) Q E s) : wpAny M (A.deeper (lawEnv w f L)) (execs (lawTurn w f i j k) (lawEnv w f L)) Q E s := by
  unfold lawTurn lawSeg lawBody lawEnv
  rw [law_is ho]
  exact h
theorem of_turn (ho : (hd.heap_39 w.params).lookup f = some ⟨oc, od, .func (fnOf name qual params body scope dV kV doc pm an cdv ct), osl⟩)
    (h : wpAny M (A.deeper (lawEnv w f L)) (execs (forBody (lawSeg w f i 1)) (lawEnv w f L)) Q E s) : wpAny M (A.deeper (envOfC qual scope L f cdv)) (execs (forBody ((body.drop i).take 1)) (envOfC qual scope L f cdv)) Q E s := by
  unfold lawSeg lawBody lawEnv at h
  rw [law_is ho] at h
  exact h
end
section
variable {w : World} {loose : List Str} {mean : ExcName → Option Value} {mg mb : Str → Option Value} {dp un : Nat} {gd : Option (List Code)} {s : Shared} {Q : Flow → Shared → Prop} {E : Value → Shared → Prop} {g : Heap} {L : Addr} {m : Str → Option Value}
theorem segT1 (X : (hd.heap_39 w.params).In g) (T : Top topProg loose mean mg mb g) (hd' : dp + 200 < recursionLimit) (hu : un + 3000 < cLine) (C1 : CodeHd g 229 225) (C2 : CodeHd g 236 232) (C3 : CodeHd g 154 150)
    {th cn sz : Nat} (hth2 : 2 ≤ th) (hth4 : th ≤ 4) (hcn : cn ≤ 10) (htc : th ≤ cn) (hs4 : 4 ≤ sz) (hs8 : sz ≤ 8) {t1 t2 t4 t7 wu eu au : Tok} {ky : Int} (hky : Builtin.Int.intBits ky ≤ 1048576) {wb eb ab : Array UInt8} (hwb : wb.size = sz) (heb : eb.size = sz - 4) (hab : ab.size ≤ 1000) (hab4 : ab.size = 0 ∨ 4 ≤ ab.size)
    {U TD I : Addr} {oI : Obj} {due : List (Nat × Tok)} {kU : Nat} (hdl : due.length = cn) (hdue : ∀ q ∈ due, q.1 < 256 ^ sz) {tds : List Value}
    (F : Fr g L s.heap m) (hm : AllAt m [(Str.ofString "threshold", .int (th : Nat) t1), (Str.ofString "count", .int (cn : Nat) t2), (Str.ofString "key", .int ky t4), (Str.ofString "whole", .bytes wb wu), (Str.ofString "due", .ref U), (Str.ofString "end", .bytes eb eu), (Str.ofString "answer", .bytes ab au)])
    {c2 c8 : Obj} {p1 p2 p3 : Array Value} {rs : List (Addr × Obj)}
    (N : News g L s.heap ((U, PySem.W.listOf (due.map fun p => Value.int (p.1 : Int) p.2).toArray kU) :: (I, oI) :: (TD, lst tds) :: (L + 1 + 1 + 1 + 1 + 1 + 1 + 1 + 1, c8) :: (L + 1 + 1, c2) :: (232, tabObj p1) :: (225, tabObj p2) :: (150, tabObj p3) :: rs))
    (e2 : c2.data = .cell (some (.int (sz : Nat) t7))) (e8 : c8.data = .cell (some (.ref TD))) (offs : ∀ a : Nat, a = 232 ∨ a = 225 ∨ a = 150 → ∀ p ∈ (U, PySem.W.listOf (due.map fun p => Value.int (p.1 : Int) p.2).toArray kU) :: (I, oI) :: (TD, lst tds) :: (L + 1 + 1 + 1 + 1 + 1 + 1 + 1 + 1, c8) :: (L + 1 + 1, c2) :: rs, @Ne Nat p.1 a)
    {ob1 ob2 : List (Addr × Obj)} (ho1 : ∀ p ∈ ob1, p ∈ rs) (ho2 : ∀ p ∈ ob2, p ∈ rs) (hp1 : TabOk 177 4 (Str.ofString "_law_hmac.<locals>.tell") p1 ob1) (hp2 : TabOk 171 4 (Str.ofString "_law_chance.<locals>.draw") p2 ob2) (hp3 : TriplesOk p3.toList)
    (hQ : ∀ (h' : Heap) (tk : Nat) (gs : Array GenState) (dr : Drawn) (m' : Str → Option Value) (p1' p2' p3' : Array Value) (bs : List (Array UInt8 × Tok)) (AA HH DD DS TT : Addr) (zs : List Value) (bl : Array UInt8) (ul : Tok) (shs : List Sh) (shn nwH nwC : List (Addr × Obj)), Fr g L h' m' →
      AllAt m' [(Str.ofString "shares", .ref DS), (Str.ofString "draws", .ref DD), (Str.ofString "asked", .ref AA), (Str.ofString "heard", .ref HH), (Str.ofString "threshold", .int (th : Nat) t1), (Str.ofString "count", .int (cn : Nat) t2), (Str.ofString "key", .int ky t4), (Str.ofString "whole", .bytes wb wu), (Str.ofString "due", .ref U), (Str.ofString "end", .bytes eb eu), (Str.ofString "answer", .bytes ab au)] → (∀ y, y ≠ Str.ofString "shares" → y ≠ Str.ofString "draws" → y ≠ Str.ofString "asked" → y ≠ Str.ofString "heard" → m' y = m y) → GB s.gens gs → TriplesOk p3'.toList → TabOk 177 4 (Str.ofString "_law_hmac.<locals>.tell") p1' (nwH ++ ob1) → TabOk 171 4 (Str.ofString "_law_chance.<locals>.draw") p2' (nwC ++ ob2) →
      News g L h' ((HH, lst [.ref TT]) :: (AA, lst zs) :: (150, tabObj p3') :: (DS, lst (shs.map fun q => Value.ref q.a)) :: (TT, { cls := .type "tuple", data := .seq #[.bytes bl ul, .bytes wb wu] 0 }) :: (232, tabObj p1') :: (225, tabObj p2') :: (DD, { cls := .type "list", data := .seq (bytesVals (bs ++ [(eb, eu)])).toArray }) :: (U, PySem.W.listOf (due.map fun p => Value.int (p.1 : Int) p.2).toArray kU) :: (I, oI) :: (TD, lst tds) :: (L + 1 + 1 + 1 + 1 + 1 + 1 + 1 + 1, c8) :: (L + 1 + 1, c2) :: (shn ++ (nwH ++ (nwC ++ rs)))) →
      bs.map (·.1) = ((due.take (th - 2)).map fun q => toB sz q.1) → IntsAre zs (List.replicate (th - 2) (wb.size : Int) ++ [((wb.size - 4 : Nat) : Int)]) → (bs ++ [(eb, eu)])[th - 2]? = some (bl, ul) → (∀ q ∈ shs, ShIn shn q) → shs.length = cn →
      (∀ (j : Nat) (q : Sh), shs[j]? = some q → q.x = j ∧ q.b = splitRow th (bs ++ [(eb, eu)]) (cutT 4 (ansF ky ab bl wb) ++ bl) wb j) →
      (∀ a : Nat, a = 232 ∨ a = 225 ∨ a = 150 ∨ a = TD ∨ a = I → (∀ p ∈ shn ++ (nwH ++ nwC), @Ne Nat p.1 a) ∧ AA ≠ a ∧ HH ≠ a ∧ DD ≠ a ∧ TT ≠ a ∧ DS ≠ a) → Q .next { s with heap := h', toks := tk, gens := gs, drawn := dr }) :
    wpAny (model P1 w) ((tp dp (some []) gd un).deeper (lawEnv w 247 L)) (execs (lawTurn w 247 21 0 3) (lawEnv w 247 L)) Q E s := by
  refine' turn_of ?ho ?_
  case ho => k_is
  dsimp only [List.drop, List.take, forBody]
  replace F := frOv F hm
  have hd50 : ∀ k, k ≤ 150 → dp + k < recursionLimit := upto (by assumption) 150
  have hu50 : ∀ k, k ≤ 2500 → un + k < cLine := upto (by assumption) 2500
  k_extra "mine steps"
  rename News _ _ _ _ => N2
  rename Fr _ _ _ _ => F2
  rename_i AA ha1 x1 HH ha2 x2 TT ha3 x3 ha4 ha5 ha6 FF NN ha7
  clear x3 FF NN
  rw [pick_upto, ← List.map_take] at N2
  have htk : ∀ q ∈ due.take (th - 2), q.1 < 256 ^ sz := fun q hq => hdue q (List.mem_of_mem_take hq)
  have htl : (due.take (th - 2)).length = th - 2 := by rw [List.length_take, hdl]; exact Nat.min_eq_left (Nat.le_trans (Nat.sub_le _ _) htc)
  refine rows_led (ps := due.take (th - 2)) (n := sz) F2 N2 X T (hd50 4 (by decide)) (hu50 43 (by decide)) rfl (.head _) htk (Nat.le_trans hs8 (by decide)) (Nat.le_trans (Nat.le_of_eq htl) (Nat.le_trans (Nat.sub_le _ _) (Nat.le_trans hth4 (by decide)))) fun DR h3 tk3 bs hbs F3 N3 nDR => ?_
  dsimp only at F3 N3 nDR ⊢
  clear F2 N2
  k_extra "mine steps"
  rename News _ _ _ _ => N4
  rename Fr _ _ _ _ => F4
  have hbl : bs.length = th - 2 := by have := congrArg List.length hbs; rw [List.length_map, List.length_map, htl] at this; exact this
  refine add_end (news := _) F4 N4 (a := DR) (xs := bytesVals bs) (y := .bytes eb eu) (.tail _ (.head _)) (.head _) (by rw [bytesVals, List.length_map, hbl]; exact Nat.le_trans (Nat.sub_le _ _) (Nat.le_trans hth4 (by decide))) fun DD h5 F5 N5 nDD => ?_
  rw [show bytesVals bs ++ [Value.bytes eb eu] = bytesVals (bs ++ [(eb, eu)]) by simp [bytesVals]] at N5
  clear F4 N4
  dsimp only at F5 N5 nDD ⊢
  k_extra "mine steps"
  rename News _ _ _ _ => N6
  rename Fr _ _ _ _ => F6
  obtain ⟨m7, hm7, hs7, F7, N7, hA, hH, hD⟩ : ∃ m7, AllAt m7 [(Str.ofString "draws", .ref DD), (Str.ofString "asked", .ref AA), (Str.ofString "heard", .ref HH), (Str.ofString "threshold", .int (th : Nat) t1), (Str.ofString "count", .int (cn : Nat) t2), (Str.ofString "key", .int ky t4), (Str.ofString "whole", .bytes wb wu), (Str.ofString "due", .ref U), (Str.ofString "end", .bytes eb eu), (Str.ofString "answer", .bytes ab au)] ∧ (∀ y, y ≠ Str.ofString "draws" → y ≠ Str.ofString "asked" → y ≠ Str.ofString "heard" → m7 y = m y) ∧ Fr g L _ m7 ∧
      News g L _ ((DD, { cls := .type "list", data := .seq (bytesVals (bs ++ [(eb, eu)])).toArray }) :: (HH, PySem.W.listOf #[] 0) :: (AA, PySem.W.listOf #[] 0) :: (U, PySem.W.listOf (due.map fun p => Value.int (p.1 : Int) p.2).toArray kU) :: (I, oI) :: (TD, lst tds) :: (L + 1 + 1 + 1 + 1 + 1 + 1 + 1 + 1, c8) :: (L + 1 + 1, c2) :: (232, tabObj p1) :: (225, tabObj p2) :: (150, tabObj p3) :: rs) ∧ (∀ p ∈ (U, PySem.W.listOf (due.map fun p => Value.int (p.1 : Int) p.2).toArray kU) :: (I, oI) :: (TD, lst tds) :: (L + 1 + 1 + 1 + 1 + 1 + 1 + 1 + 1, c8) :: (L + 1 + 1, c2) :: (232, tabObj p1) :: (225, tabObj p2) :: (150, tabObj p3) :: rs, @LT.lt Nat _ p.1 AA) ∧ (∀ p ∈ (AA, PySem.W.listOf #[] 0) :: (U, PySem.W.listOf (due.map fun p => Value.int (p.1 : Int) p.2).toArray kU) :: (I, oI) :: (TD, lst tds) :: (L + 1 + 1 + 1 + 1 + 1 + 1 + 1 + 1, c8) :: (L + 1 + 1, c2) :: (232, tabObj p1) :: (225, tabObj p2) :: (150, tabObj p3) :: rs, @LT.lt Nat _ p.1 HH) ∧
      (∀ p ∈ (HH, PySem.W.listOf #[] 0) :: (AA, PySem.W.listOf #[] 0) :: (U, PySem.W.listOf (due.map fun p => Value.int (p.1 : Int) p.2).toArray kU) :: (I, oI) :: (TD, lst tds) :: (L + 1 + 1 + 1 + 1 + 1 + 1 + 1 + 1, c8) :: (L + 1 + 1, c2) :: (232, tabObj p1) :: (225, tabObj p2) :: (150, tabObj p3) :: rs, @LT.lt Nat _ p.1 DD) := by
    refine ⟨_, ?_, fun y h1 h2 h3 => (if_neg h1).trans ((if_neg h2).trans ((if_neg h3).trans (congrFun (ov_eq hm) y))), F6, fun p hp => N6 p ?_, allLt_mem x1, allLt_mem x2, fun p hp => nDD p ?_⟩
    · exact ⟨rfl, rfl, rfl, rfl, rfl, rfl, rfl, rfl, rfl, rfl, trivial⟩
    · rcases List.mem_cons.mp hp with h | h
      · exact h ▸ .head _
      · exact .tail _ (.tail _ (.tail _ (.tail _ (.tail _ h))))
    · exact .tail _ (.tail _ (.tail _ (.tail _ hp)))
  clear F6 N6 nDD nDR x1 x2
  have ofs : ∀ a : Nat, a = 232 ∨ a = 225 ∨ a = 150 → ∀ p ∈ (DD, { cls := .type "list", data := .seq (bytesVals (bs ++ [(eb, eu)])).toArray }) :: (HH, PySem.W.listOf #[] 0) :: (AA, PySem.W.listOf #[] 0) :: (U, PySem.W.listOf (due.map fun p => Value.int (p.1 : Int) p.2).toArray kU) :: (I, oI) :: (TD, lst tds) :: (L + 1 + 1 + 1 + 1 + 1 + 1 + 1 + 1, c8) :: (L + 1 + 1, c2) :: rs, @Ne Nat p.1 a := by
    intro a ha
    have lA : a < AA := by rcases ha with rfl | rfl | rfl <;> first | exact hA (232, tabObj p1) (by k_mem) | exact hA (225, tabObj p2) (by k_mem) | exact hA (150, tabObj p3) (by k_mem)
    have lAH : @LT.lt Nat _ AA HH := hH _ (.head _)
    have lHD : @LT.lt Nat _ HH DD := hD _ (.head _)
    exact fmc (Nat.ne_of_gt (Nat.lt_trans lA (Nat.lt_trans lAH lHD))) ((fmc (Nat.ne_of_gt (Nat.lt_trans lA lAH)) ((fmc (Nat.ne_of_gt lA) (offs a ha)))))
  have hAD : AA ≠ DD := Nat.ne_of_lt (Nat.lt_trans (hH _ (.head _)) (hD _ (.head _)))
  replace F7 := frOv F7 hm7
  have N7' : News g L _ ((225, tabObj p2) :: (232, tabObj p1) :: (150, tabObj p3) :: (DD, { cls := .type "list", data := .seq (bytesVals (bs ++ [(eb, eu)])).toArray }) :: (HH, PySem.W.listOf #[] 0) :: (AA, PySem.W.listOf #[] 0) :: (U, PySem.W.listOf (due.map fun p => Value.int (p.1 : Int) p.2).toArray kU) :: (I, oI) :: (TD, lst tds) :: (L + 1 + 1 + 1 + 1 + 1 + 1 + 1 + 1, c8) :: (L + 1 + 1, c2) :: rs) := fun p hp => N7 p (by
    revert hp
    revert p
    k_extra "mine sub")
  clear N7
  refine chance_make (s := ⟨_, _, _, _, _⟩) (rs := (232, tabObj p1) :: (150, tabObj p3) :: (DD, { cls := .type "list", data := .seq (bytesVals (bs ++ [(eb, eu)])).toArray }) :: (HH, PySem.W.listOf #[] 0) :: (AA, PySem.W.listOf #[] 0) :: (U, PySem.W.listOf (due.map fun p => Value.int (p.1 : Int) p.2).toArray kU) :: (I, oI) :: (TD, lst tds) :: (L + 1 + 1 + 1 + 1 + 1 + 1 + 1 + 1, c8) :: (L + 1 + 1, c2) :: rs) (al := AA) (dl := DD) (ds := bs ++ [(eb, eu)]) X T (hd50 21 (by decide)) (hu50 403 (by decide)) C1 F7 N7' ?_ hp2 (fun p hp => ?_) (by k_mem) (by k_mem) hAD fun fc h8 tk8 p2' nwC F8 N8 hp2' nwf HC => ?_
  · skip
    exact fmc ((by decide : (232 : Nat) ≠ 225)) ((fmc ((by decide : (150 : Nat) ≠ 225)) (ofs 225 (.inr (.inl rfl)))))
  · simp only [List.mem_cons]
    simp [ho2 p hp]
  dsimp only at F8 N8 nwf ⊢
  have offC : ∀ p ∈ nwC, ∀ q ∈ (225, tabObj p2) :: (232, tabObj p1) :: (150, tabObj p3) :: (DD, { cls := .type "list", data := .seq (bytesVals (bs ++ [(eb, eu)])).toArray }) :: (HH, PySem.W.listOf #[] 0) :: (AA, PySem.W.listOf #[] 0) :: (U, PySem.W.listOf (due.map fun p => Value.int (p.1 : Int) p.2).toArray kU) :: (I, oI) :: (TD, lst tds) :: (L + 1 + 1 + 1 + 1 + 1 + 1 + 1 + 1, c8) :: (L + 1 + 1, c2) :: rs, @Ne Nat p.1 q.1 := fun p hp q hq e => by
    have h2 := (N7' q hq).1
    rw [← e, nwf p hp] at h2; cases h2
  have ofs2 : ∀ a : Nat, a = 232 ∨ a = 225 ∨ a = 150 → ∀ p ∈ (DD, { cls := .type "list", data := .seq (bytesVals (bs ++ [(eb, eu)])).toArray }) :: (HH, PySem.W.listOf #[] 0) :: (AA, PySem.W.listOf #[] 0) :: (U, PySem.W.listOf (due.map fun p => Value.int (p.1 : Int) p.2).toArray kU) :: (I, oI) :: (TD, lst tds) :: (L + 1 + 1 + 1 + 1 + 1 + 1 + 1 + 1, c8) :: (L + 1 + 1, c2) :: (nwC ++ rs), @Ne Nat p.1 a := by
    intro a ha p hp
    by_cases hc : p ∈ nwC
    · rcases ha with rfl | rfl | rfl
      · exact offC p hc (232, tabObj p1) (.tail _ (.head _))
      · exact offC p hc (225, tabObj p2) (.head _)
      · exact offC p hc (150, tabObj p3) (.tail _ (.tail _ (.head _)))
    · refine ofs a ha p ?_
      revert hc hp
      revert p
      k_extra "mine sub"
  clear F7 N7'
  k_extra "mine steps"
  have N8' : News g L _ ((232, tabObj p1) :: (225, tabObj p2') :: (150, tabObj p3) :: (DD, { cls := .type "list", data := .seq (bytesVals (bs ++ [(eb, eu)])).toArray }) :: (HH, PySem.W.listOf #[] 0) :: (AA, PySem.W.listOf #[] 0) :: (U, PySem.W.listOf (due.map fun p => Value.int (p.1 : Int) p.2).toArray kU) :: (I, oI) :: (TD, lst tds) :: (L + 1 + 1 + 1 + 1 + 1 + 1 + 1 + 1, c8) :: (L + 1 + 1, c2) :: (nwC ++ rs)) := fun p hp => N8 p (by
    revert hp
    revert p
    k_extra "mine sub")
  clear N8
  refine hmac_make (s := ⟨_, _, _, _, _⟩) (rs := (225, tabObj p2') :: (150, tabObj p3) :: (DD, { cls := .type "list", data := .seq (bytesVals (bs ++ [(eb, eu)])).toArray }) :: (HH, PySem.W.listOf #[] 0) :: (AA, PySem.W.listOf #[] 0) :: (U, PySem.W.listOf (due.map fun p => Value.int (p.1 : Int) p.2).toArray kU) :: (I, oI) :: (TD, lst tds) :: (L + 1 + 1 + 1 + 1 + 1 + 1 + 1 + 1, c8) :: (L + 1 + 1, c2) :: (nwC ++ rs)) (al := HH) X T (hd50 21 (by decide)) (hu50 403 (by decide)) C2 F8 N8' ?_ hp1 (fun p hp => ?_) (by k_mem) hky hab fun fh h9 tk9 p1' nwH F9 N9 hp1' nwg HH' => ?_
  · skip
    exact fmc ((by decide : (225 : Nat) ≠ 232)) ((fmc ((by decide : (150 : Nat) ≠ 232)) (ofs2 232 (.inl rfl))))
  · simp only [List.mem_cons, List.mem_append]
    simp [ho1 p hp]
  dsimp only at F9 N9 nwg ⊢
  have offH : ∀ p ∈ nwH, ∀ q ∈ (232, tabObj p1) :: (225, tabObj p2') :: (150, tabObj p3) :: (DD, { cls := .type "list", data := .seq (bytesVals (bs ++ [(eb, eu)])).toArray }) :: (HH, PySem.W.listOf #[] 0) :: (AA, PySem.W.listOf #[] 0) :: (U, PySem.W.listOf (due.map fun p => Value.int (p.1 : Int) p.2).toArray kU) :: (I, oI) :: (TD, lst tds) :: (L + 1 + 1 + 1 + 1 + 1 + 1 + 1 + 1, c8) :: (L + 1 + 1, c2) :: (nwC ++ rs), @Ne Nat p.1 q.1 := fun p hp q hq e => by
    have h2 := (N8' q hq).1
    rw [← e, nwg p hp] at h2; cases h2
  clear F8 N8'
  k_extra "mine steps"
  have rs3 : List (Addr × Obj) := (232, tabObj p1') :: (225, tabObj p2') :: (DD, { cls := .type "list", data := .seq (bytesVals (bs ++ [(eb, eu)])).toArray }) :: (U, PySem.W.listOf (due.map fun p => Value.int (p.1 : Int) p.2).toArray kU) :: (I, oI) :: (TD, lst tds) :: (L + 1 + 1 + 1 + 1 + 1 + 1 + 1 + 1, c8) :: (L + 1 + 1, c2) :: (nwH ++ (nwC ++ rs))
  have N9' : News g L _ ((HH, lst []) :: (AA, lst []) :: (150, tabObj p3) :: (232, tabObj p1') :: (225, tabObj p2') :: (DD, { cls := .type "list", data := .seq (bytesVals (bs ++ [(eb, eu)])).toArray }) :: (U, PySem.W.listOf (due.map fun p => Value.int (p.1 : Int) p.2).toArray kU) :: (I, oI) :: (TD, lst tds) :: (L + 1 + 1 + 1 + 1 + 1 + 1 + 1 + 1, c8) :: (L + 1 + 1, c2) :: (nwH ++ (nwC ++ rs))) := fun p hp => N9 p (by
    rw [show lst [] = PySem.W.listOf #[] 0 from rfl] at hp
    revert hp
    revert p
    k_extra "mine sub")
  clear N9 rs3
  have hbz : ∀ j b u, (bs ++ [(eb, eu)])[j]? = some (b, u) → b.size = if j < th - 2 then wb.size else wb.size - 4 := by
    intro j b u hj
    rw [hwb]
    by_cases h : j < th - 2
    · rw [if_pos h]
      rw [List.getElem?_append_left (by rw [hbl]; exact h)] at hj
      have h2 : (bs.map (·.1))[j]? = some b := by rw [List.getElem?_map, hj]; rfl
      rw [hbs, List.getElem?_map, Option.map_eq_some_iff] at h2
      obtain ⟨q, _, rfl⟩ := h2
      exact toB_size _ _
    · rw [if_neg h]
      rw [List.getElem?_append_right (by rw [hbl]; exact Nat.le_of_not_lt (by assumption))] at hj
      have hj0 : j - bs.length = 0 := by
        have := (List.getElem?_eq_some_iff.mp hj).1
        simp at this; omega
      rw [hj0] at hj
      cases hj
      exact heb
  have han : ∀ b1 b2, 4 ≤ (ansF ky ab b1 b2).size ∧ (ansF ky ab b1 b2).size ≤ 1000 := by
    intro b1 b2
    unfold ansF
    split
    · exact ⟨hab4.resolve_left (Nat.ne_of_gt (by assumption)), hab⟩
    · rw [digB_size]; exact ⟨by decide, by decide⟩
  have lAH : @LT.lt Nat _ AA HH := hH _ (.head _)
  have lHD : @LT.lt Nat _ HH DD := hD _ (.head _)
  have big : ∀ a : Nat, a = AA ∨ a = HH → ∀ p ∈ (232, tabObj p1') :: (225, tabObj p2') :: (DD, { cls := .type "list", data := .seq (bytesVals (bs ++ [(eb, eu)])).toArray }) :: (U, PySem.W.listOf (due.map fun p => Value.int (p.1 : Int) p.2).toArray kU) :: (I, oI) :: (TD, lst tds) :: (L + 1 + 1 + 1 + 1 + 1 + 1 + 1 + 1, c8) :: (L + 1 + 1, c2) :: (nwH ++ (nwC ++ rs)), @Ne Nat p.1 a := by
    intro a ha
    have lowA : ∀ n : Nat, n < AA → n ≠ a := fun n h => by
      rcases ha with rfl | rfl
      · exact Nat.ne_of_lt h
      · exact Nat.ne_of_lt (Nat.lt_trans h lAH)
    refine fmc (lowA _ (hA (232, tabObj p1) (by k_mem))) ((fmc (lowA _ (hA (225, tabObj p2) (by k_mem))) ((fmc ?_ (fun p hp => ?_)))))
    · rcases ha with rfl | rfl
      · exact Nat.ne_of_gt (Nat.lt_trans lAH lHD)
      · exact Nat.ne_of_gt lHD
    by_cases hh : p ∈ nwH
    · rcases ha with ha | ha
      · rw [ha]; exact offH p hh (AA, PySem.W.listOf #[] 0) (by k_mem)
      · rw [ha]; exact offH p hh (HH, PySem.W.listOf #[] 0) (by k_mem)
    by_cases hc : p ∈ nwC
    · rcases ha with ha | ha
      · rw [ha]; exact offC p hc (AA, PySem.W.listOf #[] 0) (by k_mem)
      · rw [ha]; exact offC p hc (HH, PySem.W.listOf #[] 0) (by k_mem)
    refine lowA _ (hA p ?_)
    revert hh hc hp
    revert p
    k_extra "mine sub"
  have ofs3 : ∀ a : Nat, a = 232 ∨ a = 225 ∨ a = 150 → ∀ p ∈ (DD, { cls := .type "list", data := .seq (bytesVals (bs ++ [(eb, eu)])).toArray }) :: (U, PySem.W.listOf (due.map fun p => Value.int (p.1 : Int) p.2).toArray kU) :: (I, oI) :: (TD, lst tds) :: (L + 1 + 1 + 1 + 1 + 1 + 1 + 1 + 1, c8) :: (L + 1 + 1, c2) :: (nwH ++ (nwC ++ rs)), @Ne Nat p.1 a := by
    intro a ha p hp
    by_cases hh : p ∈ nwH
    · rcases ha with rfl | rfl | rfl
      · exact offH p hh (232, tabObj p1) (.head _)
      · exact offH p hh (225, tabObj p2') (by k_mem)
      · exact offH p hh (150, tabObj p3) (by k_mem)
    refine ofs2 a ha p ?_
    revert hh hp
    revert p
    k_extra "mine sub"
  refine split_make (s := ⟨_, _, _, _, _⟩) (rs := (232, tabObj p1') :: (225, tabObj p2') :: (DD, { cls := .type "list", data := .seq (bytesVals (bs ++ [(eb, eu)])).toArray }) :: (U, PySem.W.listOf (due.map fun p => Value.int (p.1 : Int) p.2).toArray kU) :: (I, oI) :: (TD, lst tds) :: (L + 1 + 1 + 1 + 1 + 1 + 1 + 1 + 1, c8) :: (L + 1 + 1, c2) :: (nwH ++ (nwC ++ rs))) X T (hd50 61 (by decide)) (hu50 1003 (by decide)) C3 hp3 (Nat.ne_of_lt lAH) F9 N9' (big HH (.inr rfl)) (big AA (.inl rfl)) ?_ (fun p hp => ?_) (fun p hp => ?_) HH' HC hth2 htc hcn (by rw [hwb]; exact hs4) (by rw [hwb]; exact hs8) (by decide) (by rw [List.length_append, hbl]; simp; omega) hbz han
    fun h10 tk10 gs10 dr10 p3' DS TT zs bl ul shs shn F10 N10 tri10 gb10 hz10 hbl10 nT nD nshn hsh hsl hval => ?_
  · skip
    exact fmc ((by decide : (232 : Nat) ≠ 150)) ((fmc ((by decide : (225 : Nat) ≠ 150)) (ofs3 150 (.inr (.inr rfl)))))
  · simp only [List.mem_append] at hp
    simp only [List.mem_cons, List.mem_append]
    rcases hp with h | h
    · simp [h]
    · simp [ho1 p h]
  · rcases List.mem_cons.mp hp with rfl | hp
    · k_mem
    simp only [List.mem_append] at hp
    simp only [List.mem_cons, List.mem_append]
    rcases hp with h | h
    · simp [h]
    · simp [ho2 p h]
  dsimp only at F10 N10 nT nD nshn gb10 ⊢
  have offS : ∀ p ∈ shn, ∀ q ∈ (HH, lst []) :: (AA, lst []) :: (150, tabObj p3) :: (232, tabObj p1') :: (225, tabObj p2') :: (DD, { cls := .type "list", data := .seq (bytesVals (bs ++ [(eb, eu)])).toArray }) :: (U, PySem.W.listOf (due.map fun p => Value.int (p.1 : Int) p.2).toArray kU) :: (I, oI) :: (TD, lst tds) :: (L + 1 + 1 + 1 + 1 + 1 + 1 + 1 + 1, c8) :: (L + 1 + 1, c2) :: (nwH ++ (nwC ++ rs)), @Ne Nat p.1 q.1 := fun p hp q hq e => by
    have h2 := (N9' q hq).1
    rw [← e, nshn p hp] at h2; cases h2
  have frs : ∀ a : Nat, a = 232 ∨ a = 225 ∨ a = 150 ∨ a = TD ∨ a = I → AA ≠ a ∧ HH ≠ a ∧ DD ≠ a ∧ TT ≠ a ∧ DS ≠ a := by
    intro a ha
    have lA : a < AA := by
      rcases ha with ha | ha | ha | ha | ha <;> rw [ha]
      · exact hA _ (List.mem_of_getElem? (i := 5) rfl)
      · exact hA _ (List.mem_of_getElem? (i := 6) rfl)
      · exact hA _ (List.mem_of_getElem? (i := 7) rfl)
      · exact hA _ (List.mem_of_getElem? (i := 2) rfl)
      · exact hA _ (List.mem_of_getElem? (i := 1) rfl)
    have ea : ∃ o, h9.get? a = some o := by
      rcases ha with ha | ha | ha | ha | ha <;> rw [ha]
      · exact ⟨_, (N9' _ (List.mem_of_getElem? (i := 3) rfl)).1⟩
      · exact ⟨_, (N9' _ (List.mem_of_getElem? (i := 4) rfl)).1⟩
      · exact ⟨_, (N9' _ (List.mem_of_getElem? (i := 2) rfl)).1⟩
      · exact ⟨_, (N9' _ (List.mem_of_getElem? (i := 8) rfl)).1⟩
      · exact ⟨_, (N9' _ (List.mem_of_getElem? (i := 7) rfl)).1⟩
    obtain ⟨o, eo⟩ := ea
    exact ⟨Nat.ne_of_gt lA, Nat.ne_of_gt (Nat.lt_trans lA lAH), Nat.ne_of_gt (Nat.lt_trans lA (Nat.lt_trans lAH lHD)), (fun e => by rw [e, eo] at nT; cases nT), (fun e => by rw [e, eo] at nD; cases nD)⟩
  clear F9 N9'
  k_extra "mine steps"
  rename News _ _ _ _ => N11
  rename Fr _ _ _ _ => F11
  refine hQ _ _ gs10 dr10 _ p1' p2' p3' bs AA HH DD DS TT zs bl ul shs shn nwH nwC F11 ⟨rfl, rfl, rfl, rfl, rfl, rfl, rfl, rfl, rfl, rfl, rfl, trivial⟩ (fun y h0 h1 h2 h3 => (if_neg h0).trans ((congrFun (ov_eq hm7) y).trans (hs7 y h1 h2 h3))) gb10 tri10 hp1' hp2' ?_ hbs hz10 hbl10 hsh hsl hval fun a ha => ⟨fun p hp => ?_, frs a ha⟩
  · refine newsPick N11 0 rfl (newsPick N11 1 rfl (newsPick N11 2 rfl (newsPick N11 3 rfl (newsPick N11 4 rfl ?_))))
    have NS : News g L _ (shn ++ _) := newsDrop N11 5
    have NR := newsRight NS
    refine newsPick NR 0 rfl (newsPick NR 1 rfl (newsPick NR 2 rfl (newsPick NR 3 rfl (newsPick NR 4 rfl (newsPick NR 5 rfl (newsPick NR 6 rfl (newsPick NR 7 rfl ?_)))))))
    exact newsApp (newsLeft NS) (newsDrop NR 8)
  · rcases List.mem_append.mp hp with h | hp
    · rcases ha with ha | ha | ha | ha | ha <;> rw [ha]
      · exact offS p h _ (List.mem_of_getElem? (i := 3) rfl)
      · exact offS p h _ (List.mem_of_getElem? (i := 4) rfl)
      · exact offS p h _ (List.mem_of_getElem? (i := 2) rfl)
      · exact offS p h _ (List.mem_of_getElem? (i := 8) rfl)
      · exact offS p h _ (List.mem_of_getElem? (i := 7) rfl)
    rcases List.mem_append.mp hp with h | h
    · rcases ha with ha | ha | ha | ha | ha <;> rw [ha]
      · exact offH p h _ (List.mem_of_getElem? (i := 0) rfl)
      · exact offH p h _ (List.mem_of_getElem? (i := 1) rfl)
      · exact offH p h _ (List.mem_of_getElem? (i := 2) rfl)
      · exact offH p h _ (List.mem_of_getElem? (i := 8) rfl)
      · exact offH p h _ (List.mem_of_getElem? (i := 7) rfl)
    · rcases ha with ha | ha | ha | ha | ha <;> rw [ha]
      · exact offC p h _ (List.mem_of_getElem? (i := 1) rfl)
      · exact offC p h _ (List.mem_of_getElem? (i := 0) rfl)
      · exact offC p h _ (List.mem_of_getElem? (i := 2) rfl)
      · exact offC p h _ (List.mem_of_getElem? (i := 8) rfl)
      · exact offC p h _ (List.mem_of_getElem? (i := 7) rfl)
end
end
section
open LCg (lst)
theorem newsBelow {g h : Heap} {L : Addr} {news : List (Addr × Obj)} (N : News g L h news) (x : Nat) (hx : h.objs.size ≤ x) : ∀ p ∈ news, @Ne Nat p.1 x := fun p hp => Nat.ne_of_lt (Nat.lt_of_lt_of_le (Heap.lt_size (N p hp).1) hx)
section
variable {h₀ h' : Heap} {L I C D T : Addr} {m : Str → Option Value} {s₁ : Shared} {oI oC oD oT : Obj} {S : List (Addr × Obj) → Prop} {rest : Value → List (Addr × Obj) → Prop} {y : Value} {tk : Nat} {news : List (Addr × Obj)} {P : Prop}
theorem end_new (F : Fr h₀ L h' m) (N : News h₀ L h' ((T, oT) :: (I, oI) :: (C, oC) :: (D, oD) :: news)) (l : (@LT.lt Nat _ I T) ∧ (@LT.lt Nat _ C T) ∧ (@LT.lt Nat _ D T) ∧ P) (off : LCg.Off3 I C D news) (hS : S ((T, oT) :: news)) (r : rest y ((T, oT) :: news)) :
    LCg.CompEnd h₀ L m s₁ I oI C oC D oD S rest y { s₁ with heap := h', toks := tk } :=
  LCg.CompEnd.intro F N ((T, oT) :: news) (fun p hp => by
    revert hp
    revert p
    k_extra "mine sub") ⟨⟨Nat.ne_of_gt l.1, Nat.ne_of_gt l.2.1, Nat.ne_of_gt l.2.2.1⟩, off⟩ hS r
end
section
variable {w : World} {loose : List Str} {mean : ExcName → Option Value} {mg mb : Str → Option Value} {dp un : Nat} {gd : Option (List Code)} {s : Shared} {Q : Flow → Shared → Prop} {E : Value → Shared → Prop} {g : Heap} {L : Addr} {m : Str → Option Value}
theorem segT2 (X : (hd.heap_39 w.params).In g) (T : Top topProg loose mean mg mb g) (hd' : dp + 200 < recursionLimit) (hu : un + 3000 < cLine)
    {sz : Nat} (hs8 : sz ≤ 8) {t7 wu eu : Tok} {wb eb : Array UInt8}
    {U TD AA HH DD DS TT : Addr} {tds : List Value} {due : List (Nat × Tok)} {kU : Nat} (hdl : due.length ≤ 10) (htd : tds.length ≤ 10) (hdue : ∀ q ∈ due, q.1 < 256 ^ sz) {zs : List Value} {ds : List (Array UInt8 × Tok)} {shs : List Sh} {ul : Tok}
    (F : Fr g L s.heap m) (hm : AllAt m [(Str.ofString "shares", .ref DS), (Str.ofString "draws", .ref DD), (Str.ofString "asked", .ref AA), (Str.ofString "heard", .ref HH), (Str.ofString "whole", .bytes wb wu), (Str.ofString "due", .ref U), (Str.ofString "end", .bytes eb eu)])
    {c2 c8 : Obj} {rs : List (Addr × Obj)}
    (N : News g L s.heap ((HH, lst [.ref TT]) :: (AA, lst zs) :: (DS, lst (shs.map fun q => Value.ref q.a)) :: (TT, { cls := .type "tuple", data := .seq #[.bytes eb ul, .bytes wb wu] 0 }) :: (DD, { cls := .type "list", data := .seq (bytesVals ds).toArray }) :: (U, PySem.W.listOf (due.map fun p => Value.int (p.1 : Int) p.2).toArray kU) :: (TD, lst tds) :: (L + 1 + 1 + 1 + 1 + 1 + 1 + 1 + 1, c8) :: (L + 1 + 1, c2) :: rs))
    (e2 : c2.data = .cell (some (.int (sz : Nat) t7))) (e8 : c8.data = .cell (some (.ref TD)))
    (hz : IntsAre zs (ds.map fun q => (q.1.size : Int))) (hdl2 : ds.length ≤ 10) (hds : ∀ q ∈ ds, q.1.size ≤ 1000) (hsh : ∀ q ∈ shs, ShIn rs q) (hsl : shs.length = due.length) (hval : ∀ (j : Nat) (q : Sh) (d : Nat × Tok), shs[j]? = some q → due[j]? = some d → q.x = j ∧ q.b = toB sz d.1)
    (hTD : ∀ p ∈ (HH, lst [.ref TT]) :: (AA, lst zs) :: (DS, lst (shs.map fun q => Value.ref q.a)) :: (TT, { cls := .type "tuple", data := .seq #[.bytes eb ul, .bytes wb wu] 0 }) :: (DD, { cls := .type "list", data := .seq (bytesVals ds).toArray }) :: (U, PySem.W.listOf (due.map fun p => Value.int (p.1 : Int) p.2).toArray kU) :: (L + 1 + 1 + 1 + 1 + 1 + 1 + 1 + 1, c8) :: (L + 1 + 1, c2) :: rs, @Ne Nat p.1 TD)
    (hQ : ∀ (h' : Heap) (tk : Nat), Fr g L h' m →
      News g L h' ((HH, lst [.ref TT]) :: (AA, lst zs) :: (DS, lst (shs.map fun q => Value.ref q.a)) :: (TT, { cls := .type "tuple", data := .seq #[.bytes eb ul, .bytes wb wu] 0 }) :: (DD, { cls := .type "list", data := .seq (bytesVals ds).toArray }) :: (U, PySem.W.listOf (due.map fun p => Value.int (p.1 : Int) p.2).toArray kU) :: (TD, lst (tds ++ [.ref DS])) :: (L + 1 + 1 + 1 + 1 + 1 + 1 + 1 + 1, c8) :: (L + 1 + 1, c2) :: rs) → Q .next { s with heap := h', toks := tk }) :
    wpAny (model P1 w) ((tp dp (some []) gd un).deeper (lawEnv w 247 L)) (execs (lawTurn w 247 21 3 3) (lawEnv w 247 L)) Q E s := by
  refine' turn_of ?ho ?_
  case ho => k_is
  dsimp only [List.drop, List.take, forBody]
  replace F := frOv F hm
  have hd50 : ∀ k, k ≤ 150 → dp + k < recursionLimit := upto (by assumption) 150
  have hu50 : ∀ k, k ≤ 2500 → un + k < cLine := upto (by assumption) 2500
  k_extra "mine steps"
  (refine' LCg.ListComp_U (F₀ := ?cF_1) ?c1_1 ?c2_1 ?c3_1 ?c4_1 ?c5_1 ?_; (case cF_1 => k_asm); (case c1_1 => with_unfolding_all rfl); (case c2_1 | c4_1 => decide); (case c3_1 | c5_1 => rfl))
  k_extra "mine steps"
  rename Fr _ _ _ _ => F3
  rename News _ _ _ _ => N3
  refine src_news (its := shs.map fun q => Value.ref q.a) (fun i ys news => ∃ (pl : List (Addr × Obj)) (as : List Addr), news = pl ++ _ ∧ ys = as.map Value.ref ∧ as.length = i ∧ ∀ (j : Nat) (a : Addr) (q : Sh), as[j]? = some a → shs[j]? = some q → ∃ t u, (a, ({ cls := .type "tuple", data := .seq #[.int (q.x : Int) t, .bytes q.b u] 0 } : Obj)) ∈ pl) rfl F3 N3 (by k_mem) (by rw [List.length_map, hsl]; omega) ⟨[], [], rfl, rfl, rfl, fun _ _ _ h => by simp at h⟩ (fun g => ?_) (fun g ys news hl' hJ => ?_)
  · intro i ys news v I oI C oC D m₂ h tk' E' hi' hyl p90 hP hS hC hx F4 N4 off ne
    obtain ⟨pl, as, rfl, rfl, hal, hpl⟩ := p90
    refine genQ fun QC hQC => ?_
    clear F3 N3
    obtain ⟨q, hq, rfl⟩ : ∃ q, shs[i]? = some q ∧ v = Value.ref q.a := by
      rw [List.getElem?_map, Option.map_eq_some_iff] at hP
      exact ⟨hP.choose, hP.choose_spec.1, hP.choose_spec.2.symm⟩
    have hqs : ShAt h q := (hsh q (List.mem_of_getElem? hq)).at (newsDrop (newsRight (newsDrop N4 3)) 9)
    iterate 4 walk1
    refine getx_spec ⟨X.keeps F4.keep, T.keeps F4.keep, ?_, ?_⟩ hqs rfl ⟨fun h5 tk5 e5 => ?_⟩
    · dsimp only [tp, Around.deeper]; omega
    · dsimp only [tp, Around.deeper]; omega
    replace F4 := frExt F4 e5
    replace N4 := newsExt N4 e5
    replace hqs := RawAt.keeps hqs e5
    try dsimp only
    iterate 3 walk1
    refine getd_spec (s := ⟨_, _, _, _, _⟩) ⟨X.keeps F4.keep, T.keeps F4.keep, ?_, ?_⟩ hqs rfl ⟨fun h6 tk6 e6 => ?_⟩
    · dsimp only [tp, Around.deeper]; omega
    · dsimp only [tp, Around.deeper]; omega
    replace F4 := frExt F4 e6
    replace N4 := newsExt N4 e6
    try dsimp only
    k_extra "mine steps"
    rename Fr _ _ _ _ => F5
    rename News _ _ _ _ => N5
    refine hQC _ _ ?_
    refine end_new F5 N5 (by assumption) off (.inr ⟨_, .tail _ (List.mem_append_right _ (.tail _ (.tail _ (.head _)))), rfl, _, rfl⟩) ⟨_ :: pl, as ++ [_], rfl, by rw [List.map_append]; rfl, by rw [List.length_append, hal]; rfl, fun j a q2 hj hq2 => ?_⟩
    rcases snoc_get hal _ (by have := (List.getElem?_eq_some_iff.mp hj).1; simp at this; omega : j < i + 1) with ⟨h1, h2⟩ | ⟨rfl, h2⟩
    · rw [h2] at hj
      obtain ⟨t, u, hm⟩ := hpl j a q2 hj hq2
      exact ⟨t, u, .tail _ hm⟩
    · rw [h2] at hj
      rw [hq] at hq2
      cases hj; cases hq2
      exact ⟨_, _, .head _⟩
  · obtain ⟨pl, as, rfl, rfl, hal, hpl⟩ := hJ
    intro D h tk' F4 N4 off
    clear F3 N3
    try dsimp only
    have NB := newsRight (newsDrop N4 1)
    have N5 := newsPick N4 0 rfl (newsPick NB 0 rfl (newsPick NB 1 rfl (newsPick NB 2 rfl (newsPick NB 3 rfl (newsPick NB 4 rfl (newsPick NB 5 rfl (newsPick NB 6 rfl (newsPick NB 7 rfl (newsPick NB 8 rfl (newsApp (newsLeft (newsDrop N4 1)) (newsDrop NB 9)))))))))))
    clear NB N4
    k_extra "mine steps"
    rename Fr _ _ _ _ => F5
    rename News _ _ _ _ => N5
    refine rows_led (ps := due) (n := sz) F5 N5 X T (hd50 4 (by decide)) (hu50 43 (by decide)) rfl (List.mem_of_getElem? (i := 6) rfl) hdue (by omega) (by omega) fun DR h7 tk7 bs hbs F6 N6 nDR => ?_
    dsimp only at F6 N6 nDR ⊢
    clear F5 N5
    have hbl : bs.length = due.length := by have := congrArg List.length hbs; rwa [List.length_map, List.length_map] at this
    have hlR : h7.IsList DR (bytesVals bs).toArray := isList_news N6 (.head _)
    walk1
    refine enum_make (s := ⟨_, _, _, _, _⟩) F6 N6 hlR fun e it h8 tk8 F8 N8 he hit hl8 n1 n2 n3 se si => ?_
    dsimp only at F8 N8 he hit hl8 se si ⊢
    walk1
    have q1 : (bytesVals bs).length ≤ sizeLine := by rw [bytesVals, List.length_map, hbl]; exact Nat.le_trans hdl (by rw [sizeLine_eq]; decide)
    have q2 := newsBelow N6
    have q3 : ∀ x : Nat, h7.objs.size ≤ x → @LT.lt Nat _ L x := fun x hx => Nat.lt_of_lt_of_le F6.ns.lt hx
    refine en_list (s := ⟨_, _, _, _, _⟩) (items := bytesVals bs) rfl F8 N8 he hit hl8 n1 n2 n3 q1 (q3 _ se) (q3 _ si) (q2 _ se) (q2 _ si) fun D2 h9 tk9 as2 F9 N9 lt9 hl9 has G9 => ?_
    dsimp only at F9 N9 lt9 hl9 G9 ⊢
    clear F6 N6 F8 N8 hlR he hit hl8
    refine ne_same (s := ⟨_, _, _, _, _⟩) (xs := as.map Value.ref) (ys := as2.map Value.ref) (isList_news N9 (.tail _ (.head _))) hl9 ?_ ?_ (fun j x y hx hy => ?_) ?_
    · rw [List.length_map, List.length_map, has, hal, bytesVals, List.length_map, List.length_map, hbl, hsl]
    · dsimp only [tp, Around.deeper]; omega
    · rw [List.getElem?_map, Option.map_eq_some_iff] at hx hy
      obtain ⟨a1, ha1, rfl⟩ := hx
      obtain ⟨a2, ha2, rfl⟩ := hy
      obtain ⟨t2, x2, hx2, hp2⟩ := G9.pairs j a2 ha2
      have hj1 : j < shs.length := by
        have := (List.getElem?_eq_some_iff.mp ha1).1
        rwa [hal, List.length_map] at this
      have hj2 : j < due.length := hsl ▸ hj1
      have hj3 : j < bs.length := by rw [hbl]; exact hj2
      obtain ⟨t1, u1, hp1⟩ := hpl j a1 _ ha1 (List.getElem?_eq_getElem hj1)
      have hp1n := List.mem_append_left rs hp1
      have h1 := (newsDrop N9 11 _ hp1n).1
      have hv := hval j _ _ (List.getElem?_eq_getElem hj1) (List.getElem?_eq_getElem hj2)
      have l1 := lt9 _ (List.mem_of_mem_drop (i := 11) hp1n)
      have l2 := G9.above a2 (List.mem_of_getElem? ha2)
      rw [bytesVals, List.getElem?_map, List.getElem?_eq_getElem hj3] at hx2
      have hb : (bs[j]).1 = toB sz (due[j]).1 := by
        have := congrArg (fun l => l[j]?) hbs
        simpa [List.getElem?_map, hj3, hj2] using this
      obtain ⟨hv1, hv2⟩ := hv
      rw [hv1, hv2, ← hb] at h1
      cases hx2
      exact eqAt_pair (Nat.ne_of_lt (Nat.lt_trans l1 l2)) ⟨_, h1, rfl, _, rfl⟩ ⟨_, hp2, rfl, _, rfl⟩ (by dsimp only [tp, Around.deeper]; omega) (eqAt_int _ _ _) (eqAt_bytes _ _ _)
    have N10 := newsDrop N9 2
    clear N9 G9 hl9 lt9 q2 q3 n1 n2 n3 se si nDR hbs hbl
    dsimp only [List.drop] at N10
    k_extra "mine steps"
    (refine' LCg.ListComp_U (F₀ := ?cF_2) ?c1_2 ?c2_2 ?c3_2 ?c4_2 ?c5_2 ?_; (case cF_2 => k_asm); (case c1_2 => with_unfolding_all rfl); (case c2_2 | c4_2 => decide); (case c3_2 | c5_2 => rfl))
    k_extra "mine steps"
    rename Fr _ _ _ _ => F11
    rename News _ _ _ _ => N11
    refine src_news (its := bytesVals ds) (fun i ys news => news = _ ∧ IntsAre ys ((ds.take i).map fun q => (q.1.size : Int))) rfl F11 N11 (List.mem_of_getElem? (i := 4) rfl) (by rw [bytesVals, List.length_map]; omega) ⟨rfl, .nil⟩ (fun g => ?_) (fun g ys news hl' hJ => ?_)
    · intro i ys news v I oI C oC D m₂ h tk' E' hi' hyl p90 hP hS hC hx F4 N4 off ne
      obtain ⟨rfl, hys⟩ := p90
      refine genQ fun QC hQC => ?_
      clear F11 N11
      obtain ⟨q, hq, rfl⟩ : ∃ q, ds[i]? = some q ∧ v = Value.bytes q.1 q.2 := by
        rw [bytesVals, List.getElem?_map, Option.map_eq_some_iff] at hP
        exact ⟨hP.choose, hP.choose_spec.1, hP.choose_spec.2.symm⟩
      have hq1000 := hds q (List.mem_of_getElem? hq)
      k_extra "mine steps"
      rename Fr _ _ _ _ => F5
      rename News _ _ _ _ => N5
      refine hQC _ _ ?_
      refine LCg.CompEnd.intro F5 N5 _ (fun _ hp => hp) off hS ⟨rfl, ?_⟩
      rw [List.take_add_one, hq, List.map_append]
      exact IntsAre.append hys (.cons _ _ .nil)
    · obtain ⟨rfl, hys⟩ := hJ
      rw [show (bytesVals ds).length = ds.length by rw [bytesVals, List.length_map], List.take_length] at hys
      intro D h tk' F4 N4 off
      clear F11 N11
      try dsimp only
      refine ne_ints (s := ⟨_, _, _, _, _⟩) (ys := ys) (isList_news N4 (.tail _ (.tail _ (.head _)))) (isList_news N4 (.head _)) hz hys ?_ ?_
      · dsimp only [tp, Around.deeper]; omega
      k_extra "mine steps"
      rename Fr _ _ _ _ => F5
      rename News _ _ _ _ => N5
      rename (D < _ ∧ HH < _ ∧ _) => l1
      refine ne_same (s := ⟨_, _, _, _, _⟩) (xs := [.ref TT]) (ys := [_]) ⟨_, (N5 _ (List.mem_of_getElem? (i := 3) rfl)).1, rfl, _, rfl⟩ ⟨_, (N5 _ (.head _)).1, rfl, _, rfl⟩ rfl ?_ (fun j x y hx hy => ?_) ?_
      · dsimp only [tp, Around.deeper]; omega
      · match j, hx, hy with
        | 0, hx, hy =>
          cases hx; cases hy
          exact eqAt_pair (Nat.ne_of_lt l1.2.2.2.2.1) ⟨_, (N5 _ (List.mem_of_getElem? (i := 6) rfl)).1, rfl, _, rfl⟩ ⟨_, (N5 _ (.tail _ (.head _))).1, rfl, _, rfl⟩ (by dsimp only [tp, Around.deeper]; omega) (eqAt_bytes _ _ _) (eqAt_bytes _ _ _)
        | j + 1, hx, hy => simp at hx
      have NB := newsDrop N5 3
      have N6 := newsPick NB 0 rfl (newsPick NB 1 rfl (newsPick NB 2 rfl (newsPick NB 3 rfl (newsPick NB 4 rfl (newsPick NB 5 rfl (newsPick NB 6 rfl (newsPick NB 7 rfl (newsPick NB 8 rfl (newsRight (newsDrop NB 9))))))))))
      clear NB N5 l1
      have o1 := hTD _ (List.mem_of_getElem? (i := 0) rfl)
      have o2 := hTD _ (List.mem_of_getElem? (i := 1) rfl)
      have o3 := hTD _ (List.mem_of_getElem? (i := 2) rfl)
      have o4 := hTD _ (List.mem_of_getElem? (i := 3) rfl)
      have o5 := hTD _ (List.mem_of_getElem? (i := 4) rfl)
      have o6 := hTD _ (List.mem_of_getElem? (i := 5) rfl)
      have o7 := hTD _ (List.mem_of_getElem? (i := 6) rfl)
      have o8 := hTD _ (List.mem_of_getElem? (i := 7) rfl)
      have o9 : ∀ p ∈ rs, @Ne Nat p.1 TD := fun p hp => hTD p (List.mem_of_mem_drop (i := 8) hp)
      dsimp only at o1 o2 o3 o4 o5 o6 o7 o8
      try dsimp only
      clear off
      k_extra "mine steps"
      rename Fr _ _ _ _ => F7
      rename News _ _ _ _ => N7
      rw [ov_eq hm] at F7
      rw [show PySem.W.listOf (tds.toArray.push (Value.ref DS)) (tds.length + 1) = lst (tds ++ [Value.ref DS]) from LCg.lst_snoc tds _] at N7
      exact hQ _ _ F7 N7
end
end
section
open LCg (lst)
section
variable {M : Model} {w : World} {A : Around} {s : Shared} {E : Value → Shared → Prop} {Q : Flow → Shared → Prop} {name qual : Str} {params : Arguments} {body : List Stmt} {scope : Scope} {dV kV doc pm cdv ct oc : Value} {an od : Option Addr} {osl : Array (Option Value)} {f L : Addr} {i : Nat}
theorem turn_all (ho : (hd.heap_39 w.params).lookup f = some ⟨oc, od, .func (fnOf name qual params body scope dV kV doc pm an cdv ct), osl⟩) (hl : (forBody ((body.drop i).take 1)).length ≤ 6)
    (h : wpAny M A (execs (lawTurn w f i 0 3) (lawEnv w f L)) (fun fl s' => match fl with | .next => wpAny M A (execs (lawTurn w f i 3 3) (lawEnv w f L)) Q E s' | f => Q f s') E s) : wpAny M A (execs (forBody (lawSeg w f i 1)) (lawEnv w f L)) Q E s := by
  have e : forBody (lawSeg w f i 1) = lawTurn w f i 0 3 ++ lawTurn w f i 3 3 := by
    have hb : forBody (lawSeg w f i 1) = forBody ((body.drop i).take 1) := by unfold lawSeg lawBody; rw [law_is ho]
    unfold lawTurn
    rw [hb, List.drop_zero, List.take_of_length_le (l := List.drop 3 _) (by rw [List.length_drop]; omega), List.take_append_drop]
  rw [e]
  exact execs_app h
end
theorem AllAt.mem {m : Str → Option Value} : ∀ {l : List (Str × Value)}, AllAt m l → ∀ q ∈ l, m q.1 = some q.2
  | _ :: _, h, _, hq => by
    rcases List.mem_cons.mp hq with rfl | hq
    · exact h.1
    · exact AllAt.mem h.2 _ hq
theorem AllAt.sub {m : Str → Option Value} {l : List (Str × Value)} (h : AllAt m l) : ∀ {l' : List (Str × Value)}, (∀ q ∈ l', q ∈ l) → AllAt m l'
  | [], _ => trivial
  | q :: _, k => ⟨h.mem q (k q (.head _)), AllAt.sub h fun p hp => k p (.tail _ hp)⟩
theorem AllAt.of_eq {m m' : Str → Option Value} : ∀ {l : List (Str × Value)}, AllAt m l → (∀ q ∈ l, m' q.1 = m q.1) → AllAt m' l
  | [], _, _ => trivial
  | q :: l, ⟨h1, h2⟩, h => ⟨(h q (.head _)).trans h1, AllAt.of_eq h2 fun p hp => h p (.tail _ hp)⟩
theorem shIn_ext {a b : List (Addr × Obj)} {q : Sh} (x : ShIn a q) : ShIn (a ++ b) q := x.mono fun p hp => List.mem_append_left _ hp
section
variable {w : World} {loose : List Str} {mean : ExcName → Option Value} {mg mb : Str → Option Value} {dp un : Nat} {gd : Option (List Code)} {s : Shared} {Q : Flow → Shared → Prop} {E : Value → Shared → Prop} {g : Heap} {L : Addr} {m : Str → Option Value}
theorem segT (X : (hd.heap_39 w.params).In g) (T : Top topProg loose mean mg mb g) (hd' : dp + 200 < recursionLimit) (hu : un + 3000 < cLine) (C1 : CodeHd g 229 225) (C2 : CodeHd g 236 232) (C3 : CodeHd g 154 150)
    {th cn sz : Nat} (hth2 : 2 ≤ th) (hth4 : th ≤ 4) (hcn : cn ≤ 10) (htc : th ≤ cn) (hs4 : 4 ≤ sz) (hs8 : sz ≤ 8) {t1 t2 t4 t7 wu eu au : Tok} {ky : Int} (hky : Builtin.Int.intBits ky ≤ 1048576) {wb eb ab : Array UInt8} (hwb : wb.size = sz) (heb : eb.size = sz - 4) (hab : ab.size ≤ 1000) (hab4 : ab.size = 0 ∨ 4 ≤ ab.size)
    {U TD I : Addr} {oI : Obj} {due : List (Nat × Tok)} {kU : Nat} (hdl : due.length = cn) (hdue : ∀ q ∈ due, q.1 < 256 ^ sz) {tds : List Value} (htd : tds.length ≤ 10)
    (F : Fr g L s.heap m) (hm : AllAt m [(Str.ofString "threshold", .int (th : Nat) t1), (Str.ofString "count", .int (cn : Nat) t2), (Str.ofString "key", .int ky t4), (Str.ofString "whole", .bytes wb wu), (Str.ofString "due", .ref U), (Str.ofString "end", .bytes eb eu), (Str.ofString "answer", .bytes ab au)])
    {c2 c8 : Obj} {p1 p2 p3 : Array Value} {rs : List (Addr × Obj)}
    (N : News g L s.heap ((U, PySem.W.listOf (due.map fun p => Value.int (p.1 : Int) p.2).toArray kU) :: (I, oI) :: (TD, lst tds) :: (L + 1 + 1 + 1 + 1 + 1 + 1 + 1 + 1, c8) :: (L + 1 + 1, c2) :: (232, tabObj p1) :: (225, tabObj p2) :: (150, tabObj p3) :: rs))
    (e2 : c2.data = .cell (some (.int (sz : Nat) t7))) (e8 : c8.data = .cell (some (.ref TD)))
    (offs : ∀ a : Nat, a = 232 ∨ a = 225 ∨ a = 150 → ∀ p ∈ (U, PySem.W.listOf (due.map fun p => Value.int (p.1 : Int) p.2).toArray kU) :: (I, oI) :: (TD, lst tds) :: (L + 1 + 1 + 1 + 1 + 1 + 1 + 1 + 1, c8) :: (L + 1 + 1, c2) :: rs, @Ne Nat p.1 a)
    (offT : ∀ p ∈ (U, PySem.W.listOf (due.map fun p => Value.int (p.1 : Int) p.2).toArray kU) :: (I, oI) :: (L + 1 + 1 + 1 + 1 + 1 + 1 + 1 + 1, c8) :: (L + 1 + 1, c2) :: rs, @Ne Nat p.1 TD)
    {ob1 ob2 : List (Addr × Obj)} (ho1 : ∀ p ∈ ob1, p ∈ rs) (ho2 : ∀ p ∈ ob2, p ∈ rs) (hp1 : TabOk 177 4 (Str.ofString "_law_hmac.<locals>.tell") p1 ob1) (hp2 : TabOk 171 4 (Str.ofString "_law_chance.<locals>.draw") p2 ob2) (hp3 : TriplesOk p3.toList)
    (hrow : ∀ ds : List (Array UInt8 × Tok), ds.map (·.1) = ((due.take (th - 2)).map fun q => toB sz q.1) ++ [eb] → ∀ (j : Nat) (d : Nat × Tok), due[j]? = some d → splitRow th ds (cutT 4 (ansF ky ab eb wb) ++ eb) wb j = toB sz d.1)
    (hQ : ∀ (h' : Heap) (tk : Nat) (gs : Array GenState) (dr : Drawn) (m' : Str → Option Value) (p1' p2' p3' : Array Value) (DS : Addr) (shs : List Sh) (shn nwH nwC : List (Addr × Obj)), Fr g L h' m' →
      (∀ y, y ≠ Str.ofString "shares" → y ≠ Str.ofString "draws" → y ≠ Str.ofString "asked" → y ≠ Str.ofString "heard" → m' y = m y) → GB s.gens gs → TriplesOk p3'.toList → TabOk 177 4 (Str.ofString "_law_hmac.<locals>.tell") p1' (nwH ++ ob1) → TabOk 171 4 (Str.ofString "_law_chance.<locals>.draw") p2' (nwC ++ ob2) →
      News g L h' ((I, oI) :: (TD, lst (tds ++ [.ref DS])) :: (232, tabObj p1') :: (225, tabObj p2') :: (150, tabObj p3') :: (DS, lst (shs.map fun q => Value.ref q.a)) :: (L + 1 + 1 + 1 + 1 + 1 + 1 + 1 + 1, c8) :: (L + 1 + 1, c2) :: (shn ++ (nwH ++ (nwC ++ rs)))) →
      (∀ q ∈ shs, ShIn shn q) → shs.length = cn → (∀ (j : Nat) (q : Sh) (d : Nat × Tok), shs[j]? = some q → due[j]? = some d → q.x = j ∧ q.b = toB sz d.1) →
      (∀ a : Nat, a = 232 ∨ a = 225 ∨ a = 150 ∨ a = TD ∨ a = I → (∀ p ∈ shn ++ (nwH ++ nwC), @Ne Nat p.1 a) ∧ DS ≠ a) → Q .next { s with heap := h', toks := tk, gens := gs, drawn := dr }) :
    wpAny (model P1 w) ((tp dp (some []) gd un).deeper (lawEnv w 247 L)) (execs (forBody (lawSeg w 247 21 1)) (lawEnv w 247 L)) Q E s := by
  refine' turn_all ?ho ?hl ?_
  case ho => k_is
  case hl => decide
  refine segT1 X T hd' hu C1 C2 C3 hth2 hth4 hcn htc hs4 hs8 hky hwb heb hab hab4 hdl hdue F hm N e2 e8 offs ho1 ho2 hp1 hp2 hp3 fun h' tk gs dr m' p1' p2' p3' bs AA HH DD DS TT zs bl ul shs shn nwH nwC F1 hm1 hs1 gb tri hp1' hp2' N1 hbs hz hbl hsh hsl hval hoff => ?_
  try dsimp only
  have hbsl : bs.length = th - 2 := by
    have := congrArg List.length hbs
    rw [List.length_map, List.length_map, List.length_take, hdl] at this
    exact this.trans (Nat.min_eq_left (Nat.le_trans (Nat.sub_le _ _) htc))
  rw [List.getElem?_append_right (Nat.le_of_eq hbsl), hbsl, Nat.sub_self] at hbl
  obtain ⟨rfl, rfl⟩ : eb = bl ∧ eu = ul := by cases hbl; exact ⟨rfl, rfl⟩
  have hdsm : (bs ++ [(eb, eu)]).map (·.1) = ((due.take (th - 2)).map fun q => toB sz q.1) ++ [eb] := by rw [List.map_append, hbs]; rfl
  have hdz : ∀ q ∈ bs ++ [(eb, eu)], q.1.size ≤ 1000 := by
    intro q hq
    rcases List.mem_append.mp hq with hq | hq
    · have : q.1 ∈ bs.map (·.1) := List.mem_map_of_mem hq
      rw [hbs] at this
      obtain ⟨d, _, e⟩ := List.mem_map.mp this
      rw [← e, toB_size]; exact Nat.le_trans hs8 (by decide)
    · rw [List.mem_singleton.mp hq]; show eb.size ≤ 1000; exact Nat.le_trans (Nat.le_of_eq heb) (Nat.le_trans (Nat.sub_le _ _) (Nat.le_trans hs8 (by decide)))
  have hzs : IntsAre zs ((bs ++ [(eb, eu)]).map fun q => (q.1.size : Int)) := by
    rw [hwb] at hz
    have e : (bs ++ [(eb, eu)]).map (fun q => (q.1.size : Int)) = List.replicate (th - 2) (sz : Int) ++ [((sz - 4 : Nat) : Int)] := by
      rw [List.map_append]
      congr 1
      · have e1 : bs.map (fun q => (q.1.size : Int)) = (bs.map (·.1)).map fun b => (b.size : Int) := by rw [List.map_map]; rfl
        rw [e1, hbs, List.map_map]
        refine List.eq_replicate_iff.mpr ⟨by rw [List.length_map, List.length_take, hdl]; exact Nat.min_eq_left (Nat.le_trans (Nat.sub_le _ _) htc), fun b hb => ?_⟩
        obtain ⟨d, _, rfl⟩ := List.mem_map.mp hb
        show ((toB sz d.1).size : Int) = _
        rw [toB_size]
      · show [((eb.size : Nat) : Int)] = _
        rw [heb]
    rw [e]; exact hz
  have hvl : ∀ (j : Nat) (q : Sh) (d : Nat × Tok), shs[j]? = some q → due[j]? = some d → q.x = j ∧ q.b = toB sz d.1 := by
    intro j q d hq hd
    obtain ⟨h1, h2⟩ := hval j q hq
    exact ⟨h1, h2.trans (hrow _ hdsm j d hd)⟩
  obtain ⟨k1, k2, k3, k4, k5⟩ := (hoff TD (.inr (.inr (.inr (.inl rfl))))).2
  have N2 : News g L h' ((HH, lst [.ref TT]) :: (AA, lst zs) :: (DS, lst (shs.map fun q => Value.ref q.a)) :: (TT, { cls := .type "tuple", data := .seq #[.bytes eb eu, .bytes wb wu] 0 }) :: (DD, { cls := .type "list", data := .seq (bytesVals (bs ++ [(eb, eu)])).toArray }) :: (U, PySem.W.listOf (due.map fun p => Value.int (p.1 : Int) p.2).toArray kU) :: (TD, lst tds) :: (L + 1 + 1 + 1 + 1 + 1 + 1 + 1 + 1, c8) :: (L + 1 + 1, c2) :: ((232, tabObj p1') :: (225, tabObj p2') :: (150, tabObj p3') :: (I, oI) :: (shn ++ (nwH ++ (nwC ++ rs))))) :=
    newsPick N1 0 rfl (newsPick N1 1 rfl (newsPick N1 3 rfl (newsPick N1 4 rfl (newsPick N1 7 rfl (newsPick N1 8 rfl (newsPick N1 10 rfl (newsPick N1 11 rfl (newsPick N1 12 rfl (newsPick N1 5 rfl (newsPick N1 6 rfl (newsPick N1 2 rfl (newsPick N1 9 rfl (newsDrop N1 13)))))))))))))
  refine segT2 (s := ⟨_, _, _, _, _⟩) X T hd' hu (sz := sz) (eu := eu) hs8 (tds := tds) (by omega) htd hdue F1 ?_ N2 e2 e8 hzs (by simp; omega) hdz (fun q hq => ?_) (by omega) hvl ?_ fun h2 tk2 F3 N3 => ?_
  · exact hm1.sub (by k_extra "mine sub")
  · exact (hsh q hq).mono fun p hp => .tail _ (.tail _ (.tail _ (.tail _ (List.mem_append_left _ hp))))
  · have o := fun i (q : Addr × Obj) e => offT q (List.mem_of_getElem? (i := i) e)
    have o' := fun a h => offs a h (TD, lst tds) (.tail _ (.tail _ (.head _)))
    have ot := (hoff TD (.inr (.inr (.inr (.inl rfl))))).1
    refine fmc k2 ((fmc k1 ((fmc k5 ((fmc k4 ((fmc k3 ?_))))))))
    refine fmc (o 0 _ rfl) ((fmc (o 2 _ rfl) ((fmc (o 3 _ rfl) ?_))))
    refine fmc ((o' 232 (.inl rfl)).symm) ((fmc ((o' 225 (.inr (.inl rfl))).symm) ((fmc ((o' 150 (.inr (.inr rfl))).symm) ((fmc (o 1 _ rfl) ?_))))))
    exact fma (fun p hp => ot p (List.mem_append_left _ hp)) ((fma (fun p hp => ot p (List.mem_append_right _ (List.mem_append_left _ hp))) ((fma (fun p hp => ot p (List.mem_append_right _ (List.mem_append_right _ hp))) (fun p hp => offT p (List.mem_of_mem_drop (i := 4) hp))))))
  · refine hQ h2 tk2 gs dr m' p1' p2' p3' DS shs shn nwH nwC F3 hs1 gb tri hp1' hp2' ?_ hsh hsl hvl fun a ha => ⟨(hoff a ha).1, (hoff a ha).2.2.2.2.2⟩
    exact newsPick N3 12 rfl (newsPick N3 6 rfl (newsPick N3 9 rfl (newsPick N3 10 rfl (newsPick N3 11 rfl (newsPick N3 2 rfl (newsPick N3 7 rfl (newsPick N3 8 rfl (newsDrop N3 13))))))))
end
end
section
open LCg (lst)
theorem newsCons {g h : Heap} {L : Addr} {l : List (Addr × Obj)} {p : Addr × Obj} (x : h.get? p.1 = some p.2 ∧ @Ne Nat p.1 L ∧ g.get? p.1 = none) (N : News g L h l) : News g L h (p :: l) := fun q hq => by
  rcases List.mem_cons.mp hq with rfl | hq
  · exact x
  · exact N q hq
theorem frName {g h : Heap} {L : Addr} {m : Str → Option Value} (F : Fr g L h m) (P : (Str → Option Value) → Prop) (hp : P m) : ∃ m₂, P m₂ ∧ Fr g L h m₂ := ⟨m, hp, F⟩
def TellAt (cn sz : Nat) (due : List (Nat × Tok)) (rs : List (Addr × Obj)) (e : Addr × List Sh) : Prop :=
  (e.1, lst (e.2.map fun q => Value.ref q.a)) ∈ rs ∧ (∀ q ∈ e.2, ShIn rs q) ∧ e.2.length = cn ∧ ∀ (j : Nat) (q : Sh) (d : Nat × Tok), e.2[j]? = some q → due[j]? = some d → q.x = j ∧ q.b = toB sz d.1
theorem TellAt.mono {cn sz : Nat} {due : List (Nat × Tok)} {rs rs' : List (Addr × Obj)} {e : Addr × List Sh} (x : TellAt cn sz due rs e) (k : ∀ p ∈ rs, p ∈ rs') : TellAt cn sz due rs' e :=
  ⟨k _ x.1, fun q hq => (x.2.1 q hq).mono k, x.2.2⟩
theorem allLt_at {g h : Heap} {L d : Addr} {p : Addr × Obj} {l : List (Addr × Obj)} (_ : News g L h (p :: l)) (x : AllLt d l) : ∀ q ∈ l, @LT.lt Nat _ q.1 d := allLt_mem x
inductive TellJ (L TD : Addr) (c8 c2 : Obj) (keep : List (Str × Value)) (base : List (Addr × Obj)) (gs₀ : Array GenState) (cn sz : Nat) (due : Nat → List (Nat × Tok)) (i : Nat) (m₁ : Str → Option Value) (n₁ : List (Addr × Obj)) (gs : Array GenState) (dr : Drawn) : Prop
  | mk (dl : List (Addr × List Sh)) (p1 p2 p3 : Array Value) (ob1 ob2 rs : List (Addr × Obj)) (a1 : n₁ = (TD, lst (dl.map fun e => Value.ref e.1)) :: (232, tabObj p1) :: (225, tabObj p2) :: (150, tabObj p3) :: (L + 1 + 1 + 1 + 1 + 1 + 1 + 1 + 1, c8) :: (L + 1 + 1, c2) :: rs)
    (a2 : AllAt m₁ keep) (a3 : GB gs₀ gs) (a4 : ∀ p ∈ base, p ∈ rs) (a5 : TabOk 177 4 (Str.ofString "_law_hmac.<locals>.tell") p1 ob1) (a6 : TabOk 171 4 (Str.ofString "_law_chance.<locals>.draw") p2 ob2) (a7 : TriplesOk p3.toList) (a8 : ∀ p ∈ ob1, p ∈ rs) (a9 : ∀ p ∈ ob2, p ∈ rs)
    (a10 : ∀ a : Nat, a = 232 ∨ a = 225 ∨ a = 150 ∨ a = TD → ∀ p ∈ (L + 1 + 1 + 1 + 1 + 1 + 1 + 1 + 1, c8) :: (L + 1 + 1, c2) :: rs, @Ne Nat p.1 a) (a11 : ∀ a : Nat, a = 232 ∨ a = 225 ∨ a = 150 → @Ne Nat TD a) (a12 : dl.length = i) (a13 : ∀ (k : Nat) (e : Addr × List Sh), dl[k]? = some e → TellAt cn sz (due k) rs e)
inductive TellT (sz cn th : Nat) (ky : Int) (op tw : List (Nat × Tok)) (rs : List (Addr × Obj)) (i : Nat) (v : Value) : Prop
  | mk (Ti : Addr) (wb : Array UInt8) (wu : Tok) (U : Addr) (kU : Nat) (due : List (Nat × Tok)) (eb : Array UInt8) (eu : Tok) (ab : Array UInt8) (au : Tok) (a1 : v = .ref Ti) (a2 : (Ti, ({ cls := .type "tuple", data := .seq #[.bytes wb wu, .ref U, .bytes eb eu, .bytes ab au] 0 } : Obj)) ∈ rs)
    (a3 : (U, PySem.W.listOf (due.map fun p => Value.int (p.1 : Int) p.2).toArray kU) ∈ rs) (a4 : due = (if i = 0 then op else tw)) (a5 : wb.size = sz) (a6 : eb.size = sz - 4) (a7 : ab.size ≤ 1000) (a8 : ab.size = 0 ∨ 4 ≤ ab.size) (a9 : ∀ q ∈ due, q.1 < 256 ^ sz) (a10 : due.length = cn)
    (a11 : ∀ ds : List (Array UInt8 × Tok), ds.map (·.1) = ((due.take (th - 2)).map fun q => toB sz q.1) ++ [eb] → ∀ (j : Nat) (d : Nat × Tok), due[j]? = some d → splitRow th ds (cutT 4 (ansF ky ab eb wb) ++ eb) wb j = toB sz d.1)
section
variable {w : World} {loose : List Str} {mean : ExcName → Option Value} {mg mb : Str → Option Value} {dp un : Nat} {gd : Option (List Code)} {s : Shared} {Q : Flow → Shared → Prop} {g : Heap} {L : Addr} {m : Str → Option Value}
theorem segD (X : (hd.heap_39 w.params).In g) (T : Top topProg loose mean mg mb g) (hd' : dp + 200 < recursionLimit) (hu : un + 3000 < cLine) (C1 : CodeHd g 229 225) (C2 : CodeHd g 236 232) (C3 : CodeHd g 154 150)
    {th cn kn sz : Nat} (hth2 : 2 ≤ th) (hth4 : th ≤ 4) (hcn : cn ≤ 10) (htc : th ≤ cn) (hs4 : 4 ≤ sz) (hs8 : sz ≤ 8) {t1 t2 t3 t4 t6 t7 t13 t14 u0 u1 : Tok} {ky : Int} (hky : Builtin.Int.intBits ky ≤ 1048576) {pt forced other w0 w1 : Array UInt8}
    (hw0 : w0.size = sz) (hw1 : w1.size = sz) (hpt : pt.size = sz - 4) (hot : other.size = sz - 4) (hfs : forced.size ≤ 1000) (hf4 : forced.size = 0 ∨ 4 ≤ forced.size)
    {R W O D : Addr} {op tw : List (Nat × Tok)} {kD : Nat} (hopl : op.length = cn) (htwl : tw.length = cn) (hop : ∀ q ∈ op, q.1 < 256 ^ sz) (htw : ∀ q ∈ tw, q.1 < 256 ^ sz)
    (F : Fr g L s.heap m) (hm : AllAt m [(Str.ofString "threshold", .int (th : Nat) t1), (Str.ofString "count", .int (cn : Nat) t2), (Str.ofString "known", .int (kn : Nat) t3), (Str.ofString "key", .int ky t4), (Str.ofString "part", .bytes pt t6), (Str.ofString "rest", .ref R), (Str.ofString "wholes", .ref W), (Str.ofString "one", .ref O), (Str.ofString "forced", .bytes forced t13), (Str.ofString "other", .bytes other t14), (Str.ofString "two", .ref D)])
    {c2 c8 : Obj} {v8 : Option Value} {p1 p2 p3 : Array Value} {rest : List (Addr × Obj)}
    (N : News g L s.heap ((D, PySem.W.listOf (tw.map fun p => Value.int (p.1 : Int) p.2).toArray kD) :: (O, lst (op.map fun p => Value.int (p.1 : Int) p.2)) :: (W, lst (bytesVals [(w0, u0), (w1, u1)])) :: (L + 1 + 1 + 1 + 1 + 1 + 1 + 1 + 1, c8) :: (L + 1 + 1, c2) :: (232, tabObj p1) :: (225, tabObj p2) :: (150, tabObj p3) :: rest))
    (e2 : c2.data = .cell (some (.int (sz : Nat) t7))) (e8 : c8.data = .cell v8)
    (hr8 : ∀ p ∈ (D, PySem.W.listOf (tw.map fun p => Value.int (p.1 : Int) p.2).toArray kD) :: (O, lst (op.map fun p => Value.int (p.1 : Int) p.2)) :: (W, lst (bytesVals [(w0, u0), (w1, u1)])) :: (L + 1 + 1, c2) :: (232, tabObj p1) :: (225, tabObj p2) :: (150, tabObj p3) :: rest, @Ne Nat p.1 (L + 1 + 1 + 1 + 1 + 1 + 1 + 1 + 1))
    (offs : ∀ a : Nat, a = 232 ∨ a = 225 ∨ a = 150 → ∀ p ∈ (D, PySem.W.listOf (tw.map fun p => Value.int (p.1 : Int) p.2).toArray kD) :: (O, lst (op.map fun p => Value.int (p.1 : Int) p.2)) :: (W, lst (bytesVals [(w0, u0), (w1, u1)])) :: (L + 1 + 1 + 1 + 1 + 1 + 1 + 1 + 1, c8) :: (L + 1 + 1, c2) :: rest, @Ne Nat p.1 a)
    {ob1 ob2 : List (Addr × Obj)} (ho1 : ∀ p ∈ ob1, p ∈ rest) (ho2 : ∀ p ∈ ob2, p ∈ rest) (hp1 : TabOk 177 4 (Str.ofString "_law_hmac.<locals>.tell") p1 ob1) (hp2 : TabOk 171 4 (Str.ofString "_law_chance.<locals>.draw") p2 ob2) (hp3 : TriplesOk p3.toList)
    (hrow0 : ∀ ds : List (Array UInt8 × Tok), ds.map (·.1) = ((op.take (th - 2)).map fun q => toB sz q.1) ++ [pt] → ∀ (j : Nat) (d : Nat × Tok), op[j]? = some d → splitRow th ds (cutT 4 (ansF ky #[] pt w0) ++ pt) w0 j = toB sz d.1)
    (hrow1 : ∀ ds : List (Array UInt8 × Tok), ds.map (·.1) = ((tw.take (th - 2)).map fun q => toB sz q.1) ++ [other] → ∀ (j : Nat) (d : Nat × Tok), tw[j]? = some d → splitRow th ds (cutT 4 (ansF ky forced other w1) ++ other) w1 j = toB sz d.1)
    (hQ : ∀ (h' : Heap) (tk : Nat) (gs : Array GenState) (dr : Drawn) (m' : Str → Option Value) (c8' : Obj) (TD : Addr) (n₁ : List (Addr × Obj)), Fr g L h' m' → News g L h' n₁ → c8'.data = .cell (some (.ref TD)) →
      TellJ L TD c8' c2 [(Str.ofString "threshold", .int (th : Nat) t1), (Str.ofString "count", .int (cn : Nat) t2), (Str.ofString "known", .int (kn : Nat) t3), (Str.ofString "key", .int ky t4), (Str.ofString "part", .bytes pt t6), (Str.ofString "rest", .ref R), (Str.ofString "wholes", .ref W), (Str.ofString "forced", .bytes forced t13), (Str.ofString "other", .bytes other t14)] ((W, lst (bytesVals [(w0, u0), (w1, u1)])) :: rest) s.gens cn sz (fun k => if k = 0 then op else tw) 2 m' n₁ gs dr → Q .next { s with heap := h', toks := tk, gens := gs, drawn := dr }) :
    wpAny (model P1 w) ((tp dp (some []) gd un).deeper (lawEnv w 247 L)) (execs (lawSeg w 247 20 2) (lawEnv w 247 L)) Q (fun _ _ => False) s := by
  refine' seg_of ?ho ?_
  case ho => k_is
  dsimp only [List.drop, List.take]
  replace F := frOv F hm
  have r1 := hr8 _ (List.mem_of_getElem? (i := 0) rfl)
  have r2 := hr8 _ (List.mem_of_getElem? (i := 1) rfl)
  have r3 := hr8 _ (List.mem_of_getElem? (i := 2) rfl)
  have r4 := hr8 _ (List.mem_of_getElem? (i := 3) rfl)
  have r5 := hr8 _ (List.mem_of_getElem? (i := 4) rfl)
  have r6 := hr8 _ (List.mem_of_getElem? (i := 5) rfl)
  have r7 := hr8 _ (List.mem_of_getElem? (i := 6) rfl)
  have r8 : ∀ p ∈ rest, @Ne Nat p.1 (L + 1 + 1 + 1 + 1 + 1 + 1 + 1 + 1) := fun p hp => hr8 p (List.mem_of_mem_drop (i := 7) hp)
  dsimp only at r1 r2 r3 r4 r5 r6 r7
  k_extra "mine steps"
  refine for_on ?_
  k_extra "mine steps"
  rename News _ _ _ _ => N3
  refine item_news (i := 0) N3 (List.mem_of_getElem? (i := 3) rfl) rfl (by decide) rfl ?_
  k_extra "mine steps"
  rename News _ _ _ _ => N4
  refine item_news (i := 1) N4 (List.mem_of_getElem? (i := 4) rfl) rfl (by decide) rfl ?_
  k_extra "mine steps"
  rename News _ _ _ _ => N5
  rename Fr _ _ _ _ => F5
  rename_i TD h1 lTD h2 c8' d8 T1 h3 lT1 T2 h4 lT2 TP h5 lTP
  have offs' : ∀ a : Nat, a = 232 ∨ a = 225 ∨ a = 150 ∨ a = TD → ∀ p ∈ (L + 1 + 1 + 1 + 1 + 1 + 1 + 1 + 1, c8') :: (L + 1 + 1, c2) :: (TP, ({ cls := .type "tuple", data := .seq #[.ref T1, .ref T2] 0 } : Obj)) :: (T2, { cls := .type "tuple", data := .seq #[.bytes w1 u1, .ref D, .bytes other t14, .bytes forced t13] 0 }) :: (T1, { cls := .type "tuple", data := .seq #[.bytes w0 u0, .ref O, .bytes pt t6, .bytes #[] (s.toks + 1)] 0 }) :: (D, PySem.W.listOf (tw.map fun p => Value.int (p.1 : Int) p.2).toArray kD) :: (O, lst (op.map fun p => Value.int (p.1 : Int) p.2)) :: (W, lst (bytesVals [(w0, u0), (w1, u1)])) :: rest, @Ne Nat p.1 a := by
    have vP := allLt_at N5 lTP
    have v2 := allLt_at (newsDrop N5 1) lT2
    have v1 := allLt_at (newsDrop N5 2) lT1
    have vT := allLt_at (newsDrop N5 3) lTD
    have key : ∀ a : Nat, a = 232 ∨ a = 225 ∨ a = 150 → @LT.lt Nat _ a TP ∧ @LT.lt Nat _ a T2 ∧ @LT.lt Nat _ a T1 := by
      rintro a (rfl | rfl | rfl)
      · exact ⟨vP _ (List.mem_of_getElem? (i := 8) rfl), v2 _ (List.mem_of_getElem? (i := 7) rfl), v1 _ (List.mem_of_getElem? (i := 6) rfl)⟩
      · exact ⟨vP _ (List.mem_of_getElem? (i := 9) rfl), v2 _ (List.mem_of_getElem? (i := 8) rfl), v1 _ (List.mem_of_getElem? (i := 7) rfl)⟩
      · exact ⟨vP _ (List.mem_of_getElem? (i := 10) rfl), v2 _ (List.mem_of_getElem? (i := 9) rfl), v1 _ (List.mem_of_getElem? (i := 8) rfl)⟩
    intro a ha
    by_cases ht : a = TD
    · rw [ht]
      exact fmc (Nat.ne_of_lt (vT _ (List.mem_of_getElem? (i := 3) rfl))) ((fmc (Nat.ne_of_lt (vT _ (List.mem_of_getElem? (i := 4) rfl))) ((fmc (Nat.ne_of_gt (vP _ (List.mem_of_getElem? (i := 2) rfl))) ((fmc (Nat.ne_of_gt (v2 _ (List.mem_of_getElem? (i := 1) rfl))) ((fmc (Nat.ne_of_gt (v1 _ (List.mem_of_getElem? (i := 0) rfl))) ((fmc (Nat.ne_of_lt (vT _ (List.mem_of_getElem? (i := 0) rfl))) ((fmc (Nat.ne_of_lt (vT _ (List.mem_of_getElem? (i := 1) rfl))) ((fmc (Nat.ne_of_lt (vT _ (List.mem_of_getElem? (i := 2) rfl))) (fun p hp => Nat.ne_of_lt (vT p (List.mem_of_mem_drop (i := 8) hp)))))))))))))))))
    · have ha' : a = 232 ∨ a = 225 ∨ a = 150 := by
        rcases ha with h | h | h | h
        · exact .inl h
        · exact .inr (.inl h)
        · exact .inr (.inr h)
        · exact absurd h ht
      have o := offs a ha'
      have k := key a ha'
      exact fmc (o (_, c8) (List.mem_of_getElem? (i := 3) rfl)) ((fmc (o (_, c2) (List.mem_of_getElem? (i := 4) rfl)) ((fmc (Nat.ne_of_gt k.1) ((fmc (Nat.ne_of_gt k.2.1) ((fmc (Nat.ne_of_gt k.2.2) ((fmc (o _ (List.mem_of_getElem? (i := 0) rfl)) ((fmc (o _ (List.mem_of_getElem? (i := 1) rfl)) ((fmc (o _ (List.mem_of_getElem? (i := 2) rfl)) (fun p hp => o p (List.mem_of_mem_drop (i := 5) hp))))))))))))))))
  have oT : ∀ a : Nat, a = 232 ∨ a = 225 ∨ a = 150 → @Ne Nat TD a := by
    have vT := allLt_at (newsDrop N5 3) lTD
    rintro a (rfl | rfl | rfl)
    · exact Nat.ne_of_gt (vT _ (List.mem_of_getElem? (i := 5) rfl))
    · exact Nat.ne_of_gt (vT _ (List.mem_of_getElem? (i := 6) rfl))
    · exact Nat.ne_of_gt (vT _ (List.mem_of_getElem? (i := 7) rfl))
  clear lTD lT1 lT2 lTP
  rw [ov_eq hm] at F5
  have N6 := newsPick N5 3 rfl (newsPick N5 9 rfl (newsPick N5 10 rfl (newsPick N5 11 rfl (newsPick N5 7 rfl (newsPick N5 8 rfl (newsPick N5 0 rfl (newsPick N5 1 rfl (newsPick N5 2 rfl (newsPick N5 4 rfl (newsPick N5 5 rfl (newsPick N5 6 rfl (newsDrop N5 12))))))))))))
  clear N5
  refine loop_tuple (items := [.ref T1, .ref T2]) (TellJ L TD c8' c2 [(Str.ofString "threshold", .int (th : Nat) t1), (Str.ofString "count", .int (cn : Nat) t2), (Str.ofString "known", .int (kn : Nat) t3), (Str.ofString "key", .int ky t4), (Str.ofString "part", .bytes pt t6), (Str.ofString "rest", .ref R), (Str.ofString "wholes", .ref W), (Str.ofString "forced", .bytes forced t13), (Str.ofString "other", .bytes other t14)] ((TP, { cls := .type "tuple", data := .seq #[.ref T1, .ref T2] 0 }) :: (T2, { cls := .type "tuple", data := .seq #[.bytes w1 u1, .ref D, .bytes other t14, .bytes forced t13] 0 }) :: (T1, { cls := .type "tuple", data := .seq #[.bytes w0 u0, .ref O, .bytes pt t6, .bytes #[] (s.toks + 1)] 0 }) :: (D, PySem.W.listOf (tw.map fun p => Value.int (p.1 : Int) p.2).toArray kD) :: (O, lst (op.map fun p => Value.int (p.1 : Int) p.2)) :: (W, lst (bytesVals [(w0, u0), (w1, u1)])) :: rest) s.gens cn sz (fun k => if k = 0 then op else tw)) rfl F5 N6 ?_ rfl ?_ ?_ ?_
  · rintro i m₁ n₁ gs₁ dr₁ h₁ ⟨dl, q1, q2, q3, b1, b2, rs, rfl, hk, hgb, hb, _⟩ F N
    exact ⟨_, (newsDrop N 6 _ (hb _ (.head _))).1, rfl, _, rfl⟩
  · refine ⟨[], p1, p2, p3, ob1, ob2, _, rfl, ?_, fun h => h, fun p hp => hp, hp1, hp2, hp3, fun p hp => List.mem_of_mem_drop (i := 6) (ho1 p hp), fun p hp => List.mem_of_mem_drop (i := 6) (ho2 p hp), offs', oT, rfl, fun k e h => by simp at h⟩
    exact hm.sub (by k_extra "mine sub")
  · intro E' T9 i v m₁ n₁ gs₁ dr₁ h₁ tk₁ I oI hi hP hTI hJ9 hap hlt hLI F₁ N₁ hT9
    obtain ⟨dl, q1, q2, q3, b1, b2, rs, rfl, hk, hgb, hb, tb1, tb2, tri, i1, i2, off, offT, hdl, hte⟩ := hJ9
    clear F5 N6
    have hbb := hb
    obtain ⟨Ti, wb, wu, U, kU, due, eb, eu, ab, au, rfl, hTi, hU, hdue, sw, se, sa, sa4, sd, sdl, hrow⟩ : TellT sz cn th ky op tw rs i v := by
      match i, hi, hP with
      | 0, _, hP =>
        cases hP
        exact ⟨T1, w0, u0, O, _, op, pt, t6, #[], _, rfl, hb _ (List.mem_of_getElem? (i := 2) rfl), hb _ (List.mem_of_getElem? (i := 4) rfl), rfl, hw0, hpt, by decide, .inl rfl, hop, hopl, hrow0⟩
      | 1, _, hP =>
        cases hP
        exact ⟨T2, w1, u1, D, _, tw, other, t14, forced, t13, rfl, hb _ (List.mem_of_getElem? (i := 1) rfl), hb _ (List.mem_of_getElem? (i := 3) rfl), rfl, hw1, hot, hfs, hf4, htw, htwl, hrow1⟩
      | i + 2, hi, _ => exact absurd hi (by simp)
    have NI : News g L h₁ ((Ti, { cls := .type "tuple", data := .seq #[.bytes wb wu, .ref U, .bytes eb eu, .bytes ab au] 0 }) :: _) := fun p hp => by
      rcases List.mem_cons.mp hp with rfl | hp
      · exact newsDrop N₁ 7 _ hTi
      · exact N₁ p hp
    clear N₁
    replace F₁ := frOv F₁ hk
    refine let_tupiter (s := ⟨_, _, _, _, _⟩) hTI ?_
    try dsimp only
    iterate 14 walk1
    have z := fun Q E s h => of_turn (M := model P1 w) (w := w) (A := tp dp (some []) gd un) (L := L) (i := 21) (f := 247) (Q := Q) (E := E) (s := s) (ho := by k_is) h
    dsimp only [List.drop, List.take, forBody] at z
    refine z _ _ _ ?_
    clear z
    rename Fr _ _ _ _ => F2
    rename News _ _ _ _ => N2
    obtain ⟨m₂, ⟨hma, hmb⟩, F2⟩ := frName F2 (fun m => AllAt m [(Str.ofString "threshold", .int (th : Nat) t1), (Str.ofString "count", .int (cn : Nat) t2), (Str.ofString "key", .int ky t4), (Str.ofString "whole", .bytes wb wu), (Str.ofString "due", .ref U), (Str.ofString "end", .bytes eb eu), (Str.ofString "answer", .bytes ab au)] ∧ AllAt m [(Str.ofString "threshold", .int (th : Nat) t1), (Str.ofString "count", .int (cn : Nat) t2), (Str.ofString "known", .int (kn : Nat) t3), (Str.ofString "key", .int ky t4), (Str.ofString "part", .bytes pt t6), (Str.ofString "rest", .ref R), (Str.ofString "wholes", .ref W), (Str.ofString "forced", .bytes forced t13), (Str.ofString "other", .bytes other t14)]) ⟨⟨rfl, rfl, rfl, rfl, rfl, rfl, rfl, trivial⟩, ⟨rfl, rfl, rfl, rfl, rfl, rfl, rfl, rfl, rfl, trivial⟩⟩
    try dsimp only
    have N7 := newsCons (newsDrop N2 8 _ hU) (newsPick N2 1 rfl (newsPick N2 2 rfl (newsPick N2 6 rfl (newsPick N2 7 rfl (newsPick N2 3 rfl (newsPick N2 4 rfl (newsPick N2 5 rfl (newsDrop N2 8))))))))
    clear N2
    refine segT (s := ⟨_, _, _, _, _⟩) (dp := dp) (un := un) (gd := gd) X T hd' hu C1 C2 C3 hth2 hth4 hcn htc hs4 hs8 (t1 := t1) (t2 := t2) (t4 := t4) (wu := wu) (eu := eu) (au := au) hky sw se sa sa4 (TD := TD) sdl sd (by rw [List.length_map, hdl]; exact Nat.le_trans (Nat.le_of_lt hi) (by show 2 ≤ 10; decide)) F2 hma N7 e2 d8 ?_ ?_ i1 i2 tb1 tb2 tri hrow
      fun h' tk gs dr m' p1' p2' p3' DS shs shn nwH nwC F3 hs3 gb3 tri3 tb1' tb2' N3 hsh hsl hvl hoff => ?_
    · intro a ha
      have ha' : a = 232 ∨ a = 225 ∨ a = 150 ∨ a = TD := by
        rcases ha with h | h | h
        · exact .inl h
        · exact .inr (.inl h)
        · exact .inr (.inr (.inl h))
      refine fmc (off a ha' _ (.tail _ (.tail _ hU))) ((fmc ?_ ((fmc (offT a ha) (off a ha')))))
      rcases ha with rfl | rfl | rfl
      · exact (hap _ (List.mem_of_getElem? (i := 1) rfl)).symm
      · exact (hap _ (List.mem_of_getElem? (i := 2) rfl)).symm
      · exact (hap _ (List.mem_of_getElem? (i := 3) rfl)).symm
    · skip
      exact fmc (off TD (.inr (.inr (.inr rfl))) _ (.tail _ (.tail _ hU))) ((fmc ((hap _ (List.mem_of_getElem? (i := 0) rfl)).symm) (off TD (.inr (.inr (.inr rfl))))))
    · have hI := hoff I (.inr (.inr (.inr (.inr rfl))))
      have mrs : ∀ p ∈ rs, p ∈ (DS, lst (shs.map fun q => Value.ref q.a)) :: (shn ++ (nwH ++ (nwC ++ rs))) := fun p hp => .tail _ (List.mem_append_right _ (List.mem_append_right _ (List.mem_append_right _ hp)))
      have msh : ∀ p ∈ shn, p ∈ (DS, lst (shs.map fun q => Value.ref q.a)) :: (shn ++ (nwH ++ (nwC ++ rs))) := fun p hp => .tail _ (List.mem_append_left _ hp)
      have hnew : ∀ a : Nat, (∀ p ∈ shn ++ (nwH ++ nwC), @Ne Nat p.1 a) ∧ DS ≠ a → (∀ p ∈ rs, @Ne Nat p.1 a) → ∀ p ∈ (DS, lst (shs.map fun q => Value.ref q.a)) :: (shn ++ (nwH ++ (nwC ++ rs))), @Ne Nat p.1 a := by
        intro a hA hr
        refine fmc (hA.2) (fma (fun p hp => hA.1 p (List.mem_append_left _ hp)) ((fma (fun p hp => hA.1 p (List.mem_append_right _ (List.mem_append_left _ hp))) ((fma (fun p hp => hA.1 p (List.mem_append_right _ (List.mem_append_right _ hp))) hr)))))
      refine hT9 _ _ ⟨h', tk, gs, dr, m', (TD, lst ((dl ++ [(DS, shs)]).map fun e => Value.ref e.1)) :: (232, tabObj p1') :: (225, tabObj p2') :: (150, tabObj p3') :: (L + 1 + 1 + 1 + 1 + 1 + 1 + 1 + 1, c8') :: (L + 1 + 1, c2) :: (DS, lst (shs.map fun q => Value.ref q.a)) :: (shn ++ (nwH ++ (nwC ++ rs))), rfl, F3, ?_, ?_, dl ++ [(DS, shs)], p1', p2', p3', nwH ++ b1, nwC ++ b2, _, rfl, ?_, fun h => gb3 (hgb h), fun p hp => mrs p (hb p hp), tb1', tb2', tri3, ?_, ?_, ?_, offT, by rw [List.length_append, hdl]; rfl, ?_⟩
      · rw [List.map_append]
        exact newsPick N3 0 rfl (newsPick N3 1 rfl (newsPick N3 2 rfl (newsPick N3 3 rfl (newsPick N3 4 rfl (newsPick N3 6 rfl (newsPick N3 7 rfl (newsPick N3 5 rfl (newsDrop N3 8))))))))
      · exact fmc ((have x := hap _ (List.mem_of_getElem? (i := 0) rfl); x)) ((fmc ((have x := hap _ (List.mem_of_getElem? (i := 1) rfl); x)) ((fmc ((have x := hap _ (List.mem_of_getElem? (i := 2) rfl); x)) ((fmc ((have x := hap _ (List.mem_of_getElem? (i := 3) rfl); x)) ((fmc ((have x := hap _ (List.mem_of_getElem? (i := 4) rfl); x)) ((fmc ((have x := hap _ (List.mem_of_getElem? (i := 5) rfl); x)) (hnew I hI (fun p hp => hap p (List.mem_of_mem_drop (i := 6) hp)))))))))))))
      · refine AllAt.of_eq hmb fun q hq => ?_
        revert hq
        revert q
        iterate 9 refine fmc (by dsimp only; exact hs3 _ (by decide) (by decide) (by decide) (by decide)) ?_
        exact List.forall_mem_nil _
      · intro p hp
        rcases List.mem_append.mp hp with hp | hp
        · exact .tail _ (List.mem_append_right _ (List.mem_append_left _ hp))
        · exact mrs p (i1 p hp)
      · intro p hp
        rcases List.mem_append.mp hp with hp | hp
        · exact .tail _ (List.mem_append_right _ (List.mem_append_right _ (List.mem_append_left _ hp)))
        · exact mrs p (i2 p hp)
      · intro a ha
        refine fmc (off a ha _ (.head _)) ((fmc (off a ha _ (.tail _ (.head _))) (hnew a (hoff a ?_) (fun p hp => off a ha p (.tail _ (.tail _ hp))))))
        rcases ha with h | h | h | h
        · exact .inl h
        · exact .inr (.inl h)
        · exact .inr (.inr (.inl h))
        · exact .inr (.inr (.inr (.inl h)))
      · intro k e hk'
        rcases Nat.lt_or_ge k dl.length with h | h
        · rw [List.getElem?_append_left h] at hk'
          exact (hte k e hk').mono mrs
        · rw [List.getElem?_append_right h] at hk'
          have hk0 : k - dl.length = 0 := by
            have := (List.getElem?_eq_some_iff.mp hk').1
            simp at this; omega
          rw [hk0] at hk'
          cases hk'
          have hki : k = i := (Nat.le_antisymm (Nat.le_of_sub_eq_zero hk0) h).trans hdl
          refine ⟨.head _, fun q hq => (hsh q hq).mono msh, hsl, ?_⟩
          rw [hki]
          show ∀ j q d, shs[j]? = some q → (if i = 0 then op else tw)[j]? = some d → _
          rw [← hdue]
          exact hvl
  · intro h23 tk23 gs23 dr23 m₁ n₁ F23 N23 p90
    obtain ⟨dl, q1, q2, q3, b1, b2, rs, rfl, hk, hgb, hb, tb1, tb2, tri, i1, i2, off, offT, hdl, hte⟩ := p90
    clear F5 N6
    k_extra "mine steps"
    refine hQ _ _ _ _ _ c8' TD _ F23 N23 d8 ⟨dl, q1, q2, q3, b1, b2, rs, rfl, hk, hgb, fun p hp => hb p ?_, tb1, tb2, tri, i1, i2, off, offT, hdl, hte⟩
    exact List.mem_of_mem_drop (i := 5) hp
end
end
section
open LCg (lst)
theorem newFresh {g h : Heap} {L : Addr} {news nw : List (Addr × Obj)} (nf : ∀ p ∈ nw, h.get? p.1 = none) (N : News g L h news) {i : Nat} {a : Addr} {o : Obj} (e : news[i]? = some (a, o)) : ∀ p ∈ nw, @Ne Nat p.1 a := fun p hp q => by
  have h2 := nf p hp
  rw [q, (N _ (List.mem_of_getElem? e)).1] at h2; cases h2
theorem cutT_app {n : Nat} {a b : Array UInt8} (h : a.size = n) : cutT n (a ++ b) = a := by
  subst h; unfold cutT; simp
theorem cutD_app {n : Nat} {a b : Array UInt8} (h : a.size = n) : cutD n (a ++ b) = b := by
  subst h; unfold cutD; simp
section
variable {w : World} {loose : List Str} {mean : ExcName → Option Value} {mg mb : Str → Option Value} {dp un : Nat} {fr : Option (List Env)} {gd : Option (List Code)} {s : Shared} {Q E : Value → Shared → Prop} {g : Heap} {L : Addr} {m : Str → Option Value} {rs : List (Addr × Obj)}
theorem recover_make (X : (hd.heap_39 w.params).In g) (T : Top topProg loose mean mg mb g) (hd' : dp + 60 < recursionLimit) (hu : un + 1000 < cLine) {fh heard : Addr} (ht : CodeHd g 154 150) {ps : Array Value} (tri : TriplesOk ps.toList)
    (F : Fr g L s.heap m) (N : News g L s.heap ((heard, lst []) :: (150, tabObj ps) :: rs)) (n1 : ∀ p ∈ rs, @Ne Nat p.1 heard) (n3 : ∀ p ∈ rs, @Ne Nat p.1 150)
    {ob1 : List (Addr × Obj)} (h1 : ∀ p ∈ ob1, p ∈ rs) {cap : Nat} {ans : Array UInt8 → Array UInt8 → Array UInt8} (H : HmacAt w g ob1 fh heard cap ans)
    {l : Addr} {shs : List Sh} {k t : Nat} {tt : Tok} (ht2 : 2 ≤ t) (ht3 : t < 1000) (hl : (l, ({ cls := .type "list", data := .seq (shVals shs) k } : Obj)) ∈ rs) (hsh : ∀ q ∈ shs, ShIn rs q) (hnd : (shs.map Sh.x).Nodup) {n : Nat} (hbn : ∀ q ∈ shs, q.b.size = n) (hne : shs ≠ []) (hlen : shs.length ≤ 10) (hn1 : n ≤ cap) (hcap : cap ≤ 1000) (hx : ∀ q ∈ shs, q.x < 256)
    (ha : ∀ b1 b2, (ans b1 b2).size ≤ 100000) (heq : cutT 4 (interpB shs 254 n) = cutT 4 (ans (cutD 4 (interpB shs 254 n)) (interpB shs 255 n)))
    (hQ : ∀ h' tk gs dr ps' T u u1 u2, Fr g L h' m → News g L h' ((heard, lst [.ref T]) :: (150, tabObj ps') :: (T, { cls := .type "tuple", data := .seq #[.bytes (cutD 4 (interpB shs 254 n)) u1, .bytes (interpB shs 255 n) u2] 0 }) :: rs) → TriplesOk ps'.toList → GB s.gens gs → s.heap.get? T = none → Q (.bytes (interpB shs 255 n) u) { s with heap := h', toks := tk, gens := gs, drawn := dr }) :
    wpAny (model P1 w) (tp dp fr gd un) (call (.ref 174) [.int t tt, .ref l, .ref fh]) Q E s := by
  have m1 := N (heard, lst []) (.head _)
  have m3 := N (150, tabObj ps) (.tail _ (.head _))
  have gn : ∀ a ∈ [150, heard], g.get? a = none := fun a ha => by
    simp only [List.mem_cons, List.not_mem_nil, or_false] at ha
    rcases ha with rfl | rfl
    · exact m3.2.2
    · exact m1.2.2
  have eg : Ext g (hideAll s.heap [150, heard]) := ext_hide F.keep gn
  have up : ∀ p ∈ rs, (hideAll s.heap [150, heard]).get? p.1 = some p.2 := fun p hr => by
    refine hideAll_get _ (N p (.tail _ (.tail _ hr))).1 ?_
    simp only [List.mem_cons, List.not_mem_nil, or_false, not_or]
    exact ⟨n3 p hr, n1 p hr⟩
  refine recover_spec X T F.keep hd' hu m1.2.2 m3.2.2 ht m3.1 tri (H.on eg fun p hp => up p (h1 p hp)) m1.1 (by decide) ht2 ht3 ⟨_, up _ hl, rfl, _, rfl⟩ (fun q hq => ?_) hnd hbn hne hlen hn1 hcap hx ha heq
    fun h' tk gs dr ps' T' u u1 u2 keep e150 tr gb nT eT eh => ?_
  · obtain ⟨d, o, a, b, c⟩ := hsh q hq
    exact ⟨d, o, up _ a, up _ b, c⟩
  have hL : L ≠ 150 ∧ L ≠ heard := ⟨fun h => m3.2.1 h.symm, fun h => m1.2.1 h.symm⟩
  have F' : Fr g L h' m := ⟨F.ns.at' fun o q => keep _ o hL.1 hL.2 q, fun b o q => keep b o (fun hm => by rw [gn b (by simp [hm])] at q; cases q) (fun hm => by rw [gn b (by simp [hm])] at q; cases q) (F.keep b o q), F.above⟩
  refine hQ h' tk gs dr ps' T' u u1 u2 F' (fun p hp => ?_) tr gb nT
  simp only [List.mem_cons] at hp
  rcases hp with rfl | rfl | rfl | hp
  · exact ⟨eh, m1.2⟩
  · exact ⟨e150, m3.2⟩
  · refine ⟨eT, fun q => ?_, ?_⟩
    · obtain ⟨oL, es, ep, e, r⟩ := F.ns
      have q' : T' = L := q
      rw [q', e] at nT; cases nT
    · show g.get? T' = none
      cases q : g.get? T' with
      | none => rfl
      | some o => rw [F.keep _ _ q] at nT; cases nT
  · have n := N p (.tail _ (.tail _ hp))
    exact ⟨keep _ _ (n3 p hp) (n1 p hp) n.1, n.2⟩
theorem list_upto {news : List (Addr × Obj)} {A : Around} {value slice : Expr} {l : Addr} {xs : List Value} {k i : Nat} {z : Int} {t : Tok} (F : Fr g L s.heap m) (N : News g L s.heap news) (hm : (l, ({ cls := .type "list", data := .seq xs.toArray i } : Obj)) ∈ news) (hx : xs.length ≤ 1000) (hz : z = (k : Int))
    (hQ : ∀ D h', Fr g L h' m → News g L h' ((D, PySem.W.listOf (xs.take k).toArray 0) :: news) → (∀ p ∈ news, p.1 < D) → Q (.ref D) { s with heap := h' })
    (hs : subscripted slice false (.ref l) (.ref s.heap.objs.size) = operate [.ref s.heap.objs.size, .ref l] (getItem (.ref l) (.ref s.heap.objs.size)) := by with_unfolding_all rfl) (ht : ∀ r, letTemporaryGo value (.ref l) r = pure () := by intro _; with_unfolding_all rfl) :
    wpAny (model P1 w) A (subscriptTail value slice (.ref l) (.ref s.heap.objs.size)) Q E { s with heap := s.heap.push { cls := .type "slice", data := .fields #[.none, .int z t, .none] } } := by
  subst hz
  refine kmk_slice F N (isList_news N hm) .none (.int _ _) (fun D h' F' N' l1 => ?_) hs ht (by rw [sizeLine_eq, List.size_toArray]; omega)
  rw [pick_upto] at N'
  exact hQ D h' F' N' l1
theorem pick_from' (xs : List Value) (k : Nat) : slicePick xs.toArray (some (k : Int)) none none = (xs.drop k).toArray := by
  have e : sliceBounds (some (k : Int)) none none xs.toArray.size = (((min k xs.toArray.size : Nat) : Int), ((xs.toArray.size : Nat) : Int), 1) := by
    simp only [sliceBounds, Option.getD_none, show (1 : Int) > 0 by decide, if_true, if_neg (show ¬ ((k : Int) < 0) by omega)]
    congr 1
    omega
  rw [kmk_pick_nat _ e, List.size_toArray]
  show ((xs.drop (min k xs.length)).take (xs.length - min k xs.length)).toArray = _
  rcases Nat.le_total k xs.length with h | h
  · rw [Nat.min_eq_left h, List.take_of_length_le (by rw [List.length_drop]; omega)]
  · rw [Nat.min_eq_right h, List.drop_of_length_le h, List.drop_of_length_le (Nat.le_refl _)]; simp
theorem list_from {news : List (Addr × Obj)} {A : Around} {value slice : Expr} {l : Addr} {xs : List Value} {k i : Nat} {z : Int} {t : Tok} (F : Fr g L s.heap m) (N : News g L s.heap news) (hm : (l, ({ cls := .type "list", data := .seq xs.toArray i } : Obj)) ∈ news) (hx : xs.length ≤ 1000) (hz : z = (k : Int))
    (hQ : ∀ D h', Fr g L h' m → News g L h' ((D, PySem.W.listOf (xs.drop k).toArray 0) :: news) → (∀ p ∈ news, p.1 < D) → Q (.ref D) { s with heap := h' })
    (hs : subscripted slice false (.ref l) (.ref s.heap.objs.size) = operate [.ref s.heap.objs.size, .ref l] (getItem (.ref l) (.ref s.heap.objs.size)) := by with_unfolding_all rfl) (ht : ∀ r, letTemporaryGo value (.ref l) r = pure () := by intro _; with_unfolding_all rfl) :
    wpAny (model P1 w) A (subscriptTail value slice (.ref l) (.ref s.heap.objs.size)) Q E { s with heap := s.heap.push { cls := .type "slice", data := .fields #[.int z t, .none, .none] } } := by
  subst hz
  refine kmk_slice F N (isList_news N hm) (.int _ _) .none (fun D h' F' N' l1 => ?_) hs ht (by rw [sizeLine_eq, List.size_toArray]; omega)
  rw [pick_from'] at N'
  exact hQ D h' F' N' l1
theorem add_lists {news : List (Addr × Obj)} {A : Around} {a b : Addr} {xs ys : List Value} {k j : Nat} (F : Fr g L s.heap m) (N : News g L s.heap news) (ha : (a, ({ cls := .type "list", data := .seq xs.toArray k } : Obj)) ∈ news) (hb : (b, ({ cls := .type "list", data := .seq ys.toArray j } : Obj)) ∈ news) (hx : xs.length ≤ 1000) (hy : ys.length ≤ 1000)
    (h : ∀ D h', Fr g L h' m → News g L h' ((D, { cls := .type "list", data := .seq (xs ++ ys).toArray }) :: news) → (∀ p ∈ news, @LT.lt Nat _ p.1 D) → Q (.ref D) { s with heap := h' }) : wpAny (model P1 w) A (binaryOp .Add (.ref a) (.ref b)) Q E s := by
  refine P.add_list (N _ ha).1 (N _ hb).1 ?_ (by rw [sizeLine_eq]; simp; omega)
  have e : xs.toArray ++ ys.toArray = (xs ++ ys).toArray := by simp
  rw [e]
  exact h _ _ (F.push _) (newsI' F N rfl) fun p hp => Heap.lt_size (N p hp).1
end
end
section
open LCg (lst)
section
variable {w : World} {loose : List Str} {mean : ExcName → Option Value} {mg mb : Str → Option Value} {dp un : Nat} {gd : Option (List Code)} {s : Shared} {Q : Flow → Shared → Prop} {E : Value → Shared → Prop} {g : Heap} {L l : Addr} {m : Str → Option Value} {vs : List Value} {ns : List Int}
def turnF (ns : List Int) : Nat := (1 + (numF ns 14 % ((255 : Nat) : Int)).toNat) <<< (8 * (numF ns 15 % ((4 : Nat) : Int)).toNat)
theorem turnF_lt (ns : List Int) : turnF ns < 256 ^ 4 := by
  have h1 : (numF ns 14 % ((255 : Nat) : Int)).toNat < 255 := emod_toNat_lt _ (by decide)
  have h2 : (numF ns 15 % ((4 : Nat) : Int)).toNat < 4 := emod_toNat_lt _ (by decide)
  unfold turnF
  rw [Nat.shiftLeft_eq]
  revert h1 h2
  generalize (numF ns 14 % ((255 : Nat) : Int)).toNat = a
  generalize (numF ns 15 % ((4 : Nat) : Int)).toNat = b
  intro h1 h2
  rcases (by decide : ∀ b, b < 4 → b = 0 ∨ b = 1 ∨ b = 2 ∨ b = 3) b h2 with rfl | rfl | rfl | rfl <;> simp <;> omega
theorem segF1 (X : (hd.heap_39 w.params).In g) (T : Top topProg loose mean mg mb g) (hd' : dp + 200 < recursionLimit) (hu : un + 3000 < cLine) (hl : g.IsList l vs.toArray) (hi : IntsAre vs ns) (hn : ns.length ≤ 63)
    {t4 t13 t14 u0 u1 : Tok} {ky : Int} (hky : Builtin.Int.intBits ky ≤ 1048576) {forced other w0 w1 : Array UInt8} (hfs : forced.size ≤ 1000) (hf4 : forced.size = 0 ∨ 4 ≤ forced.size) (ho8 : other.size ≤ 8) (hw8 : w1.size ≤ 8) {W : Addr}
    (F : Fr g L s.heap m) (hm : AllAt m [(Str.ofString "key", .int ky t4), (Str.ofString "wholes", .ref W), (Str.ofString "forced", .bytes forced t13), (Str.ofString "other", .bytes other t14)])
    {c1 : Obj} {rs : List (Addr × Obj)}
    (N : News g L s.heap ((W, lst (bytesVals [(w0, u0), (w1, u1)])) :: (L + 1, c1) :: rs)) (e1 : c1.data = .cell (some (.ref l)))
    (hQ : ∀ (h' : Heap) (tk : Nat) (m' : Str → Option Value), Fr g L h' m' → (∀ y, y ≠ Str.ofString "turned" → y ≠ Str.ofString "turn" → m' y = m y) → (∃ t, m' (Str.ofString "turned") = some (.bytes (toB 4 (ofB (cutT 4 (ansF ky forced other w1)) ^^^ turnF ns) ++ cutD 4 (ansF ky forced other w1)) t)) →
      News g L h' ((W, lst (bytesVals [(w0, u0), (w1, u1)])) :: (L + 1, c1) :: rs) → Q .next { s with heap := h', toks := tk }) :
    wpAny (model P1 w) ((tp dp (some []) gd un).deeper (lawEnv w 247 L)) (execs (lawSeg w 247 30 3) (lawEnv w 247 L)) Q E s := by
  refine' seg_of ?ho ?_
  case ho => k_is
  dsimp only [List.drop, List.take]
  replace F := frOv F hm
  have hd50 : ∀ k, k ≤ 150 → dp + k < recursionLimit := upto (by assumption) 150
  have hu50 : ∀ k, k ≤ 2500 → un + k < cLine := upto (by assumption) 2500
  have hlt : ∀ b : Array UInt8, ofB (cutT 4 b) ^^^ turnF ns < 256 ^ 4 := fun b => xor256 (by
    have := ofB_lt (cutT 4 b)
    rw [cutT_size] at this
    exact Nat.lt_of_lt_of_le this (Nat.pow_le_pow_right (by decide) (Nat.min_le_left _ _))) (turnF_lt ns)
  have hc8 : ∀ b : Array UInt8, (cutT 4 b).size ≤ 8 := fun b => by rw [cutT_size]; exact Nat.le_trans (Nat.min_le_left _ _) (by decide)
  have hcat : ∀ b : Array UInt8, b.size ≤ 1000 → (toB 4 (ofB (cutT 4 b) ^^^ turnF ns)).size + (cutD 4 b).size ≤ 16777216 := fun b h => by rw [toB_size, cutD_size]; omega
  have hcat1 := hcat forced hfs
  have hcat2 := hcat (digB ky other w1) (by rw [digB_size]; decide)
  have h8a : 1 + (numF ns 14 % ((255 : Nat) : Int)).toNat < 2 ^ 8 := Nat.add_lt_add_left (emod_toNat_lt _ (by decide)) 1
  have h8b : 8 * (numF ns 15 % ((4 : Nat) : Int)).toNat < 1000 := Nat.lt_of_lt_of_le (Nat.mul_lt_mul_of_pos_left (emod_toNat_lt _ (by decide)) (by decide)) (by decide)
  have hfs' : forced.size ≤ 100000 := Nat.le_trans hfs (by decide)
  have hdg' : (digB ky other w1).size ≤ 100000 := by rw [digB_size]; decide
  k_extra "mine steps"
  · rename News _ _ _ _ => N3
    refine from_bytes_n N3 (by k_mem) (hc8 _) fun t21 k21 => ?_
    try dsimp only
    k_extra "mine steps"
    refine to_bytes_n (x := ofB (cutT 4 forced) ^^^ turnF ns) (n := 4) rfl rfl (by decide) (hlt _) fun t20 k20 => ?_
    try dsimp only
    k_extra "mine steps"
    rename Fr _ _ _ _ => F8
    rename News _ _ _ _ => N8
    rename 0 < forced.size => hpos
    have eA : ansF ky forced other w1 = forced := by unfold ansF; rw [if_pos hpos]
    rw [eA] at hQ
    exact hQ _ _ _ F8 (fun y h1 h2 => (if_neg h1).trans ((if_neg h2).trans ((if_neg h1).trans (congrFun (ov_eq hm) y)))) ⟨_, rfl⟩ (newsDrop N8 1)
  · rename News _ _ _ _ => N3
    refine item_news (i := 1) N3 (by k_mem) rfl (by decide) rfl ?_
    try dsimp only
    k_extra "mine steps"
    rename News _ _ _ _ => N4
    refine from_bytes_n N4 (by k_mem) (hc8 _) fun t21 k21 => ?_
    try dsimp only
    k_extra "mine steps"
    refine to_bytes_n (x := ofB (cutT 4 (digB ky other w1)) ^^^ turnF ns) (n := 4) rfl rfl (by decide) (hlt _) fun t20 k20 => ?_
    try dsimp only
    k_extra "mine steps"
    rename Fr _ _ _ _ => F8
    rename News _ _ _ _ => N8
    rename ¬ 0 < forced.size => hpos
    have eA : ansF ky forced other w1 = digB ky other w1 := by unfold ansF; rw [if_neg hpos]
    rw [eA] at hQ
    exact hQ _ _ _ F8 (fun y h1 h2 => (if_neg h1).trans ((if_neg h2).trans ((if_neg h1).trans (congrFun (ov_eq hm) y)))) ⟨_, rfl⟩ (newsDrop N8 1)
end
end
section
open LCg (lst)
section
variable {w : World} {loose : List Str} {mean : ExcName → Option Value} {mg mb : Str → Option Value} {dp un : Nat} {gd : Option (List Code)} {s : Shared} {Q : Flow → Shared → Prop} {g : Heap} {L : Addr} {m : Str → Option Value}
theorem segF2 (X : (hd.heap_39 w.params).In g) (T : Top topProg loose mean mg mb g) (hd' : dp + 200 < recursionLimit) (hu : un + 3000 < cLine) (C2 : CodeHd g 236 232) (C3 : CodeHd g 154 150)
    {th sz : Nat} (hth2 : 2 ≤ th) (hth4 : th ≤ 4) (hs4 : 4 ≤ sz) (hs8 : sz ≤ 8) {t1 t4 t14 t15 u0 u1 : Tok} {ky : Int} (hky : Builtin.Int.intBits ky ≤ 1048576) {other w0 w1 td : Array UInt8} (htd4 : 4 ≤ td.size) (htd : td.size ≤ 1000)
    {W PK : Addr} {pk : List Sh}
    (F : Fr g L s.heap m) (hm : AllAt m [(Str.ofString "threshold", .int (th : Nat) t1), (Str.ofString "key", .int ky t4), (Str.ofString "wholes", .ref W), (Str.ofString "other", .bytes other t14), (Str.ofString "last", .ref PK), (Str.ofString "turned", .bytes td t15)])
    {p1 p3 : Array Value} {rs : List (Addr × Obj)}
    (N : News g L s.heap ((PK, { cls := .type "list", data := .seq (shVals pk) 0 }) :: (W, lst (bytesVals [(w0, u0), (w1, u1)])) :: (232, tabObj p1) :: (150, tabObj p3) :: rs))
    (offs : ∀ a : Nat, a = 232 ∨ a = 150 → ∀ p ∈ (PK, ({ cls := .type "list", data := .seq (shVals pk) 0 } : Obj)) :: (W, lst (bytesVals [(w0, u0), (w1, u1)])) :: rs, @Ne Nat p.1 a)
    {ob1 : List (Addr × Obj)} (ho1 : ∀ p ∈ ob1, p ∈ rs) (hp1 : TabOk 177 4 (Str.ofString "_law_hmac.<locals>.tell") p1 ob1) (hp3 : TriplesOk p3.toList)
    (hps : ∀ q ∈ pk, ShIn rs q) (hpl : pk.length = th) (hnd : (pk.map Sh.x).Nodup) (hpq : ∀ q ∈ pk, q.x < 256 ∧ q.b.size = sz)
    (hi255 : interpB pk 255 sz = w1) (hi254 : cutD 4 (interpB pk 254 sz) = other) (hbad : cutT 4 (interpB pk 254 sz) ≠ cutT 4 td)
    (hQ : ∀ (h' : Heap) (tk : Nat) (gs : Array GenState) (dr : Drawn) (p1' p3' : Array Value), (∀ b o, g.get? b = some o → h'.get? b = some o) → GB s.gens gs → h'.get? 232 = some (tabObj p1') → h'.get? 150 = some (tabObj p3') → (∀ p ∈ rs, h'.get? p.1 = some p.2) → Q (.ret (.bool true)) { s with heap := h', toks := tk, gens := gs, drawn := dr }) :
    wpAny (model P1 w) ((tp dp (some []) gd un).deeper (lawEnv w 247 L)) (execs (lawSeg w 247 33 3) (lawEnv w 247 L)) Q (fun _ _ => False) s := by
  refine' seg_of ?ho ?_
  case ho => k_is
  dsimp only [List.drop, List.take]
  replace F := frOv F hm
  have hd50 : ∀ k, k ≤ 150 → dp + k < recursionLimit := upto (by assumption) 150
  have hu50 : ∀ k, k ≤ 2500 → un + k < cLine := upto (by assumption) 2500
  k_extra "mine steps"
  rename Fr _ _ _ _ => F1
  rename News _ _ _ _ => N1
  rename_i HH x1 l1 x2
  have offHH := allLt_mem (d := HH) (l := (PK, ({ cls := .type "list", data := .seq (shVals pk) 0 } : Obj)) :: (W, lst (bytesVals [(w0, u0), (w1, u1)])) :: (232, tabObj p1) :: (150, tabObj p3) :: rs) l1
  have lt232 : @LT.lt Nat _ 232 HH := offHH (232, tabObj p1) (List.mem_of_getElem? (i := 2) rfl)
  refine wpAny_Try_except ?_
  try dsimp only
  have N2 := newsPick N1 3 rfl (newsPick N1 0 rfl (newsPick N1 4 rfl (newsPick N1 1 rfl (newsPick N1 2 rfl (newsDrop N1 5)))))
  dsimp only [List.drop] at N2
  clear N1
  k_extra "mine steps"
  rename Fr _ _ _ _ => F8
  rename News _ _ _ _ => N8
  refine hmac_make (s := ⟨_, _, _, _, _⟩) (ps := p1) (rs := _) (al := HH) X T (hd50 21 (by decide)) (hu50 403 (by decide)) C2 F8 N8 (fun p hp => ?_) hp1 (fun p hp => List.mem_of_mem_drop (i := 4) (ho1 p hp)) (List.mem_of_getElem? (i := 0) rfl) hky htd fun fh h9 tk9 p1' nwH F9 N9 hp1' nwf HA => ?_
  · revert hp
    revert p
    refine fmc ?_ ?_
    · exact Nat.ne_of_gt lt232
    refine fmc ?_ ?_
    · exact (by decide : (150 : Nat) ≠ 232)
    intro p hp
    exact offs 232 (.inl rfl) p hp
  dsimp only at F9 N9 nwf ⊢
  have NR := newsRight (newsDrop N9 1)
  have N10 := newsPick (p := (HH, lst [])) NR 0 rfl (newsPick NR 1 rfl (newsPick N9 0 rfl (newsPick NR 2 rfl (newsPick NR 3 rfl (newsApp (newsLeft (newsDrop N9 1)) (newsDrop NR 4))))))
  dsimp only [List.drop] at N10
  have nH := newFresh nwf N8 (i := 1) rfl
  have n15 := newFresh nwf N8 (i := 2) rfl
  clear NR N9 N8 F8 nwf
  k_extra "mine steps"
  rename Fr _ _ _ _ => F11
  rename News _ _ _ _ => N11
  have eA : ∀ b1 b2, ansF ky td b1 b2 = td := fun b1 b2 => by unfold ansF; rw [if_pos (by omega)]
  refine recover_fail (s := ⟨_, _, _, _, _⟩) (ps := p3) (shs := pk) (n := sz) (t := th) (ob1 := nwH ++ ob1) X T (hd50 61 (by decide)) (hu50 1003 (by decide)) C3 hp3 F11 N11 (fun p hp => ?_) (fun p hp => ?_) (fun p hp => ?_) HA hth2 (by omega) (List.mem_of_getElem? (i := 1) rfl) (fun q hq => ?_) hnd (fun q hq => (hpq q hq).2) (fun e => ?_) (by omega) hs8 (by decide) (fun q hq => (hpq q hq).1) (fun b1 b2 => by rw [eA]; omega) (by rw [eA]; exact hbad) rfl (by show ScopeKind.function ≠ ScopeKind.module; decide) fun h13 tk13 gs13 dr13 p3' TT u1' u2' ex B a0 stay hBL F13 hB tri13 gb13 nT fly => ?_
  · revert hp
    revert p
    refine fmc (Nat.ne_of_lt lt232) (fun p hp => ?_)
    by_cases hw : p ∈ nwH
    · exact nH p hw
    refine Nat.ne_of_lt (offHH p ?_)
    revert hw hp
    revert p
    k_extra "mine sub"
  · revert hp
    revert p
    refine fmc ((by decide : (232 : Nat) ≠ 150)) (fun p hp => ?_)
    by_cases hw : p ∈ nwH
    · exact n15 p hw
    refine offs 150 (.inr rfl) p ?_
    revert hw hp
    revert p
    k_extra "mine sub"
  · refine List.mem_of_mem_drop (i := 3) ?_
    show p ∈ nwH ++ rs
    rcases List.mem_append.mp hp with h | h
    · exact List.mem_append_left _ h
    · exact List.mem_append_right _ (ho1 p h)
  · exact (hps q hq).mono fun p hp => List.mem_of_mem_drop (i := 3) (List.mem_append_right _ hp)
  · rw [e] at hpl; simp at hpl; omega
  rw [hi255, hi254] at hB
  try dsimp only
  refine caught_law (bmB := [.type "Exception", .type "BaseException", .type "object"]) (newId := "Exception.__new__") rfl rfl stay hBL F13 fly X (topRead_of T) ?ex ?q rfl hB rfl rfl rfl (by decide) fun h14 F14 N14 => ?_
  case ex => k_is
  case q => k_exc
  try dsimp only
  clear F11 N11
  k_extra "mine steps"
  rename News _ _ _ _ => N15
  refine item_news (i := 1) (l := W) N15 (List.mem_of_getElem? (i := 5) rfl) rfl (by decide) rfl ?_
  try dsimp only
  k_extra "mine steps"
  rename Fr _ _ _ _ => F16
  rename News _ _ _ _ => N16
  rename (HH < _ ∧ _ ∧ TT < _ ∧ _) => l9
  refine eq_same (s := ⟨_, _, _, _, _⟩) (xs := [.ref TT]) (ys := [_]) ⟨_, (N16 _ (List.mem_of_getElem? (i := 2) rfl)).1, rfl, _, rfl⟩ ⟨_, (N16 _ (.head _)).1, rfl, _, rfl⟩ rfl ?_ (fun j x y hx hy => ?_) ?_
  · dsimp only [tp, Around.deeper, Around.mark]; omega
  · match j, hx, hy with
    | 0, hx, hy =>
      cases hx; cases hy
      exact eqAt_pair (Nat.ne_of_lt l9.2.2.1) ⟨_, (N16 _ (List.mem_of_getElem? (i := 4) rfl)).1, rfl, _, rfl⟩ ⟨_, (N16 _ (.tail _ (.head _))).1, rfl, _, rfl⟩ (by dsimp only [tp, Around.deeper, Around.mark]; omega) (eqAt_bytes _ _ _) (eqAt_bytes _ _ _)
    | j + 1, hx, hy => simp at hx
  try dsimp only
  k_extra "mine steps"
  exact hQ _ _ gs13 dr13 p1' p3' F16.keep gb13 (N16 _ (List.mem_of_getElem? (i := 5) rfl)).1 (N16 _ (List.mem_of_getElem? (i := 3) rfl)).1 fun p hp => (newsDrop N16 8 p (List.mem_append_right _ hp)).1
end
end
section
open LCg (lst)
section
variable {w : World} {loose : List Str} {mean : ExcName → Option Value} {mg mb : Str → Option Value} {dp un : Nat} {gd : Option (List Code)} {s : Shared} {Q : Flow → Shared → Prop} {E : Value → Shared → Prop} {g : Heap} {L : Addr} {m : Str → Option Value}
theorem segE1 (X : (hd.heap_39 w.params).In g) (T : Top topProg loose mean mg mb g) (hd' : dp + 200 < recursionLimit) (hu : un + 3000 < cLine) (C2 : CodeHd g 236 232) (C3 : CodeHd g 154 150)
    {th cn kn sz : Nat} (hth2 : 2 ≤ th) (hth4 : th ≤ 4) (hcn : cn ≤ 10) (htc : th ≤ cn) (hkt : kn < th) (hs4 : 4 ≤ sz) (hs8 : sz ≤ 8) {t1 t2 t3 t4 t6 t13 t14 u0 u1 : Tok} {ky : Int} (hky : Builtin.Int.intBits ky ≤ 1048576) {pt forced other w0 w1 : Array UInt8}
    {R W A TD D0 D1 : Addr} {al rp : List (Nat × Tok)} {kR : Nat} {sh0 sh1 : List Sh} {v0 v1 : Nat → Nat}
    (F : Fr g L s.heap m) (hm : AllAt m [(Str.ofString "threshold", .int (th : Nat) t1), (Str.ofString "count", .int (cn : Nat) t2), (Str.ofString "known", .int (kn : Nat) t3), (Str.ofString "key", .int ky t4), (Str.ofString "part", .bytes pt t6), (Str.ofString "rest", .ref R), (Str.ofString "wholes", .ref W), (Str.ofString "forced", .bytes forced t13), (Str.ofString "other", .bytes other t14)])
    {c6 c8 : Obj} {p1 p3 : Array Value} {rs : List (Addr × Obj)}
    (N : News g L s.heap ((TD, lst [.ref D0, .ref D1]) :: (D0, lst (sh0.map fun q => Value.ref q.a)) :: (D1, lst (sh1.map fun q => Value.ref q.a)) :: (A, lst (al.map fun p => Value.int (p.1 : Int) p.2)) :: (R, PySem.W.listOf (rp.map fun p => Value.int (p.1 : Int) p.2).toArray kR) :: (W, lst (bytesVals [(w0, u0), (w1, u1)])) :: (L + 1 + 1 + 1 + 1 + 1 + 1, c6) :: (L + 1 + 1 + 1 + 1 + 1 + 1 + 1 + 1, c8) :: (232, tabObj p1) :: (150, tabObj p3) :: rs))
    (e6 : c6.data = .cell (some (.ref A))) (e8 : c8.data = .cell (some (.ref TD)))
    (hall : al.length = kn) (hrpl : rp.length = cn - kn) (hal : ∀ x ∈ al.map (·.1), x < cn) (hrp : ∀ x ∈ rp.map (·.1), x < cn)
    (hl0 : sh0.length = cn) (hl1 : sh1.length = cn) (hs0 : ∀ q ∈ sh0, ShIn rs q) (hs1 : ∀ q ∈ sh1, ShIn rs q)
    (offs : ∀ a : Nat, a = 232 ∨ a = 150 → ∀ p ∈ (TD, lst [Value.ref D0, Value.ref D1]) :: (D0, lst (sh0.map fun q => Value.ref q.a)) :: (D1, lst (sh1.map fun q => Value.ref q.a)) :: (A, lst (al.map fun p => Value.int (p.1 : Int) p.2)) :: (R, PySem.W.listOf (rp.map fun p => Value.int (p.1 : Int) p.2).toArray kR) :: (W, lst (bytesVals [(w0, u0), (w1, u1)])) :: (L + 1 + 1 + 1 + 1 + 1 + 1, c6) :: (L + 1 + 1 + 1 + 1 + 1 + 1 + 1 + 1, c8) :: rs, @Ne Nat p.1 a)
    {ob1 : List (Addr × Obj)} (ho1 : ∀ p ∈ ob1, p ∈ rs) (hp1 : TabOk 177 4 (Str.ofString "_law_hmac.<locals>.tell") p1 ob1) (hp3 : TriplesOk p3.toList)
    (hv0 : ∀ (j : Nat) (q : Sh), sh0[j]? = some q → q.x = j ∧ q.b = toB sz (v0 j)) (hv1 : ∀ (j : Nat) (q : Sh), sh1[j]? = some q → q.x = j ∧ q.b = toB sz (v1 j))
    (hnd : ((al.map fun q => q.1) ++ ((rp.take (th - kn)).map fun q => q.1)).Nodup) (hi255 : interpP ((al.map fun (q : Nat × Tok) => (q.1, toB sz (v1 q.1))) ++ ((rp.take (th - kn)).map fun (q : Nat × Tok) => (q.1, toB sz (v0 q.1)))) 255 sz = w0) (hi254 : interpP ((al.map fun (q : Nat × Tok) => (q.1, toB sz (v1 q.1))) ++ ((rp.take (th - kn)).map fun (q : Nat × Tok) => (q.1, toB sz (v0 q.1)))) 254 sz = cutT 4 (digB ky pt w0) ++ pt)
    (hQ : ∀ (h' : Heap) (tk : Nat) (gs : Array GenState) (dr : Drawn) (m' : Str → Option Value) (p1' p3' : Array Value) (nwH : List (Addr × Obj)), Fr g L h' m' → (∀ y, y ≠ Str.ofString "joined" → y ≠ Str.ofString "heard" → y ≠ Str.ofString "more" → m' y = m y) → (∃ t, m' (Str.ofString "more") = some (.int ((th - kn : Nat) : Int) t)) → GB s.gens gs → TriplesOk p3'.toList → TabOk 177 4 (Str.ofString "_law_hmac.<locals>.tell") p1' (nwH ++ ob1) →
      News g L h' ((TD, lst [.ref D0, .ref D1]) :: (D0, lst (sh0.map fun q => Value.ref q.a)) :: (D1, lst (sh1.map fun q => Value.ref q.a)) :: (A, lst (al.map fun p => Value.int (p.1 : Int) p.2)) :: (R, PySem.W.listOf (rp.map fun p => Value.int (p.1 : Int) p.2).toArray kR) :: (W, lst (bytesVals [(w0, u0), (w1, u1)])) :: (L + 1 + 1 + 1 + 1 + 1 + 1, c6) :: (L + 1 + 1 + 1 + 1 + 1 + 1 + 1 + 1, c8) :: (232, tabObj p1') :: (150, tabObj p3') :: (nwH ++ rs)) →
      (∀ a : Nat, a = 232 ∨ a = 150 → ∀ p ∈ nwH, @Ne Nat p.1 a) → Q .next { s with heap := h', toks := tk, gens := gs, drawn := dr }) :
    wpAny (model P1 w) ((tp dp (some []) gd un).deeper (lawEnv w 247 L)) (execs (lawSeg w 247 22 4) (lawEnv w 247 L)) Q E s := by
  refine' seg_of ?ho ?_
  case ho => k_is
  dsimp only [List.drop, List.take]
  replace F := frOv F hm
  have hd50 : ∀ k, k ≤ 150 → dp + k < recursionLimit := upto (by assumption) 150
  have hu50 : ∀ k, k ≤ 2500 → un + k < cLine := upto (by assumption) 2500
  have hkt' : kn ≤ th := Nat.le_of_lt hkt
  have al10 : al.length ≤ 10 := Nat.le_trans (Nat.le_of_eq hall) (Nat.le_trans hkt' (Nat.le_trans htc hcn))
  have rp10 : rp.length ≤ 10 := Nat.le_trans (Nat.le_of_eq hrpl) (Nat.le_trans (Nat.sub_le _ _) hcn)
  have q10 : ∀ {q : Nat}, q < cn → q < 100000 := fun h => Nat.lt_of_lt_of_le h (Nat.le_trans hcn (by decide))
  k_extra "mine steps"
  rename_i x0 HH x1 l1 x2 x3 x4
  have offHH : ∀ p ∈ (TD, lst [Value.ref D0, Value.ref D1]) :: (D0, lst (sh0.map fun q => Value.ref q.a)) :: (D1, lst (sh1.map fun q => Value.ref q.a)) :: (A, lst (al.map fun p => Value.int (p.1 : Int) p.2)) :: (R, PySem.W.listOf (rp.map fun p => Value.int (p.1 : Int) p.2).toArray kR) :: (W, lst (bytesVals [(w0, u0), (w1, u1)])) :: (L + 1 + 1 + 1 + 1 + 1 + 1, c6) :: (L + 1 + 1 + 1 + 1 + 1 + 1 + 1 + 1, c8) :: (232, tabObj p1) :: (150, tabObj p3) :: rs, @LT.lt Nat _ p.1 HH := allLt_mem l1
  (refine' LCg.ListComp_U (F₀ := ?cF_1) ?c1_1 ?c2_1 ?c3_1 ?c4_1 ?c5_1 ?_; (case cF_1 => k_asm); (case c1_1 => with_unfolding_all rfl); (case c2_1 | c4_1 => decide); (case c3_1 | c5_1 => rfl))
  k_extra "mine steps"
  rename Fr _ _ _ _ => F3
  rename News _ _ _ _ => N3
  refine src_news (its := (al).map fun p => Value.int (p.1 : Int) p.2) (fun i ys news => news = _ ∧ ∃ pk : List Sh, ys = (pk.map fun q => Value.ref q.a) ∧ pk.length = i ∧ (∀ q ∈ pk, q ∈ sh1) ∧ pk.map (fun q => (q.x, q.b)) = ((al).take i).map fun (q : Nat × Tok) => (q.1, toB sz (v1 q.1))) rfl F3 N3 (List.mem_of_getElem? (i := 4) rfl) (by rw [List.length_map]; exact Nat.le_trans al10 (by decide)) ⟨rfl, [], rfl, rfl, (fun q hq => nomatch hq), rfl⟩ (fun g => ?_) (fun g ys news hl' hJ => ?_)
  · intro i ys news v I oI C oC D m₂ h tk' E' hi' hyl p90 hP hS hC hx F4 N4 off ne
    obtain ⟨rfl, pk, rfl, hpl, hpm, hpv⟩ := p90
    refine genQ fun QC hQC => ?_
    clear F3 N3
    obtain ⟨q, hq, rfl⟩ : ∃ q, (al)[i]? = some q ∧ v = Value.int (q.1 : Int) q.2 := by
      rw [List.getElem?_map, Option.map_eq_some_iff] at hP
      exact ⟨hP.choose, hP.choose_spec.1, hP.choose_spec.2.symm⟩
    have hqc : q.1 < cn := hal _ (List.mem_map_of_mem ((List.mem_of_getElem? hq)))
    obtain ⟨sq, hsq⟩ : ∃ sq, sh1[q.1]? = some sq := ⟨_, List.getElem?_eq_getElem (by rw [hl1]; exact hqc)⟩
    k_extra "mine steps"
    rename News _ _ _ _ => N5
    refine item_news (i := 1) (l := TD) N5 (List.mem_of_getElem? (i := 4) rfl) rfl (by decide) rfl ?_
    k_extra "mine steps"
    rename News _ _ _ _ => N6
    refine kba_turn (value' := PySem.Expr.Name (Str.ofString "x") ⟨0, 0, 0, 0⟩) (fun _ => rfl) ?_
    refine item_news (i := q.1) (l := D1) N6 (List.mem_of_getElem? (i := 6) rfl) rfl (q10 hqc) (by rw [List.getElem?_map, hsq]; rfl) ?_
    k_extra "mine steps"
    rename Fr _ _ _ _ => F7
    rename News _ _ _ _ => N7
    refine hQC _ _ ?_
    refine LCg.CompEnd.intro F7 N7 _ (fun _ hp => hp) off hS ⟨rfl, pk ++ [sq], by rw [List.map_append]; rfl, by rw [List.length_append, hpl]; rfl, fun x hx => ?_, ?_⟩
    · rcases List.mem_append.mp hx with hx | hx
      · exact hpm x hx
      · rw [List.mem_singleton.mp hx]; exact List.mem_of_getElem? hsq
    · rw [List.map_append, hpv, List.take_add_one, hq, List.map_append]
      obtain ⟨e1, e2⟩ := hv1 _ _ hsq
      show _ ++ [(sq.x, sq.b)] = _
      rw [e1, e2]; rfl
  · obtain ⟨rfl, pk1, rfl, hk1, hm1, hp1v⟩ := hJ
    rw [List.length_map, List.take_length] at hp1v
    intro DA h tk' F4 N4 off
    clear F3 N3
    try dsimp only
    (refine' LCg.ListComp_U (F₀ := ?cF_2) ?c1_2 ?c2_2 ?c3_2 ?c4_2 ?c5_2 ?_; (case cF_2 => k_asm); (case c1_2 => with_unfolding_all rfl); (case c2_2 | c4_2 => decide); (case c3_2 | c5_2 => rfl))
    k_extra "mine steps"
    rename Fr _ _ _ _ => F2
    rename News _ _ _ _ => N2
    try dsimp only
    refine list_upto (s := ⟨h, _, _, _, _⟩) (l := R) F2 N2 (List.mem_of_getElem? (i := 6) rfl) (by rw [List.length_map]; exact Nat.le_trans rp10 (by decide)) rfl fun SL h5 F3 N3 lSL => ?_
    rw [← List.map_take] at N3
    try dsimp only
    clear F2 N2
    refine src_news (its := (rp.take (th - kn)).map fun p => Value.int (p.1 : Int) p.2) (fun i ys news => news = _ ∧ ∃ pk : List Sh, ys = (pk.map fun q => Value.ref q.a) ∧ pk.length = i ∧ (∀ q ∈ pk, q ∈ sh0) ∧ pk.map (fun q => (q.x, q.b)) = ((rp.take (th - kn)).take i).map fun (q : Nat × Tok) => (q.1, toB sz (v0 q.1))) rfl F3 N3 (List.mem_of_getElem? (i := 0) rfl) (by rw [List.length_map, List.length_take]; exact Nat.le_trans (Nat.min_le_right _ _) (Nat.le_trans rp10 (by decide))) ⟨rfl, [], rfl, rfl, (fun q hq => nomatch hq), rfl⟩ (fun g => ?_) (fun g ys news hl' hJ => ?_)
    · intro i ys news v I oI C oC D m₂ h tk' E' hi' hyl p90 hP hS hC hx F4 N4 off ne
      obtain ⟨rfl, pk, rfl, hpl, hpm, hpv⟩ := p90
      refine genQ fun QC hQC => ?_
      clear F3 N3
      obtain ⟨q, hq, rfl⟩ : ∃ q, (rp.take (th - kn))[i]? = some q ∧ v = Value.int (q.1 : Int) q.2 := by
        rw [List.getElem?_map, Option.map_eq_some_iff] at hP
        exact ⟨hP.choose, hP.choose_spec.1, hP.choose_spec.2.symm⟩
      have hqc : q.1 < cn := hrp _ (List.mem_map_of_mem (List.mem_of_mem_take (List.mem_of_getElem? hq)))
      obtain ⟨sq, hsq⟩ : ∃ sq, sh0[q.1]? = some sq := ⟨_, List.getElem?_eq_getElem (by rw [hl0]; exact hqc)⟩
      k_extra "mine steps"
      rename News _ _ _ _ => N5
      refine item_news (i := 0) (l := TD) N5 (List.mem_of_getElem? (i := 6) rfl) rfl (by decide) rfl ?_
      k_extra "mine steps"
      rename News _ _ _ _ => N6
      refine kba_turn (value' := PySem.Expr.Name (Str.ofString "x") ⟨0, 0, 0, 0⟩) (fun _ => rfl) ?_
      refine item_news (i := q.1) (l := D0) N6 (List.mem_of_getElem? (i := 7) rfl) rfl (q10 hqc) (by rw [List.getElem?_map, hsq]; rfl) ?_
      k_extra "mine steps"
      rename Fr _ _ _ _ => F7
      rename News _ _ _ _ => N7
      refine hQC _ _ ?_
      refine LCg.CompEnd.intro F7 N7 _ (fun _ hp => hp) off hS ⟨rfl, pk ++ [sq], by rw [List.map_append]; rfl, by rw [List.length_append, hpl]; rfl, fun x hx => ?_, ?_⟩
      · rcases List.mem_append.mp hx with hx | hx
        · exact hpm x hx
        · rw [List.mem_singleton.mp hx]; exact List.mem_of_getElem? hsq
      · rw [List.map_append, hpv, List.take_add_one, hq, List.map_append]
        obtain ⟨e1, e2⟩ := hv0 _ _ hsq
        show _ ++ [(sq.x, sq.b)] = _
        rw [e1, e2]; rfl
    · obtain ⟨rfl, pk2, rfl, hk2, hm2, hp2v⟩ := hJ
      rw [List.length_map, List.take_length] at hp2v
      rw [List.length_map] at hk1
      rw [List.length_map, List.length_take, hrpl] at hk2
      intro DB h tk' F4 N4 off2
      clear F3 N3
      try dsimp only
      refine add_lists (s := ⟨_, _, _, _, _⟩) (xs := pk1.map fun q => Value.ref q.a) (ys := pk2.map fun q => Value.ref q.a) F4 N4 (List.mem_of_getElem? (i := 2) rfl) (List.mem_of_getElem? (i := 0) rfl) (by rw [List.length_map, hk1]; exact Nat.le_trans al10 (by decide)) (by rw [List.length_map, hk2]; exact Nat.le_trans (Nat.min_le_right _ _) (Nat.le_trans (Nat.sub_le _ _) (Nat.le_trans hcn (by decide)))) fun PK h6 F6 N6 lPK => ?_
      rw [← List.map_append] at N6
      have hpv : (pk1 ++ pk2).map (fun q => (q.x, q.b)) = (al.map fun (q : Nat × Tok) => (q.1, toB sz (v1 q.1))) ++ ((rp.take (th - kn)).map fun (q : Nat × Tok) => (q.1, toB sz (v0 q.1))) := by rw [List.map_append, hp1v, hp2v]
      have hpl : (pk1 ++ pk2).length = th := by rw [List.length_append, hk1, hk2, hall, Nat.min_eq_left (Nat.sub_le_sub_right htc kn), Nat.add_sub_cancel' hkt']
      have hps : ∀ q ∈ pk1 ++ pk2, ShIn rs q := fun q hq => by
        rcases List.mem_append.mp hq with hq | hq
        · exact hs1 q (hm1 q hq)
        · exact hs0 q (hm2 q hq)
      have l13 := lPK _ (List.mem_of_getElem? (i := 12) rfl)
      have l14 := lPK _ (List.mem_of_getElem? (i := 13) rfl)
      have lHP := lPK _ (List.mem_of_getElem? (i := 3) rfl)
      dsimp only at l13 l14 lHP ⊢
      generalize pk1 ++ pk2 = pk at hpv hpl hps N6
      have N7 := newsPick N6 13 rfl (newsPick N6 14 rfl (newsPick N6 0 rfl (newsPick N6 4 rfl (newsPick N6 5 rfl (newsPick N6 6 rfl (newsPick N6 7 rfl (newsPick N6 8 rfl (newsPick N6 9 rfl (newsPick N6 10 rfl (newsPick N6 11 rfl (newsPick N6 12 rfl (newsDrop N6 15))))))))))))
      dsimp only [List.drop] at N7
      clear N6 N4 off off2 lPK hm1 hm2 hp1v hp2v hk1 hk2 F4 hl' lSL
      k_extra "mine steps"
      rename Fr _ _ _ _ => F8
      rename News _ _ _ _ => N8
      have lt232 : @LT.lt Nat _ 232 HH := offHH (232, tabObj p1) (List.mem_of_getElem? (i := 8) rfl)
      have lt150 : @LT.lt Nat _ 150 HH := offHH (150, tabObj p3) (List.mem_of_getElem? (i := 9) rfl)
      refine hmac_make (s := ⟨_, _, _, _, _⟩) (ps := p1) (rs := _) (al := HH) X T (hd50 21 (by decide)) (hu50 403 (by decide)) C2 F8 N8 (fun p hp => ?_) hp1 (fun p hp => List.mem_of_mem_drop (i := 11) (ho1 p hp)) (List.mem_of_getElem? (i := 2) rfl) hky (by decide) fun fh h9 tk9 p1' nwH F9 N9 hp1' nwf HA => ?_
      · revert hp
        revert p
        refine fmc ?_ ?_
        · exact (by decide : (150 : Nat) ≠ 232)
        refine fmc ?_ ?_
        · exact Nat.ne_of_gt l13
        refine fmc ?_ ?_
        · exact Nat.ne_of_gt lt232
        intro p hp
        exact offs 232 (.inl rfl) p hp
      dsimp only at F9 N9 nwf ⊢
      have NR := newsRight (newsDrop N9 1)
      have N10 := newsPick (p := (HH, lst [])) NR 2 rfl (newsPick NR 0 rfl (newsPick N9 0 rfl (newsPick NR 1 rfl (newsPick NR 3 rfl (newsPick NR 4 rfl (newsPick NR 5 rfl (newsPick NR 6 rfl (newsPick NR 7 rfl (newsPick NR 8 rfl (newsPick NR 9 rfl (newsPick NR 10 rfl (newsApp (newsLeft (newsDrop N9 1)) (newsDrop NR 11)))))))))))))
      dsimp only [List.drop] at N10
      have nwo : ∀ (a : Addr) (o : Obj), h6.get? a = some o → ∀ p ∈ nwH, @Ne Nat p.1 a := fun a o e p hp q => by
        have h2 := nwf p hp
        rw [q, e] at h2; cases h2
      have nH := nwo _ _ (N8 _ (List.mem_of_getElem? (i := 3) rfl)).1
      have n15 := nwo _ _ (N8 _ (List.mem_of_getElem? (i := 1) rfl)).1
      have n23 := nwo _ _ (N8 _ (List.mem_of_getElem? (i := 0) rfl)).1
      clear NR N9 N8 F8 nwo nwf
      k_extra "mine steps"
      rename Fr _ _ _ _ => F11
      rename News _ _ _ _ => N11
      have e255 : interpB pk 255 sz = w0 := by rw [interpB_pts, hpv]; exact hi255
      have e254 : interpB pk 254 sz = cutT 4 (digB ky pt w0) ++ pt := by rw [interpB_pts, hpv]; exact hi254
      have d4 := cutT4_dig ky pt w0
      have hpq : ∀ q ∈ pk, q.x < 256 ∧ q.b.size = sz := by
        intro q hq
        have hm : (q.x, q.b) ∈ pk.map (fun q => (q.x, q.b)) := List.mem_map_of_mem hq
        rw [hpv] at hm
        rcases List.mem_append.mp hm with hm | hm
        · obtain ⟨p, hp, e⟩ := List.mem_map.mp hm
          rw [← show p.1 = q.x from congrArg Prod.fst e, ← show toB sz _ = q.b from congrArg Prod.snd e]
          exact ⟨Nat.lt_of_lt_of_le (hal _ (List.mem_map_of_mem hp)) (Nat.le_trans hcn (by decide)), toB_size _ _⟩
        · obtain ⟨p, hp, e⟩ := List.mem_map.mp hm
          rw [← show p.1 = q.x from congrArg Prod.fst e, ← show toB sz _ = q.b from congrArg Prod.snd e]
          exact ⟨Nat.lt_of_lt_of_le (hrp _ (List.mem_map_of_mem (List.mem_of_mem_take hp))) (Nat.le_trans hcn (by decide)), toB_size _ _⟩
      have hndx : (pk.map Sh.x).Nodup := by
        have e : pk.map Sh.x = (pk.map fun q => (q.x, q.b)).map (·.1) := by rw [List.map_map]; rfl
        rw [e, hpv, List.map_append, List.map_map, List.map_map]
        exact hnd
      refine recover_make (s := ⟨_, _, _, _, _⟩) (ps := p3) (shs := pk) (n := sz) (t := th) (ob1 := nwH ++ ob1) X T (hd50 61 (by decide)) (hu50 1003 (by decide)) C3 hp3 F11 N11 (fun p hp => ?_) (fun p hp => ?_) (fun p hp => ?_) HA hth2 (Nat.lt_of_le_of_lt hth4 (by decide)) (List.mem_of_getElem? (i := 1) rfl) (fun q hq => ?_) hndx (fun q hq => (hpq q hq).2) (fun e => ?_) (Nat.le_trans (Nat.le_of_eq hpl) (Nat.le_trans hth4 (by decide))) hs8 (by decide) (fun q hq => (hpq q hq).1) (fun b1 b2 => ?_) ?_ fun h13 tk13 gs13 dr13 p3' TT u u1 u2 F13 N13 tri13 gb13 nT => ?_
      · revert hp
        revert p
        refine fmc ?_ ?_
        · exact Nat.ne_of_lt lt232
        refine fmc ?_ ?_
        · exact Nat.ne_of_gt lHP
        intro p hp
        by_cases hw : p ∈ nwH
        · exact nH p hw
        refine Nat.ne_of_lt (offHH p ?_)
        revert hw hp
        revert p
        k_extra "mine sub"
      · revert hp
        revert p
        refine fmc ?_ ?_
        · exact (by decide : (232 : Nat) ≠ 150)
        refine fmc ?_ ?_
        · exact Nat.ne_of_gt l14
        intro p hp
        by_cases hw : p ∈ nwH
        · exact n15 p hw
        refine offs 150 (.inr rfl) p ?_
        revert hw hp
        revert p
        k_extra "mine sub"
      · refine List.mem_of_mem_drop (i := 10) ?_
        show p ∈ nwH ++ rs
        rcases List.mem_append.mp hp with h | h
        · exact List.mem_append_left _ h
        · exact List.mem_append_right _ (ho1 p h)
      · exact (hps q hq).mono fun p hp => List.mem_of_mem_drop (i := 10) (List.mem_append_right _ hp)
      · rw [e] at hpl; rw [← hpl] at hth2; exact absurd hth2 (by decide)
      · unfold ansF
        rw [if_neg (by decide), digB_size]; decide
      · rw [e254, e255, cutT_app d4, cutD_app d4]
        unfold ansF
        rw [if_neg (by decide)]
      rw [e255, e254, cutD_app d4] at N13
      rw [e255]
      dsimp only at F13 N13 gb13 ⊢
      clear F11 N11
      k_extra "mine steps"
      rename Fr _ _ _ _ => F14
      rename News _ _ _ _ => N14
      refine item_news (i := 0) (l := W) N14 (List.mem_of_getElem? (i := 10) rfl) rfl (by decide) rfl ?_
      try dsimp only
      k_extra "mine steps"
      · rename (_ != _) = true => hbad
        exact absurd hbad (by simp)
      rename Fr _ _ _ _ => F15
      rename News _ _ _ _ => N15
      refine item_news (i := 0) (l := W) N15 (List.mem_of_getElem? (i := 10) rfl) rfl (by decide) rfl ?_
      try dsimp only
      k_extra "mine steps"
      rename Fr _ _ _ _ => F16
      rename News _ _ _ _ => N16
      rename (HH < _ ∧ _ ∧ TT < _ ∧ _) => l9
      refine ne_same (s := ⟨_, _, _, _, _⟩) (xs := [.ref TT]) (ys := [_]) ⟨_, (N16 _ (List.mem_of_getElem? (i := 2) rfl)).1, rfl, _, rfl⟩ ⟨_, (N16 _ (.head _)).1, rfl, _, rfl⟩ rfl ?_ (fun j x y hx hy => ?_) ?_
      · dsimp only [tp, Around.deeper]; omega
      · match j, hx, hy with
        | 0, hx, hy =>
          cases hx; cases hy
          exact eqAt_pair (Nat.ne_of_lt l9.2.2.1) ⟨_, (N16 _ (List.mem_of_getElem? (i := 4) rfl)).1, rfl, _, rfl⟩ ⟨_, (N16 _ (.tail _ (.head _))).1, rfl, _, rfl⟩ (by dsimp only [tp, Around.deeper]; omega) (eqAt_bytes _ _ _) (eqAt_bytes _ _ _)
        | j + 1, hx, hy => simp at hx
      have N17 := newsPick N16 7 rfl (newsPick N16 8 rfl (newsPick N16 9 rfl (newsPick N16 10 rfl (newsPick N16 11 rfl (newsPick N16 12 rfl (newsPick N16 13 rfl (newsPick N16 14 rfl (newsPick N16 5 rfl (newsPick N16 3 rfl (newsDrop N16 15))))))))))
      dsimp only [List.drop] at N17
      clear N16 l9
      k_extra "mine steps"
      rename Fr _ _ _ _ => F18
      rename News _ _ _ _ => N18
      refine hQ _ _ gs13 dr13 _ p1' p3' nwH F18 (fun y h0 h1 h2 => (if_neg h0).trans ((if_neg h1).trans ((if_neg h2).trans (congrFun (ov_eq hm) y)))) ⟨_, rfl⟩ gb13 tri13 hp1' N18 fun a ha => ?_
      rcases ha with rfl | rfl
      · exact n23
      · exact n15
end
end
section
open LCg (lst)
section
variable {w : World} {loose : List Str} {mean : ExcName → Option Value} {mg mb : Str → Option Value} {dp un : Nat} {gd : Option (List Code)} {s : Shared} {Q : Flow → Shared → Prop} {E : Value → Shared → Prop} {g : Heap} {L : Addr} {m : Str → Option Value}
theorem segE2 (X : (hd.heap_39 w.params).In g) (T : Top topProg loose mean mg mb g) (hd' : dp + 200 < recursionLimit) (hu : un + 3000 < cLine) (C2 : CodeHd g 236 232) (C3 : CodeHd g 154 150)
    {th cn kn sz : Nat} (hth2 : 2 ≤ th) (hth4 : th ≤ 4) (hcn : cn ≤ 10) (htc : th ≤ cn) (hkt : kn < th) (hs4 : 4 ≤ sz) (hs8 : sz ≤ 8) {t1 t2 t3 t4 t6 t13 t14 t15 u0 u1 : Tok} {ky : Int} (hky : Builtin.Int.intBits ky ≤ 1048576) {pt forced other w0 w1 : Array UInt8}
    {R W A TD D0 D1 : Addr} {al rp : List (Nat × Tok)} {kR : Nat} {sh0 sh1 : List Sh} {v0 v1 : Nat → Nat}
    (F : Fr g L s.heap m) (hm : AllAt m [(Str.ofString "threshold", .int (th : Nat) t1), (Str.ofString "count", .int (cn : Nat) t2), (Str.ofString "known", .int (kn : Nat) t3), (Str.ofString "key", .int ky t4), (Str.ofString "part", .bytes pt t6), (Str.ofString "rest", .ref R), (Str.ofString "wholes", .ref W), (Str.ofString "forced", .bytes forced t13), (Str.ofString "other", .bytes other t14), (Str.ofString "more", .int ((th - kn : Nat) : Int) t15)])
    {c6 c8 : Obj} {p1 p3 : Array Value} {rs : List (Addr × Obj)}
    (N : News g L s.heap ((TD, lst [.ref D0, .ref D1]) :: (D0, lst (sh0.map fun q => Value.ref q.a)) :: (D1, lst (sh1.map fun q => Value.ref q.a)) :: (A, lst (al.map fun p => Value.int (p.1 : Int) p.2)) :: (R, PySem.W.listOf (rp.map fun p => Value.int (p.1 : Int) p.2).toArray kR) :: (W, lst (bytesVals [(w0, u0), (w1, u1)])) :: (L + 1 + 1 + 1 + 1 + 1 + 1, c6) :: (L + 1 + 1 + 1 + 1 + 1 + 1 + 1 + 1, c8) :: (232, tabObj p1) :: (150, tabObj p3) :: rs))
    (e6 : c6.data = .cell (some (.ref A))) (e8 : c8.data = .cell (some (.ref TD)))
    (hall : al.length = kn) (hrpl : rp.length = cn - kn) (hal : ∀ x ∈ al.map (·.1), x < cn) (hrp : ∀ x ∈ rp.map (·.1), x < cn)
    (hl0 : sh0.length = cn) (hl1 : sh1.length = cn) (hs0 : ∀ q ∈ sh0, ShIn rs q) (hs1 : ∀ q ∈ sh1, ShIn rs q)
    (offs : ∀ a : Nat, a = 232 ∨ a = 150 → ∀ p ∈ (TD, lst [Value.ref D0, Value.ref D1]) :: (D0, lst (sh0.map fun q => Value.ref q.a)) :: (D1, lst (sh1.map fun q => Value.ref q.a)) :: (A, lst (al.map fun p => Value.int (p.1 : Int) p.2)) :: (R, PySem.W.listOf (rp.map fun p => Value.int (p.1 : Int) p.2).toArray kR) :: (W, lst (bytesVals [(w0, u0), (w1, u1)])) :: (L + 1 + 1 + 1 + 1 + 1 + 1, c6) :: (L + 1 + 1 + 1 + 1 + 1 + 1 + 1 + 1, c8) :: rs, @Ne Nat p.1 a)
    {ob1 : List (Addr × Obj)} (ho1 : ∀ p ∈ ob1, p ∈ rs) (hp1 : TabOk 177 4 (Str.ofString "_law_hmac.<locals>.tell") p1 ob1) (hp3 : TriplesOk p3.toList)
    (hv0 : ∀ (j : Nat) (q : Sh), sh0[j]? = some q → q.x = j ∧ q.b = toB sz (v0 j)) (hv1 : ∀ (j : Nat) (q : Sh), sh1[j]? = some q → q.x = j ∧ q.b = toB sz (v1 j))
    (hfs : forced.size ≤ 1000) (hf4 : forced.size = 0 ∨ 4 ≤ forced.size)
    (hnd : (((rp.drop (rp.length - (th - kn))).map fun q => q.1) ++ (al.map fun q => q.1)).Nodup) (hi255 : interpP (((rp.drop (rp.length - (th - kn))).map fun (q : Nat × Tok) => (q.1, toB sz (v1 q.1))) ++ (al.map fun (q : Nat × Tok) => (q.1, toB sz (v0 q.1)))) 255 sz = w1) (hi254 : interpP (((rp.drop (rp.length - (th - kn))).map fun (q : Nat × Tok) => (q.1, toB sz (v1 q.1))) ++ (al.map fun (q : Nat × Tok) => (q.1, toB sz (v0 q.1)))) 254 sz = cutT 4 (ansF ky forced other w1) ++ other)
    (hQ : ∀ (h' : Heap) (tk : Nat) (gs : Array GenState) (dr : Drawn) (m' : Str → Option Value) (p1' p3' : Array Value) (PK : Addr) (pk : List Sh) (nwH : List (Addr × Obj)), Fr g L h' m' → (∀ y, y ≠ Str.ofString "joined" → y ≠ Str.ofString "heard" → y ≠ Str.ofString "last" → m' y = m y) → m' (Str.ofString "last") = some (.ref PK) → GB s.gens gs → TriplesOk p3'.toList → TabOk 177 4 (Str.ofString "_law_hmac.<locals>.tell") p1' (nwH ++ ob1) →
      News g L h' ((PK, { cls := .type "list", data := .seq (shVals pk) 0 }) :: (W, lst (bytesVals [(w0, u0), (w1, u1)])) :: (L + 1 + 1 + 1 + 1 + 1 + 1, c6) :: (L + 1 + 1 + 1 + 1 + 1 + 1 + 1 + 1, c8) :: (232, tabObj p1') :: (150, tabObj p3') :: (nwH ++ rs)) →
      (∀ a : Nat, a = 232 ∨ a = 150 → (∀ p ∈ nwH, @Ne Nat p.1 a) ∧ PK ≠ a) → (∀ q ∈ pk, ShIn rs q) → pk.length = th → (pk.map fun q => (q.x, q.b)) = ((rp.drop (rp.length - (th - kn))).map fun (q : Nat × Tok) => (q.1, toB sz (v1 q.1))) ++ (al.map fun (q : Nat × Tok) => (q.1, toB sz (v0 q.1))) → Q .next { s with heap := h', toks := tk, gens := gs, drawn := dr }) :
    wpAny (model P1 w) ((tp dp (some []) gd un).deeper (lawEnv w 247 L)) (execs (lawSeg w 247 26 4) (lawEnv w 247 L)) Q E s := by
  refine' seg_of ?ho ?_
  case ho => k_is
  dsimp only [List.drop, List.take]
  replace F := frOv F hm
  have hd50 : ∀ k, k ≤ 150 → dp + k < recursionLimit := upto (by assumption) 150
  have hu50 : ∀ k, k ≤ 2500 → un + k < cLine := upto (by assumption) 2500
  have hkt' : kn ≤ th := Nat.le_of_lt hkt
  have al10 : al.length ≤ 10 := Nat.le_trans (Nat.le_of_eq hall) (Nat.le_trans hkt' (Nat.le_trans htc hcn))
  have rp10 : rp.length ≤ 10 := Nat.le_trans (Nat.le_of_eq hrpl) (Nat.le_trans (Nat.sub_le _ _) hcn)
  have q10 : ∀ {q : Nat}, q < cn → q < 100000 := fun h => Nat.lt_of_lt_of_le h (Nat.le_trans hcn (by decide))
  have hsub : th - kn ≤ (rp.map fun p => Value.int (p.1 : Int) p.2).length := by rw [List.length_map, hrpl]; exact Nat.sub_le_sub_right htc kn
  k_extra "mine steps"
  (refine' LCg.ListComp_U (F₀ := ?cF_1) ?c1_1 ?c2_1 ?c3_1 ?c4_1 ?c5_1 ?_; (case cF_1 => k_asm); (case c1_1 => with_unfolding_all rfl); (case c2_1 | c4_1 => decide); (case c3_1 | c5_1 => rfl))
  k_extra "mine steps"
  rename News _ _ _ _ => N1
  refine len_news N1 (l := R) (List.mem_of_getElem? (i := 4) rfl) (by rw [List.length_map]; exact Nat.le_trans rp10 (by decide)) ?_
  try dsimp only
  k_extra "mine steps"
  rename Fr _ _ _ _ => F2
  rename News _ _ _ _ => N2
  try dsimp only
  refine list_from (s := ⟨s.heap, s.gens, s.drawn, s.toks + 1 + 1 + 1, s.os⟩) (l := R) F2 N2 (List.mem_of_getElem? (i := 4) rfl) (by rw [List.length_map]; exact Nat.le_trans rp10 (by decide)) rfl fun SL h5 F3 N3 lSL => ?_
  rw [List.length_map, ← List.map_drop] at N3
  try dsimp only
  clear F2 N2
  refine src_news (its := (rp.drop (rp.length - (th - kn))).map fun p => Value.int (p.1 : Int) p.2) (fun i ys news => news = _ ∧ ∃ pk : List Sh, ys = (pk.map fun q => Value.ref q.a) ∧ pk.length = i ∧ (∀ q ∈ pk, q ∈ sh1) ∧ pk.map (fun q => (q.x, q.b)) = ((rp.drop (rp.length - (th - kn))).take i).map fun (q : Nat × Tok) => (q.1, toB sz (v1 q.1))) rfl F3 N3 (List.mem_of_getElem? (i := 0) rfl) (by rw [List.length_map, List.length_drop]; exact Nat.le_trans (Nat.sub_le _ _) (Nat.le_trans rp10 (by decide))) ⟨rfl, [], rfl, rfl, (fun q hq => nomatch hq), rfl⟩ (fun g => ?_) (fun g ys news hl' hJ => ?_)
  · intro i ys news v I oI C oC D m₂ h tk' E' hi' hyl p90 hP hS hC hx F4 N4 off ne
    obtain ⟨rfl, pk, rfl, hpl, hpm, hpv⟩ := p90
    refine genQ fun QC hQC => ?_
    clear F3 N3
    obtain ⟨q, hq, rfl⟩ : ∃ q, (rp.drop (rp.length - (th - kn)))[i]? = some q ∧ v = Value.int (q.1 : Int) q.2 := by
      rw [List.getElem?_map, Option.map_eq_some_iff] at hP
      exact ⟨hP.choose, hP.choose_spec.1, hP.choose_spec.2.symm⟩
    have hqc : q.1 < cn := hrp _ (List.mem_map_of_mem (List.mem_of_mem_drop (List.mem_of_getElem? hq)))
    obtain ⟨sq, hsq⟩ : ∃ sq, sh1[q.1]? = some sq := ⟨_, List.getElem?_eq_getElem (by rw [hl1]; exact hqc)⟩
    k_extra "mine steps"
    rename News _ _ _ _ => N5
    refine item_news (i := 1) (l := TD) N5 (List.mem_of_getElem? (i := 4) rfl) rfl (by decide) rfl ?_
    k_extra "mine steps"
    rename News _ _ _ _ => N6
    refine kba_turn (value' := PySem.Expr.Name (Str.ofString "x") ⟨0, 0, 0, 0⟩) (fun _ => rfl) ?_
    refine item_news (i := q.1) (l := D1) N6 (List.mem_of_getElem? (i := 6) rfl) rfl (q10 hqc) (by rw [List.getElem?_map, hsq]; rfl) ?_
    k_extra "mine steps"
    rename Fr _ _ _ _ => F7
    rename News _ _ _ _ => N7
    refine hQC _ _ ?_
    refine LCg.CompEnd.intro F7 N7 _ (fun _ hp => hp) off hS ⟨rfl, pk ++ [sq], by rw [List.map_append]; rfl, by rw [List.length_append, hpl]; rfl, fun x hx => ?_, ?_⟩
    · rcases List.mem_append.mp hx with hx | hx
      · exact hpm x hx
      · rw [List.mem_singleton.mp hx]; exact List.mem_of_getElem? hsq
    · rw [List.map_append, hpv, List.take_add_one, hq, List.map_append]
      obtain ⟨e1, e2⟩ := hv1 _ _ hsq
      show _ ++ [(sq.x, sq.b)] = _
      rw [e1, e2]; rfl
  · obtain ⟨rfl, pk1, rfl, hk1, hm1, hp1v⟩ := hJ
    rw [List.length_map, List.take_length] at hp1v
    intro DA h tk' F4 N4 off
    clear F3 N3
    try dsimp only
    (refine' LCg.ListComp_U (F₀ := ?cF_2) ?c1_2 ?c2_2 ?c3_2 ?c4_2 ?c5_2 ?_; (case cF_2 => k_asm); (case c1_2 => with_unfolding_all rfl); (case c2_2 | c4_2 => decide); (case c3_2 | c5_2 => rfl))
    k_extra "mine steps"
    rename Fr _ _ _ _ => F3
    rename News _ _ _ _ => N3
    refine src_news (its := (al).map fun p => Value.int (p.1 : Int) p.2) (fun i ys news => news = _ ∧ ∃ pk : List Sh, ys = (pk.map fun q => Value.ref q.a) ∧ pk.length = i ∧ (∀ q ∈ pk, q ∈ sh0) ∧ pk.map (fun q => (q.x, q.b)) = ((al).take i).map fun (q : Nat × Tok) => (q.1, toB sz (v0 q.1))) rfl F3 N3 (List.mem_of_getElem? (i := 5) rfl) (by rw [List.length_map]; exact Nat.le_trans al10 (by decide)) ⟨rfl, [], rfl, rfl, (fun q hq => nomatch hq), rfl⟩ (fun g => ?_) (fun g ys news hl' hJ => ?_)
    · intro i ys news v I oI C oC D m₂ h tk' E' hi' hyl p90 hP hS hC hx F4 N4 off ne
      obtain ⟨rfl, pk, rfl, hpl, hpm, hpv⟩ := p90
      refine genQ fun QC hQC => ?_
      clear F3 N3
      obtain ⟨q, hq, rfl⟩ : ∃ q, (al)[i]? = some q ∧ v = Value.int (q.1 : Int) q.2 := by
        rw [List.getElem?_map, Option.map_eq_some_iff] at hP
        exact ⟨hP.choose, hP.choose_spec.1, hP.choose_spec.2.symm⟩
      have hqc : q.1 < cn := hal _ (List.mem_map_of_mem ((List.mem_of_getElem? hq)))
      obtain ⟨sq, hsq⟩ : ∃ sq, sh0[q.1]? = some sq := ⟨_, List.getElem?_eq_getElem (by rw [hl0]; exact hqc)⟩
      k_extra "mine steps"
      rename News _ _ _ _ => N5
      refine item_news (i := 0) (l := TD) N5 (List.mem_of_getElem? (i := 5) rfl) rfl (by decide) rfl ?_
      k_extra "mine steps"
      rename News _ _ _ _ => N6
      refine kba_turn (value' := PySem.Expr.Name (Str.ofString "x") ⟨0, 0, 0, 0⟩) (fun _ => rfl) ?_
      refine item_news (i := q.1) (l := D0) N6 (List.mem_of_getElem? (i := 6) rfl) rfl (q10 hqc) (by rw [List.getElem?_map, hsq]; rfl) ?_
      k_extra "mine steps"
      rename Fr _ _ _ _ => F7
      rename News _ _ _ _ => N7
      refine hQC _ _ ?_
      refine LCg.CompEnd.intro F7 N7 _ (fun _ hp => hp) off hS ⟨rfl, pk ++ [sq], by rw [List.map_append]; rfl, by rw [List.length_append, hpl]; rfl, fun x hx => ?_, ?_⟩
      · rcases List.mem_append.mp hx with hx | hx
        · exact hpm x hx
        · rw [List.mem_singleton.mp hx]; exact List.mem_of_getElem? hsq
      · rw [List.map_append, hpv, List.take_add_one, hq, List.map_append]
        obtain ⟨e1, e2⟩ := hv0 _ _ hsq
        show _ ++ [(sq.x, sq.b)] = _
        rw [e1, e2]; rfl
    · obtain ⟨rfl, pk2, rfl, hk2, hm2, hp2v⟩ := hJ
      rw [List.length_map, List.take_length] at hp2v
      rw [List.length_map, List.length_drop, hrpl] at hk1
      rw [List.length_map] at hk2
      intro DB h tk' F4 N4 off2
      clear F3 N3
      try dsimp only
      refine add_lists (s := ⟨_, _, _, _, _⟩) (xs := pk1.map fun q => Value.ref q.a) (ys := pk2.map fun q => Value.ref q.a) F4 N4 (List.mem_of_getElem? (i := 1) rfl) (List.mem_of_getElem? (i := 0) rfl) (by rw [List.length_map, hk1]; exact Nat.le_trans (Nat.sub_le _ _) (Nat.le_trans (Nat.sub_le _ _) (Nat.le_trans hcn (by decide)))) (by rw [List.length_map, hk2]; exact Nat.le_trans al10 (by decide)) fun PK h6 F6 N6 lPK => ?_
      rw [← List.map_append] at N6
      have hpv : (pk1 ++ pk2).map (fun q => (q.x, q.b)) = ((rp.drop (rp.length - (th - kn))).map fun (q : Nat × Tok) => (q.1, toB sz (v1 q.1))) ++ (al.map fun (q : Nat × Tok) => (q.1, toB sz (v0 q.1))) := by rw [List.map_append, hp1v, hp2v]
      have hpl : (pk1 ++ pk2).length = th := by rw [List.length_append, hk1, hk2, hall, Nat.sub_sub_self (Nat.sub_le_sub_right htc kn), Nat.sub_add_cancel hkt']
      have hps : ∀ q ∈ pk1 ++ pk2, ShIn rs q := fun q hq => by
        rcases List.mem_append.mp hq with hq | hq
        · exact hs1 q (hm1 q hq)
        · exact hs0 q (hm2 q hq)
      have l13 := lPK _ (List.mem_of_getElem? (i := 11) rfl)
      have l14 := lPK _ (List.mem_of_getElem? (i := 12) rfl)
      dsimp only at l13 l14 ⊢
      generalize pk1 ++ pk2 = pk at hpv hpl hps N6
      have N7 := newsPick N6 12 rfl (newsPick N6 13 rfl (newsPick N6 0 rfl (newsPick N6 4 rfl (newsPick N6 5 rfl (newsPick N6 6 rfl (newsPick N6 7 rfl (newsPick N6 8 rfl (newsPick N6 9 rfl (newsPick N6 10 rfl (newsPick N6 11 rfl (newsDrop N6 14)))))))))))
      dsimp only [List.drop] at N7
      clear N6 N4 off off2 lPK hm1 hm2 hp1v hp2v hk1 hk2 F4 hl' lSL
      k_extra "mine steps"
      rename Fr _ _ _ _ => F8
      rename News _ _ _ _ => N8
      rename_i HH x1 l1 x2
      have offHH := allLt_mem (d := HH) (l := (232, tabObj p1) :: (150, tabObj p3) :: (PK, ({ cls := .type "list", data := .seq (shVals pk) 0 } : Obj)) :: (TD, lst [Value.ref D0, Value.ref D1]) :: (D0, lst (sh0.map fun q => Value.ref q.a)) :: (D1, lst (sh1.map fun q => Value.ref q.a)) :: (A, lst (al.map fun p => Value.int (p.1 : Int) p.2)) :: (R, PySem.W.listOf (rp.map fun p => Value.int (p.1 : Int) p.2).toArray kR) :: (W, lst (bytesVals [(w0, u0), (w1, u1)])) :: (L + 1 + 1 + 1 + 1 + 1 + 1, c6) :: (L + 1 + 1 + 1 + 1 + 1 + 1 + 1 + 1, c8) :: rs) l1
      have N8' := newsPick N8 1 rfl (newsPick N8 0 rfl (newsDrop N8 2))
      dsimp only [List.drop] at N8'
      have lt232 : @LT.lt Nat _ 232 HH := offHH (232, tabObj p1) (List.mem_of_getElem? (i := 0) rfl)
      have lHP : @LT.lt Nat _ PK HH := offHH (PK, _) (List.mem_of_getElem? (i := 2) rfl)
      refine hmac_make (s := ⟨_, _, _, _, _⟩) (ps := p1) (rs := _) (al := HH) X T (hd50 21 (by decide)) (hu50 403 (by decide)) C2 F8 N8' (fun p hp => ?_) hp1 (fun p hp => List.mem_of_mem_drop (i := 11) (ho1 p hp)) (List.mem_of_getElem? (i := 0) rfl) hky hfs fun fh h9 tk9 p1' nwH F9 N9 hp1' nwf HA => ?_
      · revert hp
        revert p
        refine fmc ?_ ?_
        · exact Nat.ne_of_gt lt232
        refine fmc ?_ ?_
        · exact (by decide : (150 : Nat) ≠ 232)
        refine fmc ?_ ?_
        · exact Nat.ne_of_gt l13
        intro p hp
        exact offs 232 (.inl rfl) p hp
      dsimp only at F9 N9 nwf ⊢
      have NR := newsRight (newsDrop N9 1)
      have N10 := newsPick (p := (HH, lst [])) NR 0 rfl (newsPick NR 1 rfl (newsPick N9 0 rfl (newsPick NR 2 rfl (newsPick NR 3 rfl (newsPick NR 4 rfl (newsPick NR 5 rfl (newsPick NR 6 rfl (newsPick NR 7 rfl (newsPick NR 8 rfl (newsPick NR 9 rfl (newsPick NR 10 rfl (newsApp (newsLeft (newsDrop N9 1)) (newsDrop NR 11)))))))))))))
      dsimp only [List.drop] at N10
      have nH := newFresh nwf N8 (i := 0) rfl
      have n15 := newFresh nwf N8 (i := 2) rfl
      have n23 := newFresh nwf N8 (i := 1) rfl
      clear NR N9 N8 N8' F8 nwf
      k_extra "mine steps"
      rename Fr _ _ _ _ => F11
      rename News _ _ _ _ => N11
      have e255 : interpB pk 255 sz = w1 := by rw [interpB_pts, hpv]; exact hi255
      have e254 : interpB pk 254 sz = cutT 4 (ansF ky forced other w1) ++ other := by rw [interpB_pts, hpv]; exact hi254
      have d4 : (cutT 4 (ansF ky forced other w1)).size = 4 := by
        unfold ansF
        split
        · rw [cutT_size]; exact Nat.min_eq_left (hf4.resolve_left (Nat.ne_of_gt (by assumption)))
        · exact cutT4_dig _ _ _
      have hpq : ∀ q ∈ pk, q.x < 256 ∧ q.b.size = sz := by
        intro q hq
        have hm : (q.x, q.b) ∈ pk.map (fun q => (q.x, q.b)) := List.mem_map_of_mem hq
        rw [hpv] at hm
        rcases List.mem_append.mp hm with hm | hm
        · obtain ⟨p, hp, e⟩ := List.mem_map.mp hm
          rw [← show p.1 = q.x from congrArg Prod.fst e, ← show toB sz _ = q.b from congrArg Prod.snd e]
          exact ⟨Nat.lt_of_lt_of_le (hrp _ (List.mem_map_of_mem (List.mem_of_mem_drop hp))) (Nat.le_trans hcn (by decide)), toB_size _ _⟩
        · obtain ⟨p, hp, e⟩ := List.mem_map.mp hm
          rw [← show p.1 = q.x from congrArg Prod.fst e, ← show toB sz _ = q.b from congrArg Prod.snd e]
          exact ⟨Nat.lt_of_lt_of_le (hal _ (List.mem_map_of_mem hp)) (Nat.le_trans hcn (by decide)), toB_size _ _⟩
      have hndx : (pk.map Sh.x).Nodup := by
        have e : pk.map Sh.x = (pk.map fun q => (q.x, q.b)).map (·.1) := by rw [List.map_map]; rfl
        rw [e, hpv, List.map_append, List.map_map, List.map_map]
        exact hnd
      refine recover_make (s := ⟨_, _, _, _, _⟩) (ps := p3) (shs := pk) (n := sz) (t := th) (ob1 := nwH ++ ob1) X T (hd50 61 (by decide)) (hu50 1003 (by decide)) C3 hp3 F11 N11 (fun p hp => ?_) (fun p hp => ?_) (fun p hp => ?_) HA hth2 (Nat.lt_of_le_of_lt hth4 (by decide)) (List.mem_of_getElem? (i := 1) rfl) (fun q hq => ?_) hndx (fun q hq => (hpq q hq).2) (fun e => ?_) (Nat.le_trans (Nat.le_of_eq hpl) (Nat.le_trans hth4 (by decide))) hs8 (by decide) (fun q hq => (hpq q hq).1) (fun b1 b2 => ?_) ?_ fun h13 tk13 gs13 dr13 p3' TT u u1 u2 F13 N13 tri13 gb13 nT => ?_
      · revert hp
        revert p
        refine fmc ?_ ?_
        · exact Nat.ne_of_lt lt232
        refine fmc ?_ ?_
        · exact Nat.ne_of_lt lHP
        intro p hp
        by_cases hw : p ∈ nwH
        · exact nH p hw
        refine Nat.ne_of_lt (offHH p ?_)
        revert hw hp
        revert p
        k_extra "mine sub"
      · revert hp
        revert p
        refine fmc ?_ ?_
        · exact (by decide : (232 : Nat) ≠ 150)
        refine fmc ?_ ?_
        · exact Nat.ne_of_gt l14
        intro p hp
        by_cases hw : p ∈ nwH
        · exact n15 p hw
        refine offs 150 (.inr rfl) p ?_
        revert hw hp
        revert p
        k_extra "mine sub"
      · refine List.mem_of_mem_drop (i := 10) ?_
        show p ∈ nwH ++ rs
        rcases List.mem_append.mp hp with h | h
        · exact List.mem_append_left _ h
        · exact List.mem_append_right _ (ho1 p h)
      · exact (hps q hq).mono fun p hp => List.mem_of_mem_drop (i := 10) (List.mem_append_right _ hp)
      · rw [e] at hpl; rw [← hpl] at hth2; exact absurd hth2 (by decide)
      · unfold ansF
        split
        · exact Nat.le_trans hfs (by decide)
        · rw [digB_size]; decide
      · rw [e254, e255, cutT_app d4, cutD_app d4]
      rw [e255, e254, cutD_app d4] at N13
      rw [e255]
      dsimp only at F13 N13 gb13 ⊢
      clear F11 N11
      k_extra "mine steps"
      rename Fr _ _ _ _ => F14
      rename News _ _ _ _ => N14
      refine item_news (i := 1) (l := W) N14 (List.mem_of_getElem? (i := 10) rfl) rfl (by decide) rfl ?_
      try dsimp only
      k_extra "mine steps"
      · rename (_ != _) = true => hbad
        exact absurd hbad (by simp)
      rename Fr _ _ _ _ => F15
      rename News _ _ _ _ => N15
      refine item_news (i := 1) (l := W) N15 (List.mem_of_getElem? (i := 10) rfl) rfl (by decide) rfl ?_
      try dsimp only
      k_extra "mine steps"
      rename Fr _ _ _ _ => F16
      rename News _ _ _ _ => N16
      rename (HH < _ ∧ _ ∧ TT < _ ∧ _) => l9
      refine ne_same (s := ⟨_, _, _, _, _⟩) (xs := [.ref TT]) (ys := [_]) ⟨_, (N16 _ (List.mem_of_getElem? (i := 2) rfl)).1, rfl, _, rfl⟩ ⟨_, (N16 _ (.head _)).1, rfl, _, rfl⟩ rfl ?_ (fun j x y hx hy => ?_) ?_
      · dsimp only [tp, Around.deeper]; omega
      · match j, hx, hy with
        | 0, hx, hy =>
          cases hx; cases hy
          exact eqAt_pair (Nat.ne_of_lt l9.2.2.1) ⟨_, (N16 _ (List.mem_of_getElem? (i := 4) rfl)).1, rfl, _, rfl⟩ ⟨_, (N16 _ (.tail _ (.head _))).1, rfl, _, rfl⟩ (by dsimp only [tp, Around.deeper]; omega) (eqAt_bytes _ _ _) (eqAt_bytes _ _ _)
        | j + 1, hx, hy => simp at hx
      have N17 := newsPick N16 6 rfl (newsPick N16 12 rfl (newsPick N16 13 rfl (newsPick N16 14 rfl (newsPick N16 5 rfl (newsPick N16 3 rfl (newsDrop N16 15))))))
      dsimp only [List.drop] at N17
      clear N16 l9
      k_extra "mine steps"
      rename Fr _ _ _ _ => F18
      rename News _ _ _ _ => N18
      refine hQ _ _ gs13 dr13 _ p1' p3' PK pk nwH F18 (fun y h0 h1 h2 => (if_neg h0).trans ((if_neg h1).trans ((if_neg h2).trans (congrFun (ov_eq hm) y)))) rfl gb13 tri13 hp1' N18 (fun a ha => ?_) hps hpl hpv
      rcases ha with rfl | rfl
      · exact ⟨n23, Nat.ne_of_gt l13⟩
      · exact ⟨n15, Nat.ne_of_gt l14⟩
end
end
section
theorem bOf_getD {val : Nat → Nat} {n i : Nat} (h : i < n) : ((bOf val n).toList.getD i 0).toNat = val i % 256 := by
  have e : (bOf val n).toList.getD i 0 = (val i).toUInt8 := by
    simp [bOf, h]
  rw [e]
  show (UInt8.ofNat (val i)).toNat = _
  rw [UInt8.toNat_ofNat']
theorem arr_ext {a b : Array UInt8} {n : Nat} (ha : a.size = n) (hb : b.size = n) (h : ∀ i, i < n → (a.toList.getD i 0).toNat = (b.toList.getD i 0).toNat) : a = b := by
  refine Array.ext (by rw [ha, hb]) fun i h1 h2 => ?_
  have := h i (by omega)
  simp only [List.getD_eq_getElem?_getD, Array.getElem?_toList, Array.getElem?_eq_getElem h1, Array.getElem?_eq_getElem h2, Option.getD_some] at this
  exact UInt8.toNat_inj.mp this
theorem getD_foldl (f : Sh → Nat) {i n : Nat} (hi : i < n) : ∀ (l : List Sh) (r : Array UInt8), r.size = n → (∀ q ∈ l, q.b.size = n) →
    ((l.foldl (fun r q => addMul (f q) q.b r) r).toList.getD i 0).toNat = l.foldl (fun a q => a ^^^ mulB (f q) (q.b.toList.getD i 0).toNat) (r.toList.getD i 0).toNat
  | [], _, _, _ => rfl
  | q :: l, r, hr, hb => by
    have hq := hb q (by simp)
    rw [List.foldl_cons, List.foldl_cons, getD_foldl f hi l (addMul (f q) q.b r) (by unfold addMul; rw [bOf_size, hq]) (fun p hp => hb p (by simp [hp]))]
    congr 1
    unfold addMul
    rw [bOf_getD (by rw [hq]; exact hi)]
    exact Nat.mod_eq_of_lt (x256 (UInt8.toNat_lt _) (mulB_lt _ _))
theorem xsum_map {α β : Type} (k : α → β) (g : β → Nat) : ∀ l : List α, xsum (fun a => g (k a)) l = xsum g (l.map k)
  | [] => rfl
  | a :: l => by rw [xsum, List.map_cons, xsum, xsum_map k g l]
theorem lbe_X (shs : List Sh) (x : Nat) (q : Sh) : lbe shs x q = lbeX (shs.map Sh.x) x q.x := by
  unfold lbe lbeX lprod lsum
  rw [List.map_map, List.map_map]
  rfl
theorem interp_packed {pts : List (Nat × Array UInt8)} {n x : Nat} {f : Nat → Nat} (hp : ∀ j, j < n → Poly pts.length fun x => oct (f x) j) (nd : (pts.map (·.1)).Nodup) (hq : ∀ q ∈ pts, q.1 < 256 ∧ q.2 = toB n (f q.1)) (hx : x < 256) : interpP pts x n = toB n (f x) := by
  unfold interpP
  have exs : (pts.map shOf).map Sh.x = pts.map (·.1) := by rw [List.map_map]; rfl
  have hbs : ∀ q ∈ pts.map shOf, q.x < 256 ∧ q.b = toB n (f q.x) := by
    intro q h
    obtain ⟨p, hp, rfl⟩ := List.mem_map.mp h
    exact hq p hp
  have hlen : (pts.map shOf).length = pts.length := List.length_map _
  generalize pts.map shOf = shs at exs hbs hlen
  rw [← exs] at nd
  by_cases hm : x ∈ shs.map Sh.x
  · obtain ⟨q, h, e⟩ := List.mem_map.mp hm
    rw [interpB_found nd h e, (hbs q h).2, e]
  · have hsz : ∀ q ∈ shs, q.b.size = n := fun q h => by rw [(hbs q h).2, toB_size]
    rw [interpB_none hm]
    refine arr_ext (lagr_size hsz _) (toB_size _ _) fun i hi => ?_
    unfold lagr
    rw [List.take_length, getD_foldl _ hi shs _ (bOf_size _ _) hsz, bOf_getD hi, xsum_fold, toB_get hi]
    show 0 ^^^ _ = oct (f x) (n - 1 - i)
    rw [Nat.zero_xor, xsum_congr (g' := fun q => (fun a => mulB (lbeX (shs.map Sh.x) x a) (oct (f a) (n - 1 - i))) q.x) fun q h => by
      rw [lbe_X, (hbs q h).2, toB_get hi]; rfl]
    rw [xsum_map Sh.x (fun a => mulB (lbeX (shs.map Sh.x) x a) (oct (f a) (n - 1 - i)))]
    refine lagrange_code (f := fun x => oct (f x) (n - 1 - i)) ?_ nd (fun b hb => ?_) hx hm
    · rw [List.length_map, hlen]; exact hp _ (by omega)
    · obtain ⟨q, h, rfl⟩ := List.mem_map.mp hb
      exact (hbs q h).1
theorem oct_ext : ∀ (n a b : Nat), a < 256 ^ n → b < 256 ^ n → (∀ j, j < n → oct a j = oct b j) → a = b
  | 0, a, b, ha, hb, _ => by simp at ha hb; omega
  | n + 1, a, b, ha, hb, h => by
    have h0 := h 0 (by omega)
    rw [oct_zero, oct_zero] at h0
    have h1 := oct_ext n (a / 256) (b / 256) (by rw [Nat.pow_succ] at ha; omega) (by rw [Nat.pow_succ] at hb; omega) fun j hj => by
      have := h (j + 1) (by omega)
      rwa [oct_succ, oct_succ] at this
    omega
theorem onF_ones {n : Nat} (h : packN n) : onF n = onesF n := by
  rcases h with rfl | rfl | rfl | rfl | rfl <;> decide +kernel
theorem oct_gt' {n a r j : Nat} (h : packN n) (ha : a < 256) (hj : j < n) : oct (gt a r (onF n)) j = mu a (oct r j) := by
  rw [onF_ones h, oct_gt n _ _ _ hj, gt_mu ha (oct_lt _ _)]
theorem lt_xor {x : Nat} (hx : x < 256) {c : Nat} (hc : c < 256) : x ^^^ c < 256 := x256 hx hc
theorem prodF_poly : ∀ (l : List Nat) {t : Nat} {f : Nat → Nat}, (∀ p ∈ l, p < 256) → Poly t f → Poly (t + l.length) fun x => l.foldl (fun t p => gt (p ^^^ x) t 1) (f x)
  | [], t, f, _, h => h
  | p :: l, t, f, hl, h => by
    have h1 : Poly (t + 1) fun x => gt (p ^^^ x) (f x) 1 := (h.lin p).congr fun x hx => by rw [gt_mu (x256 (hl p (by simp)) hx) (h.lt hx), Nat.xor_comm]
    have h2 := prodF_poly l (fun q hq => hl q (by simp [hq])) h1
    rw [List.length_cons, show t + (l.length + 1) = t + 1 + l.length from (Nat.add_right_comm t 1 l.length).symm]
    exact h2
theorem prodF_zero {x : Nat} : ∀ (l : List Nat) (t : Nat), (t = 0 ∨ x ∈ l) → t < 256 → l.foldl (fun t p => gt (p ^^^ x) t 1) t = 0
  | [], t, h, _ => by rcases h with h | h
                      · exact h
                      · cases h
  | p :: l, t, h, ht => by
    rw [List.foldl_cons]
    refine prodF_zero l _ ?_ (gt1_lt _ _ ht)
    rcases h with h | h
    · left; rw [h]
      have : gt (p ^^^ x) 0 1 = gt (p ^^^ x) 0 1 ^^^ gt (p ^^^ x) 0 1 := gt_row (p ^^^ x) (r := 0) (r' := 0) (by decide) (by decide)
      rwa [Nat.xor_self] at this
    · rcases List.mem_cons.mp h with rfl | h
      · left; rw [Nat.xor_self]; rfl
      · exact .inr h
theorem free_poly {n j : Nat} (hp : packN n) (hj : j < n) : ∀ (l : List Nat) {t : Nat} {f : Nat → Nat}, Poly t (fun x => oct (f x) j) → Poly (t + l.length) fun x => oct (freeF x (onF n) l (f x)) j
  | [], t, f, h => h
  | r :: l, t, f, h => by
    have h1 : Poly (t + 1) fun x => oct (gt x (f x) (onF n) ^^^ r) j := by
      have h2 := h.shift.xor ((Poly.const (oct_lt r j)).up (by omega : 1 ≤ t + 1))
      exact h2.congr fun x hx => by rw [oct_xor, oct_gt' hp hx hj]
    have h3 := free_poly hp hj l h1
    rw [List.length_cons, show t + (l.length + 1) = t + 1 + l.length from (Nat.add_right_comm t 1 l.length).symm]
    exact h3
theorem share_poly {n j sc dg : Nat} {rows : List Nat} (hp : packN n) (hj : j < n) : Poly (rows.length + 2) fun x => oct (shareF sc dg rows x (onF n)) j := by
  have h1 : Poly 2 fun x => mu (x ^^^ 255) (oct (sc ^^^ dg) j) := (Poly.const (oct_lt (sc ^^^ dg) j)).lin 255
  have h2 : Poly (rows.length + 2) fun x => oct sc j ^^^ mu (x ^^^ 255) (oct (sc ^^^ dg) j) := ((Poly.const (oct_lt sc j)).up (by omega)).xor (h1.up (by omega))
  cases rows with
  | nil =>
    refine h2.congr fun x hx => ?_
    unfold shareF
    rw [Nat.xor_zero, oct_xor, oct_gt' hp (x256 hx (by decide)) hj]
  | cons r l =>
    have h3 := free_poly hp hj l (t := 1) (f := fun _ => r) (Poly.const (oct_lt r j))
    have h4 := (h3.lin 254).lin 255
    rw [List.length_cons] at h2 ⊢
    have h5 := h2.xor (h4.up (by omega : 1 + l.length + 1 + 1 ≤ l.length + 1 + 2))
    refine h5.congr fun x hx => ?_
    have b1 := x256 hx (show 255 < 256 by decide)
    have b2 := x256 hx (show 254 < 256 by decide)
    unfold shareF
    dsimp only
    rw [oct_xor, oct_xor, oct_gt' hp b1 hj, oct_gt' hp (gt1_lt _ _ b2) hj, gt_mu b1 b2, mu_assoc]
theorem two_poly {n j high low k : Nat} {al : List Nat} (hp : packN n) (hj : j < n) (hal : ∀ p ∈ al, p < 256) (hk : k = al.length + 2 ∨ (k = al.length + 1 ∧ low = high)) {f : Nat → Nat} (hf : Poly k fun x => oct (f x) j) : Poly k fun x => oct (twoF al (onF n) high low x (f x)) j := by
  have hpr := prodF_poly al hal (Poly.const (show 1 < 256 by decide))
  have e : ∀ x, x < 256 → oct (twoF al (onF n) high low x (f x)) j = oct (f x) j ^^^ (mu (prodF al x) (oct high j) ^^^ mu (prodF al x) (mu (x ^^^ 255) (oct (high ^^^ low) j))) := by
    intro x hx
    unfold twoF
    rw [oct_xor, oct_gt' hp (prodF_lt _ _) hj, oct_xor, oct_gt' hp (x256 hx (by decide)) hj, mu_xor]
  have h1 : Poly (al.length + 1) fun x => mu (prodF al x) (oct high j) := by
    have := hpr.mul (oct high j)
    rw [Nat.add_comm] at this
    exact this.congr fun x _ => mu_comm _ _
  have h2 : Poly (al.length + 2) fun x => mu (prodF al x) (mu (x ^^^ 255) (oct (high ^^^ low) j)) := by
    have := (hpr.mul (oct (high ^^^ low) j)).lin 255
    rw [show 1 + al.length + 1 = al.length + 2 by omega] at this
    refine this.congr fun x _ => ?_
    rw [← mu_assoc, mu_comm (prodF al x), mu_assoc, mu_comm (prodF al x)]
    rfl
  rcases hk with rfl | ⟨rfl, rfl⟩
  · exact (hf.xor ((h1.up (by omega)).xor h2)).congr e
  · refine (hf.xor h1).congr fun x hx => ?_
    rw [e x hx, Nat.xor_self]
    have z : oct 0 j = 0 := by unfold oct; simp
    rw [z, mu_zero, mu_zero, Nat.xor_zero]
theorem gt_zero_row (a n : Nat) {o : Nat} : gt 0 a o = 0 := rfl
theorem gt_inv {n a r : Nat} (hp : packN n) (ha : a < 256) (h0 : a ≠ 0) (hr : r < 256 ^ n) : gt a (gt (invF a) r (onF n)) (onF n) = r := by
  refine oct_ext n _ _ (gt_pack hp (gt_pack hp hr)) hr fun j hj => ?_
  rw [oct_gt' hp ha hj, oct_gt' hp (invF_lt _ ha) hj, ← mu_assoc, mu_comm a, inv_mu a ha h0, one_mu (oct_lt _ _)]
theorem gt_one {n r : Nat} (hp : packN n) (hr : r < 256 ^ n) : gt 1 r (onF n) = r := by
  refine oct_ext n _ _ (gt_pack hp hr) hr fun j hj => ?_
  rw [oct_gt' hp (by decide) hj, one_mu (oct_lt _ _)]
end
section
open PySem
theorem ofB_app : ∀ (l : List UInt8) (a : Nat), l.foldl (fun a c => a * 256 + c.toNat) a = a * 256 ^ l.length + l.foldl (fun a c => a * 256 + c.toNat) 0
  | [], a => by simp
  | c :: l, a => by
    rw [List.foldl_cons, List.foldl_cons, ofB_app l (a * 256 + c.toNat), ofB_app l (0 * 256 + c.toNat), List.length_cons, Nat.pow_succ, Nat.zero_mul, Nat.zero_add, Nat.add_mul, Nat.mul_assoc, Nat.mul_comm 256]
    omega
theorem oct_ofL : ∀ (l : List UInt8) (i : Nat), i < l.length → oct (l.foldl (fun a c => a * 256 + c.toNat) 0) (l.length - 1 - i) = (l.getD i 0).toNat
  | [], _, h => absurd h (Nat.not_lt_zero _)
  | c :: l, i, h => by
    have hl : l.foldl (fun a c => a * 256 + c.toNat) 0 < 256 ^ l.length := by
      have := ofB_lt l.toArray
      simpa [ofB] using this
    rw [List.foldl_cons, ofB_app l, Nat.zero_mul, Nat.zero_add, List.length_cons]
    cases i with
    | zero =>
      unfold oct
      rw [show l.length + 1 - 1 - 0 = l.length from rfl, Nat.mul_comm, Nat.mul_add_div (Nat.pow_pos (by decide)), Nat.div_eq_of_lt hl, Nat.add_zero]
      exact Nat.mod_eq_of_lt (UInt8.toNat_lt _)
    | succ i =>
      have hi : i < l.length := by simpa using h
      rw [show l.length + 1 - 1 - (i + 1) = l.length - 1 - i from (Nat.sub_add_eq l.length i 1).trans (Nat.sub_right_comm _ _ _)]
      rw [show (c :: l).getD (i + 1) 0 = l.getD i 0 by simp [List.getD_eq_getElem?_getD], ← oct_ofL l i hi]
      unfold oct
      rw [show 256 ^ l.length = 256 ^ (l.length - 1 - i) * (256 * 256 ^ i) by rw [← Nat.pow_succ', ← Nat.pow_add]; congr 1; omega]
      rw [Nat.mul_comm c.toNat, Nat.mul_assoc, Nat.mul_add_div (Nat.pow_pos (by decide)), Nat.mul_assoc, Nat.mul_add_mod]
theorem toB_ofB {b : Array UInt8} {n : Nat} (h : b.size = n) : toB n (ofB b) = b := by
  refine arr_ext (toB_size _ _) h fun i hi => ?_
  rw [toB_get hi]
  have := oct_ofL b.toList i (by rw [Array.length_toList, h]; exact hi)
  rw [Array.length_toList, h] at this
  exact this
theorem toB_inj {n a b : Nat} (ha : a < 256 ^ n) (hb : b < 256 ^ n) (h : toB n a = toB n b) : a = b := by
  refine oct_ext n a b ha hb fun j hj => ?_
  have := congrArg (fun x : Array UInt8 => (x.toList.getD (n - 1 - j) 0).toNat) h
  rw [toB_get (by omega), toB_get (by omega), show n - 1 - (n - 1 - j) = j from Nat.sub_sub_self (Nat.le_sub_one_of_lt hj)] at this
  exact this
theorem ofB_toB {n x : Nat} (h : x < 256 ^ n) : ofB (toB n x) = x := by
  refine toB_inj (n := n) ?_ h (toB_ofB (toB_size _ _))
  have := ofB_lt (toB n x)
  rwa [toB_size] at this
theorem split_poly {th cn sz : Nat} {f : Nat → Nat} {op : List (Nat × Tok)} {ds : List (Array UInt8 × Tok)} {e dig sec : Array UInt8} (hth : 2 ≤ th) (htc : th ≤ cn) (hcn : cn ≤ 10) (hf : ∀ j, j < sz → Poly th fun x => oct (f x) j) (hop : op.map (·.1) = (List.range cn).map f)
    (hd : ds.map (·.1) = ((op.take (th - 2)).map fun q => toB sz q.1) ++ [e]) (hdig : dig = toB sz (f 254)) (hsec : sec = toB sz (f 255)) (j : Nat) (d : Nat × Tok) (hj : op[j]? = some d) : splitRow th ds dig sec j = toB sz d.1 := by
  have hol : op.length = cn := by have := congrArg List.length hop; simpa using this
  have hjc : j < cn := hol ▸ (List.getElem?_eq_some_iff.mp hj).1
  have hfd : ∀ (i : Nat) (q : Nat × Tok), op[i]? = some q → q.1 = f i := by
    intro i q h
    have h1 := congrArg (fun l => l[i]?) hop
    have hi : i < cn := hol ▸ (List.getElem?_eq_some_iff.mp h).1
    rw [List.getElem?_map, h, List.getElem?_map, List.getElem?_range hi] at h1
    simpa using h1
  have hds : ∀ i, i < th - 2 → (ds.getD i (#[], 0)).1 = toB sz (f i) := by
    intro i hi
    have h1 := congrArg (fun l => l[i]?) hd
    obtain ⟨q, hq⟩ : ∃ q, op[i]? = some q := ⟨_, List.getElem?_eq_getElem (by rw [hol]; exact Nat.lt_of_lt_of_le hi (Nat.le_trans (Nat.sub_le _ _) htc))⟩
    rw [List.getElem?_append_left (by rw [List.length_map, List.length_take, hol]; exact Nat.lt_min.mpr ⟨hi, Nat.lt_of_lt_of_le hi (Nat.le_trans (Nat.sub_le _ _) htc)⟩), List.getElem?_map, List.getElem?_map, List.getElem?_take_of_lt hi, hq] at h1
    rw [List.getD_eq_getElem?_getD]
    cases hd' : ds[i]? with
    | none => rw [hd'] at h1; simp at h1
    | some p =>
      rw [hd'] at h1
      simp only [Option.map_some, Option.some.injEq] at h1
      rw [Option.getD_some, h1, hfd i q hq]
  have hd1 := hfd j d hj
  unfold splitRow
  split
  · next h => rw [hds j h, hd1]
  · next h =>
    rw [hsec, toB_size, ← hsec, hd1]
    have hlen : (basePts th ds dig sec).length = th := by
      unfold basePts; simp; exact Nat.sub_add_cancel hth
    refine interp_packed (f := f) (fun k hk => by rw [hlen]; exact hf k hk) ?_ (fun q hq => ?_) (by omega)
    · unfold basePts
      rw [List.map_append, List.map_map]
      have e1 : (List.range (th - 2)).map ((fun x : Nat × Array UInt8 => x.1) ∘ fun j => (j, (ds.getD j (#[], 0)).1)) = List.range (th - 2) := by
        rw [show ((fun x : Nat × Array UInt8 => x.1) ∘ fun j => (j, (ds.getD j (#[], 0)).1)) = id from rfl, List.map_id]
      rw [e1]
      show (List.range (th - 2) ++ [254, 255]).Nodup
      rw [List.nodup_append]
      refine ⟨List.nodup_range, by decide, fun a ha b hb e => ?_⟩
      rw [List.mem_range] at ha
      simp only [List.mem_cons, List.not_mem_nil, or_false] at hb
      omega
    · unfold basePts at hq
      rcases List.mem_append.mp hq with hq | hq
      · obtain ⟨i, hi, rfl⟩ := List.mem_map.mp hq
        rw [List.mem_range] at hi
        exact ⟨by show i < 256; omega, hds i hi⟩
      · simp only [List.mem_cons, List.not_mem_nil, or_false] at hq
        rcases hq with rfl | rfl
        · exact ⟨by show 254 < 256; decide, hdig⟩
        · exact ⟨by show 255 < 256; decide, hsec⟩
theorem join_poly {th sz x : Nat} {f v w : Nat → Nat} {as bs : List (Nat × Tok)} (hf : ∀ j, j < sz → Poly th fun x => oct (f x) j) (hl : as.length + bs.length = th) (nd : ((as.map fun q => q.1) ++ (bs.map fun q => q.1)).Nodup) (ha : ∀ q ∈ as, q.1 < 256 ∧ v q.1 = f q.1) (hb : ∀ q ∈ bs, q.1 < 256 ∧ w q.1 = f q.1) (hx : x < 256) :
    interpP ((as.map fun q => (q.1, toB sz (v q.1))) ++ (bs.map fun q => (q.1, toB sz (w q.1)))) x sz = toB sz (f x) := by
  refine interp_packed (f := f) (fun k hk => ?_) ?_ (fun q hq => ?_) hx
  · rw [List.length_append, List.length_map, List.length_map, hl]; exact hf k hk
  · rw [List.map_append, List.map_map, List.map_map]; exact nd
  · rcases List.mem_append.mp hq with hq | hq
    · obtain ⟨p, hp, rfl⟩ := List.mem_map.mp hq
      exact ⟨(ha p hp).1, by show toB sz (v p.1) = toB sz (f p.1); rw [(ha p hp).2]⟩
    · obtain ⟨p, hp, rfl⟩ := List.mem_map.mp hq
      exact ⟨(hb p hp).1, by show toB sz (w p.1) = toB sz (f p.1); rw [(hb p hp).2]⟩
end
section
set_option linter.unusedSectionVars false
open PySem
def v0F (sz sc dg : Nat) (rows : List Nat) (x : Nat) : Nat := shareF sc dg rows x (onF sz)
def v1F (sz sc dg : Nat) (rows al : List Nat) (high low x : Nat) : Nat := twoF al (onF sz) high low x (v0F sz sc dg rows x)
section
variable {sz sc dg : Nat} {rows : List Nat} (hp : packN sz) (hsc : sc < 256 ^ sz) (hdg : dg < 256 ^ sz)
include hp hsc hdg
theorem v0_lt (hr : ∀ r ∈ rows, r < 256 ^ sz) (x : Nat) : v0F sz sc dg rows x < 256 ^ sz := shareF_pack hp hsc hdg hr
theorem v0_255 : v0F sz sc dg rows 255 = sc := by
  unfold v0F shareF
  rw [Nat.xor_self]
  have z : ∀ a, gt 0 a (onF sz) = 0 := fun a => rfl
  have z1 : ∀ a, gt 0 a 1 = 0 := fun a => rfl
  cases rows with
  | nil => rw [z, Nat.xor_zero, Nat.xor_zero]
  | cons r l =>
    dsimp only
    rw [z, z1, z, Nat.xor_zero, Nat.xor_zero]
theorem v0_254 : v0F sz sc dg rows 254 = dg := by
  unfold v0F shareF
  have z : ∀ a, gt 0 a (onF sz) = 0 := fun a => rfl
  have e : sc ^^^ gt (254 ^^^ 255) (sc ^^^ dg) (onF sz) = dg := by
    rw [show (254 : Nat) ^^^ 255 = 1 by decide, gt_one hp (xor256 hsc hdg), ← Nat.xor_assoc, Nat.xor_self, Nat.zero_xor]
  rw [e]
  cases rows with
  | nil => rw [Nat.xor_zero]
  | cons r l =>
    dsimp only
    rw [show gt (254 ^^^ 255) (254 ^^^ 254) 1 = 0 by decide, z, Nat.xor_zero]
end
section
variable {sz sc dg high low : Nat} {rows al : List Nat} (hp : packN sz)
include hp
theorem v1_lt (hsc : sc < 256 ^ sz) (hdg : dg < 256 ^ sz) (hr : ∀ r ∈ rows, r < 256 ^ sz) (hh : high < 256 ^ sz) (hl : low < 256 ^ sz) (x : Nat) : v1F sz sc dg rows al high low x < 256 ^ sz := by
  unfold v1F twoF
  exact xor256 (v0_lt hp hsc hdg hr x) (gt_pack hp (xor256 hh (gt_pack hp (xor256 hh hl))))
theorem v1_al {x : Nat} (h : x ∈ al) : v1F sz sc dg rows al high low x = v0F sz sc dg rows x := by
  unfold v1F twoF
  have e : prodF al x = 0 := prodF_zero al 1 (.inr h) (by decide)
  rw [e, show ∀ a, gt 0 a (onF sz) = 0 from fun a => rfl, Nat.xor_zero]
theorem v1_255 {se : Nat} (hsc : sc < 256 ^ sz) (hdg : dg < 256 ^ sz) (hse : se < 256 ^ sz) (hal : ∀ p ∈ al, p < 256 ∧ p ≠ 255) (hh : high = gt (invF (prodF al 255)) (sc ^^^ se) (onF sz)) : v1F sz sc dg rows al high low 255 = se := by
  unfold v1F twoF
  rw [v0_255 hp hsc hdg, Nat.xor_self, show ∀ a, gt 0 a (onF sz) = 0 from fun a => rfl, Nat.xor_zero, hh, gt_inv hp (prodF_lt _ _) (prodF_ne (by decide) hal) (xor256 hsc hse), ← Nat.xor_assoc, Nat.xor_self, Nat.zero_xor]
theorem v1_254 (hsc : sc < 256 ^ sz) (hdg : dg < 256 ^ sz) (hh : high < 256 ^ sz) (hl : low < 256 ^ sz) : v1F sz sc dg rows al high low 254 = dg ^^^ gt (prodF al 254) low (onF sz) := by
  unfold v1F twoF
  rw [v0_254 hp hsc hdg, show (254 : Nat) ^^^ 255 = 1 by decide, gt_one hp (xor256 hh hl), ← Nat.xor_assoc, Nat.xor_self, Nat.zero_xor]
end
theorem cut_join {n : Nat} (b : Array UInt8) : cutT n b ++ cutD n b = b := by
  unfold cutT cutD
  have : (b.toList.take n).toArray ++ (b.toList.drop n).toArray = (b.toList.take n ++ b.toList.drop n).toArray := by simp
  rw [this, List.take_append_drop, Array.toArray_toList]
section
variable {ns : List Int} {th kn sz : Nat} {ky : Int} {dg se high low : Nat} {al : List Nat} {forced other : Array UInt8}
theorem pick_low (hp : packN sz) (hh : high < 256 ^ sz) (hdg : dg < 256 ^ sz) (hP : PickF ns th kn sz ky dg se high al low forced other) : low < 256 ^ sz := by
  have h4 : 4 ≤ sz := pack4 hp
  rcases hP with ⟨_, _, ho, hl⟩ | ⟨_, hl, _, _⟩
  · rw [hl]
    refine gt_pack hp (xor256 hdg ?_)
    have := ofB_lt (cutT 4 (digB ky other (toB sz se)) ++ other)
    have es : (cutT 4 (digB ky other (toB sz se)) ++ other).size = sz := by rw [Array.size_append, cutT4_dig, ho, toB_size]; exact Nat.add_sub_cancel' h4
    rwa [es] at this
  · rw [hl]; exact hh
theorem pick_sizes (hp : packN sz) (hP : PickF ns th kn sz ky dg se high al low forced other) : other.size = sz - 4 ∧ forced.size ≤ 1000 ∧ (forced.size = 0 ∨ 4 ≤ forced.size) := by
  have h4 : 4 ≤ sz := pack4 hp
  rcases hP with ⟨_, hf, ho, hl⟩ | ⟨_, hl, hf, ho⟩
  · rw [ho, hf, toB_size]; exact ⟨rfl, by decide, .inl rfl⟩
  · have e : forced.size = 6 := by rw [hf, Array.size_append, cutT_size, toB_size]; show min 4 sz + 2 = 6; rw [Nat.min_eq_left h4]
    rw [ho, cutD_size, toB_size, e]; exact ⟨rfl, by decide, .inr (by decide)⟩
theorem pick_254 {sc : Nat} {rows : List Nat} (hp : packN sz) (hsc : sc < 256 ^ sz) (hdg : dg < 256 ^ sz) (hh : high < 256 ^ sz) (hal : ∀ p ∈ al, p < 256 ∧ p ≠ 254) (hP : PickF ns th kn sz ky dg se high al low forced other) :
    toB sz (v1F sz sc dg rows al high low 254) = cutT 4 (ansF ky forced other (toB sz se)) ++ other := by
  have h4 : 4 ≤ sz := pack4 hp
  rw [v1_254 hp hsc hdg hh (pick_low hp hh hdg hP)]
  rcases hP with ⟨_, hf, ho, hl⟩ | ⟨_, hl, hf, ho⟩
  · have es : (cutT 4 (digB ky other (toB sz se)) ++ other).size = sz := by rw [Array.size_append, cutT4_dig, ho, toB_size]; exact Nat.add_sub_cancel' h4
    have hlt : ofB (cutT 4 (digB ky other (toB sz se)) ++ other) < 256 ^ sz := by
      have := ofB_lt (cutT 4 (digB ky other (toB sz se)) ++ other)
      rwa [es] at this
    have e1 : dg ^^^ gt (prodF al 254) low (onF sz) = ofB (cutT 4 (digB ky other (toB sz se)) ++ other) := by
      rw [hl, gt_inv hp (prodF_lt _ _) (prodF_ne (by decide) hal) (xor256 hdg hlt), ← Nat.xor_assoc, Nat.xor_self, Nat.zero_xor]
    rw [e1, toB_ofB es, hf]
    unfold ansF
    rw [if_neg (by decide)]
  · rw [hl]
    have e : (cutT 4 (toB sz (dg ^^^ gt (prodF al 254) high (onF sz)))).size = 4 := by rw [cutT_size, toB_size]; exact Nat.min_eq_left h4
    have ef : ansF ky forced other (toB sz se) = forced := by
      unfold ansF
      rw [if_pos (by rw [hf, Array.size_append, e]; show 0 < 4 + 2; decide)]
    rw [ef, hf, cutT_app e, ho, cut_join]
end
theorem turnF_ne (ns : List Int) : turnF ns ≠ 0 := by
  unfold turnF
  rw [Nat.shiftLeft_eq]
  exact Nat.ne_of_gt (Nat.mul_pos (by omega) (Nat.pow_pos (by decide)))
theorem turned_bad {ns : List Int} {a b : Array UInt8} (ha : 4 ≤ a.size) : cutT 4 a ≠ cutT 4 (toB 4 (ofB (cutT 4 a) ^^^ turnF ns) ++ b) := by
  have e4 : (cutT 4 a).size = 4 := by rw [cutT_size]; exact Nat.min_eq_left (by assumption)
  rw [cutT_app (toB_size _ _)]
  intro q
  have hl : ofB (cutT 4 a) < 256 ^ 4 := by have := ofB_lt (cutT 4 a); rwa [e4] at this
  have h2 : toB 4 (ofB (cutT 4 a)) = toB 4 (ofB (cutT 4 a) ^^^ turnF ns) := by rw [toB_ofB e4]; exact q
  have h3 := toB_inj hl (xor256 hl (turnF_lt ns)) h2
  have h4 : turnF ns = 0 := by
    have := congrArg (fun x => ofB (cutT 4 a) ^^^ x) h3
    simp only [Nat.xor_self, ← Nat.xor_assoc, Nat.zero_xor] at this
    exact this.symm
  exact turnF_ne ns h4
end
section
theorem rest_length {n : Nat} {al : List Nat} (hn : al.Nodup) (h : ∀ x ∈ al, x < n) : ((List.range n).filter (fun x => !decide (x ∈ al))).length = n - al.length := by
  have hp : ((List.range n).filter fun x => decide (x ∈ al)).Perm al := by
    refine (List.perm_ext_iff_of_nodup (List.Pairwise.filter _ List.nodup_range) hn).mpr fun x => ?_
    rw [List.mem_filter, List.mem_range]
    simp only [decide_eq_true_eq]
    exact ⟨fun q => q.2, fun q => ⟨h x q, q⟩⟩
  have h1 := hp.length_eq
  have h2 := List.length_eq_countP_add_countP (fun x => decide (x ∈ al)) (l := List.range n)
  rw [List.length_range, List.countP_eq_length_filter, List.countP_eq_length_filter, h1] at h2
  have h3 : (List.range n).filter (fun a => decide ¬(decide (a ∈ al)) = true) = (List.range n).filter (fun x => !decide (x ∈ al)) := by
    refine List.filter_congr fun x _ => by simp
  rw [h3] at h2
  omega
end
section
open LCg (lst)
theorem AllAt.cons {m : Str → Option Value} {l l' : List (Str × Value)} {x : Str} {v : Value} (e : m x = some v) (h : AllAt m l) (k : ∀ q ∈ l', q ∈ (x, v) :: l) : AllAt m l' := AllAt.sub (l := (x, v) :: l) ⟨e, h⟩ k
section
variable {M : Model} {w : World} {A : Around} {s : Shared} {E : Value → Shared → Prop} {Q : Flow → Shared → Prop} {f : Addr} {env : Env}
theorem seg_step (i k : Nat) {n : Nat} (hn : n = i + k) (h : wpAny M A (execs (lawSeg w f i k) env) (fun fl s' => match fl with | .next => wpAny M A (execs ((lawBody w f).drop n) env) Q E s' | f => Q f s') E s) : wpAny M A (execs ((lawBody w f).drop i) env) Q E s := by
  have e : (lawBody w f).drop i = lawSeg w f i k ++ (lawBody w f).drop n := by
    unfold lawSeg
    rw [hn, ← List.drop_drop, List.take_append_drop]
  rw [e]
  exact execs_app h
end
theorem newsNe {g h : Heap} {L : Addr} {news : List (Addr × Obj)} (N : News g L h news) {i j : Nat} {a b : Addr} {o o' : Obj} (e1 : news[i]? = some (a, o)) (e2 : news[j]? = some (b, o')) (hn : o ≠ o') : @Ne Nat a b := fun q => by
  have h1 := (N _ (List.mem_of_getElem? e1)).1
  have h2 := (N _ (List.mem_of_getElem? e2)).1
  have q' : a = b := q
  rw [q', h2] at h1
  exact hn (Option.some.inj h1).symm
theorem lst_ne {xs : List Value} {k : Nat} {o : Obj} (h : o.cls ≠ .type "list") : PySem.W.listOf xs.toArray k ≠ o := fun e => h (by rw [← e])
theorem newsNe' {g h : Heap} {L : Addr} {news : List (Addr × Obj)} (N : News g L h news) {p q : Addr × Obj} (hp : p ∈ news) (hq : q ∈ news) (hn : p.2 ≠ q.2) : @Ne Nat p.1 q.1 := fun e => by
  have h1 := (N _ hp).1
  have h2 := (N _ hq).1
  have q' : p.1 = q.1 := e
  rw [q', h2] at h1
  exact hn (Option.some.inj h1).symm
def isCell (o : Obj) : Bool := match o.data with
  | .cell _ => true
  | _ => false
theorem cell_is {o : Obj} {v : Option Value} (h : o.data = .cell v) : isCell o = true := by unfold isCell; rw [h]
theorem ne_cell {o o' : Obj} (h : isCell o ≠ isCell o') : o ≠ o' := fun e => h (by rw [e])
theorem offCell {g h : Heap} {L : Addr} {news : List (Addr × Obj)} (N : News g L h news) {i : Nat} {a : Addr} {o : Obj} (e : news[i]? = some (a, o)) (hc : isCell o = true) : ∀ p ∈ news, isCell p.2 = false → @Ne Nat p.1 a :=
  fun p hp h => newsNe' N hp (List.mem_of_getElem? e) (ne_cell (by rw [h, hc]; intro q; cases q))
theorem AllAt.keepAll {m m' : Str → Option Value} {l : List (Str × Value)} {S : List Str} (h : AllAt m l) (hs : ∀ y, y ∉ S → m' y = m y) (hn : l.all (fun q => !S.contains q.1) = true) : AllAt m' l :=
  AllAt.of_eq h fun q hq => hs q.1 (by
    have := List.all_eq_true.mp hn q hq
    simpa using this)
theorem tab_ne {ps : Array Value} {o : Obj} (h : o.cls ≠ .none) : o ≠ tabObj ps := fun e => h (by rw [e])
theorem cnF_le (ns : List Int) : thF ns ≤ cnF ns ∧ cnF ns ≤ 10 := by
  have key : ∀ t, 2 ≤ t → t ≤ 4 → ∀ z : Int, t + (z % ((menuF t : Nat) : Int)).toNat ≤ 10 := by
    intro t h1 h2 z
    match t, h1, h2 with
    | 0, h, _ => exact absurd h (by decide)
    | 1, h, _ => exact absurd h (by decide)
    | 2, _, _ => exact Nat.le_trans (Nat.add_le_add_left (Nat.le_of_lt (emod_nat_lt z (m := menuF 2) (by decide))) 2) (by decide)
    | 3, _, _ => exact Nat.le_trans (Nat.add_le_add_left (Nat.le_of_lt (emod_nat_lt z (m := menuF 3) (by decide))) 3) (by decide)
    | 4, _, _ => exact Nat.le_trans (Nat.add_le_add_left (Nat.le_of_lt (emod_nat_lt z (m := menuF 4) (by decide))) 4) (by decide)
    | t + 5, _, h => exact absurd (Nat.le_trans (Nat.le_add_left 5 t) h) (by decide)
  exact ⟨Nat.le_add_right _ _, key _ (thF_le ns).1 (thF_le ns).2 _⟩
theorem knF_is (ns : List Int) : (knF ns = thF ns - 2 ∨ knF ns = thF ns - 1) ∧ knF ns < thF ns := by
  have h1 := thF_le ns
  have h2 := emod_nat_lt (numF ns 3) (m := 2) (by decide)
  unfold knF
  generalize (numF ns 3 % ((2 : Nat) : Int)).toNat = x at h2
  have e : thF ns - 2 + 2 = thF ns := Nat.sub_add_cancel h1.1
  generalize thF ns - 2 = y at e
  rw [← e]
  match x, h2 with
  | 0, _ => exact ⟨.inl rfl, Nat.lt_add_of_pos_right (by decide)⟩
  | 1, _ => exact ⟨.inr rfl, Nat.lt_succ_self _⟩
theorem szF_pack (ns : List Int) : packN (szF ns) := by
  obtain ⟨h1, h2⟩ := szF_le ns
  unfold packN
  generalize szF ns = s at *
  match s, h1, h2 with
  | 0, h, _ => exact absurd h (by decide)
  | 1, h, _ => exact absurd h (by decide)
  | 2, h, _ => exact absurd h (by decide)
  | 3, h, _ => exact absurd h (by decide)
  | 4, _, _ => exact .inl rfl
  | 5, _, _ => exact .inr (.inl rfl)
  | 6, _, _ => exact .inr (.inr (.inl rfl))
  | s + 7, _, h => exact absurd (Nat.le_trans (Nat.le_add_left 7 s) h) (by decide)
def NT (o : Obj) : Prop := o.cls ≠ .none ∨ isCell o = true
theorem NT.cell {o : Obj} {v : Option Value} (h : o.data = .cell v) : NT o := .inr (cell_is h)
theorem NT.tab {o : Obj} (h : NT o) (ps : Array Value) : o ≠ tabObj ps := by
  rintro rfl
  rcases h with h | h
  · exact h rfl
  · cases h
theorem NT.lst (xs : Array Value) (k : Nat) : NT (PySem.W.listOf xs k) := .inl (by intro h; cases h)
section
variable {w : World} {loose : List Str} {mean : ExcName → Option Value} {mg mb : Str → Option Value} {dp un : Nat} {gd : Option (List Code)} {s : Shared} {Q : Flow → Shared → Prop} {g : Heap} {L l : Addr} {m : Str → Option Value} {vs : List Value} {ns : List Int}
theorem law_run (X : (hd.heap_39 w.params).In g) (T : Top topProg loose mean mg mb g) (hd' : dp + 200 < recursionLimit) (hu : un + 3000 < cLine) (hl : g.IsList l vs.toArray) (hi : IntsAre vs ns) (hn : ns.length ≤ 63) (hL : PyData.layable0 (.list (ns.map .int)) = true) (C1 : CodeHd g 229 225) (C2 : CodeHd g 236 232) (C3 : CodeHd g 154 150)
    (F : Fr g L s.heap m) {c1 c2 c3 c4 c5 c6 c7 c8 : Obj}
    (N : News g L s.heap [(L + 1 + 1 + 1 + 1 + 1 + 1 + 1 + 1, c8), (L + 1 + 1 + 1 + 1 + 1 + 1 + 1, c7), (L + 1 + 1 + 1 + 1 + 1 + 1, c6), (L + 1 + 1 + 1 + 1 + 1, c5), (L + 1 + 1 + 1 + 1, c4), (L + 1 + 1 + 1, c3), (L + 1 + 1, c2), (L + 1, c1), (232, tabObj #[]), (225, tabObj #[]), (150, tabObj #[])])
    (l0 : (@LT.lt Nat _ 232 L) ∧ (@LT.lt Nat _ 225 L) ∧ (@LT.lt Nat _ 150 L)) (d1 : c1.data = .cell (some (.ref l))) {x2 x3 x4 x5 x6 x7 x8 : Option Value} (d2 : c2.data = .cell x2) (d3 : c3.data = .cell x3) (d4 : c4.data = .cell x4) (d5 : c5.data = .cell x5) (d6 : c6.data = .cell x6) (d7 : c7.data = .cell x7) (d8 : c8.data = .cell x8)
    (hQ : ∀ (h' : Heap) (tk : Nat) (gs : Array GenState) (dr : Drawn), (∀ b o, g.get? b = some o → h'.get? b = some o) → GB s.gens gs → (∃ p, h'.get? 232 = some (tabObj p)) → (∃ p, h'.get? 225 = some (tabObj p)) → (∃ p, h'.get? 150 = some (tabObj p)) → Q (.ret (.bool true)) { s with heap := h', toks := tk, gens := gs, drawn := dr }) :
    wpAny (model P1 w) ((tp dp (some []) gd un).deeper (lawEnv w 247 L)) (execs ((lawBody w 247).drop 0) (lawEnv w 247 L)) Q (fun _ _ => False) s := by
  obtain ⟨hth2, hth4⟩ := thF_le ns
  obtain ⟨htc, hcn⟩ := cnF_le ns
  obtain ⟨hs4, hs6⟩ := szF_le ns
  have hpk := szF_pack ns
  obtain ⟨hkn, hkt⟩ := knF_is ns
  have hs8 : szF ns ≤ 8 := Nat.le_trans hs6 (by decide)
  have hky := numF_bits (i := 4) hL (by decide)
  have hsc := rowF_lt ns 5 (szF ns)
  have hse := rowF_lt ns 6 (szF ns)
  obtain ⟨l1, l2, l3⟩ := l0
  refine seg_step 0 10 (n := 10) rfl (segA X T hd' hu hl hi hn hL F (v6 := x6) (v7 := x7) (v8 := x8) (rest := [(232, tabObj #[]), (225, tabObj #[]), (150, tabObj #[])]) N (fun p hp => ?_) d1 d2 d3 d4 d5 fun h1 tk1 m1 c2 c3 c4 c5 Dr rws t1 t2 t3 t4 t5 t6 t7 t8 t9 F1 N1 e2 e3 e4 e5 _ hm1 hrws => ?_)
  · revert hp; revert p; exact fmc (by assumption) ((fmc (by assumption) ((fmc (by assumption) (fun _ h => nomatch h)))))
  clear F N
  try dsimp only
  have hrl : rws.length = thF ns - 2 := by have := congrArg List.length hrws; simpa using this
  have hrw : ∀ q ∈ rws, q.1 < 256 ^ szF ns := fun q hq => by
    have : q.1 ∈ rws.map (·.1) := List.mem_map_of_mem hq
    rw [hrws] at this
    obtain ⟨j, _, e⟩ := List.mem_map.mp this
    rw [← e]; exact rowF_lt _ _ _
  have M1 : News g L h1 _ := newsPick N1 1 rfl (newsPick N1 2 rfl (newsPick N1 3 rfl (newsPick N1 4 rfl (newsPick N1 5 rfl (newsPick N1 6 rfl (newsPick N1 7 rfl (newsPick N1 8 rfl (newsPick N1 0 rfl (newsDrop N1 9)))))))))
  dsimp only [List.drop] at M1
  refine seg_step 10 3 (n := 13) rfl (segB (s := ⟨_, _, _, _, _⟩) X T hd' hu hl hi hn hL (th := thF ns) (cn := cnF ns) (kn := knF ns) (Nat.lt_of_lt_of_le hkt htc) hcn F1 hm1 M1 (fun p hp => ?_) d1 d6 fun h2 tk2 m2 c6 A R al rp F2 N2 e6 hall hand halt hrp hm2 => ?_)
  · revert hp; revert p; exact fmc (newsNe (a := Dr) N1 (i := 0) (j := 3) rfl rfl (ne_cell (by rw [cell_is d6]; intro h; cases h))) ((fmc (Nat.ne_of_lt (Nat.lt_trans (by assumption) (lt_up L _))) ((fmc (Nat.ne_of_lt (Nat.lt_trans (by assumption) (lt_up L _))) ((fmc (Nat.ne_of_lt (Nat.lt_trans (by assumption) (lt_up L _))) (fun _ h => nomatch h)))))))
  clear F1 M1 N1
  try dsimp only
  refine seg_step 13 4 (n := 17) rfl (segC1 (s := ⟨_, _, _, _, _⟩) X T hd' hu hl hi hn hL (sz := szF ns) (sc := rowF ns 5 (szF ns)) (se := rowF ns 6 (szF ns)) (v7 := x7) hcn hpk hs8 hky hsc hse (toB_size _ _) (Dr := Dr) (rws := rws) (Nat.le_trans (Nat.le_of_eq hrl) (Nat.le_trans (Nat.sub_le _ _) hth4)) hrw halt F2 hm2 N2
    (newsNe N2 (i := 0) (j := 3) rfl rfl (ne_cell (by rw [cell_is d7]; intro h; cases h))) (newsNe N2 (i := 1) (j := 3) rfl rfl (ne_cell (by rw [cell_is d7]; intro h; cases h))) (newsNe N2 (i := 10) (j := 3) rfl rfl (ne_cell (by rw [cell_is d7]; intro h; cases h))) (fun p hp => ?_) rfl d1 e2 e3 e4 e5 e6 d7 fun h3 tk3 m3 c7 W O op u0 u1 t10 t11 F3 N3 e7 hop hm3 => ?_)
  · revert hp; revert p; exact fmc (Nat.ne_of_lt (Nat.lt_trans (by assumption) (lt_up L _))) ((fmc (Nat.ne_of_lt (Nat.lt_trans (by assumption) (lt_up L _))) ((fmc (Nat.ne_of_lt (Nat.lt_trans (by assumption) (lt_up L _))) (fun _ h => nomatch h)))))
  clear F2 N2
  try dsimp only
  have hpt : (toB (szF ns - 4) (rowF ns 7 (szF ns - 4))).size = szF ns - 4 := toB_size _ _
  generalize toB (szF ns - 4) (rowF ns 7 (szF ns - 4)) = pt at hm3 hop e7 hpt
  generalize hsc' : rowF ns 5 (szF ns) = sc at *
  generalize hse' : rowF ns 6 (szF ns) = se at *
  generalize hdg' : ofB (cutT 4 (digB (numF ns 4) pt (toB (szF ns) sc)) ++ pt) = dg at *
  have hdgs : (cutT 4 (digB (numF ns 4) pt (toB (szF ns) sc)) ++ pt).size = szF ns := by rw [Array.size_append, cutT4_dig, hpt]; exact Nat.add_sub_cancel' hs4
  have hdg : dg < 256 ^ szF ns := by
    have := ofB_lt (cutT 4 (digB (numF ns 4) pt (toB (szF ns) sc)) ++ pt)
    rwa [hdgs, hdg'] at this
  have hdgB : toB (szF ns) dg = cutT 4 (digB (numF ns 4) pt (toB (szF ns) sc)) ++ pt := by rw [← hdg']; exact toB_ofB hdgs
  have hhh : gt (invF (prodF (al.map (·.1)) 255)) (sc ^^^ se) (onF (szF ns)) < 256 ^ szF ns := gt_pack hpk (xor256 hsc hse)
  generalize hhi : gt (invF (prodF (al.map (·.1)) 255)) (sc ^^^ se) (onF (szF ns)) = high at *
  have M3 := newsPick N3 1 rfl (newsPick N3 3 rfl (newsPick N3 5 rfl (newsPick N3 6 rfl (newsPick N3 9 rfl (newsPick N3 10 rfl (newsPick N3 11 rfl (newsPick N3 0 rfl (newsPick N3 2 rfl (newsPick N3 4 rfl (newsPick N3 7 rfl (newsPick N3 8 rfl (newsDrop N3 12))))))))))))
  dsimp only [List.drop] at M3
  refine seg_step 17 1 (n := 18) rfl (segC2 (s := ⟨_, _, _, _, _⟩) X T hd' hu hl hi hn hL (sz := szF ns) hth2 hcn hpk hs8 hky hse hdg hhh (Dr := Dr) (rp := rp) halt F3 hm3 (c4 := c4) (c5 := c5) (c8 := c8) M3 d1 e2 e3 e6 e7 fun h4 tk4 m4 low forced other t12 t13 t14 hP F4 N4 hm4 => ?_)
  clear F3 N3 M3
  try dsimp only
  have hlow := pick_low hpk hhh hdg hP
  obtain ⟨hot, hfs, hf4⟩ := pick_sizes hpk hP
  have hopl : op.length = cnF ns := by have := congrArg List.length hop; simpa using this
  have hrpt : ∀ x ∈ rp.map (·.1), x < cnF ns := fun x hx => by rw [hrp] at hx; exact List.mem_range.mp (List.mem_filter.mp hx).1
  have hrpn : (rp.map (·.1)).Nodup := by rw [hrp]; exact List.Pairwise.filter _ List.nodup_range
  have M4 := newsPick N4 7 rfl (newsPick N4 8 rfl (newsPick N4 1 rfl (newsPick N4 3 rfl (newsPick N4 4 rfl (newsPick N4 0 rfl (newsPick N4 2 rfl (newsPick N4 5 rfl (newsPick N4 6 rfl (newsDrop N4 9)))))))))
  dsimp only [List.drop] at M4
  refine seg_step 18 2 (n := 20) rfl (segC3 (s := ⟨_, _, _, _, _⟩) X T hd' hu (sz := szF ns) (u0 := u0) (u1 := u1) hcn hpk hs8 hhh hlow halt hrpt hopl hrpn F4 hm4 M4 e3 e6 fun h5 tk5 m5 D tw kD F5 N5 hm5 htw => ?_)
  clear F4 N4 M4
  try dsimp only
  have hkp : thF ns = (al.map (·.1)).length + 2 ∨ (thF ns = (al.map (·.1)).length + 1 ∧ low = high) := by
    rw [List.length_map, hall]
    rcases hP with ⟨h, _⟩ | ⟨h, h2, _⟩
    · left; rw [h]; exact (Nat.sub_add_cancel hth2).symm
    · right; exact ⟨by rw [hkn.resolve_left h]; exact (Nat.sub_add_cancel (Nat.le_of_succ_le hth2)).symm, h2⟩
  have hrw' : ∀ r ∈ rws.map (·.1), r < 256 ^ szF ns := fun r hr => by
    obtain ⟨q, hq, rfl⟩ := List.mem_map.mp hr
    exact hrw q hq
  have hal255 : ∀ c, c = 254 ∨ c = 255 → ∀ p ∈ al.map (·.1), p < 256 ∧ p ≠ c := fun c hc p hp => by
    have h10 : p < 10 := Nat.lt_of_lt_of_le (halt p hp) hcn
    refine ⟨Nat.lt_trans h10 (by decide), fun e => ?_⟩
    subst e
    rcases hc with h | h <;> (rw [h] at h10; exact absurd h10 (by decide))
  have hf0 : ∀ j, j < szF ns → Poly (thF ns) fun x => oct (v0F (szF ns) sc dg (rws.map (·.1)) x) j := fun j hj => by
    have h := share_poly (sc := sc) (dg := dg) (rows := rws.map (·.1)) hpk hj
    rw [List.length_map, hrl, Nat.sub_add_cancel hth2] at h
    exact h
  have hf1 : ∀ j, j < szF ns → Poly (thF ns) fun x => oct (v1F (szF ns) sc dg (rws.map (·.1)) (al.map (·.1)) high low x) j := fun j hj =>
    two_poly hpk hj (fun p hp => (hal255 255 (.inr rfl) p hp).1) hkp (hf0 j hj)
  have hop' : op.map (·.1) = (List.range (cnF ns)).map (v0F (szF ns) sc dg (rws.map (·.1))) := hop
  have hopx : ∀ x, x < cnF ns → (op.map (·.1)).getD x 0 = v0F (szF ns) sc dg (rws.map (·.1)) x := fun x hx => by
    rw [hop', List.getD_eq_getElem?_getD, List.getElem?_map, List.getElem?_range hx]; rfl
  have htw' : tw.map (·.1) = (List.range (cnF ns)).map (v1F (szF ns) sc dg (rws.map (·.1)) (al.map (·.1)) high low) := by
    rw [htw]
    refine List.map_congr_left fun x hx => ?_
    have hxc := List.mem_range.mp hx
    rw [hopx x hxc]
    split
    · rfl
    · next hnr =>
      have hxa : x ∈ al.map (·.1) := by
        rw [hrp, List.mem_filter] at hnr
        by_cases h : x ∈ al.map (·.1)
        · exact h
        · exact absurd ⟨hx, by simp [h]⟩ hnr
      exact (v1_al hpk hxa).symm
  have htwl : tw.length = cnF ns := by have := congrArg List.length htw'; simpa using this
  have hopb : ∀ q ∈ op, q.1 < 256 ^ szF ns := fun q hq => by
    have h : q.1 ∈ op.map (·.1) := List.mem_map_of_mem hq
    rw [hop'] at h
    obtain ⟨x, _, e⟩ := List.mem_map.mp h
    rw [← e]; exact v0_lt hpk hsc hdg hrw' x
  have htwb : ∀ q ∈ tw, q.1 < 256 ^ szF ns := fun q hq => by
    have h : q.1 ∈ tw.map (·.1) := List.mem_map_of_mem hq
    rw [htw'] at h
    obtain ⟨x, _, e⟩ := List.mem_map.mp h
    rw [← e]; exact v1_lt hpk hsc hdg hrw' hhh hlow x
  have z0 : toB (szF ns) sc = toB (szF ns) (v0F (szF ns) sc dg (rws.map (·.1)) 255) := by rw [v0_255 hpk hsc hdg]
  have y0 : cutT 4 (digB (numF ns 4) pt (toB (szF ns) sc)) ++ pt = toB (szF ns) (v0F (szF ns) sc dg (rws.map (·.1)) 254) := by rw [v0_254 hpk hsc hdg, hdgB]
  have z1 : toB (szF ns) se = toB (szF ns) (v1F (szF ns) sc dg (rws.map (·.1)) (al.map (·.1)) high low 255) := by rw [v1_255 hpk hsc hdg hse (hal255 255 (.inr rfl)) hhi.symm]
  have y1 := pick_254 (sc := sc) (rows := rws.map (·.1)) hpk hsc hdg hhh (hal255 254 (.inl rfl)) hP
  have ansE : ∀ b1 b2, ansF (numF ns 4) #[] b1 b2 = digB (numF ns 4) b1 b2 := fun b1 b2 => by unfold ansF; rw [if_neg (by decide)]
  have M5 := newsPick N5 0 rfl (newsPick N5 1 rfl (newsPick N5 6 rfl (newsPick N5 10 rfl (newsPick N5 8 rfl (newsPick N5 14 rfl (newsPick N5 15 rfl (newsPick N5 16 rfl (newsPick N5 2 rfl (newsPick N5 3 rfl (newsPick N5 4 rfl (newsPick N5 5 rfl (newsPick N5 7 rfl (newsPick N5 9 rfl (newsPick N5 11 rfl (newsPick N5 12 rfl (newsPick N5 13 rfl (newsDrop N5 17)))))))))))))))))
  dsimp only [List.drop] at M5
  have nl : ∀ (xs : List Value) (k : Nat) (o : Obj), isCell o = true → PySem.W.listOf xs.toArray k ≠ o := fun xs k o h => ne_cell (by rw [h]; intro q; cases q)
  have allNT : ∀ p ∈ [(D, PySem.W.listOf (tw.map fun p => Value.int (p.1 : Int) p.2).toArray kD), (O, lst (op.map fun p => Value.int (p.1 : Int) p.2)), (W, lst (bytesVals [(toB (szF ns) sc, u0), (toB (szF ns) se, u1)])), (L + 1 + 1 + 1 + 1 + 1 + 1 + 1 + 1, c8), (L + 1 + 1, c2), (R, lst (rp.map fun p => Value.int (p.1 : Int) p.2)), (A, lst (al.map fun p => Value.int (p.1 : Int) p.2)), (L + 1 + 1 + 1 + 1 + 1 + 1, c6), (L + 1 + 1 + 1, c3), (L + 1 + 1 + 1 + 1 + 1 + 1 + 1, c7), (L + 1, c1), (L + 1 + 1 + 1 + 1 + 1, c5), (L + 1 + 1 + 1 + 1, c4), (Dr, lst (rws.map fun p => Value.int (p.1 : Int) p.2))], NT p.2 := by
    exact fmc (NT.lst _ _) ((fmc (NT.lst _ _) ((fmc (NT.lst _ _) ((fmc (NT.cell d8) ((fmc (NT.cell e2) ((fmc (NT.lst _ _) ((fmc (NT.lst _ _) ((fmc (NT.cell e6) ((fmc (NT.cell e3) ((fmc (NT.cell e7) ((fmc (NT.cell d1) ((fmc (NT.cell e5) ((fmc (NT.cell e4) ((fmc (NT.lst _ _) (fun _ h => nomatch h)))))))))))))))))))))))))))
  have hm5' : AllAt m5 [(Str.ofString "threshold", .int (thF ns : Nat) t4), (Str.ofString "count", .int (cnF ns : Nat) t5), (Str.ofString "known", .int (knF ns : Nat) t6), (Str.ofString "key", .int (numF ns 4) t7), (Str.ofString "part", .bytes pt t9), (Str.ofString "rest", .ref R), (Str.ofString "wholes", .ref W), (Str.ofString "one", .ref O), (Str.ofString "forced", .bytes forced t13), (Str.ofString "other", .bytes other t14), (Str.ofString "two", .ref D)] := by
    exact hm5.sub (by k_extra "mine sub")
  refine seg_step 20 2 (n := 22) rfl (segD (s := ⟨_, _, _, _, _⟩) X T hd' hu C1 C2 C3 (kn := knF ns) hth2 hth4 hcn htc hs4 hs8 hky (toB_size _ _) (toB_size _ _) hpt hot hfs hf4 hopl htwl hopb htwb F5 hm5' M5 e2 d8 (fun p hp => ?_) (fun a ha p hp => ?_) (ob1 := []) (ob2 := []) (fun p hp => nomatch hp) (fun p hp => nomatch hp) (.inl rfl) (.inl rfl) trivial
    (fun ds hds j d hj => split_poly hth2 htc hcn hf0 hop' hds (by rw [ansE]; exact y0) z0 j d hj) (fun ds hds j d hj => split_poly hth2 htc hcn hf1 htw' hds y1.symm z1 j d hj) fun h6 tk6 gs6 dr6 m6 c8' TD n6 F6 N6 e8 hJ => ?_)
  · have n8 := offCell M5 (i := 3) rfl (cell_is d8)
    revert hp
    revert p
    refine fmc ?_ ?_
    · exact n8 _ (List.mem_of_getElem? (i := 0) rfl) rfl
    refine fmc ?_ ?_
    · exact n8 _ (List.mem_of_getElem? (i := 1) rfl) rfl
    refine fmc ?_ ?_
    · exact n8 _ (List.mem_of_getElem? (i := 2) rfl) rfl
    refine fmc ?_ ?_
    · exact ne_up L 2 8 (by decide)
    refine fmc ?_ ?_
    · exact n8 _ (List.mem_of_getElem? (i := 5) rfl) rfl
    refine fmc ?_ ?_
    · exact n8 _ (List.mem_of_getElem? (i := 6) rfl) rfl
    refine fmc ?_ ?_
    · exact n8 _ (List.mem_of_getElem? (i := 7) rfl) rfl
    refine fmc ?_ ?_
    · exact n8 _ (List.mem_of_getElem? (i := 8) rfl) rfl
    refine fmc ?_ ?_
    · exact n8 _ (List.mem_of_getElem? (i := 9) rfl) rfl
    refine fmc ?_ ?_
    · exact ne_up L 6 8 (by decide)
    refine fmc ?_ ?_
    · exact ne_up L 3 8 (by decide)
    refine fmc ?_ ?_
    · exact ne_up L 7 8 (by decide)
    refine fmc ?_ ?_
    · exact ne_up L 1 8 (by decide)
    refine fmc ?_ ?_
    · exact ne_up L 5 8 (by decide)
    refine fmc ?_ ?_
    · exact ne_up L 4 8 (by decide)
    refine fmc ?_ ?_
    · exact n8 _ (List.mem_of_getElem? (i := 16) rfl) rfl
    intro p hp
    cases hp
  · have ht := allNT p hp
    have hpM : p ∈ (D, PySem.W.listOf (tw.map fun p => Value.int (p.1 : Int) p.2).toArray kD) :: (O, lst (op.map fun p => Value.int (p.1 : Int) p.2)) :: (W, lst (bytesVals [(toB (szF ns) sc, u0), (toB (szF ns) se, u1)])) :: (L + 1 + 1 + 1 + 1 + 1 + 1 + 1 + 1, c8) :: (L + 1 + 1, c2) :: (232, tabObj #[]) :: (225, tabObj #[]) :: (150, tabObj #[]) :: [(R, lst (rp.map fun p => Value.int (p.1 : Int) p.2)), (A, lst (al.map fun p => Value.int (p.1 : Int) p.2)), (L + 1 + 1 + 1 + 1 + 1 + 1, c6), (L + 1 + 1 + 1, c3), (L + 1 + 1 + 1 + 1 + 1 + 1 + 1, c7), (L + 1, c1), (L + 1 + 1 + 1 + 1 + 1, c5), (L + 1 + 1 + 1 + 1, c4), (Dr, lst (rws.map fun p => Value.int (p.1 : Int) p.2))] := by
      clear ht
      revert hp
      revert p
      k_extra "mine sub"
    rcases ha with rfl | rfl | rfl
    · exact newsNe' M5 hpM (List.mem_of_getElem? (i := 5) rfl) (ht.tab _)
    · exact newsNe' M5 hpM (List.mem_of_getElem? (i := 6) rfl) (ht.tab _)
    · exact newsNe' M5 hpM (List.mem_of_getElem? (i := 7) rfl) (ht.tab _)
  clear F5 N5 M5
  dsimp only at F6 N6 ⊢
  obtain ⟨dl, p1, p2, p3, ob1, ob2, rs, rfl, hk6, gb6, hb6, tb1, tb2, tri6, io1, io2, off6, offT6, hdl, hte⟩ := hJ
  obtain ⟨⟨D0, sh0⟩, ⟨D1, sh1⟩, rfl⟩ : ∃ a b, dl = [a, b] := by
    match dl, hdl with
    | [a, b], _ => exact ⟨a, b, rfl⟩
  obtain ⟨q01, q02, q03, q04⟩ := hte 0 _ rfl
  obtain ⟨q11, q12, q13, q14⟩ := hte 1 _ rfl
  replace q04 : ∀ (j : Nat) (q : Sh) (d : Nat × Tok), sh0[j]? = some q → op[j]? = some d → q.x = j ∧ q.b = toB (szF ns) d.1 := q04
  replace q14 : ∀ (j : Nat) (q : Sh) (d : Nat × Tok), sh1[j]? = some q → tw[j]? = some d → q.x = j ∧ q.b = toB (szF ns) d.1 := q14
  dsimp only at q01 q02 q03 q11 q12 q13
  have fst_at : ∀ {l : List (Nat × Tok)} {f : Nat → Nat}, l.map (·.1) = (List.range (cnF ns)).map f → ∀ j, j < cnF ns → ∃ d, l[j]? = some d ∧ d.1 = f j := by
    intro l f e j hj
    have h1 := congrArg (fun l => l[j]?) e
    rw [List.getElem?_map, List.getElem?_map, List.getElem?_range hj] at h1
    cases hd : l[j]? with
    | none => rw [hd] at h1; cases h1
    | some d => rw [hd] at h1; exact ⟨d, rfl, by simpa using h1⟩
  have hv0 : ∀ (j : Nat) (q : Sh), sh0[j]? = some q → q.x = j ∧ q.b = toB (szF ns) (v0F (szF ns) sc dg (rws.map (·.1)) j) := fun j q hq => by
    obtain ⟨d, hd, ed⟩ := fst_at hop' j (q03 ▸ (List.getElem?_eq_some_iff.mp hq).1)
    rw [← ed]; exact q04 j q d hq hd
  have hv1 : ∀ (j : Nat) (q : Sh), sh1[j]? = some q → q.x = j ∧ q.b = toB (szF ns) (v1F (szF ns) sc dg (rws.map (·.1)) (al.map (·.1)) high low j) := fun j q hq => by
    obtain ⟨d, hd, ed⟩ := fst_at htw' j (q13 ▸ (List.getElem?_eq_some_iff.mp hq).1)
    rw [← ed]; exact q14 j q d hq hd
  have mW := hb6 _ (List.mem_of_getElem? (i := 0) rfl)
  have mR := hb6 _ (List.mem_of_getElem? (i := 1) rfl)
  have mA := hb6 _ (List.mem_of_getElem? (i := 2) rfl)
  have m6 := hb6 _ (List.mem_of_getElem? (i := 3) rfl)
  have mL1 := hb6 _ (List.mem_of_getElem? (i := 6) rfl)
  have NR := newsDrop N6 6
  dsimp only [List.drop] at NR
  have NE := newsPick (p := (TD, lst [.ref D0, .ref D1])) N6 0 rfl (newsCons (NR _ q01) (newsCons (NR _ q11) (newsCons (NR _ mA) (newsCons (NR _ mR) (newsCons (NR _ mW) (newsCons (NR _ m6) (newsPick N6 4 rfl (newsPick N6 1 rfl (newsPick N6 3 rfl (newsPick N6 2 rfl (newsPick N6 5 rfl NR)))))))))))
  have hrpl : rp.length = cnF ns - knF ns := by
    have h1 := rest_length hand halt
    rw [← hrp, List.length_map, List.length_map, hall] at h1
    exact h1
  have halb : ∀ q ∈ al, q.1 < 256 ∧ v1F (szF ns) sc dg (rws.map (·.1)) (al.map (·.1)) high low q.1 = v0F (szF ns) sc dg (rws.map (·.1)) q.1 := fun q hq =>
    ⟨(hal255 255 (.inr rfl) q.1 (List.mem_map_of_mem hq)).1, v1_al hpk (List.mem_map_of_mem hq)⟩
  have hrpb : ∀ q ∈ rp, q.1 < 256 := fun q hq => Nat.lt_of_lt_of_le (hrpt q.1 (List.mem_map_of_mem hq)) (Nat.le_trans hcn (by decide))
  have offE : ∀ a : Nat, a = 232 ∨ a = 150 → ∀ p ∈ (TD, lst [Value.ref D0, Value.ref D1]) :: (D0, lst (sh0.map fun q => Value.ref q.a)) :: (D1, lst (sh1.map fun q => Value.ref q.a)) :: (A, lst (al.map fun p => Value.int (p.1 : Int) p.2)) :: (R, PySem.W.listOf (rp.map fun p => Value.int (p.1 : Int) p.2).toArray (rp.map fun p => Value.int (p.1 : Int) p.2).length) :: (W, lst (bytesVals [(toB (szF ns) sc, u0), (toB (szF ns) se, u1)])) :: (L + 1 + 1 + 1 + 1 + 1 + 1, c6) :: (L + 1 + 1 + 1 + 1 + 1 + 1 + 1 + 1, c8') :: (225, tabObj p2) :: (L + 1 + 1, c2) :: rs, @Ne Nat p.1 a := by
    intro a ha p hp
    have h4 : a = 232 ∨ a = 225 ∨ a = 150 ∨ a = TD := by rcases ha with h | h <;> simp [h]
    have ho := off6 a h4
    revert hp
    revert p
    refine fmc ?_ ?_
    · exact offT6 a (by rcases ha with h | h <;> simp [h])
    refine fmc ?_ ?_
    · exact ho _ (.tail _ (.tail _ q01))
    refine fmc ?_ ?_
    · exact ho _ (.tail _ (.tail _ q11))
    refine fmc ?_ ?_
    · exact ho _ (.tail _ (.tail _ mA))
    refine fmc ?_ ?_
    · exact ho _ (.tail _ (.tail _ mR))
    refine fmc ?_ ?_
    · exact ho _ (.tail _ (.tail _ mW))
    refine fmc ?_ ?_
    · exact ho _ (.tail _ (.tail _ m6))
    refine fmc ?_ ?_
    · exact ho _ (.head _)
    refine fmc ?_ ?_
    · rcases ha with rfl | rfl
      · exact (by decide : (225 : Nat) ≠ 232)
      · exact (by decide : (225 : Nat) ≠ 150)
    intro p hp
    exact ho p (.tail _ hp)
  have hdis : ∀ x, x ∈ rp.map (·.1) → x ∉ al.map (·.1) := fun x hx h => by
    rw [hrp, List.mem_filter] at hx
    have := hx.2
    simp [h] at this
  have hnd1 : ((al.map fun q => q.1) ++ ((rp.take (thF ns - knF ns)).map fun q => q.1)).Nodup := by
    rw [List.nodup_append]
    refine ⟨hand, ?_, fun a ha b hb e => ?_⟩
    · rw [List.map_take]; exact hrpn.sublist (List.take_sublist _ _)
    · rw [List.map_take] at hb
      exact hdis b (List.mem_of_mem_take hb) (e ▸ ha)
  have hnd2 : (((rp.drop (rp.length - (thF ns - knF ns))).map fun q => q.1) ++ (al.map fun q => q.1)).Nodup := by
    rw [List.nodup_append]
    refine ⟨?_, hand, fun a ha b hb e => ?_⟩
    · rw [List.map_drop]; exact hrpn.sublist (List.drop_sublist _ _)
    · rw [List.map_drop] at ha
      exact hdis a (List.mem_of_mem_drop ha) (e ▸ hb)
  have jn1 : ∀ x, x < 256 → _ := fun x hx => join_poly (x := x) (v := v1F (szF ns) sc dg (rws.map (·.1)) (al.map (·.1)) high low) (w := v0F (szF ns) sc dg (rws.map (·.1))) (as := al) (bs := rp.take (thF ns - knF ns)) hf0 (by rw [List.length_take, hall, hrpl, Nat.min_eq_left (Nat.sub_le_sub_right htc _)]; exact Nat.add_sub_cancel' (Nat.le_of_lt hkt)) hnd1 halb (fun q hq => ⟨hrpb q (List.mem_of_mem_take hq), rfl⟩) hx
  have jn2 : ∀ x, x < 256 → _ := fun x hx => join_poly (x := x) (v := v1F (szF ns) sc dg (rws.map (·.1)) (al.map (·.1)) high low) (w := v0F (szF ns) sc dg (rws.map (·.1))) (as := rp.drop (rp.length - (thF ns - knF ns))) (bs := al) hf1 (by rw [List.length_drop, hall, hrpl, Nat.sub_sub_self (Nat.sub_le_sub_right htc _)]; exact Nat.sub_add_cancel (Nat.le_of_lt hkt)) hnd2 (fun q hq => ⟨hrpb q (List.mem_of_mem_drop hq), rfl⟩) (fun q hq => ⟨(halb q hq).1, (halb q hq).2.symm⟩) hx
  refine seg_step 22 4 (n := 26) rfl (segE1 (s := ⟨_, _, _, _, _⟩) X T hd' hu C2 C3 hth2 hth4 hcn htc hkt hs4 hs8 hky F6 hk6 NE e6 e8 hall hrpl halt hrpt q03 q13 (fun q hq => (q02 q hq).mono fun p hp => .tail _ (.tail _ hp)) (fun q hq => (q12 q hq).mono fun p hp => .tail _ (.tail _ hp)) offE (ob1 := ob1) (fun p hp => .tail _ (.tail _ (io1 p hp))) tb1 tri6 hv0 hv1 hnd1
    ((jn1 255 (by decide)).trans z0.symm) ((jn1 254 (by decide)).trans y0.symm) fun h7 tk7 gs7 dr7 m7 p1' p3' nwH F7 hs7 hmore gb7 tri7 tb7 N7 off7 => ?_)
  clear F6 N6 NE NR
  dsimp only at gb7 ⊢
  obtain ⟨tm, hmore⟩ := hmore
  have hk7 := hk6.keepAll (S := [Str.ofString "joined", Str.ofString "heard", Str.ofString "more"]) (fun y hy => hs7 y (fun e => hy (by simp [e])) (fun e => hy (by simp [e])) (fun e => hy (by simp [e]))) rfl
  have hk7' : AllAt m7 [(Str.ofString "threshold", .int (thF ns : Nat) t4), (Str.ofString "count", .int (cnF ns : Nat) t5), (Str.ofString "known", .int (knF ns : Nat) t6), (Str.ofString "key", .int (numF ns 4) t7), (Str.ofString "part", .bytes pt t9), (Str.ofString "rest", .ref R), (Str.ofString "wholes", .ref W), (Str.ofString "forced", .bytes forced t13), (Str.ofString "other", .bytes other t14), (Str.ofString "more", .int ((thF ns - knF ns : Nat) : Int) tm)] := by
    exact AllAt.cons hmore hk7 (by k_extra "mine sub")
  refine seg_step 26 4 (n := 30) rfl (segE2 (s := ⟨_, _, _, _, _⟩) X T hd' hu C2 C3 hth2 hth4 hcn htc hkt hs4 hs8 hky F7 hk7' N7 e6 e8 hall hrpl halt hrpt q03 q13 (fun q hq => (q02 q hq).mono fun p hp => List.mem_append_right _ (.tail _ (.tail _ hp))) (fun q hq => (q12 q hq).mono fun p hp => List.mem_append_right _ (.tail _ (.tail _ hp))) (fun a ha p hp => ?_) (ob1 := nwH ++ ob1) (fun p hp => ?_) tb7 tri7 hv0 hv1 hfs hf4 hnd2
    ((jn2 255 (by decide)).trans z1.symm) ((jn2 254 (by decide)).trans y1) fun h8 tk8 gs8 dr8 m8 p1'' p3'' PK pk nw2 F8 hs8' hlast gb8 tri8 tb8 N8 off8 hps hpl hpv => ?_)
  · have o := offE a ha
    revert hp
    revert p
    refine fmc ?_ ?_
    · exact o _ (List.mem_of_getElem? (i := 0) rfl)
    refine fmc ?_ ?_
    · exact o _ (List.mem_of_getElem? (i := 1) rfl)
    refine fmc ?_ ?_
    · exact o _ (List.mem_of_getElem? (i := 2) rfl)
    refine fmc ?_ ?_
    · exact o _ (List.mem_of_getElem? (i := 3) rfl)
    refine fmc ?_ ?_
    · exact o _ (List.mem_of_getElem? (i := 4) rfl)
    refine fmc ?_ ?_
    · exact o _ (List.mem_of_getElem? (i := 5) rfl)
    refine fmc ?_ ?_
    · exact o _ (List.mem_of_getElem? (i := 6) rfl)
    refine fmc ?_ ?_
    · exact o _ (List.mem_of_getElem? (i := 7) rfl)
    intro p hp
    rcases List.mem_append.mp hp with hp | hp
    · exact off7 a ha p hp
    · exact o p (List.mem_of_mem_drop (i := 8) hp)
  · rcases List.mem_append.mp hp with hp | hp
    · exact List.mem_append_left _ hp
    · exact List.mem_append_right _ (.tail _ (.tail _ (io1 p hp)))
  clear F7
  dsimp only at gb8 ⊢
  have hk8 := hk7'.keepAll (S := [Str.ofString "joined", Str.ofString "heard", Str.ofString "last"]) (fun y hy => hs8' y (fun e => hy (by simp [e])) (fun e => hy (by simp [e])) (fun e => hy (by simp [e]))) rfl
  have m1' : (L + 1, c1) ∈ (225, tabObj p2) :: (L + 1 + 1, c2) :: rs := .tail _ (.tail _ mL1)
  have NF := newsPick N8 1 rfl (newsCons (newsDrop N8 6 _ (List.mem_append_right nw2 (List.mem_append_right nwH m1'))) (newsPick N8 0 rfl (newsPick N8 2 rfl (newsPick N8 3 rfl (newsPick N8 4 rfl (newsPick N8 5 rfl (newsDrop N8 6)))))))
  dsimp only [List.drop] at NF
  have hk8f : AllAt m8 [(Str.ofString "key", .int (numF ns 4) t7), (Str.ofString "wholes", .ref W), (Str.ofString "forced", .bytes forced t13), (Str.ofString "other", .bytes other t14)] := by
    exact hk8.sub (by k_extra "mine sub")
  refine seg_step 30 3 (n := 33) rfl (segF1 (s := ⟨_, _, _, _, _⟩) X T hd' hu hl hi hn hky hfs hf4 (by rw [hot]; exact Nat.le_trans (Nat.sub_le _ _) (Nat.le_trans hs8 (by decide))) (by rw [toB_size]; exact Nat.le_trans hs8 (by decide)) F8 hk8f NF d1 fun h9 tk9 m9 F9 hs9 hturned N9 => ?_)
  clear F8 N8 NF N7
  try dsimp only
  obtain ⟨tt, hturned⟩ := hturned
  have hk9 := (show AllAt m8 [(Str.ofString "threshold", .int (thF ns : Nat) t4), (Str.ofString "key", .int (numF ns 4) t7), (Str.ofString "wholes", .ref W), (Str.ofString "other", .bytes other t14), (Str.ofString "last", .ref PK)] by
    exact AllAt.cons hlast hk8 (by k_extra "mine sub")).keepAll (S := [Str.ofString "turned", Str.ofString "turn"]) (fun y hy => hs9 y (fun e => hy (by simp [e])) (fun e => hy (by simp [e]))) rfl
  have ha4 : 4 ≤ (ansF (numF ns 4) forced other (toB (szF ns) se)).size ∧ (ansF (numF ns 4) forced other (toB (szF ns) se)).size ≤ 1000 := by
    unfold ansF
    split
    · exact ⟨hf4.resolve_left (Nat.ne_of_gt (by assumption)), hfs⟩
    · rw [digB_size]; decide
  have htds : (toB 4 (ofB (cutT 4 (ansF (numF ns 4) forced other (toB (szF ns) se))) ^^^ turnF ns) ++ cutD 4 (ansF (numF ns 4) forced other (toB (szF ns) se))).size = (ansF (numF ns 4) forced other (toB (szF ns) se)).size := by
    rw [Array.size_append, toB_size, cutD_size]; exact Nat.add_sub_cancel' ha4.1
  have hk9' : AllAt m9 [(Str.ofString "threshold", .int (thF ns : Nat) t4), (Str.ofString "key", .int (numF ns 4) t7), (Str.ofString "wholes", .ref W), (Str.ofString "other", .bytes other t14), (Str.ofString "last", .ref PK), (Str.ofString "turned", .bytes (toB 4 (ofB (cutT 4 (ansF (numF ns 4) forced other (toB (szF ns) se))) ^^^ turnF ns) ++ cutD 4 (ansF (numF ns 4) forced other (toB (szF ns) se))) tt)] := by
    exact AllAt.cons hturned hk9 (by k_extra "mine sub")
  have c4 : (cutT 4 (ansF (numF ns 4) forced other (toB (szF ns) se))).size = 4 := by rw [cutT_size]; exact Nat.min_eq_left ha4.1
  have i254 : interpB pk 254 (szF ns) = cutT 4 (ansF (numF ns 4) forced other (toB (szF ns) se)) ++ other := by rw [interpB_pts, hpv]; exact (jn2 254 (by decide)).trans y1
  have i255 : interpB pk 255 (szF ns) = toB (szF ns) se := by rw [interpB_pts, hpv]; exact (jn2 255 (by decide)).trans z1.symm
  have hpq : ∀ q ∈ pk, q.x < 256 ∧ q.b.size = szF ns := by
    intro q hq
    have hm : (q.x, q.b) ∈ pk.map (fun q => (q.x, q.b)) := List.mem_map_of_mem hq
    rw [hpv] at hm
    rcases List.mem_append.mp hm with hm | hm
    · obtain ⟨p, hp, e⟩ := List.mem_map.mp hm
      rw [← show p.1 = q.x from congrArg Prod.fst e, ← show toB (szF ns) _ = q.b from congrArg Prod.snd e]
      exact ⟨hrpb p (List.mem_of_mem_drop hp), toB_size _ _⟩
    · obtain ⟨p, hp, e⟩ := List.mem_map.mp hm
      rw [← show p.1 = q.x from congrArg Prod.fst e, ← show toB (szF ns) _ = q.b from congrArg Prod.snd e]
      exact ⟨(halb p hp).1, toB_size _ _⟩
  have hndx : (pk.map Sh.x).Nodup := by
    have e : pk.map Sh.x = (pk.map fun q => (q.x, q.b)).map (·.1) := by rw [List.map_map]; rfl
    rw [e, hpv, List.map_append, List.map_map, List.map_map]
    exact hnd2
  have NG := newsPick N9 2 rfl (newsPick N9 0 rfl (newsPick N9 5 rfl (newsPick N9 6 rfl (newsDrop N9 7))))
  dsimp only [List.drop] at NG
  refine seg_step 33 3 (n := 36) rfl (segF2 (s := ⟨_, _, _, _, _⟩) X T hd' hu C2 C3 hth2 hth4 hs4 hs8 hky (by rw [htds]; exact ha4.1) (by rw [htds]; exact ha4.2) F9 hk9' NG (fun a ha p hp => ?_) (ob1 := nw2 ++ (nwH ++ ob1)) (fun p hp => ?_) tb8 tri8 (fun q hq => (hps q hq).mono fun p hp => List.mem_append_right _ hp) hpl hndx hpq i255 (by rw [i254]; exact cutD_app c4) (by rw [i254, cutT_app c4]; exact turned_bad ha4.1) fun h10 tk10 gs10 dr10 r1 r3 ext gb10 g232 g150 keep => ?_)
  · revert hp
    revert p
    refine fmc ?_ ?_
    · exact (off8 a ha).2
    refine fmc ?_ ?_
    · exact offE a ha _ (List.mem_of_getElem? (i := 5) rfl)
    intro p hp
    rcases List.mem_append.mp hp with hp | hp
    · exact (off8 a ha).1 p hp
    rcases List.mem_append.mp hp with hp | hp
    · exact off7 a ha p hp
    · exact offE a ha p (List.mem_of_mem_drop (i := 8) hp)
  · rcases List.mem_append.mp hp with hp | hp
    · exact List.mem_append_left _ hp
    rcases List.mem_append.mp hp with hp | hp
    · exact List.mem_append_right _ (List.mem_append_left _ hp)
    · exact List.mem_append_right _ (List.mem_append_right _ (.tail _ (.tail _ (io1 p hp))))
  · exact hQ h10 tk10 gs10 dr10 ext (fun h => gb10 (gb8 (gb7 (gb6 h)))) ⟨_, g232⟩ ⟨_, keep (225, tabObj p2) (List.mem_append_right _ (List.mem_append_right _ (.head _)))⟩ ⟨_, g150⟩
end
end
section
open LCg (lst)
section
variable {prog : Program} {w : World} {A : Around} {s : Shared} {R : Result → Shared → Prop} {K : Frag} {S : List Addr} {news : List (Addr × Obj)}
  {name qual : Str} {params : Arguments} {body : List Stmt} {scope : Scope} {dV kV doc pm cdv ct oc : Value} {an od : Option Addr} {osl : Array (Option Value)} {f : Addr} {args : List Value} {binds : List (Str × Value)}
theorem enterCode (X : K.In s.heap) (hlim : s.heap.NoLimit)
    (ho : K.lookup f = some ⟨oc, od, .func (fnOf name qual params body scope dV kV doc pm an cdv ct), osl⟩) (hcd : codeIn K cdv qual = true) (hroom : A.depth < recursionLimit)
    (hbind : BindsTo s (fnOf name qual params body scope dV kV doc pm an cdv ct) ⟨args, []⟩ binds) (hkind : (binds.all fun y => scope.names.lookup y.1 == some .local || scope.names.lookup y.1 == some .cell) = true)
    (hnd : ((cellsFrom 0 scope.names []).map (·.1)).Nodup) (hN : ∀ p ∈ news, s.heap.get? p.1 = some p.2 ∧ p.1 ∈ S) (hco : scope.isCoroutine = false) (hgen : scope.isGenerator = false) (hk : scope.kind = .function)
    (h : ∀ h₁ tk cells, Fr (hideAll s.heap S) s.heap.objs.size h₁ (bindL (envOfC qual scope s.heap.objs.size f cdv).kindOf binds fun _ => none) → News (hideAll s.heap S) s.heap.objs.size h₁ (cells ++ news) →
      CellsAre (bindC (envOfC qual scope s.heap.objs.size f cdv).kindOf binds fun _ => none) (cellsFrom (s.heap.objs.size + 1) scope.names []) cells →
      wpAny (model prog w) (A.deeper (envOfC qual scope s.heap.objs.size f cdv)) (execs body (envOfC qual scope s.heap.objs.size f cdv))
        (fun fl s' => R (.ok (.ret (match fl with | .ret v => v | _ => .none))) s') (fun _ _ => False) { s with heap := h₁, toks := tk }) :
    codeAny (model prog w) A (.call (.ref f) ⟨args, []⟩) R s := by
  refine codeAny_call_function hroom (X _ _ ho) rfl hco hgen rfl (codeRec_of X hcd) (hbind _ _ _ _ ?_)
  refine wpAny_newFunctionEnv_cells hk (kindsX hkind _) fun env' he s' x => ?_
  subst he
  refine ⟨hlim.keeps x.toInCall.keep, codeAny_func ?_⟩
  obtain ⟨h₁, tk, rfl, _⟩ := x.done
  have hk₁ := x.toInCall.keep
  obtain ⟨cells, NC, Y⟩ := Cl.news (h₀ := s.heap) (Nat.le_refl _) fun n c hm => ⟨x.cell n c (lookup_of_mem_nodup (cellsFrom_names scope.names 0 (s.heap.objs.size + 1) [] [] rfl ▸ hnd) hm), x.above n c hm⟩
  refine wpAny_mono (h h₁ tk cells ⟨x.toInCall.ns, fun b o e => hk₁ b o (of_hideAll _ e), Nat.le_of_eq (hideAll_size _ _)⟩ (fun p hp => ?_) Y) (fun fl s' hl => hl) fun _ _ y => y.elim
  rcases List.mem_append.mp hp with hp | hp
  · refine ⟨(NC p hp).1, (NC p hp).2.1, ?_⟩
    cases q : (hideAll s.heap S).get? p.1 with
    | none => rfl
    | some o => have := of_hideAll _ q; rw [(NC p hp).2.2] at this; cases this
  · exact ⟨hk₁ _ _ (hN p hp).1, Nat.ne_of_lt (Heap.lt_size (hN p hp).1), hideAll_none _ (hN p hp).2⟩
theorem of_law {M : Model} {E : Value → Shared → Prop} {Q : Flow → Shared → Prop} {L : Addr} (ho : (hd.heap_39 w.params).lookup f = some ⟨oc, od, .func (fnOf name qual params body scope dV kV doc pm an cdv ct), osl⟩)
    (h : wpAny M (A.deeper (lawEnv w f L)) (execs ((lawBody w f).drop 0) (lawEnv w f L)) Q E s) : wpAny M (A.deeper (envOfC qual scope L f cdv)) (execs body (envOfC qual scope L f cdv)) Q E s := by
  unfold lawBody lawEnv at h
  rw [law_is ho] at h
  exact h
end
theorem law_post {M : Model} {A : Around} {cd : Code} {s s₁ : Shared} {cw : ClaimW} {cl : Str → Option Addr} {mean : ExcName → Option Value} {args : List WData} {tabs : List (Addr × Addr)} (hT : TabsAt tabs s₁.heap) (hr : ∀ a x, cw.raises a x = false) (hp : cw.post args (.bool true) args = true)
    (h : codeAny M A cd (fun r s' => r = .ok (.ret (.bool true)) ∧ (∀ b o, (ghostOf s₁.heap tabs).get? b = some o → s'.heap.get? b = some o) ∧ GrownAll tabs s'.heap ∧ s'.os = s₁.os ∧ AllBare s'.gens) s) : codeAny M A cd (GoodWG cw cl mean args s₁) s := by
  refine codeAny_mono h fun r s' hh => ?_
  obtain ⟨rfl, hk, hgr, hos, hg⟩ := hh
  have table : ∀ b o, b ∈ tabs.map (·.2) → s₁.heap.get? b = some o → isCodeTable s₁.heap b ∧ o = tabObj #[] ∧ ∃ ps, s'.heap.get? b = some (tabObj ps) := by
    intro b o hb e
    obtain ⟨q, hq, rfl⟩ := List.mem_map.mp hb
    obtain ⟨t1, t2⟩ := hT q hq
    rw [t2] at e
    exact ⟨(t1.tab t2).isCodeTable, (Option.some.inj e).symm, hgr.get q hq⟩
  refine ⟨.inl ⟨.bool true, .bool true, [], rfl, fun x => hr _ x, .bool true, hp, unshared_nil⟩, ⟨fun b o e => ?_, fun b o e => ?_⟩, hos, hg⟩ <;> by_cases hb : b ∈ tabs.map (·.2)
  · obtain ⟨ht, rfl, ps, hP⟩ := table b o hb e
    exact .inr (.inl ⟨ht, rfl, #[], ps, rfl, by rw [Array.empty_append]; exact hP⟩)
  · exact .inl (hk b o (ghost_ne e hb))
  · obtain ⟨_, _, ps, hP⟩ := table b o hb e
    exact ⟨_, hP⟩
  · exact ⟨o, hk b o (ghost_ne e hb)⟩
theorem CellsAre.uncons {cm : Str → Option Value} {n : Str} {c : Addr} {ns : List (Str × Addr)} {cells : List (Addr × Obj)} (x : CellsAre cm ((n, c) :: ns) cells) : ∃ o r, cells = (c, o) :: r ∧ o.data = .cell (cm n) ∧ CellsAre cm ns r := by
  obtain _ | ⟨h1, x⟩ := x
  exact ⟨_, _, rfl, h1, x⟩
theorem CellsAre.unnil {cm : Str → Option Value} {cells : List (Addr × Obj)} (x : CellsAre cm [] cells) : cells = [] := by
  obtain _ | _ := x
  rfl
theorem CellsAre.eight {cm : Str → Option Value} {n1 n2 n3 n4 n5 n6 n7 n8 : Str} {c1 c2 c3 c4 c5 c6 c7 c8 : Addr} {cells : List (Addr × Obj)} (x : CellsAre cm [(n1, c1), (n2, c2), (n3, c3), (n4, c4), (n5, c5), (n6, c6), (n7, c7), (n8, c8)] cells) :
    ∃ o1 o2 o3 o4 o5 o6 o7 o8, cells = [(c1, o1), (c2, o2), (c3, o3), (c4, o4), (c5, o5), (c6, o6), (c7, o7), (c8, o8)] ∧ o1.data = .cell (cm n1) ∧ o2.data = .cell (cm n2) ∧ o3.data = .cell (cm n3) ∧ o4.data = .cell (cm n4) ∧ o5.data = .cell (cm n5) ∧ o6.data = .cell (cm n6) ∧ o7.data = .cell (cm n7) ∧ o8.data = .cell (cm n8) := by
  refine boxed fun G k => ?_
  obtain ⟨o1, r1, e1, h1, x⟩ := CellsAre.uncons x
  obtain ⟨o2, r2, e2, h2, x⟩ := CellsAre.uncons x
  obtain ⟨o3, r3, e3, h3, x⟩ := CellsAre.uncons x
  obtain ⟨o4, r4, e4, h4, x⟩ := CellsAre.uncons x
  obtain ⟨o5, r5, e5, h5, x⟩ := CellsAre.uncons x
  obtain ⟨o6, r6, e6, h6, x⟩ := CellsAre.uncons x
  obtain ⟨o7, r7, e7, h7, x⟩ := CellsAre.uncons x
  obtain ⟨o8, r8, e8, h8, x⟩ := CellsAre.uncons x
  exact k ⟨o1, o2, o3, o4, o5, o6, o7, o8, by rw [e1, e2, e3, e4, e5, e6, e7, e8, CellsAre.unnil x], h1, h2, h3, h4, h5, h6, h7, h8⟩
theorem law_code' {w : World} {s₁ : Shared} {l : Addr} {vs : List Value} {ns : List Int} (hT9 : TabsAt ([(236, 232), (229, 225), (154, 150)] : List (Addr × Addr)) s₁.heap) (KX : (hd.heap_39 w.params).In s₁.heap) {p : Program} {loose : List Str} {mean : ExcName → Option Value} {mg mb : Str → Option Value} (T : Top p loose mean mg mb s₁.heap)
    (hl : s₁.heap.IsList l vs.toArray) (hi : IntsAre vs ns) (hn : ns.length ≤ 63) (hL : PyData.layable0 (.list (ns.map .int)) = true) (hg : s₁.gens = #[]) :
    codeAny (model P1 w) callerA (.call (.ref 247) ⟨[.ref l], []⟩) (fun r s' => r = .ok (.ret (.bool true)) ∧ (∀ b o, (ghostOf s₁.heap [(236, 232), (229, 225), (154, 150)]).get? b = some o → s'.heap.get? b = some o) ∧ GrownAll [(236, 232), (229, 225), (154, 150)] s'.heap ∧ s'.os = s₁.os ∧ AllBare s'.gens) s₁ := by
  have t1 := (hT9 (236, 232) (.head _)).2
  have t2 := (hT9 (229, 225) (.tail _ (.head _))).2
  have t3 := (hT9 (154, 150) (.tail _ (.tail _ (.head _)))).2
  refine' enterCode (S := ([(236, 232), (229, 225), (154, 150)] : List (Addr × Addr)).map (·.2)) (news := [(232, tabObj #[]), (225, tabObj #[]), (150, tabObj #[])]) (binds := [("script", .ref l)]) ?k1 ?k2 ?k3 ?k4 ?k5 ?k6 ?k7 ?k8 ?kN ?k9 ?k10 ?k11 ?_
  case k1 => exact KX
  case k2 => exact T.nolimit
  case k3 => k_is
  case k4 => k_is
  case k5 => decide
  case k6 => first | exact BindsTo.of_eq rfl | exact binds_K KX rfl (by k_is) rfl rfl rfl
  case k7 => exact rfl
  case k8 => decide +kernel
  case k9 => exact rfl
  case k10 => exact rfl
  case k11 => exact rfl
  case kN =>
    intro p hp
    simp only [List.mem_cons, List.not_mem_nil, or_false] at hp
    rcases hp with rfl | rfl | rfl
    · exact ⟨t1, by simp⟩
    · exact ⟨t2, by simp⟩
    · exact ⟨t3, by simp⟩
  k_whole
  intro h₁ tk cells F1 N1 Y
  obtain ⟨o8, o7, o6, o5, o4, o3, o2, o1, rfl, d8, d7, d6, d5, d4, d3, d2, d1⟩ := CellsAre.eight Y
  clear Y
  have hC := ghost_code hT9
  refine' of_law (w := w) (f := 247) ?ho ?_
  case ho => k_is
  simp only [List.cons_append, List.nil_append] at N1
  refine law_run (s := ⟨h₁, s₁.gens, s₁.drawn, tk, s₁.os⟩) (dp := 1 + claimMargin) (un := 4) (gd := some []) (ghost_K hT9 KX (by kernel_rfl)) (ghost_top hT9 T) (by decide) (by decide) (ghost_list hT9 hl) hi hn hL hC.2.1 hC.1 hC.2.2.1 F1 N1 ⟨Heap.lt_size t1, Heap.lt_size t2, Heap.lt_size t3⟩ d1 d2 d3 d4 d5 d6 d7 d8 fun h' tk' gs dr ext gb e1 e2 e3 => ?_
  exact ⟨rfl, ext, ⟨e1, e2, e3, trivial⟩, rfl, gb (by rw [hg]; exact AllBare.empty)⟩
end
section
theorem law_holds : PySem.Challenge.rw_lb0023_01.Holds := by
  w_on
  refine holds_law hd.well fun said => ?_
  refine holds_open (q := hd.q) (loose := hd.loose) (Xt := fun s => xlAt hd.q [] s && recOk [] s) (XP := XL hd.q []) (Yf := (kmHook hd.heapB hd.as39 hd.as_ok [232, 225]).obs) (Ya := (kmHook hd.heapB hd.as39 hd.as_ok [232, 225]).val) (YP := (kmHook hd.heapB hd.as39 hd.as_ok [232, 225]).says) (N := 4156) hd.left (kmHook hd.heapB hd.as39 hd.as_ok [232, 225]).of (kmHook hd.heapB hd.as39 hd.as_ok [232, 225]).keeps (fun s e => xl_of s (Bool.and_eq_true_iff.mp e).1) XL.keeps (by rfl) (by rfl) (by rfl) (fun s e => recFacts_of (Bool.and_eq_true_iff.mp e).2) (by rfl) (by first | assumption | decide +kernel) (by decide +kernel) ⟨rfl, rfl, rfl, rfl, rfl, by decide +kernel⟩ ?hw ?hc
  case hw => w_witness2
  case hc =>
    k_fill
    intro w s₀ s₁ mg mb G Y fa o pm cd doc dV kV ho hdd hcd hD hmg hg args vals as hpre hlay hrd hwl hlo
    have KX : (hd.heap_39 w.params).In s₁.heap := km_in_of Y
    have hT8 := km_tabs_of Y
    have X := (Ground.X G).1
    have V := (Ground.X G).2
    refine Ground.open G ?_
    intro T B D TE TW
    try (refine guard_noD D (by decide +kernel) ?_; clear D)
    have h150 := tab_of (x := PySem.Str.ofString "_interpolate") (c := 154) (P := 150) T KX rfl (by kernel_rfl)
    have hT9 : TabsAt ([(236, 232), (229, 225), (154, 150)] : List (Addr × Addr)) s₁.heap := by
      intro q hq
      simp only [List.mem_cons, List.not_mem_nil, or_false] at hq
      rcases hq with rfl | rfl | rfl
      · exact ⟨codeHd_of_K (c := 236) (P := 232) KX (by kernel_rfl), hT8 232 (by k_mem)⟩
      · exact ⟨codeHd_of_K (c := 229) (P := 225) KX (by kernel_rfl), hT8 225 (by k_mem)⟩
      · exact h150
    obtain rfl : fa = 247 := by
      have e0 : nsIn (Mine.hd.heap_39 w.params) mainGlobals (PySem.Str.ofString "law") = some (some (.ref 247)) := by k_is
      have e := mg_of KX T.g e0
      have e' := hmg.symm.trans e
      cases e'
      rfl
    clear h150
    wrow_args hpre hlay hrd hwl hlo
    all_goals (
      first | refine callC_kw (enter_call ?_) | refine enter_call ?_
      w_top on
      refine law_post hT9 (fun _ _ => rfl) ?hp ?_
      case hp => first | wrow_post | with_unfolding_all rfl
      rename ¬ _ => hc9
      exact law_code' hT9 KX T (by assumption) (by assumption) (by omega) (by assumption) hg)
end
end Mine
end
theorem PySem.Challenge.cw_lb0023_01_holds : PySem.Challenge.rw_lb0023_01.Holds :=
  Mine.law_holds
