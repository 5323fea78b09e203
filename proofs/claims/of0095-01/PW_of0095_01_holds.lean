import PyProof.Rows.All
import Wide.All
import OpenK.AllK
import Wide.FinOn
import KE.KRegrown
import KE.TopReadKeeps
import PySem.Challenge.RW_of0095_01
open PySem PySem.W PyProof.Rows
set_option Elab.async false
set_option rowWalk.seconds 0
set_option maxRecDepth 100000
set_option maxHeartbeats 0
section
open PySem PySem.W PyProof.Rows
set_option maxRecDepth 100000
set_option maxHeartbeats 0
namespace Mine.hd
set_option linter.unusedVariables false
open PySem PySem.W PyProof.Rows PySem.Calls
noncomputable abbrev pw : Program := Challenge.rw_of0095_01.row.toRowW.1
noncomputable def nth : List Stmt → Nat → Stmt
  | s :: _, 0 => s
  | _ :: l, n + 1 => nth l n
  | [], _ => default
noncomputable def inCls : Stmt → Nat → Stmt
  | .ClassDef _ _ _ b _ _ _ _ _ _ _, n => nth b n
  | s, _ => s
/-- what a def's object holds of its text -/
noncomputable def fdOf : Stmt → Arguments × List Stmt × Scope
  | .FunctionDef _ a b _ _ _ s _ _ _ => (a, b, s)
  | _ => default
set_option maxRecDepth 100000
noncomputable def heap_39 : Params → Frag := by
  refine (?f : (a56 : Arguments) → (b56 : List Stmt) → (s56 : Scope) → fdOf (nth pw.main.body 5) = (a56, b56, s56) → (a63 : Arguments) → (b63 : List Stmt) → (s63 : Scope) → fdOf (nth pw.main.body 6) = (a63, b63, s63) → (a70 : Arguments) → (b70 : List Stmt) → (s70 : Scope) → fdOf (nth pw.main.body 8) = (a70, b70, s70) → (a77 : Arguments) → (b77 : List Stmt) → (s77 : Scope) → fdOf (nth pw.main.body 9) = (a77, b77, s77) → (a84 : Arguments) → (b84 : List Stmt) → (s84 : Scope) → fdOf (nth pw.main.body 10) = (a84, b84, s84) → (a91 : Arguments) → (b91 : List Stmt) → (s91 : Scope) → fdOf (nth pw.main.body 11) = (a91, b91, s91) → (a110 : Arguments) → (b110 : List Stmt) → (s110 : Scope) → fdOf (nth pw.main.body 15) = (a110, b110, s110) → (a137 : Arguments) → (b137 : List Stmt) → (s137 : Scope) → fdOf (inCls (nth pw.main.body 17) 1) = (a137, b137, s137) → (a414 : Arguments) → (b414 : List Stmt) → (s414 : Scope) → fdOf (inCls (nth pw.main.body 21) 1) = (a414, b414, s414) → (a421 : Arguments) → (b421 : List Stmt) → (s421 : Scope) → fdOf (inCls (nth pw.main.body 21) 2) = (a421, b421, s421) → (a428 : Arguments) → (b428 : List Stmt) → (s428 : Scope) → fdOf (inCls (nth pw.main.body 21) 3) = (a428, b428, s428) → (a590 : Arguments) → (b590 : List Stmt) → (s590 : Scope) → fdOf (inCls (nth pw.main.body 21) 25) = (a590, b590, s590) → (a703 : Arguments) → (b703 : List Stmt) → (s703 : Scope) → fdOf (inCls (nth pw.main.body 31) 0) = (a703, b703, s703) → (a710 : Arguments) → (b710 : List Stmt) → (s710 : Scope) → fdOf (inCls (nth pw.main.body 31) 1) = (a710, b710, s710) → (a740 : Arguments) → (b740 : List Stmt) → (s740 : Scope) → fdOf (inCls (nth pw.main.body 31) 5) = (a740, b740, s740) → (a747 : Arguments) → (b747 : List Stmt) → (s747 : Scope) → fdOf (inCls (nth pw.main.body 31) 6) = (a747, b747, s747) → (a769 : Arguments) → (b769 : List Stmt) → (s769 : Scope) → fdOf (inCls (nth pw.main.body 31) 9) = (a769, b769, s769) → (a776 : Arguments) → (b776 : List Stmt) → (s776 : Scope) → fdOf (inCls (nth pw.main.body 31) 10) = (a776, b776, s776) → (a791 : Arguments) → (b791 : List Stmt) → (s791 : Scope) → fdOf (nth pw.main.body 32) = (a791, b791, s791) → (a798 : Arguments) → (b798 : List Stmt) → (s798 : Scope) → fdOf (nth pw.main.body 33) = (a798, b798, s798) → (a806 : Arguments) → (b806 : List Stmt) → (s806 : Scope) → fdOf (nth pw.main.body 36) = (a806, b806, s806) → (a811 : Arguments) → (b811 : List Stmt) → (s811 : Scope) → fdOf (nth pw.main.body 38) = (a811, b811, s811) → (a816 : Arguments) → (b816 : List Stmt) → (s816 : Scope) → fdOf (nth pw.main.body 39) = (a816, b816, s816) → (a821 : Arguments) → (b821 : List Stmt) → (s821 : Scope) → fdOf (nth pw.main.body 40) = (a821, b821, s821) → Params → Frag) _ _ _ (by (conv => lhs; whnf)) _ _ _ (by (conv => lhs; whnf)) _ _ _ (by (conv => lhs; whnf)) _ _ _ (by (conv => lhs; whnf)) _ _ _ (by (conv => lhs; whnf)) _ _ _ (by (conv => lhs; whnf)) _ _ _ (by (conv => lhs; whnf)) _ _ _ (by (conv => lhs; whnf)) _ _ _ (by (conv => lhs; whnf)) _ _ _ (by (conv => lhs; whnf)) _ _ _ (by (conv => lhs; whnf)) _ _ _ (by (conv => lhs; whnf)) _ _ _ (by (conv => lhs; whnf)) _ _ _ (by (conv => lhs; whnf)) _ _ _ (by (conv => lhs; whnf)) _ _ _ (by (conv => lhs; whnf)) _ _ _ (by (conv => lhs; whnf)) _ _ _ (by (conv => lhs; whnf)) _ _ _ (by (conv => lhs; whnf)) _ _ _ (by (conv => lhs; whnf)) _ _ _ (by (conv => lhs; whnf)) _ _ _ (by (conv => lhs; whnf)) _ _ _ (by (conv => lhs; whnf)) _ _ _ (by (conv => lhs; whnf))
  exact fun a56 b56 s56 _ a63 b63 s63 _ a70 b70 s70 _ a77 b77 s77 _ a84 b84 s84 _ a91 b91 s91 _ a110 b110 s110 _ a137 b137 s137 _ a414 b414 s414 _ a421 b421 s421 _ a428 b428 s428 _ a590 b590 s590 _ a703 b703 s703 _ a710 b710 s710 _ a740 b740 s740 _ a747 b747 s747 _ a769 b769 s769 _ a776 b776 s776 _ a791 b791 s791 _ a798 b798 s798 _ a806 b806 s806 _ a811 b811 s811 _ a816 b816 s816 _ a821 b821 s821 _ => fun P => (((nat_lit 2),⟨Value.none,none,(Data.dict #[⟨(PyData.keyHash P (Str.ofString "\x69mport.loaded._sre")),(Value.str (Str.ofString "\x69mport.loaded._sre") 183),
 (Value.bool Bool.true)⟩,⟨(PyData.keyHash P (Str.ofString "class._frozen_importlib.BuiltinImporter")),(Value.str (Str.ofString "class._frozen_importlib.BuiltinImporter") 
 185),(Value.ref 14)⟩,⟨(PyData.keyHash P (Str.ofString "watched.\x69mport")),(Value.str (Str.ofString "watched.\x69mport") 206),(Value.ref 18)⟩,⟨(PyData.keyHash 
 P (Str.ofString "class._frozen_importlib.ModuleSpec")),(Value.str (Str.ofString "class._frozen_importlib.ModuleSpec") 216),(Value.ref 22)⟩,⟨(PyData.keyHash 
 P (Str.ofString "sys.modules.booked-epoch")),(Value.str (Str.ofString "sys.modules.booked-epoch") 245),(Value.int 4 0)⟩,⟨(PyData.keyHash P (Str.ofString 
 "\x69mport.later-laid._sre")),(Value.str (Str.ofString "\x69mport.later-laid._sre") 270),(Value.bool Bool.true)⟩,⟨(PyData.keyHash P (Str.ofString "watched.library")),
 (Value.str (Str.ofString "watched.library") 272),(Value.ref 27)⟩,⟨(PyData.keyHash P (Str.ofString "watched.library-objects")),(Value.str (Str.ofString 
 "watched.library-objects") 0),(Value.str (Str.ofString "\x0c\x1e") 0)⟩,⟨(PyData.keyHash P (Str.ofString "watched.library-deep._sre")),(Value.str (Str.ofString 
 "watched.library-deep._sre") 273),(Value.str (Str.ofString "\x04\x00\x00\x0b\x04\x00\x00\x0b\x04\x00\x00\x03\x04\x00\x00\x0b\x08\x04dict\x02") 0)⟩,⟨(PyData.keyHash 
 P (Str.ofString "\x69mport.loaded._collections")),(Value.str (Str.ofString "\x69mport.loaded._collections") 280),(Value.bool Bool.true)⟩,⟨(PyData.keyHash P 
 (Str.ofString "sys.modules.landed._collections")),(Value.str (Str.ofString "sys.modules.landed._collections") 294),(Value.bool Bool.true)⟩,⟨(PyData.keyHash 
 P (Str.ofString "\x69mport.later-laid._collections")),(Value.str (Str.ofString "\x69mport.later-laid._collections") 309),(Value.bool Bool.true)⟩,⟨(PyData.keyHash 
 P (Str.ofString "watched.library-deep._collections")),(Value.str (Str.ofString "watched.library-deep._collections") 311),(Value.str (Str.ofString "\x04\x00\x00\x1d\x04\x00\x00\x1d\x04\x00\x00\x03\x04\x00\x00\x1d\x08\x04dict\x02") 
 0)⟩,⟨(PyData.keyHash P (Str.ofString "type.__subclasses__.OSError.0")),(Value.str (Str.ofString "type.__subclasses__.OSError.0") 499),(Value.int 120 0)⟩,
 ⟨(PyData.keyHash P (Str.ofString "type.__subclasses__.OSError.n")),(Value.str (Str.ofString "type.__subclasses__.OSError.n") 500),(Value.int 1 0)⟩] 15),
 #[]⟩) ::
 ((nat_lit 3),⟨(Value.type "dict"),none,(Data.dict (List.toArray (⟨(PyData.keyHash P (Str.ofString "__name__")),(Value.str (Str.ofString "__name__") 165),
 (Value.str (Str.ofString "law_of0095_01") 1347)⟩ :: ⟨(PyData.keyHash P (Str.ofString "__doc__")),(Value.str (Str.ofString "__doc__") 166),Value.none⟩ 
 :: ⟨(PyData.keyHash P (Str.ofString "__package__")),(Value.str (Str.ofString "__package__") 167),Value.none⟩ :: ⟨(PyData.keyHash P (Str.ofString "__loader__")),
 (Value.str (Str.ofString "__loader__") 168),(Value.builtin "__main__.__loader__#opaque")⟩ :: ⟨(PyData.keyHash P (Str.ofString "__spec__")),(Value.str 
 (Str.ofString "__spec__") 169),Value.none⟩ :: ⟨(PyData.keyHash P (Str.ofString "__annotations__")),(Value.str (Str.ofString "__annotations__") 170),(Value.ref 
 6)⟩ :: ⟨(PyData.keyHash P (Str.ofString "__builtins__")),(Value.str (Str.ofString "__builtins__") 171),(Value.ref 4)⟩ :: ⟨(PyData.keyHash P (Str.ofString 
 "__file__")),(Value.str (Str.ofString "__file__") 173),(Value.str (Str.ofString "/claim/cut.py") 172)⟩ :: ⟨(PyData.keyHash P (Str.ofString "__cached__")),
 (Value.str (Str.ofString "__cached__") 174),Value.none⟩ :: ⟨(PyData.keyHash P (Str.ofString "_sre")),(Value.str (Str.ofString "_sre") 275),(Value.ref 
 12)⟩ :: ⟨(PyData.keyHash P (Str.ofString "deque")),(Value.str (Str.ofString "deque") 317),(Value.type "collections.deque")⟩ :: ⟨(PyData.keyHash P (Str.ofString 
 "_wall")),(Value.str (Str.ofString "_wall") 330),(Value.ref 44)⟩ :: ⟨(PyData.keyHash P (Str.ofString "IPV4_RE")),(Value.str (Str.ofString "IPV4_RE") 362),
 (Value.ref 49)⟩ :: ⟨(PyData.keyHash P (Str.ofString "liberal_is_HDN")),(Value.str (Str.ofString "liberal_is_HDN") 369),(Value.ref 56)⟩ :: ⟨(PyData.keyHash 
 P (Str.ofString "user_domain_match")),(Value.str (Str.ofString "user_domain_match") 378),(Value.ref 63)⟩ :: ⟨(PyData.keyHash P (Str.ofString "heappush")),
 (Value.str (Str.ofString "heappush") 388),(Value.ref 70)⟩ :: ⟨(PyData.keyHash P (Str.ofString "heappop")),(Value.str (Str.ofString "heappop") 397),(Value.ref 
 77)⟩ :: ⟨(PyData.keyHash P (Str.ofString "_siftdown")),(Value.str (Str.ofString "_siftdown") 409),(Value.ref 84)⟩ :: ⟨(PyData.keyHash P (Str.ofString 
 "_siftup")),(Value.str (Str.ofString "_siftup") 422),(Value.ref 91)⟩ :: ⟨(PyData.keyHash P (Str.ofString "_twin_re_1")),(Value.str (Str.ofString "_twin_re_1") 
 462),(Value.ref 96)⟩ :: ⟨(PyData.keyHash P (Str.ofString "_whence")),(Value.str (Str.ofString "_whence") 472),(Value.ref 103)⟩ :: ⟨(PyData.keyHash P (Str.ofString 
 "_index")),(Value.str (Str.ofString "_index") 480),(Value.ref 110)⟩ :: ⟨(PyData.keyHash P (Str.ofString "UnsupportedOperation")),(Value.str (Str.ofString 
 "UnsupportedOperation") 502),(Value.ref 120)⟩ :: ⟨(PyData.keyHash P (Str.ofString "IOBase")),(Value.str (Str.ofString "IOBase") 534),(Value.ref 140)⟩ 
 :: ⟨(PyData.keyHash P (Str.ofString "BufferedIOBase")),(Value.str (Str.ofString "BufferedIOBase") 552),(Value.ref 155)⟩ :: ⟨(PyData.keyHash P (Str.ofString 
 "TextIOBase")),(Value.str (Str.ofString "TextIOBase") 570),(Value.ref 167)⟩ :: ⟨(PyData.keyHash P (Str.ofString "BytesIO")),(Value.str (Str.ofString "BytesIO") 
 832),(Value.ref 397)⟩ :: ⟨(PyData.keyHash P (Str.ofString "StringIO")),(Value.str (Str.ofString "StringIO") 1119),(Value.ref 644)⟩ :: ⟨(PyData.keyHash 
 P (Str.ofString "_kind")),(Value.str (Str.ofString "_kind") 1130),(Value.ref 653)⟩ :: ⟨(PyData.keyHash P (Str.ofString "_fspath")),(Value.str (Str.ofString 
 "_fspath") 1139),(Value.ref 660)⟩ :: ⟨(PyData.keyHash P (Str.ofString "_check_arg_types")),(Value.str (Str.ofString "_check_arg_types") 1149),(Value.ref 
 667)⟩ :: ⟨(PyData.keyHash P (Str.ofString "isabs")),(Value.str (Str.ofString "isabs") 1156),(Value.ref 674)⟩ :: ⟨(PyData.keyHash P (Str.ofString "join")),
 (Value.str (Str.ofString "join") 1167),(Value.ref 798)⟩ :: ⟨(PyData.keyHash P (Str.ofString "join_path")),(Value.str (Str.ofString "join_path") 1168),
 (Value.ref 681)⟩ :: ⟨(PyData.keyHash P (Str.ofString "dirname")),(Value.str (Str.ofString "dirname") 1178),(Value.ref 688)⟩ :: ⟨(PyData.keyHash P (Str.ofString 
 "shlex")),(Value.str (Str.ofString "shlex") 1319),(Value.ref 779)⟩ :: ⟨(PyData.keyHash P (Str.ofString "split")),(Value.str (Str.ofString "split") 1329),
 (Value.ref 791)⟩ :: ⟨(PyData.keyHash P (Str.ofString "join_shlex")),(Value.str (Str.ofString "join_shlex") 1337),(Value.ref 798)⟩ :: ⟨(PyData.keyHash 
 P (Str.ofString "_find_unsafe")),(Value.str (Str.ofString "_find_unsafe") 1339),(Value.ref 799)⟩ :: ⟨(PyData.keyHash P (Str.ofString "quote")),(Value.str 
 (Str.ofString "quote") 1346),(Value.ref 806)⟩ :: ⟨(PyData.keyHash P (Str.ofString "_law_labels")),(Value.str (Str.ofString "_law_labels") 1354),(Value.ref 
 811)⟩ :: ⟨(PyData.keyHash P (Str.ofString "_law_meets")),(Value.str (Str.ofString "_law_meets") 1360),(Value.ref 816)⟩ :: ⟨(PyData.keyHash P (Str.ofString 
 "law")),(Value.str (Str.ofString "law") 1366),(Value.ref 821)⟩ :: [])) 43),#[]⟩) ::
 ((nat_lit 48),⟨(Value.type "tuple"),none,(Data.seq #[(Value.int 14 0),(Value.int 8 0),(Value.int 1 0),(Value.int 2 0),(Value.int 4294967295 0),(Value.int 
 1 0),(Value.int 1 0),(Value.int 46 0),(Value.int 0 0),(Value.int 16 0),(Value.int 46 0),(Value.int 24 0),(Value.int 9 0),(Value.int 1 0),(Value.int 4294967295 
 0),(Value.int 13 0),(Value.int 4 0),(Value.int 8 0),(Value.int 0 0),(Value.int 0 0),(Value.int 1 0),(Value.int 6 0),(Value.int 5 0),(Value.int 1 0)] 0),
 #[]⟩) ::
 ((nat_lit 49),⟨(Value.type "re.Pattern"),none,(Data.fields #[(Value.str (Str.ofString "\\.\\d+$") 334),(Value.int 256 361),(Value.int 0 0),Value.none,
 Value.none,(Value.ref 48),(Value.int 0 0)]),#[]⟩) ::
 ((nat_lit 50),⟨(Value.type "tuple"),none,(Data.seq #[] 0),#[]⟩) ::
 ((nat_lit 52),⟨(Value.type "tuple"),none,(Data.seq #[(Value.str (Str.ofString "text") 366)] 0),#[]⟩) ::
 ((nat_lit 53),⟨(Value.type "tuple"),none,(Data.seq #[] 0),#[]⟩) ::
 ((nat_lit 55),⟨(Value.type "code"),none,(Data.fields #[(Value.str (Str.ofString "liberal_is_HDN") 363),(Value.str (Str.ofString "liberal_is_HDN") 364),
 (Value.str (Str.ofString "/claim/cut.py") 365),(Value.int 8 0),(Value.int 1 0),(Value.int 0 0),(Value.int 0 0),(Value.int 3 0),(Value.ref 50),(Value.bool 
 Bool.true),(Value.int 318 0),(Value.ref 51),Value.none,(Value.ref 52),(Value.ref 53),(Value.ref 54),(Value.int 367 0),(Value.int 8 0),(Value.str (Str.ofString 
 "/claim/cut.py") 368)]),#[]⟩) ::
 ((nat_lit 56),⟨(Value.type "function"),none,(Data.func ⟨(Str.ofString "liberal_is_HDN"),(Str.ofString "liberal_is_HDN"),a56,(FuncBody.stmts b56),s56,3,
 [],Value.none,Value.none,Value.none,(Value.str (Str.ofString "cpy313.http.cookiejar") 331),none,(Value.ref 55),Value.none,0⟩),#[]⟩) ::
 ((nat_lit 57),⟨(Value.type "tuple"),none,(Data.seq #[] 0),#[]⟩) ::
 ((nat_lit 59),⟨(Value.type "tuple"),none,(Data.seq #[(Value.str (Str.ofString "A") 373),(Value.str (Str.ofString "B") 374),(Value.str (Str.ofString "initial_dot") 
 375)] 0),#[]⟩) ::
 ((nat_lit 60),⟨(Value.type "tuple"),none,(Data.seq #[] 0),#[]⟩) ::
 ((nat_lit 62),⟨(Value.type "code"),none,(Data.fields #[(Value.str (Str.ofString "user_domain_match") 370),(Value.str (Str.ofString "user_domain_match") 
 371),(Value.str (Str.ofString "/claim/cut.py") 372),(Value.int 12 0),(Value.int 2 0),(Value.int 0 0),(Value.int 0 0),(Value.int 3 0),(Value.ref 57),(Value.bool 
 Bool.true),(Value.int 318 0),(Value.ref 58),Value.none,(Value.ref 59),(Value.ref 60),(Value.ref 61),(Value.int 376 0),(Value.int 12 0),(Value.str (Str.ofString 
 "/claim/cut.py") 377)]),#[]⟩) ::
 ((nat_lit 63),⟨(Value.type "function"),none,(Data.func ⟨(Str.ofString "user_domain_match"),(Str.ofString "user_domain_match"),a63,(FuncBody.stmts b63),
 s63,3,[],Value.none,Value.none,Value.none,(Value.str (Str.ofString "cpy313.http.cookiejar") 331),none,(Value.ref 62),Value.none,0⟩),#[]⟩) ::
 ((nat_lit 64),⟨(Value.type "tuple"),none,(Data.seq #[] 0),#[]⟩) ::
 ((nat_lit 66),⟨(Value.type "tuple"),none,(Data.seq #[(Value.str (Str.ofString "heap") 384),(Value.str (Str.ofString "item") 385)] 0),#[]⟩) ::
 ((nat_lit 67),⟨(Value.type "tuple"),none,(Data.seq #[] 0),#[]⟩) ::
 ((nat_lit 69),⟨(Value.type "code"),none,(Data.fields #[(Value.str (Str.ofString "heappush") 381),(Value.str (Str.ofString "heappush") 382),(Value.str 
 (Str.ofString "/claim/cut.py") 383),(Value.int 26 0),(Value.int 2 0),(Value.int 0 0),(Value.int 0 0),(Value.int 3 0),(Value.ref 64),(Value.bool Bool.true),
 (Value.int 318 0),(Value.ref 65),Value.none,(Value.ref 66),(Value.ref 67),(Value.ref 68),(Value.int 386 0),(Value.int 26 0),(Value.str (Str.ofString "/claim/cut.py") 
 387)]),#[]⟩) ::
 ((nat_lit 70),⟨(Value.type "function"),none,(Data.func ⟨(Str.ofString "heappush"),(Str.ofString "heappush"),a70,(FuncBody.stmts b70),s70,3,[],Value.none,
 Value.none,Value.none,(Value.str (Str.ofString "cpy313.heapq") 379),none,(Value.ref 69),Value.none,0⟩),#[]⟩) ::
 ((nat_lit 71),⟨(Value.type "tuple"),none,(Data.seq #[] 0),#[]⟩) ::
 ((nat_lit 73),⟨(Value.type "tuple"),none,(Data.seq #[(Value.str (Str.ofString "heap") 392),(Value.str (Str.ofString "lastelt") 393),(Value.str (Str.ofString 
 "returnitem") 394)] 0),#[]⟩) ::
 ((nat_lit 74),⟨(Value.type "tuple"),none,(Data.seq #[] 0),#[]⟩) ::
 ((nat_lit 76),⟨(Value.type "code"),none,(Data.fields #[(Value.str (Str.ofString "heappop") 389),(Value.str (Str.ofString "heappop") 390),(Value.str (Str.ofString 
 "/claim/cut.py") 391),(Value.int 29 0),(Value.int 1 0),(Value.int 0 0),(Value.int 0 0),(Value.int 3 0),(Value.ref 71),(Value.bool Bool.true),(Value.int 
 318 0),(Value.ref 72),Value.none,(Value.ref 73),(Value.ref 74),(Value.ref 75),(Value.int 395 0),(Value.int 29 0),(Value.str (Str.ofString "/claim/cut.py") 
 396)]),#[]⟩) ::
 ((nat_lit 77),⟨(Value.type "function"),none,(Data.func ⟨(Str.ofString "heappop"),(Str.ofString "heappop"),a77,(FuncBody.stmts b77),s77,3,[],Value.none,
 Value.none,Value.none,(Value.str (Str.ofString "cpy313.heapq") 379),none,(Value.ref 76),Value.none,0⟩),#[]⟩) ::
 ((nat_lit 78),⟨(Value.type "tuple"),none,(Data.seq #[] 0),#[]⟩) ::
 ((nat_lit 80),⟨(Value.type "tuple"),none,(Data.seq #[(Value.str (Str.ofString "heap") 401),(Value.str (Str.ofString "startpos") 402),(Value.str (Str.ofString 
 "pos") 403),(Value.str (Str.ofString "newitem") 404),(Value.str (Str.ofString "parentpos") 405),(Value.str (Str.ofString "parent") 406)] 0),#[]⟩) ::
 ((nat_lit 81),⟨(Value.type "tuple"),none,(Data.seq #[] 0),#[]⟩) ::
 ((nat_lit 83),⟨(Value.type "code"),none,(Data.fields #[(Value.str (Str.ofString "_siftdown") 398),(Value.str (Str.ofString "_siftdown") 399),(Value.str 
 (Str.ofString "/claim/cut.py") 400),(Value.int 37 0),(Value.int 3 0),(Value.int 0 0),(Value.int 0 0),(Value.int 3 0),(Value.ref 78),(Value.bool Bool.true),
 (Value.int 318 0),(Value.ref 79),Value.none,(Value.ref 80),(Value.ref 81),(Value.ref 82),(Value.int 407 0),(Value.int 37 0),(Value.str (Str.ofString "/claim/cut.py") 
 408)]),#[]⟩) ::
 ((nat_lit 84),⟨(Value.type "function"),none,(Data.func ⟨(Str.ofString "_siftdown"),(Str.ofString "_siftdown"),a84,(FuncBody.stmts b84),s84,3,[],Value.none,
 Value.none,Value.none,(Value.str (Str.ofString "cpy313.heapq") 379),none,(Value.ref 83),Value.none,0⟩),#[]⟩) ::
 ((nat_lit 85),⟨(Value.type "tuple"),none,(Data.seq #[] 0),#[]⟩) ::
 ((nat_lit 87),⟨(Value.type "tuple"),none,(Data.seq #[(Value.str (Str.ofString "heap") 413),(Value.str (Str.ofString "pos") 414),(Value.str (Str.ofString 
 "endpos") 415),(Value.str (Str.ofString "startpos") 416),(Value.str (Str.ofString "newitem") 417),(Value.str (Str.ofString "childpos") 418),(Value.str 
 (Str.ofString "rightpos") 419)] 0),#[]⟩) ::
 ((nat_lit 88),⟨(Value.type "tuple"),none,(Data.seq #[] 0),#[]⟩) ::
 ((nat_lit 90),⟨(Value.type "code"),none,(Data.fields #[(Value.str (Str.ofString "_siftup") 410),(Value.str (Str.ofString "_siftup") 411),(Value.str (Str.ofString 
 "/claim/cut.py") 412),(Value.int 48 0),(Value.int 2 0),(Value.int 0 0),(Value.int 0 0),(Value.int 3 0),(Value.ref 85),(Value.bool Bool.true),(Value.int 
 318 0),(Value.ref 86),Value.none,(Value.ref 87),(Value.ref 88),(Value.ref 89),(Value.int 420 0),(Value.int 48 0),(Value.str (Str.ofString "/claim/cut.py") 
 421)]),#[]⟩) ::
 ((nat_lit 91),⟨(Value.type "function"),none,(Data.func ⟨(Str.ofString "_siftup"),(Str.ofString "_siftup"),a91,(FuncBody.stmts b91),s91,3,[],Value.none,
 Value.none,Value.none,(Value.str (Str.ofString "cpy313.heapq") 379),none,(Value.ref 90),Value.none,0⟩),#[]⟩) ::
 ((nat_lit 95),⟨(Value.type "tuple"),none,(Data.seq (List.toArray ((Value.int 14 0) :: (Value.int 17 0) :: (Value.int 4 0) :: (Value.int 1 0) :: (Value.int 
 1 0) :: (Value.int 21 0) :: (Value.int 9 0) :: (Value.int 0 0) :: (Value.int 604043296 0) :: (Value.int 1 0) :: (Value.int 0 0) :: (Value.int 0 0) :: 
 (Value.int 0 0) :: (Value.int 0 0) :: (Value.int 0 0) :: (Value.int 8 0) :: (Value.int 4 0) :: (Value.int 0 0) :: (Value.int 13 0) :: (Value.int 14 0) 
 :: (Value.int 21 0) :: (Value.int 9 0) :: (Value.int 0 0) :: (Value.int 604043296 0) :: (Value.int 1 0) :: (Value.int 0 0) :: (Value.int 0 0) :: (Value.int 
 0 0) :: (Value.int 0 0) :: (Value.int 0 0) :: (Value.int 8 0) :: (Value.int 4 0) :: (Value.int 0 0) :: (Value.int 1 0) :: [])) 0),#[]⟩) ::
 ((nat_lit 96),⟨(Value.type "re.Pattern"),none,(Data.fields #[(Value.str (Str.ofString "[^\\w@%+=:,./-]") 424),(Value.int 256 461),(Value.int 0 0),Value.none,
 Value.none,(Value.ref 95),(Value.int 0 0)]),#[]⟩) ::
 ((nat_lit 104),⟨(Value.type "tuple"),none,(Data.seq #[] 0),#[]⟩) ::
 ((nat_lit 106),⟨(Value.type "tuple"),none,(Data.seq #[(Value.str (Str.ofString "n") 476),(Value.str (Str.ofString "what") 477)] 0),#[]⟩) ::
 ((nat_lit 107),⟨(Value.type "tuple"),none,(Data.seq #[] 0),#[]⟩) ::
 ((nat_lit 109),⟨(Value.type "code"),none,(Data.fields #[(Value.str (Str.ofString "_index") 473),(Value.str (Str.ofString "_index") 474),(Value.str (Str.ofString 
 "/claim/cut.py") 475),(Value.int 69 0),(Value.int 2 0),(Value.int 0 0),(Value.int 0 0),(Value.int 3 0),(Value.ref 104),(Value.bool Bool.true),(Value.int 
 318 0),(Value.ref 105),Value.none,(Value.ref 106),(Value.ref 107),(Value.ref 108),(Value.int 478 0),(Value.int 69 0),(Value.str (Str.ofString "/claim/cut.py") 
 479)]),#[]⟩) ::
 ((nat_lit 110),⟨(Value.type "function"),none,(Data.func ⟨(Str.ofString "_index"),(Str.ofString "_index"),a110,(FuncBody.stmts b110),s110,3,[],Value.none,
 Value.none,Value.none,(Value.str (Str.ofString "io") 463),none,(Value.ref 109),Value.none,0⟩),#[]⟩) ::
 ((nat_lit 111),⟨(Value.type "tuple"),none,(Data.seq #[(Value.type "OSError"),(Value.type "ValueError")] 0),#[]⟩) ::
 ((nat_lit 118),⟨(Value.type "tuple"),none,(Data.seq #[] 0),#[]⟩) ::
 ((nat_lit 119),⟨(Value.type "dict"),none,(Data.dict #[⟨(PyData.keyHash P (Str.ofString "__module__")),(Value.str (Str.ofString "__module__") 488),(Value.str 
 (Str.ofString "io") 493)⟩,⟨(PyData.keyHash P (Str.ofString "__firstlineno__")),(Value.str (Str.ofString "__firstlineno__") 492),(Value.int 76 491)⟩,⟨(PyData.keyHash 
 P (Str.ofString "__static_attributes__")),(Value.str (Str.ofString "__static_attributes__") 495),(Value.ref 118)⟩,⟨(PyData.keyHash P (Str.ofString "__weakref__")),
 (Value.str (Str.ofString "__weakref__") 497),(Value.ref 121)⟩,⟨(PyData.keyHash P (Str.ofString "__doc__")),(Value.str (Str.ofString "__doc__") 498),Value.none⟩] 
 3),#[]⟩) ::
 ((nat_lit 120),⟨(Value.type "type"),none,(Data.cls ⟨(Str.ofString "UnsupportedOperation"),[(Value.type "OSError"),(Value.type "ValueError")],[(Value.ref 
 120),(Value.type "OSError"),(Value.type "ValueError"),(Value.type "Exception"),(Value.type "BaseException"),(Value.type "object")],119,(Str.ofString "UnsupportedOperation"),
 Bool.true,[],[],Bool.false,none,Bool.false⟩),#[(some (Value.ref 111)),none,(some (Value.str (Str.ofString "UnsupportedOperation") 481)),(some (Value.str 
 (Str.ofString "UnsupportedOperation") 489)),(some (Value.builtin "OSError.__new__")),(some (Value.bool Bool.true))]⟩) ::
 ((nat_lit 121),⟨(Value.type "getset_descriptor"),none,(Data.fields #[(Value.str (Str.ofString "__weakref__") 496),(Value.ref 120),(Value.builtin "ExceptionGroup.__weakref__"),
 Value.none]),#[]⟩) ::
 ((nat_lit 131),⟨(Value.type "tuple"),none,(Data.seq #[] 0),#[]⟩) ::
 ((nat_lit 133),⟨(Value.type "tuple"),none,(Data.seq #[(Value.str (Str.ofString "cls") 520),(Value.str (Str.ofString "args") 521),(Value.str (Str.ofString 
 "kwargs") 522)] 0),#[]⟩) ::
 ((nat_lit 134),⟨(Value.type "tuple"),none,(Data.seq #[] 0),#[]⟩) ::
 ((nat_lit 136),⟨(Value.type "code"),none,(Data.fields #[(Value.str (Str.ofString "__new__") 517),(Value.str (Str.ofString "IOBase.__new__") 518),(Value.str 
 (Str.ofString "/claim/cut.py") 519),(Value.int 81 0),(Value.int 1 0),(Value.int 1 0),(Value.int 0 0),(Value.int 15 0),(Value.ref 131),(Value.bool Bool.true),
 (Value.int 318 0),(Value.ref 132),Value.none,(Value.ref 133),(Value.ref 134),(Value.ref 135),(Value.int 523 0),(Value.int 81 0),(Value.str (Str.ofString 
 "/claim/cut.py") 524)]),#[]⟩) ::
 ((nat_lit 137),⟨(Value.type "function"),none,(Data.func ⟨(Str.ofString "__new__"),(Str.ofString "IOBase.__new__"),a137,(FuncBody.stmts b137),s137,3,[],
 Value.none,Value.none,Value.none,(Value.str (Str.ofString "io") 463),none,(Value.ref 136),Value.none,0⟩),#[]⟩) ::
 ((nat_lit 138),⟨(Value.type "tuple"),none,(Data.seq #[] 0),#[]⟩) ::
 ((nat_lit 139),⟨(Value.type "dict"),none,(Data.dict #[⟨(PyData.keyHash P (Str.ofString "__module__")),(Value.str (Str.ofString "__module__") 510),(Value.str 
 (Str.ofString "io") 515)⟩,⟨(PyData.keyHash P (Str.ofString "__firstlineno__")),(Value.str (Str.ofString "__firstlineno__") 514),(Value.int 78 513)⟩,⟨(PyData.keyHash 
 P (Str.ofString "__new__")),(Value.str (Str.ofString "__new__") 525),(Value.ref 141)⟩,⟨(PyData.keyHash P (Str.ofString "__static_attributes__")),(Value.str 
 (Str.ofString "__static_attributes__") 526),(Value.ref 138)⟩,⟨(PyData.keyHash P (Str.ofString "__dict__")),(Value.str (Str.ofString "__dict__") 529),(Value.ref 
 142)⟩,⟨(PyData.keyHash P (Str.ofString "__weakref__")),(Value.str (Str.ofString "__weakref__") 531),(Value.ref 143)⟩,⟨(PyData.keyHash P (Str.ofString 
 "__doc__")),(Value.str (Str.ofString "__doc__") 532),Value.none⟩] 4),#[]⟩) ::
 ((nat_lit 140),⟨(Value.type "type"),none,(Data.cls ⟨(Str.ofString "IOBase"),[(Value.type "object")],[(Value.ref 140),(Value.type "object")],139,(Str.ofString 
 "IOBase"),Bool.true,[],[(Value.ref 155),(Value.ref 167)],Bool.false,none,Bool.false⟩),#[none,none,(some (Value.str (Str.ofString "IOBase") 503)),(some 
 (Value.str (Str.ofString "IOBase") 511)),(some Value.none),(some (Value.bool Bool.true))]⟩) ::
 ((nat_lit 141),⟨(Value.type "staticmethod"),none,(Data.fields #[(Value.ref 137)]),#[]⟩) ::
 ((nat_lit 142),⟨(Value.type "getset_descriptor"),none,(Data.fields #[(Value.str (Str.ofString "__dict__") 528),(Value.ref 140),(Value.builtin "function.__dict__"),
 (Value.builtin "function.__dict__#set")]),#[]⟩) ::
 ((nat_lit 143),⟨(Value.type "getset_descriptor"),none,(Data.fields #[(Value.str (Str.ofString "__weakref__") 530),(Value.ref 140),(Value.builtin "ExceptionGroup.__weakref__"),
 Value.none]),#[]⟩) ::
 ((nat_lit 146),⟨(Value.type "tuple"),none,(Data.seq #[(Value.ref 140)] 0),#[]⟩) ::
 ((nat_lit 153),⟨(Value.type "tuple"),none,(Data.seq #[] 0),#[]⟩) ::
 ((nat_lit 154),⟨(Value.type "dict"),none,(Data.dict #[⟨(PyData.keyHash P (Str.ofString "__module__")),(Value.str (Str.ofString "__module__") 542),(Value.str 
 (Str.ofString "io") 547)⟩,⟨(PyData.keyHash P (Str.ofString "__firstlineno__")),(Value.str (Str.ofString "__firstlineno__") 546),(Value.int 85 545)⟩,⟨(PyData.keyHash 
 P (Str.ofString "__static_attributes__")),(Value.str (Str.ofString "__static_attributes__") 549),(Value.ref 153)⟩,⟨(PyData.keyHash P (Str.ofString "__doc__")),
 (Value.str (Str.ofString "__doc__") 550),Value.none⟩] 2),#[]⟩) ::
 ((nat_lit 155),⟨(Value.type "type"),none,(Data.cls ⟨(Str.ofString "BufferedIOBase"),[(Value.ref 140)],[(Value.ref 155),(Value.ref 140),(Value.type "object")],
 154,(Str.ofString "BufferedIOBase"),Bool.true,[],[(Value.ref 397)],Bool.false,none,Bool.false⟩),#[(some (Value.ref 146)),none,(some (Value.str (Str.ofString 
 "BufferedIOBase") 535)),(some (Value.str (Str.ofString "BufferedIOBase") 543)),(some Value.none),(some (Value.bool Bool.true))]⟩) ::
 ((nat_lit 158),⟨(Value.type "tuple"),none,(Data.seq #[(Value.ref 140)] 0),#[]⟩) ::
 ((nat_lit 165),⟨(Value.type "tuple"),none,(Data.seq #[] 0),#[]⟩) ::
 ((nat_lit 166),⟨(Value.type "dict"),none,(Data.dict #[⟨(PyData.keyHash P (Str.ofString "__module__")),(Value.str (Str.ofString "__module__") 560),(Value.str 
 (Str.ofString "io") 565)⟩,⟨(PyData.keyHash P (Str.ofString "__firstlineno__")),(Value.str (Str.ofString "__firstlineno__") 564),(Value.int 87 563)⟩,⟨(PyData.keyHash 
 P (Str.ofString "__static_attributes__")),(Value.str (Str.ofString "__static_attributes__") 567),(Value.ref 165)⟩,⟨(PyData.keyHash P (Str.ofString "__doc__")),
 (Value.str (Str.ofString "__doc__") 568),Value.none⟩] 2),#[]⟩) ::
 ((nat_lit 167),⟨(Value.type "type"),none,(Data.cls ⟨(Str.ofString "TextIOBase"),[(Value.ref 140)],[(Value.ref 167),(Value.ref 140),(Value.type "object")],
 166,(Str.ofString "TextIOBase"),Bool.true,[],[(Value.ref 644)],Bool.false,none,Bool.false⟩),#[(some (Value.ref 158)),none,(some (Value.str (Str.ofString 
 "TextIOBase") 553)),(some (Value.str (Str.ofString "TextIOBase") 561)),(some Value.none),(some (Value.bool Bool.true))]⟩) ::
 ((nat_lit 170),⟨(Value.type "tuple"),none,(Data.seq #[(Value.ref 155)] 0),#[]⟩) ::
 ((nat_lit 177),⟨(Value.type "tuple"),none,(Data.seq #[Value.none] 0),#[]⟩) ::
 ((nat_lit 206),⟨(Value.type "property"),none,(Data.fields #[(Value.ref 205),Value.none,Value.none,Value.none,(Value.str (Str.ofString "closed") 618),(Value.bool 
 Bool.false)]),#[]⟩) ::
 ((nat_lit 298),⟨(Value.type "tuple"),none,(Data.seq #[(Value.int 0 711)] 0),#[]⟩) ::
 ((nat_lit 306),⟨(Value.type "tuple"),none,(Data.seq #[Value.none] 0),#[]⟩) ::
 ((nat_lit 314),⟨(Value.type "tuple"),none,(Data.seq #[(Value.int (-1) 730)] 0),#[]⟩) ::
 ((nat_lit 322),⟨(Value.type "tuple"),none,(Data.seq #[(Value.int (-1) 742)] 0),#[]⟩) ::
 ((nat_lit 344),⟨(Value.type "tuple"),none,(Data.seq #[(Value.int (-1) 770)] 0),#[]⟩) ::
 ((nat_lit 352),⟨(Value.type "tuple"),none,(Data.seq #[Value.none] 0),#[]⟩) ::
 ((nat_lit 395),⟨(Value.type "tuple"),none,(Data.seq #[(Value.str (Str.ofString "__buf") 827),(Value.str (Str.ofString "__pos") 828)] 0),#[]⟩) ::
 ((nat_lit 396),⟨(Value.type "dict"),none,(Data.dict (List.toArray (⟨(PyData.keyHash P (Str.ofString "__module__")),(Value.str (Str.ofString "__module__") 
 578),(Value.str (Str.ofString "_io") 583)⟩ :: ⟨(PyData.keyHash P (Str.ofString "__firstlineno__")),(Value.str (Str.ofString "__firstlineno__") 582),(Value.int 
 89 581)⟩ :: ⟨(PyData.keyHash P (Str.ofString "__init__")),(Value.str (Str.ofString "__init__") 592),(Value.ref 184)⟩ :: ⟨(PyData.keyHash P (Str.ofString 
 "_BytesIO__check")),(Value.str (Str.ofString "_BytesIO__check") 599),(Value.ref 191)⟩ :: ⟨(PyData.keyHash P (Str.ofString "_BytesIO__line")),(Value.str 
 (Str.ofString "_BytesIO__line") 610),(Value.ref 198)⟩ :: ⟨(PyData.keyHash P (Str.ofString "closed")),(Value.str (Str.ofString "closed") 618),(Value.ref 
 206)⟩ :: ⟨(PyData.keyHash P (Str.ofString "close")),(Value.str (Str.ofString "close") 625),(Value.ref 213)⟩ :: ⟨(PyData.keyHash P (Str.ofString "__enter__")),
 (Value.str (Str.ofString "__enter__") 632),(Value.ref 220)⟩ :: ⟨(PyData.keyHash P (Str.ofString "__exit__")),(Value.str (Str.ofString "__exit__") 640),
 (Value.ref 227)⟩ :: ⟨(PyData.keyHash P (Str.ofString "readable")),(Value.str (Str.ofString "readable") 647),(Value.ref 234)⟩ :: ⟨(PyData.keyHash P (Str.ofString 
 "writable")),(Value.str (Str.ofString "writable") 654),(Value.ref 241)⟩ :: ⟨(PyData.keyHash P (Str.ofString "seekable")),(Value.str (Str.ofString "seekable") 
 661),(Value.ref 248)⟩ :: ⟨(PyData.keyHash P (Str.ofString "isatty")),(Value.str (Str.ofString "isatty") 668),(Value.ref 255)⟩ :: ⟨(PyData.keyHash P (Str.ofString 
 "flush")),(Value.str (Str.ofString "flush") 675),(Value.ref 262)⟩ :: ⟨(PyData.keyHash P (Str.ofString "fileno")),(Value.str (Str.ofString "fileno") 682),
 (Value.ref 269)⟩ :: ⟨(PyData.keyHash P (Str.ofString "detach")),(Value.str (Str.ofString "detach") 689),(Value.ref 276)⟩ :: ⟨(PyData.keyHash P (Str.ofString 
 "getvalue")),(Value.str (Str.ofString "getvalue") 696),(Value.ref 283)⟩ :: ⟨(PyData.keyHash P (Str.ofString "getbuffer")),(Value.str (Str.ofString "getbuffer") 
 703),(Value.ref 290)⟩ :: ⟨(PyData.keyHash P (Str.ofString "tell")),(Value.str (Str.ofString "tell") 710),(Value.ref 297)⟩ :: ⟨(PyData.keyHash P (Str.ofString 
 "seek")),(Value.str (Str.ofString "seek") 720),(Value.ref 305)⟩ :: ⟨(PyData.keyHash P (Str.ofString "truncate")),(Value.str (Str.ofString "truncate") 
 728),(Value.ref 313)⟩ :: ⟨(PyData.keyHash P (Str.ofString "read")),(Value.str (Str.ofString "read") 740),(Value.ref 321)⟩ :: ⟨(PyData.keyHash P (Str.ofString 
 "read1")),(Value.str (Str.ofString "read1") 750),(Value.ref 329)⟩ :: ⟨(PyData.keyHash P (Str.ofString "readinto")),(Value.str (Str.ofString "readinto") 
 760),(Value.ref 336)⟩ :: ⟨(PyData.keyHash P (Str.ofString "readinto1")),(Value.str (Str.ofString "readinto1") 768),(Value.ref 343)⟩ :: ⟨(PyData.keyHash 
 P (Str.ofString "readline")),(Value.str (Str.ofString "readline") 778),(Value.ref 351)⟩ :: ⟨(PyData.keyHash P (Str.ofString "readlines")),(Value.str (Str.ofString 
 "readlines") 786),(Value.ref 359)⟩ :: ⟨(PyData.keyHash P (Str.ofString "__iter__")),(Value.str (Str.ofString "__iter__") 793),(Value.ref 366)⟩ :: ⟨(PyData.keyHash 
 P (Str.ofString "__next__")),(Value.str (Str.ofString "__next__") 801),(Value.ref 373)⟩ :: ⟨(PyData.keyHash P (Str.ofString "write")),(Value.str (Str.ofString 
 "write") 811),(Value.ref 380)⟩ :: ⟨(PyData.keyHash P (Str.ofString "writelines")),(Value.str (Str.ofString "writelines") 819),(Value.ref 387)⟩ :: ⟨(PyData.keyHash 
 P (Str.ofString "__repr__")),(Value.str (Str.ofString "__repr__") 826),(Value.ref 394)⟩ :: ⟨(PyData.keyHash P (Str.ofString "__static_attributes__")),
 (Value.str (Str.ofString "__static_attributes__") 829),(Value.ref 395)⟩ :: ⟨(PyData.keyHash P (Str.ofString "__doc__")),(Value.str (Str.ofString "__doc__") 
 830),Value.none⟩ :: [])) 2),#[]⟩) ::
 ((nat_lit 397),⟨(Value.type "type"),none,(Data.cls ⟨(Str.ofString "BytesIO"),[(Value.ref 155)],[(Value.ref 397),(Value.ref 155),(Value.ref 140),(Value.type 
 "object")],396,(Str.ofString "BytesIO"),Bool.true,[],[],Bool.false,none,Bool.false⟩),#[(some (Value.ref 170)),none,(some (Value.str (Str.ofString "BytesIO") 
 571)),(some (Value.str (Str.ofString "BytesIO") 579)),(some Value.none),(some (Value.bool Bool.true))]⟩) ::
 ((nat_lit 400),⟨(Value.type "tuple"),none,(Data.seq #[(Value.ref 167)] 0),#[]⟩) ::
 ((nat_lit 407),⟨(Value.type "tuple"),none,(Data.seq #[(Value.str (Str.ofString "") 847),(Value.str (Str.ofString "\n") 848)] 0),#[]⟩) ::
 ((nat_lit 408),⟨(Value.type "tuple"),none,(Data.seq #[] 0),#[]⟩) ::
 ((nat_lit 410),⟨(Value.type "tuple"),none,(Data.seq #[(Value.str (Str.ofString "self") 852),(Value.str (Str.ofString "initial_value") 853),(Value.str 
 (Str.ofString "newline") 854)] 0),#[]⟩) ::
 ((nat_lit 411),⟨(Value.type "tuple"),none,(Data.seq #[] 0),#[]⟩) ::
 ((nat_lit 413),⟨(Value.type "code"),none,(Data.fields #[(Value.str (Str.ofString "__init__") 849),(Value.str (Str.ofString "StringIO.__init__") 850),(Value.str 
 (Str.ofString "/claim/cut.py") 851),(Value.int 262 0),(Value.int 3 0),(Value.int 0 0),(Value.int 0 0),(Value.int 3 0),(Value.ref 408),(Value.bool Bool.true),
 (Value.int 318 0),(Value.ref 409),Value.none,(Value.ref 410),(Value.ref 411),(Value.ref 412),(Value.int 855 0),(Value.int 262 0),(Value.str (Str.ofString 
 "/claim/cut.py") 856)]),#[]⟩) ::
 ((nat_lit 414),⟨(Value.type "function"),none,(Data.func ⟨(Str.ofString "__init__"),(Str.ofString "StringIO.__init__"),a414,(FuncBody.stmts b414),s414,
 3,[],(Value.ref 407),Value.none,Value.none,(Value.str (Str.ofString "io") 463),none,(Value.ref 413),Value.none,0⟩),#[]⟩) ::
 ((nat_lit 415),⟨(Value.type "tuple"),none,(Data.seq #[] 0),#[]⟩) ::
 ((nat_lit 417),⟨(Value.type "tuple"),none,(Data.seq #[(Value.str (Str.ofString "self") 861),(Value.str (Str.ofString "s") 862),(Value.str (Str.ofString 
 "newline") 863)] 0),#[]⟩) ::
 ((nat_lit 418),⟨(Value.type "tuple"),none,(Data.seq #[] 0),#[]⟩) ::
 ((nat_lit 420),⟨(Value.type "code"),none,(Data.fields #[(Value.str (Str.ofString "__translated") 858),(Value.str (Str.ofString "StringIO.__translated") 
 859),(Value.str (Str.ofString "/claim/cut.py") 860),(Value.int 275 0),(Value.int 2 0),(Value.int 0 0),(Value.int 0 0),(Value.int 3 0),(Value.ref 415),
 (Value.bool Bool.true),(Value.int 318 0),(Value.ref 416),Value.none,(Value.ref 417),(Value.ref 418),(Value.ref 419),(Value.int 864 0),(Value.int 275 0),
 (Value.str (Str.ofString "/claim/cut.py") 865)]),#[]⟩) ::
 ((nat_lit 421),⟨(Value.type "function"),none,(Data.func ⟨(Str.ofString "__translated"),(Str.ofString "StringIO.__translated"),a421,(FuncBody.stmts b421),
 s421,3,[],Value.none,Value.none,Value.none,(Value.str (Str.ofString "io") 463),none,(Value.ref 420),Value.none,0⟩),#[]⟩) ::
 ((nat_lit 422),⟨(Value.type "tuple"),none,(Data.seq #[] 0),#[]⟩) ::
 ((nat_lit 424),⟨(Value.type "tuple"),none,(Data.seq #[(Value.str (Str.ofString "self") 870)] 0),#[]⟩) ::
 ((nat_lit 425),⟨(Value.type "tuple"),none,(Data.seq #[] 0),#[]⟩) ::
 ((nat_lit 427),⟨(Value.type "code"),none,(Data.fields #[(Value.str (Str.ofString "__check") 867),(Value.str (Str.ofString "StringIO.__check") 868),(Value.str 
 (Str.ofString "/claim/cut.py") 869),(Value.int 283 0),(Value.int 1 0),(Value.int 0 0),(Value.int 0 0),(Value.int 3 0),(Value.ref 422),(Value.bool Bool.true),
 (Value.int 318 0),(Value.ref 423),Value.none,(Value.ref 424),(Value.ref 425),(Value.ref 426),(Value.int 871 0),(Value.int 283 0),(Value.str (Str.ofString 
 "/claim/cut.py") 872)]),#[]⟩) ::
 ((nat_lit 428),⟨(Value.type "function"),none,(Data.func ⟨(Str.ofString "__check"),(Str.ofString "StringIO.__check"),a428,(FuncBody.stmts b428),s428,3,
 [],Value.none,Value.none,Value.none,(Value.str (Str.ofString "io") 463),none,(Value.ref 427),Value.none,0⟩),#[]⟩) ::
 ((nat_lit 450),⟨(Value.type "property"),none,(Data.fields #[(Value.ref 449),Value.none,Value.none,Value.none,(Value.str (Str.ofString "closed") 903),(Value.bool 
 Bool.false)]),#[]⟩) ::
 ((nat_lit 458),⟨(Value.type "property"),none,(Data.fields #[(Value.ref 457),Value.none,Value.none,Value.none,(Value.str (Str.ofString "line_buffering") 
 911),(Value.bool Bool.false)]),#[]⟩) ::
 ((nat_lit 466),⟨(Value.type "property"),none,(Data.fields #[(Value.ref 465),Value.none,Value.none,Value.none,(Value.str (Str.ofString "newlines") 919),
 (Value.bool Bool.false)]),#[]⟩) ::
 ((nat_lit 474),⟨(Value.type "property"),none,(Data.fields #[(Value.ref 473),Value.none,Value.none,Value.none,(Value.str (Str.ofString "encoding") 927),
 (Value.bool Bool.false)]),#[]⟩) ::
 ((nat_lit 482),⟨(Value.type "property"),none,(Data.fields #[(Value.ref 481),Value.none,Value.none,Value.none,(Value.str (Str.ofString "errors") 935),(Value.bool 
 Bool.false)]),#[]⟩) ::
 ((nat_lit 567),⟨(Value.type "tuple"),none,(Data.seq #[(Value.int 0 1021)] 0),#[]⟩) ::
 ((nat_lit 575),⟨(Value.type "tuple"),none,(Data.seq #[Value.none] 0),#[]⟩) ::
 ((nat_lit 583),⟨(Value.type "tuple"),none,(Data.seq #[(Value.int (-1) 1040)] 0),#[]⟩) ::
 ((nat_lit 584),⟨(Value.type "tuple"),none,(Data.seq #[] 0),#[]⟩) ::
 ((nat_lit 586),⟨(Value.type "tuple"),none,(Data.seq #[(Value.str (Str.ofString "self") 1044),(Value.str (Str.ofString "size") 1045),(Value.str (Str.ofString 
 "start") 1046),(Value.str (Str.ofString "stop") 1047)] 0),#[]⟩) ::
 ((nat_lit 587),⟨(Value.type "tuple"),none,(Data.seq #[] 0),#[]⟩) ::
 ((nat_lit 589),⟨(Value.type "code"),none,(Data.fields #[(Value.str (Str.ofString "read") 1041),(Value.str (Str.ofString "StringIO.read") 1042),(Value.str 
 (Str.ofString "/claim/cut.py") 1043),(Value.int 405 0),(Value.int 2 0),(Value.int 2 0),(Value.int 0 0),(Value.int 3 0),(Value.ref 584),(Value.bool Bool.true),
 (Value.int 318 0),(Value.ref 585),Value.none,(Value.ref 586),(Value.ref 587),(Value.ref 588),(Value.int 1048 0),(Value.int 405 0),(Value.str (Str.ofString 
 "/claim/cut.py") 1049)]),#[]⟩) ::
 ((nat_lit 590),⟨(Value.type "function"),none,(Data.func ⟨(Str.ofString "read"),(Str.ofString "StringIO.read"),a590,(FuncBody.stmts b590),s590,3,[],(Value.ref 
 583),Value.none,Value.none,(Value.str (Str.ofString "io") 463),none,(Value.ref 589),Value.none,0⟩),#[]⟩) ::
 ((nat_lit 591),⟨(Value.type "tuple"),none,(Data.seq #[(Value.int (-1) 1052)] 0),#[]⟩) ::
 ((nat_lit 599),⟨(Value.type "tuple"),none,(Data.seq #[(Value.int (-1) 1062)] 0),#[]⟩) ::
 ((nat_lit 642),⟨(Value.type "tuple"),none,(Data.seq #[(Value.str (Str.ofString "__buf") 1113),(Value.str (Str.ofString "__newline") 1114),(Value.str (Str.ofString 
 "__pos") 1115)] 0),#[]⟩) ::
 ((nat_lit 643),⟨(Value.type "dict"),none,(Data.dict (List.toArray (⟨(PyData.keyHash P (Str.ofString "__module__")),(Value.str (Str.ofString "__module__") 
 840),(Value.str (Str.ofString "_io") 845)⟩ :: ⟨(PyData.keyHash P (Str.ofString "__firstlineno__")),(Value.str (Str.ofString "__firstlineno__") 844),(Value.int 
 259 843)⟩ :: ⟨(PyData.keyHash P (Str.ofString "__init__")),(Value.str (Str.ofString "__init__") 857),(Value.ref 414)⟩ :: ⟨(PyData.keyHash P (Str.ofString 
 "_StringIO__translated")),(Value.str (Str.ofString "_StringIO__translated") 866),(Value.ref 421)⟩ :: ⟨(PyData.keyHash P (Str.ofString "_StringIO__check")),
 (Value.str (Str.ofString "_StringIO__check") 873),(Value.ref 428)⟩ :: ⟨(PyData.keyHash P (Str.ofString "_StringIO__check_dot")),(Value.str (Str.ofString 
 "_StringIO__check_dot") 880),(Value.ref 435)⟩ :: ⟨(PyData.keyHash P (Str.ofString "_StringIO__line")),(Value.str (Str.ofString "_StringIO__line") 895),
 (Value.ref 442)⟩ :: ⟨(PyData.keyHash P (Str.ofString "closed")),(Value.str (Str.ofString "closed") 903),(Value.ref 450)⟩ :: ⟨(PyData.keyHash P (Str.ofString 
 "line_buffering")),(Value.str (Str.ofString "line_buffering") 911),(Value.ref 458)⟩ :: ⟨(PyData.keyHash P (Str.ofString "newlines")),(Value.str (Str.ofString 
 "newlines") 919),(Value.ref 466)⟩ :: ⟨(PyData.keyHash P (Str.ofString "encoding")),(Value.str (Str.ofString "encoding") 927),(Value.ref 474)⟩ :: ⟨(PyData.keyHash 
 P (Str.ofString "errors")),(Value.str (Str.ofString "errors") 935),(Value.ref 482)⟩ :: ⟨(PyData.keyHash P (Str.ofString "close")),(Value.str (Str.ofString 
 "close") 942),(Value.ref 489)⟩ :: ⟨(PyData.keyHash P (Str.ofString "__enter__")),(Value.str (Str.ofString "__enter__") 949),(Value.ref 496)⟩ :: ⟨(PyData.keyHash 
 P (Str.ofString "__exit__")),(Value.str (Str.ofString "__exit__") 957),(Value.ref 503)⟩ :: ⟨(PyData.keyHash P (Str.ofString "readable")),(Value.str (Str.ofString 
 "readable") 964),(Value.ref 510)⟩ :: ⟨(PyData.keyHash P (Str.ofString "writable")),(Value.str (Str.ofString "writable") 971),(Value.ref 517)⟩ :: ⟨(PyData.keyHash 
 P (Str.ofString "seekable")),(Value.str (Str.ofString "seekable") 978),(Value.ref 524)⟩ :: ⟨(PyData.keyHash P (Str.ofString "isatty")),(Value.str (Str.ofString 
 "isatty") 985),(Value.ref 531)⟩ :: ⟨(PyData.keyHash P (Str.ofString "flush")),(Value.str (Str.ofString "flush") 992),(Value.ref 538)⟩ :: ⟨(PyData.keyHash 
 P (Str.ofString "fileno")),(Value.str (Str.ofString "fileno") 999),(Value.ref 545)⟩ :: ⟨(PyData.keyHash P (Str.ofString "detach")),(Value.str (Str.ofString 
 "detach") 1006),(Value.ref 552)⟩ :: ⟨(PyData.keyHash P (Str.ofString "getvalue")),(Value.str (Str.ofString "getvalue") 1013),(Value.ref 559)⟩ :: ⟨(PyData.keyHash 
 P (Str.ofString "tell")),(Value.str (Str.ofString "tell") 1020),(Value.ref 566)⟩ :: ⟨(PyData.keyHash P (Str.ofString "seek")),(Value.str (Str.ofString 
 "seek") 1030),(Value.ref 574)⟩ :: ⟨(PyData.keyHash P (Str.ofString "truncate")),(Value.str (Str.ofString "truncate") 1038),(Value.ref 582)⟩ :: ⟨(PyData.keyHash 
 P (Str.ofString "read")),(Value.str (Str.ofString "read") 1050),(Value.ref 590)⟩ :: ⟨(PyData.keyHash P (Str.ofString "readline")),(Value.str (Str.ofString 
 "readline") 1060),(Value.ref 598)⟩ :: ⟨(PyData.keyHash P (Str.ofString "readlines")),(Value.str (Str.ofString "readlines") 1070),(Value.ref 606)⟩ :: ⟨(PyData.keyHash 
 P (Str.ofString "__iter__")),(Value.str (Str.ofString "__iter__") 1077),(Value.ref 613)⟩ :: ⟨(PyData.keyHash P (Str.ofString "__next__")),(Value.str (Str.ofString 
 "__next__") 1085),(Value.ref 620)⟩ :: ⟨(PyData.keyHash P (Str.ofString "write")),(Value.str (Str.ofString "write") 1097),(Value.ref 627)⟩ :: ⟨(PyData.keyHash 
 P (Str.ofString "writelines")),(Value.str (Str.ofString "writelines") 1105),(Value.ref 634)⟩ :: ⟨(PyData.keyHash P (Str.ofString "__repr__")),(Value.str 
 (Str.ofString "__repr__") 1112),(Value.ref 641)⟩ :: ⟨(PyData.keyHash P (Str.ofString "__static_attributes__")),(Value.str (Str.ofString "__static_attributes__") 
 1116),(Value.ref 642)⟩ :: ⟨(PyData.keyHash P (Str.ofString "__doc__")),(Value.str (Str.ofString "__doc__") 1117),Value.none⟩ :: [])) 2),#[]⟩) ::
 ((nat_lit 644),⟨(Value.type "type"),none,(Data.cls ⟨(Str.ofString "StringIO"),[(Value.ref 167)],[(Value.ref 644),(Value.ref 167),(Value.ref 140),(Value.type 
 "object")],643,(Str.ofString "StringIO"),Bool.true,[],[],Bool.false,none,Bool.false⟩),#[(some (Value.ref 400)),none,(some (Value.str (Str.ofString "StringIO") 
 833)),(some (Value.str (Str.ofString "StringIO") 841)),(some Value.none),(some (Value.bool Bool.true))]⟩) ::
 ((nat_lit 696),⟨(Value.type "tuple"),none,(Data.seq #[Value.none,Value.none,(Value.bool Bool.false),(Value.bool Bool.false)] 0),#[]⟩) ::
 ((nat_lit 697),⟨(Value.type "tuple"),none,(Data.seq #[] 0),#[]⟩) ::
 ((nat_lit 699),⟨(Value.type "tuple"),none,(Data.seq #[(Value.str (Str.ofString "self") 1196),(Value.str (Str.ofString "instream") 1197),(Value.str (Str.ofString 
 "infile") 1198),(Value.str (Str.ofString "posix") 1199),(Value.str (Str.ofString "punctuation_chars") 1200),(Value.str (Str.ofString "t") 1201)] 0),#[]⟩) ::
 ((nat_lit 700),⟨(Value.type "tuple"),none,(Data.seq #[] 0),#[]⟩) ::
 ((nat_lit 702),⟨(Value.type "code"),none,(Data.fields #[(Value.str (Str.ofString "__init__") 1193),(Value.str (Str.ofString "shlex.__init__") 1194),(Value.str 
 (Str.ofString "/claim/cut.py") 1195),(Value.int 531 0),(Value.int 5 0),(Value.int 0 0),(Value.int 0 0),(Value.int 3 0),(Value.ref 697),(Value.bool Bool.true),
 (Value.int 318 0),(Value.ref 698),Value.none,(Value.ref 699),(Value.ref 700),(Value.ref 701),(Value.int 1202 0),(Value.int 531 0),(Value.str (Str.ofString 
 "/claim/cut.py") 1203)]),#[]⟩) ::
 ((nat_lit 703),⟨(Value.type "function"),none,(Data.func ⟨(Str.ofString "__init__"),(Str.ofString "shlex.__init__"),a703,(FuncBody.stmts b703),s703,3,[],
 (Value.ref 696),Value.none,Value.none,(Value.str (Str.ofString "cpy313.shlex") 1179),none,(Value.ref 702),Value.none,0⟩),#[]⟩) ::
 ((nat_lit 704),⟨(Value.type "tuple"),none,(Data.seq #[] 0),#[]⟩) ::
 ((nat_lit 706),⟨(Value.type "tuple"),none,(Data.seq #[(Value.str (Str.ofString "self") 1208)] 0),#[]⟩) ::
 ((nat_lit 707),⟨(Value.type "tuple"),none,(Data.seq #[] 0),#[]⟩) ::
 ((nat_lit 709),⟨(Value.type "code"),none,(Data.fields #[(Value.str (Str.ofString "punctuation_chars") 1205),(Value.str (Str.ofString "shlex.punctuation_chars") 
 1206),(Value.str (Str.ofString "/claim/cut.py") 1207),(Value.int 572 0),(Value.int 1 0),(Value.int 0 0),(Value.int 0 0),(Value.int 3 0),(Value.ref 704),
 (Value.bool Bool.true),(Value.int 318 0),(Value.ref 705),Value.none,(Value.ref 706),(Value.ref 707),(Value.ref 708),(Value.int 1209 0),(Value.int 572 
 0),(Value.str (Str.ofString "/claim/cut.py") 1210)]),#[]⟩) ::
 ((nat_lit 710),⟨(Value.type "function"),none,(Data.func ⟨(Str.ofString "punctuation_chars"),(Str.ofString "shlex.punctuation_chars"),a710,(FuncBody.stmts 
 b710),s710,3,[],Value.none,Value.none,Value.none,(Value.str (Str.ofString "cpy313.shlex") 1179),none,(Value.ref 709),Value.none,0⟩),#[]⟩) ::
 ((nat_lit 711),⟨(Value.type "property"),none,(Data.fields #[(Value.ref 710),Value.none,Value.none,Value.none,(Value.str (Str.ofString "punctuation_chars") 
 1212),(Value.bool Bool.false)]),#[]⟩) ::
 ((nat_lit 719),⟨(Value.type "tuple"),none,(Data.seq #[Value.none] 0),#[]⟩) ::
 ((nat_lit 734),⟨(Value.type "tuple"),none,(Data.seq #[] 0),#[]⟩) ::
 ((nat_lit 736),⟨(Value.type "tuple"),none,(Data.seq #[(Value.str (Str.ofString "self") 1240),(Value.str (Str.ofString "tok") 1241),(Value.str (Str.ofString 
 "raw") 1242),(Value.str (Str.ofString "spec") 1243),(Value.str (Str.ofString "newfile") 1244),(Value.str (Str.ofString "newstream") 1245)] 0),#[]⟩) ::
 ((nat_lit 737),⟨(Value.type "tuple"),none,(Data.seq #[] 0),#[]⟩) ::
 ((nat_lit 739),⟨(Value.type "code"),none,(Data.fields #[(Value.str (Str.ofString "get_token") 1237),(Value.str (Str.ofString "shlex.get_token") 1238),
 (Value.str (Str.ofString "/claim/cut.py") 1239),(Value.int 599 0),(Value.int 1 0),(Value.int 0 0),(Value.int 0 0),(Value.int 3 0),(Value.ref 734),(Value.bool 
 Bool.true),(Value.int 318 0),(Value.ref 735),Value.none,(Value.ref 736),(Value.ref 737),(Value.ref 738),(Value.int 1246 0),(Value.int 599 0),(Value.str 
 (Str.ofString "/claim/cut.py") 1247)]),#[]⟩) ::
 ((nat_lit 740),⟨(Value.type "function"),none,(Data.func ⟨(Str.ofString "get_token"),(Str.ofString "shlex.get_token"),a740,(FuncBody.stmts b740),s740,3,
 [],Value.none,Value.none,Value.none,(Value.str (Str.ofString "cpy313.shlex") 1179),none,(Value.ref 739),Value.none,0⟩),#[]⟩) ::
 ((nat_lit 741),⟨(Value.type "tuple"),none,(Data.seq #[] 0),#[]⟩) ::
 ((nat_lit 743),⟨(Value.type "tuple"),none,(Data.seq #[(Value.str (Str.ofString "self") 1252),(Value.str (Str.ofString "quoted") 1253),(Value.str (Str.ofString 
 "escapedstate") 1254),(Value.str (Str.ofString "nextchar") 1255),(Value.str (Str.ofString "result") 1256)] 0),#[]⟩) ::
 ((nat_lit 744),⟨(Value.type "tuple"),none,(Data.seq #[] 0),#[]⟩) ::
 ((nat_lit 746),⟨(Value.type "code"),none,(Data.fields #[(Value.str (Str.ofString "read_token") 1249),(Value.str (Str.ofString "shlex.read_token") 1250),
 (Value.str (Str.ofString "/claim/cut.py") 1251),(Value.int 626 0),(Value.int 1 0),(Value.int 0 0),(Value.int 0 0),(Value.int 3 0),(Value.ref 741),(Value.bool 
 Bool.true),(Value.int 318 0),(Value.ref 742),Value.none,(Value.ref 743),(Value.ref 744),(Value.ref 745),(Value.int 1257 0),(Value.int 626 0),(Value.str 
 (Str.ofString "/claim/cut.py") 1258)]),#[]⟩) ::
 ((nat_lit 747),⟨(Value.type "function"),none,(Data.func ⟨(Str.ofString "read_token"),(Str.ofString "shlex.read_token"),a747,(FuncBody.stmts b747),s747,
 3,[],Value.none,Value.none,Value.none,(Value.str (Str.ofString "cpy313.shlex") 1179),none,(Value.ref 746),Value.none,0⟩),#[]⟩) ::
 ((nat_lit 755),⟨(Value.type "tuple"),none,(Data.seq #[Value.none,Value.none] 0),#[]⟩) ::
 ((nat_lit 763),⟨(Value.type "tuple"),none,(Data.seq #[] 0),#[]⟩) ::
 ((nat_lit 765),⟨(Value.type "tuple"),none,(Data.seq #[(Value.str (Str.ofString "self") 1280)] 0),#[]⟩) ::
 ((nat_lit 766),⟨(Value.type "tuple"),none,(Data.seq #[] 0),#[]⟩) ::
 ((nat_lit 768),⟨(Value.type "code"),none,(Data.fields #[(Value.str (Str.ofString "__iter__") 1277),(Value.str (Str.ofString "shlex.__iter__") 1278),(Value.str 
 (Str.ofString "/claim/cut.py") 1279),(Value.int 773 0),(Value.int 1 0),(Value.int 0 0),(Value.int 0 0),(Value.int 3 0),(Value.ref 763),(Value.bool Bool.true),
 (Value.int 318 0),(Value.ref 764),Value.none,(Value.ref 765),(Value.ref 766),(Value.ref 767),(Value.int 1281 0),(Value.int 773 0),(Value.str (Str.ofString 
 "/claim/cut.py") 1282)]),#[]⟩) ::
 ((nat_lit 769),⟨(Value.type "function"),none,(Data.func ⟨(Str.ofString "__iter__"),(Str.ofString "shlex.__iter__"),a769,(FuncBody.stmts b769),s769,3,[],
 Value.none,Value.none,Value.none,(Value.str (Str.ofString "cpy313.shlex") 1179),none,(Value.ref 768),Value.none,0⟩),#[]⟩) ::
 ((nat_lit 770),⟨(Value.type "tuple"),none,(Data.seq #[] 0),#[]⟩) ::
 ((nat_lit 772),⟨(Value.type "tuple"),none,(Data.seq #[(Value.str (Str.ofString "self") 1287),(Value.str (Str.ofString "token") 1288)] 0),#[]⟩) ::
 ((nat_lit 773),⟨(Value.type "tuple"),none,(Data.seq #[] 0),#[]⟩) ::
 ((nat_lit 775),⟨(Value.type "code"),none,(Data.fields #[(Value.str (Str.ofString "__next__") 1284),(Value.str (Str.ofString "shlex.__next__") 1285),(Value.str 
 (Str.ofString "/claim/cut.py") 1286),(Value.int 776 0),(Value.int 1 0),(Value.int 0 0),(Value.int 0 0),(Value.int 3 0),(Value.ref 770),(Value.bool Bool.true),
 (Value.int 318 0),(Value.ref 771),Value.none,(Value.ref 772),(Value.ref 773),(Value.ref 774),(Value.int 1289 0),(Value.int 776 0),(Value.str (Str.ofString 
 "/claim/cut.py") 1290)]),#[]⟩) ::
 ((nat_lit 776),⟨(Value.type "function"),none,(Data.func ⟨(Str.ofString "__next__"),(Str.ofString "shlex.__next__"),a776,(FuncBody.stmts b776),s776,3,[],
 Value.none,Value.none,Value.none,(Value.str (Str.ofString "cpy313.shlex") 1179),none,(Value.ref 775),Value.none,0⟩),#[]⟩) ::
 ((nat_lit 777),⟨(Value.type "tuple"),none,(Data.seq #[(Value.str (Str.ofString "_punctuation_chars") 1292),(Value.str (Str.ofString "_pushback_chars") 
 1293),(Value.str (Str.ofString "commenters") 1294),(Value.str (Str.ofString "debug") 1295),(Value.str (Str.ofString "eof") 1296),(Value.str (Str.ofString 
 "escape") 1297),(Value.str (Str.ofString "escapedquotes") 1298),(Value.str (Str.ofString "filestack") 1299),(Value.str (Str.ofString "infile") 1300),(Value.str 
 (Str.ofString "instream") 1301),(Value.str (Str.ofString "lineno") 1302),(Value.str (Str.ofString "posix") 1303),(Value.str (Str.ofString "pushback") 
 1304),(Value.str (Str.ofString "quotes") 1305),(Value.str (Str.ofString "source") 1306),(Value.str (Str.ofString "state") 1307),(Value.str (Str.ofString 
 "token") 1308),(Value.str (Str.ofString "whitespace") 1309),(Value.str (Str.ofString "whitespace_split") 1310),(Value.str (Str.ofString "wordchars") 1311)] 
 0),#[]⟩) ::
 ((nat_lit 778),⟨(Value.type "dict"),none,(Data.dict #[⟨(PyData.keyHash P (Str.ofString "__module__")),(Value.str (Str.ofString "__module__") 1188),(Value.str 
 (Str.ofString "cpy313.shlex") 1179)⟩,⟨(PyData.keyHash P (Str.ofString "__firstlineno__")),(Value.str (Str.ofString "__firstlineno__") 1192),(Value.int 
 529 1191)⟩,⟨(PyData.keyHash P (Str.ofString "__init__")),(Value.str (Str.ofString "__init__") 1204),(Value.ref 703)⟩,⟨(PyData.keyHash P (Str.ofString 
 "punctuation_chars")),(Value.str (Str.ofString "punctuation_chars") 1212),(Value.ref 711)⟩,⟨(PyData.keyHash P (Str.ofString "push_token")),(Value.str 
 (Str.ofString "push_token") 1220),(Value.ref 718)⟩,⟨(PyData.keyHash P (Str.ofString "push_source")),(Value.str (Str.ofString "push_source") 1229),(Value.ref 
 726)⟩,⟨(PyData.keyHash P (Str.ofString "pop_source")),(Value.str (Str.ofString "pop_source") 1236),(Value.ref 733)⟩,⟨(PyData.keyHash P (Str.ofString "get_token")),
 (Value.str (Str.ofString "get_token") 1248),(Value.ref 740)⟩,⟨(PyData.keyHash P (Str.ofString "read_token")),(Value.str (Str.ofString "read_token") 1259),
 (Value.ref 747)⟩,⟨(PyData.keyHash P (Str.ofString "sourcehook")),(Value.str (Str.ofString "sourcehook") 1267),(Value.ref 754)⟩,⟨(PyData.keyHash P (Str.ofString 
 "error_leader")),(Value.str (Str.ofString "error_leader") 1276),(Value.ref 762)⟩,⟨(PyData.keyHash P (Str.ofString "__iter__")),(Value.str (Str.ofString 
 "__iter__") 1283),(Value.ref 769)⟩,⟨(PyData.keyHash P (Str.ofString "__next__")),(Value.str (Str.ofString "__next__") 1291),(Value.ref 776)⟩,⟨(PyData.keyHash 
 P (Str.ofString "__static_attributes__")),(Value.str (Str.ofString "__static_attributes__") 1312),(Value.ref 777)⟩,⟨(PyData.keyHash P (Str.ofString "__dict__")),
 (Value.str (Str.ofString "__dict__") 1314),(Value.ref 780)⟩,⟨(PyData.keyHash P (Str.ofString "__weakref__")),(Value.str (Str.ofString "__weakref__") 1316),
 (Value.ref 781)⟩,⟨(PyData.keyHash P (Str.ofString "__doc__")),(Value.str (Str.ofString "__doc__") 1317),Value.none⟩] 4),#[]⟩) ::
 ((nat_lit 779),⟨(Value.type "type"),none,(Data.cls ⟨(Str.ofString "shlex"),[(Value.type "object")],[(Value.ref 779),(Value.type "object")],778,(Str.ofString 
 "shlex"),Bool.true,[],[],Bool.false,none,Bool.false⟩),#[none,none,(some (Value.str (Str.ofString "shlex") 1181)),(some (Value.str (Str.ofString "shlex") 
 1189)),(some (Value.builtin "object.__new__")),(some (Value.bool Bool.true))]⟩) ::
 ((nat_lit 780),⟨(Value.type "getset_descriptor"),none,(Data.fields #[(Value.str (Str.ofString "__dict__") 1313),(Value.ref 779),(Value.builtin "function.__dict__"),
 (Value.builtin "function.__dict__#set")]),#[]⟩) ::
 ((nat_lit 781),⟨(Value.type "getset_descriptor"),none,(Data.fields #[(Value.str (Str.ofString "__weakref__") 1315),(Value.ref 779),(Value.builtin "ExceptionGroup.__weakref__"),
 Value.none]),#[]⟩) ::
 ((nat_lit 784),⟨(Value.type "tuple"),none,(Data.seq #[(Value.bool Bool.false),(Value.bool Bool.true)] 0),#[]⟩) ::
 ((nat_lit 785),⟨(Value.type "tuple"),none,(Data.seq #[] 0),#[]⟩) ::
 ((nat_lit 787),⟨(Value.type "tuple"),none,(Data.seq #[(Value.str (Str.ofString "s") 1323),(Value.str (Str.ofString "comments") 1324),(Value.str (Str.ofString 
 "posix") 1325),(Value.str (Str.ofString "lex") 1326)] 0),#[]⟩) ::
 ((nat_lit 788),⟨(Value.type "tuple"),none,(Data.seq #[] 0),#[]⟩) ::
 ((nat_lit 790),⟨(Value.type "code"),none,(Data.fields #[(Value.str (Str.ofString "split") 1320),(Value.str (Str.ofString "split") 1321),(Value.str (Str.ofString 
 "/claim/cut.py") 1322),(Value.int 781 0),(Value.int 3 0),(Value.int 0 0),(Value.int 0 0),(Value.int 3 0),(Value.ref 785),(Value.bool Bool.true),(Value.int 
 318 0),(Value.ref 786),Value.none,(Value.ref 787),(Value.ref 788),(Value.ref 789),(Value.int 1327 0),(Value.int 781 0),(Value.str (Str.ofString "/claim/cut.py") 
 1328)]),#[]⟩) ::
 ((nat_lit 791),⟨(Value.type "function"),none,(Data.func ⟨(Str.ofString "split"),(Str.ofString "split"),a791,(FuncBody.stmts b791),s791,3,[],(Value.ref 
 784),Value.none,Value.none,(Value.str (Str.ofString "cpy313.shlex") 1179),none,(Value.ref 790),Value.none,0⟩),#[]⟩) ::
 ((nat_lit 792),⟨(Value.type "tuple"),none,(Data.seq #[] 0),#[]⟩) ::
 ((nat_lit 794),⟨(Value.type "tuple"),none,(Data.seq #[(Value.str (Str.ofString "split_command") 1333)] 0),#[]⟩) ::
 ((nat_lit 795),⟨(Value.type "tuple"),none,(Data.seq #[] 0),#[]⟩) ::
 ((nat_lit 797),⟨(Value.type "code"),none,(Data.fields #[(Value.str (Str.ofString "join") 1330),(Value.str (Str.ofString "join") 1331),(Value.str (Str.ofString 
 "/claim/cut.py") 1332),(Value.int 789 0),(Value.int 1 0),(Value.int 0 0),(Value.int 0 0),(Value.int 3 0),(Value.ref 792),(Value.bool Bool.true),(Value.int 
 318 0),(Value.ref 793),Value.none,(Value.ref 794),(Value.ref 795),(Value.ref 796),(Value.int 1334 0),(Value.int 789 0),(Value.str (Str.ofString "/claim/cut.py") 
 1335)]),#[]⟩) ::
 ((nat_lit 798),⟨(Value.type "function"),none,(Data.func ⟨(Str.ofString "join"),(Str.ofString "join"),a798,(FuncBody.stmts b798),s798,3,[],Value.none,Value.none,
 Value.none,(Value.str (Str.ofString "cpy313.shlex") 1179),none,(Value.ref 797),Value.none,0⟩),#[]⟩) ::
 ((nat_lit 799),⟨(Value.type "builtin_function_or_method"),none,(Data.fields #[(Value.builtin "re.Pattern.search"),(Value.ref 96)]),#[]⟩) ::
 ((nat_lit 800),⟨(Value.type "tuple"),none,(Data.seq #[] 0),#[]⟩) ::
 ((nat_lit 802),⟨(Value.type "tuple"),none,(Data.seq #[(Value.str (Str.ofString "s") 1343)] 0),#[]⟩) ::
 ((nat_lit 803),⟨(Value.type "tuple"),none,(Data.seq #[] 0),#[]⟩) ::
 ((nat_lit 805),⟨(Value.type "code"),none,(Data.fields #[(Value.str (Str.ofString "quote") 1340),(Value.str (Str.ofString "quote") 1341),(Value.str (Str.ofString 
 "/claim/cut.py") 1342),(Value.int 793 0),(Value.int 1 0),(Value.int 0 0),(Value.int 0 0),(Value.int 3 0),(Value.ref 800),(Value.bool Bool.true),(Value.int 
 318 0),(Value.ref 801),Value.none,(Value.ref 802),(Value.ref 803),(Value.ref 804),(Value.int 1344 0),(Value.int 793 0),(Value.str (Str.ofString "/claim/cut.py") 
 1345)]),#[]⟩) ::
 ((nat_lit 806),⟨(Value.type "function"),none,(Data.func ⟨(Str.ofString "quote"),(Str.ofString "quote"),a806,(FuncBody.stmts b806),s806,3,[],Value.none,
 Value.none,Value.none,(Value.str (Str.ofString "cpy313.shlex") 1179),none,(Value.ref 805),Value.none,0⟩),#[]⟩) ::
 ((nat_lit 807),⟨(Value.type "tuple"),none,(Data.seq #[] 0),#[]⟩) ::
 ((nat_lit 810),⟨(Value.type "code"),none,(Data.fields #[(Value.str (Str.ofString "_law_labels") 1349),(Value.str (Str.ofString "_law_labels") 1350),(Value.str 
 (Str.ofString "/claim/cut.py") 1351),(Value.int 800 0),(Value.int 2 0),(Value.int 0 0),(Value.int 0 0),(Value.int 3 0),(Value.ref 807),(Value.bool Bool.true),
 (Value.int 318 0),(Value.ref 808),Value.none,Value.none,Value.none,(Value.ref 809),(Value.int 1352 0),(Value.int 800 0),(Value.str (Str.ofString "/claim/cut.py") 
 1353)]),#[]⟩) ::
 ((nat_lit 811),⟨(Value.type "function"),none,(Data.func ⟨(Str.ofString "_law_labels"),(Str.ofString "_law_labels"),a811,(FuncBody.stmts b811),s811,3,[],
 Value.none,Value.none,Value.none,(Value.str (Str.ofString "law_of0095_01") 1347),none,(Value.ref 810),Value.none,0⟩),#[]⟩) ::
 ((nat_lit 812),⟨(Value.type "tuple"),none,(Data.seq #[] 0),#[]⟩) ::
 ((nat_lit 815),⟨(Value.type "code"),none,(Data.fields #[(Value.str (Str.ofString "_law_meets") 1355),(Value.str (Str.ofString "_law_meets") 1356),(Value.str 
 (Str.ofString "/claim/cut.py") 1357),(Value.int 802 0),(Value.int 3 0),(Value.int 0 0),(Value.int 0 0),(Value.int 3 0),(Value.ref 812),(Value.bool Bool.true),
 (Value.int 318 0),(Value.ref 813),Value.none,Value.none,Value.none,(Value.ref 814),(Value.int 1358 0),(Value.int 802 0),(Value.str (Str.ofString "/claim/cut.py") 
 1359)]),#[]⟩) ::
 ((nat_lit 816),⟨(Value.type "function"),none,(Data.func ⟨(Str.ofString "_law_meets"),(Str.ofString "_law_meets"),a816,(FuncBody.stmts b816),s816,3,[],
 Value.none,Value.none,Value.none,(Value.str (Str.ofString "law_of0095_01") 1347),none,(Value.ref 815),Value.none,0⟩),#[]⟩) ::
 ((nat_lit 817),⟨(Value.type "tuple"),none,(Data.seq #[] 0),#[]⟩) ::
 ((nat_lit 820),⟨(Value.type "code"),none,(Data.fields #[(Value.str (Str.ofString "law") 1361),(Value.str (Str.ofString "law") 1362),(Value.str (Str.ofString 
 "/claim/cut.py") 1363),(Value.int 810 0),(Value.int 1 0),(Value.int 0 0),(Value.int 0 0),(Value.int 3 0),(Value.ref 817),(Value.bool Bool.true),(Value.int 
 318 0),(Value.ref 818),Value.none,Value.none,Value.none,(Value.ref 819),(Value.int 1364 0),(Value.int 810 0),(Value.str (Str.ofString "/claim/cut.py") 
 1365)]),#[]⟩) ::
 ((nat_lit 821),⟨(Value.type "function"),none,(Data.func ⟨(Str.ofString "law"),(Str.ofString "law"),a821,(FuncBody.stmts b821),s821,3,[],Value.none,Value.none,
 Value.none,(Value.str (Str.ofString "law_of0095_01") 1347),none,(Value.ref 820),Value.none,0⟩),#[]⟩) :: [] : List (Nat × Obj))
noncomputable def view_39 : Program := view pw [33, 40]
noncomputable def addrs : List Addr := [2, 3, 48, 49, 50, 52, 53, 55, 56, 57, 59, 60, 62, 63, 64, 66, 67, 69, 70, 71, 73, 74, 76, 77, 78, 80, 81, 83, 84, 85, 87, 88, 90, 91, 95, 96, 104, 106, 107, 109, 110, 111, 118, 119, 120, 121, 131, 133, 134, 136, 137, 138, 139, 140, 141, 142, 143, 146, 153, 154, 155, 158, 165, 166, 167, 170, 177, 206, 298, 306, 314, 322, 344, 352, 395, 396, 397, 400, 407, 408, 410, 411, 413, 414, 415, 417, 418, 420, 421, 422, 424, 425, 427, 428, 450, 458, 466, 474, 482, 567, 575, 583, 584, 586, 587, 589, 590, 591, 599, 642, 643, 644, 696, 697, 699, 700, 702, 703, 704, 706, 707, 709, 710, 711, 719, 734, 736, 737, 739, 740, 741, 743, 744, 746, 747, 755, 763, 765, 766, 768, 769, 770, 772, 773, 775, 776, 777, 778, 779, 780, 781, 784, 785, 787, 788, 790, 791, 792, 794, 795, 797, 798, 799, 800, 802, 803, 805, 806, 807, 810, 811, 812, 815, 816, 817, 820, 821]

noncomputable def loose : List Str := [Str.ofString "_sre", Str.ofString "deque", Str.ofString "_wall", Str.ofString "IPV4_RE", Str.ofString "liberal_is_HDN", Str.ofString "user_domain_match", Str.ofString "heappush", Str.ofString "heappop", Str.ofString "_siftdown", Str.ofString "_siftup", Str.ofString "_twin_re_1", Str.ofString "_whence", Str.ofString "_index", Str.ofString "UnsupportedOperation", Str.ofString "IOBase", Str.ofString "BufferedIOBase", Str.ofString "TextIOBase", Str.ofString "BytesIO", Str.ofString "StringIO", Str.ofString "_kind", Str.ofString "_fspath", Str.ofString "_check_arg_types", Str.ofString "isabs", Str.ofString "join_path", Str.ofString "dirname", Str.ofString "shlex", Str.ofString "split", Str.ofString "join_shlex", Str.ofString "_find_unsafe", Str.ofString "quote", Str.ofString "_law_labels", Str.ofString "_law_meets"]
noncomputable def ob0 : Params → Obj := fun P => ⟨(Value.type "dict"),none,(Data.dict (List.toArray (⟨(PyData.keyHash P (Str.ofString "__name__")),(Value.str (Str.ofString "__name__") 1),(Value.str (Str.ofString 
 "builtins") 160)⟩ :: ⟨(PyData.keyHash P (Str.ofString "__doc__")),(Value.str (Str.ofString "__doc__") 2),(Value.builtin "builtins.__doc__:str#opaque")⟩ 
 :: ⟨(PyData.keyHash P (Str.ofString "__package__")),(Value.str (Str.ofString "__package__") 3),(Value.builtin "builtins.__package__:str#opaque")⟩ :: ⟨(PyData.keyHash 
 P (Str.ofString "__loader__")),(Value.str (Str.ofString "__loader__") 4),(Value.builtin "builtins.__loader__:shared#opaque")⟩ :: ⟨(PyData.keyHash P (Str.ofString 
 "__spec__")),(Value.str (Str.ofString "__spec__") 5),(Value.builtin "builtins.__spec__#opaque")⟩ :: ⟨(PyData.keyHash P (Str.ofString "__build_class__")),
 (Value.str (Str.ofString "__build_class__") 6),(Value.builtin "__build_class__")⟩ :: ⟨(PyData.keyHash P (Str.ofString "__import__")),(Value.str (Str.ofString 
 "__import__") 7),(Value.builtin "__import__")⟩ :: ⟨(PyData.keyHash P (Str.ofString "abs")),(Value.str (Str.ofString "abs") 8),(Value.builtin "abs")⟩ :: 
 ⟨(PyData.keyHash P (Str.ofString "all")),(Value.str (Str.ofString "all") 9),(Value.builtin "all")⟩ :: ⟨(PyData.keyHash P (Str.ofString "any")),(Value.str 
 (Str.ofString "any") 10),(Value.builtin "any")⟩ :: ⟨(PyData.keyHash P (Str.ofString "ascii")),(Value.str (Str.ofString "ascii") 11),(Value.builtin "ascii")⟩ 
 :: ⟨(PyData.keyHash P (Str.ofString "bin")),(Value.str (Str.ofString "bin") 12),(Value.builtin "bin")⟩ :: ⟨(PyData.keyHash P (Str.ofString "breakpoint")),
 (Value.str (Str.ofString "breakpoint") 13),(Value.builtin "breakpoint")⟩ :: ⟨(PyData.keyHash P (Str.ofString "callable")),(Value.str (Str.ofString "callable") 
 14),(Value.builtin "callable")⟩ :: ⟨(PyData.keyHash P (Str.ofString "chr")),(Value.str (Str.ofString "chr") 15),(Value.builtin "chr")⟩ :: ⟨(PyData.keyHash 
 P (Str.ofString "compile")),(Value.str (Str.ofString "compile") 16),(Value.builtin "compile")⟩ :: ⟨(PyData.keyHash P (Str.ofString "delattr")),(Value.str 
 (Str.ofString "delattr") 17),(Value.builtin "delattr")⟩ :: ⟨(PyData.keyHash P (Str.ofString "dir")),(Value.str (Str.ofString "dir") 18),(Value.builtin 
 "dir")⟩ :: ⟨(PyData.keyHash P (Str.ofString "divmod")),(Value.str (Str.ofString "divmod") 19),(Value.builtin "divmod")⟩ :: ⟨(PyData.keyHash P (Str.ofString 
 "eval")),(Value.str (Str.ofString "eval") 20),(Value.builtin "eval")⟩ :: ⟨(PyData.keyHash P (Str.ofString "exec")),(Value.str (Str.ofString "exec") 21),
 (Value.builtin "exec")⟩ :: ⟨(PyData.keyHash P (Str.ofString "format")),(Value.str (Str.ofString "format") 22),(Value.builtin "format")⟩ :: ⟨(PyData.keyHash 
 P (Str.ofString "getattr")),(Value.str (Str.ofString "getattr") 23),(Value.builtin "getattr")⟩ :: ⟨(PyData.keyHash P (Str.ofString "globals")),(Value.str 
 (Str.ofString "globals") 24),(Value.builtin "globals")⟩ :: ⟨(PyData.keyHash P (Str.ofString "hasattr")),(Value.str (Str.ofString "hasattr") 25),(Value.builtin 
 "hasattr")⟩ :: ⟨(PyData.keyHash P (Str.ofString "hash")),(Value.str (Str.ofString "hash") 26),(Value.builtin "hash")⟩ :: ⟨(PyData.keyHash P (Str.ofString 
 "hex")),(Value.str (Str.ofString "hex") 27),(Value.builtin "hex")⟩ :: ⟨(PyData.keyHash P (Str.ofString "id")),(Value.str (Str.ofString "id") 28),(Value.builtin 
 "id")⟩ :: ⟨(PyData.keyHash P (Str.ofString "input")),(Value.str (Str.ofString "input") 29),(Value.builtin "input")⟩ :: ⟨(PyData.keyHash P (Str.ofString 
 "isinstance")),(Value.str (Str.ofString "isinstance") 30),(Value.builtin "isinstance")⟩ :: ⟨(PyData.keyHash P (Str.ofString "issubclass")),(Value.str 
 (Str.ofString "issubclass") 31),(Value.builtin "issubclass")⟩ :: ⟨(PyData.keyHash P (Str.ofString "iter")),(Value.str (Str.ofString "iter") 32),(Value.builtin 
 "iter")⟩ :: ⟨(PyData.keyHash P (Str.ofString "aiter")),(Value.str (Str.ofString "aiter") 33),(Value.builtin "aiter")⟩ :: ⟨(PyData.keyHash P (Str.ofString 
 "len")),(Value.str (Str.ofString "len") 34),(Value.builtin "len")⟩ :: ⟨(PyData.keyHash P (Str.ofString "locals")),(Value.str (Str.ofString "locals") 35),
 (Value.builtin "locals")⟩ :: ⟨(PyData.keyHash P (Str.ofString "max")),(Value.str (Str.ofString "max") 36),(Value.builtin "max")⟩ :: ⟨(PyData.keyHash P 
 (Str.ofString "min")),(Value.str (Str.ofString "min") 37),(Value.builtin "min")⟩ :: ⟨(PyData.keyHash P (Str.ofString "next")),(Value.str (Str.ofString 
 "next") 38),(Value.builtin "next")⟩ :: ⟨(PyData.keyHash P (Str.ofString "anext")),(Value.str (Str.ofString "anext") 39),(Value.builtin "anext")⟩ :: ⟨(PyData.keyHash 
 P (Str.ofString "oct")),(Value.str (Str.ofString "oct") 40),(Value.builtin "oct")⟩ :: ⟨(PyData.keyHash P (Str.ofString "ord")),(Value.str (Str.ofString 
 "ord") 41),(Value.builtin "ord")⟩ :: ⟨(PyData.keyHash P (Str.ofString "pow")),(Value.str (Str.ofString "pow") 42),(Value.builtin "pow")⟩ :: ⟨(PyData.keyHash 
 P (Str.ofString "print")),(Value.str (Str.ofString "print") 43),(Value.builtin "print")⟩ :: ⟨(PyData.keyHash P (Str.ofString "repr")),(Value.str (Str.ofString 
 "repr") 44),(Value.builtin "repr")⟩ :: ⟨(PyData.keyHash P (Str.ofString "round")),(Value.str (Str.ofString "round") 45),(Value.builtin "round")⟩ :: ⟨(PyData.keyHash 
 P (Str.ofString "setattr")),(Value.str (Str.ofString "setattr") 46),(Value.builtin "setattr")⟩ :: ⟨(PyData.keyHash P (Str.ofString "sorted")),(Value.str 
 (Str.ofString "sorted") 47),(Value.builtin "sorted")⟩ :: ⟨(PyData.keyHash P (Str.ofString "sum")),(Value.str (Str.ofString "sum") 48),(Value.builtin "sum")⟩ 
 :: ⟨(PyData.keyHash P (Str.ofString "vars")),(Value.str (Str.ofString "vars") 49),(Value.builtin "vars")⟩ :: ⟨(PyData.keyHash P (Str.ofString "None")),
 (Value.str (Str.ofString "None") 50),Value.none⟩ :: ⟨(PyData.keyHash P (Str.ofString "Ellipsis")),(Value.str (Str.ofString "Ellipsis") 51),Value.ellipsis⟩ 
 :: ⟨(PyData.keyHash P (Str.ofString "NotImplemented")),(Value.str (Str.ofString "NotImplemented") 52),Value.notImplemented⟩ :: ⟨(PyData.keyHash P (Str.ofString 
 "False")),(Value.str (Str.ofString "False") 53),(Value.bool Bool.false)⟩ :: ⟨(PyData.keyHash P (Str.ofString "True")),(Value.str (Str.ofString "True") 
 54),(Value.bool Bool.true)⟩ :: ⟨(PyData.keyHash P (Str.ofString "bool")),(Value.str (Str.ofString "bool") 55),(Value.type "bool")⟩ :: ⟨(PyData.keyHash 
 P (Str.ofString "memoryview")),(Value.str (Str.ofString "memoryview") 56),(Value.type "memoryview")⟩ :: ⟨(PyData.keyHash P (Str.ofString "bytearray")),
 (Value.str (Str.ofString "bytearray") 57),(Value.type "bytearray")⟩ :: ⟨(PyData.keyHash P (Str.ofString "bytes")),(Value.str (Str.ofString "bytes") 58),
 (Value.type "bytes")⟩ :: ⟨(PyData.keyHash P (Str.ofString "classmethod")),(Value.str (Str.ofString "classmethod") 59),(Value.type "classmethod")⟩ :: ⟨(PyData.keyHash 
 P (Str.ofString "complex")),(Value.str (Str.ofString "complex") 60),(Value.type "complex")⟩ :: ⟨(PyData.keyHash P (Str.ofString "dict")),(Value.str (Str.ofString 
 "dict") 61),(Value.type "dict")⟩ :: ⟨(PyData.keyHash P (Str.ofString "enumerate")),(Value.str (Str.ofString "enumerate") 62),(Value.type "enumerate")⟩ 
 :: ⟨(PyData.keyHash P (Str.ofString "filter")),(Value.str (Str.ofString "filter") 63),(Value.type "filter")⟩ :: ⟨(PyData.keyHash P (Str.ofString "float")),
 (Value.str (Str.ofString "float") 64),(Value.type "float")⟩ :: ⟨(PyData.keyHash P (Str.ofString "frozenset")),(Value.str (Str.ofString "frozenset") 65),
 (Value.type "frozenset")⟩ :: ⟨(PyData.keyHash P (Str.ofString "property")),(Value.str (Str.ofString "property") 66),(Value.type "property")⟩ :: ⟨(PyData.keyHash 
 P (Str.ofString "int")),(Value.str (Str.ofString "int") 67),(Value.type "int")⟩ :: ⟨(PyData.keyHash P (Str.ofString "list")),(Value.str (Str.ofString 
 "list") 68),(Value.type "list")⟩ :: ⟨(PyData.keyHash P (Str.ofString "map")),(Value.str (Str.ofString "map") 69),(Value.type "map")⟩ :: ⟨(PyData.keyHash 
 P (Str.ofString "object")),(Value.str (Str.ofString "object") 70),(Value.type "object")⟩ :: ⟨(PyData.keyHash P (Str.ofString "range")),(Value.str (Str.ofString 
 "range") 71),(Value.type "range")⟩ :: ⟨(PyData.keyHash P (Str.ofString "reversed")),(Value.str (Str.ofString "reversed") 72),(Value.type "reversed")⟩ 
 :: ⟨(PyData.keyHash P (Str.ofString "set")),(Value.str (Str.ofString "set") 73),(Value.type "set")⟩ :: ⟨(PyData.keyHash P (Str.ofString "slice")),(Value.str 
 (Str.ofString "slice") 74),(Value.type "slice")⟩ :: ⟨(PyData.keyHash P (Str.ofString "staticmethod")),(Value.str (Str.ofString "staticmethod") 75),(Value.type 
 "staticmethod")⟩ :: ⟨(PyData.keyHash P (Str.ofString "str")),(Value.str (Str.ofString "str") 76),(Value.type "str")⟩ :: ⟨(PyData.keyHash P (Str.ofString 
 "super")),(Value.str (Str.ofString "super") 77),(Value.type "super")⟩ :: ⟨(PyData.keyHash P (Str.ofString "tuple")),(Value.str (Str.ofString "tuple") 
 78),(Value.type "tuple")⟩ :: ⟨(PyData.keyHash P (Str.ofString "type")),(Value.str (Str.ofString "type") 79),(Value.type "type")⟩ :: ⟨(PyData.keyHash P 
 (Str.ofString "zip")),(Value.str (Str.ofString "zip") 80),(Value.type "zip")⟩ :: ⟨(PyData.keyHash P (Str.ofString "__debug__")),(Value.str (Str.ofString 
 "__debug__") 81),(Value.bool Bool.true)⟩ :: ⟨(PyData.keyHash P (Str.ofString "BaseException")),(Value.str (Str.ofString "BaseException") 82),(Value.type 
 "BaseException")⟩ :: ⟨(PyData.keyHash P (Str.ofString "BaseExceptionGroup")),(Value.str (Str.ofString "BaseExceptionGroup") 83),(Value.type "BaseExceptionGroup")⟩ 
 :: ⟨(PyData.keyHash P (Str.ofString "Exception")),(Value.str (Str.ofString "Exception") 84),(Value.type "Exception")⟩ :: ⟨(PyData.keyHash P (Str.ofString 
 "GeneratorExit")),(Value.str (Str.ofString "GeneratorExit") 85),(Value.type "GeneratorExit")⟩ :: ⟨(PyData.keyHash P (Str.ofString "KeyboardInterrupt")),
 (Value.str (Str.ofString "KeyboardInterrupt") 86),(Value.type "KeyboardInterrupt")⟩ :: ⟨(PyData.keyHash P (Str.ofString "SystemExit")),(Value.str (Str.ofString 
 "SystemExit") 87),(Value.type "SystemExit")⟩ :: ⟨(PyData.keyHash P (Str.ofString "ArithmeticError")),(Value.str (Str.ofString "ArithmeticError") 88),(Value.type 
 "ArithmeticError")⟩ :: ⟨(PyData.keyHash P (Str.ofString "AssertionError")),(Value.str (Str.ofString "AssertionError") 89),(Value.type "AssertionError")⟩ 
 :: ⟨(PyData.keyHash P (Str.ofString "AttributeError")),(Value.str (Str.ofString "AttributeError") 90),(Value.type "AttributeError")⟩ :: ⟨(PyData.keyHash 
 P (Str.ofString "BufferError")),(Value.str (Str.ofString "BufferError") 91),(Value.type "BufferError")⟩ :: ⟨(PyData.keyHash P (Str.ofString "EOFError")),
 (Value.str (Str.ofString "EOFError") 92),(Value.type "EOFError")⟩ :: ⟨(PyData.keyHash P (Str.ofString "ImportError")),(Value.str (Str.ofString "ImportError") 
 93),(Value.type "ImportError")⟩ :: ⟨(PyData.keyHash P (Str.ofString "LookupError")),(Value.str (Str.ofString "LookupError") 94),(Value.type "LookupError")⟩ 
 :: ⟨(PyData.keyHash P (Str.ofString "MemoryError")),(Value.str (Str.ofString "MemoryError") 95),(Value.type "MemoryError")⟩ :: ⟨(PyData.keyHash P (Str.ofString 
 "NameError")),(Value.str (Str.ofString "NameError") 96),(Value.type "NameError")⟩ :: ⟨(PyData.keyHash P (Str.ofString "OSError")),(Value.str (Str.ofString 
 "OSError") 97),(Value.type "OSError")⟩ :: ⟨(PyData.keyHash P (Str.ofString "ReferenceError")),(Value.str (Str.ofString "ReferenceError") 98),(Value.type 
 "ReferenceError")⟩ :: ⟨(PyData.keyHash P (Str.ofString "RuntimeError")),(Value.str (Str.ofString "RuntimeError") 99),(Value.type "RuntimeError")⟩ :: ⟨(PyData.keyHash 
 P (Str.ofString "StopAsyncIteration")),(Value.str (Str.ofString "StopAsyncIteration") 100),(Value.type "StopAsyncIteration")⟩ :: ⟨(PyData.keyHash P (Str.ofString 
 "StopIteration")),(Value.str (Str.ofString "StopIteration") 101),(Value.type "StopIteration")⟩ :: ⟨(PyData.keyHash P (Str.ofString "SyntaxError")),(Value.str 
 (Str.ofString "SyntaxError") 102),(Value.type "SyntaxError")⟩ :: ⟨(PyData.keyHash P (Str.ofString "SystemError")),(Value.str (Str.ofString "SystemError") 
 103),(Value.type "SystemError")⟩ :: ⟨(PyData.keyHash P (Str.ofString "TypeError")),(Value.str (Str.ofString "TypeError") 104),(Value.type "TypeError")⟩ 
 :: ⟨(PyData.keyHash P (Str.ofString "ValueError")),(Value.str (Str.ofString "ValueError") 105),(Value.type "ValueError")⟩ :: ⟨(PyData.keyHash P (Str.ofString 
 "Warning")),(Value.str (Str.ofString "Warning") 106),(Value.type "Warning")⟩ :: ⟨(PyData.keyHash P (Str.ofString "FloatingPointError")),(Value.str (Str.ofString 
 "FloatingPointError") 107),(Value.type "FloatingPointError")⟩ :: ⟨(PyData.keyHash P (Str.ofString "OverflowError")),(Value.str (Str.ofString "OverflowError") 
 108),(Value.type "OverflowError")⟩ :: ⟨(PyData.keyHash P (Str.ofString "ZeroDivisionError")),(Value.str (Str.ofString "ZeroDivisionError") 109),(Value.type 
 "ZeroDivisionError")⟩ :: ⟨(PyData.keyHash P (Str.ofString "BytesWarning")),(Value.str (Str.ofString "BytesWarning") 110),(Value.type "BytesWarning")⟩ 
 :: ⟨(PyData.keyHash P (Str.ofString "DeprecationWarning")),(Value.str (Str.ofString "DeprecationWarning") 111),(Value.type "DeprecationWarning")⟩ :: ⟨(PyData.keyHash 
 P (Str.ofString "EncodingWarning")),(Value.str (Str.ofString "EncodingWarning") 112),(Value.type "EncodingWarning")⟩ :: ⟨(PyData.keyHash P (Str.ofString 
 "FutureWarning")),(Value.str (Str.ofString "FutureWarning") 113),(Value.type "FutureWarning")⟩ :: ⟨(PyData.keyHash P (Str.ofString "ImportWarning")),(Value.str 
 (Str.ofString "ImportWarning") 114),(Value.type "ImportWarning")⟩ :: ⟨(PyData.keyHash P (Str.ofString "PendingDeprecationWarning")),(Value.str (Str.ofString 
 "PendingDeprecationWarning") 115),(Value.type "PendingDeprecationWarning")⟩ :: ⟨(PyData.keyHash P (Str.ofString "ResourceWarning")),(Value.str (Str.ofString 
 "ResourceWarning") 116),(Value.type "ResourceWarning")⟩ :: ⟨(PyData.keyHash P (Str.ofString "RuntimeWarning")),(Value.str (Str.ofString "RuntimeWarning") 
 117),(Value.type "RuntimeWarning")⟩ :: ⟨(PyData.keyHash P (Str.ofString "SyntaxWarning")),(Value.str (Str.ofString "SyntaxWarning") 118),(Value.type "SyntaxWarning")⟩ 
 :: ⟨(PyData.keyHash P (Str.ofString "UnicodeWarning")),(Value.str (Str.ofString "UnicodeWarning") 119),(Value.type "UnicodeWarning")⟩ :: ⟨(PyData.keyHash 
 P (Str.ofString "UserWarning")),(Value.str (Str.ofString "UserWarning") 120),(Value.type "UserWarning")⟩ :: ⟨(PyData.keyHash P (Str.ofString "BlockingIOError")),
 (Value.str (Str.ofString "BlockingIOError") 121),(Value.type "BlockingIOError")⟩ :: ⟨(PyData.keyHash P (Str.ofString "ChildProcessError")),(Value.str 
 (Str.ofString "ChildProcessError") 122),(Value.type "ChildProcessError")⟩ :: ⟨(PyData.keyHash P (Str.ofString "ConnectionError")),(Value.str (Str.ofString 
 "ConnectionError") 123),(Value.type "ConnectionError")⟩ :: ⟨(PyData.keyHash P (Str.ofString "FileExistsError")),(Value.str (Str.ofString "FileExistsError") 
 124),(Value.type "FileExistsError")⟩ :: ⟨(PyData.keyHash P (Str.ofString "FileNotFoundError")),(Value.str (Str.ofString "FileNotFoundError") 125),(Value.type 
 "FileNotFoundError")⟩ :: ⟨(PyData.keyHash P (Str.ofString "InterruptedError")),(Value.str (Str.ofString "InterruptedError") 126),(Value.type "InterruptedError")⟩ 
 :: ⟨(PyData.keyHash P (Str.ofString "IsADirectoryError")),(Value.str (Str.ofString "IsADirectoryError") 127),(Value.type "IsADirectoryError")⟩ :: ⟨(PyData.keyHash 
 P (Str.ofString "NotADirectoryError")),(Value.str (Str.ofString "NotADirectoryError") 128),(Value.type "NotADirectoryError")⟩ :: ⟨(PyData.keyHash P (Str.ofString 
 "PermissionError")),(Value.str (Str.ofString "PermissionError") 129),(Value.type "PermissionError")⟩ :: ⟨(PyData.keyHash P (Str.ofString "ProcessLookupError")),
 (Value.str (Str.ofString "ProcessLookupError") 130),(Value.type "ProcessLookupError")⟩ :: ⟨(PyData.keyHash P (Str.ofString "TimeoutError")),(Value.str 
 (Str.ofString "TimeoutError") 131),(Value.type "TimeoutError")⟩ :: ⟨(PyData.keyHash P (Str.ofString "IndentationError")),(Value.str (Str.ofString "IndentationError") 
 132),(Value.type "IndentationError")⟩ :: ⟨(PyData.keyHash P (Str.ofString "_IncompleteInputError")),(Value.str (Str.ofString "_IncompleteInputError") 
 133),(Value.type "_IncompleteInputError")⟩ :: ⟨(PyData.keyHash P (Str.ofString "IndexError")),(Value.str (Str.ofString "IndexError") 134),(Value.type 
 "IndexError")⟩ :: ⟨(PyData.keyHash P (Str.ofString "KeyError")),(Value.str (Str.ofString "KeyError") 135),(Value.type "KeyError")⟩ :: ⟨(PyData.keyHash 
 P (Str.ofString "ModuleNotFoundError")),(Value.str (Str.ofString "ModuleNotFoundError") 136),(Value.type "ModuleNotFoundError")⟩ :: ⟨(PyData.keyHash P 
 (Str.ofString "NotImplementedError")),(Value.str (Str.ofString "NotImplementedError") 137),(Value.type "NotImplementedError")⟩ :: ⟨(PyData.keyHash P (Str.ofString 
 "PythonFinalizationError")),(Value.str (Str.ofString "PythonFinalizationError") 138),(Value.type "PythonFinalizationError")⟩ :: ⟨(PyData.keyHash P (Str.ofString 
 "RecursionError")),(Value.str (Str.ofString "RecursionError") 139),(Value.type "RecursionError")⟩ :: ⟨(PyData.keyHash P (Str.ofString "UnboundLocalError")),
 (Value.str (Str.ofString "UnboundLocalError") 140),(Value.type "UnboundLocalError")⟩ :: ⟨(PyData.keyHash P (Str.ofString "UnicodeError")),(Value.str (Str.ofString 
 "UnicodeError") 141),(Value.type "UnicodeError")⟩ :: ⟨(PyData.keyHash P (Str.ofString "BrokenPipeError")),(Value.str (Str.ofString "BrokenPipeError") 
 142),(Value.type "BrokenPipeError")⟩ :: ⟨(PyData.keyHash P (Str.ofString "ConnectionAbortedError")),(Value.str (Str.ofString "ConnectionAbortedError") 
 143),(Value.type "ConnectionAbortedError")⟩ :: ⟨(PyData.keyHash P (Str.ofString "ConnectionRefusedError")),(Value.str (Str.ofString "ConnectionRefusedError") 
 144),(Value.type "ConnectionRefusedError")⟩ :: ⟨(PyData.keyHash P (Str.ofString "ConnectionResetError")),(Value.str (Str.ofString "ConnectionResetError") 
 145),(Value.type "ConnectionResetError")⟩ :: ⟨(PyData.keyHash P (Str.ofString "TabError")),(Value.str (Str.ofString "TabError") 146),(Value.type "TabError")⟩ 
 :: ⟨(PyData.keyHash P (Str.ofString "UnicodeDecodeError")),(Value.str (Str.ofString "UnicodeDecodeError") 147),(Value.type "UnicodeDecodeError")⟩ :: ⟨(PyData.keyHash 
 P (Str.ofString "UnicodeEncodeError")),(Value.str (Str.ofString "UnicodeEncodeError") 148),(Value.type "UnicodeEncodeError")⟩ :: ⟨(PyData.keyHash P (Str.ofString 
 "UnicodeTranslateError")),(Value.str (Str.ofString "UnicodeTranslateError") 149),(Value.type "UnicodeTranslateError")⟩ :: ⟨(PyData.keyHash P (Str.ofString 
 "ExceptionGroup")),(Value.str (Str.ofString "ExceptionGroup") 150),(Value.type "ExceptionGroup")⟩ :: ⟨(PyData.keyHash P (Str.ofString "EnvironmentError")),
 (Value.str (Str.ofString "EnvironmentError") 151),(Value.type "OSError")⟩ :: ⟨(PyData.keyHash P (Str.ofString "IOError")),(Value.str (Str.ofString "IOError") 
 152),(Value.type "OSError")⟩ :: ⟨(PyData.keyHash P (Str.ofString "open")),(Value.str (Str.ofString "open") 153),(Value.builtin "open")⟩ :: ⟨(PyData.keyHash 
 P (Str.ofString "quit")),(Value.str (Str.ofString "quit") 154),(Value.builtin "builtins.quit#opaque")⟩ :: ⟨(PyData.keyHash P (Str.ofString "exit")),(Value.str 
 (Str.ofString "exit") 155),(Value.builtin "builtins.exit#opaque")⟩ :: ⟨(PyData.keyHash P (Str.ofString "copyright")),(Value.str (Str.ofString "copyright") 
 156),(Value.builtin "builtins.copyright#opaque")⟩ :: ⟨(PyData.keyHash P (Str.ofString "credits")),(Value.str (Str.ofString "credits") 157),(Value.builtin 
 "builtins.credits#opaque")⟩ :: ⟨(PyData.keyHash P (Str.ofString "license")),(Value.str (Str.ofString "license") 158),(Value.builtin "builtins.license#opaque")⟩ 
 :: ⟨(PyData.keyHash P (Str.ofString "help")),(Value.str (Str.ofString "help") 159),(Value.builtin "builtins.help#opaque")⟩ :: [])) 159),#[]⟩
noncomputable def ob1 : Params → Obj := fun P => ⟨(Value.type "dict"),none,(Data.dict #[⟨(PyData.keyHash P (Str.ofString "builtins")),(Value.str (Str.ofString "builtins") 162),(Value.ref 4)⟩,⟨(PyData.keyHash 
 P (Str.ofString "__main__")),(Value.str (Str.ofString "__main__") 163),(Value.ref 5)⟩,⟨(PyData.keyHash P (Str.ofString "_sre")),(Value.str (Str.ofString 
 "_sre") 244),(Value.ref 12)⟩,⟨(PyData.keyHash P (Str.ofString "_collections")),(Value.str (Str.ofString "_collections") 292),(Value.ref 30)⟩] 4),#[]⟩
noncomputable def ob2 : Params → Obj := fun P => ⟨Value.none,none,(Data.dict #[⟨(PyData.keyHash P (Str.ofString "\x69mport.loaded._sre")),(Value.str (Str.ofString "\x69mport.loaded._sre") 183),(Value.bool 
 Bool.true)⟩,⟨(PyData.keyHash P (Str.ofString "class._frozen_importlib.BuiltinImporter")),(Value.str (Str.ofString "class._frozen_importlib.BuiltinImporter") 
 185),(Value.ref 14)⟩,⟨(PyData.keyHash P (Str.ofString "watched.\x69mport")),(Value.str (Str.ofString "watched.\x69mport") 206),(Value.ref 18)⟩,⟨(PyData.keyHash 
 P (Str.ofString "class._frozen_importlib.ModuleSpec")),(Value.str (Str.ofString "class._frozen_importlib.ModuleSpec") 216),(Value.ref 22)⟩,⟨(PyData.keyHash 
 P (Str.ofString "sys.modules.booked-epoch")),(Value.str (Str.ofString "sys.modules.booked-epoch") 245),(Value.int 4 0)⟩,⟨(PyData.keyHash P (Str.ofString 
 "\x69mport.later-laid._sre")),(Value.str (Str.ofString "\x69mport.later-laid._sre") 270),(Value.bool Bool.true)⟩,⟨(PyData.keyHash P (Str.ofString "watched.library")),
 (Value.str (Str.ofString "watched.library") 272),(Value.ref 27)⟩,⟨(PyData.keyHash P (Str.ofString "watched.library-objects")),(Value.str (Str.ofString 
 "watched.library-objects") 0),(Value.str (Str.ofString "\x0c\x1e") 0)⟩,⟨(PyData.keyHash P (Str.ofString "watched.library-deep._sre")),(Value.str (Str.ofString 
 "watched.library-deep._sre") 273),(Value.str (Str.ofString "\x04\x00\x00\x0b\x04\x00\x00\x0b\x04\x00\x00\x03\x04\x00\x00\x0b\x08\x04dict\x02") 0)⟩,⟨(PyData.keyHash 
 P (Str.ofString "\x69mport.loaded._collections")),(Value.str (Str.ofString "\x69mport.loaded._collections") 280),(Value.bool Bool.true)⟩,⟨(PyData.keyHash P 
 (Str.ofString "sys.modules.landed._collections")),(Value.str (Str.ofString "sys.modules.landed._collections") 294),(Value.bool Bool.true)⟩,⟨(PyData.keyHash 
 P (Str.ofString "\x69mport.later-laid._collections")),(Value.str (Str.ofString "\x69mport.later-laid._collections") 309),(Value.bool Bool.true)⟩,⟨(PyData.keyHash 
 P (Str.ofString "watched.library-deep._collections")),(Value.str (Str.ofString "watched.library-deep._collections") 311),(Value.str (Str.ofString "\x04\x00\x00\x1d\x04\x00\x00\x1d\x04\x00\x00\x03\x04\x00\x00\x1d\x08\x04dict\x02") 
 0)⟩] 13),#[]⟩
noncomputable def ob3 : Params → Obj := fun P => ⟨(Value.type "dict"),none,(Data.dict #[⟨(PyData.keyHash P (Str.ofString "__name__")),(Value.str (Str.ofString "__name__") 165),(Value.str (Str.ofString 
 "__main__") 164)⟩,⟨(PyData.keyHash P (Str.ofString "__doc__")),(Value.str (Str.ofString "__doc__") 166),Value.none⟩,⟨(PyData.keyHash P (Str.ofString "__package__")),
 (Value.str (Str.ofString "__package__") 167),Value.none⟩,⟨(PyData.keyHash P (Str.ofString "__loader__")),(Value.str (Str.ofString "__loader__") 168),(Value.builtin 
 "__main__.__loader__#opaque")⟩,⟨(PyData.keyHash P (Str.ofString "__spec__")),(Value.str (Str.ofString "__spec__") 169),Value.none⟩,⟨(PyData.keyHash P 
 (Str.ofString "__annotations__")),(Value.str (Str.ofString "__annotations__") 170),(Value.ref 6)⟩,⟨(PyData.keyHash P (Str.ofString "__builtins__")),(Value.str 
 (Str.ofString "__builtins__") 171),(Value.ref 4)⟩,⟨(PyData.keyHash P (Str.ofString "__file__")),(Value.str (Str.ofString "__file__") 173),(Value.str (Str.ofString 
 "/claim/cut.py") 172)⟩,⟨(PyData.keyHash P (Str.ofString "__cached__")),(Value.str (Str.ofString "__cached__") 174),Value.none⟩,⟨(PyData.keyHash P (Str.ofString 
 "_sre")),(Value.str (Str.ofString "_sre") 275),(Value.ref 12)⟩,⟨(PyData.keyHash P (Str.ofString "deque")),(Value.str (Str.ofString "deque") 317),(Value.type 
 "collections.deque")⟩] 11),#[]⟩
noncomputable def ob4 : Params → Obj := fun P => ⟨(Value.type "module"),(some 0),Data.plain,#[]⟩
noncomputable def ob5 : Params → Obj := fun P => ⟨(Value.type "module"),(some 3),Data.plain,#[]⟩
noncomputable def ob6 : Params → Obj := fun P => ⟨(Value.type "dict"),none,(Data.dict #[] 0),#[]⟩
noncomputable def ob7 : Params → Obj := fun P => ⟨(Value.type "tuple"),none,(Data.seq #[] 0),#[]⟩
noncomputable def ob8 : Params → Obj := fun P => ⟨Value.none,none,(Data.fields #[]),#[]⟩
noncomputable def ob9 : Params → Obj := fun P => ⟨(Value.type "code"),none,(Data.fields #[(Value.str (Str.ofString "<module>") 176),(Value.str (Str.ofString "<module>") 177),(Value.str (Str.ofString 
 "/claim/cut.py") 178),(Value.int 1 0),(Value.int 0 0),(Value.int 0 0),(Value.int 0 0),(Value.int 0 0),(Value.ref 7),(Value.bool Bool.false),(Value.int 
 175 0),(Value.ref 8),Value.none,Value.none,Value.none,Value.none,(Value.int 179 0),(Value.int 1 0),(Value.str (Str.ofString "/claim/cut.py") 180)]),#[]⟩
noncomputable def ob10 : Params → Obj := fun P => ⟨(Value.type "frame"),none,Data.plain,#[(some (Value.ref 9)),(some (Value.ref 3)),(some (Value.ref 3)),none,(some (Value.str (Str.ofString "__main__") 
 164)),none,(some (Value.ref 0))]⟩
noncomputable def ob11 : Params → Obj := fun P => ⟨(Value.type "dict"),none,(Data.dict #[⟨(PyData.keyHash P (Str.ofString "__name__")),(Value.str (Str.ofString "__name__") 247),(Value.str (Str.ofString 
 "_sre") 246)⟩,⟨(PyData.keyHash P (Str.ofString "__doc__")),(Value.str (Str.ofString "__doc__") 248),Value.none⟩,⟨(PyData.keyHash P (Str.ofString "__package__")),
 (Value.str (Str.ofString "__package__") 250),(Value.str (Str.ofString "") 249)⟩,⟨(PyData.keyHash P (Str.ofString "__loader__")),(Value.str (Str.ofString 
 "__loader__") 251),(Value.builtin "off-the-table:_sre.__loader__:shared#opaque")⟩,⟨(PyData.keyHash P (Str.ofString "__spec__")),(Value.str (Str.ofString 
 "__spec__") 252),(Value.builtin "off-the-table:_sre.__spec__:shared#opaque")⟩,⟨(PyData.keyHash P (Str.ofString "compile")),(Value.str (Str.ofString "compile") 
 253),(Value.builtin "_sre.compile")⟩,⟨(PyData.keyHash P (Str.ofString "template")),(Value.str (Str.ofString "template") 254),(Value.builtin "off-the-table:_sre.template:shared#opaque")⟩,
 ⟨(PyData.keyHash P (Str.ofString "getcodesize")),(Value.str (Str.ofString "getcodesize") 255),(Value.builtin "off-the-table:_sre.getcodesize:shared#opaque")⟩,
 ⟨(PyData.keyHash P (Str.ofString "ascii_iscased")),(Value.str (Str.ofString "ascii_iscased") 256),(Value.builtin "off-the-table:_sre.ascii_iscased:shared#opaque")⟩,
 ⟨(PyData.keyHash P (Str.ofString "unicode_iscased")),(Value.str (Str.ofString "unicode_iscased") 257),(Value.builtin "off-the-table:_sre.unicode_iscased:shared#opaque")⟩,
 ⟨(PyData.keyHash P (Str.ofString "ascii_tolower")),(Value.str (Str.ofString "ascii_tolower") 258),(Value.builtin "off-the-table:_sre.ascii_tolower:shared#opaque")⟩,
 ⟨(PyData.keyHash P (Str.ofString "unicode_tolower")),(Value.str (Str.ofString "unicode_tolower") 259),(Value.builtin "off-the-table:_sre.unicode_tolower:shared#opaque")⟩,
 ⟨(PyData.keyHash P (Str.ofString "MAGIC")),(Value.str (Str.ofString "MAGIC") 261),(Value.int 20230612 260)⟩,⟨(PyData.keyHash P (Str.ofString "CODESIZE")),
 (Value.str (Str.ofString "CODESIZE") 263),(Value.int 4 262)⟩,⟨(PyData.keyHash P (Str.ofString "MAXREPEAT")),(Value.str (Str.ofString "MAXREPEAT") 265),
 (Value.int 4294967295 264)⟩,⟨(PyData.keyHash P (Str.ofString "MAXGROUPS")),(Value.str (Str.ofString "MAXGROUPS") 267),(Value.int 1073741823 266)⟩,⟨(PyData.keyHash 
 P (Str.ofString "copyright")),(Value.str (Str.ofString "copyright") 269),(Value.str (Str.ofString " SRE 2.2.2 Copyright (c) 1997-2002 by Secret Labs AB ") 
 268)⟩] 17),#[]⟩
noncomputable def ob12 : Params → Obj := fun P => ⟨(Value.type "module"),(some 11),Data.plain,#[]⟩
noncomputable def ob13 : Params → Obj := fun P => ⟨(Value.type "dict"),none,(Data.dict #[⟨(PyData.keyHash P (Str.ofString "__module__")),(Value.str (Str.ofString "__module__") 189),(Value.str (Str.ofString 
 "_frozen_importlib") 186)⟩,⟨(PyData.keyHash P (Str.ofString "__firstlineno__")),(Value.str (Str.ofString "__firstlineno__") 190),(Value.int 971 187)⟩,
 ⟨(PyData.keyHash P (Str.ofString "__doc__")),(Value.str (Str.ofString "__doc__") 191),(Value.builtin "_frozen_importlib.BuiltinImporter.__doc__:str#opaque")⟩,
 ⟨(PyData.keyHash P (Str.ofString "_ORIGIN")),(Value.str (Str.ofString "_ORIGIN") 192),(Value.str (Str.ofString "built-in") 188)⟩,⟨(PyData.keyHash P (Str.ofString 
 "find_spec")),(Value.str (Str.ofString "find_spec") 193),(Value.builtin "_frozen_importlib.BuiltinImporter.find_spec#opaque")⟩,⟨(PyData.keyHash P (Str.ofString 
 "create_module")),(Value.str (Str.ofString "create_module") 194),(Value.builtin "_frozen_importlib.BuiltinImporter.create_module#opaque")⟩,⟨(PyData.keyHash 
 P (Str.ofString "exec_module")),(Value.str (Str.ofString "exec_module") 195),(Value.builtin "_frozen_importlib.BuiltinImporter.exec_module#opaque")⟩,⟨(PyData.keyHash 
 P (Str.ofString "get_code")),(Value.str (Str.ofString "get_code") 196),(Value.builtin "_frozen_importlib.BuiltinImporter.get_code#opaque")⟩,⟨(PyData.keyHash 
 P (Str.ofString "get_source")),(Value.str (Str.ofString "get_source") 197),(Value.builtin "_frozen_importlib.BuiltinImporter.get_source#opaque")⟩,⟨(PyData.keyHash 
 P (Str.ofString "is_package")),(Value.str (Str.ofString "is_package") 198),(Value.builtin "_frozen_importlib.BuiltinImporter.is_package#opaque")⟩,⟨(PyData.keyHash 
 P (Str.ofString "load_module")),(Value.str (Str.ofString "load_module") 199),(Value.builtin "_frozen_importlib.BuiltinImporter.load_module#opaque")⟩,⟨(PyData.keyHash 
 P (Str.ofString "__static_attributes__")),(Value.str (Str.ofString "__static_attributes__") 200),(Value.ref 15)⟩,⟨(PyData.keyHash P (Str.ofString "__dict__")),
 (Value.str (Str.ofString "__dict__") 202),(Value.ref 16)⟩,⟨(PyData.keyHash P (Str.ofString "__weakref__")),(Value.str (Str.ofString "__weakref__") 204),
 (Value.ref 17)⟩] 14),#[]⟩
noncomputable def ob14 : Params → Obj := fun P => ⟨(Value.type "type"),none,(Data.cls ⟨(Str.ofString "BuiltinImporter"),[(Value.type "object")],[(Value.ref 14),(Value.type "object")],13,(Str.ofString 
 "BuiltinImporter"),Bool.true,[],[],Bool.false,none,Bool.false⟩),#[]⟩
noncomputable def ob15 : Params → Obj := fun P => ⟨(Value.type "tuple"),none,(Data.seq #[] 0),#[]⟩
noncomputable def ob16 : Params → Obj := fun P => ⟨(Value.type "getset_descriptor"),none,(Data.fields #[(Value.str (Str.ofString "__dict__") 201),(Value.ref 14),(Value.builtin "function.__dict__"),(Value.builtin 
 "function.__dict__#set")]),#[]⟩
noncomputable def ob17 : Params → Obj := fun P => ⟨(Value.type "getset_descriptor"),none,(Data.fields #[(Value.str (Str.ofString "__weakref__") 203),(Value.ref 14),(Value.builtin "ExceptionGroup.__weakref__"),
 Value.none]),#[]⟩
noncomputable def ob18 : Params → Obj := fun P => ⟨Value.none,none,(Data.seq #[(Value.int 13 0),(Value.str (Str.ofString "\x06½\n__module__\x06º\x11_frozen_importlib\x06¾\x0f__firstlineno__\x04»\x00ϋ\x06¿\x07__doc__\t4_frozen_importlib.BuiltinImporter.__doc__:str#opaque\x06À\x07_ORIGIN\x06¼\x08built-in\x06Á\tfind_spec\t2_frozen_importlib.BuiltinImporter.find_spec#opaque\x06Â\x0dcreate_module\t6_frozen_importlib.BuiltinImporter.create_module#opaque\x06Ã\x0bexec_module\t4_frozen_importlib.BuiltinImporter.exec_module#opaque\x06Ä\x08get_code\t1_frozen_importlib.BuiltinImporter.get_code#opaque\x06Å\nget_source\t3_frozen_importlib.BuiltinImporter.get_source#opaque\x06Æ\nis_package\t3_frozen_importlib.BuiltinImporter.is_package#opaque\x06Ç\x0bload_module\t4_frozen_importlib.BuiltinImporter.load_module#opaque\x06È\x15__static_attributes__\x04\x00\x00\x0f\x06Ê\x08__dict__\x04\x00\x00\x10\x06Ì\x0b__weakref__\x04\x00\x00\x11") 
 0),(Value.bool Bool.true),(Value.bool Bool.true),(Value.str (Str.ofString "") 205),(Value.int 21 0),(Value.str (Str.ofString "\x06ã\n__module__\x06Ù\x11_frozen_importlib\x06ä\x0f__firstlineno__\x04Ú\x00Ȳ\x06å\x07__doc__\t/_frozen_importlib.ModuleSpec.__doc__:str#opaque\x06æ\x08__init__\t,_frozen_importlib.ModuleSpec.__init__#opaque\x06ç\x08__repr__\t,_frozen_importlib.ModuleSpec.__repr__#opaque\x06è\x06__eq__\t*_frozen_importlib.ModuleSpec.__eq__#opaque\x06é\x06cached\t*_frozen_importlib.ModuleSpec.cached#opaque\x06ê\x06parent\t*_frozen_importlib.ModuleSpec.parent#opaque\x06ë\x0chas_location\t0_frozen_importlib.ModuleSpec.has_location#opaque\x06ì\x15__static_attributes__\x04\x00\x00\x17\x06î\x08__dict__\x04\x00\x00\x18\x06ð\x0b__weakref__\x04\x00\x00\x19\x06ñ\x08__hash__\x00") 
 0),(Value.bool Bool.true),(Value.bool Bool.true),(Value.str (Str.ofString "") 242)] 1),#[]⟩
noncomputable def ob19 : Params → Obj := fun P => ⟨(Value.type "list"),none,(Data.seq #[] 0),#[]⟩
noncomputable def ob20 : Params → Obj := fun P => ⟨(Value.type "dict"),none,(Data.dict #[⟨(PyData.keyHash P (Str.ofString "name")),(Value.str (Str.ofString "name") 208),(Value.str (Str.ofString "_sre") 
 207)⟩,⟨(PyData.keyHash P (Str.ofString "loader")),(Value.str (Str.ofString "loader") 209),(Value.ref 14)⟩,⟨(PyData.keyHash P (Str.ofString "origin")),
 (Value.str (Str.ofString "origin") 210),(Value.str (Str.ofString "built-in") 184)⟩,⟨(PyData.keyHash P (Str.ofString "loader_state")),(Value.str (Str.ofString 
 "loader_state") 211),Value.none⟩,⟨(PyData.keyHash P (Str.ofString "submodule_search_locations")),(Value.str (Str.ofString "submodule_search_locations") 
 212),Value.none⟩,⟨(PyData.keyHash P (Str.ofString "_uninitialized_submodules")),(Value.str (Str.ofString "_uninitialized_submodules") 213),(Value.ref 
 19)⟩,⟨(PyData.keyHash P (Str.ofString "_set_fileattr")),(Value.str (Str.ofString "_set_fileattr") 214),(Value.bool Bool.false)⟩,⟨(PyData.keyHash P (Str.ofString 
 "_cached")),(Value.str (Str.ofString "_cached") 215),Value.none⟩,⟨(PyData.keyHash P (Str.ofString "_initializing")),(Value.str (Str.ofString "_initializing") 
 243),(Value.bool Bool.false)⟩] 9),#[]⟩
noncomputable def ob21 : Params → Obj := fun P => ⟨(Value.type "dict"),none,(Data.dict #[⟨(PyData.keyHash P (Str.ofString "__module__")),(Value.str (Str.ofString "__module__") 227),(Value.str (Str.ofString 
 "_frozen_importlib") 217)⟩,⟨(PyData.keyHash P (Str.ofString "__firstlineno__")),(Value.str (Str.ofString "__firstlineno__") 228),(Value.int 562 218)⟩,
 ⟨(PyData.keyHash P (Str.ofString "__doc__")),(Value.str (Str.ofString "__doc__") 229),(Value.builtin "_frozen_importlib.ModuleSpec.__doc__:str#opaque")⟩,
 ⟨(PyData.keyHash P (Str.ofString "__init__")),(Value.str (Str.ofString "__init__") 230),(Value.builtin "_frozen_importlib.ModuleSpec.__init__#opaque")⟩,
 ⟨(PyData.keyHash P (Str.ofString "__repr__")),(Value.str (Str.ofString "__repr__") 231),(Value.builtin "_frozen_importlib.ModuleSpec.__repr__#opaque")⟩,
 ⟨(PyData.keyHash P (Str.ofString "__eq__")),(Value.str (Str.ofString "__eq__") 232),(Value.builtin "_frozen_importlib.ModuleSpec.__eq__#opaque")⟩,⟨(PyData.keyHash 
 P (Str.ofString "cached")),(Value.str (Str.ofString "cached") 233),(Value.builtin "_frozen_importlib.ModuleSpec.cached#opaque")⟩,⟨(PyData.keyHash P (Str.ofString 
 "parent")),(Value.str (Str.ofString "parent") 234),(Value.builtin "_frozen_importlib.ModuleSpec.parent#opaque")⟩,⟨(PyData.keyHash P (Str.ofString "has_location")),
 (Value.str (Str.ofString "has_location") 235),(Value.builtin "_frozen_importlib.ModuleSpec.has_location#opaque")⟩,⟨(PyData.keyHash P (Str.ofString "__static_attributes__")),
 (Value.str (Str.ofString "__static_attributes__") 236),(Value.ref 23)⟩,⟨(PyData.keyHash P (Str.ofString "__dict__")),(Value.str (Str.ofString "__dict__") 
 238),(Value.ref 24)⟩,⟨(PyData.keyHash P (Str.ofString "__weakref__")),(Value.str (Str.ofString "__weakref__") 240),(Value.ref 25)⟩,⟨(PyData.keyHash P 
 (Str.ofString "__hash__")),(Value.str (Str.ofString "__hash__") 241),Value.none⟩] 13),#[]⟩
noncomputable def ob22 : Params → Obj := fun P => ⟨(Value.type "type"),none,(Data.cls ⟨(Str.ofString "ModuleSpec"),[(Value.type "object")],[(Value.ref 22),(Value.type "object")],21,(Str.ofString "ModuleSpec"),
 Bool.true,[],[],Bool.false,none,Bool.false⟩),#[]⟩
noncomputable def ob23 : Params → Obj := fun P => ⟨(Value.type "tuple"),none,(Data.seq #[(Value.str (Str.ofString "_cached") 219),(Value.str (Str.ofString "_set_fileattr") 220),(Value.str (Str.ofString 
 "_uninitialized_submodules") 221),(Value.str (Str.ofString "loader") 222),(Value.str (Str.ofString "loader_state") 223),(Value.str (Str.ofString "name") 
 224),(Value.str (Str.ofString "origin") 225),(Value.str (Str.ofString "submodule_search_locations") 226)] 0),#[]⟩
noncomputable def ob24 : Params → Obj := fun P => ⟨(Value.type "getset_descriptor"),none,(Data.fields #[(Value.str (Str.ofString "__dict__") 237),(Value.ref 22),(Value.builtin "function.__dict__"),(Value.builtin 
 "function.__dict__#set")]),#[]⟩
noncomputable def ob25 : Params → Obj := fun P => ⟨(Value.type "getset_descriptor"),none,(Data.fields #[(Value.str (Str.ofString "__weakref__") 239),(Value.ref 22),(Value.builtin "ExceptionGroup.__weakref__"),
 Value.none]),#[]⟩
noncomputable def ob26 : Params → Obj := fun P => ⟨(Value.ref 22),(some 20),Data.plain,#[]⟩
noncomputable def ob27 : Params → Obj := fun P => ⟨Value.none,none,(Data.seq #[(Value.int 11 0),(Value.str (Str.mk (List.toArray (6 :: 247 :: 8 :: 95 :: 95 :: 110 :: 97 :: 109 :: 101 :: 95 :: 95 :: 6 
 :: 246 :: 4 :: 95 :: 115 :: 114 :: 101 :: 6 :: 248 :: 7 :: 95 :: 95 :: 100 :: 111 :: 99 :: 95 :: 95 :: 0 :: 6 :: 250 :: 11 :: 95 :: 95 :: 112 :: 97 :: 
 99 :: 107 :: 97 :: 103 :: 101 :: 95 :: 95 :: 6 :: 249 :: 0 :: 6 :: 251 :: 10 :: 95 :: 95 :: 108 :: 111 :: 97 :: 100 :: 101 :: 114 :: 95 :: 95 :: 4 :: 
 0 :: 0 :: 14 :: 6 :: 252 :: 8 :: 95 :: 95 :: 115 :: 112 :: 101 :: 99 :: 95 :: 95 :: 4 :: 0 :: 0 :: 26 :: 6 :: 253 :: 7 :: 99 :: 111 :: 109 :: 112 :: 105 
 :: 108 :: 101 :: 9 :: 12 :: 95 :: 115 :: 114 :: 101 :: 46 :: 99 :: 111 :: 109 :: 112 :: 105 :: 108 :: 101 :: 6 :: 254 :: 8 :: 116 :: 101 :: 109 :: 112 
 :: 108 :: 97 :: 116 :: 101 :: 9 :: 13 :: 95 :: 115 :: 114 :: 101 :: 46 :: 116 :: 101 :: 109 :: 112 :: 108 :: 97 :: 116 :: 101 :: 6 :: 255 :: 11 :: 103 
 :: 101 :: 116 :: 99 :: 111 :: 100 :: 101 :: 115 :: 105 :: 122 :: 101 :: 9 :: 16 :: 95 :: 115 :: 114 :: 101 :: 46 :: 103 :: 101 :: 116 :: 99 :: 111 :: 
 100 :: 101 :: 115 :: 105 :: 122 :: 101 :: 6 :: 256 :: 13 :: 97 :: 115 :: 99 :: 105 :: 105 :: 95 :: 105 :: 115 :: 99 :: 97 :: 115 :: 101 :: 100 :: 9 :: 
 18 :: 95 :: 115 :: 114 :: 101 :: 46 :: 97 :: 115 :: 99 :: 105 :: 105 :: 95 :: 105 :: 115 :: 99 :: 97 :: 115 :: 101 :: 100 :: 6 :: 257 :: 15 :: 117 :: 
 110 :: 105 :: 99 :: 111 :: 100 :: 101 :: 95 :: 105 :: 115 :: 99 :: 97 :: 115 :: 101 :: 100 :: 9 :: 20 :: 95 :: 115 :: 114 :: 101 :: 46 :: 117 :: 110 :: 
 105 :: 99 :: 111 :: 100 :: 101 :: 95 :: 105 :: 115 :: 99 :: 97 :: 115 :: 101 :: 100 :: 6 :: 258 :: 13 :: 97 :: 115 :: 99 :: 105 :: 105 :: 95 :: 116 :: 
 111 :: 108 :: 111 :: 119 :: 101 :: 114 :: 9 :: 18 :: 95 :: 115 :: 114 :: 101 :: 46 :: 97 :: 115 :: 99 :: 105 :: 105 :: 95 :: 116 :: 111 :: 108 :: 111 
 :: 119 :: 101 :: 114 :: 6 :: 259 :: 15 :: 117 :: 110 :: 105 :: 99 :: 111 :: 100 :: 101 :: 95 :: 116 :: 111 :: 108 :: 111 :: 119 :: 101 :: 114 :: 9 :: 
 20 :: 95 :: 115 :: 114 :: 101 :: 46 :: 117 :: 110 :: 105 :: 99 :: 111 :: 100 :: 101 :: 95 :: 116 :: 111 :: 108 :: 111 :: 119 :: 101 :: 114 :: 6 :: 261 
 :: 5 :: 77 :: 65 :: 71 :: 73 :: 67 :: 4 :: 260 :: 0 :: 20230612 :: 6 :: 263 :: 8 :: 67 :: 79 :: 68 :: 69 :: 83 :: 73 :: 90 :: 69 :: 4 :: 262 :: 0 :: 4 
 :: 6 :: 265 :: 9 :: 77 :: 65 :: 88 :: 82 :: 69 :: 80 :: 69 :: 65 :: 84 :: 4 :: 264 :: 0 :: 4294967295 :: 6 :: 267 :: 9 :: 77 :: 65 :: 88 :: 71 :: 82 :: 
 79 :: 85 :: 80 :: 83 :: 4 :: 266 :: 0 :: 1073741823 :: 6 :: 269 :: 9 :: 99 :: 111 :: 112 :: 121 :: 114 :: 105 :: 103 :: 104 :: 116 :: 6 :: 268 :: 53 :: 
 32 :: 83 :: 82 :: 69 :: 32 :: 50 :: 46 :: 50 :: 46 :: 50 :: 32 :: 67 :: 111 :: 112 :: 121 :: 114 :: 105 :: 103 :: 104 :: 116 :: 32 :: 40 :: 99 :: 41 :: 
 32 :: 49 :: 57 :: 57 :: 55 :: 45 :: 50 :: 48 :: 48 :: 50 :: 32 :: 98 :: 121 :: 32 :: 83 :: 101 :: 99 :: 114 :: 101 :: 116 :: 32 :: 76 :: 97 :: 98 :: 115 
 :: 32 :: 65 :: 66 :: 32 :: []))) 0),(Value.bool Bool.true),(Value.bool Bool.false),(Value.str (Str.ofString "_sre") 271),(Value.int 29 0),(Value.str (Str.ofString 
 "\x06Ĩ\x08__name__\x06ħ\x0c_collections\x06ĩ\x07__doc__\t\x1f_collections.__doc__:str#opaque\x06ī\x0b__package__\x06Ī\x00\x06Ĭ\n__loader__\x04\x00\x00\x0e\x06ĭ\x08__spec__\x04\x00\x00!\x06Į\x0f_count_elements\t\x1c_collections._count_elements\x06į\x05deque\x08\x11collections.deque\x06İ\x0bdefaultdict\x08\x17collections.defaultdict\x06ı\x0f_deque_iterator\x08\x1bcollections._deque_iterator\x06Ĳ\x17_deque_reverse_iterator\x08#collections._deque_reverse_iterator\x06ĳ\x0c_tuplegetter\x08\x18collections._tuplegetter\x06Ĵ\x0bOrderedDict\x08\x17collections.OrderedDict") 
 0),(Value.bool Bool.true),(Value.bool Bool.false),(Value.str (Str.ofString "_collections") 310)] 1),#[]⟩
noncomputable def ob28 : Params → Obj := fun P => ⟨(Value.type "tuple"),none,(Data.seq #[(Value.str (Str.ofString "deque") 277)] 0),#[]⟩
noncomputable def ob29 : Params → Obj := fun P => ⟨(Value.type "dict"),none,(Data.dict #[⟨(PyData.keyHash P (Str.ofString "__name__")),(Value.str (Str.ofString "__name__") 296),(Value.str (Str.ofString 
 "_collections") 295)⟩,⟨(PyData.keyHash P (Str.ofString "__doc__")),(Value.str (Str.ofString "__doc__") 297),(Value.builtin "off-the-table:_collections.__doc__:shared#opaque")⟩,
 ⟨(PyData.keyHash P (Str.ofString "__package__")),(Value.str (Str.ofString "__package__") 299),(Value.str (Str.ofString "") 298)⟩,⟨(PyData.keyHash P (Str.ofString 
 "__loader__")),(Value.str (Str.ofString "__loader__") 300),(Value.builtin "off-the-table:_collections.__loader__:shared#opaque")⟩,⟨(PyData.keyHash P (Str.ofString 
 "__spec__")),(Value.str (Str.ofString "__spec__") 301),(Value.builtin "off-the-table:_collections.__spec__:shared#opaque")⟩,⟨(PyData.keyHash P (Str.ofString 
 "_count_elements")),(Value.str (Str.ofString "_count_elements") 302),(Value.builtin "_collections._count_elements")⟩,⟨(PyData.keyHash P (Str.ofString 
 "deque")),(Value.str (Str.ofString "deque") 303),(Value.type "collections.deque")⟩,⟨(PyData.keyHash P (Str.ofString "defaultdict")),(Value.str (Str.ofString 
 "defaultdict") 304),(Value.type "collections.defaultdict")⟩,⟨(PyData.keyHash P (Str.ofString "_deque_iterator")),(Value.str (Str.ofString "_deque_iterator") 
 305),(Value.builtin "off-the-table:_collections._deque_iterator:shared#opaque")⟩,⟨(PyData.keyHash P (Str.ofString "_deque_reverse_iterator")),(Value.str 
 (Str.ofString "_deque_reverse_iterator") 306),(Value.builtin "off-the-table:_collections._deque_reverse_iterator:shared#opaque")⟩,⟨(PyData.keyHash P (Str.ofString 
 "_tuplegetter")),(Value.str (Str.ofString "_tuplegetter") 307),(Value.type "collections._tuplegetter")⟩,⟨(PyData.keyHash P (Str.ofString "OrderedDict")),
 (Value.str (Str.ofString "OrderedDict") 308),(Value.type "collections.OrderedDict")⟩] 12),#[]⟩
noncomputable def ob30 : Params → Obj := fun P => ⟨(Value.type "module"),(some 29),Data.plain,#[]⟩
noncomputable def ob31 : Params → Obj := fun P => ⟨(Value.type "list"),none,(Data.seq #[] 0),#[]⟩
noncomputable def ob32 : Params → Obj := fun P => ⟨(Value.type "dict"),none,(Data.dict #[⟨(PyData.keyHash P (Str.ofString "name")),(Value.str (Str.ofString "name") 283),(Value.str (Str.ofString "_collections") 
 282)⟩,⟨(PyData.keyHash P (Str.ofString "loader")),(Value.str (Str.ofString "loader") 284),(Value.ref 14)⟩,⟨(PyData.keyHash P (Str.ofString "origin")),
 (Value.str (Str.ofString "origin") 285),(Value.str (Str.ofString "built-in") 281)⟩,⟨(PyData.keyHash P (Str.ofString "loader_state")),(Value.str (Str.ofString 
 "loader_state") 286),Value.none⟩,⟨(PyData.keyHash P (Str.ofString "submodule_search_locations")),(Value.str (Str.ofString "submodule_search_locations") 
 287),Value.none⟩,⟨(PyData.keyHash P (Str.ofString "_uninitialized_submodules")),(Value.str (Str.ofString "_uninitialized_submodules") 288),(Value.ref 
 31)⟩,⟨(PyData.keyHash P (Str.ofString "_set_fileattr")),(Value.str (Str.ofString "_set_fileattr") 289),(Value.bool Bool.false)⟩,⟨(PyData.keyHash P (Str.ofString 
 "_cached")),(Value.str (Str.ofString "_cached") 290),Value.none⟩,⟨(PyData.keyHash P (Str.ofString "_initializing")),(Value.str (Str.ofString "_initializing") 
 291),(Value.bool Bool.false)⟩] 9),#[]⟩
noncomputable def ob33 : Params → Obj := fun P => ⟨(Value.ref 22),(some 32),Data.plain,#[]⟩
noncomputable def ob34 : Params → Obj := fun P => ⟨(Value.type "tuple"),none,(Data.seq #[] 0),#[]⟩
noncomputable def ob35 : Params → Obj := fun P => ⟨Value.none,none,(Data.fields #[]),#[]⟩
noncomputable def ob36 : Params → Obj := fun P => ⟨(Value.type "code"),none,(Data.fields #[(Value.str (Str.ofString "<module>") 319),(Value.str (Str.ofString "<module>") 320),(Value.str (Str.ofString 
 "/claim/cut.py") 321),(Value.int 1 0),(Value.int 0 0),(Value.int 0 0),(Value.int 0 0),(Value.int 0 0),(Value.ref 34),(Value.bool Bool.false),(Value.int 
 318 0),(Value.ref 35),Value.none,Value.none,Value.none,Value.none,(Value.int 322 0),(Value.int 1 0),(Value.str (Str.ofString "/claim/cut.py") 323)]),#[]⟩
noncomputable def ob37 : Params → Obj := fun P => ⟨(Value.type "frame"),none,Data.plain,#[(some (Value.ref 36)),(some (Value.ref 3)),(some (Value.ref 3)),none,(some (Value.str (Str.ofString "__main__") 
 164)),none,(some (Value.ref 0))]⟩
noncomputable def env0 : Env := { scope := pw.main.scope, locals := mainNs, globals := mainNs, cells := [], code := Value.ref 36, frame := some 37 }
noncomputable abbrev cd0 : Code := Code.body (behindTheImports pw) env0
noncomputable abbrev pos0 : Pos := ⟨0, 0, 0, 0⟩
end Mine.hd

end
section
open PySem PySem.W PyProof.Rows
set_option maxRecDepth 100000
set_option maxHeartbeats 0
namespace Mine.hd
open PySem PySem.W PyProof.Rows PySem.Calls
section
variable {p q : Program} {lo : List Str} {Xt : Shared → Bool} {α : Type} {Yf : Shared → α} {Ya : World → α} {N : Nat} {g0 : Bool}
/-- what is asked of the state that the top leaves -/
noncomputable def asked (p q : Program) (lo : List Str) (Xt : Shared → Bool) (g0 : Bool) {α : Type} (Yf : Shared → α) (H : Heap) (s : Shared) :=
  ((staticsOk (importedModules p.main.body) H s.heap && namesBound p s.heap && gensDone s && laidKept H s.heap), openSeen q lo (importedModules p.main.body) Xt g0 s, Yf s)
theorem left_of_run {m : Nat} {ann : Option Value} {M : Nat} (le : M ≤ N)
    (run : ∀ w : World, ∃ s₀ s, fencedOpening treeTable p w N = some s₀ ∧ (s₀.heap.isNs mainGlobals && s₀.gens.size == 0, s₀.heap.objs.size, s₀.heap.nsMap mainGlobals "__annotations__") = (true, m, ann) ∧
      topRun treeTable p w m ann M s₀ (topStub p) = some s ∧ asked p q lo Xt g0 Yf s₀.heap s = (true, openGood q lo, Ya w)) : LeftO p q lo Xt Yf Ya N g0 := by
  intro w
  obtain ⟨s₀, s, e, z, r, a⟩ := run w
  simp only [Prod.mk.injEq] at z
  obtain ⟨z1, z2, z3⟩ := z
  unfold asked at a
  simp only [Prod.mk.injEq] at a
  obtain ⟨a1, a2, a3⟩ := a
  have r' := topRun_mono (N - M) _ _ _ _ r
  rw [Nat.add_sub_cancel' le] at r'
  unfold openEnds
  rw [e]
  show (topFrom treeTable p w N _).map _ = _
  unfold topFrom
  rw [z1, z2, z3]
  dsimp only
  rw [r']
  dsimp only [Option.bind_some]
  rw [a1]
  show some (_, _) = some (_, _)
  rw [a2, a3]
theorem fin_top {tb : String → Option Builtin} {w : World} {n : Nat} {ann : Option Value} {c : Code} {ps q0 : Pos} (s : Shared) : topRun tb p w n ann 2 s ⟨doneF .next, c, ps, [topFrame q0]⟩ = some s := by
  obtain ⟨h, g, d, k, os⟩ := s
  rfl
end
theorem imE : @PySem.importEnds = @PySem.W.Fast.tw10274390034422433532 := PySem.W.Fast.te10274390034422433532
theorem ttE : @PySem.treeTable = @PySem.W.Fast.tw14364793385576792824 := PySem.W.Fast.te14364793385576792824
theorem feE : @PySem.fenceModules? = @PySem.W.Fast.tw14289696077712309145 := PySem.W.Fast.te14289696077712309145
theorem tgE : @PySem.W.topGo = @PySem.W.Fast.tw15667345088766844465 := PySem.W.Fast.te15667345088766844465
theorem srE : @PySem.W.segRun = @PySem.W.Fast.tw14374325043358763698 := PySem.W.Fast.te14374325043358763698
theorem stE : @PySem.W.segRunT = @PySem.W.Fast.tw10110043849684766642 := PySem.W.Fast.te10110043849684766642
theorem osE : @PySem.W.openSeen = @PySem.W.Fast.tw4187177175401517315 := PySem.W.Fast.te4187177175401517315
theorem dnE : @PySem.denote = @PySem.W.Fast.tw11892475500146522536 := PySem.W.Fast.te11892475500146522536
theorem nrE : @PySem.W.noRoadLSs = @PySem.W.Fast.tw8326940854005059898 := PySem.W.Fast.te8326940854005059898
theorem nmE : @PySem.W.namesMeet = @PySem.W.Fast.tw17119622794617984870 := PySem.W.Fast.te17119622794617984870
theorem nvE : @PySem.W.namesResolve = @PySem.W.Fast.tw8377067652309620493 := PySem.W.Fast.te8377067652309620493
theorem sfE : @PySem.W.sreFenced = @PySem.W.Fast.tw11788848310118352699 := PySem.W.Fast.te11788848310118352699
theorem alE : @PySem.W.attrL = @PySem.W.Fast.tw17868728402115742887 := PySem.W.Fast.te17868728402115742887
theorem roE : @PySem.W.readsOut = @PySem.W.Fast.tw13343964577679436407 := PySem.W.Fast.te13343964577679436407
theorem spE : @PySem.W.stepT = @PySem.W.Fast.tw10156331382660048174 := PySem.W.Fast.te10156331382660048174
end Mine.hd

end
section
open PySem PySem.W PyProof.Rows
set_option maxRecDepth 100000
set_option maxHeartbeats 2000000
namespace Mine.hd
open PySem PySem.W PyProof.Rows PySem.Calls
/-- a tree of n objects, its objects by their addresses -/
noncomputable def grow (g : Nat → Obj) : Nat → Nat → Nat → Nat → BT
  | 0, _, _, _ => .nil
  | f + 1, a, b, n => match Nat.blt b n with
    | true => .node (g b) (grow g f (2 * a) (a + b) n) (grow g f (2 * a) (2 * a + b) n)
    | false => .nil
noncomputable def grown : Nat → BT → Nat → Nat → Nat → Bool
  | 0, .nil, _, _, _ => true
  | 0, .node _ _ _, _, _, _ => false
  | _ + 1, .nil, _, b, n => !Nat.blt b n
  | f + 1, .node _ l r, a, b, n => Nat.blt b n && grown f l (2 * a) (a + b) n && grown f r (2 * a) (2 * a + b) n
theorem grow_congr {g g' : Nat → Obj} : ∀ (f a b n : Nat), (∀ k, g (b + a * k) = g' (b + a * k)) → grow g f a b n = grow g' f a b n
  | 0, _, _, _, _ => rfl
  | f + 1, a, b, n, h => by
    unfold grow
    cases Nat.blt b n with
    | false => rfl
    | true =>
      have h0 := h 0
      rw [Nat.mul_zero, Nat.add_zero] at h0
      dsimp only
      rw [h0, grow_congr f (2 * a) (a + b) n fun k => ?_, grow_congr f (2 * a) (2 * a + b) n fun k => ?_]
      · have := h (2 * k + 2)
        rw [show b + a * (2 * k + 2) = 2 * a + b + 2 * a * k by rw [Nat.mul_add, ← Nat.mul_assoc, Nat.mul_comm a 2]; omega] at this
        exact this
      · have := h (2 * k + 1)
        rw [show b + a * (2 * k + 1) = a + b + 2 * a * k by rw [Nat.mul_add, Nat.mul_one, ← Nat.mul_assoc, Nat.mul_comm a 2]; omega] at this
        exact this
theorem of_grown : ∀ (f : Nat) (T : BT) (a b n : Nat), 0 < a → grown f T a b n = true → T = grow (fun i => (T.get ((i - b) / a)).getD default) f a b n
  | 0, .nil, _, _, _, _, _ => rfl
  | 0, .node _ _ _, _, _, _, _, h => by cases h
  | f + 1, .nil, a, b, n, _, h => by
    unfold grow
    have : Nat.blt b n = false := by
      unfold grown at h
      cases q : Nat.blt b n with
      | false => rfl
      | true => rw [q] at h; cases h
    rw [this]
  | f + 1, .node v l r, a, b, n, ha, h => by
    unfold grown at h
    obtain ⟨h1, h3⟩ := Bool.and_eq_true_iff.mp h
    obtain ⟨h1, h2⟩ := Bool.and_eq_true_iff.mp h1
    have il := of_grown f l (2 * a) (a + b) n (by omega) h2
    have ir := of_grown f r (2 * a) (2 * a + b) n (by omega) h3
    unfold grow
    rw [h1]
    dsimp only
    have ev : ((BT.node v l r).get ((b - b) / a)).getD default = v := by rw [Nat.sub_self, Nat.zero_div]; rfl
    rw [ev]
    have el : grow (fun i => ((BT.node v l r).get ((i - b) / a)).getD default) f (2 * a) (a + b) n = l := by
      refine Eq.trans (grow_congr f (2 * a) (a + b) n fun k => ?_) il.symm
      rw [show a + b + 2 * a * k - b = a * (2 * k + 1) by rw [Nat.mul_add, Nat.mul_one, ← Nat.mul_assoc, Nat.mul_comm a 2]; omega, Nat.mul_div_cancel_left _ ha, show a + b + 2 * a * k - (a + b) = 2 * a * k by omega, Nat.mul_div_cancel_left _ (show 0 < 2 * a by omega), BT.get_node]
      rw [if_neg (by omega), if_pos (by omega), show (2 * k + 1) / 2 = k by omega]
    have er : grow (fun i => ((BT.node v l r).get ((i - b) / a)).getD default) f (2 * a) (2 * a + b) n = r := by
      refine Eq.trans (grow_congr f (2 * a) (2 * a + b) n fun k => ?_) ir.symm
      rw [show 2 * a + b + 2 * a * k - b = a * (2 * k + 2) by rw [Nat.mul_add, ← Nat.mul_assoc, Nat.mul_comm a 2]; omega, Nat.mul_div_cancel_left _ ha, show 2 * a + b + 2 * a * k - (2 * a + b) = 2 * a * k by omega, Nat.mul_div_cancel_left _ (show 0 < 2 * a by omega), BT.get_node]
      rw [if_neg (by omega), if_neg (by omega), show (2 * k + 2) / 2 - 1 = k by omega]
    rw [el, er]
/-- the object at an address: a written one, or another -/
noncomputable def at_ : List (Nat × Obj) → Nat → Obj → Obj
  | [], _, d => d
  | p :: l, i, d => match Nat.beq p.1 i with
    | true => p.2
    | false => at_ l i d
theorem at_is {T : BT} : ∀ {E : List (Nat × Obj)}, E.map (fun p => T.get p.1) = E.map (fun p => some p.2) → ∀ i, at_ E i ((T.get i).getD default) = (T.get i).getD default
  | [], _, _ => rfl
  | p :: l, h, i => by
    rw [List.map_cons, List.map_cons] at h
    injection h with h1 h2
    unfold at_
    cases q : Nat.beq p.1 i with
    | false => exact at_is h2 i
    | true =>
      have := Nat.eq_of_beq_eq_true q
      subst this
      rw [h1]; rfl
/-- a state whose written objects are known -/
noncomputable def stG (E : List (Nat × Obj)) (n k : Nat) (g : Nat → Obj) (os : OsState) : SharedT := ⟨grow (fun i => at_ E i (g i)) 11 1 0 n, n, {}, #[], {}, k, os⟩
noncomputable def seenG (E : List (Nat × Obj)) (s : SharedT) := (grown 11 s.tree 1 0 s.n, s.n, s.life, s.gens, s.drawn, s.toks, s.os, E.map fun p => s.tree.get p.1)
theorem of_seen {E : List (Nat × Obj)} {n k : Nat} {os : OsState} {s : SharedT} (h : seenG E s = (true, n, {}, #[], {}, k, os, E.map fun p => some p.2)) : ∃ g, s = stG E n k g os := by
  obtain ⟨T, n', li, gs, d, k', os'⟩ := s
  unfold seenG at h
  simp only [Prod.mk.injEq] at h
  obtain ⟨h1, rfl, rfl, rfl, rfl, rfl, rfl, h2⟩ := h
  refine ⟨fun i => (T.get i).getD default, ?_⟩
  unfold stG
  have e := of_grown 11 T 1 0 n' (by decide) h1
  have e2 : grow (fun i => (T.get ((i - 0) / 1)).getD default) 11 1 0 n' = grow (fun i => at_ E i ((T.get i).getD default)) 11 1 0 n' := grow_congr _ _ _ _ fun j => by
    rw [Nat.sub_zero, Nat.div_one, at_is h2]
  rw [← e2, ← e]
section
variable {p : Program} {w : World} {os : OsState} {m : Nat} {ann : Option Value} {env : Env} {c : Code} {q0 p0 ps : Pos} {R : Shared → Prop}
/-- a piece of the top, and the rest for whatever it has left unknown -/
theorem cut_app {S : SharedT} {E : List (Nat × Obj)} {n k n2 N : Nat} {l rest : List Stmt}
    (h : (segRunT treeTable p w m ann 1 n2 S (piecesOf l env c p0 [topFrame q0])).map (fun r => (r.1, r.2.2.1, r.2.2.2, seenG E r.2.1)) = some (.next, c, ps, true, n, {}, #[], {}, k, os, E.map fun p => some p.2))
    (go : ∀ g, ∃ s, topRun treeTable p w m ann N (stG E n k g os).abs (restOf rest env c ps [topFrame q0]) = some s ∧ R s) :
    ∃ s, topRun treeTable p w m ann (n2 + N) S.abs (restOf (l ++ rest) env c p0 [topFrame q0]) = some s ∧ R s := by
  obtain ⟨⟨f, s, c', x⟩, e, e'⟩ := Option.map_eq_some_iff.mp h
  simp only [Prod.mk.injEq] at e'
  obtain ⟨rfl, rfl, rfl, e4⟩ := e'
  obtain ⟨g, rfl⟩ := of_seen e4
  obtain ⟨s, h1, h2⟩ := go g
  exact ⟨s, piece_app (segRun_of e) h1, h2⟩
/-- the last piece -/
theorem cut_end {α : Type} {f : Shared → α} {v : α} {S : SharedT} {n2 : Nat} {l : List Stmt}
    (h : (segRunT treeTable p w m ann 1 n2 S (piecesOf l env c p0 [topFrame q0])).map (fun r => (r.1, r.2.2.1, r.2.2.2, f r.2.1.abs)) = some (.next, c, ps, v)) :
    ∃ s, topRun treeTable p w m ann (n2 + 2) S.abs (restOf l env c p0 [topFrame q0]) = some s ∧ f s = v := by
  obtain ⟨⟨fl, s, c', x⟩, e, e'⟩ := Option.map_eq_some_iff.mp h
  simp only [Prod.mk.injEq] at e'
  obtain ⟨rfl, rfl, rfl, e4⟩ := e'
  have h := piece_app (rest := []) (segRun_of e) (piece_nil (env := env) (fin_top s.abs))
  rw [List.append_nil] at h
  exact ⟨_, h, e4⟩
end
/-- the run of the imports, over a tree -/
noncomputable def impT (stp : SharedT → Thread → Option (SharedT × Thread)) : Nat → SharedT → Thread → Option SharedT
  | 0, _, _ => none
  | n + 1, s, t => match t.atExitBegin with
    | some [] => some s
    | some (_ :: _) => none
    | none => match stp s t with
      | some (s', t') => impT stp n s' t'
      | none => none
theorem imp_of {tb : String → Option Builtin} {p : Program} {w : World} : ∀ {n : Nat} {s s' : SharedT} {t : Thread}, impT (stepT (denote tb) p w) n s t = some s' → importEnds tb p w n s.abs t = some s'.abs
  | 0, _, _, _, h => by cases h
  | n + 1, s, s', t, h => by
    unfold impT at h
    unfold importEnds
    cases ha : t.atExitBegin with
    | none =>
      rw [ha] at h
      cases hs : stepT (denote tb) p w s t with
      | none => rw [hs] at h; cases h
      | some r =>
        obtain ⟨s1, t1⟩ := r
        rw [hs] at h
        dsimp only
        rw [stepT_spec hs]
        exact imp_of h
    | some l =>
      rw [ha] at h
      cases l with
      | nil => cases h; rfl
      | cons _ _ => cases h
theorem open_of {p : Program} {E E' : Params → List (Nat × Obj)} {k k' m n N : Nat} (le : n ≤ N)
    (h : ∀ (w : World) (os : OsState), (impT (stepT (denote treeTable) (opening p) w) n ⟨.nil, 0, {}, #[], {}, 1, os⟩ (start (opening p)).2).map (seenG (E w.params)) = some (true, m, {}, #[], {}, k, os, (E w.params).map fun p => some p.2))
    (f : ∀ (w : World) (os : OsState) g, fenceModules? p (stG (E w.params) m k g os).abs = some (stG (E' w.params) m k' g os).abs) :
    ∀ w : World, ∃ g os, fencedOpening treeTable p w N = some (stG (E' w.params) m k' g os).abs := by
  intro w
  obtain ⟨s, e, e'⟩ := Option.map_eq_some_iff.mp (h w (start (opening p)).1.os)
  obtain ⟨g, rfl⟩ := of_seen e'
  have m := importEnds_mono (N - n) _ _ _ _ (imp_of e)
  rw [Nat.add_sub_cancel' le] at m
  refine ⟨g, (start (opening p)).1.os, ?_⟩
  unfold fencedOpening
  rw [show (start (opening p)).1 = (⟨.nil, 0, {}, #[], {}, 1, (start (opening p)).1.os⟩ : SharedT).abs from rfl, m]
  exact f w _ g
end Mine.hd

end
section
open PySem PySem.W PyProof.Rows
set_option maxRecDepth 100000
set_option maxHeartbeats 0
namespace Mine.hd
open PySem PySem.W PyProof.Rows PySem.Calls
noncomputable def oi11 : Params → Obj := fun P => ⟨(Value.type "dict"),none,(Data.dict #[⟨(PyData.keyHash P (Str.ofString "__name__")),(Value.str (Str.ofString "__name__") 247),(Value.str (Str.ofString 
 "_sre") 246)⟩,⟨(PyData.keyHash P (Str.ofString "__doc__")),(Value.str (Str.ofString "__doc__") 248),Value.none⟩,⟨(PyData.keyHash P (Str.ofString "__package__")),
 (Value.str (Str.ofString "__package__") 250),(Value.str (Str.ofString "") 249)⟩,⟨(PyData.keyHash P (Str.ofString "__loader__")),(Value.str (Str.ofString 
 "__loader__") 251),(Value.ref 14)⟩,⟨(PyData.keyHash P (Str.ofString "__spec__")),(Value.str (Str.ofString "__spec__") 252),(Value.ref 26)⟩,⟨(PyData.keyHash 
 P (Str.ofString "compile")),(Value.str (Str.ofString "compile") 253),(Value.builtin "_sre.compile")⟩,⟨(PyData.keyHash P (Str.ofString "template")),(Value.str 
 (Str.ofString "template") 254),(Value.builtin "_sre.template")⟩,⟨(PyData.keyHash P (Str.ofString "getcodesize")),(Value.str (Str.ofString "getcodesize") 
 255),(Value.builtin "_sre.getcodesize")⟩,⟨(PyData.keyHash P (Str.ofString "ascii_iscased")),(Value.str (Str.ofString "ascii_iscased") 256),(Value.builtin 
 "_sre.ascii_iscased")⟩,⟨(PyData.keyHash P (Str.ofString "unicode_iscased")),(Value.str (Str.ofString "unicode_iscased") 257),(Value.builtin "_sre.unicode_iscased")⟩,
 ⟨(PyData.keyHash P (Str.ofString "ascii_tolower")),(Value.str (Str.ofString "ascii_tolower") 258),(Value.builtin "_sre.ascii_tolower")⟩,⟨(PyData.keyHash 
 P (Str.ofString "unicode_tolower")),(Value.str (Str.ofString "unicode_tolower") 259),(Value.builtin "_sre.unicode_tolower")⟩,⟨(PyData.keyHash P (Str.ofString 
 "MAGIC")),(Value.str (Str.ofString "MAGIC") 261),(Value.int 20230612 260)⟩,⟨(PyData.keyHash P (Str.ofString "CODESIZE")),(Value.str (Str.ofString "CODESIZE") 
 263),(Value.int 4 262)⟩,⟨(PyData.keyHash P (Str.ofString "MAXREPEAT")),(Value.str (Str.ofString "MAXREPEAT") 265),(Value.int 4294967295 264)⟩,⟨(PyData.keyHash 
 P (Str.ofString "MAXGROUPS")),(Value.str (Str.ofString "MAXGROUPS") 267),(Value.int 1073741823 266)⟩,⟨(PyData.keyHash P (Str.ofString "copyright")),(Value.str 
 (Str.ofString "copyright") 269),(Value.str (Str.ofString " SRE 2.2.2 Copyright (c) 1997-2002 by Secret Labs AB ") 268)⟩] 17),#[]⟩
noncomputable def oi29 : Params → Obj := fun P => ⟨(Value.type "dict"),none,(Data.dict #[⟨(PyData.keyHash P (Str.ofString "__name__")),(Value.str (Str.ofString "__name__") 296),(Value.str (Str.ofString 
 "_collections") 295)⟩,⟨(PyData.keyHash P (Str.ofString "__doc__")),(Value.str (Str.ofString "__doc__") 297),(Value.builtin "_collections.__doc__:str#opaque")⟩,
 ⟨(PyData.keyHash P (Str.ofString "__package__")),(Value.str (Str.ofString "__package__") 299),(Value.str (Str.ofString "") 298)⟩,⟨(PyData.keyHash P (Str.ofString 
 "__loader__")),(Value.str (Str.ofString "__loader__") 300),(Value.ref 14)⟩,⟨(PyData.keyHash P (Str.ofString "__spec__")),(Value.str (Str.ofString "__spec__") 
 301),(Value.ref 33)⟩,⟨(PyData.keyHash P (Str.ofString "_count_elements")),(Value.str (Str.ofString "_count_elements") 302),(Value.builtin "_collections._count_elements")⟩,
 ⟨(PyData.keyHash P (Str.ofString "deque")),(Value.str (Str.ofString "deque") 303),(Value.type "collections.deque")⟩,⟨(PyData.keyHash P (Str.ofString "defaultdict")),
 (Value.str (Str.ofString "defaultdict") 304),(Value.type "collections.defaultdict")⟩,⟨(PyData.keyHash P (Str.ofString "_deque_iterator")),(Value.str (Str.ofString 
 "_deque_iterator") 305),(Value.type "collections._deque_iterator")⟩,⟨(PyData.keyHash P (Str.ofString "_deque_reverse_iterator")),(Value.str (Str.ofString 
 "_deque_reverse_iterator") 306),(Value.type "collections._deque_reverse_iterator")⟩,⟨(PyData.keyHash P (Str.ofString "_tuplegetter")),(Value.str (Str.ofString 
 "_tuplegetter") 307),(Value.type "collections._tuplegetter")⟩,⟨(PyData.keyHash P (Str.ofString "OrderedDict")),(Value.str (Str.ofString "OrderedDict") 
 308),(Value.type "collections.OrderedDict")⟩] 12),#[]⟩
noncomputable def e0 (P : Params) : List (Nat × Obj) := [(0, ob0 P), (1, ob1 P), (2, ob2 P), (3, ob3 P), (4, ob4 P), (5, ob5 P), (6, ob6 P), (7, ob7 P), (8, ob8 P), (9, ob9 P), (10, ob10 P), (11, oi11 P), (12, ob12 P), (13, ob13 P), (14, ob14 P), (15, ob15 P), (16, ob16 P), (17, ob17 P), (26, ob26 P), (27, ob27 P), (28, ob28 P), (29, oi29 P), (30, ob30 P), (31, ob31 P), (32, ob32 P), (33, ob33 P)]
noncomputable def e0f (P : Params) : List (Nat × Obj) := [(0, ob0 P), (1, ob1 P), (2, ob2 P), (3, ob3 P), (4, ob4 P), (5, ob5 P), (6, ob6 P), (7, ob7 P), (8, ob8 P), (9, ob9 P), (10, ob10 P), (11, ob11 P), (12, ob12 P), (13, ob13 P), (14, ob14 P), (15, ob15 P), (16, ob16 P), (17, ob17 P), (26, ob26 P), (27, ob27 P), (28, ob28 P), (29, ob29 P), (30, ob30 P), (31, ob31 P), (32, ob32 P), (33, ob33 P)]
noncomputable def e0g (P : Params) : List (Nat × Obj) := [(0, ob0 P), (1, ob1 P), (2, ob2 P), (3, ob3 P), (4, ob4 P), (5, ob5 P), (6, ob6 P), (7, ob7 P), (8, ob8 P), (9, ob9 P), (10, ob10 P), (11, ob11 P), (12, ob12 P), (13, ob13 P), (14, ob14 P), (15, ob15 P), (16, ob16 P), (17, ob17 P), (26, ob26 P), (27, ob27 P), (28, ob28 P), (29, ob29 P), (30, ob30 P), (31, ob31 P), (32, ob32 P), (33, ob33 P), (34, ob34 P), (35, ob35 P), (36, ob36 P), (37, ob37 P)]
theorem imp0 (w : World) (os : OsState) : (impT (stepT (denote treeTable) (opening pw) w) 4000 ⟨.nil, 0, {}, #[], {}, 1, os⟩ (start (opening pw)).2).map (seenG (e0 w.params)) = some (true, 34, {}, #[], {}, 318, os, (e0 w.params).map fun p => some p.2) := by
  rw [spE, dnE, ttE]
  kernel_rfl
theorem fence0 (w : World) (os : OsState) (g : Nat → Obj) : fenceModules? pw (stG (e0 w.params) 34 318 g os).abs = some (stG (e0f w.params) 34 318 g os).abs := by
  rw [feE]
  kernel_rfl
theorem open0 (w : World) : ∃ g os, fencedOpening treeTable pw w 12000 = some (stG (e0f w.params) 34 318 g os).abs := open_of (by decide) imp0 fence0 w
theorem size0 (w : World) (os : OsState) (g : Nat → Obj) : ((stG (e0f w.params) 34 318 g os).abs.heap.isNs mainGlobals && (stG (e0f w.params) 34 318 g os).abs.gens.size == 0, (stG (e0f w.params) 34 318 g os).abs.heap.objs.size, (stG (e0f w.params) 34 318 g os).abs.heap.nsMap mainGlobals "__annotations__") = (true, 34, some (Value.ref 6)) := by
  kernel_rfl
theorem pre0 (w : World) (os : OsState) (g : Nat → Obj) : topGo treeTable pw w 34 (some (Value.ref 6)) 12 (stG (e0f w.params) 34 318 g os).abs (topStub pw) = some ((stG (e0g w.params) 38 324 g os).abs, ⟨denote treeTable (.body (behindTheImports pw) env0), .body (behindTheImports pw) env0, pos0, [topFrame pos0]⟩) := by
  rw [tgE, ttE, dnE]
  kernel_rfl
theorem blk0 (w : World) (os : OsState) (g : Nat → Obj) : segRun treeTable pw w 34 (some (Value.ref 6)) 1 1 (stG (e0g w.params) 38 324 g os).abs (blockOf (behindTheImports pw) env0 (.body (behindTheImports pw) env0) pos0 [topFrame pos0]) = some (.next, (stG (e0g w.params) 38 324 g os).abs, .body (behindTheImports pw) env0, pos0) := by
  rw [srE]
  kernel_rfl
noncomputable abbrev hook : Hook := kHook heap_39 addrs (fun _ => by kernel_rfl)
noncomputable def bp3 : Params → Obj := fun P => ⟨(Value.type "dict"),none,(Data.dict #[⟨(PyData.keyHash P (Str.ofString "__name__")),(Value.str (Str.ofString "__name__") 165),(Value.str (Str.ofString 
 "io") 463)⟩,⟨(PyData.keyHash P (Str.ofString "__doc__")),(Value.str (Str.ofString "__doc__") 166),Value.none⟩,⟨(PyData.keyHash P (Str.ofString "__package__")),
 (Value.str (Str.ofString "__package__") 167),Value.none⟩,⟨(PyData.keyHash P (Str.ofString "__loader__")),(Value.str (Str.ofString "__loader__") 168),(Value.builtin 
 "__main__.__loader__#opaque")⟩,⟨(PyData.keyHash P (Str.ofString "__spec__")),(Value.str (Str.ofString "__spec__") 169),Value.none⟩,⟨(PyData.keyHash P 
 (Str.ofString "__annotations__")),(Value.str (Str.ofString "__annotations__") 170),(Value.ref 6)⟩,⟨(PyData.keyHash P (Str.ofString "__builtins__")),(Value.str 
 (Str.ofString "__builtins__") 171),(Value.ref 4)⟩,⟨(PyData.keyHash P (Str.ofString "__file__")),(Value.str (Str.ofString "__file__") 173),(Value.str (Str.ofString 
 "/claim/cut.py") 172)⟩,⟨(PyData.keyHash P (Str.ofString "__cached__")),(Value.str (Str.ofString "__cached__") 174),Value.none⟩,⟨(PyData.keyHash P (Str.ofString 
 "_sre")),(Value.str (Str.ofString "_sre") 275),(Value.ref 12)⟩,⟨(PyData.keyHash P (Str.ofString "deque")),(Value.str (Str.ofString "deque") 317),(Value.type 
 "collections.deque")⟩,⟨(PyData.keyHash P (Str.ofString "_wall")),(Value.str (Str.ofString "_wall") 330),(Value.ref 44)⟩,⟨(PyData.keyHash P (Str.ofString 
 "IPV4_RE")),(Value.str (Str.ofString "IPV4_RE") 362),(Value.ref 49)⟩,⟨(PyData.keyHash P (Str.ofString "liberal_is_HDN")),(Value.str (Str.ofString "liberal_is_HDN") 
 369),(Value.ref 56)⟩,⟨(PyData.keyHash P (Str.ofString "user_domain_match")),(Value.str (Str.ofString "user_domain_match") 378),(Value.ref 63)⟩,⟨(PyData.keyHash 
 P (Str.ofString "heappush")),(Value.str (Str.ofString "heappush") 388),(Value.ref 70)⟩,⟨(PyData.keyHash P (Str.ofString "heappop")),(Value.str (Str.ofString 
 "heappop") 397),(Value.ref 77)⟩,⟨(PyData.keyHash P (Str.ofString "_siftdown")),(Value.str (Str.ofString "_siftdown") 409),(Value.ref 84)⟩,⟨(PyData.keyHash 
 P (Str.ofString "_siftup")),(Value.str (Str.ofString "_siftup") 422),(Value.ref 91)⟩,⟨(PyData.keyHash P (Str.ofString "_twin_re_1")),(Value.str (Str.ofString 
 "_twin_re_1") 462),(Value.ref 96)⟩,⟨(PyData.keyHash P (Str.ofString "_whence")),(Value.str (Str.ofString "_whence") 472),(Value.ref 103)⟩,⟨(PyData.keyHash 
 P (Str.ofString "_index")),(Value.str (Str.ofString "_index") 480),(Value.ref 110)⟩,⟨(PyData.keyHash P (Str.ofString "UnsupportedOperation")),(Value.str 
 (Str.ofString "UnsupportedOperation") 502),(Value.ref 120)⟩,⟨(PyData.keyHash P (Str.ofString "IOBase")),(Value.str (Str.ofString "IOBase") 534),(Value.ref 
 140)⟩,⟨(PyData.keyHash P (Str.ofString "BufferedIOBase")),(Value.str (Str.ofString "BufferedIOBase") 552),(Value.ref 155)⟩,⟨(PyData.keyHash P (Str.ofString 
 "TextIOBase")),(Value.str (Str.ofString "TextIOBase") 570),(Value.ref 167)⟩] 26),#[]⟩
noncomputable def bp35 : Params → Obj := fun P => ⟨Value.none,none,(Data.fields (List.toArray ((Value.int 3 0) :: (Value.int 0 0) :: (Value.ref 43) :: (Value.int 8 0) :: (Value.int 0 0) :: (Value.ref 
 55) :: (Value.int 12 0) :: (Value.int 0 0) :: (Value.ref 62) :: (Value.int 26 0) :: (Value.int 0 0) :: (Value.ref 69) :: (Value.int 29 0) :: (Value.int 
 0 0) :: (Value.ref 76) :: (Value.int 37 0) :: (Value.int 0 0) :: (Value.ref 83) :: (Value.int 48 0) :: (Value.int 0 0) :: (Value.ref 90) :: (Value.int 
 64 0) :: (Value.int 0 0) :: (Value.ref 102) :: (Value.int 69 0) :: (Value.int 0 0) :: (Value.ref 109) :: (Value.int 76 0) :: (Value.int 0 0) :: (Value.ref 
 116) :: (Value.int 78 0) :: (Value.int 0 0) :: (Value.ref 129) :: (Value.int 85 0) :: (Value.int 0 0) :: (Value.ref 151) :: (Value.int 87 0) :: (Value.int 
 0 0) :: (Value.ref 163) :: []))),#[]⟩
noncomputable def bp155 : Params → Obj := fun P => ⟨(Value.type "type"),none,(Data.cls ⟨(Str.ofString "BufferedIOBase"),[(Value.ref 140)],[(Value.ref 155),(Value.ref 140),(Value.type "object")],154,(Str.ofString 
 "BufferedIOBase"),Bool.true,[],[],Bool.false,none,Bool.false⟩),#[(some (Value.ref 146)),none,(some (Value.str (Str.ofString "BufferedIOBase") 535)),(some 
 (Value.str (Str.ofString "BufferedIOBase") 543)),(some Value.none),(some (Value.bool Bool.true))]⟩
noncomputable def bp167 : Params → Obj := fun P => ⟨(Value.type "type"),none,(Data.cls ⟨(Str.ofString "TextIOBase"),[(Value.ref 140)],[(Value.ref 167),(Value.ref 140),(Value.type "object")],166,(Str.ofString 
 "TextIOBase"),Bool.true,[],[],Bool.false,none,Bool.false⟩),#[(some (Value.ref 158)),none,(some (Value.str (Str.ofString "TextIOBase") 553)),(some (Value.str 
 (Str.ofString "TextIOBase") 561)),(some Value.none),(some (Value.bool Bool.true))]⟩
noncomputable def bq3 : Params → Obj := fun P => ⟨(Value.type "dict"),none,(Data.dict #[⟨(PyData.keyHash P (Str.ofString "__name__")),(Value.str (Str.ofString "__name__") 165),(Value.str (Str.ofString 
 "io") 463)⟩,⟨(PyData.keyHash P (Str.ofString "__doc__")),(Value.str (Str.ofString "__doc__") 166),Value.none⟩,⟨(PyData.keyHash P (Str.ofString "__package__")),
 (Value.str (Str.ofString "__package__") 167),Value.none⟩,⟨(PyData.keyHash P (Str.ofString "__loader__")),(Value.str (Str.ofString "__loader__") 168),(Value.builtin 
 "__main__.__loader__#opaque")⟩,⟨(PyData.keyHash P (Str.ofString "__spec__")),(Value.str (Str.ofString "__spec__") 169),Value.none⟩,⟨(PyData.keyHash P 
 (Str.ofString "__annotations__")),(Value.str (Str.ofString "__annotations__") 170),(Value.ref 6)⟩,⟨(PyData.keyHash P (Str.ofString "__builtins__")),(Value.str 
 (Str.ofString "__builtins__") 171),(Value.ref 4)⟩,⟨(PyData.keyHash P (Str.ofString "__file__")),(Value.str (Str.ofString "__file__") 173),(Value.str (Str.ofString 
 "/claim/cut.py") 172)⟩,⟨(PyData.keyHash P (Str.ofString "__cached__")),(Value.str (Str.ofString "__cached__") 174),Value.none⟩,⟨(PyData.keyHash P (Str.ofString 
 "_sre")),(Value.str (Str.ofString "_sre") 275),(Value.ref 12)⟩,⟨(PyData.keyHash P (Str.ofString "deque")),(Value.str (Str.ofString "deque") 317),(Value.type 
 "collections.deque")⟩,⟨(PyData.keyHash P (Str.ofString "_wall")),(Value.str (Str.ofString "_wall") 330),(Value.ref 44)⟩,⟨(PyData.keyHash P (Str.ofString 
 "IPV4_RE")),(Value.str (Str.ofString "IPV4_RE") 362),(Value.ref 49)⟩,⟨(PyData.keyHash P (Str.ofString "liberal_is_HDN")),(Value.str (Str.ofString "liberal_is_HDN") 
 369),(Value.ref 56)⟩,⟨(PyData.keyHash P (Str.ofString "user_domain_match")),(Value.str (Str.ofString "user_domain_match") 378),(Value.ref 63)⟩,⟨(PyData.keyHash 
 P (Str.ofString "heappush")),(Value.str (Str.ofString "heappush") 388),(Value.ref 70)⟩,⟨(PyData.keyHash P (Str.ofString "heappop")),(Value.str (Str.ofString 
 "heappop") 397),(Value.ref 77)⟩,⟨(PyData.keyHash P (Str.ofString "_siftdown")),(Value.str (Str.ofString "_siftdown") 409),(Value.ref 84)⟩,⟨(PyData.keyHash 
 P (Str.ofString "_siftup")),(Value.str (Str.ofString "_siftup") 422),(Value.ref 91)⟩,⟨(PyData.keyHash P (Str.ofString "_twin_re_1")),(Value.str (Str.ofString 
 "_twin_re_1") 462),(Value.ref 96)⟩,⟨(PyData.keyHash P (Str.ofString "_whence")),(Value.str (Str.ofString "_whence") 472),(Value.ref 103)⟩,⟨(PyData.keyHash 
 P (Str.ofString "_index")),(Value.str (Str.ofString "_index") 480),(Value.ref 110)⟩,⟨(PyData.keyHash P (Str.ofString "UnsupportedOperation")),(Value.str 
 (Str.ofString "UnsupportedOperation") 502),(Value.ref 120)⟩,⟨(PyData.keyHash P (Str.ofString "IOBase")),(Value.str (Str.ofString "IOBase") 534),(Value.ref 
 140)⟩,⟨(PyData.keyHash P (Str.ofString "BufferedIOBase")),(Value.str (Str.ofString "BufferedIOBase") 552),(Value.ref 155)⟩,⟨(PyData.keyHash P (Str.ofString 
 "TextIOBase")),(Value.str (Str.ofString "TextIOBase") 570),(Value.ref 167)⟩,⟨(PyData.keyHash P (Str.ofString "BytesIO")),(Value.str (Str.ofString "BytesIO") 
 832),(Value.ref 397)⟩] 27),#[]⟩
noncomputable def bq35 : Params → Obj := fun P => ⟨Value.none,none,(Data.fields (List.toArray ((Value.int 3 0) :: (Value.int 0 0) :: (Value.ref 43) :: (Value.int 8 0) :: (Value.int 0 0) :: (Value.ref 
 55) :: (Value.int 12 0) :: (Value.int 0 0) :: (Value.ref 62) :: (Value.int 26 0) :: (Value.int 0 0) :: (Value.ref 69) :: (Value.int 29 0) :: (Value.int 
 0 0) :: (Value.ref 76) :: (Value.int 37 0) :: (Value.int 0 0) :: (Value.ref 83) :: (Value.int 48 0) :: (Value.int 0 0) :: (Value.ref 90) :: (Value.int 
 64 0) :: (Value.int 0 0) :: (Value.ref 102) :: (Value.int 69 0) :: (Value.int 0 0) :: (Value.ref 109) :: (Value.int 76 0) :: (Value.int 0 0) :: (Value.ref 
 116) :: (Value.int 78 0) :: (Value.int 0 0) :: (Value.ref 129) :: (Value.int 85 0) :: (Value.int 0 0) :: (Value.ref 151) :: (Value.int 87 0) :: (Value.int 
 0 0) :: (Value.ref 163) :: (Value.int 89 0) :: (Value.int 0 0) :: (Value.ref 175) :: []))),#[]⟩
noncomputable def br3 : Params → Obj := fun P => ⟨(Value.type "dict"),none,(Data.dict #[⟨(PyData.keyHash P (Str.ofString "__name__")),(Value.str (Str.ofString "__name__") 165),(Value.str (Str.ofString 
 "io") 463)⟩,⟨(PyData.keyHash P (Str.ofString "__doc__")),(Value.str (Str.ofString "__doc__") 166),Value.none⟩,⟨(PyData.keyHash P (Str.ofString "__package__")),
 (Value.str (Str.ofString "__package__") 167),Value.none⟩,⟨(PyData.keyHash P (Str.ofString "__loader__")),(Value.str (Str.ofString "__loader__") 168),(Value.builtin 
 "__main__.__loader__#opaque")⟩,⟨(PyData.keyHash P (Str.ofString "__spec__")),(Value.str (Str.ofString "__spec__") 169),Value.none⟩,⟨(PyData.keyHash P 
 (Str.ofString "__annotations__")),(Value.str (Str.ofString "__annotations__") 170),(Value.ref 6)⟩,⟨(PyData.keyHash P (Str.ofString "__builtins__")),(Value.str 
 (Str.ofString "__builtins__") 171),(Value.ref 4)⟩,⟨(PyData.keyHash P (Str.ofString "__file__")),(Value.str (Str.ofString "__file__") 173),(Value.str (Str.ofString 
 "/claim/cut.py") 172)⟩,⟨(PyData.keyHash P (Str.ofString "__cached__")),(Value.str (Str.ofString "__cached__") 174),Value.none⟩,⟨(PyData.keyHash P (Str.ofString 
 "_sre")),(Value.str (Str.ofString "_sre") 275),(Value.ref 12)⟩,⟨(PyData.keyHash P (Str.ofString "deque")),(Value.str (Str.ofString "deque") 317),(Value.type 
 "collections.deque")⟩,⟨(PyData.keyHash P (Str.ofString "_wall")),(Value.str (Str.ofString "_wall") 330),(Value.ref 44)⟩,⟨(PyData.keyHash P (Str.ofString 
 "IPV4_RE")),(Value.str (Str.ofString "IPV4_RE") 362),(Value.ref 49)⟩,⟨(PyData.keyHash P (Str.ofString "liberal_is_HDN")),(Value.str (Str.ofString "liberal_is_HDN") 
 369),(Value.ref 56)⟩,⟨(PyData.keyHash P (Str.ofString "user_domain_match")),(Value.str (Str.ofString "user_domain_match") 378),(Value.ref 63)⟩,⟨(PyData.keyHash 
 P (Str.ofString "heappush")),(Value.str (Str.ofString "heappush") 388),(Value.ref 70)⟩,⟨(PyData.keyHash P (Str.ofString "heappop")),(Value.str (Str.ofString 
 "heappop") 397),(Value.ref 77)⟩,⟨(PyData.keyHash P (Str.ofString "_siftdown")),(Value.str (Str.ofString "_siftdown") 409),(Value.ref 84)⟩,⟨(PyData.keyHash 
 P (Str.ofString "_siftup")),(Value.str (Str.ofString "_siftup") 422),(Value.ref 91)⟩,⟨(PyData.keyHash P (Str.ofString "_twin_re_1")),(Value.str (Str.ofString 
 "_twin_re_1") 462),(Value.ref 96)⟩,⟨(PyData.keyHash P (Str.ofString "_whence")),(Value.str (Str.ofString "_whence") 472),(Value.ref 103)⟩,⟨(PyData.keyHash 
 P (Str.ofString "_index")),(Value.str (Str.ofString "_index") 480),(Value.ref 110)⟩,⟨(PyData.keyHash P (Str.ofString "UnsupportedOperation")),(Value.str 
 (Str.ofString "UnsupportedOperation") 502),(Value.ref 120)⟩,⟨(PyData.keyHash P (Str.ofString "IOBase")),(Value.str (Str.ofString "IOBase") 534),(Value.ref 
 140)⟩,⟨(PyData.keyHash P (Str.ofString "BufferedIOBase")),(Value.str (Str.ofString "BufferedIOBase") 552),(Value.ref 155)⟩,⟨(PyData.keyHash P (Str.ofString 
 "TextIOBase")),(Value.str (Str.ofString "TextIOBase") 570),(Value.ref 167)⟩,⟨(PyData.keyHash P (Str.ofString "BytesIO")),(Value.str (Str.ofString "BytesIO") 
 832),(Value.ref 397)⟩,⟨(PyData.keyHash P (Str.ofString "StringIO")),(Value.str (Str.ofString "StringIO") 1119),(Value.ref 644)⟩] 28),#[]⟩
noncomputable def br35 : Params → Obj := fun P => ⟨Value.none,none,(Data.fields (List.toArray ((Value.int 3 0) :: (Value.int 0 0) :: (Value.ref 43) :: (Value.int 8 0) :: (Value.int 0 0) :: (Value.ref 
 55) :: (Value.int 12 0) :: (Value.int 0 0) :: (Value.ref 62) :: (Value.int 26 0) :: (Value.int 0 0) :: (Value.ref 69) :: (Value.int 29 0) :: (Value.int 
 0 0) :: (Value.ref 76) :: (Value.int 37 0) :: (Value.int 0 0) :: (Value.ref 83) :: (Value.int 48 0) :: (Value.int 0 0) :: (Value.ref 90) :: (Value.int 
 64 0) :: (Value.int 0 0) :: (Value.ref 102) :: (Value.int 69 0) :: (Value.int 0 0) :: (Value.ref 109) :: (Value.int 76 0) :: (Value.int 0 0) :: (Value.ref 
 116) :: (Value.int 78 0) :: (Value.int 0 0) :: (Value.ref 129) :: (Value.int 85 0) :: (Value.int 0 0) :: (Value.ref 151) :: (Value.int 87 0) :: (Value.int 
 0 0) :: (Value.ref 163) :: (Value.int 89 0) :: (Value.int 0 0) :: (Value.ref 175) :: (Value.int 259 0) :: (Value.int 0 0) :: (Value.ref 405) :: []))),
 #[]⟩
noncomputable def obs0 (P : Params) : List (Nat × Obj) := [(0, ob0 P), (1, ob1 P), (4, ob4 P), (5, ob5 P), (6, ob6 P), (7, ob7 P), (8, ob8 P), (9, ob9 P), (10, ob10 P), (11, ob11 P), (12, ob12 P), (13, ob13 P), (14, ob14 P), (15, ob15 P), (16, ob16 P), (17, ob17 P), (26, ob26 P), (27, ob27 P), (28, ob28 P), (29, ob29 P), (30, ob30 P), (31, ob31 P), (32, ob32 P), (33, ob33 P), (34, ob34 P), (36, ob36 P), (37, ob37 P)]
/-- the written objects below an address, but for some -/
noncomputable def kB (P : Params) (n : Nat) (but : List Nat) : List (Nat × Obj) := (heap_39 P).filter fun p => Nat.blt p.1 n && but.all fun b => !Nat.beq p.1 b
noncomputable def e1 (P : Params) : List (Nat × Obj) := (3, bp3 P) :: (35, bp35 P) :: (155, bp155 P) :: (167, bp167 P) :: (kB P 170 [3, 35, 155, 167] ++ obs0 P)
noncomputable def e2 (P : Params) : List (Nat × Obj) := (3, bq3 P) :: (35, bq35 P) :: (167, bp167 P) :: (kB P 400 [3, 35, 167] ++ obs0 P)
noncomputable def e3 (P : Params) : List (Nat × Obj) := (3, br3 P) :: (35, br35 P) :: (kB P 647 [3, 35] ++ obs0 P)
noncomputable def e4 (P : Params) : List (Nat × Obj) := (793, ⟨Value.none, none, Data.fields #[], #[]⟩) :: (818, ⟨Value.none, none, Data.fields #[], #[]⟩) :: (heap_39 P ++ obs0 P)
noncomputable abbrev ann0 : Option Value := some (Value.ref 6)
noncomputable abbrev l1 : List Stmt := (behindTheImports pw).take 18
noncomputable abbrev l2 : List Stmt := ((behindTheImports pw).drop 18).take 1
noncomputable abbrev l3 : List Stmt := (((behindTheImports pw).drop 18).drop 1).take 1
noncomputable abbrev l4 : List Stmt := (((behindTheImports pw).drop 18).drop 1).drop 1
theorem l_is : behindTheImports pw = l1 ++ (l2 ++ (l3 ++ (l4 ++ []))) := by
  unfold l1 l2 l3 l4
  rw [List.append_nil, List.take_append_drop, List.take_append_drop, List.take_append_drop]
theorem seg1 (w : World) (os : OsState) (g : Nat → Obj) : (segRunT treeTable pw w 34 ann0 1 2000 (stG (e0g w.params) 38 324 g os) (piecesOf l1 env0 cd0 pos0 [topFrame pos0])).map (fun r => (r.1, r.2.2.1, r.2.2.2, seenG (e1 w.params) r.2.1)) = some (.next, cd0, ⟨87, 0, 88, 21⟩, true, 170, {}, #[], {}, 571, os, (e1 w.params).map fun p => some p.2) := by
  rw [stE, ttE]
  kernel_rfl
theorem seg2 (w : World) (os : OsState) (g : Nat → Obj) : (segRunT treeTable pw w 34 ann0 1 2000 (stG (e1 w.params) 170 571 g os) (piecesOf l2 env0 cd0 ⟨87, 0, 88, 21⟩ [topFrame pos0])).map (fun r => (r.1, r.2.2.1, r.2.2.2, seenG (e2 w.params) r.2.1)) = some (.next, cd0, ⟨89, 0, 258, 17⟩, true, 400, {}, #[], {}, 833, os, (e2 w.params).map fun p => some p.2) := by
  rw [stE, ttE]
  kernel_rfl
theorem seg3 (w : World) (os : OsState) (g : Nat → Obj) : (segRunT treeTable pw w 34 ann0 1 2000 (stG (e2 w.params) 400 833 g os) (piecesOf l3 env0 cd0 ⟨89, 0, 258, 17⟩ [topFrame pos0])).map (fun r => (r.1, r.2.2.1, r.2.2.2, seenG (e3 w.params) r.2.1)) = some (.next, cd0, ⟨259, 0, 463, 17⟩, true, 647, {}, #[], {}, 1120, os, (e3 w.params).map fun p => some p.2) := by
  rw [stE, ttE]
  kernel_rfl
noncomputable abbrev xt0 : Shared → Bool := fun s => xlAt view_39 [] s && recOk (RowW.records Challenge.rw_of0095_01.row.toRowW) s
theorem seg4 (w : World) (os : OsState) (g : Nat → Obj) : (segRunT treeTable pw w 34 ann0 1 2000 (stG (e3 w.params) 647 1120 g os) (piecesOf l4 env0 cd0 ⟨259, 0, 463, 17⟩ [topFrame pos0])).map (fun r => (r.1, r.2.2.1, r.2.2.2, seenG (e4 w.params) r.2.1)) = some (.next, cd0, ⟨810, 0, 839, 15⟩, true, 822, {}, #[], {}, 1367, os, (e4 w.params).map fun p => some p.2) := by
  rw [stE, ttE]
  kernel_rfl
theorem look0 (w : World) (os : OsState) (g g' : Nat → Obj) : asked pw view_39 loose xt0 true hook.obs (stG (e0f w.params) 34 318 g' os).abs.heap (stG (e4 w.params) 822 1367 g os).abs = (true, openGood view_39 loose, hook.val w) := by
  unfold asked
  rw [osE]
  kernel_rfl
theorem seg5 (w : World) (os : OsState) (g g' : Nat → Obj) : (segRunT treeTable pw w 34 ann0 1 1 (stG (e4 w.params) 822 1367 g os) (piecesOf [] env0 cd0 ⟨810, 0, 839, 15⟩ [topFrame pos0])).map (fun r => (r.1, r.2.2.1, r.2.2.2, asked pw view_39 loose xt0 true hook.obs (stG (e0f w.params) 34 318 g' os).abs.heap r.2.1.abs)) = some (.next, cd0, ⟨810, 0, 839, 15⟩, true, openGood view_39 loose, hook.val w) := by
  rw [← look0 w os g g']
  rfl
theorem run0 (w : World) : ∃ s₀ s, fencedOpening treeTable pw w 12000 = some s₀ ∧ (s₀.heap.isNs mainGlobals && s₀.gens.size == 0, s₀.heap.objs.size, s₀.heap.nsMap mainGlobals "__annotations__") = (true, 34, ann0) ∧
    topRun treeTable pw w 34 ann0 (12 + (1 + (2000 + (2000 + (2000 + (2000 + (1 + 2))))))) s₀ (topStub pw) = some s ∧ asked pw view_39 loose xt0 true hook.obs s₀.heap s = (true, openGood view_39 loose, hook.val w) := by
  obtain ⟨g0, os, h0⟩ := open0 w
  obtain ⟨s, h1, h2⟩ := cut_app (seg1 w os g0) fun g => cut_app (seg2 w os g) fun g => cut_app (seg3 w os g) fun g => cut_app (seg4 w os g) fun g => cut_end (f := asked pw view_39 loose xt0 true hook.obs (stG (e0f w.params) 34 318 g0 os).abs.heap) (seg5 w os g g0)
  rw [← l_is] at h1
  exact ⟨_, s, h0, size0 w os g0, go_top (pre0 w os g0) (piece_block (blk0 w os g0) h1), h2⟩
theorem said0 : OpenLaw.wellSaid PySem.Challenge.rw_of0095_01 = true := by
  unfold OpenLaw.wellSaid OpenRow.wellSaid OpenRow.partSaid looksOpen
  simp only [Bool.and_eq_true]
  and_intros
  all_goals ((try rw [nrE]); (try rw [nmE]); (try rw [nvE]); (try rw [sfE]); (try rw [alE]); (try rw [roE]))
  all_goals decide +kernel
theorem left0 : LeftO pw view_39 loose xt0 hook.obs hook.val 12000 true :=
  left_of_run (by decide) run0
end Mine.hd

end
local macro_rules | `(tactic| k_enter) => `(tactic| (refine' code_def ?k1 ?k2 ?k3 ?k4 ?k5 ?kA ?kF ?kK ?k6 ?k7 ?k8 ?k9 ?kB ?_ ?c2 ?c3 ?c4 ?c5; (case kA => exact rfl); (case kF => exact rfl); (case kK => assumption); (case k1 => k_asm); (case k2 => k_asm); (case k3 => k_asm); (case k4 => k_asm); (case k5 => k_asm); (case k6 => k_is); (case k7 => k_is); (case k8 => k_room); (case k9 => first | exact BindsTo.of_eq rfl | exact binds_K (by k_in) rfl (by k_is) rfl rfl rfl); (case c5 => decide); (case kB => exact locs rfl); (case c2 => exact rfl); (case c3 => exact rfl); (case c4 => exact rfl); k_whole; intro g' L' h' FG' F' N' B' X' T'; (try dsimp only); (try k_lift B'); (try k_fold)))
local macro_rules | `(tactic| k_room) => `(tactic| (simp only [depth_mark, depth_under_make, depth_under_kw, depth_in1, depth_deeper, depth_caller]; omega))
section
open PySem PySem.W PyProof.Rows PySem.Calls
set_option maxRecDepth 100000
namespace Mine
noncomputable abbrev kK (w : World) : Frag := Mine.hd.heap_39 w.params
noncomputable abbrev lo : List Str := looseW Mine.hd.view_39
      [Str.ofString "IPV4_RE", Str.ofString "_twin_re_1", Str.ofString "UnsupportedOperation", Str.ofString "IOBase",
        Str.ofString "BufferedIOBase", Str.ofString "TextIOBase", Str.ofString "BytesIO", Str.ofString "StringIO",
        Str.ofString "join_path", Str.ofString "shlex", Str.ofString "split", Str.ofString "join_shlex",
        Str.ofString "_find_unsafe"]
end Mine

end
section
open PySem PySem.W PyProof.Rows PySem.Calls PySem.W.X
set_option maxRecDepth 100000
namespace Mine

noncomputable def popA (go : List (Result → Sem Fin) → Sem Fin → Option (Result × List Obj × Nat × List (Addr × Addr))) (r : Result) (own : List Obj) (i : Nat) (asks : List (Addr × Addr)) : List (Result → Sem Fin) → Option (Result × List Obj × Nat × List (Addr × Addr))
  | [] => some (r, own, i, asks)
  | k :: κ => go κ (k r)

/-- a run of a built-in's tree over the written part K: own objects lie from n on; «tape» tells of each load or store whether it is of the top (0) or of the own object j (j + 1) -/
noncomputable def simA (S : Setting) (K : Frag) (giv : List (Addr × Obj)) (n t : Nat) (den : Code → Sem Fin) : Nat → List (Result → Sem Fin) → Sem Fin → List Obj → Nat → List Nat → List (Addr × Addr) → Option (Result × List Obj × Nat × List (Addr × Addr))
  | 0, _, _, _, _, _, _ => none
  | f + 1, κ, tr, own, i, tape, asks => match tr with
    | .pure fin => match fin with
      | .done fl => popA (fun κ tr => simA S K giv n t den f κ tr own i tape asks) (.ok fl) own i asks κ
      | .again c => match c.quiet with
        | true => simA S K giv n t den f κ (den c) own i tape asks
        | false => none
    | .raise e => popA (fun κ tr => simA S K giv n t den f κ tr own i tape asks) (.error e) own i asks κ
    | .rule _ k => simA S K giv n t den f κ (k ()) own i tape asks
    | .at _ k => simA S K giv n t den f κ (k ()) own i tape asks
    | .point _ k => simA S K giv n t den f κ (k ()) own i tape asks
    | .ask k => simA S K giv n t den f κ (k S) own i tape asks
    | .load a _ k => match tape with
      | [] => none
      | j :: tape => match j with
        | 0 => match K.lookup a with
          | some o => simA S K giv n t den f κ (k o) own i tape asks
          | none => none
        | j + 1 => match giv[j]? with
          | some p => simA S K giv n t den f κ (k p.2) own i tape ((a, p.1) :: asks)
          | none => match own[j - giv.length]? with
            | some o => simA S K giv n t den f κ (k o) own i tape ((a, n + (j - giv.length)) :: asks)
            | none => none
    | .alloc o k => match o.isFreed with
      | true => none
      | false => simA S K giv n t den f κ (k (n + own.length)) (own ++ [o]) i tape asks
    | .update a _ g k => match tape with
      | [] => none
      | j :: tape => match j with
        | 0 => none
        | j + 1 => match own[j - giv.length]? with
          | some o => match (g o).isFreed with
            | true => none
            | false => simA S K giv n t den f κ (k ()) (own.set (j - giv.length) (g o)) i tape ((a, n + (j - giv.length)) :: asks)
          | none => none
    | .fresh k => simA S K giv n t den f κ (k (t + i)) own (i + 1) tape asks
    | .call c hd _ _ k => match okMark hd with
      | true => simA S K giv n t den f (k :: κ) (den c) own i tape asks
      | false => none
    | _ => none

structure RepA (h₀ h : Heap) (n : Nat) (own : List Obj) : Prop where
  size : h.objs.size = n + own.length
  keep : ∀ b o, h₀.get? b = some o → h.get? b = some o
  own : ∀ (j : Nat) (o : Obj), own[j]? = some o → h.get? (n + j) = some o


/-- what a stack of continuations makes of an end -/
noncomputable def MeansK (prog : Program) (w : World) (R : Result → Shared → Prop) : List (Result → Sem Fin) → Result → Shared → Prop
  | [], r, s => R r s
  | k :: κ, r, s => ∀ A c, wpOwn (model prog w) A c (k r) (postC prog w A (MeansK prog w R κ)) (postE (MeansK prog w R κ)) s

theorem RepA.start {h : Heap} : RepA h h h.objs.size [] := ⟨by simp, fun _ _ e => e, fun j o e => by simp at e⟩
theorem RepA.push {h₀ h : Heap} {n : Nat} {own : List Obj} (D : RepA h₀ h n own) {o : Obj} (hf : o.isFreed = false) : RepA h₀ (h.push o) n (own ++ [o]) := by
  refine ⟨by rw [Heap.size_push, D.size]; simp; omega, fun b o' e => Heap.get?_push_of_some _ (D.keep b o' e), fun j o' e => ?_⟩
  rw [List.getElem?_append] at e
  split at e
  · exact Heap.get?_push_of_some _ (D.own j o' e)
  · rename_i hj
    have hj' : j - own.length = 0 := by
      cases q : j - own.length with
      | zero => rfl
      | succ k => rw [q] at e; simp at e
    rw [hj'] at e
    simp at e
    subst e
    have : n + j = h.objs.size := by rw [D.size]; omega
    rw [this]; exact Heap.get?_push_size _ hf
theorem RepA.upd {h₀ h : Heap} {n : Nat} {own : List Obj} (D : RepA h₀ h n own) (hn : h₀.objs.size = n) {j : Nat} {o : Obj} {g : Obj → Obj} (e : own[j]? = some o) (hf : (g o).isFreed = false) : RepA h₀ (h.update (n + j) g) n (own.set j (g o)) := by
  have hs : Heap.SameBut (n + j) h (h.update (n + j) g) := Heap.SameBut.update ..
  have hj : j < own.length := by
    rcases Nat.lt_or_ge j own.length with q | q
    · exact q
    · rw [List.getElem?_eq_none q] at e; cases e
  refine ⟨by rw [hs.1, D.size]; simp, fun b o' e' => ?_, fun i o' e' => ?_⟩
  · have : b < n := hn ▸ Heap.lt_size e'
    exact (hs.2 b (Nat.ne_of_lt (Nat.lt_of_lt_of_le this (Nat.le_add_right ..)))).trans (D.keep b o' e')
  · rw [List.getElem?_set] at e'
    split at e'
    · rename_i q
      subst q
      simp [hj] at e'
      subst e'
      exact Heap.get?_update_self _ (D.own j o e) hf
    · rename_i q
      exact (hs.2 _ (fun z => q (Nat.add_left_cancel z).symm)).trans (D.own i o' e')

theorem simA_sound {prog : Program} {w : World} {K : Frag} {giv : List (Addr × Obj)} {h₀ : Heap} {n t : Nat} {g : Array GenState} {d : Drawn} {os : OsState} {R : Result → Shared → Prop} (X : K.In h₀) (Y : ∀ p ∈ giv, h₀.get? p.1 = some p.2) (hn : h₀.objs.size = n) {r : Result} {own' : List Obj} {i' : Nat} {asks' : List (Addr × Addr)}
    (fin : ∀ h, RepA h₀ h n own' → R r ⟨h, g, d, t + i', os⟩) (ha : ∀ p ∈ asks', p.1 = p.2) :
    ∀ (f : Nat) (κ : List (Result → Sem Fin)) (tr : Sem Fin) (own : List Obj) (i : Nat) (tape : List Nat) (asks : List (Addr × Addr)),
      simA ⟨prog, w.params⟩ K giv n t (denote table) f κ tr own i tape asks = some (r, own', i', asks') →
      (∀ p ∈ asks, p.1 = p.2) ∧ ∀ h, RepA h₀ h n own → ∀ A c, wpOwn (model prog w) A c tr (postC prog w A (MeansK prog w R κ)) (postE (MeansK prog w R κ)) ⟨h, g, d, t + i, os⟩ := by
  intro f
  induction f with
  | zero => intro κ tr own i tape asks e; simp [simA] at e
  | succ f ih =>
    intro κ tr own i tape asks e
    have back : ∀ (r₁ : Result), popA (fun κ tr => simA ⟨prog, w.params⟩ K giv n t (denote table) f κ tr own i tape asks) r₁ own i asks κ = some (r, own', i', asks') →
        (∀ p ∈ asks, p.1 = p.2) ∧ ∀ h, RepA h₀ h n own → MeansK prog w R κ r₁ ⟨h, g, d, t + i, os⟩ := by
      intro r₁ q
      cases κ with
      | nil =>
        simp only [popA, Option.some.injEq, Prod.mk.injEq] at q
        obtain ⟨rfl, rfl, rfl, rfl⟩ := q
        exact ⟨ha, fun h D => fin h D⟩
      | cons k κ =>
        have z := ih κ (k r₁) own i tape asks q
        exact ⟨z.1, fun h D A c => z.2 h D A c⟩
    cases tr with
    | pure fin' =>
      cases fin' with
      | done fl =>
        have z := back (.ok fl) e
        exact ⟨z.1, fun h D A c => y_pure _ _ _ _ _ _ _ _ _ (y_done _ _ _ _ _ _ (z.2 h D))⟩
      | again c' =>
        cases q : c'.quiet with
        | false => simp only [simA, q] at e; cases e
        | true =>
          simp only [simA, q] at e
          have z := ih _ _ _ _ _ _ e
          exact ⟨z.1, fun h D A c => y_pure _ _ _ _ _ _ _ _ _ (y_again _ _ _ _ _ _ q (y_code _ _ _ _ _ _ (z.2 h D A c')))⟩
    | raise x =>
      have z := back (.error x) e
      exact ⟨z.1, fun h D A c => y_raise _ _ _ _ _ _ _ _ _ (y_err _ _ _ (z.2 h D))⟩
    | rule _ k =>
      have z := ih _ (k ()) _ _ _ _ e
      exact ⟨z.1, fun h D A c => y_skim _ _ _ _ _ _ _ _ _ 1 (z.2 h D A c)⟩
    | «at» _ k =>
      have z := ih _ (k ()) _ _ _ _ e
      exact ⟨z.1, fun h D A c => y_skim _ _ _ _ _ _ _ _ _ 1 (z.2 h D A c)⟩
    | point _ k =>
      have z := ih _ (k ()) _ _ _ _ e
      exact ⟨z.1, fun h D A c => y_skim _ _ _ _ _ _ _ _ _ 1 (z.2 h D A c)⟩
    | ask k =>
      have z := ih _ (k _) _ _ _ _ e
      exact ⟨z.1, fun h D A c => y_skim _ _ _ _ _ _ _ _ _ 1 (z.2 h D A c)⟩
    | load a q k =>
      cases tape with
      | nil => simp only [simA] at e; cases e
      | cons j tape =>
        cases j with
        | zero =>
          simp only [simA] at e
          split at e
          · rename_i o ho
            have z := ih _ _ _ _ _ _ e
            exact ⟨z.1, fun h D A c => y_load _ _ _ _ _ _ _ _ _ _ _ _ _ _ _ _ (D.keep _ _ (X _ _ ho)) (z.2 h D A c)⟩
          · cases e
        | succ j =>
          simp only [simA] at e
          split at e
          · rename_i o ho
            have z := ih _ _ _ _ _ _ e
            have ea : a = o.1 := z.1 (a, o.1) (.head _)
            have hm : o ∈ giv := List.mem_of_getElem? ho
            exact ⟨fun p hp => z.1 p (.tail _ hp), fun h D A c => y_load _ _ _ _ _ _ _ _ _ _ _ _ _ _ _ _ (ea ▸ D.keep _ _ (Y _ hm)) (z.2 h D A c)⟩
          · split at e
            · rename_i o ho
              have z := ih _ _ _ _ _ _ e
              have ea : a = n + (j - giv.length) := z.1 (a, n + (j - giv.length)) (.head _)
              exact ⟨fun p hp => z.1 p (.tail _ hp), fun h D A c => y_load _ _ _ _ _ _ _ _ _ _ _ _ _ _ _ _ (ea ▸ D.own _ _ ho) (z.2 h D A c)⟩
            · cases e
    | alloc o k =>
      simp only [simA] at e
      split at e
      · cases e
      · rename_i hf
        have z := ih _ _ _ _ _ _ e
        refine ⟨z.1, fun h D A c => ?_⟩
        refine wpOwn_bind (m := alloc o) (f := k) (wpOwn_of_wpAny (wpAny_alloc ?_))
        have y := z.2 _ (D.push hf) A c
        rw [← D.size] at y
        exact y
    | update a q gf k =>
      cases tape with
      | nil => simp only [simA] at e; cases e
      | cons j tape =>
        cases j with
        | zero => simp only [simA] at e; cases e
        | succ j =>
          simp only [simA] at e
          split at e
          · rename_i o ho
            split at e
            · cases e
            · rename_i hf
              have z := ih _ _ _ _ _ _ e
              have ea : a = n + (j - giv.length) := z.1 (a, n + (j - giv.length)) (.head _)
              refine ⟨fun p hp => z.1 p (.tail _ hp), fun h D A c => ?_⟩
              subst ea
              refine wpOwn_bind (m := updatePart (n + (j - giv.length)) q gf) (f := k) (wpOwn_of_wpAny (wpAny_updatePart (D.own _ _ ho) ?_))
              exact z.2 _ (D.upd hn ho hf) A c
          · cases e
    | fresh k =>
      have z := ih _ _ _ _ _ _ e
      exact ⟨z.1, fun h D A c => y_fresh _ _ _ _ _ _ _ _ _ _ _ _ _ (z.2 h D A c)⟩
    | call c' hd gd l k =>
      simp only [simA] at e
      split at e
      · rename_i hm
        have z := ih _ _ _ _ _ _ e
        refine ⟨z.1, fun h D A c => ?_⟩
        have hnb : hd ≠ some byPass := by
          intro q
          subst q
          simp [okMark] at hm
        refine y_call _ _ _ _ _ _ _ _ _ _ _ _ _ hnb ?_
        refine codeAny_mono (y_code _ _ _ _ _ _ (z.2 h D _ c')) fun r₁ s₁ q => ?_
        exact q A c
      · cases e
    | _ => simp only [simA] at e; cases e
end Mine

end
section
open PySem PySem.W PyProof.Rows PySem.Calls PySem.W.X
set_option maxRecDepth 100000
namespace Mine
/-- the interpreter's twin, made for the kernel -/
noncomputable abbrev denZ : Code → Sem Fin := PySem.W.ZFast.zw11892475500146522536 PySem.W.ZFast.tableZ
theorem denZ_eq : denote table = denZ := by rw [PySem.W.ZFast.ze11892475500146522536, PySem.W.ZFast.tableZ_eq]

theorem code_A {prog : Program} {w : World} {K : Frag} {giv : List (Addr × Obj)} {A : Around} {c : Code} {R : Result → Shared → Prop} {s : Shared} (f : Nat) (tape : List Nat) {r : Nat → Nat → Result} {own : Nat → Nat → List Obj} {i : Nat} {asks : Nat → Nat → List (Addr × Addr)}
    (X : K.In s.heap) (Y : ∀ p ∈ giv, s.heap.get? p.1 = some p.2) (e : ∀ n t, simA ⟨prog, w.params⟩ K giv n t denZ f [] (denZ c) [] 0 tape [] = some (r n t, own n t, i, asks n t)) (ha : ∀ n t, ∀ p ∈ asks n t, p.1 = p.2)
    (fin : ∀ h, RepA s.heap h s.heap.objs.size (own s.heap.objs.size s.toks) → R (r s.heap.objs.size s.toks) { s with heap := h, toks := s.toks + i }) : codeAny (model prog w) A c R s := by
  obtain ⟨h₀, g, d, t, os⟩ := s
  have z := simA_sound (prog := prog) (w := w) (g := g) (d := d) (os := os) (t := t) (R := R) X Y rfl (r := r h₀.objs.size t) (own' := own h₀.objs.size t) (i' := i) (asks' := asks h₀.objs.size t) (fun h D => fin h D) (ha _ _) f [] (denote table c) [] 0 tape []
    (by have := e h₀.objs.size t; rw [← denZ_eq] at this; exact this)
  exact y_code _ _ _ _ _ _ (z.2 h₀ RepA.start A c)

theorem call_A {prog : Program} {w : World} {K : Frag} {giv : List (Addr × Obj)} {A : Around} {fv : Value} {pos : List Value} {Q E : Value → Shared → Prop} {s : Shared} (f : Nat) (tape : List Nat) {v : Nat → Nat → Value} {own : Nat → Nat → List Obj} {i : Nat} {asks : Nat → Nat → List (Addr × Addr)}
    (X : K.In s.heap) (Y : ∀ p ∈ giv, s.heap.get? p.1 = some p.2) (e : ∀ n t, simA ⟨prog, w.params⟩ K giv n t denZ f [] (denZ (.call fv ⟨pos, []⟩)) [] 0 tape [] = some (.ok (.ret (v n t)), own n t, i, asks n t)) (ha : ∀ n t, ∀ p ∈ asks n t, p.1 = p.2)
    (fin : ∀ h, RepA s.heap h s.heap.objs.size (own s.heap.objs.size s.toks) → Q (v s.heap.objs.size s.toks) { s with heap := h, toks := s.toks + i }) : wpAny (model prog w) A (call fv pos) Q E s :=
  wpAny_call (code_A f tape X Y e ha fun h D => fin h D)

/-- a tree that is no code of its own -/
theorem any_A {α : Type} {prog : Program} {w : World} {K : Frag} {giv : List (Addr × Obj)} {A : Around} {tr : Sem α} {Q : α → Shared → Prop} {E : Value → Shared → Prop} {s : Shared} (enc : α → Value) (f : Nat) (tape : List Nat) {v : Nat → Nat → α} {own : Nat → Nat → List Obj} {i : Nat} {asks : Nat → Nat → List (Addr × Addr)} {trZ : Sem α}
    (hz : tr = trZ) (inj : ∀ a b, enc a = enc b → a = b)
    (X : K.In s.heap) (Y : ∀ p ∈ giv, s.heap.get? p.1 = some p.2) (e : ∀ n t, simA ⟨prog, w.params⟩ K giv n t denZ f [] (trZ.bind fun a => .pure (.done (.ret (enc a)))) [] 0 tape [] = some (.ok (.ret (enc (v n t))), own n t, i, asks n t)) (ha : ∀ n t, ∀ p ∈ asks n t, p.1 = p.2)
    (fin : ∀ h, RepA s.heap h s.heap.objs.size (own s.heap.objs.size s.toks) → Q (v s.heap.objs.size s.toks) { s with heap := h, toks := s.toks + i }) : wpAny (model prog w) A tr Q E s := by
  subst hz
  obtain ⟨h₀, g, d, t, os⟩ := s
  have z := simA_sound (prog := prog) (w := w) (g := g) (d := d) (os := os) (t := t) (R := fun r s' => match r with | .ok (.ret u) => ∀ a, u = enc a → Q a s' | .ok _ => True | .error e => E e s') X Y rfl (r := .ok (.ret (enc (v h₀.objs.size t)))) (own' := own h₀.objs.size t) (i' := i) (asks' := asks h₀.objs.size t)
    (fun h D a q => by
      have : a = v h₀.objs.size t := inj _ _ q.symm
      subst this
      exact fin h D) (ha _ _) f [] (tr.bind fun a => .pure (.done (.ret (enc a)))) [] 0 tape [] (by have := e h₀.objs.size t; rw [← denZ_eq] at this; exact this)
  intro Γ p hΓ
  have y := z.2 h₀ RepA.start ⟨Γ.handled, frameCount Γ.below, none, none, unitsOf Γ.below⟩ Γ.code Γ p rfl ⟨rfl, Nat.le_refl _, fun _ h => (nomatch h), fun _ h => (nomatch h), Nat.le_refl _⟩
  have y' : Sem.wp (model prog w) Γ (tr >>= fun a => (pure (.done (.ret (enc a))) : Sem Fin)) _ _ p ⟨h₀, g, d, t + 0, os⟩ := y
  rw [Sem.wp_bind'] at y'
  refine Sem.wp_mono _ _ _ (fun a p' s' q => ?_) (fun e p' s' q => ?_) p _ y'
  · exact q a rfl
  · exact q

section
variable {h₀ : Heap} {L : Addr} {m : Str → Option Value} {news : List (Addr × Obj)} {h h' : Heap}
theorem RepA.fr {own : List Obj} (D : RepA h h' h.objs.size own) (F : Fr h₀ L h m) : Fr h₀ L h' m := ⟨F.ns.keeps D.keep, fun b o e => D.keep _ _ (F.keep b o e), F.above⟩
theorem RepA.old {own : List Obj} (D : RepA h h' h.objs.size own) (N : News h₀ L h news) : News h₀ L h' news := fun p hp => ⟨D.keep _ _ (N p hp).1, (N p hp).2⟩
theorem RepA.new {own : List Obj} (D : RepA h h' h.objs.size own) (F : Fr h₀ L h m) (N : News h₀ L h news) {j : Nat} {o : Obj} (e : own[j]? = some o) : News h₀ L h' ((h.objs.size + j, o) :: news) := by
  intro p hp
  rcases List.mem_cons.mp hp with rfl | hp
  · refine ⟨D.own j o e, ?_, ?_⟩
    · exact Nat.ne_of_gt (Nat.lt_of_lt_of_le F.ns.lt (Nat.le_add_right ..))
    · cases q : h₀.get? (h.objs.size + j) with
      | none => rfl
      | some o' => exact absurd (Heap.lt_size (F.keep _ _ q)) (Nat.not_lt.mpr (Nat.le_add_right ..))
  · exact D.old N p hp
end
noncomputable abbrev dequeObj : Obj := { cls := .type "collections.deque", data := .fields #[.none, .int 0 0] }
theorem sim_deque (w : World) (n t : Nat) : simA ⟨Challenge.rw_of0095_01.row.prog, w.params⟩ [] [] n t denZ 100 [] (denZ (.call (.type "collections.deque") ⟨[], []⟩)) [] 0 [1, 1, 1, 1, 1, 1] [] =
    some (.ok (.ret (.ref (n + 0))), [dequeObj], 0, [(n + 0, n + 0), (n + 0, n + 0), (n + 0, n + 0), (n + 0, n + 0), (n + 0, n + 0), (n + 0, n + 0)]) := by kernel_rfl
end Mine
namespace Mine
section
variable {w : World} {A : Around} {s : Shared} {h₀ : Heap} {L : Addr} {m : Str → Option Value} {news : List (Addr × Obj)} {Q E : Value → Shared → Prop}
theorem deque_call (F : Fr h₀ L s.heap m) (N : News h₀ L s.heap news)
    (h : ∀ d h' tk, Fr h₀ L h' m → News h₀ L h' ((d, dequeObj) :: news) → (∀ p ∈ news, p.1 < d) → Q (.ref d) { s with heap := h', toks := tk }) :
    wpAny (model Challenge.rw_of0095_01.row.prog w) A (call (.type "collections.deque") []) Q E s := by
  refine call_A 100 [1, 1, 1, 1, 1, 1] (K := []) (giv := []) (fun _ _ e => nomatch e) (fun _ e => nomatch e) (fun n t => sim_deque w n t) (fun n t p hp => ?_) (fun h' D => ?_)
  · simp only [List.mem_cons, List.not_mem_nil, or_false, or_self] at hp
    subst hp; rfl
  · exact h _ _ _ (D.fr F) (D.new F N (j := 0) rfl) (fun p hp => Heap.lt_size (N p hp).1)
end
theorem enc_bool (a b : Bool) (h : Value.bool a = Value.bool b) : a = b := by injection h
noncomputable abbrev truthyZ : Value → Sem Bool := PySem.W.ZFast.zw15245631507167962100
theorem truthyZ_eq : truthy = truthyZ := PySem.W.ZFast.ze15245631507167962100
theorem sim_deque_truthy (w : World) (d n t : Nat) : simA ⟨Challenge.rw_of0095_01.row.prog, w.params⟩ [] [(d, dequeObj)] n t denZ 100 [] ((truthyZ (.ref d)).bind fun a => .pure (.done (.ret (.bool a)))) [] 0 [1, 1, 1, 1, 1] [] =
    some (.ok (.ret (.bool false)), [], 2, [(d, d), (d, d), (d, d), (d, d), (d, d)]) := by kernel_rfl
section
variable {w : World} {A : Around} {s : Shared} {h₀ : Heap} {L : Addr} {m : Str → Option Value} {news : List (Addr × Obj)} {Q : Bool → Shared → Prop} {E : Value → Shared → Prop}
theorem deque_truthy {d : Addr} (hd : s.heap.get? d = some dequeObj) (F : Fr h₀ L s.heap m) (N : News h₀ L s.heap news)
    (h : ∀ h' tk, Fr h₀ L h' m → News h₀ L h' news → Q false { s with heap := h', toks := tk }) :
    wpAny (model Challenge.rw_of0095_01.row.prog w) A (truthy (.ref d)) Q E s := by
  refine any_A Value.bool 100 [1, 1, 1, 1, 1] (K := []) (giv := [(d, dequeObj)]) (congrFun truthyZ_eq _) enc_bool (fun _ _ e => nomatch e) (fun p e => ?_) (fun n t => sim_deque_truthy w d n t) (fun n t p hp => ?_) (fun h' D => ?_)
  · rw [List.mem_singleton.mp e]; exact hd
  · simp only [List.mem_cons, List.not_mem_nil, or_false, or_self] at hp
    subst hp; rfl
  · exact h _ _ (D.fr F) (D.old N)
end
end Mine
namespace Mine
section
variable {prog : Program} {w : World} {A : Around} {s : Shared} {Q E : Value → Shared → Prop} {x y : Str} {t u : Tok}
theorem in_is (b : Bool) (e : (Builtin.Str.occurrences x y 0 x.length 1).isEmpty = !b) (h : Q (.bool b) s) : wpAny (model prog w) A (compareOp .In (.str y u) (.str x t)) Q E s := by
  refine in_str ?_
  rw [e, Bool.not_not]; exact h
theorem eq_is (b : Bool) (e : (x == y) = b) (h : Q (.bool b) s) : wpAny (model prog w) A (compareOp .Eq (.str x t) (.str y u)) Q E s := by
  refine eq_str ?_
  rw [e]; exact h
end
end Mine
namespace Mine
section
variable {prog : Program} {w : World} {A : Around} {s : Shared} {Q : Bool → Shared → Prop} {E : Value → Shared → Prop} {x : Str} {t : Tok}
theorem truthy_yes (h1 : 0 < x.length) (h2 : x.length ≤ 2000) (h : Q true { s with toks := s.toks + 1 + 1 }) : wpAny (model prog w) A (truthy (.str x t)) Q E s := by
  refine PySem.P.truthy_str (by omega) ?_
  have : ((x.length : Int) != 0) = true := by
    rw [bne_iff_ne]; omega
  rw [this]; exact h
end
end Mine

end
section
open PySem PySem.W PyProof.Rows PySem.Calls PySem.W.X
set_option maxRecDepth 100000
set_option maxHeartbeats 0
namespace Mine
noncomputable abbrev de (w : World) (name : String) (t : Tok) (v : Value) : DictEntry := ⟨PyData.keyHash w.params (Str.ofString name), .str (Str.ofString name) t, v⟩
noncomputable abbrev sioD (w : World) (k0 v0 k1 : Tok) (buf : Str) (v1 k2 : Tok) (p : Int) (v2 : Tok) : Obj := dictOf [de w "_StringIO__newline" k0 (.str (Str.ofString "\n") v0), de w "_StringIO__buf" k1 (.str buf v1), de w "_StringIO__pos" k2 (.int p v2)] 3
theorem drop_lt {l : List Nat} {i c : Nat} {r : List Nat} (h : l.drop i = c :: r) : i < l.length := by
  rcases Nat.lt_or_ge i l.length with q | q
  · exact q
  · rw [List.drop_eq_nil_of_le q] at h; cases h
theorem slice_one {x : Str} {i j : Int} {c : Nat} {r : List Nat} (h0 : 0 ≤ i) (h : x.cps.toList.drop i.toNat = c :: r) (hj : j = i + 1) : Txt.slice x (some i) (some j) = ⟨#[c]⟩ := by
  have hl := drop_lt h
  have hl' : i.toNat < x.length := by simpa [Str.length] using hl
  subst hj
  have e := eq_of_beq (slice_closesL (x := x) (i := i) (j := i + 1) h0 (by omega) (by omega))
  rw [e, h]
  have : (i + 1 - i).toNat = 1 := by omega
  rw [this]
  rfl
local macro_rules | `(tactic| walk_at "exec If") => `(tactic| refine wpAny_If ?_)
local macro_rules | `(tactic| k_all) => `(tactic| assumption)
theorem read_c {w : World} {pp : Program} {ll : List Str} {mean : ExcName → Option Value} {mg mb : Str → Option Value} {dp un : Nat} {gd : Option (List Code)} {cn : Str} {cs : Scope} {a : Addr} {ccd : Value} {cl : List (Str × Addr)} {outer : List Env} {A₀ : Around} {base h₀ : Heap} {L : Addr} {m : Str → Option Value} {s : Shared} {Q E : Value → Shared → Prop} {sx dsx : Addr} {rest : List (Addr × Obj)} {k0 v0 k1 v1 k2 v2 t1 : Tok} {buf : Str} {p : Int} {c : Nat} {r : List Nat} (hb : buf.length ≤ 1000) (hp0 : 0 ≤ p) (hc : buf.cps.toList.drop p.toNat = c :: r) (hr : ∀ q ∈ rest, q.1 ≠ dsx) (hne : @Ne Nat sx dsx)
  (B : Below A₀ base outer h₀) (F : Fr h₀ L s.heap m) (X : (Mine.hd.heap_39 w.params).In h₀) (T : Top pp ll mean mg mb h₀) (hk : cs.kind = .function) (N : News h₀ L s.heap ((sx, instObj 644 dsx) :: (dsx, sioD w k0 v0 k1 buf v1 k2 p v2) :: rest)) (hd : dp + 4 < recursionLimit) (hu : un + 40 < cLine)
  (ret : ∀ h' tk' t v3, Fr h₀ L h' m → News h₀ L h' ((sx, instObj 644 dsx) :: (dsx, sioD w k0 v0 k1 buf v1 k2 (p + 1) v3) :: rest) → Q (.str ⟨#[c]⟩ t) { s with heap := h', toks := tk' }) :
  wpAny (model Challenge.rw_of0095_01.row.prog w) (ktrTop dp un gd cn cs L a ccd cl outer) (call (.ref 590) [.ref sx, .int 1 t1]) Q E s := by
  w_top off; revert X; k_fill; intro X
  have hp1 : p < buf.length := by
    have hl := drop_lt hc
    have hl' : p.toNat < buf.length := by simpa [Str.length] using hl
    omega
  refine wpAny_call ?_
  k_dflt k_enter
  k_steps
  · rw [slice_one hp0 hc rfl]
    exact ret _ _ _ _ (by k_asm) (by k_asm)
  · have e : (buf.length : Int) = p + 1 := by omega
    rw [slice_one hp0 hc e]
    exact ret _ _ _ _ (by k_asm) (by rw [← e]; k_asm)
theorem read_e {w : World} {pp : Program} {ll : List Str} {mean : ExcName → Option Value} {mg mb : Str → Option Value} {dp un : Nat} {gd : Option (List Code)} {cn : Str} {cs : Scope} {a : Addr} {ccd : Value} {cl : List (Str × Addr)} {outer : List Env} {A₀ : Around} {base h₀ : Heap} {L : Addr} {m : Str → Option Value} {s : Shared} {Q E : Value → Shared → Prop} {sx dsx : Addr} {rest : List (Addr × Obj)} {k0 v0 k1 v1 k2 v2 t1 : Tok} {buf : Str} {p : Int} (hb : buf.length ≤ 1000) (hp : p = buf.length) (hr : ∀ q ∈ rest, q.1 ≠ dsx) (hne : @Ne Nat sx dsx)
  (B : Below A₀ base outer h₀) (F : Fr h₀ L s.heap m) (X : (Mine.hd.heap_39 w.params).In h₀) (T : Top pp ll mean mg mb h₀) (hk : cs.kind = .function) (N : News h₀ L s.heap ((sx, instObj 644 dsx) :: (dsx, sioD w k0 v0 k1 buf v1 k2 p v2) :: rest)) (hd : dp + 4 < recursionLimit) (hu : un + 40 < cLine)
  (ret : ∀ h' tk' t, Fr h₀ L h' m → News h₀ L h' ((sx, instObj 644 dsx) :: (dsx, sioD w k0 v0 k1 buf v1 k2 p v2) :: rest) → Q (.str (Str.ofString "") t) { s with heap := h', toks := tk' }) :
  wpAny (model Challenge.rw_of0095_01.row.prog w) (ktrTop dp un gd cn cs L a ccd cl outer) (call (.ref 590) [.ref sx, .int 1 t1]) Q E s := by
  w_top off; revert X; k_fill; intro X
  refine wpAny_call ?_
  k_dflt k_enter
  k_steps
  all_goals exact ret _ _ _ (by k_asm) (by k_asm)
end Mine

end
section
open PySem PySem.W PyProof.Rows PySem.Calls PySem.W.X
set_option maxRecDepth 100000
set_option maxHeartbeats 0
namespace Mine

section
variable {prog : Program} {w : World} {A : Around} {E : Value → Shared → Prop} {s : Shared} {env : Env} {test : PySem.Expr} {body : List Stmt} {Q : Flow → Shared → Prop}
/-- the rest of a while loop, and what a turn's end is held to -/
noncomputable def LpRest (prog : Program) (w : World) (A : Around) (E : Value → Shared → Prop) (env : Env) (test : PySem.Expr) (body : List Stmt) (Q : Flow → Shared → Prop) (s : Shared) : Prop := WhlRest prog w A E env test body [] Q 0 s
noncomputable def LpPost (prog : Program) (w : World) (A : Around) (E : Value → Shared → Prop) (env : Env) (test : PySem.Expr) (body : List Stmt) (Q : Flow → Shared → Prop) (f : Flow) (s : Shared) : Prop :=
  match f with
  | .next => LpRest prog w A E env test body Q s
  | .cont => LpRest prog w A E env test body Q s
  | .brk => Q .next s
  | .ret v => Q (.ret v) s
theorem lp_turn (hE : PassesOwn (model prog w) A env E)
    (h : wpAny (model prog w) A (isTrue test env (eval test env)) (fun b s₂ => WhlIf b (wpAny (model prog w) A (execs body env) (LpPost prog w A E env test body Q) E s₂) (wpAny (model prog w) A (execs [] env) Q E s₂)) E s) :
    LpRest prog w A E env test body Q s := by
  refine whl_turn (k := 0) hE (wpAny_mono h (fun b s₂ z => ?_) fun _ _ z => z)
  cases b with
  | false => exact z
  | true =>
    refine WhlIf.yes rfl ?_
    have z' : wpAny (model prog w) A (execs body env) (LpPost prog w A E env test body Q) E s₂ := z
    refine wpAny_mono z' (fun f s₃ y => ?_) fun _ _ y => y
    cases f <;> exact y
theorem lp_start {pos : Pos} (h : LpRest prog w A E env test body Q s) : wpAny (model prog w) A (exec (.While test body [] pos) env) Q E s := whl_start 0 h
theorem lp_ind {σ : Type} (P : σ → Shared → Prop) (μ : σ → Nat) (turn : ∀ c s, P c s → (∀ c' s', μ c' < μ c → P c' s' → LpRest prog w A E env test body Q s') → LpRest prog w A E env test body Q s) (c₀ : σ) (h : P c₀ s) : LpRest prog w A E env test body Q s := by
  have all : ∀ n c s, μ c < n → P c s → LpRest prog w A E env test body Q s := by
    intro n
    induction n with
    | zero => intro c s h; exact absurd h (Nat.not_lt_zero _)
    | succ n ih => exact fun c s h p => turn c s p fun c' s' h' p' => ih c' s' (by omega) p'
  exact all _ c₀ s (Nat.lt_succ_self _) h
end

noncomputable abbrev lexD (w : World) (k v : Nat → Tok) (sx pb fs : Addr) (wc : Str) (stv : Value) (tok : Str) (vtok : Tok) : Obj :=
  dictOf [de w "instream" (k 0) (.ref sx), de w "infile" (k 1) .none, de w "posix" (k 2) (.bool true), de w "eof" (k 3) .none, de w "commenters" (k 4) (.str (Str.ofString "") (v 4)), de w "wordchars" (k 5) (.str wc (v 5)),
    de w "whitespace" (k 6) (.str (Str.ofString " \t\r\n") (v 6)), de w "whitespace_split" (k 7) (.bool true), de w "quotes" (k 8) (.str (Str.ofString "'\"") (v 8)), de w "escape" (k 9) (.str (Str.ofString "\\") (v 9)), de w "escapedquotes" (k 10) (.str (Str.ofString "\"") (v 10)),
    de w "state" (k 11) stv, de w "pushback" (k 12) (.ref pb), de w "lineno" (k 13) (.int 1 (v 13)), de w "debug" (k 14) (.int 0 (v 14)), de w "token" (k 15) (.str tok vtok), de w "filestack" (k 16) (.ref fs), de w "source" (k 17) .none, de w "_punctuation_chars" (k 18) (.str (Str.ofString "") (v 18))] 19
noncomputable abbrev lexLed (w : World) (k v : Nat → Tok) (x dx sx dsx pb fs : Addr) (wc : Str) (stv : Value) (tok : Str) (vtok : Tok) (k0 v0 k1 : Tok) (buf : Str) (v1 k2 : Tok) (p : Int) (v2 : Tok) (rest : List (Addr × Obj)) : List (Addr × Obj) :=
  (sx, instObj 644 dsx) :: (dsx, sioD w k0 v0 k1 buf v1 k2 p v2) :: (x, instObj 779 dx) :: (dx, lexD w k v sx pb fs wc stv tok vtok) :: (pb, dequeObj) :: (fs, dequeObj) :: rest

noncomputable abbrev rtM (x : Addr) (te : Tok) (u : Option Value) (q : Bool) : Str → Option Value := fun z => if z = Str.ofString "nextchar" then u else if z = Str.ofString "quoted" then some (.bool q) else if z = Str.ofString "escapedstate" then some (.str (Str.ofString " ") te) else [(Str.ofString "self", Value.ref x)].reverse.lookup z
theorem fr_eqm {h₀ h : Heap} {L : Addr} {m m' : Str → Option Value} (F : Fr h₀ L h m) (e : m = m') : Fr h₀ L h m' := e ▸ F
theorem str_ne1 : Str.ofString "nextchar" ≠ Str.ofString "quoted" := by decide
theorem str_ne2 : Str.ofString "nextchar" ≠ Str.ofString "escapedstate" := by decide
theorem str_ne3 : Str.ofString "quoted" ≠ Str.ofString "escapedstate" := by decide
structure LexC where
  x : Addr
  dx : Addr
  sx : Addr
  dsx : Addr
  pb : Addr
  fs : Addr
  k : Nat → Tok
  v : Nat → Tok
  wc : Str
  k0 : Tok
  v0 : Tok
  k1 : Tok
  v1 : Tok
  k2 : Tok
  buf : Str
  rest : List (Addr × Obj)
noncomputable abbrev LexC.led (w : World) (c : LexC) (stv : Value) (tok : Str) (vtok : Tok) (p : Int) (v2 : Tok) : List (Addr × Obj) := lexLed w c.k c.v c.x c.dx c.sx c.dsx c.pb c.fs c.wc stv tok vtok c.k0 c.v0 c.k1 c.buf c.v1 c.k2 p v2 c.rest
structure LexC.Ok (C : LexC) : Prop where
  l1 : @LT.lt Nat _ C.dx C.x
  l2 : @LT.lt Nat _ C.x C.dsx
  l3 : @LT.lt Nat _ C.dsx C.sx
  l4 : @LT.lt Nat _ C.sx C.pb
  l5 : @LT.lt Nat _ C.pb C.fs
  r1 : ∀ q ∈ C.rest, q.1 ≠ C.dx
  r2 : ∀ q ∈ C.rest, q.1 ≠ C.dsx
noncomputable def RtP0 (w : World) (C : LexC) (g : Heap) (L : Addr) (s : Shared) (te : Tok) (tl r : List Nat) (s' : Shared) : Prop :=
  ∃ h tk u vst vtok p v2, s' = { s with heap := h, toks := tk } ∧ Fr g L h (rtM C.x te u false) ∧ News g L h (C.led w (.str (Str.ofString " ") vst) (Str.ofString "") vtok p v2) ∧ 0 ≤ p ∧ p ≤ C.buf.length ∧ C.buf.cps.toList.drop p.toNat = 39 :: (r ++ 39 :: tl)
noncomputable def RtP1 (w : World) (C : LexC) (g : Heap) (L : Addr) (s : Shared) (te : Tok) (word tl r : List Nat) (s' : Shared) : Prop :=
  ∃ h tk u q vst t vtok p v2, s' = { s with heap := h, toks := tk } ∧ Fr g L h (rtM C.x te u q) ∧ News g L h (C.led w (.str (Str.ofString "'") vst) ⟨t.toArray⟩ vtok p v2) ∧ 0 ≤ p ∧ p ≤ C.buf.length ∧ C.buf.cps.toList.drop p.toNat = r ++ 39 :: tl ∧ t ++ r = word
noncomputable def RtP2 (w : World) (C : LexC) (g : Heap) (L : Addr) (s : Shared) (te : Tok) (word tl : List Nat) (s' : Shared) : Prop :=
  ∃ h tk u vst vtok p v2, s' = { s with heap := h, toks := tk } ∧ Fr g L h (rtM C.x te u true) ∧ News g L h (C.led w (.str (Str.ofString "a") vst) ⟨word.toArray⟩ vtok p v2) ∧ 0 ≤ p ∧ p ≤ C.buf.length ∧ C.buf.cps.toList.drop p.toNat = tl
noncomputable def RtP (w : World) (C : LexC) (g : Heap) (L : Addr) (s : Shared) (te : Tok) (word tl : List Nat) (c : Nat × List Nat) (s' : Shared) : Prop :=
  (c.1 = 0 ∧ c.2 = word ∧ RtP0 w C g L s te tl c.2 s') ∨ (c.1 = 1 ∧ RtP1 w C g L s te word tl c.2 s') ∨ (c.1 = 2 ∧ c.2 = [] ∧ RtP2 w C g L s te word tl s')
structure GoodC (c : Nat) : Prop where
  h1 : ((⟨#[c]⟩ : Str) == Str.ofString "\n") = false
  h2 : ((⟨#[c]⟩ : Str) == Str.ofString "'") = false
  h3 : (Builtin.Str.occurrences (Str.ofString "\\") ⟨#[c]⟩ 0 (Str.ofString "\\").length 1).isEmpty = !false
noncomputable def RtEnd (C : LexC) (tl : List Nat) (stv : Value) (p : Int) : Prop := (tl = [] ∧ stv = .none ∧ p = C.buf.length) ∨ (∃ tl' t, tl = 32 :: tl' ∧ stv = .str (Str.ofString " ") t ∧ 0 ≤ p ∧ p ≤ C.buf.length ∧ C.buf.cps.toList.drop p.toNat = tl')
theorem drop_next {l : List Nat} {p : Int} {n c : Nat} {r : List Nat} (hn : l.length = n) (h0 : 0 ≤ p) (h : l.drop p.toNat = c :: r) : 0 ≤ p + 1 ∧ p + 1 ≤ n ∧ l.drop (p + 1).toNat = r := by
  have h1 := drop_lt h
  refine ⟨by omega, by omega, ?_⟩
  have e : (p + 1).toNat = p.toNat + 1 := by omega
  rw [e, ← List.drop_drop, h]; rfl
theorem news_tail {h₀ h : Heap} {L : Addr} {q : Addr × Obj} {news : List (Addr × Obj)} (N : News h₀ L h (q :: news)) : News h₀ L h news := fun p hp => N p (.tail _ hp)
theorem empty_str : Str.ofString "" = ⟨([] : List Nat).toArray⟩ := by decide
theorem push_str (t : List Nat) (c : Nat) : (⟨t.toArray⟩ : Str) ++ (⟨#[c]⟩ : Str) = ⟨(t ++ [c]).toArray⟩ := by
  apply Str.ext'
  simp [Str.cps_append]
theorem len_str (x : Str) : x.cps.toList.length = x.length := by simp [Str.length]
local macro_rules | `(tactic| k_all) => `(tactic| assumption)
local macro_rules | `(tactic| walk_at "exec While") => `(tactic| (refine lp_start ?_))
local macro_rules | `(tactic| walk_at "compareOp In str str") => `(tactic| first | (refine in_is false (by with_reducible assumption) ?_) | (refine in_is true (by with_reducible assumption) ?_) | (refine in_is false (by decide +kernel) ?_) | (refine in_is true (by decide +kernel) ?_))
local macro_rules | `(tactic| walk_at "compareOp Eq str str") => `(tactic| first | (refine eq_is false (by with_reducible assumption) ?_) | (refine eq_is true (by with_reducible assumption) ?_) | (refine eq_is false (by decide +kernel) ?_) | (refine eq_is true (by decide +kernel) ?_))
local macro_rules | `(tactic| walk_at "exec If") => `(tactic| refine wpAny_If ?_)
local macro_rules | `(tactic| walk_at "truthy str") => `(tactic| first | (refine truthy_yes (by with_reducible assumption) (by with_reducible assumption) ?_) | ((with_reducible show wpAny _ _ (truthy (Value.str (Str.mk (List.toArray [_])) _)) _ _ _); refine truthy_yes (Nat.one_pos) (Nat.le_of_ble_eq_true rfl) ?_))
local macro_rules | `(tactic| walk_at "LpPost") => `(tactic| (dsimp only [LpPost]))
local macro_rules | `(tactic| walk_at "call ref") => `(tactic| (k_here; (with_reducible show wpAny _ _ (call (Value.ref 590) [Value.ref _, Value.int 1 _]) _ _ _); first
  | (k_dflt (refine' read_c ?a1 ?a2 ?a3 ?kr ?kn ?k1 ?k2 ?k3 ?k5 ?kK ?k4 ?kd ?ku ?_; (case k4 => k_asm); (case k1 => k_asm); (case k2 => k_asm); (case k3 => k_asm); (case k5 => k_asm); (case a1 => assumption); (case a2 => assumption); (case a3 => assumption); (case kK => first | exact rfl | assumption); (case kr => k_all); (case kn => k_ne); (case kd => k_room); (case ku => (have hcL9 := cLine_is; (try simp only [units_in1, units_deeper, Around.mark_units, units_caller]); (try dsimp only [ktrTop]); omega))); intro h' tk' t' v3' F' N'; (try dsimp only); (try k_sweep))
  | (k_dflt (refine' read_e ?a1 ?a2 ?kr ?kn ?k1 ?k2 ?k3 ?k5 ?kK ?k4 ?kd ?ku ?_; (case k4 => k_asm); (case k1 => k_asm); (case k2 => k_asm); (case k3 => k_asm); (case k5 => k_asm); (case a1 => assumption); (case a2 => assumption); (case kK => first | exact rfl | assumption); (case kr => k_all); (case kn => k_ne); (case kd => k_room); (case ku => (have hcL9 := cLine_is; (try simp only [units_in1, units_deeper, Around.mark_units, units_caller]); (try dsimp only [ktrTop]); omega))); intro h' tk' t' F' N'; (try dsimp only); (try k_sweep))))
theorem rt1 {w : World} {pp : Program} {ll : List Str} {mean : ExcName → Option Value} {mg mb : Str → Option Value} {dp un : Nat} {gd : Option (List Code)} {cn : Str} {cs : Scope} {a : Addr} {ccd : Value} {cl : List (Str × Addr)} {outer : List Env} {A₀ : Around} {base h₀ : Heap} {L : Addr} {m : Str → Option Value} {s : Shared} {Q E : Value → Shared → Prop} {C : LexC} (hwc : (Builtin.Str.occurrences C.wc (Str.ofString "'") 0 C.wc.length 1).isEmpty = !false) {vst vtok v2 : Tok} {p : Int} {word tl : List Nat} (hb : C.buf.length ≤ 1000) (hp0 : 0 ≤ p) (hp1 : p ≤ C.buf.length) (hc : C.buf.cps.toList.drop p.toNat = 39 :: (word ++ 39 :: tl)) (hw : ∀ c ∈ word, GoodC c) (hwl1 : 0 < (⟨word.toArray⟩ : Str).length) (hwl2 : (⟨word.toArray⟩ : Str).length ≤ 2000) (htl : tl = [] ∨ ∃ tl', tl = 32 :: tl')
  (hC : C.Ok)
  (B : Below A₀ base outer h₀) (F : Fr h₀ L s.heap m) (X : (Mine.hd.heap_39 w.params).In h₀) (T : Top pp ll mean mg mb h₀) (hk : cs.kind = .function) (N : News h₀ L s.heap (C.led w (.str (Str.ofString " ") vst) (Str.ofString "") vtok p v2)) (hd : dp + 10 < recursionLimit) (hu : un + 80 < cLine)
  (ret : ∀ h' tk' t stv vtok' p' v2', Fr h₀ L h' m → News h₀ L h' (C.led w stv (Str.ofString "") vtok' p' v2') → RtEnd C tl stv p' → Q (.str ⟨word.toArray⟩ t) { s with heap := h', toks := tk' }) :
  wpAny (model Challenge.rw_of0095_01.row.prog w) (ktrTop dp un gd cn cs L a ccd cl outer) (call (.ref 747) [.ref C.x]) Q E s := by
  w_top off; revert X; k_fill; intro X
  obtain ⟨l1, l2, l3, l4, l5, r1, r2⟩ := hC
  refine wpAny_call ?_
  k_dflt k_enter
  k_steps
  refine' lp_ind (fun c s' => RtP w C ?g ?L1 s ?te word tl c s') (fun c => c.2.length + 3 - c.1) ?turn (0, word) ?start
  case start =>
    refine' Or.inl ⟨rfl, rfl, _, _, none, _, _, _, _, rfl, ?fr, ?nw, hp0, hp1, hc⟩
    case nw => k_asm
    case fr =>
      refine' fr_eqm (by k_asm) ?_
      funext z
      by_cases e1 : z = Str.ofString "nextchar"
      · subst e1; rfl
      · by_cases e2 : z = Str.ofString "quoted"
        · subst e2; rfl
        · by_cases e3 : z = Str.ofString "escapedstate"
          · subst e3; rfl
          · simp only [rtM, e1, e2, e3, if_false]; rfl
  case turn =>
    clear hp0 hp1 hc
    rintro ⟨ph, r⟩ s' (⟨h1, h2, h3⟩ | ⟨h1, h3⟩ | ⟨h1, h2, h3⟩) ih
    · obtain ⟨h, tk, u, vst', vtok', p', v2', rfl, F9, N9, hp9, hp8, hc9⟩ := h3
      dsimp only at h1 h2 hc9
      subst h1 h2
      refine lp_turn (by passes_own) ?_
      k_steps
      obtain ⟨q1, q2, q3⟩ := drop_next (len_str C.buf) hp9 hc9
      refine' ih (1, r) _ (by dsimp only; omega) (Or.inr (Or.inl ⟨rfl, _, _, _, false, _, [], _, _, _, rfl, ?fr, ?nw, q1, q2, q3, rfl⟩))
      case nw => rw [← empty_str]; k_asm
      case fr =>
        refine' fr_eqm (by k_asm) ?_
        funext z
        by_cases e1 : z = Str.ofString "nextchar"
        · subst e1; rfl
        · simp only [rtM, e1, if_false]
    · obtain ⟨h, tk, u, q, vst', t9, vtok', p', v2', rfl, F9, N9, hp9, hp8, hc9, hw9⟩ := h3
      dsimp only at h1 hc9 hw9
      subst h1
      cases r with
      | nil =>
        rw [List.nil_append] at hc9
        rw [List.append_nil] at hw9
        refine lp_turn (by passes_own) ?_
        k_steps
        obtain ⟨q1, q2, q3⟩ := drop_next (len_str C.buf) hp9 hc9
        subst hw9
        refine' ih (2, []) _ (by dsimp only; decide) (Or.inr (Or.inr ⟨rfl, rfl, _, _, _, _, _, _, _, rfl, ?fr, ?nw, q1, q2, q3⟩))
        case nw => k_asm
        case fr =>
          refine' fr_eqm (by k_asm) ?_
          funext z
          by_cases e1 : z = Str.ofString "nextchar"
          · subst e1; rfl
          · by_cases e2 : z = Str.ofString "quoted"
            · subst e2; rfl
            · simp only [rtM, e1, e2, if_false]
      | cons c r =>
        obtain ⟨hq1, hq2, hq3⟩ := hw c (by rw [← hw9]; simp)
        rw [List.cons_append] at hc9
        have hcl1 : 0 < (⟨#[c]⟩ : Str).length := Nat.one_pos
        have hcl2 : (⟨#[c]⟩ : Str).length ≤ 2000 := Nat.le_of_ble_eq_true rfl
        have ht9 : (⟨t9.toArray⟩ : Str).length ≤ 2000 := by
          have : t9.length ≤ word.length := by rw [← hw9]; simp
          simp only [Str.length, List.size_toArray] at hwl2 ⊢
          omega
        refine lp_turn (by passes_own) ?_
        k_steps
        obtain ⟨q1, q2, q3⟩ := drop_next (len_str C.buf) hp9 hc9
        refine' ih (1, r) _ (by dsimp only [List.length_cons]; omega) (Or.inr (Or.inl ⟨rfl, _, _, _, true, _, t9 ++ [c], _, _, _, rfl, ?fr, ?nw, q1, q2, q3, ?w⟩))
        case nw => rw [← push_str]; k_asm
        case w => rw [← hw9]; simp
        case fr =>
          refine' fr_eqm (by k_asm) ?_
          funext z
          by_cases e1 : z = Str.ofString "nextchar"
          · subst e1; rfl
          · by_cases e2 : z = Str.ofString "quoted"
            · subst e2; rfl
            · simp only [rtM, e1, e2, if_false]
    · obtain ⟨h, tk, u, vst', vtok', p', v2', rfl, F9, N9, hp9, hp8, hc9⟩ := h3
      dsimp only at h1 h2
      subst h1 h2
      rcases htl with htl | ⟨tl', htl⟩
      · subst htl
        have hpe : p' = C.buf.length := by
          have := List.drop_eq_nil_iff.mp hc9
          rw [len_str] at this
          omega
        refine lp_turn (by passes_own) ?_
        k_steps
        exact ret _ _ _ _ _ _ _ (by k_asm) (news_tail (by k_asm)) (Or.inl ⟨rfl, rfl, hpe⟩)
      · subst htl
        refine lp_turn (by passes_own) ?_
        k_steps
        obtain ⟨q1, q2, q3⟩ := drop_next (len_str C.buf) hp9 hc9
        exact ret _ _ _ _ _ _ _ (by k_asm) (news_tail (by k_asm)) (Or.inr ⟨_, _, rfl, rfl, q1, q2, q3⟩)
end Mine

end
section
open PySem PySem.W PyProof.Rows PySem.Calls PySem.W.X
set_option maxRecDepth 100000
set_option maxHeartbeats 0
namespace Mine
local macro_rules | `(tactic| walk_at "compareOp In str str") => `(tactic| first | (refine in_is false (by with_reducible assumption) ?_) | (refine in_is true (by with_reducible assumption) ?_) | (refine in_is false (by decide +kernel) ?_) | (refine in_is true (by decide +kernel) ?_))
local macro_rules | `(tactic| walk_at "compareOp Eq str str") => `(tactic| first | (refine eq_is false (by with_reducible assumption) ?_) | (refine eq_is true (by with_reducible assumption) ?_) | (refine eq_is false (by decide +kernel) ?_) | (refine eq_is true (by decide +kernel) ?_))
local macro_rules | `(tactic| walk_at "truthy str") => `(tactic| (refine truthy_yes (by with_reducible assumption) (by with_reducible assumption) ?_))
local macro_rules | `(tactic| walk_at "exec If") => `(tactic| refine wpAny_If ?_)
local macro_rules | `(tactic| walk_at "LpPost") => `(tactic| (dsimp only [LpPost]))
local macro_rules | `(tactic| k_all) => `(tactic| assumption)
local macro_rules | `(tactic| walk_at "truthy ref") => `(tactic| (k_here; refine' deque_truthy ?k0 ?k1 ?k2 ?_; (case k1 => k_asm); (case k2 => k_asm); (case k0 => exact News.get (by k_asm) (by k_mem)); intro h' tk' F' N'; (try k_sweep)))
section
local macro_rules | `(tactic| walk_at "call ref") => `(tactic| (k_here; (with_reducible show wpAny _ _ (call (Value.ref 590) [Value.ref _, Value.int 1 _]) _ _ _); first
  | (k_dflt (refine' read_c ?a1 ?a2 ?a3 ?kr ?kn ?k1 ?k2 ?k3 ?k5 ?kK ?k4 ?kd ?ku ?_; (case k4 => k_asm); (case k1 => k_asm); (case k2 => k_asm); (case k3 => k_asm); (case k5 => k_asm); (case a1 => assumption); (case a2 => assumption); (case a3 => assumption); (case kK => first | exact rfl | assumption); (case kr => k_all); (case kn => k_ne); (case kd => k_room); (case ku => (have hcL9 := cLine_is; (try simp only [units_in1, units_deeper, Around.mark_units, units_caller]); (try dsimp only [ktrTop]); omega))); intro h' tk' t' v3' F' N'; (try dsimp only); (try k_sweep))
  | (k_dflt (refine' read_e ?a1 ?a2 ?kr ?kn ?k1 ?k2 ?k3 ?k5 ?kK ?k4 ?kd ?ku ?_; (case k4 => k_asm); (case k1 => k_asm); (case k2 => k_asm); (case k3 => k_asm); (case k5 => k_asm); (case a1 => assumption); (case a2 => assumption); (case kK => first | exact rfl | assumption); (case kr => k_all); (case kn => k_ne); (case kd => k_room); (case ku => (have hcL9 := cLine_is; (try simp only [units_in1, units_deeper, Around.mark_units, units_caller]); (try dsimp only [ktrTop]); omega))); intro h' tk' t' F' N'; (try dsimp only); (try k_sweep))))
local macro_rules | `(tactic| walk_at "exec While") => `(tactic| (refine lp_start ?_))
theorem rt2 {w : World} {pp : Program} {ll : List Str} {mean : ExcName → Option Value} {mg mb : Str → Option Value} {dp un : Nat} {gd : Option (List Code)} {cn : Str} {cs : Scope} {a : Addr} {ccd : Value} {cl : List (Str × Addr)} {outer : List Env} {A₀ : Around} {base h₀ : Heap} {L : Addr} {m : Str → Option Value} {s : Shared} {Q E : Value → Shared → Prop} {C : LexC} {vtok v2 : Tok} {p : Int} (hb : C.buf.length ≤ 1000) (hp : p = C.buf.length) (hC : C.Ok)
  (B : Below A₀ base outer h₀) (F : Fr h₀ L s.heap m) (X : (Mine.hd.heap_39 w.params).In h₀) (T : Top pp ll mean mg mb h₀) (hk : cs.kind = .function) (N : News h₀ L s.heap (C.led w .none (Str.ofString "") vtok p v2)) (hd : dp + 10 < recursionLimit) (hu : un + 80 < cLine)
  (ret : ∀ h' tk' vtok', Fr h₀ L h' m → News h₀ L h' (C.led w .none (Str.ofString "") vtok' p v2) → Q .none { s with heap := h', toks := tk' }) :
  wpAny (model Challenge.rw_of0095_01.row.prog w) (ktrTop dp un gd cn cs L a ccd cl outer) (call (.ref 747) [.ref C.x]) Q E s := by
  w_top off; revert X; k_fill; intro X
  have hC0 := hC
  obtain ⟨l1, l2, l3, l4, l5, r1, r2⟩ := hC0
  refine wpAny_call ?_
  k_dflt k_enter
  k_steps
  refine lp_turn (by passes_own) ?_
  k_steps
  exact ret _ _ _ (by k_asm) (by k_asm)
end

section
local macro_rules | `(tactic| walk_at "call ref") => `(tactic| (k_here; k_dflt ((show wpAny _ _ (call (Value.ref 747) [Value.ref _]) _ _ _); refine' rt1 ?c0 ?c1 ?c2 ?c3 ?c4 ?c5 ?c6 ?c7 ?c8 ?c9 ?k1 ?k2 ?k3 ?k5 ?kK ?k4 ?kd ?ku ?_; (case k4 => k_asm); (case k1 => k_asm); (case k2 => k_asm); (case k3 => k_asm); (case k5 => k_asm); (case kK => first | exact rfl | assumption); (case kd => k_room); (case ku => (have hcL9 := cLine_is; (try simp only [units_in1, units_deeper, Around.mark_units, units_caller]); (try dsimp only [ktrTop]); omega)); (case c0 => assumption); (case c1 => assumption); (case c2 => assumption); (case c3 => assumption); (case c4 => assumption); (case c5 => assumption); (case c6 => assumption); (case c7 => assumption); (case c8 => assumption); (case c9 => assumption)); intro h' tk' t' stv' vtok' p' v2' F' N' hE'; (try dsimp only); (try k_sweep)))
theorem gt1 {w : World} {pp : Program} {ll : List Str} {mean : ExcName → Option Value} {mg mb : Str → Option Value} {dp un : Nat} {gd : Option (List Code)} {cn : Str} {cs : Scope} {a : Addr} {ccd : Value} {cl : List (Str × Addr)} {outer : List Env} {A₀ : Around} {base h₀ : Heap} {L : Addr} {m : Str → Option Value} {s : Shared} {Q E : Value → Shared → Prop} {C : LexC} (hwc : (Builtin.Str.occurrences C.wc (Str.ofString "'") 0 C.wc.length 1).isEmpty = !false) {vst vtok v2 : Tok} {p : Int} {word tl : List Nat} (hb : C.buf.length ≤ 1000) (hp0 : 0 ≤ p) (hp1 : p ≤ C.buf.length) (hc : C.buf.cps.toList.drop p.toNat = 39 :: (word ++ 39 :: tl)) (hw : ∀ c ∈ word, GoodC c) (hwl1 : 0 < (⟨word.toArray⟩ : Str).length) (hwl2 : (⟨word.toArray⟩ : Str).length ≤ 2000) (htl : tl = [] ∨ ∃ tl', tl = 32 :: tl') (hC : C.Ok)
  (B : Below A₀ base outer h₀) (F : Fr h₀ L s.heap m) (X : (Mine.hd.heap_39 w.params).In h₀) (T : Top pp ll mean mg mb h₀) (hk : cs.kind = .function)  (N : News h₀ L s.heap (C.led w (.str (Str.ofString " ") vst) (Str.ofString "") vtok p v2)) (hd : dp + 12 < recursionLimit) (hu : un + 90 < cLine)
  (ret : ∀ h' tk' t stv vtok' p' v2', Fr h₀ L h' m → News h₀ L h' (C.led w stv (Str.ofString "") vtok' p' v2') → RtEnd C tl stv p' → Q (.str ⟨word.toArray⟩ t) { s with heap := h', toks := tk' }) :
  wpAny (model Challenge.rw_of0095_01.row.prog w) (ktrTop dp un gd cn cs L a ccd cl outer) (call (.ref 740) [.ref C.x]) Q E s := by
  w_top off; revert X; k_fill; intro X
  have hC0 := hC
  obtain ⟨l1, l2, l3, l4, l5, r1, r2⟩ := hC0
  refine wpAny_call ?_
  k_dflt k_enter
  k_steps
  exact ret _ _ _ _ _ _ _ (by k_asm) (by k_asm) (by assumption)
end

section
local macro_rules | `(tactic| walk_at "pad0") => `(tactic| fail)
local macro_rules | `(tactic| walk_at "pad1") => `(tactic| fail)
local macro_rules | `(tactic| walk_at "pad2") => `(tactic| fail)
local macro_rules | `(tactic| walk_at "call ref") => `(tactic| (k_here; k_dflt ((show wpAny _ _ (call (Value.ref 747) [Value.ref _]) _ _ _); refine' rt2 ?c1 ?c2 ?c9 ?k1 ?k2 ?k3 ?k5 ?kK ?k4 ?kd ?ku ?_; (case k4 => k_asm); (case k1 => k_asm); (case k2 => k_asm); (case k3 => k_asm); (case k5 => k_asm); (case kK => first | exact rfl | assumption); (case kd => k_room); (case ku => (have hcL9 := cLine_is; (try simp only [units_in1, units_deeper, Around.mark_units, units_caller]); (try dsimp only [ktrTop]); omega)); (case c1 => assumption); (case c2 => assumption); (case c9 => assumption)); intro h' tk' vtok' F' N'; (try dsimp only); (try k_sweep)))
theorem gt2 {w : World} {pp : Program} {ll : List Str} {mean : ExcName → Option Value} {mg mb : Str → Option Value} {dp un : Nat} {gd : Option (List Code)} {cn : Str} {cs : Scope} {a : Addr} {ccd : Value} {cl : List (Str × Addr)} {outer : List Env} {A₀ : Around} {base h₀ : Heap} {L : Addr} {m : Str → Option Value} {s : Shared} {Q E : Value → Shared → Prop} {C : LexC} {vtok v2 : Tok} {p : Int} (hb : C.buf.length ≤ 1000) (hp : p = C.buf.length) (hC : C.Ok)
  (B : Below A₀ base outer h₀) (F : Fr h₀ L s.heap m) (X : (Mine.hd.heap_39 w.params).In h₀) (T : Top pp ll mean mg mb h₀) (hk : cs.kind = .function)  (N : News h₀ L s.heap (C.led w .none (Str.ofString "") vtok p v2)) (hd : dp + 12 < recursionLimit) (hu : un + 90 < cLine)
  (ret : ∀ h' tk' vtok', Fr h₀ L h' m → News h₀ L h' (C.led w .none (Str.ofString "") vtok' p v2) → Q .none { s with heap := h', toks := tk' }) :
  wpAny (model Challenge.rw_of0095_01.row.prog w) (ktrTop dp un gd cn cs L a ccd cl outer) (call (.ref 740) [.ref C.x]) Q E s := by
  w_top off; revert X; k_fill; intro X
  have hC0 := hC
  obtain ⟨l1, l2, l3, l4, l5, r1, r2⟩ := hC0
  refine wpAny_call ?_
  k_dflt k_enter
  k_steps
  exact ret _ _ _ (by k_asm) (by k_asm)
end

theorem stop_weak {M : Model} {A : Around} {E : Value → Shared → Prop} {s : Shared} {base : Heap} {Q : Option Value → Shared → Prop} {l : List Env} {e t : Addr} {vs : List Value} {news : List (Addr × Obj)}
    (R : RaisedK base l e (.type "StopIteration") t vs news s.heap) (k : base.StaysIn s.heap → (∀ q ∈ news, s.heap.get? q.1 = some q.2 ∧ base.get? q.1 = none) → Q none s) : OwitStop M A Q E (.ref e) s := by
  obtain ⟨⟨B, hB, hl, hfl, _⟩, _⟩ := R
  have hf' := flyingW_base hB hfl
  obtain ⟨ob, hob, hobc⟩ := hf'.there
  have hT : s.TypeIs (.ref e) "StopIteration" := (show ∃ o, s.heap.get? e = some o ∧ o.cls = .type "StopIteration" from ⟨ob, hob, hobc⟩)
  unfold OwitStop
  refine wpAny_isInstance hT (by first | rfl | kernel_rfl | decide) ?_
  show (if true = true then Q none s else E (.ref e) s)
  rw [if_pos rfl]
  exact k hf'.1 fun q hq => ⟨hfl.1 _ _ (hl q hq).1, (hl q hq).2⟩

section
local macro_rules | `(tactic| walk_at "pad0") => `(tactic| fail)
local macro_rules | `(tactic| walk_at "pad1") => `(tactic| fail)
local macro_rules | `(tactic| walk_at "pad2") => `(tactic| fail)
local macro_rules | `(tactic| walk_at "pad3") => `(tactic| fail)
local macro_rules | `(tactic| walk_at "pad4") => `(tactic| fail)
local macro_rules | `(tactic| walk_at "pad5") => `(tactic| fail)
local macro_rules | `(tactic| walk_at "call ref") => `(tactic| (k_here; k_dflt ((show wpAny _ _ (call (Value.ref 740) [Value.ref _]) _ _ _); refine' gt1 ?c0 ?c1 ?c2 ?c3 ?c4 ?c5 ?c6 ?c7 ?c8 ?c9 ?k1 ?k2 ?k3 ?k5 ?kK ?k4 ?kd ?ku ?_; (case k4 => k_asm); (case k1 => k_asm); (case k2 => k_asm); (case k3 => k_asm); (case k5 => k_asm); (case kK => first | exact rfl | assumption); (case kd => k_room); (case ku => (have hcL9 := cLine_is; (try simp only [units_in1, units_deeper, Around.mark_units, units_caller]); (try dsimp only [ktrTop]); omega)); (case c0 => assumption); (case c1 => assumption); (case c2 => assumption); (case c3 => assumption); (case c4 => assumption); (case c5 => assumption); (case c6 => assumption); (case c7 => assumption); (case c8 => assumption); (case c9 => assumption)); intro h' tk' t' stv' vtok' p' v2' F' N' hE'; (try dsimp only); (try k_sweep)))
theorem nx1 {w : World} {pp : Program} {ll : List Str} {mean : ExcName → Option Value} {mg mb : Str → Option Value} {dp un : Nat} {gd : Option (List Code)} {cn : Str} {cs : Scope} {a : Addr} {ccd : Value} {cl : List (Str × Addr)} {outer : List Env} {A₀ : Around} {base h₀ : Heap} {L : Addr} {m : Str → Option Value} {s : Shared} {Q : Option Value → Shared → Prop} {E : Value → Shared → Prop} {C : LexC} (hwc : (Builtin.Str.occurrences C.wc (Str.ofString "'") 0 C.wc.length 1).isEmpty = !false) {vst vtok v2 : Tok} {p : Int} {word tl : List Nat} (hb : C.buf.length ≤ 1000) (hp0 : 0 ≤ p) (hp1 : p ≤ C.buf.length) (hc : C.buf.cps.toList.drop p.toNat = 39 :: (word ++ 39 :: tl)) (hw : ∀ c ∈ word, GoodC c) (hwl1 : 0 < (⟨word.toArray⟩ : Str).length) (hwl2 : (⟨word.toArray⟩ : Str).length ≤ 2000) (htl : tl = [] ∨ ∃ tl', tl = 32 :: tl') (hC : C.Ok)
  (B : Below A₀ base outer h₀) (F : Fr h₀ L s.heap m) (X : (Mine.hd.heap_39 w.params).In h₀) (T : Top pp ll mean mg mb h₀) (hk : cs.kind = .function)  (N : News h₀ L s.heap (C.led w (.str (Str.ofString " ") vst) (Str.ofString "") vtok p v2)) (hd : dp + 14 < recursionLimit) (hu : un + 100 < cLine)
  (ret : ∀ h' tk' t stv vtok' p' v2', Fr h₀ L h' m → News h₀ L h' (C.led w stv (Str.ofString "") vtok' p' v2') → RtEnd C tl stv p' → Q (some (.str ⟨word.toArray⟩ t)) { s with heap := h', toks := tk' }) :
  wpAny (model Challenge.rw_of0095_01.row.prog w) (ktrTop dp un gd cn cs L a ccd cl outer) (pyNext (.ref C.x)) Q E s := by
  w_top off; revert X; k_fill; intro X
  have hC0 := hC
  obtain ⟨l1, l2, l3, l4, l5, r1, r2⟩ := hC0
  k_dflt (refine' owit_next ?kF ?kX ?kI ?ks ?kf ?_; (case kF => k_asm); (case kX => k_asm); (case kI => k_inst); (case ks => k_is); (case kf => k_is))
  refine wpAny_call ?_
  k_dflt k_enter
  k_steps
  exact ret _ _ _ _ _ _ _ (by k_asm) (by k_asm) (by assumption)
end

section
local macro_rules | `(tactic| walk_at "pad0") => `(tactic| fail)
local macro_rules | `(tactic| walk_at "pad1") => `(tactic| fail)
local macro_rules | `(tactic| walk_at "pad2") => `(tactic| fail)
local macro_rules | `(tactic| walk_at "pad3") => `(tactic| fail)
local macro_rules | `(tactic| walk_at "pad4") => `(tactic| fail)
local macro_rules | `(tactic| walk_at "pad5") => `(tactic| fail)
local macro_rules | `(tactic| walk_at "pad6") => `(tactic| fail)
local macro_rules | `(tactic| walk_at "pad7") => `(tactic| fail)
local macro_rules | `(tactic| walk_at "pad8") => `(tactic| fail)
local macro_rules | `(tactic| walk_at "call ref") => `(tactic| (k_here; k_dflt ((show wpAny _ _ (call (Value.ref 740) [Value.ref _]) _ _ _); refine' gt2 ?c1 ?c2 ?c9 ?k1 ?k2 ?k3 ?k5 ?kK ?k4 ?kd ?ku ?_; (case k4 => k_asm); (case k1 => k_asm); (case k2 => k_asm); (case k3 => k_asm); (case k5 => k_asm); (case kK => first | exact rfl | assumption); (case kd => k_room); (case ku => (have hcL9 := cLine_is; (try simp only [units_in1, units_deeper, Around.mark_units, units_caller]); (try dsimp only [ktrTop]); omega)); (case c1 => assumption); (case c2 => assumption); (case c9 => assumption)); intro h' tk' vtok' F' N'; (try dsimp only); (try k_sweep)))
theorem nx2 {w : World} {pp : Program} {ll : List Str} {mean : ExcName → Option Value} {mg mb : Str → Option Value} {dp un : Nat} {gd : Option (List Code)} {cn : Str} {cs : Scope} {a : Addr} {ccd : Value} {cl : List (Str × Addr)} {outer : List Env} {A₀ : Around} {base h₀ : Heap} {L : Addr} {m : Str → Option Value} {s : Shared} {Q : Option Value → Shared → Prop} {E : Value → Shared → Prop} {C : LexC} {vtok v2 : Tok} {p : Int} (hb : C.buf.length ≤ 1000) (hp : p = C.buf.length) (hC : C.Ok)
  (B : Below A₀ base outer h₀) (F : Fr h₀ L s.heap m) (X : (Mine.hd.heap_39 w.params).In h₀) (T : Top pp ll mean mg mb h₀) (hk : cs.kind = .function)  (N : News h₀ L s.heap (C.led w .none (Str.ofString "") vtok p v2)) (hd : dp + 14 < recursionLimit) (hu : un + 100 < cLine)
  (ret : ∀ g1 h' tk' vtok', Fr h₀ L g1 m → g1.UpToSlots h' → base.StaysIn h' → (∀ q ∈ C.led w .none (Str.ofString "") vtok' p v2, h'.get? q.1 = some q.2 ∧ base.get? q.1 = none) → Q none { s with heap := h', toks := tk' }) :
  wpAny (model Challenge.rw_of0095_01.row.prog w) (ktrTop dp un gd cn cs L a ccd cl outer) (pyNext (.ref C.x)) Q E s := by
  w_top off; revert X; k_fill; intro X
  have hC0 := hC
  obtain ⟨l1, l2, l3, l4, l5, r1, r2⟩ := hC0
  k_dflt (refine' owit_next ?kF ?kX ?kI ?ks ?kf ?_; (case kF => k_asm); (case kX => k_asm); (case kI => k_inst); (case ks => k_is); (case kf => k_is))
  refine wpAny_call ?_
  k_dflt k_enter
  k_steps
  rename RaisedK _ _ _ _ _ _ _ _ => rkX
  rename Heap.UpToSlots _ _ => upX
  exact stop_weak rkX (fun hs hn => ret _ _ _ _ (by assumption) upX hs hn)
end
end Mine

end
section
open PySem PySem.W PyProof.Rows PySem.Calls PySem.W.X
set_option maxRecDepth 100000
set_option maxHeartbeats 0
namespace Mine

/-- what the quoted words look like in the stream -/
noncomputable def encW : List (List Nat) → List Nat
  | [] => []
  | [w] => 39 :: (w ++ [39])
  | w :: ws => 39 :: (w ++ 39 :: 32 :: encW ws)
theorem encW_cons (w : List Nat) (ws : List (List Nat)) : ∃ tl, encW (w :: ws) = 39 :: (w ++ 39 :: tl) ∧ ((ws = [] ∧ tl = []) ∨ (ws ≠ [] ∧ tl = 32 :: encW ws)) := by
  cases ws with
  | nil => exact ⟨[], rfl, .inl ⟨rfl, rfl⟩⟩
  | cons v vs => exact ⟨32 :: encW (v :: vs), rfl, .inr ⟨by simp, rfl⟩⟩
noncomputable abbrev lstObj (acc : Array Value) (c : Nat) : Obj := { cls := .type "list", dict := none, data := .seq acc c, slots := #[] }
noncomputable abbrev LexC.wi (C : LexC) (S : Addr) (acc : Array Value) (c : Nat) : LexC := { C with rest := [(S, lstObj acc c)] }
structure GoodW (w : List Nat) : Prop where
  good : ∀ c ∈ w, GoodC c
  pos : 0 < (⟨w.toArray⟩ : Str).length
  le : (⟨w.toArray⟩ : Str).length ≤ 2000
/-- the items are these texts -/
noncomputable def Texts (acc : Array Value) (ws : List (List Nat)) : Prop := ∃ ts : List Tok, ts.length = ws.length ∧ acc.toList = (ws.zip ts).map fun p => Value.str ⟨p.1.toArray⟩ p.2
theorem Texts.nil : Texts #[] [] := ⟨[], rfl, rfl⟩
theorem Texts.push {acc : Array Value} {ws : List (List Nat)} (h : Texts acc ws) (w : List Nat) (t : Tok) : Texts (acc.push (.str ⟨w.toArray⟩ t)) (ws ++ [w]) := by
  obtain ⟨ts, h1, h2⟩ := h
  refine ⟨ts ++ [t], by simp [h1], ?_⟩
  rw [Array.toList_push, h2, List.zip_append h1.symm]
  simp
theorem Texts.size {acc : Array Value} {ws : List (List Nat)} (h : Texts acc ws) : acc.size = ws.length := by
  obtain ⟨ts, h1, h2⟩ := h
  rw [← Array.length_toList, h2]; simp [h1]
theorem news_upd {h₀ h : Heap} {L S : Addr} {o : Obj} {pre : List (Addr × Obj)} {f : Obj → Obj} (N : News h₀ L h (pre ++ [(S, o)])) (hS : ∀ q ∈ pre, q.1 ≠ S) (hf : (f o).isFreed = false) : News h₀ L (h.update S f) (pre ++ [(S, f o)]) := by
  have hs : Heap.SameBut S h (h.update S f) := Heap.SameBut.update ..
  have hm := N (S, o) (by simp)
  intro p hp
  rcases List.mem_append.mp hp with hp | hp
  · have := N p (List.mem_append.mpr (.inl hp))
    exact ⟨(hs.2 _ (hS p hp)).trans this.1, this.2⟩
  · rw [List.mem_singleton.mp hp]
    exact ⟨Heap.get?_update_self f hm.1 hf, hm.2⟩
theorem fr_upd {h₀ h : Heap} {L S : Addr} {m : Str → Option Value} {f : Obj → Obj} (F : Fr h₀ L h m) (hL : S ≠ L) (h0 : h₀.get? S = none) : Fr h₀ L (h.update S f) m := by
  have hs : Heap.SameBut S h (h.update S f) := Heap.SameBut.update ..
  refine ⟨?_, fun b o e => (hs.2 b (fun q => by rw [q, h0] at e; cases e)).trans (F.keep b o e), F.above⟩
  obtain ⟨o, es, ep, ho, r⟩ := F.ns
  exact ⟨o, es, ep, (hs.2 L (Ne.symm hL)).trans ho, r⟩

theorem ext_loop {w : World} {pp : Program} {ll : List Str} {mean : ExcName → Option Value} {mg mb : Str → Option Value} {dp un : Nat} {gd : Option (List Code)} {cn : Str} {cs : Scope} {a : Addr} {ccd : Value} {cl : List (Str × Addr)} {outer : List Env} {A₀ : Around} {base h₀ : Heap} {L : Addr} {m : Str → Option Value} {R : Result → Shared → Prop} {C : LexC} (hC : C.Ok) (hwc : (Builtin.Str.occurrences C.wc (Str.ofString "'") 0 C.wc.length 1).isEmpty = !false) (hb : C.buf.length ≤ 1000) {S : Addr} (s1 : @LT.lt Nat _ C.fs S)
  (B : Below A₀ base outer h₀) (X : (Mine.hd.heap_39 w.params).In h₀) (T : Top pp ll mean mg mb h₀) (hk : cs.kind = .function) (hd : dp + 14 < recursionLimit) (hu : un + 102 < cLine) (all : List (List Nat)) (hlen : all.length ≤ 100) (s : Shared)
  (ret : ∀ g1 h' tk' vtok' v2' acc c, Fr h₀ L g1 m → g1.UpToSlots h' → base.StaysIn h' → (∀ q ∈ (C.wi S acc c).led w .none (Str.ofString "") vtok' C.buf.length v2', h'.get? q.1 = some q.2 ∧ base.get? q.1 = none) → Texts acc all → h₀.get? S = none → R (.ok (.ret .none)) { s with heap := h', toks := tk' }) :
  ∀ (ws : List (List Nat)) (done : List (List Nat)) (h : Heap) (tk : Nat) (stv : Value) (vtok v2 : Tok) (p : Int) (acc : Array Value) (c : Nat), done ++ ws = all → (∀ w ∈ ws, GoodW w) → Texts acc done →
    Fr h₀ L h m → News h₀ L h ((C.wi S acc c).led w stv (Str.ofString "") vtok p v2) → ((ws = [] ∧ stv = .none ∧ p = C.buf.length) ∨ (ws ≠ [] ∧ (∃ t, stv = .str (Str.ofString " ") t) ∧ 0 ≤ p ∧ p ≤ C.buf.length ∧ C.buf.cps.toList.drop p.toNat = encW ws)) →
    codeAny (model Challenge.rw_of0095_01.row.prog w) (ktrTop dp un gd cn cs L a ccd cl outer) (.builtin "list.extend.loop" ⟨[.ref S, .ref C.x, .none], []⟩) R { s with heap := h, toks := tk } := by
  have okW : ∀ acc c, (C.wi S acc c).Ok := fun acc c => ⟨hC.l1, hC.l2, hC.l3, hC.l4, hC.l5, fun q hq => by
      rw [List.mem_singleton.mp hq]; have := hC.l1; have := hC.l2; have := hC.l3; have := hC.l4; have := hC.l5; exact neN (by show @Ne Nat S C.dx; omega), fun q hq => by
      rw [List.mem_singleton.mp hq]; have := hC.l3; have := hC.l4; have := hC.l5; exact neN (by show @Ne Nat S C.dsx; omega)⟩
  intro ws
  induction ws with
  | nil =>
    intro done h tk stv vtok v2 p acc c hall hgood hacc F N hst
    rcases hst with ⟨_, rfl, rfl⟩ | ⟨q, _⟩
    · refine codeAny_builtin PySem.F.entry_extend_loop ?_
      rw [Around.under_plainId PySem.F.plain_extend_loop _]
      show wpAny _ _ (pyNext (.ref C.x) >>= _) _ _ _
      refine wpAny_bind ?_
      refine nx2 (C := C.wi S acc c) (un := un + 1) (s := { s with heap := h, toks := tk }) hb rfl (okW _ _) B F X T hk N hd (by omega) ?_
      intro g1 h' tk' vtok' F1 U1 S1 N1
      refine wpAny_pure ?_
      rw [List.append_nil] at hall
      subst hall
      exact ret g1 h' tk' vtok' v2 acc c F1 U1 S1 N1 hacc (N (S, lstObj acc c) (by simp)).2.2
    · exact absurd rfl q
  | cons wd ws ih =>
    intro done h tk stv vtok v2 p acc c hall hgood hacc F N hst
    rcases hst with ⟨q, _⟩ | ⟨_, ⟨t, rfl⟩, hp0, hp1, hdrop⟩
    · cases q
    · obtain ⟨tl, he, htl⟩ := encW_cons wd ws
      rw [he] at hdrop
      obtain ⟨g1, g2, g3⟩ := hgood wd (.head _)
      refine codeAny_builtin PySem.F.entry_extend_loop ?_
      rw [Around.under_plainId PySem.F.plain_extend_loop _]
      show wpAny _ _ (pyNext (.ref C.x) >>= _) _ _ _
      refine wpAny_bind ?_
      refine nx1 (C := C.wi S acc c) (un := un + 1) (s := { s with heap := h, toks := tk }) hwc hb hp0 hp1 hdrop g1 g2 g3 ?htl (okW _ _) B F X T hk N hd (by omega) ?_
      case htl => exact htl.elim (fun q => .inl q.2) fun q => .inr ⟨_, q.2⟩
      intro h' tk' t' stv' vtok' p' v2' F1 N1 hE
      have hSm := N1 (S, lstObj acc c) (by simp)
      show wpAny _ _ (updateSeq S (·.push (Value.str ⟨wd.toArray⟩ t')) >>= _) _ _ _
      refine wpAny_bind ?_
      have hsz := hacc.size
      have hdl : done.length ≤ 100 := by rw [← hall] at hlen; simp at hlen; omega
      refine wpAny_updateSeq hSm.1 rfl (wpAny_pure ⟨plainId_quiet PySem.F.plain_extend_loop _, ?_⟩) (by rw [hsz, sizeLine_eq]; omega) (by show (acc.push _).size ≤ sizeLine + 1; rw [Array.size_push, hsz, sizeLine_eq]; omega)
      refine' ih (done ++ [wd]) _ _ stv' vtok' v2' p' (acc.push (.str ⟨wd.toArray⟩ t')) _ (by rw [← hall]; simp) (fun w hw => hgood w (.tail _ hw)) (hacc.push wd t') (fr_upd F1 hSm.2.1 hSm.2.2) ?nw ?st
      case nw => 
        have N2 := news_upd (pre := [(C.sx, instObj 644 C.dsx), (C.dsx, sioD w C.k0 C.v0 C.k1 C.buf C.v1 C.k2 p' v2'), (C.x, instObj 779 C.dx), (C.dx, lexD w C.k C.v C.sx C.pb C.fs C.wc stv' (Str.ofString "") vtok'), (C.pb, dequeObj), (C.fs, dequeObj)]) (S := S) (o := lstObj acc c) (f := Obj.mapSeq (·.push (Value.str ⟨wd.toArray⟩ t'))) N1 ?hne rfl
        case hne =>
          have := hC.l1; have := hC.l2; have := hC.l3; have := hC.l4; have := hC.l5
          intro q hq
          simp only [List.mem_cons, List.not_mem_nil, or_false] at hq
          rcases hq with rfl | rfl | rfl | rfl | rfl | rfl <;> exact neN (by show @Ne Nat _ S; dsimp only; omega)
        exact N2
      case st =>
        rcases hE with ⟨e1, e2, e3⟩ | ⟨tl', t2, e1, e2, e3, e4, e5⟩
        · rcases htl with ⟨q1, q2⟩ | ⟨q1, q2⟩
          · exact .inl ⟨q1, e2, e3⟩
          · rw [e1] at q2; cases q2
        · rcases htl with ⟨q1, q2⟩ | ⟨q1, q2⟩
          · rw [q2] at e1; cases e1
          · rw [q2] at e1
            cases e1
            exact .inr ⟨q1, ⟨_, e2⟩, e3, e4, e5⟩
end Mine

end
section
open PySem PySem.W PyProof.Rows PySem.Calls PySem.W.X
set_option maxRecDepth 100000
set_option maxHeartbeats 0
namespace Mine

theorem it1 {w : World} {pp : Program} {ll : List Str} {mean : ExcName → Option Value} {mg mb : Str → Option Value} {dp un : Nat} {gd : Option (List Code)} {cn : Str} {cs : Scope} {a : Addr} {ccd : Value} {cl : List (Str × Addr)} {outer : List Env} {A₀ : Around} {base h₀ : Heap} {L : Addr} {m : Str → Option Value} {s : Shared} {Q E : Value → Shared → Prop} {x dx : Addr} {rest : List (Addr × Obj)}
  (B : Below A₀ base outer h₀) (F : Fr h₀ L s.heap m) (X : (Mine.hd.heap_39 w.params).In h₀) (T : Top pp ll mean mg mb h₀) (hk : cs.kind = .function) (N : News h₀ L s.heap ((x, instObj 779 dx) :: rest)) (hd : dp + 4 < recursionLimit)
  (ret : ∀ h' tk', Fr h₀ L h' m → News h₀ L h' ((x, instObj 779 dx) :: rest) → Q (.ref x) { s with heap := h', toks := tk' }) :
  wpAny (model Challenge.rw_of0095_01.row.prog w) (ktrTop dp un gd cn cs L a ccd cl outer) (call (.ref 769) [.ref x]) Q E s := by
  w_top off; revert X; k_fill; intro X
  refine wpAny_call ?_
  k_dflt k_enter
  k_steps
  exact ret _ _ (by k_asm) (by k_asm)
theorem findIter (w : World) : findIn (Mine.hd.heap_39 w.params) (.ref 779) "__iter__" = some (some (.ref 769)) := by kernel_rfl
theorem findNext (w : World) : findIn (Mine.hd.heap_39 w.params) (.ref 779) "__next__" = some (some (.ref 776)) := by kernel_rfl
theorem findLen (w : World) : findIn (Mine.hd.heap_39 w.params) (.ref 779) "__len__" = some none := by kernel_rfl
theorem findHint (w : World) : findIn (Mine.hd.heap_39 w.params) (.ref 779) "__length_hint__" = some none := by kernel_rfl
theorem fnIter (w : World) : isFn (Mine.hd.heap_39 w.params) (.ref 769) = true := by kernel_rfl
theorem led_swap {h₀ h : Heap} {L : Addr} {a b c : Addr × Obj} {r : List (Addr × Obj)} (N : News h₀ L h (a :: b :: c :: r)) : News h₀ L h (c :: a :: b :: r) := fun p hp => N p (by
  rcases List.mem_cons.mp hp with rfl | hp
  · exact .tail _ (.tail _ (.head _))
  · rcases List.mem_cons.mp hp with rfl | hp
    · exact .head _
    · rcases List.mem_cons.mp hp with rfl | hp
      · exact .tail _ (.head _)
      · exact .tail _ (.tail _ (.tail _ hp)))
theorem led_back {h₀ h : Heap} {L : Addr} {a b c : Addr × Obj} {r : List (Addr × Obj)} (N : News h₀ L h (c :: a :: b :: r)) : News h₀ L h (a :: b :: c :: r) := led_swap (led_swap N)
theorem upd_wi {w : World} {h₀ h : Heap} {L S : Addr} {m : Str → Option Value} {C : LexC} (hC : C.Ok) (s1 : @LT.lt Nat _ C.fs S) {stv : Value} {tok : Str} {vtok v2 : Tok} {p : Int} {acc : Array Value} {c : Nat} (f : Array Value → Array Value)
    (F : Fr h₀ L h m) (N : News h₀ L h ((C.wi S acc c).led w stv tok vtok p v2)) : Fr h₀ L (h.update S (Obj.mapSeq f)) m ∧ News h₀ L (h.update S (Obj.mapSeq f)) ((C.wi S (f acc) (if (f acc).size == acc.size then c else c + 1)).led w stv tok vtok p v2) := by
  have hSm := N (S, lstObj acc c) (by simp)
  refine ⟨fr_upd F hSm.2.1 hSm.2.2, ?_⟩
  have N2 := news_upd (pre := [(C.sx, instObj 644 C.dsx), (C.dsx, sioD w C.k0 C.v0 C.k1 C.buf C.v1 C.k2 p v2), (C.x, instObj 779 C.dx), (C.dx, lexD w C.k C.v C.sx C.pb C.fs C.wc stv tok vtok), (C.pb, dequeObj), (C.fs, dequeObj)]) (S := S) (o := lstObj acc c) (f := Obj.mapSeq f) N ?hne rfl
  case hne =>
    have := hC.l1; have := hC.l2; have := hC.l3; have := hC.l4; have := hC.l5
    intro q hq
    simp only [List.mem_cons, List.not_mem_nil, or_false] at hq
    rcases hq with rfl | rfl | rfl | rfl | rfl | rfl <;> exact neN (by show @Ne Nat _ S; dsimp only; omega)
  exact N2
theorem hint_none {M : Model} {A : Around} {E : Value → Shared → Prop} {s : Shared} {x : Addr} {Q : Bool → Shared → Prop} (h1 : Looks M s.heap (specialOf (.ref x) "__len__") none) (h2 : Looks M s.heap (specialOf (.ref x) "__length_hint__") none) (h : Q true s) : wpAny M A (Builtin.List.listLengthHint (.ref x)) Q E s := by
  unfold Builtin.List.listLengthHint
  refine wpAny_bind (h1.here ?_)
  show wpAny M A (specialOf (.ref x) "__length_hint__" >>= _) Q E s
  refine wpAny_bind (h2.here ?_)
  exact wpAny_pure h
theorem list_lex {w : World} {pp : Program} {ll : List Str} {mean : ExcName → Option Value} {mg mb : Str → Option Value} {dp un : Nat} {gd : Option (List Code)} {cn : Str} {cs : Scope} {a : Addr} {ccd : Value} {cl : List (Str × Addr)} {outer : List Env} {A₀ : Around} {base h₀ : Heap} {L : Addr} {m : Str → Option Value} {s : Shared} {Q E : Value → Shared → Prop} {C : LexC} (hC : C.Ok) (hr0 : C.rest = []) (hwc : (Builtin.Str.occurrences C.wc (Str.ofString "'") 0 C.wc.length 1).isEmpty = !false) (hb : C.buf.length ≤ 1000)
  (all : List (List Nat)) (hne : all ≠ []) (hlen : all.length ≤ 100) (hgood : ∀ w ∈ all, GoodW w) (hbuf : C.buf.cps.toList = encW all) {vst vtok v2 : Tok}
  (B : Below A₀ base outer h₀) (F : Fr h₀ L s.heap m) (X : (Mine.hd.heap_39 w.params).In h₀) (T : Top pp ll mean mg mb h₀) (hk : cs.kind = .function) (N : News h₀ L s.heap (C.led w (.str (Str.ofString " ") vst) (Str.ofString "") vtok 0 v2)) (hd : dp + 14 < recursionLimit) (hu : un + 106 < cLine)
  (ret : ∀ S g1 h' tk' vtok' v2' acc c, Fr h₀ L g1 m → g1.UpToSlots h' → base.StaysIn h' → (∀ q ∈ (C.wi S acc c).led w .none (Str.ofString "") vtok' C.buf.length v2', h'.get? q.1 = some q.2 ∧ base.get? q.1 = none) → Texts acc all → h₀.get? S = none → Q (.ref S) { s with heap := h', toks := tk' }) :
  wpAny (model Challenge.rw_of0095_01.row.prog w) (ktrTop dp un gd cn cs L a ccd cl outer) (call (.type "list") [.ref C.x]) Q E s := by
  have hS : (s.heap.push { cls := .type "list", data := .seq #[] }).get? s.heap.objs.size = some { cls := .type "list", data := .seq #[] } := Heap.get?_push_size _ rfl
  have F0 : Fr h₀ L (s.heap.push { cls := .type "list", data := .seq #[] }) m := F.push _
  have hlt : ∀ q ∈ C.led w (.str (Str.ofString " ") vst) (Str.ofString "") vtok 0 v2, @LT.lt Nat _ q.1 s.heap.objs.size := fun q hq => Heap.lt_size (N q hq).1
  have s1 : @LT.lt Nat _ C.fs s.heap.objs.size := hlt (C.fs, dequeObj) (by simp)
  have sx : @LT.lt Nat _ C.x s.heap.objs.size := hlt (C.x, instObj 779 C.dx) (by simp)
  have N00 := N.push F ({ cls := .type "list", data := .seq #[] } : Obj)
  have N0 : News h₀ L (s.heap.push { cls := .type "list", data := .seq #[] }) ((C.wi s.heap.objs.size #[] 0).led w (.str (Str.ofString " ") vst) (Str.ofString "") vtok 0 v2) := by
    intro q hq
    refine N00 q ?_
    simp only [LexC.led, lexLed, LexC.wi, hr0, List.mem_cons, List.not_mem_nil, or_false] at hq ⊢
    rcases hq with h | h | h | h | h | h | h <;> simp [h]
  refine callType_codes (Q₁ := fun obj s₁ => obj = .ref s.heap.objs.size ∧ s₁ = { s with heap := s.heap.push { cls := .type "list", data := .seq #[] } }) PySem.F.called_list (PySem.F.typeCall_list_1 _) PySem.F.entry_list_init
    (code_list_new _ ⟨rfl, rfl⟩) fun obj s₁ h₁ => ?_
  obtain ⟨rfl, rfl⟩ := h₁
  refine ⟨⟨_, hS, rfl⟩, PySem.F.args_list_init_2 _ _, ?_⟩
  show wpAny _ _ (do let old ← Builtin.List.listItems (.ref s.heap.objs.size); Builtin.List.listUpdate (.ref s.heap.objs.size) (fun _ => #[]); letGo old.toList.reverse; Builtin.List.listExtendWith (.ref s.heap.objs.size) (.ref C.x) .none) _ _ _
  refine wpAny_bind ?_
  unfold Builtin.List.listItems
  refine wpAny_bind (wpAny_seqItems hS rfl (wpAny_pure ?_))
  show wpAny _ _ (updateSeq s.heap.objs.size (fun _ => #[]) >>= fun _ => letGo (#[] : Array Value).toList.reverse >>= fun _ => Builtin.List.listExtendWith (.ref s.heap.objs.size) (.ref C.x) .none) _ _ _
  refine wpAny_bind (wpAny_updateSeq hS rfl ?_)
  obtain ⟨F1, N1⟩ := upd_wi hC s1 (fun _ => (#[] : Array Value)) F0 N0
  refine wpAny_bind (wpAny_letGo ?_)
  generalize hh1 : (s.heap.push { cls := .type "list", data := .seq #[] }).update s.heap.objs.size (Obj.mapSeq fun _ => (#[] : Array Value)) = h1 at F1 N1 ⊢
  have hx1 : h1.get? C.x = some (instObj 779 C.dx) := (N1 (C.x, instObj 779 C.dx) (by simp)).1
  have I1 : ∀ h2 : Heap, News h₀ L h2 ((C.wi s.heap.objs.size #[] 0).led w (.str (Str.ofString " ") vst) (Str.ofString "") vtok 0 v2) → InstAt h2 C.x (instObj 779 C.dx) 779 (some (lexD w C.k C.v C.sx C.pb C.fs C.wc (.str (Str.ofString " ") vst) (Str.ofString "") vtok)) := fun h2 N2 => InstAt.of_news N2 (by simp) (by simp)
  unfold Builtin.List.listExtendWith
  refine wpAny_bind ((I1 h1 N1).type.here ?_)
  have q1 : Builtin.List.listSameRef (.ref s.heap.objs.size) (.ref C.x) = false := by
    have : @Ne Nat s.heap.objs.size C.x := by omega
    simp [Builtin.List.listSameRef, this]
  have q2 : (Value.ref 779 == Value.type "list") = false := by decide
  have q3 : (Value.ref 779 == Value.type "tuple") = false := by decide
  simp only [q1, q2, q3, Bool.or_false, Bool.false_eq_true, if_false]
  refine wpAny_bind (owit_iter (m := m) F1 X (I1 h1 N1) (findIter w) (fnIter w) ?_)
  refine it1 (dp := dp) (un := un + 2) (s := { s with heap := h1 }) B F1 X T hk (led_swap N1) (by omega) ?_
  intro h2 tk2 F2 N2'
  have N2 := led_back N2'
  refine owit_it (m := m) F2 X (I1 h2 N2) (findNext w) ?_
  have X2 := X.keeps F2.keep
  refine wpAny_bind (wpAny_holding (hint_none ((I1 h2 N2).type.andThen (looks_findIn X2 (findLen w))) ((I1 h2 N2).type.andThen (looks_findIn X2 (findHint w))) ?_))
  show wpAny _ _ (rule "list.extend.makes-room" >>= fun _ => Builtin.List.listTouch (.ref s.heap.objs.size) >>= fun _ => again (.builtin "list.extend.loop" ⟨[.ref s.heap.objs.size, .ref C.x, .none], []⟩)) _ _ _
  refine wpAny_bind (wpAny_rule ?_)
  refine wpAny_bind ?_
  show wpAny _ _ (updateSeq s.heap.objs.size (·.push .none) >>= fun _ => updateSeq s.heap.objs.size (·.pop)) _ _ _
  have hS2 := (N2 (s.heap.objs.size, lstObj #[] 0) (by simp)).1
  refine wpAny_bind (wpAny_updateSeq hS2 rfl ?_)
  obtain ⟨F3, N3⟩ := upd_wi hC s1 (fun xs => xs.push Value.none) F2 N2
  have hS3 := Heap.get?_update_self (Obj.mapSeq (·.push Value.none)) hS2 rfl
  refine wpAny_updateSeq (hz := by seq_fits) hS3 rfl ?_
  obtain ⟨F4, N4⟩ := upd_wi hC s1 (fun xs => xs.pop) F3 N3
  refine wpAny_pure ⟨plainId_quiet PySem.F.plain_extend_loop _, ?_⟩
  refine ext_loop (un := un + 1) hC hwc hb s1 B X T hk hd (by omega) all hlen _ ?_ all [] _ _ _ vtok v2 0 #[] _ rfl hgood Texts.nil F4 N4 (.inr ⟨hne, ⟨_, rfl⟩, by omega, by omega, hbuf⟩)
  intro g1 h' tk' vtok' v2' acc c f1 u1 b1 n1 t1 z1
  exact ⟨rfl, ret _ g1 h' tk' vtok' v2' acc c f1 u1 b1 n1 t1 z1⟩
end Mine

end
section
open PySem PySem.W PyProof.Rows PySem.Calls PySem.W.X
set_option maxRecDepth 100000
set_option maxHeartbeats 0
namespace Mine
theorem k_cls (w : World) : ((clsIn (Mine.hd.heap_39 w.params) 644).map fun cd => (cd.abstract, cd.hasDel, cd.mro)) = some (false, false, [.ref 644, .ref 167, .ref 140, .type "object"]) := by kernel_rfl
theorem k_obj (w : World) : ∃ oc od cd sl, (Mine.hd.heap_39 w.params).lookup 644 = some ⟨oc, od, .cls cd, sl⟩ ∧ cd.abstract = false ∧ cd.hasDel = false ∧ cd.mro = [.ref 644, .ref 167, .ref 140, .type "object"] := by
  have := k_cls w
  unfold clsIn at this
  split at this
  · rename_i oc od cd sl e
    simp only [Option.map_some, Option.some.injEq, Prod.mk.injEq] at this
    exact ⟨_, _, _, _, e, this.1, this.2.1, this.2.2⟩
  · cases this
theorem k_call (w : World) : specialIn (Mine.hd.heap_39 w.params) (.ref 644) "__call__" = some (some (.builtin "type.__call__")) := by kernel_rfl
theorem k_typ (w : World) : instIn (Mine.hd.heap_39 w.params) (.ref 644) (.type "type") = some true := by kernel_rfl
theorem k_init (w : World) : findIn (Mine.hd.heap_39 w.params) (.ref 644) "__init__" = some (some (.ref 414)) := by kernel_rfl
theorem k_fnI (w : World) : typeIn (Mine.hd.heap_39 w.params) (.ref 414) = some (.type "function") := by kernel_rfl
theorem k_mroS (w : World) : mroIn (Mine.hd.heap_39 w.params) 644 (.ref 644) = some true := by kernel_rfl
theorem k_made (w : World) : peek (Mine.hd.heap_39 w.params) ⟨Challenge.rw_of0095_01.row.prog, w.params⟩ (Bind.madeBy (.ref 644)) = some none := by kernel_rfl
theorem k_new (w : World) : findCls (Mine.hd.heap_39 w.params) (.ref 644) (.type "type") "__new__" = some (.get (.builtin "staticmethod.__get__") (.ref 141) .none (.ref 644)) := by kernel_rfl
theorem k_stat (w : World) : recIn (Mine.hd.heap_39 w.params) 141 "staticmethod" = some [.ref 137] := by kernel_rfl
/-- what the class's own maker is held to: a new object, then its __init__ -/
noncomputable def NewBack (w : World) (A : Around) (rest : List Value) (R : Result → Shared → Prop) (r : Result) (s' : Shared) : Prop := match r with
  | .ok (.ret v) => ∃ x dx, v = .ref x ∧ s'.heap.get? x = some (instObj 644 dx) ∧ (Mine.hd.heap_39 w.params).In s'.heap ∧ codeAny (model Challenge.rw_of0095_01.row.prog w) A (.call (.ref 414) ⟨.ref x :: rest, []⟩) (InitBack x R) s'
  | .ok _ => False
  | .error e => R (.error e) s'
theorem make_new {w : World} {A : Around} {s : Shared} {h₀ : Heap} {L : Addr} {m : Str → Option Value} {R : Result → Shared → Prop} {rest : List Value} (F : Fr h₀ L s.heap m) (X : (Mine.hd.heap_39 w.params).In h₀)
    (hnew : codeAny (model Challenge.rw_of0095_01.row.prog w) (A.under (.builtin "type.__call__" ⟨.ref 644 :: rest, []⟩)) (.call (.ref 137) ⟨.ref 644 :: rest, []⟩) (NewBack w (A.under (.builtin "type.__call__" ⟨.ref 644 :: rest, []⟩)) rest R) { s with toks := s.toks + 1 }) :
    codeAny (model Challenge.rw_of0095_01.row.prog w) A (.call (.ref 644) ⟨rest, []⟩) R s := by
  have Xs := X.keeps F.keep
  obtain ⟨oc, od, cd, sl, hK, e1, e2, e4⟩ := k_obj w
  have hC := Xs _ _ hK
  have call : Looks (model Challenge.rw_of0095_01.row.prog w) s.heap (specialOf (.ref 644) "__call__") (some (.builtin "type.__call__")) := looks_specialIn Xs (k_call w)
  have typ : Looks (model Challenge.rw_of0095_01.row.prog w) s.heap (isInstance (.ref 644) (.type "type")) true := looks_instIn Xs (k_typ w)
  have made : Looks (model Challenge.rw_of0095_01.row.prog w) s.heap (Bind.madeBy (.ref 644)) none := Looks.of_peek Xs (k_made w)
  obtain ⟨h, g, d, t, os⟩ := s
  refine codeAny_of_tree ?_
  show wpAny _ _ (callAny (.ref 644) _) _ _ _
  refine nd_load hC ?_
  show wpAny _ _ (callAny.viaDunder (.ref 644) _) _ _ _
  unfold callAny.viaDunder
  refine wpAny_bind (call.at ?_)
  dsimp only
  rw [tc_bind]
  refine wpAny_bind (wpAny_pure (wpAny_bind (wpAny_pure ?_)))
  refine wpAny_pure (a := Fin.again (.call (.builtin "type.__call__") ⟨.ref 644 :: rest, []⟩)) (And.intro rfl ?_)
  refine codeAny_call_builtin_at (Code.quiet_builtin _ (by decide +kernel)) entry_typeCall (check_slot tc_kind tc_split typ (tc_args _ _ _) ?_)
  unfold Builtin.«type.__call__»
  have hm : Looks (model Challenge.rw_of0095_01.row.prog w) h (mroOf (.ref 644)) cd.mro := ((Looks.ld (part := none) hC).andThen .now).andThen .now
  have e5 : cd.mro.isEmpty = false := by rw [e4]; rfl
  dsimp only
  generalize hG : getAttr (Value.ref 644) (Str.ofString "__new__") = G
  repeat (first | simp only [e5, Bool.false_eq_true, if_false] | with_reducible refine wpAny_call ?_ | lk)
  rw [← hG]
  refine cls_sm (K := Mine.hd.heap_39 w.params) (s := ⟨h, g, d, t, os⟩) (mc := .type "type") (p := 141) (f := .ref 137) F X (by kernel_rfl) (by kernel_rfl) (k_new w) (k_stat w) rfl ?_
  dsimp only
  refine wpAny_bind (wpAny_holding (wpAny_call (codeAny_mono hnew fun r s' z => ?_)))
  rcases r with e | (v | _ | _ | _) <;> first | exact z | exact z.elim | skip
  obtain ⟨x, dx, rfl, hx, Xs', hq⟩ := z
  obtain ⟨h', g', d', t', os'⟩ := s'
  have t1 : Looks (model Challenge.rw_of0095_01.row.prog w) h' (typeOf (.ref x)) (.ref 644) := (Looks.ld hx).andThen .now
  have s1 : Looks (model Challenge.rw_of0095_01.row.prog w) h' (isSubtype (.ref 644) (.ref 644)) true := looks_mroIn Xs' (k_mroS w)
  have i1 : Looks (model Challenge.rw_of0095_01.row.prog w) h' (typeLookup (.ref 644) "__init__") (some (.ref 414)) := looks_findIn Xs' (k_init w)
  have b1 : Looks (model Challenge.rw_of0095_01.row.prog w) h' (bindSpecial (.ref 414) (.ref x)) (.ref 414, [.ref x]) := bind_fn Xs' (.ref x) (k_fnI w)
  unfold isInstance callSpecial? specialOf
  repeat (first | with_reducible refine wpAny_call ?_ | lk)
  refine codeAny_mono hq fun r s' z => ?_
  rcases r with e | (v | _ | _ | _) <;> first | exact z | exact z.elim | skip
  obtain ⟨rfl, z⟩ := z
  exact wpAny_pure (wpAny_pure z)
end Mine

end
section
open PySem PySem.W PyProof.Rows PySem.Calls PySem.W.X
set_option maxRecDepth 100000
set_option maxHeartbeats 0
namespace Mine

theorem sim_objnew (w : World) (n t : Nat) : simA ⟨Challenge.rw_of0095_01.row.prog, w.params⟩ (Mine.hd.heap_39 w.params) [] n t denZ 200 [] (denZ (.call (.builtin "object.__new__") ⟨[.ref 644], []⟩)) [] 0 (List.replicate 37 0) [] =
    some (.ok (.ret (.ref (n + 1))), [{ cls := .type "dict", data := .dict #[] }, instObj 644 (n + 0)], 0, []) := by kernel_rfl
section
variable {w : World} {A : Around} {s : Shared} {h₀ : Heap} {L : Addr} {m : Str → Option Value} {news : List (Addr × Obj)} {Q E : Value → Shared → Prop}
theorem objnew_call (F : Fr h₀ L s.heap m) (X : (Mine.hd.heap_39 w.params).In h₀) (N : News h₀ L s.heap news)
    (h : ∀ x dx h' tk, Fr h₀ L h' m → News h₀ L h' ((x, instObj 644 dx) :: (dx, dictOf [] 0) :: news) → (∀ p ∈ news, p.1 < dx) → dx < x → Q (.ref x) { s with heap := h', toks := tk }) :
    wpAny (model Challenge.rw_of0095_01.row.prog w) A (call (.builtin "object.__new__") [.ref 644]) Q E s := by
  refine call_A 200 (List.replicate 37 0) (K := Mine.hd.heap_39 w.params) (giv := []) (X.keeps F.keep) (fun _ e => nomatch e) (fun n t => sim_objnew w n t) (fun n t p hp => nomatch hp) (fun h' D => ?_)
  have N1 := D.new F N (j := 0) rfl
  have N2 := D.new F N (j := 1) rfl
  refine h _ _ _ _ (D.fr F) (fun p hp => ?_) (fun p hp => Heap.lt_size (N p hp).1) (Nat.lt_succ_self _)
  rcases List.mem_cons.mp hp with rfl | hp
  · exact N2 _ (.head _)
  · exact N1 p hp
end
local macro_rules | `(tactic| walk_at "exec If") => `(tactic| refine wpAny_If ?_)
local macro_rules | `(tactic| walk_at "call builtin:object.__new__") => `(tactic| (k_here; k_dflt ((with_reducible show wpAny _ _ (call (Value.builtin "object.__new__") [Value.ref 644]) _ _ _); refine' objnew_call ?k1 ?k2 ?k3 ?_; (case k1 => k_asm); (case k2 => k_asm); (case k3 => k_asm)); intro x' d' h' tk' F' N' l1 l2; (try k_lt l1); (try k_lt2 l2); (try k_sweep)))
end Mine

end
section
open PySem PySem.W PyProof.Rows PySem.Calls PySem.W.X
set_option maxRecDepth 100000
set_option maxHeartbeats 0
namespace Mine

/-- a called def's return where the frames below may have been noted by an exception that it caught -/
noncomputable def WkLeave (R : Result → Shared → Prop) (fl : Flow) (s' : Shared) : Prop := R (.ok (.ret (match fl with | .ret v => v | _ => .none))) s'
section
variable {prog : Program} {w : World} {A A₀ : Around} {s : Shared} {K : Frag} {L : Addr} {h₀ base : Heap} {m mg mb : Str → Option Value} {news : List (Addr × Obj)} {p : Program} {loose : List Str} {mean : ExcName → Option Value}
/-- a def called: the callee's ground is the caller's whole heap; what lies in no frame stays whatever is raised and caught within -/
theorem code_defS {env : Env} {outer : List Env} {R : Result → Shared → Prop} {name qual : Str} {params : Arguments} {body : List Stmt} {scope : Scope} {dV kV doc pm cdv ct oc : Value} {an od : Option Addr} {osl : Array (Option Value)} {f : Addr} {args : Args} {binds : List (Str × Value)}
    (B : Below A₀ base outer h₀) (F : Fr h₀ L s.heap m) (X₀ : K.In h₀) (T : Top p loose mean mg mb h₀) (hA : A.frames = some (env :: outer)) (hf : env.frame = some L) (hke : env.scope.kind = .function)
    (ho : K.lookup f = some ⟨oc, od, .func (fnOf name qual params body scope dV kV doc pm an cdv ct), osl⟩) (hcd : codeIn K cdv qual = true) (hroom : A.depth < recursionLimit)
    (hbind : BindsTo s (fnOf name qual params body scope dV kV doc pm an cdv ct) args binds) (hloc : ∀ y ∈ binds, scope.names.lookup y.1 = some .local)
    (h : ∀ L' h₁, Fr s.heap L' h₁ (fun y => binds.reverse.lookup y) → News s.heap L' h₁ [] → Below A (hideAll s.heap ((env :: outer).filterMap (·.frame))) (env :: outer) s.heap → K.In s.heap → Top p loose mean mg mb s.heap →
      wpAny (model prog w) (A.deeper (envOf qual scope L' f cdv)) (execs body (envOf qual scope L' f cdv))
        (fun fl s' => WkLeave R fl s')
        (fun e s' => wpAny (model prog w) (A.deeper (envOf qual scope L' f cdv)) (leaving (envOf qual scope L' f cdv) e) (fun _ s'' => R (.error e) s'') (fun e' s'' => R (.error e') s'') s')
        { s with heap := h₁, toks := s.toks + binds.length })
    (hco : scope.isCoroutine = false) (hgen : scope.isGenerator = false) (hk : scope.kind = .function)
    (hcell : ∀ x ∈ scope.names, x.2 ≠ .cell) : codeAny (model prog w) A (.call (.ref f) args) R s := by
  have B₁ := pushX B F hf hke
  have BG : Below A (hideAll s.heap ((env :: outer).filterMap (·.frame))) (env :: outer) s.heap :=
    ⟨hA, fun b o e => of_hideAll _ e, funFrames_hide B₁.frames (fun e he a ea => List.mem_filterMap.mpr ⟨e, he, ea⟩)⟩
  have Xs := X₀.keeps F.keep
  refine codeAny_call_def (fd := fnOf name qual params body scope dV kV doc pm an cdv ct) (body := body) (binds := binds) hroom (Xs _ _ ho) rfl (T.nolimit.keeps F.keep) (codeRec_of Xs hcd) rfl hbind hcell hloc (fun h₁ hns hk₁ => ?_) hco hgen hk
  exact h s.heap.objs.size h₁ ⟨hns, hk₁, Nat.le_refl _⟩ News.nil BG Xs (T.keeps F.keep)
end
local macro_rules | `(tactic| walk_at "exec If") => `(tactic| refine wpAny_If ?_)
local macro_rules | `(tactic| walk_at "call builtin:object.__new__") => `(tactic| (k_here; k_dflt ((with_reducible show wpAny _ _ (call (Value.builtin "object.__new__") [Value.ref 644]) _ _ _); refine' objnew_call ?k1 ?k2 ?k3 ?_; (case k1 => k_asm); (case k2 => k_asm); (case k3 => k_asm)); intro x' d' h' tk' F' N' l1 l2; (try k_lt l1); (try k_lt2 l2); (try k_sweep)))
local macro_rules | `(tactic| walk_at "call ref") => `(tactic| (k_here; (with_reducible show wpAny _ _ (call (Value.ref 644) [Value.str _ _]) _ _ _); k_dflt (refine' wpAny_call (make_new ?k1 ?k2 ?_); (case k1 => k_asm); (case k2 => k_asm); k_enter)))
local macro_rules | `(tactic| walk_at "NewBack") => `(tactic| (k_here; k_dflt (refine' ⟨_, _, rfl, ?h1, ?h2, ?_⟩; (case h1 => exact News.get (by k_asm) (by k_mem)); (case h2 => k_in); k_enter)))
local macro_rules | `(tactic| walk_at "call type:collections.deque") => `(tactic| (k_here; refine' deque_call ?k1 ?k2 ?_; (case k1 => k_asm); (case k2 => k_asm); intro d' h' tk' F' N' l1; (try k_lt l1); (try k_sweep)))

theorem led_fit {w : World} {h₀ h : Heap} {L fs pb sx dsx D CC x dx : Addr} {oD oC : Obj} {wc tok buf : Str} {stv : Value} {p : Int} {vtok k0 v0 k1 v1 k2 v2 a0 a1 a2 a3 a4 a5 a6 a7 a8 a9 a10 a11 a12 a13 a14 a15 a16 a17 a18 b4 b5 b6 b8 b9 b10 b13 b14 b18 : Tok}
    (N : News h₀ L h [(fs, dequeObj), (pb, dequeObj), (sx, instObj 644 dsx), (dsx, sioD w k0 v0 k1 buf v1 k2 p v2), (D, oD), (CC, oC), (x, instObj 779 dx), (dx, dictOf [de w "instream" a0 (.ref sx), de w "infile" a1 .none, de w "posix" a2 (.bool true), de w "eof" a3 .none, de w "commenters" a4 (.str (Str.ofString "") b4), de w "wordchars" a5 (.str wc b5), de w "whitespace" a6 (.str (Str.ofString " \t\r\n") b6), de w "whitespace_split" a7 (.bool true), de w "quotes" a8 (.str (Str.ofString "'\"") b8), de w "escape" a9 (.str (Str.ofString "\\") b9), de w "escapedquotes" a10 (.str (Str.ofString "\"") b10), de w "state" a11 stv, de w "pushback" a12 (.ref pb), de w "lineno" a13 (.int 1 b13), de w "debug" a14 (.int 0 b14), de w "token" a15 (.str tok vtok), de w "filestack" a16 (.ref fs), de w "source" a17 .none, de w "_punctuation_chars" a18 (.str (Str.ofString "") b18)] 19)]) :
    ∃ k v, News h₀ L h (lexLed w k v x dx sx dsx pb fs wc stv tok vtok k0 v0 k1 buf v1 k2 p v2 []) := by
  refine ⟨fun i => [a0, a1, a2, a3, a4, a5, a6, a7, a8, a9, a10, a11, a12, a13, a14, a15, a16, a17, a18].getD i 0, fun i => [0, 0, 0, 0, b4, b5, b6, 0, b8, b9, b10, 0, 0, b13, b14, 0, 0, 0, b18].getD i 0, ?_⟩
  intro q hq
  simp only [List.mem_cons, List.not_mem_nil, or_false] at hq
  rcases hq with h | h | h | h | h | h
  · exact N q (by rw [h]; exact .tail _ (.tail _ (.head _)))
  · exact N q (by rw [h]; exact .tail _ (.tail _ (.tail _ (.head _))))
  · exact N q (by rw [h]; exact .tail _ (.tail _ (.tail _ (.tail _ (.tail _ (.tail _ (.head _)))))))
  · exact N q (by rw [h]; exact .tail _ (.tail _ (.tail _ (.tail _ (.tail _ (.tail _ (.tail _ (.head _))))))))
  · exact N q (by rw [h]; exact .tail _ (.head _))
  · exact N q (by rw [h]; exact .head _)
theorem split_c {w : World} {pp : Program} {ll : List Str} {mean : ExcName → Option Value} {mg mb : Str → Option Value} {dp un : Nat} {gd : Option (List Code)} {cn : Str} {cs : Scope} {a : Addr} {ccd : Value} {cl : List (Str × Addr)} {A₀ : Around} {base h₀ : Heap} {L : Addr} {m : Str → Option Value} {s : Shared} {Q E : Value → Shared → Prop} {x : Str} {tx : Tok} (hx : x.length ≤ 1000)
  (all : List (List Nat)) (hne : all ≠ []) (hlen : all.length ≤ 100) (hgood : ∀ w ∈ all, GoodW w) (hbuf : x.cps.toList = encW all)
  (B : Below A₀ base [] h₀) (F : Fr h₀ L s.heap m) (X : (Mine.hd.heap_39 w.params).In h₀) (T : Top pp ll mean mg mb h₀) (hk : cs.kind = .function) (hd : dp + 20 < recursionLimit) (hu : un + 120 < cLine)
  (ret : ∀ S h' tk' acc c, Fr h₀ L h' m → (∀ b o, s.heap.get? b = some o → b ≠ L → h'.get? b = some o) → h'.get? S = some (lstObj acc c) → s.heap.get? S = none → Texts acc all → Q (.ref S) { s with heap := h', toks := tk' }) :
  wpAny (model Challenge.rw_of0095_01.row.prog w) (ktrTop dp un gd cn cs L a ccd cl []) (call (.ref 791) [.str x tx]) Q E s := by
  w_top off; revert X; k_fill; intro X
  refine wpAny_call ?_
  k_dflt (refine' code_defS ?k1 ?k2 ?k3 ?k5 ?kA ?kF ?kK ?k6 ?k7 ?k8 ?k9 ?kB ?_ ?c2 ?c3 ?c4 ?c5; (case kA => exact rfl); (case kF => exact rfl); (case kK => assumption); (case k1 => k_asm); (case k2 => k_asm); (case k3 => k_asm); (case k5 => k_asm); (case k6 => k_is); (case k7 => k_is); (case k8 => k_room); (case k9 => first | exact BindsTo.of_eq rfl | exact binds_K (by k_in) rfl (by k_is) rfl rfl rfl); (case c5 => decide); (case kB => exact locs rfl); (case c2 => exact rfl); (case c3 => exact rfl); (case c4 => exact rfl))
  intro L' h' F' N' B' X' T'
  dsimp only
  k_steps
  obtain ⟨k9, v9, N9⟩ := led_fit (by k_asm)
  refine' list_lex (C := ⟨_, _, _, _, _, _, k9, v9, _, _, _, _, _, _, x, []⟩) ?ok rfl ?hwc hx all hne hlen hgood hbuf ?kB ?kF ?kX ?kT rfl N9 ?hd ?hu ?_
  case kB => k_asm
  case kF => k_asm
  case kX => k_asm
  case kT => k_asm
  case hd => k_room
  case hu => (have hcL9 := cLine_is; (try simp only [units_in1, units_deeper, Around.mark_units, units_caller]); (try dsimp only [ktrTop]); omega)
  case hwc => dsimp only; decide +kernel
  case ok => exact ⟨by dsimp only; omega, by dsimp only; omega, by dsimp only; omega, by dsimp only; omega, by dsimp only; omega, fun _ h => (nomatch h), fun _ h => (nomatch h)⟩
  intro S g1 h2 tk2 vtok2 v22 acc c F1 U1 B1 N1 T1 Z1
  show WkLeave _ _ _
  unfold WkLeave
  dsimp only
  have hS := N1 (S, lstObj acc c) (by simp)
  have kp : ∀ b o, s.heap.get? b = some o → b ≠ L → h2.get? b = some o := fun b o e hb => B1 b o (hideAll_get _ e (fun hm => by
    obtain ⟨e9, he9, ef9⟩ := List.mem_filterMap.mp hm
    rcases List.mem_cons.mp he9 with rfl | he9
    · exact hb (Option.some.inj ef9).symm
    · cases he9))
  refine ret S h2 tk2 acc c ⟨U1.ns (F.ns.keeps F1.keep), fun b o e => kp b o (F.keep b o e) (fun q => ?_), F.above⟩ kp hS.1 Z1 T1
  subst q
  exact absurd (Heap.lt_size e) (Nat.not_lt.mpr F.above)
end Mine

end
section
open PySem PySem.W PyProof.Rows PySem.Calls PySem.W.X
set_option maxRecDepth 100000
set_option maxHeartbeats 0
namespace Mine

/-- what is asked of a run: what comes back, how many objects, how many tokens, and that no own object was read -/
noncomputable def prj (x : Result × List Obj × Nat × List (Addr × Addr)) : Result × Nat × Nat × List (Addr × Addr) := (x.1, x.2.1.length, x.2.2.1, x.2.2.2)
theorem of_prj {o : Option (Result × List Obj × Nat × List (Addr × Addr))} {r : Result} {l i : Nat} {asks : List (Addr × Addr)} (h : o.map prj = some (r, l, i, asks)) : ∃ own, o = some (r, own, i, asks) := by
  cases o with
  | none => cases h
  | some x =>
    obtain ⟨a, b, c, d⟩ := x
    simp only [prj, Option.map_some, Option.some.injEq, Prod.mk.injEq] at h
    obtain ⟨rfl, _, rfl, rfl⟩ := h
    exact ⟨b, rfl⟩
theorem call_P {prog : Program} {w : World} {K : Frag} {A : Around} {fv : Value} {pos : List Value} {Q E : Value → Shared → Prop} {s : Shared} (f : Nat) (tape : List Nat) {v : Nat → Nat → Value} {l : Nat → Nat → Nat} {i : Nat}
    (X : K.In s.heap) (e : ∀ n t, (simA ⟨prog, w.params⟩ K [] n t denZ f [] (denZ (.call fv ⟨pos, []⟩)) [] 0 tape []).map prj = some (.ok (.ret (v n t)), l n t, i, []))
    (fin : ∀ h own, RepA s.heap h s.heap.objs.size own → Q (v s.heap.objs.size s.toks) { s with heap := h, toks := s.toks + i }) : wpAny (model prog w) A (call fv pos) Q E s := by
  have e' : ∀ n t, ∃ own, simA ⟨prog, w.params⟩ K [] n t denZ f [] (denZ (.call fv ⟨pos, []⟩)) [] 0 tape [] = some (.ok (.ret (v n t)), own, i, []) := fun n t => of_prj (e n t)
  exact call_A f tape (giv := []) (own := fun n t => (e' n t).choose) (asks := fun _ _ => []) X (fun _ h => nomatch h) (fun n t => (e' n t).choose_spec) (fun _ _ _ h => nomatch h) fun h D => fin h _ D
noncomputable def runFind (w : World) (n t : Nat) (t0 : Tok) (l : List Nat) : Option (Result × Nat × Nat × List (Addr × Addr)) := (simA ⟨Challenge.rw_of0095_01.row.prog, w.params⟩ (Mine.hd.heap_39 w.params) [] n t denZ 100 [] (denZ (.call (.ref 799) ⟨[.str ⟨l.toArray⟩ t0], []⟩)) [] 0 [0, 0, 0, 0, 0, 0] []).map prj
theorem find43_1 (w : World) (n t : Nat) (t0 : Tok) (a : Nat) : runFind w n t t0 [43, 32, a] = some (.ok (.ret (.ref (n + 1))), 2, 0, []) := by kernel_rfl
theorem find43_2 (w : World) (n t : Nat) (t0 : Tok) (a b : Nat) : runFind w n t t0 [43, 32, a, b] = some (.ok (.ret (.ref (n + 1))), 2, 0, []) := by kernel_rfl
theorem find43_3 (w : World) (n t : Nat) (t0 : Tok) (a b c : Nat) : runFind w n t t0 [43, 32, a, b, c] = some (.ok (.ret (.ref (n + 1))), 2, 0, []) := by kernel_rfl
theorem find43_4 (w : World) (n t : Nat) (t0 : Tok) (a b c d : Nat) : runFind w n t t0 [43, 32, a, b, c, d] = some (.ok (.ret (.ref (n + 1))), 2, 0, []) := by kernel_rfl
theorem find45_1 (w : World) (n t : Nat) (t0 : Tok) (a : Nat) : runFind w n t t0 [45, 32, a] = some (.ok (.ret (.ref (n + 1))), 2, 0, []) := by kernel_rfl
theorem find45_2 (w : World) (n t : Nat) (t0 : Tok) (a b : Nat) : runFind w n t t0 [45, 32, a, b] = some (.ok (.ret (.ref (n + 1))), 2, 0, []) := by kernel_rfl
theorem find45_3 (w : World) (n t : Nat) (t0 : Tok) (a b c : Nat) : runFind w n t t0 [45, 32, a, b, c] = some (.ok (.ret (.ref (n + 1))), 2, 0, []) := by kernel_rfl
theorem find45_4 (w : World) (n t : Nat) (t0 : Tok) (a b c d : Nat) : runFind w n t t0 [45, 32, a, b, c, d] = some (.ok (.ret (.ref (n + 1))), 2, 0, []) := by kernel_rfl

structure QuoteOk (l : List Nat) : Prop where
  pos : 0 < (⟨l.toArray⟩ : Str).length
  le : (⟨l.toArray⟩ : Str).length ≤ 100
  no : (Builtin.Str.occurrences ⟨l.toArray⟩ (Str.ofString "'") 0 (⟨l.toArray⟩ : Str).length ((⟨l.toArray⟩ : Str).length + 1)).isEmpty = true
  find : ∀ w n t t0, runFind w n t t0 l = some (.ok (.ret (.ref (n + 1))), 2, 0, [])
theorem quote_rep {l : List Nat} (hq : QuoteOk l) (z : Str) : Txt.replace ⟨l.toArray⟩ (Str.ofString "'") z = ⟨l.toArray⟩ := by
  unfold Txt.replace
  rw [hq.no]; rfl
theorem quote_glue (l : List Nat) : (Str.ofString "'" ++ (⟨l.toArray⟩ : Str)) ++ Str.ofString "'" = ⟨(39 :: (l ++ [39])).toArray⟩ := by
  have e : Str.ofString "'" = ⟨#[39]⟩ := by decide
  rw [e]
  apply Str.ext'
  simp [Str.cps_append]
theorem keep799 (w : World) : peek (Mine.hd.heap_39 w.params) ⟨Challenge.rw_of0095_01.row.prog, w.params⟩ (keeperOf (.ref 799)) = some .machine := by kernel_rfl
section
variable {w : World} {A : Around} {s : Shared} {h₀ : Heap} {L : Addr} {m : Str → Option Value} {news : List (Addr × Obj)} {Q E : Value → Shared → Prop}
theorem callWith_F {env : Env} {pos : Pos} {first : List Value} {e : Expr} {rest : List Expr} (_X : (Mine.hd.heap_39 w.params).In h₀) (h : wpAny (model Challenge.rw_of0095_01.row.prog w) A (spliced (backTo pos (starEach (e :: rest) env))) (fun vs s₁ => (Mine.hd.heap_39 w.params).In s₁.heap ∧ wpAny (model Challenge.rw_of0095_01.row.prog w) A (call (.ref 799) (first ++ vs)) Q E s₁) E s)
    (he : starEach (e :: rest) env = (false, eval e env) :: starEach rest env := by rfl) (hplain : (backTo pos (starEach rest env)).any (·.1) = false := by rfl) :
    wpAny (model Challenge.rw_of0095_01.row.prog w) A (callWith pos (.ref 799) first (backTo pos (starEach (e :: rest) env)) []) Q E s := by
  rw [he] at h ⊢
  exact callWith_of (by show ((false || (backTo pos (starEach rest env)).any (·.1)) || false) = false; rw [hplain]; rfl) (fun h X => ⟨.machine, .inr (.inl rfl), Looks.of_peek X (keep799 w)⟩) (evalArgs_plain h)
theorem find_call {l : List Nat} {t0 : Tok} (hq : QuoteOk l) (F : Fr h₀ L s.heap m) (X : (Mine.hd.heap_39 w.params).In h₀) (N : News h₀ L s.heap news)
    (h : ∀ d h' tk, Fr h₀ L h' m → News h₀ L h' news → Q (.ref d) { s with heap := h', toks := tk }) :
    wpAny (model Challenge.rw_of0095_01.row.prog w) A (call (.ref 799) [.str ⟨l.toArray⟩ t0]) Q E s :=
  call_P 100 [0, 0, 0, 0, 0, 0] (X.keeps F.keep) (fun n t => hq.find w n t t0) fun h' own D => h _ _ _ (D.fr F) (D.old N)
end
local macro_rules | `(tactic| walk_at "zz pad 0") => `(tactic| skip)
local macro_rules | `(tactic| walk_at "exec If") => `(tactic| refine wpAny_If ?_)
local macro_rules | `(tactic| walk_at "truthy str") => `(tactic| (refine truthy_yes (by with_reducible assumption) (by with_reducible assumption) ?_))
local macro_rules | `(tactic| walk_at "callWith ref") => `(tactic| (k_here; k_dflt ((with_reducible show wpAny _ _ (callWith _ (Value.ref 799) _ _ _) _ _ _); refine' callWith_F ?k1 ?_; (case k1 => k_asm))))
local macro_rules | `(tactic| walk_at "call ref") => `(tactic| (k_here; k_dflt ((with_reducible show wpAny _ _ (call (Value.ref 799) [Value.str _ _]) _ _ _); refine' find_call ?k0 ?k1 ?k2 ?k3 ?_; (case k0 => assumption); (case k1 => k_asm); (case k2 => k_asm); (case k3 => k_asm)); intro d' h' tk' F' N'; (try k_sweep)))
local macro_rules | `(tactic| walk_at "binaryOp Add str str") => `(tactic| (rw [quote_rep (by assumption)]))
theorem quote_c {w : World} {pp : Program} {ll : List Str} {mean : ExcName → Option Value} {mg mb : Str → Option Value} {dp un : Nat} {gd : Option (List Code)} {cn : Str} {cs : Scope} {a : Addr} {ccd : Value} {cl : List (Str × Addr)} {outer : List Env} {A₀ : Around} {base h₀ : Heap} {L : Addr} {m : Str → Option Value} {s : Shared} {Q E : Value → Shared → Prop} {l : List Nat} {tx : Tok} (hq : QuoteOk l) {news : List (Addr × Obj)}
  (B : Below A₀ base outer h₀) (F : Fr h₀ L s.heap m) (X : (Mine.hd.heap_39 w.params).In h₀) (T : Top pp ll mean mg mb h₀) (hk : cs.kind = .function) (N : News h₀ L s.heap news) (hd : dp + 6 < recursionLimit) (hu : un + 60 < cLine)
  (ret : ∀ h' tk' t, Fr h₀ L h' m → News h₀ L h' news → Q (.str ⟨(39 :: (l ++ [39])).toArray⟩ t) { s with heap := h', toks := tk' }) :
  wpAny (model Challenge.rw_of0095_01.row.prog w) (ktrTop dp un gd cn cs L a ccd cl outer) (call (.ref 806) [.str ⟨l.toArray⟩ tx]) Q E s := by
  w_top off; revert X; k_fill; intro X
  have hq1 := hq.pos
  have hq2 : (⟨l.toArray⟩ : Str).length ≤ 2000 := Nat.le_trans hq.le (by decide)
  have hq3 := hq.le
  refine wpAny_call ?_
  k_dflt k_enter
  k_steps
  rw [quote_glue]
  exact ret _ _ _ (by k_asm) (by k_asm)
end Mine

end
section
open PySem PySem.W PyProof.Rows PySem.Calls PySem.W.X
set_option maxRecDepth 100000
set_option maxHeartbeats 0
namespace Mine

section
variable {prog : Program} {w : World} {A : Around} {s : Shared} {K : Frag} {mg mb : Str → Option Value} {p : Program} {loose : List Str} {mean : ExcName → Option Value}
/-- a def called where nothing is known of the frames below: it may not raise -/
theorem code_defN {R : Result → Shared → Prop} {name qual : Str} {params : Arguments} {body : List Stmt} {scope : Scope} {dV kV doc pm cdv ct oc : Value} {an od : Option Addr} {osl : Array (Option Value)} {f : Addr} {args : Args} {binds : List (Str × Value)}
    (X : K.In s.heap) (T : Top p loose mean mg mb s.heap)
    (ho : K.lookup f = some ⟨oc, od, .func (fnOf name qual params body scope dV kV doc pm an cdv ct), osl⟩) (hcd : codeIn K cdv qual = true) (hroom : A.depth < recursionLimit)
    (hbind : BindsTo s (fnOf name qual params body scope dV kV doc pm an cdv ct) args binds) (hloc : ∀ y ∈ binds, scope.names.lookup y.1 = some .local)
    (h : ∀ L' h₁, Fr s.heap L' h₁ (fun y => binds.reverse.lookup y) → News s.heap L' h₁ [] →
      wpAny (model prog w) (A.deeper (envOf qual scope L' f cdv)) (execs body (envOf qual scope L' f cdv))
        (fun fl s' => WkLeave R fl s')
        (fun e s' => wpAny (model prog w) (A.deeper (envOf qual scope L' f cdv)) (leaving (envOf qual scope L' f cdv) e) (fun _ s'' => R (.error e) s'') (fun e' s'' => R (.error e') s'') s')
        { s with heap := h₁, toks := s.toks + binds.length })
    (hco : scope.isCoroutine = false) (hgen : scope.isGenerator = false) (hk : scope.kind = .function)
    (hcell : ∀ x ∈ scope.names, x.2 ≠ .cell) : codeAny (model prog w) A (.call (.ref f) args) R s := by
  refine codeAny_call_def (fd := fnOf name qual params body scope dV kV doc pm an cdv ct) (body := body) (binds := binds) hroom (X _ _ ho) rfl T.nolimit (codeRec_of X hcd) rfl hbind hcell hloc (fun h₁ hns hk₁ => ?_) hco hgen hk
  exact h s.heap.objs.size h₁ ⟨hns, hk₁, Nat.le_refl _⟩ News.nil
end
local macro_rules | `(tactic| walk_at "zz pad 0") => `(tactic| skip)
local macro_rules | `(tactic| walk_at "zz pad 1") => `(tactic| skip)
local macro_rules | `(tactic| walk_at "exec If") => `(tactic| refine wpAny_If ?_)
local macro_rules | `(tactic| walk_at "truthy str") => `(tactic| (refine truthy_yes (by with_reducible assumption) (by with_reducible assumption) ?_))
local macro_rules | `(tactic| walk_at "callWith ref") => `(tactic| (k_here; k_dflt ((with_reducible show wpAny _ _ (callWith _ (Value.ref 799) _ _ _) _ _ _); refine' callWith_F ?k1 ?_; (case k1 => k_asm))))
local macro_rules | `(tactic| walk_at "call ref") => `(tactic| (k_here; k_dflt ((with_reducible show wpAny _ _ (call (Value.ref 799) [Value.str _ _]) _ _ _); refine' find_call ?k0 ?k1 ?k2 ?k3 ?_; (case k0 => assumption); (case k1 => k_asm); (case k2 => k_asm); (case k3 => k_asm)); intro d' h' tk' F' N'; (try k_sweep)))
local macro_rules | `(tactic| walk_at "binaryOp Add str str") => `(tactic| (rw [quote_rep (by assumption)]))

theorem quote_g {w : World} {pp : Program} {ll : List Str} {A : Around} {s : Shared} {mean : ExcName → Option Value} {mg mb : Str → Option Value} {E : Value → Shared → Prop} {l : List Nat} {tx : Tok} (hq : QuoteOk l)
  (X : (Mine.hd.heap_39 w.params).In s.heap) (T : Top pp ll mean mg mb s.heap) (hd : A.depth < recursionLimit) (hu : A.units + 60 < cLine) :
  wpAny (model Challenge.rw_of0095_01.row.prog w) A (call (.ref 806) [.str ⟨l.toArray⟩ tx]) (fun v s' => (∃ t, v = .str ⟨(39 :: (l ++ [39])).toArray⟩ t) ∧ Keeps s s') E s := by
  w_top off; revert X; k_fill; intro X
  have hq1 := hq.pos
  have hq2 : (⟨l.toArray⟩ : Str).length ≤ 2000 := Nat.le_trans hq.le (by decide)
  have hq3 := hq.le
  refine wpAny_call ?_
  k_dflt (refine' code_defN ?k3 ?k5 ?k6 ?k7 ?k8 ?k9 ?kB ?_ ?c2 ?c3 ?c4 ?c5; (case k3 => k_asm); (case k5 => k_asm); (case k6 => k_is); (case k7 => k_is); (case k8 => assumption); (case k9 => first | exact BindsTo.of_eq rfl | exact binds_K (by k_in) rfl (by k_is) rfl rfl rfl); (case c5 => decide); (case kB => exact locs rfl); (case c2 => exact rfl); (case c3 => exact rfl); (case c4 => exact rfl))
  intro L' h' F' N'
  dsimp only
  k_steps
  unfold WkLeave
  dsimp only
  rw [quote_glue]
  refine ⟨⟨_, rfl⟩, _, _, rfl, ?_⟩
  exact Fr.keep (by k_asm)
end Mine

end
section
open PySem PySem.W PyProof.Rows PySem.Calls PySem.W.X
set_option maxRecDepth 100000
set_option maxHeartbeats 0
namespace Mine
/-- a program that says nothing of the top but its names -/
noncomputable def pI : Program := { (default : Program) with main := { (default : Module) with body := [.Import [⟨"sys", none, default⟩] default] } }
noncomputable def lI (pp : Program) (ll : List Str) : List Str := ll ++ (recsOf pp).map (·.name) ++ (litsOf pp).map (·.1) ++ (clssOf pp ll).map (·.name)
theorem top_loose {pp : Program} {ll : List Str} {mean : ExcName → Option Value} {mg mb : Str → Option Value} {h : Heap} (T : Top pp ll mean mg mb h) : Top pI (lI pp ll) mean mg mb h where
  g := T.g
  b := T.b
  nolimit := T.nolimit
  nodigits := T.nodigits
  fn := fun d hd => nomatch hd
  own := fun d hd => nomatch hd
  const := fun x d e => nomatch e
  free := fun x h1 h2 _ _ _ => T.free x h1 (fun q => h2 (by simp [lI, q])) (fun q => h2 (List.mem_append_left _ (List.mem_append_left _ (List.mem_append_right _ q)))) (fun q => h2 (List.mem_append_left _ (List.mem_append_right _ q))) (fun q => h2 (List.mem_append_right _ q))
  builtins := T.builtins
  tab := fun d hd => nomatch hd
  bmain := T.bmain
  seer := fun e => absurd e (by decide)
theorem top_regrown {ll : List Str} {mean : ExcName → Option Value} {mg mb : Str → Option Value} {h₁ h : Heap} {c P : Addr} {ps ps' : Array Value} (T : Top pI ll mean mg mb h) (B : Based h₁ h c P ps) : Top pI ll mean mg mb (regrown h P ps') where
  g := LGe.ns_regrown B T.g
  b := LGe.ns_regrown B T.b
  nolimit := let ⟨mc, h1, h2⟩ := T.nolimit; ⟨mc, LGe.ns_regrown B h1, h2⟩
  nodigits := let ⟨mc, h1, h2⟩ := T.nodigits; ⟨mc, LGe.ns_regrown B h1, h2⟩
  fn := fun d hd => nomatch hd
  own := fun d hd => nomatch hd
  const := fun x d e => nomatch e
  free := T.free
  builtins := T.builtins
  tab := fun d hd => nomatch hd
  bmain := let ⟨bm, ob, h1, h2, h3, h4, r⟩ := T.bmain; ⟨bm, ob, h1, h2, (Heap.get?_update_other _ _ (Ne.symm (B.ne_of_cls h3 (by rw [h4]; decide)))).trans h3, h4, r⟩
  seer := fun e => absurd e (by decide)
theorem in_regrown {w : World} {h₁ h : Heap} {c P : Addr} {ps ps' : Array Value} {mg : Str → Option Value} (X : (Mine.hd.heap_39 w.params).In h) (G : h.Ns mainGlobals mg) (B : Based h₁ h c P ps) : (Mine.hd.heap_39 w.params).In (regrown h P ps') :=
  kb_in_regrown B X G (by with_unfolding_all rfl)
end Mine

end
section
open PySem PySem.W PyProof.Rows PySem.Calls PySem.W.X
set_option maxRecDepth 100000
namespace Mine
/-- a goal at which the walk halts -/
noncomputable def Hold (p : Prop) : Prop := p
theorem hold {p : Prop} (h : Hold p) : p := h
/-- what an element's end is held to: the ledger as it was -/
noncomputable def TurnQ (s : Shared) (h₀ : Heap) (L : Addr) (m : Str → Option Value) (news : List (Addr × Obj)) (Y : Value → Prop) (y : Value) (s₂ : Shared) : Prop := ∃ h' tk', s₂ = { s with heap := h', toks := tk' } ∧ Fr h₀ L h' m ∧ News h₀ L h' news ∧ Y y
theorem TurnQ.intro {s : Shared} {h₀ h' : Heap} {tk' : Nat} {L : Addr} {m : Str → Option Value} {news : List (Addr × Obj)} {Y : Value → Prop} {y : Value} (F : Fr h₀ L h' m) (N : News h₀ L h' news) (hy : Y y) : TurnQ s h₀ L m news Y y { s with heap := h', toks := tk' } := ⟨h', tk', rfl, F, N, hy⟩
theorem strs_of {n : Nat} {f : Nat → Str} : ∀ {ys : List Value} {k : Nat}, ys.length = n → (∀ i y, ys[i]? = some y → ∃ t, y = Value.str (f (k + i)) t) → StrsAre ys ((List.range' k n).map f) := by
  induction n with
  | zero => intro ys k hl _; cases ys with
    | nil => exact StrsAre.nil
    | cons _ _ => simp at hl
  | succ n ih =>
    intro ys k hl hy
    cases ys with
    | nil => simp at hl
    | cons y ys =>
      obtain ⟨t, rfl⟩ := hy 0 y rfl
      refine StrsAre.cons _ t (ih (k := k + 1) (by simpa using hl) fun i y' h => ?_)
      obtain ⟨t', e⟩ := hy (i + 1) y' (by simpa using h)
      exact ⟨t', by rw [e, show k + (i + 1) = k + 1 + i by omega]⟩
theorem strs_get {vs : List Value} {xs : List Str} (h : StrsAre vs xs) : ∀ {i : Nat} {v : Value}, vs[i]? = some v → ∃ x t, xs[i]? = some x ∧ v = Value.str x t := by
  induction h with
  | nil => intro i v e; simp at e
  | cons y t _ ih =>
    intro i v e
    cases i with
    | zero => simp at e; exact ⟨y, t, rfl, e.symm⟩
    | succ i => exact ih (by simpa using e)
theorem strs_map {f : Str → Str} {vs : List Value} {xs : List Str} (h : StrsAre vs xs) : ∀ {ys : List Value}, ys.length = vs.length → (∀ (i : Nat) y, ys[i]? = some y → ∃ x t, xs[i]? = some x ∧ y = Value.str (f x) t) → StrsAre ys (xs.map f) := by
  induction h with
  | nil =>
    intro ys hl _
    cases ys with
    | nil => exact StrsAre.nil
    | cons _ _ => simp at hl
  | cons y t _ ih =>
    intro ys hl hy
    cases ys with
    | nil => simp at hl
    | cons z ys =>
      obtain ⟨x, t', e1, rfl⟩ := hy 0 z rfl
      simp at e1; subst e1
      exact StrsAre.cons _ t' (ih (by simpa using hl) fun i y' h => by simpa using hy (i + 1) y' (by simpa using h))
open LCg in
/-- a comprehension whose element leaves the ledger as it is: what holds of each item -/
theorem comp_all {prog : Program} {w : World} {A : Around} {s : Shared} {h₀ : Heap} {L : Addr} {m : Str → Option Value} {env : Env} {elt : Expr} {x : Str} {scope : Scope} {cl : List (Str × Addr)} {S : List (Addr × Obj) → Prop} {P : Nat → Value → Prop} {Fin : List Value → List (Addr × Obj) → Prop} {news : List (Addr × Obj)} {n : Nat} (Y : Nat → Value → Prop)
    (turn : ∀ i v I oI C oC D oD m₂ h tk (E' : Value → Shared → Prop), i < n → P i v → NsObj oC m₂ → m₂ x = some v → Fr h₀ L h m → News h₀ L h ((I, oI) :: (C, oC) :: (D, oD) :: news) → Off3 I C D news → ((@Ne Nat I C) ∧ (@Ne Nat I D) ∧ (@Ne Nat C D)) →
      wpAny (model prog w) A (eval elt (compEnvC scope cl C env)) (TurnQ s h₀ L m ((I, oI) :: (C, oC) :: (D, oD) :: news) (Y i)) E' { s with heap := h, toks := tk })
    (hS : S news) (fin : ∀ ys, ys.length = n → (∀ i y, ys[i]? = some y → Y i y) → Fin ys news) :
    CompRest prog w A h₀ L m env elt x scope cl s S P Fin n 0 [] news := by
  have all : ∀ k i ys, i + k = n → ys.length = i → (∀ j y, ys[j]? = some y → Y j y) → CompRest prog w A h₀ L m env elt x scope cl s S P Fin k i ys news := by
    intro k
    induction k with
    | zero => intro i ys e hl hy; exact CompRest.zero (fin ys (by omega) hy)
    | succ k ih =>
      intro i ys e hl hy
      refine CompRest.succ ?_
      intro v I oI C oC D m₂ h tk E' hP hC hx F N off ne
      refine wpAny_mono (turn i v I oI C oC D _ m₂ h tk E' (by omega) hP hC hx F N off ne) (fun y s₂ q => ?_) fun _ _ z => z
      obtain ⟨h', tk', rfl, F', N', hY⟩ := q
      refine ⟨h', tk', news, rfl, F', N', off, hS, ih (i + 1) (ys ++ [y]) (by omega) (by simp [hl]) ?_⟩
      intro j y' hj
      rw [List.getElem?_append] at hj
      split at hj
      · exact hy j y' hj
      · have : j = i := by
          rcases Nat.lt_or_ge (j - ys.length) 1 with q | q
          · omega
          · rw [List.getElem?_eq_none (by simpa using q)] at hj; cases hj
        subst this
        simp [hl] at hj
        subst hj; exact hY
  exact all n 0 [] (by omega) rfl (fun j y h => by simp at h)
end Mine

end
section
open PySem PySem.W PyProof.Rows PySem.Calls PySem.W.X
set_option maxRecDepth 100000
set_option maxHeartbeats 0
namespace Mine
local macro_rules | `(tactic| k_enter) => `(tactic| (refine' code_defC ?k1 ?k2 ?k3 ?k4 ?k5 ?kA ?kF ?kK ?k6 ?k7 ?k8 ?k9 ?kB ?kD ?_ ?c2 ?c3 ?c4; (case kA => exact rfl); (case kF => exact rfl); (case kK => assumption); (case k1 => k_asm); (case k2 => k_asm); (case k3 => k_asm); (case k4 => k_asm); (case k5 => k_asm); (case k6 => k_is); (case k7 => k_is); (case k8 => k_room); (case k9 => first | exact BindsTo.of_eq rfl | exact binds_K (by k_in) rfl (by k_is) rfl rfl rfl); (case kB => exact rfl); (case kD => decide +kernel); (case c2 => exact rfl); (case c3 => exact rfl); (case c4 => exact rfl); k_whole; intro g' L' h' tk' cells' FG' F' N' Y' B' X' T' l1; (try k_lt l1); k_cells Y'; (try simp only [List.cons_append, List.nil_append] at N'); (try dsimp only); (try k_lift B'); (try k_fold)))

noncomputable def labS (num : Int) (i : Nat) : Str := Txt.item (Str.ofString "abB7") ((num.fdiv ((4 : Int) ^ i)).fmod 4)
noncomputable def labL (num : Int) (n : Nat) : List Str := (List.range' 0 n).map (labS num)
theorem rng_size (n : Nat) : Builtin.Range.rangeSize 0 (n : Int) 1 = (n : Int) := by
  unfold Builtin.Range.rangeSize
  split <;> simp <;> omega
section
local macro_rules | `(tactic| walk_at "eval ListComp") => `(tactic| refine hold ?_)
local macro_rules | `(tactic| walk_at "CompSrc") => `(tactic| refine hold ?_)
local macro_rules | `(tactic| walk_at "TurnQ") => `(tactic| refine hold ?_)
theorem lab_c {w : World} {pp : Program} {ll : List Str} {mean : ExcName → Option Value} {mg mb : Str → Option Value} {dp un : Nat} {gd : Option (List Code)} {cn : Str} {cs : Scope} {a : Addr} {ccd : Value} {cl : List (Str × Addr)} {outer : List Env} {A₀ : Around} {base h₀ : Heap} {L : Addr} {m : Str → Option Value} {s : Shared} {Q E : Value → Shared → Prop} {num : Int} {n : Nat} (hn : n ≤ 3) {t1 t2 : Tok} {news : List (Addr × Obj)}
  (B : Below A₀ base outer h₀) (F : Fr h₀ L s.heap m) (X : (Mine.hd.heap_39 w.params).In h₀) (T : Top pp ll mean mg mb h₀) (hk : cs.kind = .function) (N : News h₀ L s.heap news) (hd : dp + 20 < recursionLimit) (hu : un + 120 < cLine)
  (ret : ∀ D h' tk' ys, Fr h₀ L h' m → News h₀ L h' ((D, LCg.lst ys) :: news) → StrsAre ys (labL num n) → LCg.Off1 D news → Q (.ref D) { s with heap := h', toks := tk' }) :
  wpAny (model Challenge.rw_of0095_01.row.prog w) (ktrTop dp un gd cn cs L a ccd cl outer) (call (.ref 811) [.int num t1, .int n t2]) Q E s := by
  w_top off; revert X; k_fill; intro X
  refine wpAny_call ?_
  k_dflt k_enter
  k_steps
  unfold Hold
  k_dflt (refine LCg.ListComp_U (F₀ := by k_asm) (by rfl) (by decide) (by rfl) (by decide) (by rfl) ?_)
  k_steps
  unfold Hold
  rename IsRange _ _ _ _ _ _ _ _ => hr9
  k_dflt (refine LCg.CompSrc.range (n := n) (by rfl) (by k_asm) (by k_asm) hr9 ?hs1 ?hs2 ?hs3 ?_)
  case hs1 =>
    have h3 : n = 0 ∨ n = 1 ∨ n = 2 ∨ n = 3 := by omega
    rcases h3 with rfl | rfl | rfl | rfl <;> decide
  case hs2 => exact rng_size n
  case hs3 => exact Nat.le_trans hn (by decide)
  intro g9
  refine comp_all (fun i y => ∃ t, y = Value.str (labS num i) t) ?turn trivial ?fin
  case fin =>
    intro ys hl hy
    have hs := strs_of (f := labS num) (k := 0) hl (fun i y h => by rw [Nat.zero_add]; exact hy i y h)
    k_steps
    rename (_ ∧ LCg.Off1 _ _) => o1
    refine ret _ _ _ _ (by k_asm) (fun p hp => ?_) hs o1.2
    rename News h₀ L _ _ => N8
    exact N8 p (by rcases List.mem_cons.mp hp with rfl | hp; exact .head _; exact .tail _ (.tail _ hp))
  case turn =>
    intro i v I oI C oC D oD m₂ h tk E' hi hv hC hx F9 N9 off ne
    obtain ⟨t9, rfl⟩ := hv
    have hi3 : i = 0 ∨ i = 1 ∨ i = 2 := by omega
    rcases hi3 with rfl | rfl | rfl
    · change m₂ _ = some (.int 0 t9) at hx
      k_steps
      unfold Hold
      exact TurnQ.intro (by k_asm) (by k_asm) ⟨_, rfl⟩
    · change m₂ _ = some (.int 1 t9) at hx
      k_steps
      unfold Hold
      exact TurnQ.intro (by k_asm) (by k_asm) ⟨_, rfl⟩
    · change m₂ _ = some (.int 2 t9) at hx
      k_steps
      unfold Hold
      exact TurnQ.intro (by k_asm) (by k_asm) ⟨_, rfl⟩
end
end Mine

end
section
open PySem PySem.W PyProof.Rows PySem.Calls PySem.W.X
set_option maxRecDepth 100000
namespace Mine
section
variable {prog : Program} {w : World} {A : Around} {E : Value → Shared → Prop} {s : Shared} {h₀ : Heap} {L : Addr} {m : Str → Option Value} {news : List (Addr × Obj)}
theorem strs_elem {vs : List Value} {xs : List Str} (h : StrsAre vs xs) {i : Nat} (hi : i < vs.length) : ∃ t, ∃ hx : i < xs.length, vs[i] = Value.str xs[i] t := by
  obtain ⟨x, t, e1, e2⟩ := strs_get h (i := i) (List.getElem?_eq_getElem hi)
  obtain ⟨hx, e3⟩ := List.getElem?_eq_some_iff.mp e1
  exact ⟨t, hx, by rw [e2, e3]⟩
theorem all_range_eq {xs ys : List Str} (hl : xs.length = ys.length) : ((List.range xs.length).all fun j => xs[j]? == ys[j]?) = decide (xs = ys) := by
  by_cases e : xs = ys
  · subst e
    rw [decide_eq_true rfl]
    simp
  · rw [decide_eq_false e]
    rw [Bool.eq_false_iff]
    intro h
    apply e
    apply List.ext_getElem?
    intro i
    rcases Nat.lt_or_ge i xs.length with q | q
    · have := List.all_eq_true.mp h i (List.mem_range.mpr q)
      simpa using this
    · rw [List.getElem?_eq_none q, List.getElem?_eq_none (hl ▸ q)]
theorem eq_strs {l b : Addr} {vs ws : List Value} {xs ys : List Str} {Q : Value → Shared → Prop} (hl : s.heap.IsList l vs.toArray) (hb : s.heap.IsList b ws.toArray) (hx : StrsAre vs xs) (hy : StrsAre ws ys) (hu : A.units < cLine)
    (h : Q (.bool (decide (xs = ys))) s) : wpAny (model prog w) A (compareOp .Eq (.ref l) (.ref b)) Q E s := by
  have lx := StrsAre.length hx
  have ly := StrsAre.length hy
  by_cases e : xs.length = ys.length
  · refine SeqAt.eq_listAt (e := fun j => xs[j]? == ys[j]?) hl hb (by simp; omega) hu (fun j h1 h2 => ?_) ?_
    · simp only [List.size_toArray] at h1 h2
      obtain ⟨t, g1, e1⟩ := strs_elem hx h1
      obtain ⟨u, g2, e2⟩ := strs_elem hy h2
      have k1 : vs.toArray[j] = Value.str xs[j] t := by simpa using e1
      have k2 : ws.toArray[j] = Value.str ys[j] u := by simpa using e2
      rw [k1, k2]
      have : (xs[j]? == ys[j]?) = (xs[j] == ys[j]) := by
        rw [List.getElem?_eq_getElem g1, List.getElem?_eq_getElem g2]; rfl
      simp only [this]
      exact SeqAt.EqAt.str_str _ _ _ _
    · have : vs.toArray.size = xs.length := by simp; omega
      rw [this, all_range_eq e]; exact h
  · have ne : xs ≠ ys := fun q => e (by rw [q])
    rw [decide_eq_false ne] at h
    exact SeqAt.eq_list_lengthsAt hl hb (by simp; omega) hu h
theorem last_strs {value slice : Expr} {l : Addr} {vs : List Value} {xs : List Str} {x : Str} {u : Tok} {Q : Value → Shared → Prop} (hl : s.heap.IsList l vs.toArray) (hx : StrsAre vs xs) (hg : xs.getLast? = some x) (h : ∀ t, Q (.str x t) s)
    (hs : subscripted slice false (.ref l) (.int (-1) u) = operate [.ref l, .int (-1) u] (getItem (.ref l) (.int (-1) u)) := by with_unfolding_all rfl) (hg' : ∀ r, letTemporaryGo value (.ref l) r = pure () := by intro _; with_unfolding_all rfl) :
    wpAny (model prog w) A (subscriptTail value slice (.ref l) (.int (-1) u)) Q E s := by
  have lx := StrsAre.length hx
  have hpos : 0 < xs.length := by
    cases xs with
    | nil => simp at hg
    | cons _ _ => simp
  obtain ⟨t, g1, e1⟩ := strs_elem hx (i := vs.length - 1) (by omega)
  have hxe : xs[vs.length - 1] = x := by
    rw [List.getLast?_eq_getElem?] at hg
    have : xs[vs.length - 1]? = some x := by rw [show vs.length - 1 = xs.length - 1 by omega]; exact hg
    obtain ⟨_, e⟩ := List.getElem?_eq_some_iff.mp this
    exact e
  have hk : ((-1 : Int) + (vs.toArray.size : Int)).toNat = vs.length - 1 := by simp; omega
  refine subscriptTail_builtin hl.typeIs slot_list_getitem.lookup (wpAny_getItem_list_neg hl (by decide) (by simp; omega) (by decide) (x := Value.str x t) ?_ (h t)) hs hg'
  rw [hk]
  simp only [List.getElem?_toArray]
  rw [List.getElem?_eq_getElem (by omega), e1, hxe]
theorem strs_drop {vs : List Value} {xs : List Str} (h : StrsAre vs xs) : ∀ k, StrsAre (vs.drop k) (xs.drop k) := by
  induction h with
  | nil => intro k; simp; exact StrsAre.nil
  | cons y t h ih =>
    intro k
    cases k with
    | zero => exact StrsAre.cons y t h
    | succ k => exact ih k
theorem slice_last {value slice : Expr} {l : Addr} {vs : List Value} {k : Nat} {u : Tok} {Q : Value → Shared → Prop} (hk : 1 ≤ k)
    (F : Fr h₀ L s.heap m) (N : News h₀ L s.heap news) (hl : s.heap.IsList l vs.toArray)
    (h : ∀ h', Fr h₀ L h' m → News h₀ L h' ((s.heap.objs.size + 1, { cls := .type "list", data := .seq (vs.drop (vs.length - k)).toArray }) :: news) → Q (.ref (s.heap.objs.size + 1)) { s with heap := h' })
    (hs : subscripted slice false (.ref l) (.ref s.heap.objs.size) = operate [.ref s.heap.objs.size, .ref l] (getItem (.ref l) (.ref s.heap.objs.size)) := by with_unfolding_all rfl)
    (ht : ∀ r, letTemporaryGo value (.ref l) r = pure () := by intro _; with_unfolding_all rfl)
    (hsz : vs.length ≤ sizeLine) :
    wpAny (model prog w) A (subscriptTail value slice (.ref l) (.ref s.heap.objs.size)) Q E { s with heap := s.heap.push { cls := .type "slice", data := .fields #[.int (-(k : Int)) u, .none, .none] } } := by
  refine slice_list F N hl (IsPart.int _ _) IsPart.none (fun h' F' N' => h h' F' ?_) hs ht (by simpa using hsz)
  rw [slicePick_last _ _ hk] at N'
  simpa using N'
theorem ways {b : Bool} {Q : Value → Shared → Prop} (h1 : b = true → Q (.bool true) s) (h2 : b = false → Q (.bool false) s) : Q (.bool b) s := by
  cases b
  · exact h2 rfl
  · exact h1 rfl
variable {a b : Int} {t u : Tok} {x y : Str} {Q : Value → Shared → Prop}
theorem gt_ways (h1 : b < a → Q (.bool true) s) (h2 : ¬ b < a → Q (.bool false) s) : wpAny (model prog w) A (compareOp .Gt (.int a t) (.int b u)) Q E s :=
  PyProof.Rows.gt_int (ways (fun e => h1 (of_decide_eq_true e)) fun e => h2 (of_decide_eq_false e))
theorem lt_ways (h1 : a < b → Q (.bool true) s) (h2 : ¬ a < b → Q (.bool false) s) : wpAny (model prog w) A (compareOp .Lt (.int a t) (.int b u)) Q E s :=
  PyProof.Rows.lt_int (ways (fun e => h1 (of_decide_eq_true e)) fun e => h2 (of_decide_eq_false e))
theorem eqi_ways (h1 : a = b → Q (.bool true) s) (h2 : a ≠ b → Q (.bool false) s) : wpAny (model prog w) A (compareOp .Eq (.int a t) (.int b u)) Q E s :=
  eq_int (ways (fun e => h1 (eq_of_beq e)) fun e => h2 (fun q => by rw [q] at e; simp at e))
theorem nei_ways (h1 : a ≠ b → Q (.bool true) s) (h2 : a = b → Q (.bool false) s) : wpAny (model prog w) A (compareOp .NotEq (.int a t) (.int b u)) Q E s :=
  ne_int (ways (fun e => h1 (bne_iff_ne.mp e)) fun e => h2 (by simpa using e))
theorem eqs_ways (h1 : x = y → Q (.bool true) s) (h2 : x ≠ y → Q (.bool false) s) : wpAny (model prog w) A (compareOp .Eq (.str x t) (.str y u)) Q E s :=
  eq_str (ways (fun e => h1 (eq_of_beq e)) fun e => h2 (fun q => by rw [q] at e; simp at e))
end
end Mine

end
section
open PySem PySem.W PyProof.Rows PySem.Calls PySem.W.X
set_option maxRecDepth 100000
set_option maxHeartbeats 0
namespace Mine

noncomputable def seven : Str := Str.ofString "7"
/-- what _law_meets tells, of names in small letters -/
noncomputable def meF (h : List Str) (d : Bool) (k : List Str) : Bool :=
  if (h.getLast? = some seven ∧ 1 < h.length) ∨ (k.getLast? = some seven ∧ (d = true ∨ 1 < k.length)) then !d && decide (h = k)
  else if d = true then decide (k.length < h.length) && decide (h.drop (h.length - k.length) = k) else decide (h = k)
theorem me_f {h k : List Str} {b : Bool} (e : b = decide (h = k)) : b = meF h false k := by
  subst e
  unfold meF
  split
  · simp
  · simp
theorem me_t1 {h k : List Str} {la : Str} {b : Bool} (hb : b = false) (e : h.getLast? = some la) (q : la = seven) (n : 1 < h.length) : b = meF h true k := by
  subst hb
  unfold meF
  rw [if_pos (.inl ⟨q ▸ e, n⟩)]; rfl
theorem me_t2 {h k : List Str} {lb : Str} {b : Bool} (hb : b = false) (e : k.getLast? = some lb) (q : lb = seven) : b = meF h true k := by
  subst hb
  unfold meF
  rw [if_pos (.inr ⟨q ▸ e, .inl rfl⟩)]; rfl
theorem me_t3 {h k : List Str} {b : Bool} (hb : b = false) (n : ¬ k.length < h.length) : b = meF h true k := by
  subst hb
  unfold meF
  split
  · rfl
  · simp [n]
theorem me_t4 {h k : List Str} {la lb : Str} {b : Bool} {i j : Nat} (ea : h.getLast? = some la) (eb : k.getLast? = some lb) (qa : la ≠ seven ∨ ¬ 1 < h.length) (qb : lb ≠ seven) (n : k.length < h.length) (hi : i = h.length) (hj : j = k.length) (hb : b = decide (h.drop (i - j) = k)) : b = meF h true k := by
  subst hb hi hj
  unfold meF
  rw [if_neg, if_pos rfl, decide_eq_true n, Bool.true_and]
  rintro (⟨e, q⟩ | ⟨e, _⟩)
  · rw [ea] at e; injection e with e
    rcases qa with z | z
    · exact z e
    · exact z q
  · rw [eb] at e; injection e with e; exact qb e
section
local macro_rules | `(tactic| walk_at "pad0") => `(tactic| fail)
local macro_rules | `(tactic| walk_at "compareOp Gt int int") => `(tactic| (refine gt_ways (fun hw' => ?_) (fun hw' => ?_)))
local macro_rules | `(tactic| walk_at "compareOp Eq str str") => `(tactic| (refine eqs_ways (fun hw' => ?_) (fun hw' => ?_)))
local macro_rules | `(tactic| walk_at "subscriptTail Name Slice ref ref") => `(tactic| (k_here; k_dflt (refine' slice_last ?k ?F ?N ?l ?_ ?hs ?ht ?hz; (case F => k_asm); (case N => k_asm); (case l => exact News.isList (by k_asm) (by k_mem)); (case k => omega); (case hs => with_unfolding_all rfl); (case ht => intro _; with_unfolding_all rfl); (case hz => exact Nat.le_trans (by omega) (by decide : 10 ≤ sizeLine))); intro h' F' N'))
local macro_rules | `(tactic| walk_at "subscriptTail Name UnaryOp ref int") => `(tactic| (k_here; k_dflt (refine' last_strs ?a ?b ?c ?_; (case a => exact News.isList (by k_asm) (by k_mem)); (case b => assumption); (case c => assumption)); intro t'))
local macro_rules | `(tactic| walk_at "call builtin:len") => `(tactic| (k_here; k_dflt (refine' len_list ?a ?b ?_; (case a => exact News.isList (by k_asm) (by k_mem)); (case b => simp only [List.size_toArray]; omega)); (try simp only [List.size_toArray])))
local macro_rules | `(tactic| walk_at "compareOp Eq ref ref") => `(tactic| (k_here; k_dflt (refine' eq_strs ?a ?b ?c ?d ?e ?_; (case a => exact News.isList (by k_asm) (by k_mem)); (case b => exact News.isList (by k_asm) (by k_mem)); (case c => assumption); (case d => assumption); (case e => have hcL9 := cLine_is; (try simp only [units_in1, units_deeper, Around.mark_units, units_caller]); (try dsimp only [ktrTop]); omega))))
local macro_rules | `(tactic| walk_at "exec Assign cons ListComp") => `(tactic| refine hold ?_)
local macro_rules | `(tactic| walk_at "exec If") => `(tactic| (refine wpAny_If ?_))
local macro_rules | `(tactic| walk_at "CompSrc") => `(tactic| refine hold ?_)
local macro_rules | `(tactic| walk_at "TurnQ") => `(tactic| refine hold ?_)
theorem me_c {w : World} {pp : Program} {ll : List Str} {mean : ExcName → Option Value} {mg mb : Str → Option Value} {dp un : Nat} {gd : Option (List Code)} {cn : Str} {cs : Scope} {a : Addr} {ccd : Value} {cl : List (Str × Addr)} {outer : List Env} {A₀ : Around} {base h₀ : Heap} {L : Addr} {m : Str → Option Value} {s : Shared} {Q E : Value → Shared → Prop} {H K : Addr} {d : Bool} {hv kv : List Value} {hx kx : List Str} {news : List (Addr × Obj)} (hH : (H, LCg.lst hv) ∈ news) (hK : (K, LCg.lst kv) ∈ news) (hhs : StrsAre hv hx) (hks : StrsAre kv kx) (hhl : hv.length ≤ 10) (hkl : kv.length ≤ 10) (hxl : ∀ x ∈ hx, x.length ≤ 10) (kxl : ∀ x ∈ kx, x.length ≤ 10) {la lb : Str} (hla : (hx.map Txt.lower).getLast? = some la) (hlb : (kx.map Txt.lower).getLast? = some lb)
  (B : Below A₀ base outer h₀) (F : Fr h₀ L s.heap m) (X : (Mine.hd.heap_39 w.params).In h₀) (T : Top pp ll mean mg mb h₀) (hk : cs.kind = .function) (N : News h₀ L s.heap news) (hd : dp + 20 < recursionLimit) (hu : un + 120 < cLine)
  (ret : ∀ h' tk' b, Fr h₀ L h' m → News h₀ L h' news → b = meF (hx.map Txt.lower) d (kx.map Txt.lower) → Q (.bool b) { s with heap := h', toks := tk' }) :
  wpAny (model Challenge.rw_of0095_01.row.prog w) (ktrTop dp un gd cn cs L a ccd cl outer) (call (.ref 816) [.ref H, .bool d, .ref K]) Q E s := by
  w_top off; revert X; k_fill; intro X
  refine wpAny_call ?_
  k_dflt k_enter
  k_steps
  unfold Hold
  k_dflt (refine LCg.Assign_ListComp_U (F₀ := by k_asm) (by rfl) (by with_unfolding_all rfl) (by rfl) (by decide) (by rfl) (by decide) (by rfl) (by rfl) (by rfl) ?_)
  k_steps
  unfold Hold
  k_dflt (refine LCg.CompSrc.ledger (by rfl) (by k_asm) (by k_asm) hH ?hs1 ?_)
  case hs1 => exact Nat.le_trans (by simpa using hhl) (by decide : 10 ≤ sizeLine)
  intro g9
  refine comp_all (fun (i : Nat) y => ∃ x t, hx[i]? = some x ∧ y = Value.str (Txt.lower x) t) ?turn1 ?hS1 ?fin1
  case hS1 => exact Or.inr ⟨_, hH, rfl, _, rfl⟩
  case turn1 =>
    intro i v I oI C oC D oD m₂ h tk E' hi hv9 hC hx9 F9 N9 off ne
    obtain ⟨x9, t9, e9, rfl⟩ := strs_get hhs (by simpa using hv9)
    have hl9 := hxl x9 (List.mem_of_getElem? e9)
    k_steps
    unfold Hold
    exact TurnQ.intro (by k_asm) (by k_asm) ⟨_, _, e9, rfl⟩
  intro ys hl9 hy9
  have hys := strs_map hhs (by simpa using hl9) hy9
  clear hl9 hy9
  k_steps
  unfold Hold
  k_dflt (refine LCg.Assign_ListComp_U (F₀ := by k_asm) (by rfl) (by with_unfolding_all rfl) (by rfl) (by decide) (by rfl) (by decide) (by rfl) (by rfl) (by rfl) ?_)
  k_steps
  unfold Hold
  k_dflt (refine LCg.CompSrc.ledger (by rfl) (by k_asm) (by k_asm) (List.mem_cons_of_mem _ hK) ?hs2 ?_)
  case hs2 => exact Nat.le_trans (by simpa using hkl) (by decide : 10 ≤ sizeLine)
  intro g9
  refine comp_all (fun (i : Nat) y => ∃ x t, kx[i]? = some x ∧ y = Value.str (Txt.lower x) t) ?turn2 ?hS2 ?fin2
  case hS2 => exact Or.inr ⟨_, List.mem_cons_of_mem _ hK, rfl, _, rfl⟩
  case turn2 =>
    intro i v I oI C oC D oD m₂ h tk E' hi hv9 hC hx9 F9 N9 off ne
    obtain ⟨x9, t9, e9, rfl⟩ := strs_get hks (by simpa using hv9)
    have hl9 := kxl x9 (List.mem_of_getElem? e9)
    k_steps
    unfold Hold
    exact TurnQ.intro (by k_asm) (by k_asm) ⟨_, _, e9, rfl⟩
  intro zs hl9 hy9
  have hzs := strs_map hks (by simpa using hl9) hy9
  clear hl9 hy9
  have hb1 : (hx.map Txt.lower).length ≤ 10 := by have := StrsAre.length hhs; simp; omega
  have hb2 : (kx.map Txt.lower).length ≤ 10 := by have := StrsAre.length hks; simp; omega
  generalize hx.map Txt.lower = hl at hys hla hb1 ret
  generalize kx.map Txt.lower = kl at hzs hlb hb2 ret
  have hyl := StrsAre.length hys
  have hzl := StrsAre.length hzs
  have hdr := strs_drop hys (ys.length - zs.length)
  have hpos : 1 ≤ zs.length := by
    rw [hzl]
    cases kl with
    | nil => simp at hlb
    | cons _ _ => simp
  cases d
  · k_steps
    all_goals (rename News h₀ L _ _ => N8; refine ret _ _ _ (by k_asm) (fun p hp => N8 p (by repeat (first | exact hp | refine List.mem_cons_of_mem _ ?_))) (me_f rfl))
  · k_steps
    all_goals (rename News h₀ L _ _ => N8; refine ret _ _ _ (by k_asm) (fun p hp => N8 p (by repeat (first | exact hp | refine List.mem_cons_of_mem _ ?_))) ?_)
    all_goals first
      | exact me_t3 rfl (by omega)
      | exact me_t1 rfl hla (by assumption) (by omega)
      | exact me_t2 rfl hlb (by assumption)
      | exact me_t4 hla hlb (by first | exact Or.inl (by assumption) | exact Or.inr (by omega)) (by assumption) (by omega) hyl hzl rfl
end
end Mine

end
section
open PySem PySem.W PyProof.Rows PySem.Calls PySem.W.X
set_option maxRecDepth 100000
set_option maxHeartbeats 0
namespace Mine

noncomputable def prM (x : Result × List Obj × Nat × List (Addr × Addr)) : Result × List Value × Nat × List (Addr × Addr) := (x.1, x.2.1.map (·.cls), x.2.2.1, x.2.2.2)
theorem of_prM {o : Option (Result × List Obj × Nat × List (Addr × Addr))} {r : Result} {l : List Value} {i : Nat} {asks : List (Addr × Addr)} (h : o.map prM = some (r, l, i, asks)) : ∃ own, o = some (r, own, i, asks) ∧ own.map (·.cls) = l := by
  cases o with
  | none => cases h
  | some x =>
    obtain ⟨a, b, c, d⟩ := x
    simp only [prM, Option.map_some, Option.some.injEq, Prod.mk.injEq] at h
    obtain ⟨rfl, e, rfl, rfl⟩ := h
    exact ⟨b, rfl, e⟩
theorem call_M {prog : Program} {w : World} {K : Frag} {A : Around} {fv : Value} {pos : List Value} {Q E : Value → Shared → Prop} {s : Shared} (f : Nat) (tape : List Nat) {v : Nat → Nat → Value} {l : List Value} {i : Nat}
    (X : K.In s.heap) (e : ∀ n t, (simA ⟨prog, w.params⟩ K [] n t denZ f [] (denZ (.call fv ⟨pos, []⟩)) [] 0 tape []).map prM = some (.ok (.ret (v n t)), l, i, []))
    (fin : ∀ h own, own.map (·.cls) = l → RepA s.heap h s.heap.objs.size own → Q (v s.heap.objs.size s.toks) { s with heap := h, toks := s.toks + i }) : wpAny (model prog w) A (call fv pos) Q E s := by
  have e' : ∀ n t, ∃ own, simA ⟨prog, w.params⟩ K [] n t denZ f [] (denZ (.call fv ⟨pos, []⟩)) [] 0 tape [] = some (.ok (.ret (v n t)), own, i, []) ∧ own.map (·.cls) = l := fun n t => of_prM (e n t)
  exact call_A f tape (giv := []) (own := fun n t => (e' n t).choose) (asks := fun _ _ => []) X (fun _ h => nomatch h) (fun n t => (e' n t).choose_spec.1) (fun _ _ _ h => nomatch h) fun h D => fin h _ (e' _ _).choose_spec.2 D
noncomputable def runH (w : World) (n t : Nat) (t0 : Tok) (x : Str) : Option (Result × List Value × Nat × List (Addr × Addr)) := (simA ⟨Challenge.rw_of0095_01.row.prog, w.params⟩ (Mine.hd.heap_39 w.params) [] n t denZ 100 [] (denZ (.call (.builtin "re.Pattern.search") ⟨[.ref 49, .str x t0], []⟩)) [] 0 [0, 0, 0] []).map prM
/-- the pattern's word of a text: true where it finds nothing -/
structure HdnOk (x : Str) (b : Bool) : Prop where
  run : ∀ w n t t0, runH w n t t0 x = if b = true then some (.ok (.ret .none), [], 0, []) else some (.ok (.ret (.ref (n + 1))), [.type "tuple", .type "re.Match"], 0, [])
theorem gm49 (w : World) (pl : Sem Bool) : peek (Mine.hd.heap_39 w.params) ⟨Challenge.rw_of0095_01.row.prog, w.params⟩ (getMethod (.ref 49) (Str.ofString "search") pl) = some (.builtin "re.Pattern.search", [.ref 49]) := by kernel_rfl
theorem sim_match_truthy (w : World) (dd : Option Addr) (da : Data) (sl : Array (Option Value)) (d n t : Nat) : simA ⟨Challenge.rw_of0095_01.row.prog, w.params⟩ [] [(d, ⟨.type "re.Match", dd, da, sl⟩)] n t denZ 100 [] ((truthyZ (.ref d)).bind fun a => .pure (.done (.ret (.bool a)))) [] 0 [1, 1] [] =
    some (.ok (.ret (.bool true)), [], 0, [(d, d), (d, d)]) := by kernel_rfl
section
variable {w : World} {A : Around} {s : Shared} {h₀ : Heap} {L : Addr} {m : Str → Option Value} {news : List (Addr × Obj)}
theorem match_truthy {d : Addr} {dd : Option Addr} {da : Data} {sl : Array (Option Value)} {Q : Bool → Shared → Prop} {E : Value → Shared → Prop} (hd : s.heap.get? d = some ⟨.type "re.Match", dd, da, sl⟩) (F : Fr h₀ L s.heap m) (N : News h₀ L s.heap news)
    (h : ∀ h' tk, Fr h₀ L h' m → News h₀ L h' news → Q true { s with heap := h', toks := tk }) :
    wpAny (model Challenge.rw_of0095_01.row.prog w) A (truthy (.ref d)) Q E s := by
  refine any_A Value.bool 100 [1, 1] (K := []) (giv := [(d, ⟨.type "re.Match", dd, da, sl⟩)]) (congrFun truthyZ_eq _) enc_bool (fun _ _ e => nomatch e) (fun p e => ?_) (fun n t => sim_match_truthy w dd da sl d n t) (fun n t p hp => ?_) (fun h' D => ?_)
  · rw [List.mem_singleton.mp e]; exact hd
  · simp only [List.mem_cons, List.not_mem_nil, or_false, or_self] at hp
    subst hp; rfl
  · exact h _ _ (D.fr F) (D.old N)
theorem gm49_here {pl : Sem Bool} {Q : Value × List Value → Shared → Prop} {E : Value → Shared → Prop} (F : Fr h₀ L s.heap m) (X : (Mine.hd.heap_39 w.params).In h₀) (h : Q (.builtin "re.Pattern.search", [.ref 49]) s) :
    wpAny (model Challenge.rw_of0095_01.row.prog w) A (getMethod (.ref 49) (Str.ofString "search") pl) Q E s := (Looks.of_peek (X.keeps F.keep) (gm49 w pl)).here h
theorem search_call {x : Str} {b : Bool} {t0 : Tok} {Q E : Value → Shared → Prop} (hx : HdnOk x b) (F : Fr h₀ L s.heap m) (X : (Mine.hd.heap_39 w.params).In h₀) (N : News h₀ L s.heap news)
    (h1 : b = true → ∀ h' tk, Fr h₀ L h' m → News h₀ L h' news → Q .none { s with heap := h', toks := tk })
    (h2 : b = false → ∀ d dd da sl h' tk, Fr h₀ L h' m → News h₀ L h' ((d, ⟨.type "re.Match", dd, da, sl⟩) :: news) → Q (.ref d) { s with heap := h', toks := tk }) :
    wpAny (model Challenge.rw_of0095_01.row.prog w) A (call (.builtin "re.Pattern.search") [.ref 49, .str x t0]) Q E s := by
  cases b with
  | true => exact call_M 100 [0, 0, 0] (X.keeps F.keep) (fun n t => hx.run w n t t0) fun h' own _ D => h1 rfl _ _ (D.fr F) (D.old N)
  | false =>
    refine call_M (v := fun n t => .ref (n + 1)) 100 [0, 0, 0] (X.keeps F.keep) (fun n t => hx.run w n t t0) fun h' own e D => ?_
    rcases own with _ | ⟨o1, _ | ⟨⟨c, dd, da, sl⟩, _ | ⟨o3, r⟩⟩⟩
    · simp at e
    · simp at e
    · simp only [List.map_cons, List.map_nil, List.cons.injEq, and_true] at e
      obtain ⟨_, rfl⟩ := e
      exact h2 rfl _ dd da sl _ _ (D.fr F) (D.new F N (j := 1) rfl)
    · simp at e
end
section
local macro_rules | `(tactic| walk_at "pad0") => `(tactic| fail)
local macro_rules | `(tactic| walk_at "pad1") => `(tactic| fail)
local macro_rules | `(tactic| walk_at "exec If") => `(tactic| refine wpAny_If ?_)
local macro_rules | `(tactic| walk_at "getMethod ref") => `(tactic| (k_here; k_dflt (refine' gm49_here ?a ?b ?_; (case a => k_asm); (case b => k_asm)); (try dsimp only)))
local macro_rules | `(tactic| walk_at "call builtin:re.Pattern.search") => `(tactic| (k_here; k_dflt ((with_reducible show wpAny _ _ (call (Value.builtin "re.Pattern.search") [Value.ref 49, Value.str _ _]) _ _ _); refine' search_call ?a ?b ?c ?d (fun hb' h' tk' F' N' => ?_) (fun hb' d' dd' da' sl' h' tk' F' N' => ?_); (case a => assumption); (case b => k_asm); (case c => k_asm); (case d => k_asm))))
local macro_rules | `(tactic| walk_at "truthy ref") => `(tactic| (k_here; k_dflt (refine' match_truthy ?a ?b ?c ?_; (case c => k_asm); (case b => k_asm); (case a => exact News.get (by k_asm) (by k_mem))); intro h' tk' F' N'; (try k_sweep)))
theorem hdn_c {w : World} {pp : Program} {ll : List Str} {mean : ExcName → Option Value} {mg mb : Str → Option Value} {dp un : Nat} {gd : Option (List Code)} {cn : Str} {cs : Scope} {a : Addr} {ccd : Value} {cl : List (Str × Addr)} {outer : List Env} {A₀ : Around} {base h₀ : Heap} {L : Addr} {m : Str → Option Value} {s : Shared} {Q E : Value → Shared → Prop} {x : Str} {b : Bool} {tx : Tok} {news : List (Addr × Obj)} (hx : HdnOk x b)
  (B : Below A₀ base outer h₀) (F : Fr h₀ L s.heap m) (X : (Mine.hd.heap_39 w.params).In h₀) (T : Top pp ll mean mg mb h₀) (hk : cs.kind = .function) (N : News h₀ L s.heap news) (hd : dp + 6 < recursionLimit) (hu : un + 60 < cLine)
  (ret : ∀ h' tk', Fr h₀ L h' m → News h₀ L h' news → Q (.bool b) { s with heap := h', toks := tk' }) :
  wpAny (model Challenge.rw_of0095_01.row.prog w) (ktrTop dp un gd cn cs L a ccd cl outer) (call (.ref 56) [.str x tx]) Q E s := by
  w_top off; revert X; k_fill; intro X
  refine wpAny_call ?_
  k_dflt k_enter
  k_steps
  · subst b
    exact ret _ _ (by k_asm) (by k_asm)
  · subst b
    rename News h₀ L _ _ => N8
    exact ret _ _ (by k_asm) (fun p hp => N8 p (.tail _ hp))
end
end Mine

end
section
open PySem PySem.W PyProof.Rows PySem.Calls PySem.W.X
set_option maxRecDepth 100000
set_option maxHeartbeats 0
namespace Mine

section
variable {prog : Program} {w : World} {A : Around} {E : Value → Shared → Prop} {s : Shared} {x y a : Str} {t u : Tok} {Q : Value → Shared → Prop}
theorem lower_is (e : Txt.lower x = a) (hl : x.length ≤ 100) (h : ∀ t tk, Q (.str a t) { s with toks := tk }) : wpAny (model prog w) A (call (.builtin "str.lower") [.str x t]) Q E s := by
  subst e
  exact SCL.lower (Nat.le_trans hl (by decide)) fun _ => h _ _
theorem starts_is {b : Bool} (e : Txt.startswith x y = b) (h : Q (.bool b) s) : wpAny (model prog w) A (call (.builtin "str.startswith") [.str x t, .str y u]) Q E s := by
  subst e
  exact SC.startswith h
theorem ends_is {b : Bool} (e : Txt.endswith x y = b) (h : Q (.bool b) s) : wpAny (model prog w) A (call (.builtin "str.endswith") [.str x t, .str y u]) Q E s := by
  subst e
  exact SC.endswith h
end
/-- what user_domain_match tells, of two texts in small letters -/
noncomputable def udF (x y : Str) (b c sd en : Bool) : Bool := if (b && c) = true then (if sd = true then en else decide (x = y)) else decide (x = y)
section
local macro_rules | `(tactic| walk_at "pad0") => `(tactic| fail)
local macro_rules | `(tactic| walk_at "pad1") => `(tactic| fail)
local macro_rules | `(tactic| walk_at "pad2") => `(tactic| fail)
local macro_rules | `(tactic| walk_at "exec If") => `(tactic| refine wpAny_If ?_)
local macro_rules | `(tactic| walk_at "compareOp Eq str str") => `(tactic| (refine eqs_ways (fun hw' => ?_) (fun hw' => ?_)))
local macro_rules | `(tactic| walk_at "call ref") => `(tactic| (k_here; k_dflt ((with_reducible show wpAny _ _ (call (Value.ref 56) [Value.str _ _]) _ _ _); refine' hdn_c ?c0 ?k1 ?k2 ?k3 ?k5 ?kK ?k4 ?kd ?ku ?_; (case c0 => with_reducible assumption); (case k4 => k_asm); (case k1 => k_asm); (case k2 => k_asm); (case k3 => k_asm); (case k5 => k_asm); (case kK => first | exact rfl | assumption); (case kd => k_room); (case ku => (have hcL9 := cLine_is; (try simp only [units_in1, units_deeper, Around.mark_units, units_caller]); (try dsimp only [ktrTop]); omega))); intro h' tk' F' N'; (try dsimp only); (try k_sweep)))
local macro_rules | `(tactic| walk_at "call builtin:str.lower") => `(tactic| (k_here; k_dflt ((with_reducible show wpAny _ _ (call (Value.builtin "str.lower") [Value.str _ _]) _ _ _); refine' lower_is ?a ?b ?_; (case a => with_reducible assumption); (case b => with_reducible assumption)); intro t' tk'; (try dsimp only)))
local macro_rules | `(tactic| walk_at "call builtin:str.startswith") => `(tactic| (k_here; k_dflt ((with_reducible show wpAny _ _ (call (Value.builtin "str.startswith") [Value.str _ _, Value.str _ _]) _ _ _); refine' starts_is ?a ?_; (case a => with_reducible assumption))))
local macro_rules | `(tactic| walk_at "call builtin:str.endswith") => `(tactic| (k_here; k_dflt ((with_reducible show wpAny _ _ (call (Value.builtin "str.endswith") [Value.str _ _, Value.str _ _]) _ _ _); refine' ends_is ?a ?_; (case a => with_reducible assumption))))
theorem ud_c {w : World} {pp : Program} {ll : List Str} {mean : ExcName → Option Value} {mg mb : Str → Option Value} {dp un : Nat} {gd : Option (List Code)} {cn : Str} {cs : Scope} {a : Addr} {ccd : Value} {cl : List (Str × Addr)} {outer : List Env} {A₀ : Around} {base h₀ : Heap} {L : Addr} {m : Str → Option Value} {s : Shared} {Q E : Value → Shared → Prop} {x y xa ya : Str} {b c sd en : Bool} {tx ty : Tok} {news : List (Addr × Obj)} (hxa : Txt.lower x = xa) (hya : Txt.lower y = ya) (hsd : Txt.startswith ya (Str.ofString ".") = sd) (hen : Txt.endswith xa ya = en) (hx : HdnOk xa b) (hy : HdnOk ya c) (hxl : x.length ≤ 100) (hyl : y.length ≤ 100)
  (B : Below A₀ base outer h₀) (F : Fr h₀ L s.heap m) (X : (Mine.hd.heap_39 w.params).In h₀) (T : Top pp ll mean mg mb h₀) (hk : cs.kind = .function) (N : News h₀ L s.heap news) (hd : dp + 20 < recursionLimit) (hu : un + 120 < cLine)
  (ret : ∀ h' tk' v, Fr h₀ L h' m → News h₀ L h' news → v = udF xa ya b c sd en → Q (.bool v) { s with heap := h', toks := tk' }) :
  wpAny (model Challenge.rw_of0095_01.row.prog w) (ktrTop dp un gd cn cs L a ccd cl outer) (call (.ref 63) [.str x tx, .str y ty]) Q E s := by
  w_top off; revert X; k_fill; intro X
  refine wpAny_call ?_
  k_dflt k_enter
  cases b
  · cases c
    all_goals k_steps
    all_goals refine ret _ _ _ (by k_asm) (by k_asm) ?_
    all_goals first | exact (decide_eq_true (by assumption)).symm | exact (decide_eq_false (by assumption)).symm
  · cases c
    · k_steps
      all_goals refine ret _ _ _ (by k_asm) (by k_asm) ?_
      all_goals first | exact (decide_eq_true (by assumption)).symm | exact (decide_eq_false (by assumption)).symm
    cases sd
    · k_steps
      all_goals refine ret _ _ _ (by k_asm) (by k_asm) ?_
      all_goals first | exact (decide_eq_true (by assumption)).symm | exact (decide_eq_false (by assumption)).symm
    · cases en
      all_goals k_steps
      all_goals exact ret _ _ _ (by k_asm) (by k_asm) rfl
end
end Mine

end
section
open PySem PySem.W PyProof.Rows PySem.Calls PySem.W.X PySem.SeqAt
set_option maxRecDepth 100000
set_option maxHeartbeats 2000000
namespace Mine
noncomputable abbrev pairObj (p : Int) (t : Tok) (q : Int) (u : Tok) (n : Nat) : Obj := { cls := .type "tuple", data := .seq #[.int p t, .int q u] n }
theorem rc_lt {prog : Program} {w : World} {A : Around} {E : Value → Shared → Prop} {s : Shared} {Q : Value → Shared → Prop} {a b : Int} {t u : Tok} (h : Q (.bool (decide (a < b))) s) : wpAny (model prog w) A (richCompare .Lt (.int a t) (.int b u)) Q E s := PySem.P.lt_int h
theorem tuple_lt2 (l b : Addr) (p q p' q' : Int) (t u t' u' : Tok) (n n' : Nat) :
    Meets (Builtin.«tuple.__lt__» ⟨[.ref l, .ref b], []⟩)
      (fun A R s => s.heap.get? l = some (pairObj p t q u n) ∧ s.heap.get? b = some (pairObj p' t' q' u' n') ∧
        R (.ok (.ret (.bool (decide (p < p' ∨ (p = p' ∧ q < q')))))) s) :=
  .of_wp fun prog w A R s h => by
    obtain ⟨hp, g, d, tk, os⟩ := s; obtain ⟨hl, hb, h⟩ := h
    have f2 := AutoSeq1.sub_tuple_tuple
    wp_walk using wpAny_loadPart' hl, wpAny_loadPart' hb
    refine EqAt.int_int p t p' t' prog w _ _ ?_
    by_cases e1 : p = p'
    · subst e1
      rw [beq_self_eq_true]
      wp_walk
      refine EqAt.int_int q u q' u' prog w _ _ ?_
      by_cases e2 : q = q'
      · subst e2
        rw [beq_self_eq_true]
        wp_walk
        refine ⟨_, rfl, ?_⟩
        have : decide (p < p ∨ (p = p ∧ q < q)) = false := by rw [decide_eq_false]; omega
        rw [this] at h
        exact h
      · rw [beq_false_of_ne e2]
        wp_walk using rc_lt
        refine ⟨_, rfl, ?_⟩
        have : decide (p < p ∨ (p = p ∧ q < q')) = decide (q < q') := by congr 1; simp
        rw [this] at h
        exact h
    · rw [beq_false_of_ne e1]
      wp_walk using rc_lt
      refine ⟨_, rfl, ?_⟩
      have : decide (p < p' ∨ (p = p' ∧ q < q')) = decide (p < p') := by congr 1; simp [e1]
      rw [this] at h
      exact h
section
variable {prog : Program} {w : World} {A : Around} {E : Value → Shared → Prop} {s : Shared} {Q : Value → Shared → Prop}
theorem lt_pairs {l b : Addr} {p q p' q' : Int} {t u t' u' : Tok} {n n' : Nat} (hl : s.heap.get? l = some (pairObj p t q u n)) (hb : s.heap.get? b = some (pairObj p' t' q' u' n')) (hu : A.units < cLine)
    (h1 : (p < p' ∨ (p = p' ∧ q < q')) → Q (.bool true) s) (h2 : ¬ (p < p' ∨ (p = p' ∧ q < q')) → Q (.bool false) s) : wpAny (model prog w) A (compareOp .Lt (.ref l) (.ref b)) Q E s := by
  refine richCompare_meets_room (op := .Lt) ⟨_, hl, rfl⟩ ⟨_, hb, rfl⟩ F.slot_tuple_lt F.entry_tuple_lt (F.args_tuple_lt_2 _ _) (tuple_lt2 l b p q p' q' t u t' u' n n') ⟨hl, hb, ?_⟩ hu
  show Value.bool _ ≠ Value.notImplemented ∧ Q (.bool _) s
  refine ⟨(fun x => nomatch x), ?_⟩
  by_cases e : p < p' ∨ (p = p' ∧ q < q')
  · rw [decide_eq_true e]; exact h1 e
  · rw [decide_eq_false e]; exact h2 e
end
end Mine

end
section
open PySem PySem.W PyProof.Rows PySem.Calls PySem.W.X
set_option maxRecDepth 100000
namespace Mine
/-- an item of the heap: its value and the two ints that the tuple holds -/
noncomputable abbrev Item := Value × Int × Int
noncomputable def itLt (x y : Item) : Bool := decide (x.2.1 < y.2.1 ∨ (x.2.1 = y.2.1 ∧ x.2.2 < y.2.2))
noncomputable def sd (new : Item) : Nat → Nat → List Item → List Item
  | 0, pos, xs => xs.set pos new
  | f + 1, pos, xs => if pos = 0 then xs.set pos new else match xs[(pos - 1) / 2]? with
    | some par => if itLt new par = true then sd new f ((pos - 1) / 2) (xs.set pos par) else xs.set pos new
    | none => xs
noncomputable def PairIn (rest : List (Addr × Obj)) (x : Item) : Prop := ∃ a t u n, x.1 = .ref a ∧ (a, pairObj x.2.1 t x.2.2 u n) ∈ rest
noncomputable abbrev itV (xs : List Item) : List Value := xs.map (·.1)
section
variable {prog : Program} {w : World} {A : Around} {E : Value → Shared → Prop} {s : Shared} {h₀ : Heap} {L D : Addr} {m : Str → Option Value} {rest : List (Addr × Obj)} {xs : List Item} {n : Nat} {k : Int} {t u : Tok} {x y : Item}
theorem it_set {Q : Unit → Shared → Prop} (F : Fr h₀ L s.heap m) (N : News h₀ L s.heap ((D, listOf (itV xs).toArray n) :: rest)) (hr : ∀ q ∈ rest, q.1 ≠ D) (h0 : 0 ≤ k) (h1 : k < xs.length) (h2 : xs.length ≤ 1000)
    (h : ∀ h', Fr h₀ L h' m → News h₀ L h' ((D, listOf (itV (xs.set k.toNat x)).toArray n) :: rest) → Q () { s with heap := h' }) :
    wpAny (model prog w) A (setItem (.ref D) (.int k t) x.1) Q E s := by
  have z := N (D, listOf (itV xs).toArray n) (.head _)
  refine ki_setAt z.1 h0 (by omega) (by simp; omega) (h _ (F.change (Heap.SameBut.update ..) z.2.1 z.2.2) (ki_turn (pre := []) _ N (fun _ h => nomatch h) hr ?_ ?_))
  · apply Array.toList_inj.mp
    simp
  · simp
theorem it_get {value slice : PySem.Expr} {Q : Value → Shared → Prop} (N : News h₀ L s.heap ((D, listOf (itV xs).toArray n) :: rest)) (h0 : 0 ≤ k) (h2 : xs.length ≤ 1000) (hx : xs[k.toNat]? = some x) (h : Q x.1 s)
    (hs : subscripted slice false (.ref D) (.int k u) = operate [.ref D, .int k u] (getItem (.ref D) (.int k u)) := by with_unfolding_all rfl) (hg : ∀ r, letTemporaryGo value (.ref D) r = pure () := by intro _; with_unfolding_all rfl) :
    wpAny (model prog w) A (subscriptTail value slice (.ref D) (.int k u)) Q E s := by
  obtain ⟨hlt, _⟩ := List.getElem?_eq_some_iff.mp hx
  exact item_listL (l := itV xs) (News.isList N (.head _)) h0 (by omega) (by simp [hx]) h hs hg
theorem it_lt {Q : Value → Shared → Prop} {news : List (Addr × Obj)} (N : News h₀ L s.heap news) (hn : ∀ q ∈ rest, q ∈ news) (hx : PairIn rest x) (hy : PairIn rest y) (hu : A.units < cLine)
    (h1 : itLt x y = true → Q (.bool true) s) (h2 : itLt x y = false → Q (.bool false) s) : wpAny (model prog w) A (compareOp .Lt x.1 y.1) Q E s := by
  obtain ⟨a, t, u, i, e, ha⟩ := hx
  obtain ⟨b, t', u', i', e', hb⟩ := hy
  rw [e, e']
  exact lt_pairs (N.get (hn _ ha)) (N.get (hn _ hb)) hu (fun q => h1 (decide_eq_true q)) (fun q => h2 (decide_eq_false q))
end
end Mine

end
section
open PySem PySem.W PyProof.Rows PySem.Calls PySem.W.X
set_option maxRecDepth 100000
set_option maxHeartbeats 0
namespace Mine

theorem shr1 {prog : Program} {w : World} {A : Around} {E : Value → Shared → Prop} {s : Shared} {c : Nat} {t u : Tok} {Q : Value → Shared → Prop} (hc : 0 < c) (h : ∀ t tk, Q (.int (((c - 1) / 2 : Nat) : Int) t) { s with toks := tk }) : wpAny (model prog w) A (binaryOp .RShift (.int ((c : Int) - 1) t) (.int 1 u)) Q E s := by
  refine wpAny_rshift1_int (by omega) ?_
  rw [show ((c : Int) - 1) / 2 = (((c - 1) / 2 : Nat) : Int) by omega]
  exact h _ _
noncomputable abbrev sdM (H : Addr) (p0 : Nat) (t1 t0 : Tok) (new : Value) (pos : Nat) (tp : Tok) (u v : Option Value) : Str → Option Value := fun z => if z = Str.ofString "parent" then u else if z = Str.ofString "parentpos" then v else if z = Str.ofString "newitem" then some new else if z = Str.ofString "pos" then some (.int pos tp) else [(Str.ofString "heap", Value.ref H), (Str.ofString "startpos", Value.int 0 t0), (Str.ofString "pos", Value.int p0 t1)].reverse.lookup z
noncomputable def SdP (H : Addr) (n : Nat) (rest : List (Addr × Obj)) (new : Item) (all : List Item) (goal : List Item) (g : Heap) (L : Addr) (s : Shared) (p0 : Nat) (t1 t0 : Tok) (c : Nat) (s' : Shared) : Prop :=
  ∃ h tk u v tp xs f, s' = { s with heap := h, toks := tk } ∧ Fr g L h (sdM H p0 t1 t0 new.1 c tp u v) ∧ News g L h ((H, listOf (itV xs).toArray n) :: rest) ∧ (∀ x ∈ xs, PairIn rest x) ∧ c ≤ f ∧ c < xs.length ∧ xs.length = all.length ∧ sd new f c xs = goal
theorem sd_turn {new par : Item} {f c : Nat} {xs : List Item} (hc : 0 < c) (hf : c ≤ f) (hp : xs[(c - 1) / 2]? = some par) : sd new f c xs = if itLt new par = true then sd new (f - 1) ((c - 1) / 2) (xs.set c par) else xs.set c new := by
  cases f with
  | zero => omega
  | succ f => simp only [sd, if_neg (show c ≠ 0 by omega), hp, Nat.add_sub_cancel]
theorem sd_zero {new : Item} {f : Nat} {xs : List Item} : sd new f 0 xs = xs.set 0 new := by
  cases f <;> rfl
section
local macro_rules | `(tactic| walk_at "pad0") => `(tactic| fail)
local macro_rules | `(tactic| walk_at "binaryOp RShift int int") => `(tactic| (k_here; k_dflt (refine' shr1 ?a ?_; (case a => omega)); intro t' tk'; (try dsimp only)))
local macro_rules | `(tactic| walk_at "exec While") => `(tactic| (refine lp_start ?_))
local macro_rules | `(tactic| walk_at "exec If") => `(tactic| refine wpAny_If ?_)
local macro_rules | `(tactic| walk_at "LpPost") => `(tactic| (dsimp only [LpPost]))
local macro_rules | `(tactic| walk_at "LpRest") => `(tactic| refine hold ?_)
local macro_rules | `(tactic| walk_at "compareOp Gt int int") => `(tactic| (refine gt_ways (fun hw' => ?_) (fun hw' => ?_)))
local macro_rules | `(tactic| walk_at "subscriptTail Name Name ref int") => `(tactic| (k_here; k_dflt (refine' it_get ?a ?b ?c ?d ?_ ?e ?f; (case a => k_asm); (case b => omega); (case c => omega); (case d => first | assumption | (simp only [Int.toNat_natCast]; assumption)); (case e => with_unfolding_all rfl); (case f => intro _; with_unfolding_all rfl))))
local macro_rules | `(tactic| walk_at "compareOp Lt") => `(tactic| (k_here; k_dflt (refine' it_lt ?a ?b ?c ?d ?e (fun hw' => ?_) (fun hw' => ?_); (case a => k_asm); (case b => exact fun q hq => .tail _ hq); (case c => assumption); (case d => assumption); (case e => (have hcL9 := cLine_is; (try simp only [units_in1, units_deeper, Around.mark_units, units_caller]); (try dsimp only [ktrTop]); omega)))))
local macro_rules | `(tactic| walk_at "setItem ref int") => `(tactic| (k_here; k_dflt (refine' it_set ?a ?b ?c ?d ?e ?f ?_; (case a => k_asm); (case b => k_asm); (case c => assumption); (case d => omega); (case e => omega); (case f => omega)); intro h' F' N'; (try k_sweep)))
theorem sd_c {w : World} {pp : Program} {ll : List Str} {mean : ExcName → Option Value} {mg mb : Str → Option Value} {dp un : Nat} {gd : Option (List Code)} {cn : Str} {cs : Scope} {a : Addr} {ccd : Value} {cl : List (Str × Addr)} {outer : List Env} {A₀ : Around} {base h₀ : Heap} {L : Addr} {m : Str → Option Value} {s : Shared} {Q E : Value → Shared → Prop} {H : Addr} {n pos : Nat} {rest : List (Addr × Obj)} {all : List Item} {new : Item} {t0 t1 : Tok} (hr : ∀ q ∈ rest, q.1 ≠ H) (hp : all[pos]? = some new) (hpa : ∀ x ∈ all, PairIn rest x) (hlen : all.length ≤ 1000)
  (B : Below A₀ base outer h₀) (F : Fr h₀ L s.heap m) (X : (Mine.hd.heap_39 w.params).In h₀) (T : Top pp ll mean mg mb h₀) (hk : cs.kind = .function) (N : News h₀ L s.heap ((H, listOf (itV all).toArray n) :: rest)) (hd : dp + 6 < recursionLimit) (hu : un + 60 < cLine)
  (ret : ∀ h' tk', Fr h₀ L h' m → News h₀ L h' ((H, listOf (itV (sd new pos pos all)).toArray n) :: rest) → Q .none { s with heap := h', toks := tk' }) :
  wpAny (model Challenge.rw_of0095_01.row.prog w) (ktrTop dp un gd cn cs L a ccd cl outer) (call (.ref 84) [.ref H, .int 0 t0, .int pos t1]) Q E s := by
  w_top off; revert X; k_fill; intro X
  obtain ⟨hlt, _⟩ := List.getElem?_eq_some_iff.mp hp
  refine wpAny_call ?_
  k_dflt k_enter
  k_steps
  unfold Hold
  have hnew := hpa new (List.mem_of_getElem? hp)
  refine' lp_ind (fun c s' => SdP H n rest new all (sd new pos pos all) ?g ?L1 s pos t1 t0 c s') (fun c => c) ?turn pos ?start
  case start =>
    refine' ⟨_, _, none, none, _, all, pos, rfl, ?fr, ?nw, hpa, Nat.le_refl _, hlt, rfl, rfl⟩
    case nw => k_asm
    case fr =>
      refine' fr_eqm (by k_asm) ?_
      funext z
      by_cases e0 : z = Str.ofString "parent"
      · subst e0; rfl
      · by_cases e1 : z = Str.ofString "parentpos"
        · subst e1; rfl
        · by_cases e2 : z = Str.ofString "newitem"
          · subst e2; rfl
          · by_cases e3 : z = Str.ofString "pos"
            · subst e3; rfl
            · simp only [sdM, e0, e1, e2, e3, if_false]; try rfl

  case turn =>
    rintro c s' ⟨h, tk, u, v, tp, xs, f, rfl, F9, N9, hpx, hcf, hcl, hxl, hg⟩ ih
    refine lp_turn (by passes_own) ?_
    obtain ⟨par, hpar⟩ : ∃ par, xs[(c - 1) / 2]? = some par := ⟨_, List.getElem?_eq_getElem (by omega)⟩
    have hparP := hpx par (List.mem_of_getElem? hpar)
    k_steps
    · unfold Hold
      rename itLt _ _ = true => hlt9
      have hc0 : 0 < c := by omega
      have hg9 := sd_turn hc0 hcf hpar (new := new)
      rw [if_pos hlt9, hg] at hg9
      refine' ih ((c - 1) / 2) _ (by omega) ⟨_, _, _, _, _, xs.set c par, f - 1, rfl, ?fr1, ?nw1, ?pp1, by omega, by rw [List.length_set]; omega, by rw [List.length_set]; exact hxl, hg9.symm⟩
      case nw1 => k_asm
      case pp1 =>
        intro x hx
        rcases List.mem_or_eq_of_mem_set hx with q | q
        · exact hpx x q
        · rw [q]; exact hparP
      case fr1 =>
        refine' fr_eqm (by k_asm) ?_
        funext z
        by_cases e0 : z = Str.ofString "parent"
        · subst e0; rfl
        · by_cases e1 : z = Str.ofString "parentpos"
          · subst e1; rfl
          · by_cases e2 : z = Str.ofString "newitem"
            · subst e2; rfl
            · by_cases e3 : z = Str.ofString "pos"
              · subst e3; rfl
              · simp only [sdM, e0, e1, e2, e3, if_false]; try rfl

    · rename itLt _ _ = false => hlt9
      have hc0 : 0 < c := by omega
      have hg9 := sd_turn hc0 hcf hpar (new := new)
      rw [hlt9, if_neg (by decide), hg] at hg9
      rename News h₀ L _ _ => N8
      rw [Int.toNat_natCast, ← hg9] at N8
      exact ret _ _ (by k_asm) N8
    · have hc0 : c = 0 := by omega
      subst hc0
      rw [sd_zero] at hg
      rename News h₀ L _ _ => N8
      rw [Int.toNat_natCast, hg] at N8
      exact ret _ _ (by k_asm) N8
end
end Mine

end
section
open PySem PySem.W PyProof.Rows PySem.Calls PySem.W.X
set_option maxRecDepth 100000
set_option maxHeartbeats 0
namespace Mine

noncomputable def gtI (xs : List Item) (i : Nat) : Item := xs.getD i (Value.none, 0, 0)
noncomputable def suL : Nat → Nat → List Item → Nat × List Item
  | 0, pos, xs => (pos, xs)
  | f + 1, pos, xs => if 2 * pos + 1 < xs.length then
      (if 2 * pos + 2 < xs.length ∧ itLt (gtI xs (2 * pos + 1)) (gtI xs (2 * pos + 2)) = false then suL f (2 * pos + 2) (xs.set pos (gtI xs (2 * pos + 2))) else suL f (2 * pos + 1) (xs.set pos (gtI xs (2 * pos + 1))))
    else (pos, xs)
noncomputable def su (xs : List Item) : List Item := sd (gtI xs 0) (suL xs.length 0 xs).1 (suL xs.length 0 xs).1 ((suL xs.length 0 xs).2.set (suL xs.length 0 xs).1 (gtI xs 0))
theorem gt_get {xs : List Item} {i : Nat} (h : i < xs.length) : xs[i]? = some (gtI xs i) := by
  unfold gtI
  rw [List.getD_eq_getElem?_getD, List.getElem?_eq_getElem h]; rfl
theorem gt_pair {rest : List (Addr × Obj)} {xs : List Item} (hp : ∀ x ∈ xs, PairIn rest x) {i : Nat} (h : i < xs.length) : PairIn rest (gtI xs i) := hp _ (List.mem_of_getElem? (gt_get h))
section
variable {prog : Program} {w : World} {A : Around} {E : Value → Shared → Prop} {s : Shared} {h₀ : Heap} {L D : Addr} {rest : List (Addr × Obj)} {xs : List Item} {n : Nat} {k : Int} {u : Tok}
theorem it_len {Q : Value → Shared → Prop} (N : News h₀ L s.heap ((D, listOf (itV xs).toArray n) :: rest)) (h2 : xs.length ≤ 1000) (h : ∀ t tk, Q (.int xs.length t) { s with toks := tk }) : wpAny (model prog w) A (call (.builtin "len") [.ref D]) Q E s := by
  have z : (itV xs).toArray.size = xs.length := by simp
  have h' := h (s.toks + 1) (s.toks + 1 + 1)
  refine len_list (News.isList N (.head _)) (by rw [z]; omega) ?_
  rw [z]; exact h'
theorem it_get2 {value slice : PySem.Expr} {Q : Value → Shared → Prop} (N : News h₀ L s.heap ((D, listOf (itV xs).toArray n) :: rest)) (h0 : 0 ≤ k) (h1 : k < xs.length) (h2 : xs.length ≤ 1000) (h : Q (gtI xs k.toNat).1 s)
    (hs : subscripted slice false (.ref D) (.int k u) = operate [.ref D, .int k u] (getItem (.ref D) (.int k u)) := by with_unfolding_all rfl) (hg : ∀ r, letTemporaryGo value (.ref D) r = pure () := by intro _; with_unfolding_all rfl) :
    wpAny (model prog w) A (subscriptTail value slice (.ref D) (.int k u)) Q E s := it_get N h0 h2 (gt_get (by omega)) h hs hg
end
noncomputable abbrev suM (H : Addr) (t0 : Tok) (len : Nat) (te : Tok) (new : Value) (c : Nat) (tp : Tok) (ci : Int) (tc : Tok) (u : Option Value) : Str → Option Value := fun z => if z = Str.ofString "rightpos" then u else if z = Str.ofString "childpos" then some (.int ci tc) else if z = Str.ofString "newitem" then some new else if z = Str.ofString "startpos" then some (.int 0 t0) else if z = Str.ofString "endpos" then some (.int len te) else if z = Str.ofString "pos" then some (.int c tp) else [(Str.ofString "heap", Value.ref H), (Str.ofString "pos", Value.int 0 t0)].reverse.lookup z
noncomputable def SuP (H : Addr) (n : Nat) (rest : List (Addr × Obj)) (all : List Item) (new : Value) (g : Heap) (L : Addr) (s : Shared) (t0 te : Tok) (c : Nat) (s' : Shared) : Prop :=
  ∃ h tk u tp ci tc xs f, s' = { s with heap := h, toks := tk } ∧ Fr g L h (suM H t0 all.length te new c tp ci tc u) ∧ News g L h ((H, listOf (itV xs).toArray n) :: rest) ∧ (∀ x ∈ xs, PairIn rest x) ∧ ci = 2 * (c : Int) + 1 ∧ c < xs.length ∧ xs.length ≤ c + f ∧ xs.length = all.length ∧ suL f c xs = suL all.length 0 all
theorem su_done {f c : Nat} {xs : List Item} (h : ¬ 2 * c + 1 < xs.length) : suL f c xs = (c, xs) := by
  cases f with
  | zero => rfl
  | succ f => simp only [suL, if_neg h]
theorem su_right {f c : Nat} {xs : List Item} (hf : 0 < f) (h2 : 2 * c + 2 < xs.length) (hl : itLt (gtI xs (2 * c + 1)) (gtI xs (2 * c + 2)) = false) : suL f c xs = suL (f - 1) (2 * c + 2) (xs.set c (gtI xs (2 * c + 2))) := by
  cases f with
  | zero => omega
  | succ f => simp only [suL, if_pos (show 2 * c + 1 < xs.length by omega), if_pos (And.intro h2 hl), Nat.add_sub_cancel]
theorem su_left {f c : Nat} {xs : List Item} (hf : 0 < f) (h1 : 2 * c + 1 < xs.length) (hl : ¬ 2 * c + 2 < xs.length ∨ itLt (gtI xs (2 * c + 1)) (gtI xs (2 * c + 2)) = true) : suL f c xs = suL (f - 1) (2 * c + 1) (xs.set c (gtI xs (2 * c + 1))) := by
  cases f with
  | zero => omega
  | succ f =>
    have : ¬ (2 * c + 2 < xs.length ∧ itLt (gtI xs (2 * c + 1)) (gtI xs (2 * c + 2)) = false) := by
      rintro ⟨q1, q2⟩
      rcases hl with z | z
      · exact z q1
      · rw [z] at q2; cases q2
    simp only [suL, if_pos h1, if_neg this, Nat.add_sub_cancel]
section
local macro_rules | `(tactic| walk_at "pad0") => `(tactic| fail)
local macro_rules | `(tactic| walk_at "pad1") => `(tactic| fail)
local macro_rules | `(tactic| walk_at "pad2") => `(tactic| fail)
local macro_rules | `(tactic| walk_at "exec While") => `(tactic| (refine lp_start ?_))
local macro_rules | `(tactic| walk_at "exec If") => `(tactic| refine wpAny_If ?_)
local macro_rules | `(tactic| walk_at "LpPost") => `(tactic| (dsimp only [LpPost]))
local macro_rules | `(tactic| walk_at "LpRest") => `(tactic| refine hold ?_)
local macro_rules | `(tactic| walk_at "compareOp Lt int int") => `(tactic| (refine lt_ways (fun hw' => ?_) (fun hw' => ?_)))
local macro_rules | `(tactic| walk_at "call builtin:len") => `(tactic| (k_here; k_dflt (refine' it_len ?a ?b ?_; (case a => k_asm); (case b => omega)); intro t' tk'; (try dsimp only)))
local macro_rules | `(tactic| walk_at "subscriptTail Name Name ref int") => `(tactic| (k_here; k_dflt (refine' it_get2 ?a ?b ?c ?d ?_ ?e ?f; (case a => k_asm); (case b => omega); (case c => omega); (case d => omega); (case e => with_unfolding_all rfl); (case f => intro _; with_unfolding_all rfl))))
local macro_rules | `(tactic| walk_at "compareOp Lt") => `(tactic| (k_here; k_dflt (refine' it_lt ?a ?b ?c ?d ?e (fun hw' => ?_) (fun hw' => ?_); (case a => k_asm); (case b => exact fun q hq => .tail _ hq); (case c => exact gt_pair (by assumption) (by omega)); (case d => exact gt_pair (by assumption) (by omega)); (case e => (have hcL9 := cLine_is; (try simp only [units_in1, units_deeper, Around.mark_units, units_caller]); (try dsimp only [ktrTop]); omega)))))
local macro_rules | `(tactic| walk_at "setItem ref int") => `(tactic| (k_here; k_dflt (refine' it_set ?a ?b ?c ?d ?e ?f ?_; (case a => k_asm); (case b => k_asm); (case c => assumption); (case d => omega); (case e => omega); (case f => omega)); intro h' F' N'; (try k_sweep)))
local macro_rules | `(tactic| walk_at "call ref") => `(tactic| refine hold ?_)
theorem su_c {w : World} {pp : Program} {ll : List Str} {mean : ExcName → Option Value} {mg mb : Str → Option Value} {dp un : Nat} {gd : Option (List Code)} {cn : Str} {cs : Scope} {a : Addr} {ccd : Value} {cl : List (Str × Addr)} {outer : List Env} {A₀ : Around} {base h₀ : Heap} {L : Addr} {m : Str → Option Value} {s : Shared} {Q E : Value → Shared → Prop} {H : Addr} {n : Nat} {rest : List (Addr × Obj)} {all : List Item} {t0 : Tok} (hr : ∀ q ∈ rest, q.1 ≠ H) (hpos : 0 < all.length) (hpa : ∀ x ∈ all, PairIn rest x) (hlen : all.length ≤ 1000)
  (B : Below A₀ base outer h₀) (F : Fr h₀ L s.heap m) (X : (Mine.hd.heap_39 w.params).In h₀) (T : Top pp ll mean mg mb h₀) (hk : cs.kind = .function) (N : News h₀ L s.heap ((H, listOf (itV all).toArray n) :: rest)) (hd : dp + 10 < recursionLimit) (hu : un + 80 < cLine)
  (ret : ∀ h' tk', Fr h₀ L h' m → News h₀ L h' ((H, listOf (itV (su all)).toArray n) :: rest) → Q .none { s with heap := h', toks := tk' }) :
  wpAny (model Challenge.rw_of0095_01.row.prog w) (ktrTop dp un gd cn cs L a ccd cl outer) (call (.ref 91) [.ref H, .int 0 t0]) Q E s := by
  w_top off; revert X; k_fill; intro X
  refine wpAny_call ?_
  k_dflt k_enter
  k_steps
  unfold Hold
  refine' lp_ind (fun c s' => SuP H n rest all (gtI all 0).1 ?g ?L1 s t0 ?te c s') (fun c => all.length - c) ?turn 0 ?start
  case start =>
    refine' ⟨_, _, none, _, _, _, all, all.length, rfl, ?fr, ?nw, hpa, rfl, hpos, by omega, rfl, rfl⟩
    case nw => k_asm
    case fr =>
      refine' fr_eqm (by k_asm) ?_
      funext z
      by_cases e0 : z = Str.ofString "rightpos"
      · subst e0; rfl
      · by_cases e1 : z = Str.ofString "childpos"
        · subst e1; rfl
        · by_cases e2 : z = Str.ofString "newitem"
          · subst e2; rfl
          · by_cases e3 : z = Str.ofString "startpos"
            · subst e3; rfl
            · by_cases e4 : z = Str.ofString "endpos"
              · subst e4; rfl
              · by_cases e5 : z = Str.ofString "pos"
                · subst e5; rfl
                · simp only [suM, e0, e1, e2, e3, e4, e5, if_false]; try rfl

  case turn =>
    rintro c s' ⟨h, tk, u, tp, ci, tc, xs, f, rfl, F9, N9, hpx, hci, hcl, hcf, hxl, hg⟩ ih
    refine lp_turn (by passes_own) ?_
    have hxl2 : xs.length ≤ 1000 := by omega
    k_steps
    · unfold Hold
      have hf0 : 0 < f := by omega
      have ht1 : ci.toNat = 2 * c + 1 := by omega
      have ht2 : (ci + 1).toNat = 2 * c + 2 := by omega
      rename itLt _ _ = true => hlt9
      rw [ht1, ht2] at hlt9
      have hg9 := su_left hf0 (by omega) (.inr hlt9)
      rw [hg] at hg9
      obtain rfl : ci = ((2 * c + 1 : Nat) : Int) := by omega
      refine' ih (2 * c + 1) _ (by omega) ⟨_, _, _, _, _, _, xs.set c (gtI xs (2 * c + 1)), f - 1, rfl, ?frL1, ?nwL1, ?ppL1, rfl, by rw [List.length_set]; omega, by rw [List.length_set]; omega, by rw [List.length_set]; exact hxl, hg9.symm⟩
      case nwL1 => k_asm
      case ppL1 =>
        intro x hx
        rcases List.mem_or_eq_of_mem_set hx with q | q
        · exact hpx x q
        · rw [q]; exact gt_pair hpx (by omega)
      case frL1 =>
        refine' fr_eqm (by k_asm) ?_
        funext z
        by_cases e0 : z = Str.ofString "rightpos"
        · subst e0; rfl
        · by_cases e1 : z = Str.ofString "childpos"
          · subst e1; rfl
          · by_cases e2 : z = Str.ofString "newitem"
            · subst e2; rfl
            · by_cases e3 : z = Str.ofString "startpos"
              · subst e3; rfl
              · by_cases e4 : z = Str.ofString "endpos"
                · subst e4; rfl
                · by_cases e5 : z = Str.ofString "pos"
                  · subst e5; rfl
                  · simp only [suM, e0, e1, e2, e3, e4, e5, if_false]; try rfl
    · unfold Hold
      have hf0 : 0 < f := by omega
      have ht1 : ci.toNat = 2 * c + 1 := by omega
      have ht2 : (ci + 1).toNat = 2 * c + 2 := by omega
      rename itLt _ _ = false => hlt9
      rw [ht1, ht2] at hlt9
      have hg9 := su_right hf0 (by omega) hlt9
      rw [hg] at hg9
      obtain rfl : ci = ((2 * c + 1 : Nat) : Int) := by omega
      refine' ih (2 * c + 2) _ (by omega) ⟨_, _, _, _, _, _, xs.set c (gtI xs (2 * c + 2)), f - 1, rfl, ?frR, ?nwR, ?ppR, rfl, by rw [List.length_set]; omega, by rw [List.length_set]; omega, by rw [List.length_set]; exact hxl, hg9.symm⟩
      case nwR => k_asm
      case ppR =>
        intro x hx
        rcases List.mem_or_eq_of_mem_set hx with q | q
        · exact hpx x q
        · rw [q]; exact gt_pair hpx (by omega)
      case frR =>
        refine' fr_eqm (by k_asm) ?_
        funext z
        by_cases e0 : z = Str.ofString "rightpos"
        · subst e0; rfl
        · by_cases e1 : z = Str.ofString "childpos"
          · subst e1; rfl
          · by_cases e2 : z = Str.ofString "newitem"
            · subst e2; rfl
            · by_cases e3 : z = Str.ofString "startpos"
              · subst e3; rfl
              · by_cases e4 : z = Str.ofString "endpos"
                · subst e4; rfl
                · by_cases e5 : z = Str.ofString "pos"
                  · subst e5; rfl
                  · simp only [suM, e0, e1, e2, e3, e4, e5, if_false]; try rfl
    · unfold Hold
      have hf0 : 0 < f := by omega
      have ht1 : ci.toNat = 2 * c + 1 := by omega
      have ht2 : (ci + 1).toNat = 2 * c + 2 := by omega
      have hg9 := su_left (f := f) (c := c) (xs := xs) hf0 (by omega) (.inl (by omega))
      rw [hg] at hg9
      obtain rfl : ci = ((2 * c + 1 : Nat) : Int) := by omega
      refine' ih (2 * c + 1) _ (by omega) ⟨_, _, _, _, _, _, xs.set c (gtI xs (2 * c + 1)), f - 1, rfl, ?frL2, ?nwL2, ?ppL2, rfl, by rw [List.length_set]; omega, by rw [List.length_set]; omega, by rw [List.length_set]; exact hxl, hg9.symm⟩
      case nwL2 => k_asm
      case ppL2 =>
        intro x hx
        rcases List.mem_or_eq_of_mem_set hx with q | q
        · exact hpx x q
        · rw [q]; exact gt_pair hpx (by omega)
      case frL2 =>
        refine' fr_eqm (by k_asm) ?_
        funext z
        by_cases e0 : z = Str.ofString "rightpos"
        · subst e0; rfl
        · by_cases e1 : z = Str.ofString "childpos"
          · subst e1; rfl
          · by_cases e2 : z = Str.ofString "newitem"
            · subst e2; rfl
            · by_cases e3 : z = Str.ofString "startpos"
              · subst e3; rfl
              · by_cases e4 : z = Str.ofString "endpos"
                · subst e4; rfl
                · by_cases e5 : z = Str.ofString "pos"
                  · subst e5; rfl
                  · simp only [suM, e0, e1, e2, e3, e4, e5, if_false]; try rfl
    · unfold Hold
      have hdn := su_done (f := f) (c := c) (xs := xs) (by omega)
      rw [hg] at hdn
      rename_i N8 _
      k_dflt (refine' sd_c (all := xs.set c (gtI all 0)) (new := gtI all 0) ?c0 ?c1 ?c2 ?c3 ?k1 ?k2 ?k3 ?k5 ?kK ?k4 ?kd ?ku ?_; (case k4 => k_asm); (case k1 => k_asm); (case k2 => k_asm); (case k3 => k_asm); (case k5 => k_asm); (case kK => first | exact rfl | assumption); (case kd => k_room); (case ku => (have hcL9 := cLine_is; (try simp only [units_in1, units_deeper, Around.mark_units, units_caller]); (try dsimp only [ktrTop]); omega)))
      case c0 => assumption
      case c1 => rw [List.getElem?_set_self hcl]
      case c2 =>
        intro x hx
        rcases List.mem_or_eq_of_mem_set hx with q | q
        · exact hpx x q
        · rw [q]; exact gt_pair hpa hpos
      case c3 => rw [List.length_set]; exact hxl2
      intro h' tk' F' N'
      k_steps
      refine ret _ _ (by k_asm) ?_
      unfold su
      rw [hdn]
      k_asm
end
end Mine

end
section
open PySem PySem.W PyProof.Rows PySem.Calls PySem.W.X
set_option maxRecDepth 100000
set_option maxHeartbeats 0
namespace Mine

noncomputable def hpush (xs : List Item) (x : Item) : List Item := sd x xs.length xs.length (xs ++ [x])
/-- what heappop hands back, and what it leaves -/
noncomputable def hpop (xs : List Item) : Item × List Item := if xs.dropLast.length = 0 then (gtI xs (xs.length - 1), []) else (gtI xs.dropLast 0, su (xs.dropLast.set 0 (gtI xs (xs.length - 1))))
section
variable {prog : Program} {w : World} {A : Around} {E : Value → Shared → Prop} {s : Shared} {h₀ : Heap} {L D : Addr} {m : Str → Option Value} {rest : List (Addr × Obj)} {xs : List Item} {x : Item} {n : Nat}
theorem it_app {Q : Value → Shared → Prop} (F : Fr h₀ L s.heap m) (N : News h₀ L s.heap ((D, listOf (itV xs).toArray n) :: rest)) (hr : ∀ q ∈ rest, q.1 ≠ D) (h2 : xs.length ≤ 1000)
    (h : ∀ h', Fr h₀ L h' m → News h₀ L h' ((D, listOf (itV (xs ++ [x])).toArray (n + 1)) :: rest) → Q .none { s with heap := h' }) : wpAny (model prog w) A (call (.builtin "list.append") [.ref D, x.1]) Q E s := by
  have z := N (D, listOf (itV xs).toArray n) (.head _)
  refine append_at (its := (itV xs).toArray) (n := n) z.1 (fun h' hs ho => h h' (F.change hs z.2.1 z.2.2) ?_) (Nat.le_trans (by simpa using h2) (by decide : 1000 ≤ sizeLine))
  refine news_set (pre := []) N (fun _ h => nomatch h) hr hs ?_
  rw [ho]
  have : (itV xs).toArray.push x.1 = (itV (xs ++ [x])).toArray := by simp [itV]
  rw [this]
theorem it_pop {Q : Value → Shared → Prop} (F : Fr h₀ L s.heap m) (N : News h₀ L s.heap ((D, listOf (itV xs).toArray n) :: rest)) (hr : ∀ q ∈ rest, q.1 ≠ D) (h1 : 0 < xs.length) (h2 : xs.length ≤ 1000)
    (h : ∀ h', Fr h₀ L h' m → News h₀ L h' ((D, listOf (itV xs.dropLast).toArray (n + 1)) :: rest) → Q (gtI xs (xs.length - 1)).1 { s with heap := h' }) : wpAny (model prog w) A (call (.builtin "list.pop") [.ref D]) Q E s := by
  have hne : xs ≠ [] := by intro q; subst q; simp at h1
  have e : xs = xs.dropLast ++ [gtI xs (xs.length - 1)] := by
    have e1 := List.dropLast_concat_getLast hne
    have e2 : gtI xs (xs.length - 1) = xs.getLast hne := by
      have := gt_get (xs := xs) (i := xs.length - 1) (by omega)
      rw [← List.getLast?_eq_getElem?, List.getLast?_eq_some_getLast hne] at this
      exact (Option.some.inj this).symm
    rw [e2]; exact e1.symm
  refine kl_pop F N (its := (itV xs).toArray) (p := itV xs.dropLast) (y := (gtI xs (xs.length - 1)).1) ?_ (Upd.head hr) (Nat.le_trans (by simpa using h2) (by decide : 1000 ≤ sizeLine)) fun h' F' N' => h h' F' N'
  have e3 := kpa_last (gtI xs (xs.length - 1)).1 (itV xs.dropLast)
  have e4 : itV xs.dropLast ++ [(gtI xs (xs.length - 1)).1] = itV xs := by
    conv => rhs; rw [e]
    simp only [itV, List.map_append, List.map_cons, List.map_nil]
  rw [e4] at e3
  exact e3
theorem it_truth {Q : Bool → Shared → Prop} (N : News h₀ L s.heap ((D, listOf (itV xs).toArray n) :: rest)) (h2 : xs.length ≤ 1000) (h3 : 0 < xs.length → ∀ tk, Q true { s with toks := tk }) (h4 : xs.length = 0 → ∀ tk, Q false { s with toks := tk }) : wpAny (model prog w) A (truthy (.ref D)) Q E s := by
  have z : (itV xs).toArray.size = xs.length := by simp
  refine wpAny_truthy_list (News.isList N (.head _)) (by rw [z]; omega) ?_
  cases xs with
  | nil => exact h4 rfl _
  | cons y ys => exact h3 (by simp) _
end
section
local macro_rules | `(tactic| walk_at "pad0") => `(tactic| fail)
local macro_rules | `(tactic| walk_at "pad1") => `(tactic| fail)
local macro_rules | `(tactic| walk_at "pad2") => `(tactic| fail)
local macro_rules | `(tactic| walk_at "pad3") => `(tactic| fail)
local macro_rules | `(tactic| walk_at "exec If") => `(tactic| refine wpAny_If ?_)
local macro_rules | `(tactic| walk_at "call builtin:list.append") => `(tactic| (k_here; k_dflt ((with_reducible show wpAny _ _ (call (Value.builtin "list.append") [Value.ref _, _]) _ _ _); refine' it_app ?a ?b ?c ?d ?_; (case a => k_asm); (case b => k_asm); (case c => assumption); (case d => omega)); intro h' F' N'; (try k_sweep)))
local macro_rules | `(tactic| walk_at "call builtin:list.pop") => `(tactic| (k_here; k_dflt ((with_reducible show wpAny _ _ (call (Value.builtin "list.pop") [Value.ref _]) _ _ _); refine' it_pop ?a ?b ?c ?d ?e ?_; (case a => k_asm); (case b => k_asm); (case c => assumption); (case d => omega); (case e => omega)); intro h' F' N'; (try k_sweep)))
local macro_rules | `(tactic| walk_at "truthy ref") => `(tactic| (k_here; k_dflt (refine' it_truth ?a ?b (fun hw' tk' => ?_) (fun hw' tk' => ?_); (case a => k_asm); (case b => omega))))
local macro_rules | `(tactic| walk_at "call builtin:len") => `(tactic| (k_here; k_dflt (refine' it_len ?a ?b ?_; (case a => k_asm); (case b => omega)); intro t' tk'; (try dsimp only)))
local macro_rules | `(tactic| walk_at "subscriptTail Name Constant ref int") => `(tactic| (k_here; k_dflt (refine' it_get2 ?a ?b ?c ?d ?_ ?e ?f; (case a => k_asm); (case b => omega); (case c => omega); (case d => omega); (case e => with_unfolding_all rfl); (case f => intro _; with_unfolding_all rfl))))
local macro_rules | `(tactic| walk_at "setItem ref int") => `(tactic| (k_here; k_dflt (refine' it_set ?a ?b ?c ?d ?e ?f ?_; (case a => k_asm); (case b => k_asm); (case c => assumption); (case d => omega); (case e => omega); (case f => omega)); intro h' F' N'; (try k_sweep)))
local macro_rules | `(tactic| walk_at "call ref") => `(tactic| refine hold ?_)
theorem push_c {w : World} {pp : Program} {ll : List Str} {mean : ExcName → Option Value} {mg mb : Str → Option Value} {dp un : Nat} {gd : Option (List Code)} {cn : Str} {cs : Scope} {a : Addr} {ccd : Value} {cl : List (Str × Addr)} {outer : List Env} {A₀ : Around} {base h₀ : Heap} {L : Addr} {m : Str → Option Value} {s : Shared} {Q E : Value → Shared → Prop} {H : Addr} {n : Nat} {rest : List (Addr × Obj)} {xs : List Item} {x : Item} (hr : ∀ q ∈ rest, q.1 ≠ H) (hpx : ∀ x ∈ xs, PairIn rest x) (hx : PairIn rest x) (hlen : xs.length ≤ 900)
  (B : Below A₀ base outer h₀) (F : Fr h₀ L s.heap m) (X : (Mine.hd.heap_39 w.params).In h₀) (T : Top pp ll mean mg mb h₀) (hk : cs.kind = .function) (N : News h₀ L s.heap ((H, listOf (itV xs).toArray n) :: rest)) (hd : dp + 10 < recursionLimit) (hu : un + 80 < cLine)
  (ret : ∀ h' tk', Fr h₀ L h' m → News h₀ L h' ((H, listOf (itV (hpush xs x)).toArray (n + 1)) :: rest) → Q .none { s with heap := h', toks := tk' }) :
  wpAny (model Challenge.rw_of0095_01.row.prog w) (ktrTop dp un gd cn cs L a ccd cl outer) (call (.ref 70) [.ref H, x.1]) Q E s := by
  w_top off; revert X; k_fill; intro X
  have hl1 : (xs ++ [x]).length ≤ 1000 := by simp; omega
  refine wpAny_call ?_
  k_dflt k_enter
  k_steps
  unfold Hold
  rw [show (((xs ++ [x]).length : Nat) : Int) - 1 = ((xs.length : Nat) : Int) by simp]
  k_dflt (refine' sd_c (all := xs ++ [x]) (new := x) ?c0 ?c1 ?c2 ?c3 ?k1 ?k2 ?k3 ?k5 ?kK ?k4 ?kd ?ku ?_; (case k4 => k_asm); (case k1 => k_asm); (case k2 => k_asm); (case k3 => k_asm); (case k5 => k_asm); (case kK => first | exact rfl | assumption); (case kd => k_room); (case ku => (have hcL9 := cLine_is; (try simp only [units_in1, units_deeper, Around.mark_units, units_caller]); (try dsimp only [ktrTop]); omega)))
  case c0 => assumption
  case c1 => simp
  case c2 =>
    intro y hy
    rcases List.mem_append.mp hy with q | q
    · exact hpx y q
    · rw [List.mem_singleton.mp q]; exact hx
  case c3 => exact hl1
  intro h' tk' F' N'
  k_steps
  exact ret _ _ (by k_asm) (by k_asm)
theorem pop_c {w : World} {pp : Program} {ll : List Str} {mean : ExcName → Option Value} {mg mb : Str → Option Value} {dp un : Nat} {gd : Option (List Code)} {cn : Str} {cs : Scope} {a : Addr} {ccd : Value} {cl : List (Str × Addr)} {outer : List Env} {A₀ : Around} {base h₀ : Heap} {L : Addr} {m : Str → Option Value} {s : Shared} {Q E : Value → Shared → Prop} {H : Addr} {n : Nat} {rest : List (Addr × Obj)} {xs : List Item} (hr : ∀ q ∈ rest, q.1 ≠ H) (hpx : ∀ x ∈ xs, PairIn rest x) (hpos : 0 < xs.length) (hlen : xs.length ≤ 900)
  (B : Below A₀ base outer h₀) (F : Fr h₀ L s.heap m) (X : (Mine.hd.heap_39 w.params).In h₀) (T : Top pp ll mean mg mb h₀) (hk : cs.kind = .function) (N : News h₀ L s.heap ((H, listOf (itV xs).toArray n) :: rest)) (hd : dp + 14 < recursionLimit) (hu : un + 100 < cLine)
  (ret : ∀ h' tk', Fr h₀ L h' m → News h₀ L h' ((H, listOf (itV (hpop xs).2).toArray (n + 1)) :: rest) → Q (hpop xs).1.1 { s with heap := h', toks := tk' }) :
  wpAny (model Challenge.rw_of0095_01.row.prog w) (ktrTop dp un gd cn cs L a ccd cl outer) (call (.ref 77) [.ref H]) Q E s := by
  w_top off; revert X; k_fill; intro X
  have hl1 : xs.dropLast.length ≤ 1000 := by simp; omega
  have hpd : ∀ x ∈ xs.dropLast, PairIn rest x := fun x hx => hpx x (List.mem_of_mem_take (by rw [← List.dropLast_eq_take]; exact hx))
  refine wpAny_call ?_
  k_dflt k_enter
  k_steps
  · unfold Hold
    k_dflt (refine' su_c (all := xs.dropLast.set 0 (gtI xs (xs.length - 1))) ?c0 ?c1 ?c2 ?c3 ?k1 ?k2 ?k3 ?k5 ?kK ?k4 ?kd ?ku ?_; (case k4 => k_asm); (case k1 => k_asm); (case k2 => k_asm); (case k3 => k_asm); (case k5 => k_asm); (case kK => first | exact rfl | assumption); (case kd => k_room); (case ku => (have hcL9 := cLine_is; (try simp only [units_in1, units_deeper, Around.mark_units, units_caller]); (try dsimp only [ktrTop]); omega)))
    case c0 => assumption
    case c1 => rw [List.length_set]; assumption
    case c2 =>
      intro y hy
      rcases List.mem_or_eq_of_mem_set hy with q | q
      · exact hpd y q
      · rw [q]; exact gt_pair hpx (by omega)
    case c3 => rw [List.length_set]; exact hl1
    intro h' tk' F' N'
    k_steps
    have hne : ¬ xs.dropLast.length = 0 := by omega
    have e : hpop xs = (gtI xs.dropLast 0, su (xs.dropLast.set 0 (gtI xs (xs.length - 1)))) := by unfold hpop; rw [if_neg hne]
    rw [e] at ret
    exact ret _ _ (by k_asm) (by k_asm)
  · rename (List.length _ = 0) => he
    have e : hpop xs = (gtI xs (xs.length - 1), []) := by unfold hpop; rw [if_pos he]
    rw [e] at ret
    have e2 : xs.dropLast = [] := List.length_eq_zero_iff.mp he
    rename News h₀ L _ _ => N8
    rw [e2] at N8
    exact ret _ _ (by k_asm) N8
end
end Mine

end
section
open PySem PySem.W PyProof.Rows PySem.Calls PySem.W.X
set_option maxRecDepth 100000
set_option maxHeartbeats 0
namespace Mine

theorem texts_get {items : Array Value} {ls : List (List Nat)} (h : Texts items ls) {i : Nat} {v : Value} (e : items[i]? = some v) : ∃ l t, ls[i]? = some l ∧ v = Value.str ⟨l.toArray⟩ t := by
  obtain ⟨ts, hl, ht⟩ := h
  have e2 : items.toList[i]? = some v := by simpa using e
  rw [ht, List.getElem?_map] at e2
  cases q : (ls.zip ts)[i]? with
  | none => rw [q] at e2; cases e2
  | some p =>
    rw [q] at e2
    obtain ⟨a, b⟩ := p
    have := List.getElem?_zip_eq_some.mp q
    exact ⟨a, b, this.1, (Option.some.inj e2).symm⟩
theorem in_regF {w : World} {h₁ h g : Heap} {c P C : Addr} {ps ps' : Array Value} {mg m₂ : Str → Option Value} (_F : Fr (regrown h P ps') C g m₂) (X : (Mine.hd.heap_39 w.params).In h) (G : h.Ns mainGlobals mg) (B : Based h₁ h c P ps) : (Mine.hd.heap_39 w.params).In (regrown h P ps') := in_regrown X G B
theorem top_regF {ll : List Str} {mean : ExcName → Option Value} {mg mb m₂ : Str → Option Value} {h₁ h g : Heap} {c P C : Addr} {ps ps' : Array Value} (_F : Fr (regrown h P ps') C g m₂) (T : Top pI ll mean mg mb h) (B : Based h₁ h c P ps) : Top pI ll mean mg mb (regrown h P ps') := top_regrown T B
noncomputable def qs (l : List Nat) : Str := ⟨(39 :: (l ++ [39])).toArray⟩
theorem regrown_size (h : Heap) (P : Addr) (ps : Array Value) : (regrown h P ps).objs.size = h.objs.size := (Heap.SameBut.update ..).1
theorem regrown_get {h h' : Heap} {P b : Addr} {ps : Array Value} {o oP : Obj} (hk : ∀ b o, h.get? b = some o → h'.get? b = some o) (hP : h.get? P = some oP) (e : (regrown h P ps).get? b = some o) : (regrown h' P ps).get? b = some o := by
  by_cases hb : b = P
  · subst hb
    have e1 : (regrown h b ps).get? b = some { cls := .none, data := .fields ps } := Heap.get?_update_self _ hP rfl
    rw [e1] at e
    rw [← e]
    exact Heap.get?_update_self _ (hk _ _ hP) rfl
  · have e1 := (Heap.get?_update_other h (fun _ => ({ cls := .none, data := .fields ps } : Obj)) (Ne.symm hb)).symm.trans e
    exact (Heap.get?_update_other h' _ (Ne.symm hb)).trans (hk _ _ e1)
theorem passing_all (n : Nat) : passing (fun _ => true) n 0 = List.range n := by simp [passing]
theorem map_range {ls : List (List Nat)} {n : Nat} (h : n = ls.length) : (List.range n).map (fun j => qs (ls.getD j [])) = ls.map qs := by
  subst h
  apply List.ext_getElem?
  intro i
  rw [List.getElem?_map, List.getElem?_map]
  rcases Nat.lt_or_ge i ls.length with q | q
  · rw [List.getElem?_range q, List.getElem?_eq_getElem q]
    simp [List.getD_eq_getElem?_getD, List.getElem?_eq_getElem q]
  · rw [List.getElem?_eq_none (by simpa using q), List.getElem?_eq_none q]; rfl
theorem join_enc : ∀ ls : List (List Nat), Str.join (Str.ofString " ") (ls.map qs) = ⟨(encW ls).toArray⟩
  | [] => rfl
  | [w] => rfl
  | w :: v :: ws => by
    have ih := join_enc (v :: ws)
    show qs w ++ Str.ofString " " ++ Str.join (Str.ofString " ") ((v :: ws).map qs) = _
    rw [ih, show Str.ofString " " = ⟨#[32]⟩ by decide]
    apply Str.ext'
    simp [Str.cps_append, qs, encW]
theorem join_ok {ls : List (List Nat)} (hq : ∀ l ∈ ls, QuoteOk l) (hlen : ls.length ≤ 100) : JoinOk (Str.ofString " ") (ls.map qs) = true := by
  refine joinOk_of ?_
  have e1 : (Str.ofString " ").length = 1 := by decide
  have hs : ∀ k : List (List Nat), (∀ l ∈ k, QuoteOk l) → ((k.map qs).map (·.length)).sum ≤ 102 * k.length := by
    intro k
    induction k with
    | nil => intro _; simp
    | cons a k ih =>
      intro h
      have h1 := ih fun l hl => h l (.tail _ hl)
      have h2 : (qs a).length = (⟨a.toArray⟩ : Str).length + 2 := by simp [qs, Str.length]
      have h3 := (h a (.head _)).le
      simp only [List.map_cons, List.sum_cons, List.length_cons]
      omega
  have := hs ls hq
  rw [e1, List.length_map]
  omega
section
local macro_rules | `(tactic| walk_at "pad2") => `(tactic| fail)
local macro_rules | `(tactic| walk_at "call builtin:str.join") => `(tactic| refine hold ?_)
local macro_rules | `(tactic| walk_at "pad0") => `(tactic| fail)
local macro_rules | `(tactic| walk_at "pad1") => `(tactic| fail)
local macro_rules | `(tactic| walk_at "eval GeneratorExp") => `(tactic| refine hold ?_)
local macro_rules | `(tactic| walk_at "eval Name") => `(tactic| (k_here; k_dflt (first | (refine ldVarG (by k_asm) (by assumption) ?_) | (refine' nameG_K ?k0 ?k1 ?k2 ?k3 ?_ ?k4 ?k5 ?k6 ?k7; (case k4 => rfl); (case k5 => rfl); (case k6 => rfl); (case k7 => decide); (case k0 => k_asm); (case k1 => k_asm); (case k2 => k_asm); (case k3 => k_is)))))
local macro_rules | `(tactic| walk_at "exec If") => `(tactic| refine wpAny_If ?_)
local macro_rules | `(tactic| walk_at "call ref") => `(tactic| refine hold ?_)
theorem join_c {w : World} {pp : Program} {ll : List Str} {mean : ExcName → Option Value} {mg mb : Str → Option Value} {dp un : Nat} {gd : Option (List Code)} {cn : Str} {cs : Scope} {a : Addr} {ccd : Value} {cl : List (Str × Addr)} {A₀ : Around} {base h₀ : Heap} {L : Addr} {m : Str → Option Value} {s : Shared} {Q E : Value → Shared → Prop} {W P bm : Addr} {ob : Obj} {ls : List (List Nat)} {items : Array Value} (hW : s.heap.IsList W items) (htx : Texts items ls) (hq : ∀ l ∈ ls, QuoteOk l) (hlen : ls.length ≤ 100) (hIC : h₀.IsCode 797 P #[]) (hTA : h₀.TableAt 797 P #[]) (hP : P ≠ cStatics) (M : BMod h₀ mainGlobals mg bm ob) (hg : AllBare s.gens)
  (B : Below A₀ base [] h₀) (F : Fr h₀ L s.heap m) (X : (Mine.hd.heap_39 w.params).In h₀) (T : Top pp ll mean mg mb h₀) (hk : cs.kind = .function) (hd : dp + 20 < recursionLimit) (hu : un + 120 < cLine)
  (ret : ∀ s' ps' t, Fr (regrown h₀ P ps') L s'.heap m → (∀ b o, b ≠ P → s.heap.get? b = some o → s'.heap.get? b = some o) → AllBare s'.gens → s'.os = s.os → Q (.str ⟨(encW ls).toArray⟩ t) s') :
  wpAny (model Challenge.rw_of0095_01.row.prog w) (ktrTop dp un gd cn cs L a ccd cl []) (call (.ref 798) [.ref W]) Q E s := by
  w_top off; revert X; k_fill; intro X
  refine wpAny_call ?_
  k_dflt (refine' code_defS ?k1 ?k2 ?k3 ?k5 ?kA ?kF ?kK ?k6 ?k7 ?k8 ?k9 ?kB ?_ ?c2 ?c3 ?c4 ?c5; (case kA => exact rfl); (case kF => exact rfl); (case kK => assumption); (case k1 => k_asm); (case k2 => k_asm); (case k3 => k_asm); (case k5 => k_asm); (case k6 => k_is); (case k7 => k_is); (case k8 => k_room); (case k9 => first | exact BindsTo.of_eq rfl | exact binds_K (by k_in) rfl (by k_is) rfl rfl rfl); (case c5 => decide); (case kB => exact locs rfl); (case c2 => exact rfl); (case c3 => exact rfl); (case c4 => exact rfl))
  intro L' h' F' N' B' X' T'
  dsimp only
  k_steps
  unfold Hold
  have IC' := hIC.keeps F.keep
  have TA' := hTA.keeps F.keep
  have M' := M.keeps F.keep
  refine' GeneratorExp_list_rowsF (L := L') (Based.start IC' TA' hP) M' ?hcode ?hnf ?hh ?hco ?hclos ?hcell ?h0 ?hx ?hkind ?hroom ?h ?hs
  case hcode => with_unfolding_all rfl
  case hnf => with_unfolding_all rfl
  case hh => with_unfolding_all rfl
  case hco => with_unfolding_all rfl
  case hclos => with_unfolding_all rfl
  case hcell => decide
  case h0 => with_unfolding_all rfl
  case hx => with_unfolding_all rfl
  case hkind => with_unfolding_all rfl
  case hroom => k_room
  case hs => intro _; rfl
  case h =>
    refine ld F' rfl ?_
    have hLs := F'.ns.lt
    refine ⟨W, items, rfl, stays_list F'.keep hW, F', hg, T'.nolimit.keeps F'.keep, h'.objs.size - 1, fun _ => true, fun i y => ∃ l t, ls[i]? = some l ∧ y = .str ⟨(39 :: (l ++ [39])).toArray⟩ t, ?l1, ?l2, ?t1, ?t2, ?t3⟩
    case l1 => exact Nat.le_sub_one_of_lt hLs
    case l2 => exact Nat.sub_one_lt_of_lt hLs
    case t1 =>
      intro c' C A' E' i v t m₂ _ _ _ _ _ _ _ _
      exact wpAny_pure ⟨rfl, _, _, rfl, fun _ _ e => e⟩
    case t2 =>
      intro c' C A' E' i v t m₂ hA hD hU hv _ F2 hm2 hLC hk2
      obtain ⟨l, tl, hl, rfl⟩ := texts_get htx hv
      have hql := hq l (List.mem_of_getElem? hl)
      have Bs := Based.start IC' TA' hP
      have X2 := in_regF F2 X' T'.g Bs
      have T2 := top_regF F2 (top_loose T') Bs
      have N2 : News _ C t.heap [] := News.nil (h₀ := s.heap)
      clear Bs F' N' B' X' T' F X T B M M' IC' TA' hIC hTA ret hW hk2
      k_steps
      unfold Hold
      refine wpAny_mono (quote_g (E := E') hql (X2.keeps F2.keep) (T2.keeps F2.keep) (Nat.lt_of_le_of_lt hD (by k_room)) (Nat.lt_of_le_of_lt (Nat.add_le_add_right hU 60) (by (have hcL9 := cLine_is; (try simp only [units_in1, units_deeper, Around.mark_units, units_caller]); (try dsimp only [ktrTop]); omega)))) (fun v s' q => ?_) fun _ _ z => z
      obtain ⟨⟨t9, e9⟩, kp9⟩ := q
      exact ⟨⟨l, t9, hl, e9⟩, kp9⟩
    case t3 =>
      intro c' a1 s5 B5 F5 G5 os5 k5 X5
      have hsz : items.size = ls.length := htx.size
      k_steps
      unfold Hold
      refine join_rowsK F5 G5 X5 (Nat.le_sub_one_of_lt hLs) (fun j => qs (ls.getD j [])) ?htx ?hok ?hQ ?hsz
      case hsz => rw [passing_all, List.length_range, hsz]; exact Nat.le_trans hlen (by decide)
      case htx =>
        rintro j v ⟨i, hi, l, t9, hl, rfl⟩
        rw [passing_all] at hi
        have : j = i := by
          obtain ⟨h1, h2⟩ := List.getElem?_eq_some_iff.mp hi
          simpa using h2
        subst this
        exact ⟨t9, by simp [List.getD_eq_getElem?_getD, hl, qs]⟩
      case hok =>
        rw [passing_all, List.length_range, map_range hsz]
        exact join_ok hq hlen
      case hQ =>
        intro s6 t6 F6 G6 os6 k6
        rw [passing_all, List.length_range, map_range hsz]
        show WkLeave _ _ _
        unfold WkLeave
        dsimp only
        have ej : Txt.join (Str.ofString " ") (ls.map qs) = ⟨(encW ls).toArray⟩ := (StrLaws.glued_eq_join _ _).trans (join_enc ls)
        rw [ej]
        have kp : ∀ b o, b ≠ P → s.heap.get? b = some o → s6.heap.get? b = some o := fun b o hb e =>
          k6 b o (Nat.le_sub_one_of_lt (Heap.lt_size (F'.keep b o e))) (k5 b o hb (F'.keep b o e))
        have hPlt : P < h₀.objs.size := Heap.lt_size hTA.2
        have hLP : L ≠ P := fun q => by
          have := F.above
          rw [q] at this
          exact absurd hPlt (Nat.not_lt.mpr this)
        exact ret s6 _ t6 ⟨F.ns.at' fun o e => kp L o hLP e, fun b o e => F6.keep b o (regrown_get F.keep hTA.2 e), by rw [regrown_size]; exact F.above⟩ kp G6 (os6.trans os5)
end
end Mine

end
section
open PySem PySem.W PyProof.Rows PySem.Calls PySem.W.X
set_option maxRecDepth 100000
namespace Mine
/-- the frame's names: those that are known, and the rest -/
noncomputable def mapOf (l : List (Str × Value)) (u : Str → Option Value) : Str → Option Value := fun z => match l.lookup z with
  | some v => some v
  | none => u z
theorem lookup_mem {z : Str} {v : Value} : ∀ {l : List (Str × Value)}, l.lookup z = some v → (z, v) ∈ l
  | [], e => by cases e
  | (y, x) :: r, e => by
    simp only [List.lookup] at e
    split at e
    · rename_i q
      cases e
      rw [eq_of_beq q]; exact .head _
    · exact .tail _ (lookup_mem e)
theorem fr_map {h₀ h : Heap} {L : Addr} {m : Str → Option Value} (l : List (Str × Value)) (F : Fr h₀ L h m) (hl : ∀ p ∈ l, m p.1 = some p.2) : Fr h₀ L h (mapOf l m) := by
  have e : m = mapOf l m := by
    funext z
    unfold mapOf
    cases q : l.lookup z with
    | none => rfl
    | some v => exact hl _ (lookup_mem q)
  rw [← e]; exact F
inductive Each {α : Type} (P : Value → α → Prop) : List Value → List α → Prop
  | nil : Each P [] []
  | cons {v : Value} {x : α} {vs : List Value} {xs : List α} : P v x → Each P vs xs → Each P (v :: vs) (x :: xs)
section
variable {α : Type} {P P' : Value → α → Prop}
theorem Each.mono (h : ∀ v x, P v x → P' v x) : ∀ {vs : List Value} {xs : List α}, Each P vs xs → Each P' vs xs
  | _, _, .nil => .nil
  | _, _, .cons a r => .cons (h _ _ a) (r.mono h)
theorem Each.length : ∀ {vs : List Value} {xs : List α}, Each P vs xs → vs.length = xs.length
  | _, _, .nil => rfl
  | _, _, .cons _ r => by simp [r.length]
theorem Each.snoc {v : Value} {x : α} (h : P v x) : ∀ {vs : List Value} {xs : List α}, Each P vs xs → Each P (vs ++ [v]) (xs ++ [x])
  | _, _, .nil => .cons h .nil
  | _, _, .cons a r => .cons a (r.snoc h)
theorem Each.get : ∀ {vs : List Value} {xs : List α}, Each P vs xs → ∀ {i : Nat} {v : Value}, vs[i]? = some v → ∃ x, xs[i]? = some x ∧ P v x
  | _, _, .nil, i, v, e => by simp at e
  | _, _, .cons a r, 0, v, e => by simp at e; subst e; exact ⟨_, rfl, a⟩
  | _, _, .cons a r, i + 1, v, e => by simpa using r.get (i := i) (by simpa using e)
theorem Each.of (vs : List Value) (xs : List α) (hl : vs.length = xs.length) (h : ∀ (i : Nat) v, vs[i]? = some v → ∃ x, xs[i]? = some x ∧ P v x) : Each P vs xs := by
  induction vs generalizing xs with
  | nil =>
    cases xs with
    | nil => exact .nil
    | cons _ _ => simp at hl
  | cons v vs ih =>
    cases xs with
    | nil => simp at hl
    | cons x xs =>
      obtain ⟨x', e, hp⟩ := h 0 v rfl
      simp at e; subst e
      exact .cons hp (ih xs (by simpa using hl) fun i v' e => by simpa using h (i + 1) v' (by simpa using e))
end
noncomputable def dotOf (num : Int) : Bool := num.fmod 2 == 0
noncomputable def sgOf (num : Int) : Int := (num.fdiv 2).fmod 2
noncomputable def rnum (num : Int) : Int := (num.fdiv 4).fdiv 2
noncomputable def rmany (num : Int) : Nat := ((num.fdiv 4).fmod 2 + 1).toNat
noncomputable def rlab (num : Int) : List Str := labL (rnum num) (rmany num)
noncomputable def hmany (num : Int) : Nat := ((num.fdiv 3).fmod 3 + 1).toNat
noncomputable def hlab (num : Int) : List Str := labL (num.fdiv 9) (hmany num)
theorem rmany_is (num : Int) : (num.fdiv 4).fmod 2 + 1 = ((rmany num : Nat) : Int) ∧ 1 ≤ rmany num ∧ rmany num ≤ 2 := by
  unfold rmany
  have h1 := Int.fmod_nonneg_of_pos (num.fdiv 4) (b := 2) (by decide)
  have h2 := Int.fmod_lt_of_pos (num.fdiv 4) (b := 2) (by decide)
  omega
theorem hmany_is (num : Int) : (num.fdiv 3).fmod 3 + 1 = ((hmany num : Nat) : Int) ∧ 1 ≤ hmany num ∧ hmany num ≤ 3 := by
  unfold hmany
  have h1 := Int.fmod_nonneg_of_pos (num.fdiv 3) (b := 3) (by decide)
  have h2 := Int.fmod_lt_of_pos (num.fdiv 3) (b := 3) (by decide)
  omega
theorem labS_len (num : Int) (i : Nat) : (labS num i).length = 1 := len_item _ _
theorem lab_sum (num : Int) {n : Nat} (hn : n ≤ 3) : ((labL num n).map (·.length)).sum = n ∧ (labL num n).length = n := by
  have h3 : n = 0 ∨ n = 1 ∨ n = 2 ∨ n = 3 := by omega
  rcases h3 with rfl | rfl | rfl | rfl <;> simp [labL, labS_len, List.range']
theorem dot_len : (Str.ofString ".").length = 1 := by decide
theorem lab_ok (num : Int) {n : Nat} (hn : n ≤ 3) : ((labL num n).map (·.length)).sum + (labL num n).length * (Str.ofString ".").length ≤ 16777216 := by
  have := lab_sum num hn
  rw [dot_len]; omega
theorem lab_join (num : Int) {n : Nat} (hn : n ≤ 3) : (Txt.join (Str.ofString ".") (labL num n)).length ≤ 20 := by
  have h1 := lab_sum num hn
  have h2 := size_glued (Str.ofString ".") (labL num n)
  have e : Txt.join (Str.ofString ".") (labL num n) = Builtin.Str.glued (Str.ofString ".") (labL num n) := rfl
  rw [e, h2, dot_len]; omega
theorem sg_is (num : Int) : 0 ≤ sgOf num ∧ sgOf num < 2 := ⟨Int.fmod_nonneg_of_pos _ (by decide), Int.fmod_lt_of_pos _ (by decide)⟩
/-- the word that the law makes of a number -/
noncomputable def wordS (num : Int) : Str := Txt.item (Str.ofString "+-") (sgOf num) ++ Str.ofString " " ++ (if dotOf num = true then Str.ofString "." else Str.ofString "") ++ Txt.join (Str.ofString ".") (rlab num)
noncomputable abbrev trip (d : Bool) (sg : Int) (t : Tok) (k : Addr) (n : Nat) : Obj := { cls := .type "tuple", data := .seq #[.bool d, .int sg t, .ref k] n }
noncomputable def RuleAt (rest : List (Addr × Obj)) (v : Value) (num : Int) : Prop := ∃ a k t lv n, v = .ref a ∧ (a, trip (dotOf num) (sgOf num) t k n) ∈ rest ∧ (k, LCg.lst lv) ∈ rest ∧ StrsAre lv (rlab num)
noncomputable def HostAt (rest : List (Addr × Obj)) (v : Value) (num : Int) : Prop := ∃ k lv, v = .ref k ∧ (k, LCg.lst lv) ∈ rest ∧ StrsAre lv (hlab num)
theorem RuleAt.mono {rest rest' : List (Addr × Obj)} (h : ∀ p ∈ rest, p ∈ rest') {v : Value} {num : Int} : RuleAt rest v num → RuleAt rest' v num
  | ⟨a, k, t, lv, n, e, h1, h2, h3⟩ => ⟨a, k, t, lv, n, e, h _ h1, h _ h2, h3⟩
theorem HostAt.mono {rest rest' : List (Addr × Obj)} (h : ∀ p ∈ rest, p ∈ rest') {v : Value} {num : Int} : HostAt rest v num → HostAt rest' v num
  | ⟨k, lv, e, h1, h2⟩ => ⟨k, lv, e, h _ h1, h2⟩
theorem off1_mem {D : Addr} : ∀ {l : List (Addr × Obj)}, LCg.Off1 D l → ∀ p ∈ l, p.1 ≠ D
  | [], _, _, h => nomatch h
  | _ :: _, x, p, h => by
    rcases List.mem_cons.mp h with rfl | h
    · exact x.1
    · exact off1_mem x.2 p h
section
variable {prog : Program} {w : World} {A : Around} {E : Value → Shared → Prop} {s : Shared} {h₀ : Heap} {L : Addr} {m : Str → Option Value} {news : List (Addr × Obj)}
/-- a new tuple; its address lies apart -/
theorem tup_new {vs : List Value} {Q : Value → Shared → Prop} (F : Fr h₀ L s.heap m) (N : News h₀ L s.heap news) (hz : vs.length ≤ 100)
    (h : ∀ d h', Fr h₀ L h' m → News h₀ L h' ((d, { cls := .type "tuple", data := .seq vs.toArray }) :: news) → (∀ p ∈ news, p.1 < d) → Q (.ref d) { s with heap := h' }) : wpAny (model prog w) A (newTuple vs) Q E s :=
  newTuple_N F N (fun h' F' N' => h _ h' F' N' fun p hp => Heap.lt_size (N p hp).1) (Nat.le_trans hz (by decide))
theorem lst_new {vs : List Value} {Q : Value → Shared → Prop} (F : Fr h₀ L s.heap m) (N : News h₀ L s.heap news) (hz : vs.length ≤ 100)
    (h : ∀ d h', Fr h₀ L h' m → News h₀ L h' ((d, listOf vs.toArray 0) :: news) → (∀ p ∈ news, p.1 < d) → Q (.ref d) { s with heap := h' }) : wpAny (model prog w) A (newList vs) Q E s :=
  newList_N F N (fun h' F' N' => h _ h' F' N' fun p hp => Heap.lt_size (N p hp).1) (Nat.le_trans hz (by decide))
theorem app_u {D : Addr} {news' : List (Addr × Obj)} {vs : List Value} {n : Nat} {v : Value} {Q : Value → Shared → Prop} (F : Fr h₀ L s.heap m) (N : News h₀ L s.heap news) (U : Upd D (listOf vs.toArray n) (listOf (vs ++ [v]).toArray (n + 1)) news news') (h2 : vs.length ≤ 1000)
    (h : ∀ h', Fr h₀ L h' m → News h₀ L h' news' → Q .none { s with heap := h' }) : wpAny (model prog w) A (call (.builtin "list.append") [.ref D, v]) Q E s := by
  obtain ⟨pre, post, rfl, rfl, a, b⟩ := U.split
  have z := N (D, listOf vs.toArray n) (List.mem_append.mpr (.inr (.head _)))
  refine append_at (its := vs.toArray) (n := n) z.1 (fun h' hs ho => h h' (F.change hs z.2.1 z.2.2) (news_set N a b hs ?_)) (Nat.le_trans (by simpa using h2) (by decide : 1000 ≤ sizeLine))
  rw [ho]
  have : vs.toArray.push v = (vs ++ [v]).toArray := by simp
  rw [this]
theorem sitem_is {value slice : PySem.Expr} {x a : Str} {k : Int} {t u : Tok} {Q : Value → Shared → Prop} (e : Txt.item x k = a) (h0 : 0 ≤ k) (h1 : k < x.length) (h2 : x.length ≤ 1000) (h : ∀ t tk, Q (.str a t) { s with toks := tk })
    (hs : subscripted slice false (.str x t) (.int k u) = operate [.str x t, .int k u] (getItem (.str x t) (.int k u)) := by with_unfolding_all rfl)
    (ht : ∀ r, letTemporaryGo value (.str x t) r = pure () := by intro _; with_unfolding_all rfl) :
    wpAny (model prog w) A (subscriptTail value slice (.str x t) (.int k u)) Q E s := by
  subst e
  exact item_str (fitsSsize_of (N := 1000) (by omega) (by omega) (by decide)) (by omega) h1 (fun _ => h _ _) hs ht
theorem join_is {D : Addr} {vs : List Value} {ys : List Str} {x j : Str} {t : Tok} {Q : Value → Shared → Prop} (N : News h₀ L s.heap news) (hD : (D, LCg.lst vs) ∈ news) (hi : StrsAre vs ys) (hok : (ys.map (·.length)).sum + ys.length * x.length ≤ 16777216) (e : Txt.join x ys = j)
    (h : ∀ t tk, Q (.str j t) { s with toks := tk }) : wpAny (model prog w) A (call (.builtin "str.join") [.str x t, .ref D]) Q E s := by
  subst e
  exact join_list (items := vs.toArray) (News.isList N hD) (by simpa using hi) hok h
theorem trip_0 {value slice : PySem.Expr} {a k : Addr} {d : Bool} {sg : Int} {t u : Tok} {n : Nat} {Q : Value → Shared → Prop} (N : News h₀ L s.heap news) (ha : (a, trip d sg t k n) ∈ news) (h : Q (.bool d) s)
    (hs : subscripted slice false (.ref a) (.int 0 u) = operate [.ref a, .int 0 u] (getItem (.ref a) (.int 0 u)) := by with_unfolding_all rfl) (hg : ∀ r, letTemporaryGo value (.ref a) r = pure () := by intro _; with_unfolding_all rfl) :
    wpAny (model prog w) A (subscriptTail value slice (.ref a) (.int 0 u)) Q E s := item_tuple (j := 0) (News.isTup N ha) (by decide) (by decide) rfl rfl h hs hg
theorem tripT_0 {value slice : PySem.Expr} {a k : Addr} {d : Bool} {sg : Int} {t u : Tok} {n : Nat} {Q : Value → Shared → Prop} (N : News h₀ L s.heap news) (ha : (a, trip d sg t k n) ∈ news) (h : Q (.bool d) s)
    (hs : subscripted slice false (.ref a) (.int 0 u) = operate [.ref a, .int 0 u] (getItem (.ref a) (.int 0 u)) := by with_unfolding_all rfl) :
    wpAny (model prog w) A (subscriptTail value slice (.ref a) (.int 0 u)) Q E s := item_tupleT (l := [.bool d, .int sg t, .ref k]) (j := 0) (News.isTup N ha) (by decide) (by decide) rfl rfl h hs
theorem trip_1 {value slice : PySem.Expr} {a k : Addr} {d : Bool} {sg : Int} {t u : Tok} {n : Nat} {Q : Value → Shared → Prop} (N : News h₀ L s.heap news) (ha : (a, trip d sg t k n) ∈ news) (h : Q (.int sg t) s)
    (hs : subscripted slice false (.ref a) (.int 1 u) = operate [.ref a, .int 1 u] (getItem (.ref a) (.int 1 u)) := by with_unfolding_all rfl) (hg : ∀ r, letTemporaryGo value (.ref a) r = pure () := by intro _; with_unfolding_all rfl) :
    wpAny (model prog w) A (subscriptTail value slice (.ref a) (.int 1 u)) Q E s := item_tuple (j := 1) (News.isTup N ha) (by decide) (by decide) rfl rfl h hs hg
theorem tripT_1 {value slice : PySem.Expr} {a k : Addr} {d : Bool} {sg : Int} {t u : Tok} {n : Nat} {Q : Value → Shared → Prop} (N : News h₀ L s.heap news) (ha : (a, trip d sg t k n) ∈ news) (h : Q (.int sg t) s)
    (hs : subscripted slice false (.ref a) (.int 1 u) = operate [.ref a, .int 1 u] (getItem (.ref a) (.int 1 u)) := by with_unfolding_all rfl) :
    wpAny (model prog w) A (subscriptTail value slice (.ref a) (.int 1 u)) Q E s := item_tupleT (l := [.bool d, .int sg t, .ref k]) (j := 1) (News.isTup N ha) (by decide) (by decide) rfl rfl h hs
theorem trip_2 {value slice : PySem.Expr} {a k : Addr} {d : Bool} {sg : Int} {t u : Tok} {n : Nat} {Q : Value → Shared → Prop} (N : News h₀ L s.heap news) (ha : (a, trip d sg t k n) ∈ news) (h : Q (.ref k) s)
    (hs : subscripted slice false (.ref a) (.int 2 u) = operate [.ref a, .int 2 u] (getItem (.ref a) (.int 2 u)) := by with_unfolding_all rfl) (hg : ∀ r, letTemporaryGo value (.ref a) r = pure () := by intro _; with_unfolding_all rfl) :
    wpAny (model prog w) A (subscriptTail value slice (.ref a) (.int 2 u)) Q E s := item_tuple (j := 2) (News.isTup N ha) (by decide) (by decide) rfl rfl h hs hg
theorem tripT_2 {value slice : PySem.Expr} {a k : Addr} {d : Bool} {sg : Int} {t u : Tok} {n : Nat} {Q : Value → Shared → Prop} (N : News h₀ L s.heap news) (ha : (a, trip d sg t k n) ∈ news) (h : Q (.ref k) s)
    (hs : subscripted slice false (.ref a) (.int 2 u) = operate [.ref a, .int 2 u] (getItem (.ref a) (.int 2 u)) := by with_unfolding_all rfl) :
    wpAny (model prog w) A (subscriptTail value slice (.ref a) (.int 2 u)) Q E s := item_tupleT (l := [.bool d, .int sg t, .ref k]) (j := 2) (News.isTup N ha) (by decide) (by decide) rfl rfl h hs
theorem ints_get {vs : List Value} {ns : List Int} (h : IntsAre vs ns) : ∀ {i : Nat} {v : Value}, vs[i]? = some v → ∃ n t, ns[i]? = some n ∧ v = Value.int n t := by
  induction h with
  | nil => intro i v e; simp at e
  | cons n t _ ih =>
    intro i v e
    cases i with
    | zero => simp at e; exact ⟨n, t, rfl, e.symm⟩
    | succ i => simpa using ih (by simpa using e)
theorem rng_iter {env : Env} {x : Str} {body : List Stmt} {Q : Flow → Shared → Prop} {r : Addr} {n : Nat} {b : Int} {t₀ u₀ v₀ : Tok} {m₀ : Str → Option Value} (J : Nat → (Str → Option Value) → List (Addr × Obj) → Prop)
    (hh : A.handled = none) (hr : IsRange s.heap r 0 b 1 t₀ u₀ v₀) (hb : b = (n : Int)) (hn : n ≤ 1000) (F : Fr h₀ env.locals s.heap m₀) (N : News h₀ env.locals s.heap news) (hj : J 0 m₀ news)
    (turn : ∀ i t m₁ nx h tk own, i < n → OwnOff own (nx.map (·.1)) → J i m₁ nx → Fr h₀ env.locals h (fun y => if y = x then some (.int (i : Int) t) else m₁ y) → News h₀ env.locals h (nx ++ own) →
      wpAny (model prog w) A (execs body env) (InvPostG h₀ env.locals (J (i + 1)) own { s with heap := h, toks := tk } Q) E { s with heap := h, toks := tk })
    (done : ∀ m₁ nx h tk, J n m₁ nx → Fr h₀ env.locals h m₁ → News h₀ env.locals h nx → Q .next { s with heap := h, toks := tk }) :
    wpAny (model prog w) A (pyIter (.ref r)) (fun it s₂ => LoopAtV prog w A h₀ env x body Q E it s₂) E s := by
  subst hb
  have hsmall : Builtin.Range.small 0 (n : Int) 1 = true := by
    have : ∀ k : Nat, k ≤ 1000 → Builtin.Range.small 0 (k : Int) 1 = true := by
      intro k hk
      have h9 : ∀ j : Fin 1001, Builtin.Range.small 0 ((j.1 : Nat) : Int) 1 = true := by decide +kernel
      exact h9 ⟨k, by omega⟩
    exact this n hn
  have hsz := rng_size n
  refine wpAny_pyIter_range hr hsmall ?_
  have W : Walks prog w A s.heap.objs.size [s.heap.objs.size] [s.heap.objs.size] n (fun i v => i < n ∧ ∃ t, v = .int (0 + i * 1) t)
      (fun i h => IsRangeIter h s.heap.objs.size (0 + (i : Nat) * 1) ((n : Int) - (i : Nat)) 1) := (Walks.range hh _ 0 1 n).bound
  refine kdr_loop J W (fun _ h => h) (fun _ h => h) ?_ ?_ ?_ ?_ (by show IsRangeIter _ _ _ _ _; rw [hsz]; simpa using Heap.get?_push_size _ rfl) (F.push _) (fun p hp => ⟨Heap.get?_push_of_some _ (N p hp).1, (N p hp).2⟩) hj ?_ ?_
  · intro i h hi b hb
    rw [List.mem_singleton.mp hb]
    exact ⟨_, hi⟩
  · intro hm
    exact absurd F.ns.lt ((List.mem_singleton.mp hm) ▸ Nat.lt_irrefl _)
  · intro b hb
    rw [List.mem_singleton.mp hb]
    exact next_is_new F
  · intro p hp hI
    exact absurd (Heap.lt_size (N p hp).1) ((List.mem_singleton.mp hI) ▸ Nat.lt_irrefl _)
  · rintro i v m₁ nx h tk own hi ⟨_, t, rfl⟩ hoff hJ F₁ N₁
    have e1 : (0 : Int) + (i : Int) * 1 = (i : Int) := by omega
    rw [e1] at F₁
    exact turn i t m₁ nx h tk own hi hoff hJ F₁ N₁
  · intro m₁ nx h tk hJ F₁ N₁
    exact done m₁ nx h tk hJ F₁ N₁
end
end Mine

end
section
open PySem PySem.W PyProof.Rows PySem.Calls PySem.W.X
set_option maxRecDepth 100000
set_option maxHeartbeats 2000000
namespace Mine
noncomputable def code4 (d : Fin 4) : Nat := [97, 98, 66, 55].getD d.1 97
noncomputable def sym4 (d : Fin 4) : Str := ⟨#[code4 d]⟩
theorem item4 : ∀ d : Fin 4, Txt.item (Str.ofString "abB7") (d.1 : Int) = sym4 d := by decide +kernel
theorem labS_sym (num : Int) (i : Nat) : ∃ d : Fin 4, labS num i = sym4 d := by
  unfold labS
  have h1 := Int.fmod_nonneg_of_pos (num.fdiv ((4 : Int) ^ i)) (b := 4) (by decide)
  have h2 := Int.fmod_lt_of_pos (num.fdiv ((4 : Int) ^ i)) (b := 4) (by decide)
  generalize (num.fdiv ((4 : Int) ^ i)).fmod 4 = k at h1 h2
  refine ⟨⟨k.toNat, by omega⟩, ?_⟩
  rw [← item4]
  congr 1
  show k = ((k.toNat : Nat) : Int)
  omega
theorem lab_digits (num : Int) (n : Nat) : ∃ ds : List (Fin 4), ds.length = n ∧ labL num n = ds.map sym4 := by
  have all : ∀ l : List Nat, ∃ ds : List (Fin 4), ds.length = l.length ∧ l.map (labS num) = ds.map sym4 := by
    intro l
    induction l with
    | nil => exact ⟨[], rfl, rfl⟩
    | cons a l ih =>
      obtain ⟨ds, h1, h2⟩ := ih
      obtain ⟨d, hd⟩ := labS_sym num a
      exact ⟨d :: ds, by simp [h1], by simp [h2, hd]⟩
  obtain ⟨ds, h1, h2⟩ := all (List.range' 0 n)
  exact ⟨ds, by simpa using h1, h2⟩
/-- the rule's own text -/
noncomputable def ruleT (dd : Bool) (ds : List (Fin 4)) : Str := (if dd = true then Str.ofString "." else Str.ofString "") ++ Txt.join (Str.ofString ".") (ds.map sym4)
noncomputable def wordT (sg : Int) (dd : Bool) (ds : List (Fin 4)) : Str := Txt.item (Str.ofString "+-") sg ++ Str.ofString " " ++ (if dd = true then Str.ofString "." else Str.ofString "") ++ Txt.join (Str.ofString ".") (ds.map sym4)
theorem wordS_is (num : Int) : ∃ ds : List (Fin 4), ds.length = rmany num ∧ rlab num = ds.map sym4 ∧ wordS num = wordT (sgOf num) (dotOf num) ds := by
  obtain ⟨ds, h1, h2⟩ := lab_digits (rnum num) (rmany num)
  refine ⟨ds, h1, h2, ?_⟩
  unfold wordS wordT rlab
  rw [h2]
theorem word_1f : ∀ d : Fin 4, wordT 0 false [d] = ⟨[43, 32, code4 d].toArray⟩ ∧ wordT 1 false [d] = ⟨[45, 32, code4 d].toArray⟩ := by decide +kernel
theorem word_1t : ∀ d : Fin 4, wordT 0 true [d] = ⟨[43, 32, 46, code4 d].toArray⟩ ∧ wordT 1 true [d] = ⟨[45, 32, 46, code4 d].toArray⟩ := by decide +kernel
theorem word_2f : ∀ d e : Fin 4, wordT 0 false [d, e] = ⟨[43, 32, code4 d, 46, code4 e].toArray⟩ ∧ wordT 1 false [d, e] = ⟨[45, 32, code4 d, 46, code4 e].toArray⟩ := by decide +kernel
theorem word_2t : ∀ d e : Fin 4, wordT 0 true [d, e] = ⟨[43, 32, 46, code4 d, 46, code4 e].toArray⟩ ∧ wordT 1 true [d, e] = ⟨[45, 32, 46, code4 d, 46, code4 e].toArray⟩ := by decide +kernel
noncomputable def noQ (l : List Nat) : Bool := (Builtin.Str.occurrences ⟨l.toArray⟩ (Str.ofString "'") 0 (⟨l.toArray⟩ : Str).length ((⟨l.toArray⟩ : Str).length + 1)).isEmpty
theorem noQ_1f : ∀ d : Fin 4, noQ [43, 32, code4 d] = true ∧ noQ [45, 32, code4 d] = true := by decide +kernel
theorem noQ_1t : ∀ d : Fin 4, noQ [43, 32, 46, code4 d] = true ∧ noQ [45, 32, 46, code4 d] = true := by decide +kernel
theorem noQ_2f : ∀ d e : Fin 4, noQ [43, 32, code4 d, 46, code4 e] = true ∧ noQ [45, 32, code4 d, 46, code4 e] = true := by decide +kernel
theorem noQ_2t : ∀ d e : Fin 4, noQ [43, 32, 46, code4 d, 46, code4 e] = true ∧ noQ [45, 32, 46, code4 d, 46, code4 e] = true := by decide +kernel
noncomputable def goodB (c : Nat) : Bool := !((⟨#[c]⟩ : Str) == Str.ofString "\n") && !((⟨#[c]⟩ : Str) == Str.ofString "'") && (Builtin.Str.occurrences (Str.ofString "\\") ⟨#[c]⟩ 0 (Str.ofString "\\").length 1).isEmpty
theorem goodC_of {c : Nat} (h : goodB c = true) : GoodC c := by
  unfold goodB at h
  simp only [Bool.and_eq_true, Bool.not_eq_true'] at h
  exact ⟨h.1.1, h.1.2, h.2⟩
theorem good_sym : ∀ d : Fin 4, goodB (code4 d) = true := by decide +kernel
theorem good_43 : goodB 43 = true := by decide +kernel
theorem good_45 : goodB 45 = true := by decide +kernel
theorem good_32 : goodB 32 = true := by decide +kernel
theorem good_46 : goodB 46 = true := by decide +kernel
structure WordOk (l : List Nat) : Prop where
  q : QuoteOk l
  g : GoodW l
theorem wordOk_of {l : List Nat} (hp : 0 < (⟨l.toArray⟩ : Str).length) (hl : (⟨l.toArray⟩ : Str).length ≤ 100) (hn : noQ l = true) (hf : ∀ w n t t0, runFind w n t t0 l = some (.ok (.ret (.ref (n + 1))), 2, 0, [])) (hg : ∀ c ∈ l, goodB c = true) : WordOk l :=
  ⟨⟨hp, hl, hn, hf⟩, ⟨fun c hc => goodC_of (hg c hc), hp, Nat.le_trans hl (by decide)⟩⟩
noncomputable def wordL (num : Int) : List Nat := (wordS num).cps.toList
theorem wordL_is (num : Int) : (⟨(wordL num).toArray⟩ : Str) = wordS num := by
  apply Str.ext'
  simp [wordL]
theorem word_ok (num : Int) : WordOk (wordL num) := by
  obtain ⟨ds, h1, _, h3⟩ := wordS_is num
  obtain ⟨_, hm1, hm2⟩ := rmany_is num
  obtain ⟨hs1, hs2⟩ := sg_is num
  have hs : sgOf num = 0 ∨ sgOf num = 1 := by omega
  have key : ∀ l : List Nat, wordS num = ⟨l.toArray⟩ → wordL num = l := fun l e => by unfold wordL; rw [e]
  generalize dotOf num = dd at h3
  rcases ds with _ | ⟨d, _ | ⟨e, _ | ⟨f, r⟩⟩⟩
  · simp at h1; omega
  · cases dd
    · rcases hs with hs | hs
      · rw [hs, (word_1f d).1] at h3
        rw [key _ h3]
        exact wordOk_of (Nat.le_of_ble_eq_true rfl) (Nat.le_of_ble_eq_true rfl) (noQ_1f d).1 (fun w n t t0 => find43_1 w n t t0 _) (by simp [good_43, good_32, good_sym])
      · rw [hs, (word_1f d).2] at h3
        rw [key _ h3]
        exact wordOk_of (Nat.le_of_ble_eq_true rfl) (Nat.le_of_ble_eq_true rfl) (noQ_1f d).2 (fun w n t t0 => find45_1 w n t t0 _) (by simp [good_45, good_32, good_sym])
    · rcases hs with hs | hs
      · rw [hs, (word_1t d).1] at h3
        rw [key _ h3]
        exact wordOk_of (Nat.le_of_ble_eq_true rfl) (Nat.le_of_ble_eq_true rfl) (noQ_1t d).1 (fun w n t t0 => find43_2 w n t t0 _ _) (by simp [good_43, good_32, good_46, good_sym])
      · rw [hs, (word_1t d).2] at h3
        rw [key _ h3]
        exact wordOk_of (Nat.le_of_ble_eq_true rfl) (Nat.le_of_ble_eq_true rfl) (noQ_1t d).2 (fun w n t t0 => find45_2 w n t t0 _ _) (by simp [good_45, good_32, good_46, good_sym])
  · cases dd
    · rcases hs with hs | hs
      · rw [hs, (word_2f d e).1] at h3
        rw [key _ h3]
        exact wordOk_of (Nat.le_of_ble_eq_true rfl) (Nat.le_of_ble_eq_true rfl) (noQ_2f d e).1 (fun w n t t0 => find43_3 w n t t0 _ _ _) (by simp [good_43, good_32, good_46, good_sym])
      · rw [hs, (word_2f d e).2] at h3
        rw [key _ h3]
        exact wordOk_of (Nat.le_of_ble_eq_true rfl) (Nat.le_of_ble_eq_true rfl) (noQ_2f d e).2 (fun w n t t0 => find45_3 w n t t0 _ _ _) (by simp [good_45, good_32, good_46, good_sym])
    · rcases hs with hs | hs
      · rw [hs, (word_2t d e).1] at h3
        rw [key _ h3]
        exact wordOk_of (Nat.le_of_ble_eq_true rfl) (Nat.le_of_ble_eq_true rfl) (noQ_2t d e).1 (fun w n t t0 => find43_4 w n t t0 _ _ _ _) (by simp [good_43, good_32, good_46, good_sym])
      · rw [hs, (word_2t d e).2] at h3
        rw [key _ h3]
        exact wordOk_of (Nat.le_of_ble_eq_true rfl) (Nat.le_of_ble_eq_true rfl) (noQ_2t d e).2 (fun w n t t0 => find45_4 w n t t0 _ _ _ _) (by simp [good_45, good_32, good_46, good_sym])
  · simp at h1; omega
theorem encW_len : ∀ ls : List (List Nat), (∀ l ∈ ls, l.length ≤ 100) → (encW ls).length ≤ 103 * ls.length
  | [], _ => Nat.le_refl _
  | [w], h => by
    have := h w (.head _)
    simp [encW]; omega
  | w :: v :: ws, h => by
    have h1 := h w (.head _)
    have h2 := encW_len (v :: ws) fun l hl => h l (.tail _ hl)
    simp only [encW, List.length_cons, List.length_append] at h2 ⊢
    omega
theorem texts_of {ys : List Value} {nums : List Int} (hl : ys.length = nums.length) (h : ∀ (i : Nat) y, ys[i]? = some y → ∃ num t, nums[i]? = some num ∧ y = Value.str (wordS num) t) : Texts ys.toArray (nums.map wordL) ∧ StrsAre ys (nums.map wordS) := by
  induction ys generalizing nums with
  | nil =>
    cases nums with
    | nil => exact ⟨Texts.nil, .nil⟩
    | cons _ _ => simp at hl
  | cons y ys ih =>
    cases nums with
    | nil => simp at hl
    | cons n nums =>
      obtain ⟨num, t, e1, e2⟩ := h 0 y rfl
      simp at e1; subst e1
      obtain ⟨⟨ts, ht1, ht2⟩, hs⟩ := ih (nums := nums) (by simpa using hl) fun i y' e => by simpa using h (i + 1) y' (by simpa using e)
      refine ⟨⟨t :: ts, by simp [ht1], ?_⟩, ?_⟩
      · have e3 : Value.str (wordS n) t = Value.str ⟨(wordL n).toArray⟩ t := by rw [wordL_is]
        simp only [List.map_cons, List.zip_cons_cons]
        rw [e2, e3]
        show _ :: ys = _
        congr 1
      · rw [e2]; exact .cons _ _ hs
theorem texts_strs {acc : Array Value} {nums : List Int} (h : Texts acc (nums.map wordL)) : StrsAre acc.toList (nums.map wordS) := by
  obtain ⟨ts, h1, h2⟩ := h
  rw [h2]
  clear h2
  induction nums generalizing ts with
  | nil => exact .nil
  | cons n nums ih =>
    cases ts with
    | nil => simp at h1
    | cons t ts =>
      simp only [List.map_cons, List.zip_cons_cons]
      rw [wordL_is]
      exact .cons _ _ (ih ts (by simpa using h1))
section
variable {prog : Program} {w : World} {A : Around} {E : Value → Shared → Prop} {s : Shared}
theorem ne_same {l b : Addr} {vs ws : List Value} {xs : List Str} {Q : Value → Shared → Prop} (hl : s.heap.IsList l vs.toArray) (hb : s.heap.IsList b ws.toArray) (hx : StrsAre vs xs) (hy : StrsAre ws xs) (hu : A.units < cLine)
    (h : Q (.bool false) s) : wpAny (model prog w) A (compareOp .NotEq (.ref l) (.ref b)) Q E s := by
  have lx := StrsAre.length hx
  have ly := StrsAre.length hy
  refine SeqAt.RcNeAt.lists (e := fun _ => true) hl hb (by simp; omega) hu (fun j h1 h2 => ?_) prog w E Q ?_
  · simp only [List.size_toArray] at h1 h2
    obtain ⟨t, g1, e1⟩ := strs_elem hx h1
    obtain ⟨u, g2, e2⟩ := strs_elem hy h2
    have k1 : vs.toArray[j] = Value.str xs[j] t := by simpa using e1
    have k2 : ws.toArray[j] = Value.str xs[j] u := by simpa using e2
    rw [k1, k2]
    have := SeqAt.EqAt.str_str (A := A.in1) (s := s) xs[j] t xs[j] u
    rw [beq_self_eq_true] at this
    exact this
  · have : (List.range vs.toArray.size).all (fun _ => true) = true := by simp
    rw [this]; exact h
end
section
variable {prog : Program} {w : World} {A : Around} {E : Value → Shared → Prop} {s : Shared} {h₀ : Heap} {L : Addr} {news : List (Addr × Obj)}
theorem len_is {D : Addr} {its : Array Value} {n k : Nat} {Q : Value → Shared → Prop} (N : News h₀ L s.heap news) (hD : (D, ({ cls := .type "list", data := .seq its n } : Obj)) ∈ news) (e : its.size = k) (hk : k ≤ 1000) (h : ∀ t tk, Q (.int (k : Int) t) { s with toks := tk }) : wpAny (model prog w) A (call (.builtin "len") [.ref D]) Q E s := by
  subst e
  exact len_list (News.isList N hD) (by omega) (h _ _)
theorem lst_item {value slice : PySem.Expr} {D : Addr} {vs : List Value} {n k : Nat} {u : Tok} {x : Value} {Q : Value → Shared → Prop} (N : News h₀ L s.heap news) (hD : (D, ({ cls := .type "list", data := .seq vs.toArray n } : Obj)) ∈ news) (hx : vs[k]? = some x) (hk : k ≤ 1000) (h : Q x s)
    (hs : subscripted slice false (.ref D) (.int (k : Int) u) = operate [.ref D, .int (k : Int) u] (getItem (.ref D) (.int (k : Int) u)) := by with_unfolding_all rfl) (hg : ∀ r, letTemporaryGo value (.ref D) r = pure () := by intro _; with_unfolding_all rfl) :
    wpAny (model prog w) A (subscriptTail value slice (.ref D) (.int (k : Int) u)) Q E s := item_listL (l := vs) (News.isList N hD) (by omega) (by omega) (by simpa using hx) h hs hg
end
theorem news_split {h s0 h' : Heap} {L S : Addr} {o : Obj} {m : Str → Option Value} {news : List (Addr × Obj)} (F : Fr h L s0 m) (N : News h L s0 news) (kp : ∀ b o, s0.get? b = some o → b ≠ L → h'.get? b = some o) (hS : h'.get? S = some o) (hn : s0.get? S = none) : News h L h' ((S, o) :: news) ∧ ∀ q ∈ news, q.1 ≠ S := by
  refine ⟨fun p hp => ?_, fun q hq e => ?_⟩
  · rcases List.mem_cons.mp hp with rfl | hp
    · refine ⟨hS, fun q => ?_, ?_⟩
      · obtain ⟨oL, _, _, e, _⟩ := F.ns
        have q' : S = L := q
        rw [q', e] at hn; cases hn
      · cases q : h.get? S with
        | none => rfl
        | some o' => have := F.keep _ _ q; rw [hn] at this; cases this
    · exact ⟨kp _ _ (N p hp).1 (N p hp).2.1, (N p hp).2⟩
  · have := (N q hq).1
    rw [e, hn] at this; cases this
theorem news_regrown {h h' : Heap} {L P : Addr} {ps : Array Value} {oP : Obj} {s0 : Heap} {news : List (Addr × Obj)} (hP : h.get? P = some oP) (N : News h L s0 news) (kp : ∀ b o, b ≠ P → s0.get? b = some o → h'.get? b = some o) : News (regrown h P ps) L h' news := by
  intro p hp
  have z := N p hp
  have hne : p.1 ≠ P := fun q => by rw [q, hP] at z; cases z.2.2
  exact ⟨kp _ _ hne z.1, z.2.1, (Heap.get?_update_other _ _ (Ne.symm hne)).trans z.2.2⟩
theorem old_regrown {h h' : Heap} {L P c : Addr} {ps : Array Value} {m : Str → Option Value} (hTA : h.TableAt c P #[]) (F : Fr (regrown h P ps) L h' m) : OldK h h' := by
  have hP := hTA.2
  refine ⟨fun b o e => ?_, fun b o e => ?_⟩
  · by_cases hb : b = P
    · subst hb
      have : o = { cls := .none, data := .fields #[] } := Option.some.inj (e.symm.trans hP)
      subst this
      refine .inr (.inl ⟨hTA.isCodeTable, rfl, #[], ps, rfl, ?_⟩)
      have e1 : (regrown h b ps).get? b = some { cls := .none, data := .fields ps } := Heap.get?_update_self _ hP rfl
      have := F.keep _ _ e1
      simpa using this
    · exact .inl (F.keep _ _ ((Heap.get?_update_other _ _ (Ne.symm hb)).trans e))
  · by_cases hb : b = P
    · subst hb
      have e1 : (regrown h b ps).get? b = some { cls := .none, data := .fields ps } := Heap.get?_update_self _ hP rfl
      exact ⟨_, F.keep _ _ e1⟩
    · exact ⟨o, F.keep _ _ ((Heap.get?_update_other _ _ (Ne.symm hb)).trans e)⟩
end Mine

end
section
open PySem PySem.W PyProof.Rows PySem.Calls PySem.W.X
set_option maxRecDepth 100000
set_option maxHeartbeats 2000000
namespace Mine
noncomputable abbrev Key := Int × Int
noncomputable def kLt (x y : Key) : Bool := decide (x.1 < y.1 ∨ (x.1 = y.1 ∧ x.2 < y.2))
noncomputable def ksd (new : Key) : Nat → Nat → List Key → List Key
  | 0, pos, xs => xs.set pos new
  | f + 1, pos, xs => if pos = 0 then xs.set pos new else match xs[(pos - 1) / 2]? with
    | some par => if kLt new par = true then ksd new f ((pos - 1) / 2) (xs.set pos par) else xs.set pos new
    | none => xs
noncomputable def kgt (xs : List Key) (i : Nat) : Key := xs.getD i (0, 0)
noncomputable def ksuL : Nat → Nat → List Key → Nat × List Key
  | 0, pos, xs => (pos, xs)
  | f + 1, pos, xs => if 2 * pos + 1 < xs.length then
      (if 2 * pos + 2 < xs.length ∧ kLt (kgt xs (2 * pos + 1)) (kgt xs (2 * pos + 2)) = false then ksuL f (2 * pos + 2) (xs.set pos (kgt xs (2 * pos + 2))) else ksuL f (2 * pos + 1) (xs.set pos (kgt xs (2 * pos + 1))))
    else (pos, xs)
noncomputable def ksu (xs : List Key) : List Key := ksd (kgt xs 0) (ksuL xs.length 0 xs).1 (ksuL xs.length 0 xs).1 ((ksuL xs.length 0 xs).2.set (ksuL xs.length 0 xs).1 (kgt xs 0))
noncomputable def kpush (xs : List Key) (x : Key) : List Key := ksd x xs.length xs.length (xs ++ [x])
noncomputable def kpop (xs : List Key) : Key × List Key := if xs.dropLast.length = 0 then (kgt xs (xs.length - 1), []) else (kgt xs.dropLast 0, ksu (xs.dropLast.set 0 (kgt xs (xs.length - 1))))
noncomputable abbrev kys (xs : List Item) : List Key := xs.map (·.2)
theorem sd_keys (new : Item) : ∀ (f pos : Nat) (xs : List Item), kys (sd new f pos xs) = ksd new.2 f pos (kys xs)
  | 0, pos, xs => by simp [sd, ksd, kys, List.map_set]
  | f + 1, pos, xs => by
    simp only [sd, ksd]
    split
    · simp [kys, List.map_set]
    · have e : (kys xs)[(pos - 1) / 2]? = (xs[(pos - 1) / 2]?).map (·.2) := by simp [kys]
      rw [e]
      cases q : xs[(pos - 1) / 2]? with
      | none => rfl
      | some par =>
        simp only [Option.map_some]
        have e2 : itLt new par = kLt new.2 par.2 := rfl
        rw [e2]
        split
        · rw [sd_keys new f]; simp [kys, List.map_set]
        · simp [kys, List.map_set]
theorem gt_keys (xs : List Item) (i : Nat) : (gtI xs i).2 = kgt (kys xs) i := by
  unfold gtI kgt kys
  rw [List.getD_eq_getElem?_getD, List.getD_eq_getElem?_getD, List.getElem?_map]
  cases xs[i]? <;> rfl
theorem suL_keys : ∀ (f pos : Nat) (xs : List Item), (suL f pos xs).1 = (ksuL f pos (kys xs)).1 ∧ kys (suL f pos xs).2 = (ksuL f pos (kys xs)).2
  | 0, pos, xs => ⟨rfl, rfl⟩
  | f + 1, pos, xs => by
    simp only [suL, ksuL]
    have el : (kys xs).length = xs.length := by simp [kys]
    rw [el]
    split
    · have e2 : itLt (gtI xs (2 * pos + 1)) (gtI xs (2 * pos + 2)) = kLt (kgt (kys xs) (2 * pos + 1)) (kgt (kys xs) (2 * pos + 2)) := by
        rw [← gt_keys, ← gt_keys]; rfl
      rw [e2]
      split
      · have := suL_keys f (2 * pos + 2) (xs.set pos (gtI xs (2 * pos + 2)))
        have e3 : kys (xs.set pos (gtI xs (2 * pos + 2))) = (kys xs).set pos (kgt (kys xs) (2 * pos + 2)) := by rw [← gt_keys]; simp [kys, List.map_set]
        rw [e3] at this; exact this
      · have := suL_keys f (2 * pos + 1) (xs.set pos (gtI xs (2 * pos + 1)))
        have e3 : kys (xs.set pos (gtI xs (2 * pos + 1))) = (kys xs).set pos (kgt (kys xs) (2 * pos + 1)) := by rw [← gt_keys]; simp [kys, List.map_set]
        rw [e3] at this; exact this
    · exact ⟨rfl, rfl⟩
theorem su_keys (xs : List Item) : kys (su xs) = ksu (kys xs) := by
  unfold su ksu
  have el : (kys xs).length = xs.length := by simp [kys]
  have h := suL_keys xs.length 0 xs
  rw [sd_keys, el, gt_keys, h.1]
  congr 1
  rw [← h.2, ← gt_keys]
  simp [kys, List.map_set]
theorem push_keys (xs : List Item) (x : Item) : kys (hpush xs x) = kpush (kys xs) x.2 := by
  unfold hpush kpush
  have el : (kys xs).length = xs.length := by simp [kys]
  rw [sd_keys, el]
  congr 1
  simp [kys]
theorem pop_keys (xs : List Item) : (hpop xs).1.2 = (kpop (kys xs)).1 ∧ kys (hpop xs).2 = (kpop (kys xs)).2 := by
  unfold hpop kpop
  have e1 : (kys xs).dropLast = kys xs.dropLast := by simp [kys, List.map_dropLast]
  have e2 : (kys xs).dropLast.length = xs.dropLast.length := by simp [kys]
  have e3 : (kys xs).length = xs.length := by simp [kys]
  rw [e2, e3, e1]
  split
  · exact ⟨gt_keys _ _, rfl⟩
  · refine ⟨gt_keys _ _, ?_⟩
    rw [su_keys]
    congr 1
    rw [← gt_keys xs]
    simp [kys, List.map_set]
theorem sd_len (new : Item) : ∀ (f pos : Nat) (xs : List Item), (sd new f pos xs).length = xs.length
  | 0, pos, xs => by simp [sd]
  | f + 1, pos, xs => by
    simp only [sd]
    split
    · simp
    · split
      · split
        · rw [sd_len new f]; simp
        · simp
      · rfl
theorem sd_mem {P : Item → Prop} {new : Item} (hn : P new) : ∀ (f pos : Nat) (xs : List Item), (∀ x ∈ xs, P x) → ∀ x ∈ sd new f pos xs, P x
  | 0, pos, xs, h, x, hx => by
    simp only [sd] at hx
    rcases List.mem_or_eq_of_mem_set hx with q | q
    · exact h x q
    · rw [q]; exact hn
  | f + 1, pos, xs, h, x, hx => by
    simp only [sd] at hx
    have setP : ∀ (y : Item) (i : Nat), P y → ∀ z ∈ xs.set i y, P z := fun y i hy z hz => by
      rcases List.mem_or_eq_of_mem_set hz with q | q
      · exact h z q
      · rw [q]; exact hy
    split at hx
    · exact setP new pos hn x hx
    · split at hx
      · rename_i par hp
        split at hx
        · exact sd_mem hn f _ _ (setP par pos (h par (List.mem_of_getElem? hp))) x hx
        · exact setP new pos hn x hx
      · exact h x hx
theorem push_len (xs : List Item) (x : Item) : (hpush xs x).length = xs.length + 1 := by
  unfold hpush
  rw [sd_len]; simp
theorem push_mem {P : Item → Prop} {xs : List Item} {x : Item} (h : ∀ y ∈ xs, P y) (hx : P x) : ∀ y ∈ hpush xs x, P y :=
  sd_mem hx _ _ _ fun y hy => (List.mem_append.mp hy).elim (h y) fun q => by rw [List.mem_singleton.mp q]; exact hx
/-- the keys of the heap when the first so many rules are in it -/
noncomputable def keysF : Nat → List Key → List Nat → List Key
  | _, ks, [] => ks
  | i, ks, m :: ms => keysF (i + 1) (kpush ks (-(m : Int), (i : Int))) ms
noncomputable def keys (nums : List Int) : List Key := keysF 0 [] (nums.map rmany)
theorem keysF_snoc (m : Nat) : ∀ (ms : List Nat) (i : Nat) (ks : List Key), keysF i ks (ms ++ [m]) = kpush (keysF i ks ms) (-(m : Int), ((i + ms.length : Nat) : Int))
  | [], i, ks => rfl
  | a :: ms, i, ks => by
    simp only [List.cons_append, keysF, List.length_cons]
    rw [keysF_snoc m ms (i + 1)]
    congr 3
    omega
theorem keys_snoc (nums : List Int) (num : Int) : keys (nums ++ [num]) = kpush (keys nums) (-((rmany num : Nat) : Int), ((nums.length : Nat) : Int)) := by
  unfold keys
  rw [List.map_append, List.map_cons, List.map_nil, keysF_snoc]
  simp
end Mine

end
section
open PySem PySem.W PyProof.Rows PySem.Calls PySem.W.X
set_option maxRecDepth 100000
set_option maxHeartbeats 0
namespace Mine
noncomputable def low4 (d : Fin 4) : Nat := [97, 98, 98, 55].getD d.1 97
/-- a name in small letters, as signs -/
noncomputable def lowC : List (Fin 4) → List Nat
  | [] => []
  | [d] => [low4 d]
  | d :: ds => low4 d :: 46 :: lowC ds
noncomputable def hostT (hs : List (Fin 4)) : Str := Txt.join (Str.ofString ".") (hs.map sym4)
noncomputable def lowH (hs : List (Fin 4)) : Str := ⟨(lowC hs).toArray⟩
noncomputable def lowR (dd : Bool) (ds : List (Fin 4)) : Str := if dd = true then ⟨(46 :: lowC ds).toArray⟩ else ⟨(lowC ds).toArray⟩
noncomputable def fins : List (Fin 4) := [0, 1, 2, 3]
theorem fins_all (d : Fin 4) : d ∈ fins := by revert d; decide
noncomputable def ds1 : List (List (Fin 4)) := fins.map fun d => [d]
noncomputable def ds2 : List (List (Fin 4)) := fins.flatMap fun d => fins.map fun e => [d, e]
noncomputable def ds3 : List (List (Fin 4)) := fins.flatMap fun d => fins.flatMap fun e => fins.map fun f => [d, e, f]
noncomputable def hostDs : List (List (Fin 4)) := ds1 ++ ds2 ++ ds3
noncomputable def ruleDs : List (List (Fin 4)) := ds1 ++ ds2
theorem ruleDs_all {ds : List (Fin 4)} (h1 : 1 ≤ ds.length) (h2 : ds.length ≤ 2) : ds ∈ ruleDs := by
  rcases ds with _ | ⟨d, _ | ⟨e, _ | ⟨f, r⟩⟩⟩
  · simp at h1
  · exact List.mem_append_left _ (List.mem_map.mpr ⟨d, fins_all d, rfl⟩)
  · exact List.mem_append_right _ (List.mem_flatMap.mpr ⟨d, fins_all d, List.mem_map.mpr ⟨e, fins_all e, rfl⟩⟩)
  · simp at h2
theorem hostDs_all {ds : List (Fin 4)} (h1 : 1 ≤ ds.length) (h2 : ds.length ≤ 3) : ds ∈ hostDs := by
  rcases ds with _ | ⟨d, _ | ⟨e, _ | ⟨f, _ | ⟨g, r⟩⟩⟩⟩
  · simp at h1
  · exact List.mem_append_left _ (List.mem_append_left _ (List.mem_map.mpr ⟨d, fins_all d, rfl⟩))
  · exact List.mem_append_left _ (List.mem_append_right _ (List.mem_flatMap.mpr ⟨d, fins_all d, List.mem_map.mpr ⟨e, fins_all e, rfl⟩⟩))
  · exact List.mem_append_right _ (List.mem_flatMap.mpr ⟨d, fins_all d, List.mem_flatMap.mpr ⟨e, fins_all e, List.mem_map.mpr ⟨f, fins_all f, rfl⟩⟩⟩)
  · simp at h2
noncomputable def hdnB (x : Str) : Bool := !(Txt.endswith x (Str.ofString ".7"))
theorem hdn0 : HdnOk (Str.ofString "a") true := ⟨fun w n t t0 => by kernel_rfl⟩
theorem hdn1 : HdnOk (Str.ofString "b") true := ⟨fun w n t t0 => by kernel_rfl⟩
theorem hdn2 : HdnOk (Str.ofString "7") true := ⟨fun w n t t0 => by kernel_rfl⟩
theorem hdn3 : HdnOk (Str.ofString "a.a") true := ⟨fun w n t t0 => by kernel_rfl⟩
theorem hdn4 : HdnOk (Str.ofString "a.b") true := ⟨fun w n t t0 => by kernel_rfl⟩
theorem hdn5 : HdnOk (Str.ofString "a.7") false := ⟨fun w n t t0 => by kernel_rfl⟩
theorem hdn6 : HdnOk (Str.ofString "b.a") true := ⟨fun w n t t0 => by kernel_rfl⟩
theorem hdn7 : HdnOk (Str.ofString "b.b") true := ⟨fun w n t t0 => by kernel_rfl⟩
theorem hdn8 : HdnOk (Str.ofString "b.7") false := ⟨fun w n t t0 => by kernel_rfl⟩
theorem hdn9 : HdnOk (Str.ofString "7.a") true := ⟨fun w n t t0 => by kernel_rfl⟩
theorem hdn10 : HdnOk (Str.ofString "7.b") true := ⟨fun w n t t0 => by kernel_rfl⟩
theorem hdn11 : HdnOk (Str.ofString "7.7") false := ⟨fun w n t t0 => by kernel_rfl⟩
theorem hdn12 : HdnOk (Str.ofString "a.a.a") true := ⟨fun w n t t0 => by kernel_rfl⟩
theorem hdn13 : HdnOk (Str.ofString "a.a.b") true := ⟨fun w n t t0 => by kernel_rfl⟩
theorem hdn14 : HdnOk (Str.ofString "a.a.7") false := ⟨fun w n t t0 => by kernel_rfl⟩
theorem hdn15 : HdnOk (Str.ofString "a.b.a") true := ⟨fun w n t t0 => by kernel_rfl⟩
theorem hdn16 : HdnOk (Str.ofString "a.b.b") true := ⟨fun w n t t0 => by kernel_rfl⟩
theorem hdn17 : HdnOk (Str.ofString "a.b.7") false := ⟨fun w n t t0 => by kernel_rfl⟩
theorem hdn18 : HdnOk (Str.ofString "a.7.a") true := ⟨fun w n t t0 => by kernel_rfl⟩
theorem hdn19 : HdnOk (Str.ofString "a.7.b") true := ⟨fun w n t t0 => by kernel_rfl⟩
theorem hdn20 : HdnOk (Str.ofString "a.7.7") false := ⟨fun w n t t0 => by kernel_rfl⟩
theorem hdn21 : HdnOk (Str.ofString "b.a.a") true := ⟨fun w n t t0 => by kernel_rfl⟩
theorem hdn22 : HdnOk (Str.ofString "b.a.b") true := ⟨fun w n t t0 => by kernel_rfl⟩
theorem hdn23 : HdnOk (Str.ofString "b.a.7") false := ⟨fun w n t t0 => by kernel_rfl⟩
theorem hdn24 : HdnOk (Str.ofString "b.b.a") true := ⟨fun w n t t0 => by kernel_rfl⟩
theorem hdn25 : HdnOk (Str.ofString "b.b.b") true := ⟨fun w n t t0 => by kernel_rfl⟩
theorem hdn26 : HdnOk (Str.ofString "b.b.7") false := ⟨fun w n t t0 => by kernel_rfl⟩
theorem hdn27 : HdnOk (Str.ofString "b.7.a") true := ⟨fun w n t t0 => by kernel_rfl⟩
theorem hdn28 : HdnOk (Str.ofString "b.7.b") true := ⟨fun w n t t0 => by kernel_rfl⟩
theorem hdn29 : HdnOk (Str.ofString "b.7.7") false := ⟨fun w n t t0 => by kernel_rfl⟩
theorem hdn30 : HdnOk (Str.ofString "7.a.a") true := ⟨fun w n t t0 => by kernel_rfl⟩
theorem hdn31 : HdnOk (Str.ofString "7.a.b") true := ⟨fun w n t t0 => by kernel_rfl⟩
theorem hdn32 : HdnOk (Str.ofString "7.a.7") false := ⟨fun w n t t0 => by kernel_rfl⟩
theorem hdn33 : HdnOk (Str.ofString "7.b.a") true := ⟨fun w n t t0 => by kernel_rfl⟩
theorem hdn34 : HdnOk (Str.ofString "7.b.b") true := ⟨fun w n t t0 => by kernel_rfl⟩
theorem hdn35 : HdnOk (Str.ofString "7.b.7") false := ⟨fun w n t t0 => by kernel_rfl⟩
theorem hdn36 : HdnOk (Str.ofString "7.7.a") true := ⟨fun w n t t0 => by kernel_rfl⟩
theorem hdn37 : HdnOk (Str.ofString "7.7.b") true := ⟨fun w n t t0 => by kernel_rfl⟩
theorem hdn38 : HdnOk (Str.ofString "7.7.7") false := ⟨fun w n t t0 => by kernel_rfl⟩
theorem hdn39 : HdnOk (Str.ofString ".a") true := ⟨fun w n t t0 => by kernel_rfl⟩
theorem hdn40 : HdnOk (Str.ofString ".b") true := ⟨fun w n t t0 => by kernel_rfl⟩
theorem hdn41 : HdnOk (Str.ofString ".7") false := ⟨fun w n t t0 => by kernel_rfl⟩
theorem hdn42 : HdnOk (Str.ofString ".a.a") true := ⟨fun w n t t0 => by kernel_rfl⟩
theorem hdn43 : HdnOk (Str.ofString ".a.b") true := ⟨fun w n t t0 => by kernel_rfl⟩
theorem hdn44 : HdnOk (Str.ofString ".a.7") false := ⟨fun w n t t0 => by kernel_rfl⟩
theorem hdn45 : HdnOk (Str.ofString ".b.a") true := ⟨fun w n t t0 => by kernel_rfl⟩
theorem hdn46 : HdnOk (Str.ofString ".b.b") true := ⟨fun w n t t0 => by kernel_rfl⟩
theorem hdn47 : HdnOk (Str.ofString ".b.7") false := ⟨fun w n t t0 => by kernel_rfl⟩
theorem hdn48 : HdnOk (Str.ofString ".7.a") true := ⟨fun w n t t0 => by kernel_rfl⟩
theorem hdn49 : HdnOk (Str.ofString ".7.b") true := ⟨fun w n t t0 => by kernel_rfl⟩
theorem hdn50 : HdnOk (Str.ofString ".7.7") false := ⟨fun w n t t0 => by kernel_rfl⟩
noncomputable def lowTexts : List (Str × Bool) := [(Str.ofString "a", true), (Str.ofString "b", true), (Str.ofString "7", true), (Str.ofString "a.a", true), (Str.ofString "a.b", true), (Str.ofString "a.7", false), (Str.ofString "b.a", true), (Str.ofString "b.b", true), (Str.ofString "b.7", false), (Str.ofString "7.a", true), (Str.ofString "7.b", true), (Str.ofString "7.7", false), (Str.ofString "a.a.a", true), (Str.ofString "a.a.b", true), (Str.ofString "a.a.7", false), (Str.ofString "a.b.a", true), (Str.ofString "a.b.b", true), (Str.ofString "a.b.7", false), (Str.ofString "a.7.a", true), (Str.ofString "a.7.b", true), (Str.ofString "a.7.7", false), (Str.ofString "b.a.a", true), (Str.ofString "b.a.b", true), (Str.ofString "b.a.7", false), (Str.ofString "b.b.a", true), (Str.ofString "b.b.b", true), (Str.ofString "b.b.7", false), (Str.ofString "b.7.a", true), (Str.ofString "b.7.b", true), (Str.ofString "b.7.7", false), (Str.ofString "7.a.a", true), (Str.ofString "7.a.b", true), (Str.ofString "7.a.7", false), (Str.ofString "7.b.a", true), (Str.ofString "7.b.b", true), (Str.ofString "7.b.7", false), (Str.ofString "7.7.a", true), (Str.ofString "7.7.b", true), (Str.ofString "7.7.7", false), (Str.ofString ".a", true), (Str.ofString ".b", true), (Str.ofString ".7", false), (Str.ofString ".a.a", true), (Str.ofString ".a.b", true), (Str.ofString ".a.7", false), (Str.ofString ".b.a", true), (Str.ofString ".b.b", true), (Str.ofString ".b.7", false), (Str.ofString ".7.a", true), (Str.ofString ".7.b", true), (Str.ofString ".7.7", false)]
theorem low_hdn : ∀ p ∈ lowTexts, HdnOk p.1 p.2 :=
  List.forall_mem_cons.mpr ⟨hdn0, List.forall_mem_cons.mpr ⟨hdn1, List.forall_mem_cons.mpr ⟨hdn2, List.forall_mem_cons.mpr ⟨hdn3, List.forall_mem_cons.mpr ⟨hdn4, List.forall_mem_cons.mpr ⟨hdn5, List.forall_mem_cons.mpr ⟨hdn6, List.forall_mem_cons.mpr ⟨hdn7, List.forall_mem_cons.mpr ⟨hdn8, List.forall_mem_cons.mpr ⟨hdn9, List.forall_mem_cons.mpr ⟨hdn10, List.forall_mem_cons.mpr ⟨hdn11, List.forall_mem_cons.mpr ⟨hdn12, List.forall_mem_cons.mpr ⟨hdn13, List.forall_mem_cons.mpr ⟨hdn14, List.forall_mem_cons.mpr ⟨hdn15, List.forall_mem_cons.mpr ⟨hdn16, List.forall_mem_cons.mpr ⟨hdn17, List.forall_mem_cons.mpr ⟨hdn18, List.forall_mem_cons.mpr ⟨hdn19, List.forall_mem_cons.mpr ⟨hdn20, List.forall_mem_cons.mpr ⟨hdn21, List.forall_mem_cons.mpr ⟨hdn22, List.forall_mem_cons.mpr ⟨hdn23, List.forall_mem_cons.mpr ⟨hdn24, List.forall_mem_cons.mpr ⟨hdn25, List.forall_mem_cons.mpr ⟨hdn26, List.forall_mem_cons.mpr ⟨hdn27, List.forall_mem_cons.mpr ⟨hdn28, List.forall_mem_cons.mpr ⟨hdn29, List.forall_mem_cons.mpr ⟨hdn30, List.forall_mem_cons.mpr ⟨hdn31, List.forall_mem_cons.mpr ⟨hdn32, List.forall_mem_cons.mpr ⟨hdn33, List.forall_mem_cons.mpr ⟨hdn34, List.forall_mem_cons.mpr ⟨hdn35, List.forall_mem_cons.mpr ⟨hdn36, List.forall_mem_cons.mpr ⟨hdn37, List.forall_mem_cons.mpr ⟨hdn38, List.forall_mem_cons.mpr ⟨hdn39, List.forall_mem_cons.mpr ⟨hdn40, List.forall_mem_cons.mpr ⟨hdn41, List.forall_mem_cons.mpr ⟨hdn42, List.forall_mem_cons.mpr ⟨hdn43, List.forall_mem_cons.mpr ⟨hdn44, List.forall_mem_cons.mpr ⟨hdn45, List.forall_mem_cons.mpr ⟨hdn46, List.forall_mem_cons.mpr ⟨hdn47, List.forall_mem_cons.mpr ⟨hdn48, List.forall_mem_cons.mpr ⟨hdn49, List.forall_mem_cons.mpr ⟨hdn50, List.forall_mem_nil _⟩⟩⟩⟩⟩⟩⟩⟩⟩⟩⟩⟩⟩⟩⟩⟩⟩⟩⟩⟩⟩⟩⟩⟩⟩⟩⟩⟩⟩⟩⟩⟩⟩⟩⟩⟩⟩⟩⟩⟩⟩⟩⟩⟩⟩⟩⟩⟩⟩⟩⟩
theorem host_low : ∀ hs ∈ hostDs, Txt.lower (hostT hs) = lowH hs ∧ (lowH hs, hdnB (lowH hs)) ∈ lowTexts ∧ (hostT hs).length ≤ 100 := by decide +kernel
theorem rule_low : ∀ ds ∈ ruleDs, ∀ dd : Bool, Txt.lower (ruleT dd ds) = lowR dd ds ∧ (lowR dd ds, hdnB (lowR dd ds)) ∈ lowTexts ∧ (ruleT dd ds).length ≤ 100 := by decide +kernel
theorem lab_low : ∀ ds ∈ hostDs, (ds.map sym4).map Txt.lower = ds.map (fun d => (⟨#[low4 d]⟩ : Str)) := by decide +kernel
noncomputable def udB (x y : Str) : Bool := udF x y (hdnB x) (hdnB y) (Txt.startswith y (Str.ofString ".")) (Txt.endswith x y)
theorem agree : ∀ hs ∈ hostDs, ∀ ds ∈ ruleDs, ∀ dd : Bool, udB (lowH hs) (lowR dd ds) = meF (hs.map (fun d => (⟨#[low4 d]⟩ : Str))) dd (ds.map (fun d => (⟨#[low4 d]⟩ : Str))) := by decide +kernel
end Mine

end
section
open PySem PySem.W PyProof.Rows PySem.Calls PySem.W.X
set_option maxRecDepth 100000
set_option maxHeartbeats 0
namespace Mine
noncomputable def kpops : Nat → List Key → List Key
  | 0, ks => ks
  | k + 1, ks => (kpop (kpops k ks)).2
/-- the places with two labels, then those with one -/
noncomputable def placesOf (m : Nat) : Nat → List Nat → List Nat
  | _, [] => []
  | i, a :: r => if a = m then i :: placesOf m (i + 1) r else placesOf m (i + 1) r
noncomputable def order (ms : List Nat) : List Nat := placesOf 2 0 ms ++ placesOf 1 0 ms
noncomputable def okMs (ms : List Nat) : Bool := (order ms).length == ms.length && (List.range (ms.length + 1)).all fun k => (kpops k (keysF 0 [] ms)).length == ms.length - k && (if k < ms.length then (kpop (kpops k (keysF 0 [] ms))).1.2 == (((order ms).getD k 0 : Nat) : Int) && decide ((order ms).getD k 0 < ms.length) else true)
noncomputable def pats : Nat → List (List Nat)
  | 0 => [[]]
  | n + 1 => (pats n).flatMap fun p => [1 :: p, 2 :: p]
theorem pats_all : ∀ (n : Nat) (p : List Nat), p.length = n → (∀ a ∈ p, a = 1 ∨ a = 2) → p ∈ pats n
  | 0, [], _, _ => .head _
  | 0, _ :: _, h, _ => by simp at h
  | n + 1, [], h, _ => by simp at h
  | n + 1, a :: p, h, ha => by
    refine List.mem_flatMap.mpr ⟨p, pats_all n p (by simpa using h) fun b hb => ha b (.tail _ hb), ?_⟩
    rcases ha a (.head _) with rfl | rfl
    · exact .head _
    · exact .tail _ (.head _)
theorem ok_all : ∀ n ∈ [0, 1, 2, 3, 4, 5], ∀ p ∈ pats n, okMs (p ++ [1, 2, 2, 2]) = true := by decide +kernel
theorem tail_many : [0, 14, 13, 60].map rmany = [1, 2, 2, 2] := by decide +kernel
theorem ok_nums {pre : List Int} (h : pre.length ≤ 5) : okMs ((pre ++ [0, 14, 13, 60]).map rmany) = true := by
  rw [List.map_append, tail_many]
  have h9 : ∀ n : Fin 6, n.1 ∈ [0, 1, 2, 3, 4, 5] := by decide
  refine ok_all pre.length (h9 ⟨pre.length, by omega⟩) _ (pats_all _ _ (by simp) fun a ha => ?_)
  obtain ⟨n, _, rfl⟩ := List.mem_map.mp ha
  have := rmany_is n
  omega
/-- the k-th pop -/
theorem pop_at {ms : List Nat} (h : okMs ms = true) {k : Nat} (hk : k < ms.length) : (kpops k (keysF 0 [] ms)).length = ms.length - k ∧ (kpop (kpops k (keysF 0 [] ms))).1.2 = (((order ms).getD k 0 : Nat) : Int) ∧ (order ms).getD k 0 < ms.length := by
  unfold okMs at h
  simp only [Bool.and_eq_true, List.all_eq_true] at h
  have := h.2 k (List.mem_range.mpr (by omega))
  rw [if_pos hk] at this
  simp only [Bool.and_eq_true, beq_iff_eq, decide_eq_true_eq] at this
  exact ⟨this.1, this.2.1, this.2.2⟩
theorem pop_end {ms : List Nat} (h : okMs ms = true) {k : Nat} (hk : k ≤ ms.length) : (kpops k (keysF 0 [] ms)).length = ms.length - k := by
  unfold okMs at h
  simp only [Bool.and_eq_true, List.all_eq_true] at h
  have := h.2 k (List.mem_range.mpr (by omega))
  simp only [beq_iff_eq] at this
  exact this.1
theorem order_len {ms : List Nat} (h : okMs ms = true) : (order ms).length = ms.length := by
  unfold okMs at h
  simp only [Bool.and_eq_true, beq_iff_eq] at h
  exact h.1
/-- the first of these places that a test takes, or -1 -/
noncomputable def firstOf (f : Nat → Bool) : List Nat → Int
  | [] => -1
  | p :: r => if f p = true then (p : Int) else firstOf f r
theorem firstOf_append (f : Nat → Bool) : ∀ a b : List Nat, firstOf f (a ++ b) = if firstOf f a < 0 then firstOf f b else firstOf f a
  | [], b => by simp [firstOf]
  | p :: a, b => by
    simp only [List.cons_append, firstOf]
    split
    · rw [if_neg (by omega)]
    · exact firstOf_append f a b
/-- what the law's second reading makes of due over the places from i on -/
noncomputable def dueOf (f : Nat → Bool) (m : Nat) : Nat → List Nat → Int → Int
  | _, [], due => due
  | i, a :: r, due => dueOf f m (i + 1) r (if due < 0 ∧ a = m ∧ f i = true then (i : Int) else due)
theorem dueOf_kept (f : Nat → Bool) (m : Nat) : ∀ (ms : List Nat) (i : Nat) (due : Int), 0 ≤ due → dueOf f m i ms due = due
  | [], _, _, _ => rfl
  | a :: r, i, due, h => by
    simp only [dueOf]
    rw [if_neg (by omega)]
    exact dueOf_kept f m r (i + 1) due h
theorem dueOf_is (f : Nat → Bool) (m : Nat) : ∀ (ms : List Nat) (i : Nat), dueOf f m i ms (-1) = firstOf f (placesOf m i ms)
  | [], _ => rfl
  | a :: r, i => by
    simp only [dueOf, placesOf]
    by_cases ha : a = m
    · rw [if_pos ha]
      simp only [firstOf]
      by_cases hf : f i = true
      · rw [if_pos ⟨by decide, ha, hf⟩, if_pos hf]
        exact dueOf_kept f m r (i + 1) i (by omega)
      · rw [if_neg (by simp [hf]), if_neg hf]
        exact dueOf_is f m r (i + 1)
    · rw [if_neg (by simp [ha]), if_neg ha]
      exact dueOf_is f m r (i + 1)
theorem due_order (f : Nat → Bool) (ms : List Nat) : dueOf f 1 0 ms (dueOf f 2 0 ms (-1)) = firstOf f (order ms) := by
  unfold order
  rw [firstOf_append, dueOf_is]
  split
  · rename_i h
    have : firstOf f (placesOf 2 0 ms) = -1 := by
      have key : ∀ l : List Nat, firstOf f l < 0 → firstOf f l = -1 := by
        intro l
        induction l with
        | nil => intro _; rfl
        | cons p r ih =>
          simp only [firstOf]
          split
          · intro h; omega
          · exact ih
      exact key _ h
    rw [this, dueOf_is]
  · exact dueOf_kept f 1 ms 0 _ (by omega)
section
variable {prog : Program} {w : World} {A : Around} {E : Value → Shared → Prop} {s : Shared} {h₀ : Heap} {L : Addr} {m : Str → Option Value} {news : List (Addr × Obj)}
theorem lst_copy {value slice : Expr} {l : Addr} {vs : List Value} {n : Nat} {Q : Value → Shared → Prop} (F : Fr h₀ L s.heap m) (N : News h₀ L s.heap news) (hl : (l, listOf vs.toArray n) ∈ news) (hz : vs.length ≤ 1000)
    (h : ∀ d h', Fr h₀ L h' m → News h₀ L h' ((d, listOf vs.toArray 0) :: news) → (∀ p ∈ news, p.1 < d) → Q (.ref d) { s with heap := h' })
    (hs : subscripted slice false (.ref l) (.ref s.heap.objs.size) = operate [.ref s.heap.objs.size, .ref l] (getItem (.ref l) (.ref s.heap.objs.size)) := by with_unfolding_all rfl)
    (ht : ∀ r, letTemporaryGo value (.ref l) r = pure () := by intro _; with_unfolding_all rfl) :
    wpAny (model prog w) A (subscriptTail value slice (.ref l) (.ref s.heap.objs.size)) Q E { s with heap := s.heap.push { cls := .type "slice", data := .fields #[.none, .none, .none] } } := by
  refine slice_list F N (News.isList N hl) IsPart.none IsPart.none (fun h' F' N' => h _ h' F' ?_ fun p hp => Nat.lt_succ_of_lt (Heap.lt_size (N p hp).1)) hs ht (Nat.le_trans (by simpa using hz) (by decide : 1000 ≤ sizeLine))
  rw [slicePick_all] at N'
  exact N'
theorem lt_neg {a : Int} {t u : Tok} {Q : Value → Shared → Prop} (h1 : a < 0 → Q (.bool true) s) (h2 : 0 ≤ a → Q (.bool false) s) : wpAny (model prog w) A (compareOp .Lt (.int a t) (.int 0 u)) Q E s :=
  lt_ways h1 fun e => h2 (by omega)
end
end Mine

end
section
open PySem PySem.W PyProof.Rows PySem.Calls PySem.W.X
set_option maxRecDepth 100000
set_option maxHeartbeats 2000000
namespace Mine
section
variable {prog : Program} {w : World} {A : Around} {E : Value → Shared → Prop} {s : Shared} {h₀ : Heap} {L : Addr} {news : List (Addr × Obj)}
theorem ne_nil {l b : Addr} {ys : List Item} {n k : Nat} {Q : Value → Shared → Prop} (N : News h₀ L s.heap news) (hl : (l, listOf (itV ys).toArray n) ∈ news) (hb : (b, listOf #[] k) ∈ news) (hu : A.units < cLine)
    (h1 : 0 < ys.length → Q (.bool true) s) (h2 : ys.length = 0 → Q (.bool false) s) : wpAny (model prog w) A (compareOp .NotEq (.ref l) (.ref b)) Q E s := by
  by_cases e : ys.length = 0
  · refine SeqAt.RcNeAt.lists (e := fun _ => true) (News.isList N hl) (News.isList N hb) (by simp [e]) hu (fun j g1 g2 => ?_) prog w E Q ?_
    · simp at g2
    · have : (List.range (itV ys).toArray.size).all (fun _ => true) = true := by simp
      rw [this]; exact h2 e
  · exact SeqAt.RcNeAt.lists_lengths (News.isList N hl) (News.isList N hb) (by simp; intro q; apply e; simp [q]) hu prog w E Q (h1 (by omega))
theorem pair_1 {value slice : PySem.Expr} {a : Addr} {p q : Int} {t u v : Tok} {n : Nat} {Q : Value → Shared → Prop} (N : News h₀ L s.heap news) (ha : (a, pairObj p t q u n) ∈ news) (h : Q (.int q u) s)
    (hs : subscripted slice false (.ref a) (.int 1 v) = operate [.ref a, .int 1 v] (getItem (.ref a) (.int 1 v)) := by with_unfolding_all rfl) :
    wpAny (model prog w) A (subscriptTail value slice (.ref a) (.int 1 v)) Q E s := item_tupleT (l := [.int p t, .int q u]) (j := 1) (News.isTup N ha) (by decide) (by decide) rfl rfl h hs
end
section
variable {prog : Program} {w : World} {A : Around} {E : Value → Shared → Prop} {s : Shared} {h₀ : Heap} {L : Addr} {m : Str → Option Value} {news : List (Addr × Obj)}
theorem cut_is {value slice : PySem.Expr} {x y : Str} {i : Int} {ui t : Tok} {Q : Value → Shared → Prop} (e : Txt.slice x (some i) none = y) (hl : x.length ≤ 100) (F : Fr h₀ L s.heap m) (N : News h₀ L s.heap news) (h : ∀ h' t' k, Fr h₀ L h' m → News h₀ L h' news → Q (.str y t') { s with heap := h', toks := k })
    (hs : subscripted slice false (.str x t) (.ref s.heap.objs.size) = operate [.ref s.heap.objs.size, .str x t] (getItem (.str x t) (.ref s.heap.objs.size)) := by with_unfolding_all rfl)
    (ht : ∀ r, letTemporaryGo value (.str x t) r = pure () := by intro _; with_unfolding_all rfl) :
    wpAny (model prog w) A (subscriptTail value slice (.str x t) (.ref s.heap.objs.size)) Q E { s with heap := s.heap.push { cls := .type "slice", data := .fields #[.int i ui, .none, .none] } } := by
  subst e
  exact slice_strN_sn_len F N (fun h' t' k a b _ => h h' t' k a b) hs ht (Nat.le_trans hl (by decide))
end
theorem suL_mem {P : Item → Prop} (hd : P (Value.none, 0, 0) ∨ True) : ∀ (f pos : Nat) (xs : List Item), (∀ x ∈ xs, P x) → ∀ x ∈ (suL f pos xs).2, P x
  | 0, _, xs, h, x, hx => h x hx
  | f + 1, pos, xs, h, x, hx => by
    simp only [suL] at hx
    have setP : ∀ (i j : Nat), j < xs.length → ∀ z ∈ xs.set i (gtI xs j), P z := fun i j hj z hz => by
      rcases List.mem_or_eq_of_mem_set hz with q | q
      · exact h z q
      · rw [q]; exact h _ (List.mem_of_getElem? (gt_get hj))
    split at hx
    · rename_i h1
      split at hx
      · rename_i h2
        exact suL_mem hd f _ _ (setP pos (2 * pos + 2) h2.1) x hx
      · exact suL_mem hd f _ _ (setP pos (2 * pos + 1) h1) x hx
    · exact h x hx
theorem su_mem {P : Item → Prop} {xs : List Item} (h0 : 0 < xs.length) (h : ∀ x ∈ xs, P x) : ∀ x ∈ su xs, P x := by
  unfold su
  have hg : P (gtI xs 0) := h _ (List.mem_of_getElem? (gt_get h0))
  refine sd_mem hg _ _ _ fun y hy => ?_
  rcases List.mem_or_eq_of_mem_set hy with q | q
  · exact suL_mem (.inr trivial) _ _ _ h y q
  · rw [q]; exact hg
theorem pop_mem {P : Item → Prop} {xs : List Item} (h0 : 0 < xs.length) (h : ∀ x ∈ xs, P x) : P (hpop xs).1 ∧ ∀ y ∈ (hpop xs).2, P y := by
  have hlast : P (gtI xs (xs.length - 1)) := h _ (List.mem_of_getElem? (gt_get (by omega)))
  have hd : ∀ y ∈ xs.dropLast, P y := fun y hy => h y (List.mem_of_mem_take (by rw [← List.dropLast_eq_take]; exact hy))
  unfold hpop
  split
  · exact ⟨hlast, fun _ hy => nomatch hy⟩
  · rename_i hne
    refine ⟨hd _ (List.mem_of_getElem? (gt_get (by omega))), su_mem (by rw [List.length_set]; omega) fun y hy => ?_⟩
    rcases List.mem_or_eq_of_mem_set hy with q | q
    · exact hd y q
    · rw [q]; exact hlast
theorem word_cut : ∀ ds ∈ ruleDs, ∀ dd : Bool, Txt.slice (wordT 0 dd ds) (some 2) none = ruleT dd ds ∧ Txt.slice (wordT 1 dd ds) (some 2) none = ruleT dd ds := by decide +kernel
theorem word_rule (num : Int) : ∃ ds : List (Fin 4), ds ∈ ruleDs ∧ rlab num = ds.map sym4 ∧ Txt.slice (wordS num) (some 2) none = ruleT (dotOf num) ds ∧ (wordS num).length ≤ 100 := by
  obtain ⟨ds, h1, h2, h3⟩ := wordS_is num
  have hm := rmany_is num
  have hd : ds ∈ ruleDs := ruleDs_all (by omega) (by omega)
  obtain ⟨hs1, hs2⟩ := sg_is num
  have hs : sgOf num = 0 ∨ sgOf num = 1 := by omega
  refine ⟨ds, hd, h2, ?_, ?_⟩
  · rw [h3]
    rcases hs with e | e <;> rw [e]
    · exact (word_cut ds hd _).1
    · exact (word_cut ds hd _).2
  · have := (word_ok num).q.le
    rw [wordL_is] at this
    exact this
theorem host_is (num : Int) : ∃ hs : List (Fin 4), hs ∈ hostDs ∧ hlab num = hs.map sym4 ∧ Txt.join (Str.ofString ".") (hlab num) = hostT hs := by
  obtain ⟨hs, h1, h2⟩ := lab_digits (num.fdiv 9) (hmany num)
  have hm := hmany_is num
  refine ⟨hs, hostDs_all (by omega) (by omega), h2, ?_⟩
  have h3 : hlab num = hs.map sym4 := h2
  unfold hostT
  rw [h3]
/-- what user_domain_match tells of a host and a rule -/
noncomputable def tells (hs : List (Fin 4)) (num : Int) : Bool := meF ((hs.map sym4).map Txt.lower) (dotOf num) ((rlab num).map Txt.lower)
theorem ruleDs_host {ds : List (Fin 4)} (h : ds ∈ ruleDs) : ds ∈ hostDs := List.mem_append_left _ h
theorem tells_is {hs ds : List (Fin 4)} {num : Int} (hh : hs ∈ hostDs) (hd : ds ∈ ruleDs) (e : rlab num = ds.map sym4) : udB (lowH hs) (lowR (dotOf num) ds) = tells hs num := by
  unfold tells
  rw [e, lab_low hs hh, lab_low ds (ruleDs_host hd)]
  exact agree hs hh ds hd _
end Mine

end
section
open PySem PySem.W PyProof.Rows PySem.Calls PySem.W.X
set_option maxRecDepth 100000
set_option maxHeartbeats 2000000
namespace Mine
/-- what told is after so many pops -/
noncomputable def ToldAt (f : Nat → Bool) (ord : List Nat) (k : Nat) (told : Int) : Prop := (told < 0 → told = -1 ∧ firstOf f (ord.take k) = -1) ∧ (0 ≤ told → told = firstOf f ord)
theorem take_getD {ord : List Nat} {k p : Nat} (hk : k < ord.length) (hp : ord.getD k 0 = p) : ord.take (k + 1) = ord.take k ++ [p] := by
  have : ord[k]? = some p := by
    simp [List.getD, List.getElem?_eq_getElem hk] at hp
    rw [List.getElem?_eq_getElem hk, hp]
  simp [List.take_add_one, this]
theorem told_hit {f : Nat → Bool} {ord : List Nat} {k p : Nat} (hk : k < ord.length) (hp : ord.getD k 0 = p) (h : firstOf f (ord.take k) = -1) (hf : f p = true) : ToldAt f ord (k + 1) (p : Int) := by
  refine ⟨fun q => absurd q (by omega), fun _ => ?_⟩
  rw [← List.take_append_drop (k + 1) ord, take_getD hk hp, List.append_assoc, firstOf_append, h, if_pos (by decide)]
  simp [firstOf, hf]
theorem told_miss {f : Nat → Bool} {ord : List Nat} {k p : Nat} (hk : k < ord.length) (hp : ord.getD k 0 = p) (h : firstOf f (ord.take k) = -1) (hf : f p = false) : ToldAt f ord (k + 1) (-1) := by
  refine ⟨fun _ => ⟨rfl, ?_⟩, fun q => absurd q (by decide)⟩
  rw [take_getD hk hp, firstOf_append, h, if_pos (by decide)]
  simp [firstOf, hf]
theorem dueOf_append (f : Nat → Bool) (m : Nat) (r : List Nat) : ∀ (l : List Nat) (i : Nat) (d : Int), dueOf f m i (l ++ r) d = dueOf f m (i + l.length) r (dueOf f m i l d)
  | [], _, _ => rfl
  | b :: l, i, d => by
    have hn : i + (b :: l).length = i + 1 + l.length := by simp only [List.length_cons]; omega
    rw [hn]
    exact dueOf_append f m r l (i + 1) _
/-- due after so many places -/
noncomputable def dueT (f : Nat → Bool) (m : Nat) (nums : List Int) (i : Nat) (d : Int) : Int := dueOf f m 0 ((nums.take i).map rmany) d
theorem due_step {f : Nat → Bool} {m i : Nat} {nums : List Int} {num : Int} {d : Int} (h : nums[i]? = some num) : dueT f m nums (i + 1) d = if dueT f m nums i d < 0 ∧ rmany num = m ∧ f i = true then (i : Int) else dueT f m nums i d := by
  have hi : i < nums.length := by
    rcases Nat.lt_or_ge i nums.length with q | q
    · exact q
    · rw [List.getElem?_eq_none q] at h; cases h
  unfold dueT
  rw [show nums.take (i + 1) = nums.take i ++ [num] by simp [List.take_add_one, h], List.map_append]
  rw [dueOf_append]
  have hl : 0 + ((nums.take i).map rmany).length = i := by simp; omega
  rw [hl]
  rfl
theorem due_keep {f : Nat → Bool} {m i : Nat} {nums : List Int} {num : Int} {d : Int} (h : nums[i]? = some num) (n : ¬ (dueT f m nums i d < 0 ∧ rmany num = m ∧ f i = true)) : dueT f m nums (i + 1) d = dueT f m nums i d := by
  rw [due_step h, if_neg n]
theorem due_hit {f : Nat → Bool} {m i : Nat} {nums : List Int} {num : Int} {d : Int} (h : nums[i]? = some num) (n : dueT f m nums i d < 0 ∧ rmany num = m ∧ f i = true) : dueT f m nums (i + 1) d = (i : Int) := by
  rw [due_step h, if_pos n]
/-- due after so many turns of the outer loop -/
noncomputable def dueAt (f : Nat → Bool) (nums : List Int) : Nat → Int
  | 0 => -1
  | i + 1 => dueT f (2 - i) nums nums.length (dueAt f nums i)
theorem due_end (f : Nat → Bool) (nums : List Int) : dueAt f nums 2 = firstOf f (order (nums.map rmany)) := by
  rw [← due_order]
  show dueOf f 1 0 ((nums.take nums.length).map rmany) (dueOf f 2 0 ((nums.take nums.length).map rmany) (-1)) = _
  rw [List.take_length]
theorem sym_one : ∀ d : Fin 4, (sym4 d).length ≤ 10 := by decide +kernel
theorem sym_len {ds : List (Fin 4)} {l : List Str} (e : l = ds.map sym4) : ∀ x ∈ l, x.length ≤ 10 := by
  subst e
  intro x hx
  obtain ⟨d, _, rfl⟩ := List.mem_map.mp hx
  exact sym_one d
theorem last_some {l : List Str} (h : 1 ≤ l.length) : ∃ la, (l.map Txt.lower).getLast? = some la := by
  cases q : (l.map Txt.lower).getLast? with
  | some la => exact ⟨la, rfl⟩
  | none =>
    rw [List.getLast?_eq_none_iff] at q
    have := congrArg List.length q
    simp at this
    subst this
    simp at h
theorem hlab_len (num : Int) : 1 ≤ (hlab num).length ∧ (hlab num).length ≤ 3 := by
  have h1 := (lab_sum (num.fdiv 9) (n := hmany num) (hmany_is num).2.2).2
  have h2 := hmany_is num
  have h3 : (hlab num).length = hmany num := h1
  omega
theorem rlab_len (num : Int) : 1 ≤ (rlab num).length ∧ (rlab num).length ≤ 2 := by
  have h1 := (lab_sum (rnum num) (n := rmany num) (Nat.le_trans (rmany_is num).2.2 (by decide))).2
  have h2 := rmany_is num
  have h3 : (rlab num).length = rmany num := h1
  omega
end Mine

end
section
open PySem PySem.W PyProof.Rows PySem.Calls PySem.W.X
set_option maxRecDepth 100000
set_option maxHeartbeats 0
namespace Mine
theorem lab_k {w : World} {pp : Program} {ll : List Str} {mean : ExcName → Option Value} {mg mb : Str → Option Value} {dp un : Nat} {gd : Option (List Code)} {cn : Str} {cs : Scope} {a : Addr} {ccd : Value} {cl : List (Str × Addr)} {outer : List Env} {A₀ : Around} {base h₀ : Heap} {L : Addr} {m : Str → Option Value} {s : Shared} {Q E : Value → Shared → Prop} {num k : Int} {n : Nat} (hk0 : k = (n : Int)) (hn : n ≤ 3) {t1 t2 : Tok} {news : List (Addr × Obj)}
  (B : Below A₀ base outer h₀) (F : Fr h₀ L s.heap m) (X : (Mine.hd.heap_39 w.params).In h₀) (T : Top pp ll mean mg mb h₀) (hk : cs.kind = .function) (N : News h₀ L s.heap news) (hd : dp + 20 < recursionLimit) (hu : un + 120 < cLine)
  (ret : ∀ D h' tk' ys, Fr h₀ L h' m → News h₀ L h' ((D, LCg.lst ys) :: news) → StrsAre ys (labL num n) → LCg.Off1 D news → Q (.ref D) { s with heap := h', toks := tk' }) :
  wpAny (model Challenge.rw_of0095_01.row.prog w) (ktrTop dp un gd cn cs L a ccd cl outer) (call (.ref 811) [.int num t1, .int k t2]) Q E s := by
  subst hk0
  exact lab_c hn B F X T hk N hd hu ret
theorem nums_of {vs : List Value} {ns : List Int} (h : IntsAre vs (List.take 5 ns ++ [0, 14, 13, 60])) : ∃ nums : List Int, nums.length ≤ 9 ∧ 1 ≤ nums.length ∧ IntsAre vs nums ∧ okMs (nums.map rmany) = true := by
  refine ⟨_, ?_, ?_, h, ok_nums ?_⟩
  · simp; omega
  · simp
  · simp; omega
/-- between the turns of the first loop -/
noncomputable def J1 (Ra Ha : Addr) (nums : List Int) (i : Nat) (m : Str → Option Value) (nx : List (Addr × Obj)) : Prop :=
  ∃ rv hv nr nh rest u, nx = (Ra, listOf rv.toArray nr) :: (Ha, listOf hv.toArray nh) :: rest ∧ m = mapOf [(Str.ofString "hosts", .ref Ha), (Str.ofString "rules", .ref Ra)] u ∧ (∀ q ∈ rest, q.1 ≠ Ra) ∧ (∀ q ∈ rest, q.1 ≠ Ha) ∧ @Ne Nat Ra Ha ∧ Each (RuleAt rest) rv (nums.take i) ∧ Each (HostAt rest) hv (nums.take i)
/-- what stands still from here on -/
structure Frz (Z : List (Addr × Obj)) (Ra Ha S : Addr) (rv hv rd : List Value) (nr nh c : Nat) (nums : List Int) : Prop where
  r : (Ra, listOf rv.toArray nr) ∈ Z
  h : (Ha, listOf hv.toArray nh) ∈ Z
  s : (S, listOf rd.toArray c) ∈ Z
  rr : Each (RuleAt Z) rv nums
  hh : Each (HostAt Z) hv nums
  ss : StrsAre rd (nums.map wordS)
  le : nums.length ≤ 9
theorem Frz.mono {Z Z' : List (Addr × Obj)} {Ra Ha S : Addr} {rv hv rd : List Value} {nr nh c : Nat} {nums : List Int} (z : Frz Z Ra Ha S rv hv rd nr nh c nums) (h : ∀ p ∈ Z, p ∈ Z') : Frz Z' Ra Ha S rv hv rd nr nh c nums :=
  ⟨h _ z.r, h _ z.h, h _ z.s, z.rr.mono fun _ _ => RuleAt.mono h, z.hh.mono fun _ _ => HostAt.mono h, z.ss, z.le⟩
noncomputable abbrev lawM (Hp Ra Ha S : Addr) : List (Str × Value) := [(Str.ofString "heap", .ref Hp), (Str.ofString "read", .ref S), (Str.ofString "hosts", .ref Ha), (Str.ofString "rules", .ref Ra)]
/-- the heap after so many pushes, as keys -/
noncomputable def keyOf (num : Int) (i : Nat) : Int × Int := (-((rmany num : Nat) : Int), (i : Int))
/-- between the pushes -/
noncomputable def J2 (Z : List (Addr × Obj)) (Hp Ra Ha S : Addr) (K : Nat → List (Int × Int)) (i : Nat) (m : Str → Option Value) (nx : List (Addr × Obj)) : Prop :=
  ∃ xs n rest u, nx = (Hp, listOf (itV xs).toArray n) :: rest ∧ m = mapOf (lawM Hp Ra Ha S) u ∧ (∀ p ∈ Z, p ∈ rest) ∧ (∀ q ∈ rest, q.1 ≠ Hp) ∧ (∀ x ∈ xs, PairIn rest x) ∧ xs.length = i ∧ xs.map (·.2) = K i
noncomputable def J4 (Z : List (Addr × Obj)) (Hp Ra Ha S : Addr) (_i : Nat) (m : Str → Option Value) (nx : List (Addr × Obj)) : Prop := ∃ u, m = mapOf (lawM Hp Ra Ha S) u ∧ ∀ p ∈ Z, p ∈ nx
noncomputable abbrev whM (told : Int) (t : Tok) (Bx k Hp Ra Ha S : Addr) : List (Str × Value) := (Str.ofString "told", .int told t) :: (Str.ofString "box", .ref Bx) :: (Str.ofString "host", .ref k) :: lawM Hp Ra Ha S
noncomputable def WhP (g : Heap) (L : Addr) (s : Shared) (rest : List (Addr × Obj)) (Bx k Hp Ra Ha S : Addr) (nums : List Int) (f : Nat → Bool) (i : Nat) (s' : Shared) : Prop :=
  ∃ h tk told t u n ys, s' = { s with heap := h, toks := tk } ∧ Fr g L h (mapOf (whM told t Bx k Hp Ra Ha S) u) ∧ News g L h ((Bx, listOf (itV ys).toArray n) :: rest) ∧ (∀ y ∈ ys, PairIn rest y) ∧ kys ys = kpops i (keys nums) ∧ i ≤ nums.length ∧ ToldAt f (order (nums.map rmany)) i told
/-- where the while ends -/
noncomputable def WhQ (g : Heap) (L : Addr) (s : Shared) (rest : List (Addr × Obj)) (Bx k Hp Ra Ha S : Addr) (nums : List Int) (f : Nat → Bool) (fl : Flow) (s' : Shared) : Prop :=
  fl = .next ∧ ∃ h tk t u, s' = { s with heap := h, toks := tk } ∧ Fr g L h (mapOf (whM (firstOf f (order (nums.map rmany))) t Bx k Hp Ra Ha S) u) ∧ News g L h rest
noncomputable abbrev duM (told : Int) (t : Tok) (k Hp Ra Ha S : Addr) (due : Int) (td : Tok) : List (Str × Value) := (Str.ofString "due", .int due td) :: (Str.ofString "told", .int told t) :: (Str.ofString "host", .ref k) :: lawM Hp Ra Ha S
/-- between the turns of the loops that look for due -/
noncomputable def JD (R : List (Addr × Obj)) (M : Int → Tok → List (Str × Value)) (due : Nat → Int) (i : Nat) (m : Str → Option Value) (nx : List (Addr × Obj)) : Prop := ∃ td u, m = mapOf (M (due i) td) u ∧ ∀ p ∈ R, p ∈ nx
theorem nei_same {prog : Program} {w : World} {A : Around} {E : Value → Shared → Prop} {s : Shared} {a : Int} {t u : Tok} {Q : Value → Shared → Prop} (h : Q (.bool false) s) : wpAny (model prog w) A (compareOp .NotEq (.int a t) (.int a u)) Q E s := nei_ways (fun e => absurd rfl e) fun _ => h
theorem many_at {i : Nat} {v : Value} {t1 t2 : Tok} (h : [Value.int 2 t1, Value.int 1 t2][i]? = some v) : i < 2 ∧ ∃ tm, v = .int ((2 - i : Nat) : Int) tm := by
  match i, h with
  | 0, e => simp at e; exact ⟨by decide, _, e.symm⟩
  | 1, e => simp at e; exact ⟨by decide, _, e.symm⟩
  | i + 2, e => simp at e
theorem map_is {m : Str → Option Value} (l : List (Str × Value)) (hl : ∀ p ∈ l, m p.1 = some p.2) : m = mapOf l m := by
  funext z
  unfold mapOf
  cases q : l.lookup z with
  | none => rfl
  | some v => exact hl _ (lookup_mem q)
theorem allLt_mem {d : Nat} : ∀ {l : List (Addr × Obj)}, AllLt d l → ∀ p ∈ l, p.1 < d
  | [], _, _, h => nomatch h
  | _ :: _, x, p, h => by
    rcases List.mem_cons.mp h with rfl | h
    · exact x.1
    · exact allLt_mem x.2 p h
theorem take_snoc {nums : List Int} {i : Nat} {n : Int} (h : nums[i]? = some n) : nums.take (i + 1) = nums.take i ++ [n] := by
  simp [List.take_add_one, h]
section
local macro_rules | `(tactic| k_all) => `(tactic| assumption)
local macro_rules | `(tactic| k_mem) => `(tactic| assumption)
local macro_rules | `(tactic| walk_at "pyIter ref") => `(tactic| refine hold ?_)
local macro_rules | `(tactic| walk_at "InvPostG") => `(tactic| refine hold ?_)
local macro_rules | `(tactic| walk_at "InvEndG") => `(tactic| refine hold ?_)
local macro_rules | `(tactic| walk_at "exec If") => `(tactic| refine wpAny_If ?_)
local macro_rules | `(tactic| walk_at "exec Assign cons ListComp") => `(tactic| refine hold ?_)
local macro_rules | `(tactic| walk_at "newTuple") => `(tactic| (k_here; k_dflt (refine' tup_new ?a ?b ?c ?_; (case a => k_asm); (case b => k_asm); (case c => decide)); intro d' h' F' N' l1; (try k_lt l1); (try k_sweep)))
local macro_rules | `(tactic| walk_at "call builtin:list.append") => `(tactic| (k_here; k_dflt ((with_reducible show wpAny _ _ (call (Value.builtin "list.append") [Value.ref _, _]) _ _ _); refine' app_u ?a ?b ?c ?d ?_; (case a => k_asm); (case b => k_asm); (case c => k_upd); (case d => omega)); intro h' F' N'; (try k_sweep)))
local macro_rules | `(tactic| walk_at "CompSrc") => `(tactic| refine hold ?_)
local macro_rules | `(tactic| walk_at "exec For") => `(tactic| (k_here; (rename Fr _ _ _ _ => lF'); (with_unfolding_all refine' For_invVF lF' ?k1 ?k2 ?_; (case k1 => exact rfl); (case k2 => exact rfl))))
local macro_rules | `(tactic| walk_at "exec While") => `(tactic| refine hold ?_)
local macro_rules | `(tactic| walk_at "WhQ") => `(tactic| refine hold ?_)
local macro_rules | `(tactic| walk_at "LpRest") => `(tactic| refine hold ?_)
local macro_rules | `(tactic| walk_at "LpPost") => `(tactic| (dsimp only [LpPost]))
local macro_rules | `(tactic| walk_at "compareOp NotEq ref ref") => `(tactic| (k_here; k_dflt (refine' ne_nil ?a ?b ?c ?e (fun hw' => ?_) (fun hw' => ?_); (case a => k_asm); (case b => k_mem); (case c => k_mem); (case e => (have hcL9 := cLine_is; (try simp only [units_in1, units_deeper, Around.mark_units, units_caller]); (try dsimp only [ktrTop]); omega)))))
local macro_rules | `(tactic| walk_at "compareOp Lt int int") => `(tactic| (refine lt_neg (fun hw' => ?_) (fun hw' => ?_)))
local macro_rules | `(tactic| walk_at "compareOp NotEq ref ref") => `(tactic| (k_here; k_dflt (refine' ne_same ?a ?b ?c ?d ?e ?_; (case a => exact News.isList (by k_asm) (by k_mem)); (case b => exact News.isList (by k_asm) (by k_mem)); (case c => with_reducible assumption); (case d => with_reducible assumption); (case e => (have hcL9 := cLine_is; (try simp only [units_in1, units_deeper, Around.mark_units, units_caller]); (try dsimp only [ktrTop]); omega)))))
local macro_rules | `(tactic| walk_at "call builtin:len") => `(tactic| (k_here; k_dflt ((with_reducible show wpAny _ _ (call (Value.builtin "len") [Value.ref _]) _ _ _); refine' len_is ?a ?b ?c ?d ?_; (case a => k_asm); (case b => k_mem); (case c => with_reducible assumption); (case d => omega)); intro t' tk'; (try dsimp only)))
local macro_rules | `(tactic| walk_at "TurnQ") => `(tactic| refine hold ?_)
local macro_rules | `(tactic| walk_at "subscriptTail") => `(tactic| (k_here; k_dflt ((with_reducible show wpAny _ _ (subscriptTail _ _ (Value.str _ _) (Value.int _ _)) _ _ _); refine' sitem_is ?a ?b ?c ?d ?_ ?e ?f; (case a => with_reducible assumption); (case b => with_reducible assumption); (case c => with_reducible assumption); (case d => decide); (case e => with_unfolding_all rfl); (case f => intro _; with_unfolding_all rfl)); intro t' tk'; (try dsimp only)))
local macro_rules | `(tactic| walk_at "subscriptTail") => `(tactic| (k_here; k_dflt (first
  | ((with_reducible show wpAny _ _ (subscriptTail _ _ (Value.ref _) (Value.int 0 _)) _ _ _); refine' tripT_0 ?a ?b ?_ ?e; (case a => k_asm); (case b => k_mem); (case e => with_unfolding_all rfl))
  | ((with_reducible show wpAny _ _ (subscriptTail _ _ (Value.ref _) (Value.int 1 _)) _ _ _); refine' tripT_1 ?a ?b ?_ ?e; (case a => k_asm); (case b => k_mem); (case e => with_unfolding_all rfl))
  | ((with_reducible show wpAny _ _ (subscriptTail _ _ (Value.ref _) (Value.int 2 _)) _ _ _); refine' tripT_2 ?a ?b ?_ ?e; (case a => k_asm); (case b => k_mem); (case e => with_unfolding_all rfl)))))
local macro_rules | `(tactic| walk_at "subscriptTail") => `(tactic| (k_here; k_dflt ((with_reducible show wpAny _ _ (subscriptTail _ _ (Value.ref _) (Value.int 1 _)) _ _ _); refine' pair_1 ?a ?b ?_ ?e; (case a => k_asm); (case b => k_mem); (case e => with_unfolding_all rfl))))
local macro_rules | `(tactic| walk_at "subscriptTail") => `(tactic| (k_here; k_dflt ((with_reducible show wpAny _ _ (subscriptTail _ (PySem.Expr.Slice (some _) none none _) (Value.str _ _) (Value.ref _)) _ _ _); refine' cut_is ?a ?b ?F ?N ?_ ?hs ?ht; (case a => with_reducible assumption); (case b => with_reducible assumption); (case F => k_asm); (case N => k_asm); (case hs => with_unfolding_all rfl); (case ht => intro _; with_unfolding_all rfl)); intro h' t' k' F' N'))
local macro_rules | `(tactic| walk_at "subscriptTail Name Name ref int") => `(tactic| (k_here; k_dflt ((with_reducible show wpAny _ _ (subscriptTail _ _ (Value.ref _) (Value.int (Nat.cast _) _)) _ _ _); refine' lst_item ?a ?b ?c ?d ?_ ?e ?f; (case a => k_asm); (case b => k_mem); (case c => with_reducible assumption); (case d => omega); (case e => with_unfolding_all rfl); (case f => intro _; with_unfolding_all rfl))))
local macro_rules | `(tactic| walk_at "subscriptTail Name Slice ref ref") => `(tactic| (k_here; k_dflt ((with_reducible show wpAny _ _ (subscriptTail _ (PySem.Expr.Slice none none none _) (Value.ref _) (Value.ref _)) _ _ _); refine' lst_copy ?F ?N ?l ?z ?_ ?hs ?ht; (case F => k_asm); (case N => k_asm); (case l => k_mem); (case z => simp only [List.length_map]; omega); (case hs => with_unfolding_all rfl); (case ht => intro _; with_unfolding_all rfl)); intro d' h' F' N' l1; (try k_lt l1)))
local macro_rules | `(tactic| walk_at "subscriptTail Name Constant ref int") => `(tactic| (k_here; k_dflt (first
  | ((with_reducible show wpAny _ _ (subscriptTail _ _ (Value.ref _) (Value.int 0 _)) _ _ _); refine' trip_0 ?a ?b ?_ ?e ?f; (case a => k_asm); (case b => k_mem); (case e => with_unfolding_all rfl); (case f => intro _; with_unfolding_all rfl))
  | ((with_reducible show wpAny _ _ (subscriptTail _ _ (Value.ref _) (Value.int 1 _)) _ _ _); refine' trip_1 ?a ?b ?_ ?e ?f; (case a => k_asm); (case b => k_mem); (case e => with_unfolding_all rfl); (case f => intro _; with_unfolding_all rfl))
  | ((with_reducible show wpAny _ _ (subscriptTail _ _ (Value.ref _) (Value.int 2 _)) _ _ _); refine' trip_2 ?a ?b ?_ ?e ?f; (case a => k_asm); (case b => k_mem); (case e => with_unfolding_all rfl); (case f => intro _; with_unfolding_all rfl)))))
local macro_rules | `(tactic| walk_at "binaryOp Add str str") => `(tactic| (k_here; k_dflt (refine' PyProof.Rows.add_str ?_ ?z; (case z => ((try simp only [Str.length_append]); exact Nat.le_trans (by omega) (by decide : 1000 ≤ sizeLine)))); intro t' tk'; (try dsimp only)))
local macro_rules | `(tactic| walk_at "call builtin:str.join") => `(tactic| (k_here; k_dflt ((with_reducible show wpAny _ _ (call (Value.builtin "str.join") [Value.str _ _, Value.ref _]) _ _ _); refine' join_is ?a ?b ?c ?d ?e ?_; (case a => k_asm); (case b => k_mem); (case c => with_reducible assumption); (case d => with_reducible assumption); (case e => with_reducible assumption)); intro t' tk'; (try dsimp only)))
local macro_rules | `(tactic| walk_at "compareOp Eq int int") => `(tactic| (refine eq_int ?_))
local macro_rules | `(tactic| walk_at "compareOp Eq int int") => `(tactic| (k_here; ((with_reducible show wpAny _ _ (compareOp _ (Value.int (Nat.cast _) _) (Value.int (Nat.cast _) _)) _ _ _); refine eqi_ways (fun hw' => ?_) (fun hw' => ?_))))
local macro_rules | `(tactic| walk_at "compareOp NotEq int int") => `(tactic| (refine nei_same ?_))
local macro_rules | `(tactic| walk_at "call ref") => `(tactic| refine hold ?_)
local macro_rules | `(tactic| walk_at "call ref") => `(tactic| (k_here; k_dflt ((with_reducible show wpAny _ _ (call (Value.ref 811) [Value.int _ _, Value.int _ _]) _ _ _); first
  | refine' lab_k (n := rmany _) (rmany_is _).1 ?b ?k1 ?k2 ?k3 ?k5 ?kK ?k4 ?kd ?ku ?_
  | refine' lab_k (n := hmany _) (hmany_is _).1 ?b ?k1 ?k2 ?k3 ?k5 ?kK ?k4 ?kd ?ku ?_); (case b => first | exact Nat.le_trans (rmany_is _).2.2 (by decide) | exact (hmany_is _).2.2); k_dflt (case k4 => k_asm); k_dflt (case k1 => k_asm); k_dflt (case k2 => k_asm); k_dflt (case k3 => k_asm); k_dflt (case k5 => k_asm); (case kK => exact rfl); (case kd => decide); (case ku => decide); intro d' h' tk' ys' F' N' hS' o1'; (try simp only [LCg.Off1, and_true] at o1'); (try k_sweep)))
theorem law_call {w : World} {pp : Program} {ll : List Str} {mean : ExcName → Option Value} {mg mb : Str → Option Value} {s : Shared} {Q E : Value → Shared → Prop} {sc : Addr} {sv : List Value} {ns : List Int} {P bm : Addr} {ob : Obj}
  (X : (Mine.hd.heap_39 w.params).In s.heap) (T : Top pp ll mean mg mb s.heap) (hIC : s.heap.IsCode 797 P #[]) (hTA : s.heap.TableAt 797 P #[]) (hP : P ≠ cStatics) (M : BMod s.heap mainGlobals mg bm ob) (hg : AllBare s.gens) (hL : s.heap.IsList sc sv.toArray) (hI : IntsAre sv ns) (hns : ns.length ≤ 63)
  (ret : ∀ s', OldK s.heap s'.heap → s'.os = s.os → AllBare s'.gens → Q (.bool true) s') :
  wpAny (model Challenge.rw_of0095_01.row.prog w) callerA (call (.ref 821) [.ref sc]) Q E s := by
  w_top off; revert X; k_fill; intro X
  refine wpAny_call ?_
  k_dflt (refine' code_defN ?k3 ?k5 ?k6 ?k7 ?k8 ?k9 ?kB ?_ ?c2 ?c3 ?c4 ?c5; (case k3 => k_asm); (case k5 => k_asm); (case k6 => k_is); (case k7 => k_is); (case k8 => decide); (case k9 => first | exact BindsTo.of_eq rfl | exact binds_K (by k_in) rfl (by k_is) rfl rfl rfl); (case c5 => decide); (case kB => exact locs rfl); (case c2 => exact rfl); (case c3 => exact rfl); (case c4 => exact rfl))
  intro L' h' F' N'
  have B' := below_caller s.heap
  dsimp only
  try k_fold
  k_steps
  rename_i D vs h5 iL l2 h4 tk9 Ra h3 lA h2 Ha h1 lB h0 F1 N1
  unfold Hold
  obtain ⟨nums, hln, hl1, iN, hok⟩ := nums_of iL
  have hRH : @Ne Nat Ra Ha := by omega
  have N2 : News s.heap L' h0 ((Ra, listOf ([] : List Value).toArray 0) :: (Ha, listOf ([] : List Value).toArray 0) :: [(D, listOf vs.toArray 0)]) := fun p hp => N1 p (by
    simp only [List.mem_cons, List.not_mem_nil, or_false] at hp
    rcases hp with rfl | rfl | rfl
    · exact .tail _ (.head _)
    · exact .head _
    · exact .tail _ (.tail _ (.head _)))
  have hDR : @Ne Nat D Ra := by omega
  have hDH : @Ne Nat D Ha := by omega
  clear N1
  k_dflt (refine' kdl_iter (J1 Ra Ha nums) ?hh1 ?hl1 ?hF1 ?hN1 ?hj1 ?turn1 ?done1)
  case hh1 => rfl
  case hF1 => k_asm
  case hN1 => k_asm
  case hl1 => exact .tail _ (.tail _ (.head _))
  case hj1 =>
    refine ⟨[], [], _, _, _, _, rfl, map_is _ ?_, ?_, ?_, hRH, ?_, ?_⟩
    · exact List.forall_mem_cons.mpr ⟨rfl, List.forall_mem_cons.mpr ⟨rfl, List.forall_mem_nil _⟩⟩
    · exact List.forall_mem_cons.mpr ⟨hDR, List.forall_mem_nil _⟩
    · exact List.forall_mem_cons.mpr ⟨hDH, List.forall_mem_nil _⟩
    · exact .nil
    · exact .nil
  case turn1 =>
    rintro i v m₁ nx h tk own hv hoff hl ⟨rv, hv1, nr, nh, rest, u, rfl, rfl, hneR, hneH, _, hR, hH⟩ F9 N9
    obtain ⟨num, tn, hnum, rfl⟩ := ints_get iN hv
    have hR9 : Each (RuleAt (rest ++ own)) rv (nums.take i) := hR.mono fun _ _ => RuleAt.mono fun _ => List.mem_append_left _
    have hH9 : Each (HostAt (rest ++ own)) hv1 (nums.take i) := hH.mono fun _ _ => HostAt.mono fun _ => List.mem_append_left _
    have hneR9 : ∀ q ∈ rest ++ own, q.1 ≠ Ra := fun q hq => (List.mem_append.mp hq).elim (hneR q) fun ho => hoff q ho Ra (by simp)
    have hneH9 : ∀ q ∈ rest ++ own, q.1 ≠ Ha := fun q hq => (List.mem_append.mp hq).elim (hneH q) fun ho => hoff q ho Ha (by simp)
    have hown9 : ∀ p ∈ own, p ∈ rest ++ own := fun _ => List.mem_append_right _
    have hsub9 : ∀ p ∈ rest, p ∈ rest ++ own := fun _ => List.mem_append_left _
    have N9' : News _ _ h ((Ra, listOf rv.toArray nr) :: (Ha, listOf hv1.toArray nh) :: (rest ++ own)) := N9
    clear N9
    generalize rest ++ own = rest9 at *
    have hq1 := hR.length
    have hq2 := hH.length
    have hq3 : (nums.take i).length ≤ nums.length := by rw [List.length_take]; omega
    have hrl : rv.length ≤ 1000 := by omega
    have hhl : hv1.length ≤ 1000 := by omega
    clear F1 N2
    k_steps
    rename_i hx5 D1 hx4 tkx1 ys1 hS1 o1 Dt hx3 l1 hx2 tkx D2 hx1 tkx2 ys2 hS2 o2 hx0 F8 N8
    unfold Hold
    have hlr : (D, listOf vs.toArray 0) ∈ rest := by
      rcases List.mem_cons.mp hl with q | q
      · exact absurd (congrArg Prod.fst q) hDR
      · rcases List.mem_cons.mp q with q | q
        · exact absurd (congrArg Prod.fst q) hDH
        · exact q
    have N8' : ∃ t, News s.heap L' hx0 ((D2, LCg.lst ys2) :: (Dt, trip (dotOf num) (sgOf num) t D1 0) :: (D1, LCg.lst ys1) :: (Ra, listOf (rv ++ [Value.ref Dt]).toArray (nr + 1)) :: (Ha, listOf (hv1 ++ [Value.ref D2]).toArray (nh + 1)) :: rest9) := ⟨_, N8⟩
    clear N8
    obtain ⟨tT, N8⟩ := N8'
    refine InvEndG.intro (nx := (Ra, listOf (rv ++ [Value.ref Dt]).toArray (nr + 1)) :: (Ha, listOf (hv1 ++ [Value.ref D2]).toArray (nh + 1)) :: (D2, LCg.lst ys2) :: (Dt, trip (dotOf num) (sgOf num) tT D1 0) :: (D1, LCg.lst ys1) :: rest) F8 N8 ⟨.tail _ (.tail _ (.tail _ (.tail _ (.tail _ hlr)))), ?_⟩ ?_ ?_ ?_
    · refine ⟨_, _, _, _, _, _, rfl, map_is _ ?_, ?_, ?_, hRH, ?_, ?_⟩
      · exact List.forall_mem_cons.mpr ⟨rfl, List.forall_mem_cons.mpr ⟨rfl, List.forall_mem_nil _⟩⟩
      · exact List.forall_mem_cons.mpr ⟨by k_ne, List.forall_mem_cons.mpr ⟨by k_ne, List.forall_mem_cons.mpr ⟨by k_ne, hneR⟩⟩⟩
      · exact List.forall_mem_cons.mpr ⟨by k_ne, List.forall_mem_cons.mpr ⟨by k_ne, List.forall_mem_cons.mpr ⟨by k_ne, hneH⟩⟩⟩
      · rw [take_snoc hnum]
        exact Each.snoc ⟨Dt, D1, _, ys1, _, rfl, .tail _ (.head _), .tail _ (.tail _ (.head _)), hS1⟩ (hR.mono fun _ _ => RuleAt.mono fun _ hp => .tail _ (.tail _ (.tail _ hp)))
      · rw [take_snoc hnum]
        exact Each.snoc ⟨D2, ys2, rfl, .head _, hS2⟩ (hH.mono fun _ _ => HostAt.mono fun _ hp => .tail _ (.tail _ (.tail _ hp)))
    · intro p hp b hb
      simp only [List.map_cons, List.mem_cons] at hb
      rcases hb with rfl | rfl | rfl | rfl | rfl | hb
      · exact hneR9 p (hown9 p hp)
      · exact hneH9 p (hown9 p hp)
      · exact off1_mem o2.2.2.2.2 p (hown9 p hp)
      · exact Nat.ne_of_lt (allLt_mem l1.2.2.2 p (hown9 p hp))
      · exact off1_mem o1.2.2 p (hown9 p hp)
      · exact hoff p hp b (by simp only [List.map_cons, List.mem_cons]; exact .inr (.inr hb))
    · intro p hp
      simp only [List.mem_cons] at hp
      rcases hp with rfl | rfl | rfl | rfl | rfl | hp
      · exact .tail _ (.tail _ (.tail _ (.head _)))
      · exact .tail _ (.tail _ (.tail _ (.tail _ (.head _))))
      · exact .head _
      · exact .tail _ (.head _)
      · exact .tail _ (.tail _ (.head _))
      · exact .tail _ (.tail _ (.tail _ (.tail _ (.tail _ (hsub9 p hp)))))
    · exact fun p hp => .tail _ (.tail _ (.tail _ (.tail _ (.tail _ (hown9 p hp)))))
  case done1 =>
    rintro m₁ nx h tk ⟨rv, hv1, nr, nh, rest, u, rfl, rfl, hneR, hneH, _, hR, hH⟩ F9 N9
    have hvl : vs.length = nums.length := IntsAre.length iN
    rw [hvl, List.take_length] at hR hH
    have hrl := hR.length
    clear F1 N2 iN iL
    k_steps
    unfold Hold
    k_dflt (refine LCg.Assign_ListComp_U (F₀ := by k_asm) (by rfl) (by with_unfolding_all rfl) (by rfl) (by decide) (by rfl) (by decide) (by rfl) (by rfl) (by rfl) ?_)
    k_steps
    unfold Hold
    k_dflt (refine LCg.CompSrc.ledger (by rfl) (by k_asm) (by k_asm) (.head _) ?hs2 ?_)
    case hs2 => exact Nat.le_trans (by simp; omega) (by decide : 10 ≤ sizeLine)
    intro g9
    refine comp_all (fun (i : Nat) y => ∃ num t, nums[i]? = some num ∧ y = Value.str (wordS num) t) ?turn2 ?hS2 ?fin2
    case hS2 => exact Or.inr ⟨_, .head _, rfl, _, rfl⟩
    case turn2 =>
      intro i v I oI C oC D oD m₂ h tk E' hi hv9 hC hx9 F8 N8 off ne
      obtain ⟨num, hnum, a, k, t9, lv, n9, rfl, ha, hk, hlv⟩ := hR.get (i := i) (by simpa using hv9)
      obtain ⟨hg1, hg2⟩ := sg_is num
      have hg3 : sgOf num < (Str.ofString "+-").length := hg2
      have hlo := lab_ok (rnum num) (n := rmany num) (Nat.le_trans (rmany_is num).2.2 (by decide))
      have hlj := lab_join (rnum num) (n := rmany num) (Nat.le_trans (rmany_is num).2.2 (by decide))
      obtain ⟨x1, hx1⟩ : ∃ x1, Txt.item (Str.ofString "+-") (sgOf num) = x1 := ⟨_, rfl⟩
      obtain ⟨j1, hj1⟩ : ∃ j1, Txt.join (Str.ofString ".") (rlab num) = j1 := ⟨_, rfl⟩
      have hx1l : x1.length = 1 := by rw [← hx1]; exact len_item _ _
      have hj1l : j1.length ≤ 20 := by rw [← hj1]; exact hlj
      have hsp : (Str.ofString " ").length = 1 := by decide
      have hdt : (Str.ofString ".").length = 1 := by decide
      have hem : (Str.ofString "").length = 0 := by decide
      have hw9 : wordS num = x1 ++ Str.ofString " " ++ (if dotOf num = true then Str.ofString "." else Str.ofString "") ++ j1 := by unfold wordS; rw [hx1, hj1]
      change ((rlab num).map (·.length)).sum + (rlab num).length * (Str.ofString ".").length ≤ 16777216 at hlo
      generalize dotOf num = dd at ha hw9
      cases dd
      all_goals k_steps
      all_goals unfold Hold
      all_goals exact TurnQ.intro (by k_asm) (by k_asm) ⟨num, _, hnum, by rw [hw9]; rfl⟩
    intro ys hl9 hy9
    have hyl : ys.length = nums.length := by simpa [hrl] using hl9
    obtain ⟨htx, hst⟩ := texts_of hyl hy9
    clear hl9 hy9
    k_steps
    unfold Hold
    have hq9 : ∀ l ∈ nums.map wordL, WordOk l := fun l hl => by
      obtain ⟨n, _, rfl⟩ := List.mem_map.mp hl
      exact word_ok n
    rename_i Dw h7 tk7 F7 N7 o7
    k_dflt (refine' join_c (items := ys.toArray) (ls := nums.map wordL) ?w1 htx (fun l hl => (hq9 l hl).q) ?w2 hIC hTA hP M ?w3 ?k1 ?k2 ?k3 ?k5 ?kK ?kd ?ku ?_; (case k1 => k_asm); (case k2 => k_asm); (case k3 => k_asm); (case k5 => k_asm); (case kK => exact rfl); (case kd => decide); (case ku => decide); (case w2 => simp; omega); (case w1 => exact News.isList (by k_asm) (.head _)))
    case w3 => exact hg
    intro s2 ps2 t2 F2 kp2 G2 os2
    have Bs := Based.start hIC hTA hP
    have X2 := in_regF F2 X T.g Bs
    have T2 := top_regF F2 (top_loose T) Bs
    have B2 := below_caller (regrown s.heap P ps2)
    have N2 := news_regrown (ps := ps2) hTA.2 N7 kp2
    clear F7 N7 X T B' M hIC hL hI kp2 htx Bs F9 N9
    k_steps
    unfold Hold
    have hel : (encW (nums.map wordL)).length ≤ 1000 := by
      have h1 := encW_len (nums.map wordL) fun l hl => by
        have := (hq9 l hl).q.le
        simpa [Str.length] using this
      simp only [List.length_map] at h1
      omega
    k_dflt (refine' split_c (x := ⟨(encW (nums.map wordL)).toArray⟩) ?w4 (nums.map wordL) ?w5 ?w6 (fun l hl => (hq9 l hl).g) ?w7 ?k11 ?k12 ?k13 ?k15 ?kK1 ?kd1 ?ku1 ?_; (case k11 => k_asm); (case k12 => k_asm); (case k13 => k_asm); (case k15 => k_asm); (case kK1 => exact rfl); (case kd1 => decide); (case ku1 => decide); (case w6 => simp; omega); (case w7 => exact rfl); (case w4 => simpa [Str.length] using hel))
    case w5 =>
      intro q
      have := congrArg List.length q
      simp at this
      subst this
      simp at hl1
    intro S h3 tk3 acc c F3 kp3 hS3 hn3 T3
    obtain ⟨N3, hS9⟩ := news_split F2 N2 kp3 hS3 hn3
    have hac : acc.size = nums.length := by have := T3.size; simpa using this
    have hst3 := texts_strs T3
    rw [show (S, lstObj acc c) = (S, lstObj acc.toList.toArray c) by simp] at N3
    have hac2 : acc.toList.toArray.size = nums.length := by simpa using hac
    generalize acc.toList = rd at *
    clear F2 N2 kp3 hS3 hn3 T3
    k_steps
    rename_i h8 tk8 Hp h88 l8 h87 F8 N8 t8 tk88 h89 tk89 t81 u81 v81 hrg F9 N9 k9
    unfold Hold
    have Z0 : Frz ((S, lstObj rd.toArray c) :: (Dw, LCg.lst ys) :: (Ra, listOf rv.toArray nr) :: (Ha, listOf hv1.toArray nh) :: rest) Ra Ha S rv hv1 rd nr nh c nums :=
      ⟨.tail _ (.tail _ (.head _)), .tail _ (.tail _ (.tail _ (.head _))), .head _, hR.mono fun _ _ => RuleAt.mono fun _ hp => .tail _ (.tail _ (.tail _ (.tail _ hp))), hH.mono fun _ _ => HostAt.mono fun _ hp => .tail _ (.tail _ (.tail _ (.tail _ hp))), hst3, hln⟩
    have hZH : ∀ q ∈ ((S, lstObj rd.toArray c) :: (Dw, LCg.lst ys) :: (Ra, listOf rv.toArray nr) :: (Ha, listOf hv1.toArray nh) :: rest), q.1 ≠ Hp := by
      exact List.forall_mem_cons.mpr ⟨by k_ne, List.forall_mem_cons.mpr ⟨by k_ne, List.forall_mem_cons.mpr ⟨by k_ne, List.forall_mem_cons.mpr ⟨by k_ne, fun q hq => Nat.ne_of_lt (allLt_mem l8.2.2.2.2 q hq)⟩⟩⟩⟩
    have N9' : News (regrown s.heap P ps2) L' h89 ((Hp, listOf (itV []).toArray 0) :: (S, lstObj rd.toArray c) :: (Dw, LCg.lst ys) :: (Ra, listOf rv.toArray nr) :: (Ha, listOf hv1.toArray nh) :: rest) := N9
    generalize ((S, lstObj rd.toArray c) :: (Dw, LCg.lst ys) :: (Ra, listOf rv.toArray nr) :: (Ha, listOf hv1.toArray nh) :: rest) = Z at Z0 hZH N9'
    clear N9 N8 F8 hR hH hst hst3 hS9 o7
    have hno : nums.length ≤ 1000 := by omega
    k_dflt (refine' rng_iter (J2 Z Hp Ra Ha S (fun i => keys (nums.take i))) ?hh3 hrg rfl hno ?hF3 ?hN3 ?hj3 ?turn3 ?done3)
    case hh3 => rfl
    case hF3 => k_asm
    case hN3 => k_asm
    case hj3 =>
      exact ⟨[], _, _, _, rfl, map_is _ (List.forall_mem_cons.mpr ⟨rfl, List.forall_mem_cons.mpr ⟨rfl, List.forall_mem_cons.mpr ⟨rfl, List.forall_mem_cons.mpr ⟨rfl, List.forall_mem_nil _⟩⟩⟩⟩), (fun _ h => h), hZH, (fun _ h => nomatch h), rfl, rfl⟩
    case turn3 =>
      rintro i ti m₁ nx h tk own hi hoff ⟨xs, n, rest, u, rfl, rfl, hZr, hne, hpx, hxl, hxk⟩ F8 N8
      have hvl := Z0.rr.length
      obtain ⟨v9, hv9⟩ : ∃ v, rv[i]? = some v := ⟨_, List.getElem?_eq_getElem (by omega)⟩
      obtain ⟨num, hnum, a, k, t9, lv, n9, rfl, ha, hk, hlv⟩ := Z0.rr.get hv9
      have hsz : lv.toArray.size = rmany num := by
        have h1 := StrsAre.length hlv
        have h2 := (lab_sum (rnum num) (n := rmany num) (Nat.le_trans (rmany_is num).2.2 (by decide))).2
        have h3 : (rlab num).length = rmany num := h2
        rw [List.size_toArray]; omega
      have hrm := (rmany_is num).2.2
      have hZo : ∀ p ∈ Z, p ∈ rest ++ own := fun p hp => List.mem_append_left _ (hZr p hp)
      have ha9 := hZo _ ha
      have hk9 := hZo _ hk
      have hr9 := hZo _ Z0.r
      have hneO : ∀ q ∈ rest ++ own, q.1 ≠ Hp := fun q hq => (List.mem_append.mp hq).elim (hne q) fun ho => hoff q ho Hp (by simp)
      have hpxO : ∀ x ∈ xs, PairIn (rest ++ own) x := fun x hx => let ⟨b, t, u, n, e, hm⟩ := hpx x hx; ⟨b, t, u, n, e, List.mem_append_left _ hm⟩
      have hownO : ∀ p ∈ own, p ∈ rest ++ own := fun _ => List.mem_append_right _
      have hsubO : ∀ p ∈ rest, p ∈ rest ++ own := fun _ => List.mem_append_left _
      have N8' : News (regrown s.heap P ps2) L' h ((Hp, listOf (itV xs).toArray n) :: (rest ++ own)) := N8
      clear N8 N9' F9
      generalize rest ++ own = rest9 at *
      k_steps
      rename_i Dp hq F7 N7 l7
      unfold Hold
      have N7' : ∃ t u, News (regrown s.heap P ps2) L' hq ((Hp, listOf (itV xs).toArray n) :: (Dp, pairObj (-((rmany num : Nat) : Int)) t (i : Int) u 0) :: rest9) := ⟨_, _, fun p hp => N7 p (by
        rcases List.mem_cons.mp hp with rfl | hp
        · exact .tail _ (.head _)
        · rcases List.mem_cons.mp hp with rfl | hp
          · exact .head _
          · exact .tail _ (.tail _ hp))⟩
      clear N7
      obtain ⟨tp, up, N7⟩ := N7'
      have hDp : Dp ≠ Hp := Nat.ne_of_gt l7.1
      k_dflt (refine' push_c (x := (Value.ref Dp, -((rmany num : Nat) : Int), (i : Int))) ?p1 ?p2 ?p3 ?p4 ?k21 ?k22 ?k23 ?k25 ?kK2 ?k24 ?kd2 ?ku2 ?_; (case k24 => k_asm); (case k21 => k_asm); (case k22 => k_asm); (case k23 => k_asm); (case k25 => k_asm); (case kK2 => exact rfl); (case kd2 => decide); (case ku2 => decide); (case p4 => omega))
      case p1 => exact List.forall_mem_cons.mpr ⟨hDp, hneO⟩
      case p2 => exact fun x hx => let ⟨b, t, u, n, e, hm⟩ := hpxO x hx; ⟨b, t, u, n, e, .tail _ hm⟩
      case p3 => exact ⟨Dp, tp, up, 0, rfl, .head _⟩
      intro h6 tk6 F6 N6
      clear F7 N7
      k_steps
      unfold Hold
      rename_i F5 N5
      refine InvEndG.intro (nx := (Hp, listOf (itV (hpush xs (Value.ref Dp, -((rmany num : Nat) : Int), (i : Int)))).toArray (n + 1)) :: (Dp, pairObj (-((rmany num : Nat) : Int)) tp (i : Int) up 0) :: rest) (by k_asm) (by k_asm) ?_ ?_ ?_ ?_
      · refine ⟨_, _, _, _, rfl, map_is _ ?_, fun p hp => .tail _ (hZr p hp), List.forall_mem_cons.mpr ⟨hDp, hne⟩, ?_, ?_, ?_⟩
        · exact List.forall_mem_cons.mpr ⟨rfl, List.forall_mem_cons.mpr ⟨rfl, List.forall_mem_cons.mpr ⟨rfl, List.forall_mem_cons.mpr ⟨rfl, List.forall_mem_nil _⟩⟩⟩⟩
        · exact push_mem (fun x hx => let ⟨b, t, u, n, e, hm⟩ := hpx x hx; ⟨b, t, u, n, e, .tail _ hm⟩) ⟨Dp, tp, up, 0, rfl, .head _⟩
        · rw [push_len, hxl]
        · show kys _ = keys (nums.take (i + 1))
          rw [push_keys, take_snoc hnum, keys_snoc]
          have hti : (nums.take i).length = i := by rw [List.length_take]; omega
          rw [hti]
          congr 1
      · intro p hp b hb
        simp only [List.map_cons, List.mem_cons] at hb
        rcases hb with rfl | rfl | hb
        · exact hneO p (hownO p hp)
        · exact Nat.ne_of_lt (allLt_mem l7.2 p (hownO p hp))
        · exact hoff p hp b (by simp only [List.map_cons, List.mem_cons]; exact .inr hb)
      · intro p hp
        rcases List.mem_cons.mp hp with rfl | hp
        · exact .head _
        · rcases List.mem_cons.mp hp with rfl | hp
          · exact .tail _ (.head _)
          · exact .tail _ (.tail _ (hsubO p hp))
      · exact fun p hp => .tail _ (.tail _ (hownO p hp))
    case done3 =>
      rintro m₁ nx h tk ⟨xs, n, rest, u, rfl, rfl, hZr, hne, hpx, hxl, hxk⟩ F8 N8
      have Zr := Z0.mono hZr
      have hxk2 : kys xs = keys nums := by simpa using hxk
      clear Z0 hZr hZH N9' F9 hxk
      k_steps
      unfold Hold
      have Z4 : Frz ((Hp, listOf (itV xs).toArray n) :: rest) Ra Ha S rv hv1 rd nr nh c nums := Zr.mono fun _ hp => .tail _ hp
      have hpx4 : ∀ x ∈ xs, PairIn ((Hp, listOf (itV xs).toArray n) :: rest) x := fun x hx => let ⟨b, t, u, n, e, hm⟩ := hpx x hx; ⟨b, t, u, n, e, .tail _ hm⟩
      have hHp : (Hp, listOf (itV xs).toArray n) ∈ (Hp, listOf (itV xs).toArray n) :: rest := .head _
      clear Zr hpx hne
      generalize ((Hp, listOf (itV xs).toArray n) :: rest) = Z at *
      k_dflt (refine' kdl_iter (J4 Z Hp Ra Ha S) ?hh4 ?hl4 ?hF4 ?hN4 ?hj4 ?turn4 ?done4)
      case hh4 => rfl
      case hF4 => k_asm
      case hN4 => k_asm
      case hl4 => exact Z4.h
      case hj4 => exact ⟨_, rfl, fun _ h => h⟩
      case turn4 =>
        rintro i v m₁ nx h tk own hv hoff hl ⟨u4, rfl, hZ4⟩ F9 N9
        obtain ⟨num, hnum, k, lv, rfl, hk, hlv⟩ := Z4.hh.get hv
        have Z9 : Frz (nx ++ own) Ra Ha S rv hv1 rd nr nh c nums := Z4.mono fun p hp => List.mem_append_left _ (hZ4 p hp)
        have hpx9 : ∀ x ∈ xs, PairIn (nx ++ own) x := fun x hx => let ⟨b, t, u, n, e, hm⟩ := hpx4 x hx; ⟨b, t, u, n, e, List.mem_append_left _ (hZ4 _ hm)⟩
        have hHp9 : (Hp, listOf (itV xs).toArray n) ∈ nx ++ own := List.mem_append_left _ (hZ4 _ hHp)
        have hk9 : (k, LCg.lst lv) ∈ nx ++ own := List.mem_append_left _ (hZ4 _ hk)
        have hownO : ∀ p ∈ own, p ∈ nx ++ own := fun _ => List.mem_append_right _
        have hsubO : ∀ p ∈ nx, p ∈ nx ++ own := fun _ => List.mem_append_left _
        generalize nx ++ own = rest9 at *
        k_steps
        rename_i Bx hx FX NX l1 hA hB F7 N7
        unfold Hold
        obtain ⟨hs, hhs, hhl, hht⟩ := host_is num
        have hneB : ∀ q ∈ rest9, q.1 ≠ Bx := fun q hq => Nat.ne_of_lt (l1 q hq)
        have F7' : ∃ t, Fr (regrown s.heap P ps2) L' hB (fun y => if y = Str.ofString "told" then some (Value.int (-1) t) else if y = Str.ofString "box" then some (Value.ref Bx) else if y = Str.ofString "host" then some (Value.ref k) else mapOf (lawM Hp Ra Ha S) u4 y) := ⟨_, F7⟩
        clear F7
        obtain ⟨tw, F7⟩ := F7'
        refine wpAny_mono (Q := WhQ (regrown s.heap P ps2) L' s2 rest9 Bx k Hp Ra Ha S nums (fun p => tells hs (nums.getD p 0))) (lp_start ?w5) (fun f s' q => ?after5) (fun _ _ z => z)
        case after5 =>
          obtain ⟨rfl, h6, tk6, t6, u6, rfl, F6, N6⟩ := q
          clear F7 N7
          k_steps
          rename_i hC6 l6 hD6 F8 N8 ll6
          unfold Hold
          have F8' : ∃ td, Fr (regrown s.heap P ps2) L' hD6 (fun y => if y = Str.ofString "due" then some (Value.int (-1) td) else mapOf (whM (firstOf (fun p => tells hs (nums.getD p 0)) (order (nums.map rmany))) t6 Bx k Hp Ra Ha S) u6 y) := ⟨_, F8⟩
          clear F8
          obtain ⟨td6, F8⟩ := F8'
          have N8' : ∃ ta tb, News (regrown s.heap P ps2) L' hD6 ((l6, listOf [Value.int 2 ta, Value.int 1 tb].toArray 0) :: rest9) := ⟨_, _, N8⟩
          clear N8
          obtain ⟨ta6, tb6, N8⟩ := N8'
          have hlz := StrsAre.length hlv
          have hll := hlab_len num
          obtain ⟨la, hla⟩ := last_some hll.1
          have hrl := Z9.rr.length
          have hrz : rv.toArray.size = nums.length := by rw [List.size_toArray]; exact hrl
          have hno : nums.length ≤ 1000 := by omega
          generalize hfo : firstOf (fun p => tells hs (nums.getD p 0)) (order (nums.map rmany)) = fo at F8
          rw [← due_end] at hfo
          generalize hf9 : (fun p => tells hs (nums.getD p 0)) = f9 at hfo
          k_dflt (refine' kdl_iter (JD rest9 (duM fo t6 k Hp Ra Ha S) (dueAt f9 nums)) ?hh6 ?hl6 ?hF6 ?hN6 ?hj6 ?turn6 ?done6)
          case hh6 => rfl
          case hF6 => k_asm
          case hN6 => k_asm
          case hl6 => exact .head _
          case hj6 => exact ⟨td6, _, map_is _ (List.forall_mem_cons.mpr ⟨rfl, List.forall_mem_cons.mpr ⟨rfl, List.forall_mem_cons.mpr ⟨rfl, List.forall_mem_cons.mpr ⟨rfl, List.forall_mem_cons.mpr ⟨rfl, List.forall_mem_cons.mpr ⟨rfl, List.forall_mem_cons.mpr ⟨rfl, List.forall_mem_nil _⟩⟩⟩⟩⟩⟩⟩), fun p hp => .tail _ hp⟩
          case turn6 =>
            rintro i6 v6 m₁ nx6 h7 tk7 own6 hv6 hoff6 hl6 ⟨td, u7, rfl, hR6⟩ F7 N7
            obtain ⟨hi6, tm, rfl⟩ := many_at hv6
            have Z10 : Frz (nx6 ++ own6) Ra Ha S rv hv1 rd nr nh c nums := Z9.mono fun p hp => List.mem_append_left _ (hR6 p hp)
            have hk10 : (k, LCg.lst lv) ∈ nx6 ++ own6 := List.mem_append_left _ (hR6 _ hk9)
            have hR10 : ∀ p ∈ rest9, p ∈ nx6 ++ own6 := fun p hp => List.mem_append_left _ (hR6 p hp)
            have hown6 : ∀ p ∈ own6, p ∈ nx6 ++ own6 := fun _ => List.mem_append_right _
            have hsub6 : ∀ p ∈ nx6, p ∈ nx6 ++ own6 := fun _ => List.mem_append_left _
            have hr10 := Z10.r
            clear F8 N8
            generalize nx6 ++ own6 = rest10 at *
            generalize hmn : 2 - i6 = mn at *
            generalize hd0 : dueAt f9 nums i6 = d0 at *
            k_steps
            rename_i N7 F7 tR7 tkR7 hR7x tkS7 tA7 uA7 vA7 hrg7 F8 N8 kR7
            clear F7 N7
            unfold Hold
            k_dflt (refine' rng_iter (JD rest10 (fun d td => (Str.ofString "many", .int (mn : Int) tm) :: duM fo t6 k Hp Ra Ha S d td) (fun i => dueT f9 mn nums i d0)) ?hh7 hrg7 rfl hno ?hF7 ?hN7 ?hj7 ?turn7 ?done7)
            case hh7 => rfl
            case hF7 => k_asm
            case hN7 => k_asm
            case hj7 => exact ⟨td, _, map_is _ (List.forall_mem_cons.mpr ⟨rfl, List.forall_mem_cons.mpr ⟨rfl, List.forall_mem_cons.mpr ⟨rfl, List.forall_mem_cons.mpr ⟨rfl, List.forall_mem_cons.mpr ⟨rfl, List.forall_mem_cons.mpr ⟨rfl, List.forall_mem_cons.mpr ⟨rfl, List.forall_mem_cons.mpr ⟨rfl, List.forall_mem_nil _⟩⟩⟩⟩⟩⟩⟩⟩), fun p hp => hp⟩
            case turn7 =>
              rintro i7 t7 m₂ nx7 h8 tk8 own7 hi7 hoff7 ⟨td7, u8, rfl, hR7⟩ F9 N9
              obtain ⟨v7, hv7⟩ : ∃ v, rv[i7]? = some v := ⟨_, List.getElem?_eq_getElem (by omega)⟩
              obtain ⟨np, hnp, a7, k7, t9, lv7, n9, rfl, ha7, hk7, hlv7⟩ := Z10.rr.get hv7
              have hlz7 := StrsAre.length hlv7
              have hll7 := rlab_len np
              have hrm7 : (rlab np).length = rmany np := (lab_sum (rnum np) (n := rmany np) (Nat.le_trans (rmany_is np).2.2 (by decide))).2
              have hsz7 : lv7.toArray.size = rmany np := by rw [List.size_toArray]; omega
              have hrm := (rmany_is np).2.2
              have hfp : f9 i7 = tells hs np := by rw [← hf9]; simp [List.getD, hnp]
              have hZo : ∀ p ∈ rest10, p ∈ nx7 ++ own7 := fun p hp => List.mem_append_left _ (hR7 p hp)
              have ha9 := hZo _ ha7
              have hk9 := hZo _ hk7
              have hr9 := hZo _ Z10.r
              have hk11 := hZo _ hk10
              have hown7 : ∀ p ∈ own7, p ∈ nx7 ++ own7 := fun _ => List.mem_append_right _
              have hsub7 : ∀ p ∈ nx7, p ∈ nx7 ++ own7 := fun _ => List.mem_append_left _
              have hi7k : i7 ≤ 1000 := by omega
              clear F8 N8
              generalize nx7 ++ own7 = rest11 at *
              dsimp only at F9
              generalize hdu : dueT f9 mn nums i7 d0 = du at *
              k_steps
              · unfold Hold
                obtain ⟨lb, hlb⟩ := last_some hll7.1
                obtain ⟨ds7, _, hdl7, _, _⟩ := word_rule np
                k_dflt (refine' me_c hk11 hk9 hlv hlv7 ?q71 ?q72 (sym_len hhl) (sym_len hdl7) hla hlb ?k51 ?k52 ?k53 ?k55 ?kK5 ?k54 ?kd5 ?ku5 ?_; (case k54 => k_asm); (case k51 => k_asm); (case k52 => k_asm); (case k53 => k_asm); (case k55 => k_asm); (case kK5 => exact rfl); (case kd5 => decide); (case ku5 => decide); (case q71 => omega); (case q72 => omega))
                intro h10 tk10 b10 F10 N10 hb10
                have hf7 : f9 i7 = b10 := by rw [hfp, hb10]; unfold tells; rw [hhl]
                clear F9 N9 hb10
                cases b10
                · k_steps
                  unfold Hold
                  refine InvEndG.intro (nx := nx7) (by k_asm) (by k_asm) ⟨td7, _, map_is _ ?rowsA, hR7⟩ hoff7 hsub7 hown7
                  case rowsA =>
                    dsimp only
                    rw [due_keep hnp (by rw [hf7]; simp), hdu]
                    exact List.forall_mem_cons.mpr ⟨rfl, List.forall_mem_cons.mpr ⟨rfl, List.forall_mem_cons.mpr ⟨rfl, List.forall_mem_cons.mpr ⟨rfl, List.forall_mem_cons.mpr ⟨rfl, List.forall_mem_cons.mpr ⟨rfl, List.forall_mem_cons.mpr ⟨rfl, List.forall_mem_cons.mpr ⟨rfl, List.forall_mem_nil _⟩⟩⟩⟩⟩⟩⟩⟩
                · k_steps
                  unfold Hold
                  refine InvEndG.intro (nx := nx7) (by k_asm) (by k_asm) ⟨t7, _, map_is _ ?rowsB, hR7⟩ hoff7 hsub7 hown7
                  case rowsB =>
                    dsimp only
                    rw [due_hit hnp ⟨by rw [hdu]; assumption, by omega, hf7⟩]
                    exact List.forall_mem_cons.mpr ⟨rfl, List.forall_mem_cons.mpr ⟨rfl, List.forall_mem_cons.mpr ⟨rfl, List.forall_mem_cons.mpr ⟨rfl, List.forall_mem_cons.mpr ⟨rfl, List.forall_mem_cons.mpr ⟨rfl, List.forall_mem_cons.mpr ⟨rfl, List.forall_mem_cons.mpr ⟨rfl, List.forall_mem_nil _⟩⟩⟩⟩⟩⟩⟩⟩
              · unfold Hold
                refine InvEndG.intro (nx := nx7) (by k_asm) (by k_asm) ⟨td7, _, map_is _ ?rowsC, hR7⟩ hoff7 hsub7 hown7
                case rowsC =>
                  dsimp only
                  rw [due_keep hnp (by omega), hdu]
                  exact List.forall_mem_cons.mpr ⟨rfl, List.forall_mem_cons.mpr ⟨rfl, List.forall_mem_cons.mpr ⟨rfl, List.forall_mem_cons.mpr ⟨rfl, List.forall_mem_cons.mpr ⟨rfl, List.forall_mem_cons.mpr ⟨rfl, List.forall_mem_cons.mpr ⟨rfl, List.forall_mem_cons.mpr ⟨rfl, List.forall_mem_nil _⟩⟩⟩⟩⟩⟩⟩⟩
              · unfold Hold
                refine InvEndG.intro (nx := nx7) (by k_asm) (by k_asm) ⟨td7, _, map_is _ ?rowsD, hR7⟩ hoff7 hsub7 hown7
                case rowsD =>
                  dsimp only
                  rw [due_keep hnp (by omega), hdu]
                  exact List.forall_mem_cons.mpr ⟨rfl, List.forall_mem_cons.mpr ⟨rfl, List.forall_mem_cons.mpr ⟨rfl, List.forall_mem_cons.mpr ⟨rfl, List.forall_mem_cons.mpr ⟨rfl, List.forall_mem_cons.mpr ⟨rfl, List.forall_mem_cons.mpr ⟨rfl, List.forall_mem_cons.mpr ⟨rfl, List.forall_mem_nil _⟩⟩⟩⟩⟩⟩⟩⟩
            case done7 =>
              rintro m₂ nx7 h8 tk8 ⟨td7, u8, rfl, hR7⟩ F9 N9
              k_steps
              unfold Hold
              refine InvEndG.intro (nx := nx6) (by k_asm) (by k_asm) ⟨hl6, td7, _, map_is _ ?rowsE, hR6⟩ hoff6 (fun p hp => hR7 p (hsub6 p hp)) (fun p hp => hR7 p (hown6 p hp))
              case rowsE =>
                dsimp only [dueAt]
                rw [hmn, hd0]
                exact List.forall_mem_cons.mpr ⟨rfl, List.forall_mem_cons.mpr ⟨rfl, List.forall_mem_cons.mpr ⟨rfl, List.forall_mem_cons.mpr ⟨rfl, List.forall_mem_cons.mpr ⟨rfl, List.forall_mem_cons.mpr ⟨rfl, List.forall_mem_cons.mpr ⟨rfl, List.forall_mem_nil _⟩⟩⟩⟩⟩⟩⟩
          case done6 =>
            rintro m₂ nx6 h7 tk7 ⟨td, u7, rfl, hR6⟩ F7 N7
            have hfo2 : dueAt f9 nums [Value.int 2 ta6, Value.int 1 tb6].length = fo := hfo
            rw [hfo2] at F7
            clear F8 N8
            k_steps
            unfold Hold
            refine InvEndG.intro (nx := nx) (by k_asm) (by k_asm) ⟨hl, _, map_is _ ?rowsF, hZ4⟩ hoff (fun p hp => hR6 p (hsubO p hp)) (fun p hp => hR6 p (hownO p hp))
            case rowsF => exact List.forall_mem_cons.mpr ⟨rfl, List.forall_mem_cons.mpr ⟨rfl, List.forall_mem_cons.mpr ⟨rfl, List.forall_mem_cons.mpr ⟨rfl, List.forall_mem_nil _⟩⟩⟩⟩
        refine' lp_ind (fun c s' => WhP (regrown s.heap P ps2) L' s2 rest9 Bx k Hp Ra Ha S nums (fun p => tells hs (nums.getD p 0)) c s') (fun c => nums.length - c) ?turn5 0 ?start5
        case start5 =>
          refine' ⟨_, _, -1, _, _, _, xs, rfl, fr_map (whM (-1) tw Bx k Hp Ra Ha S) F7 ?rows5, N7, hpx9, hxk2, Nat.zero_le _, fun _ => ⟨rfl, rfl⟩, fun q => absurd q (by decide)⟩
          case rows5 => exact List.forall_mem_cons.mpr ⟨rfl, List.forall_mem_cons.mpr ⟨rfl, List.forall_mem_cons.mpr ⟨rfl, List.forall_mem_cons.mpr ⟨rfl, List.forall_mem_cons.mpr ⟨rfl, List.forall_mem_cons.mpr ⟨rfl, List.forall_mem_cons.mpr ⟨rfl, List.forall_mem_nil _⟩⟩⟩⟩⟩⟩⟩
        case turn5 =>
          rintro c5 s' ⟨h, tk, told, t, u, n5, ys, rfl, F5, N5, hpy, hky, hcl, hto⟩ ih
          refine lp_turn (by passes_own) ?_
          clear F7 N7 FX NX
          have hyl : ys.length = nums.length - c5 := by
            have h1 := congrArg List.length hky
            have h2 := pop_end hok (k := c5) (by simpa using hcl)
            simp only [kys, List.length_map] at h1 h2
            rw [h1]; exact h2
          k_steps
          · unfold Hold
            rename News _ _ _ _ => N8
            have N8' := fun p hp => N8 p (List.mem_cons_of_mem _ hp)
            clear N8
            k_dflt (refine' pop_c (xs := ys) (H := Bx) (rest := rest9) (n := n5) hneB hpy ?q1 ?q2 ?k31 ?k32 ?k33 ?k35 ?kK3 ?k34 ?kd3 ?ku3 ?_; (case k34 => exact N8'); (case k31 => k_asm); (case k32 => k_asm); (case k33 => k_asm); (case k35 => k_asm); (case kK3 => exact rfl); (case kd3 => decide); (case ku3 => decide); (case q1 => omega); (case q2 => omega))
            intro h6 tk6 F6 N6
            obtain ⟨⟨a6, t6, u6, n6, e6, hm6⟩, hp6⟩ := pop_mem (P := PairIn rest9) (xs := ys) (by omega) hpy
            rw [e6]
            clear N8'
            have hc6 : c5 < nums.length := by omega
            obtain ⟨_, hpa1, hpa2⟩ := pop_at hok (k := c5) (by simpa using hc6)
            have hpk := pop_keys ys
            rw [hky] at hpk
            have hpl : (hpop ys).1.2.2 = (((order (nums.map rmany)).getD c5 0 : Nat) : Int) := by
              rw [hpk.1]; exact hpa1
            rw [hpl] at hm6
            generalize hp9 : (order (nums.map rmany)).getD c5 0 = p9 at hm6 hpl hpa2
            have hp9l : p9 < nums.length := by simpa using hpa2
            obtain ⟨np, hnp⟩ : ∃ np, nums[p9]? = some np := ⟨_, List.getElem?_eq_getElem hp9l⟩
            have hrdl := StrsAre.length Z9.ss
            obtain ⟨vr, hvr⟩ : ∃ v, rd[p9]? = some v := ⟨_, List.getElem?_eq_getElem (by simp at hrdl; omega)⟩
            obtain ⟨xr, tr, hxr, rfl⟩ := strs_get Z9.ss hvr
            have hxr2 : xr = wordS np := by simpa [hnp] using hxr.symm
            subst hxr2
            obtain ⟨ds, hds, hdl, hcut, hwl⟩ := word_rule np
            have hS9m := Z9.s
            have hlo9 : ((hlab num).map (·.length)).sum + (hlab num).length * (Str.ofString ".").length ≤ 16777216 := lab_ok (num.fdiv 9) (n := hmany num) (hmany_is num).2.2
            have hp9k : p9 ≤ 1000 := by omega
            obtain ⟨e1, e2⟩ := hto.1 (by assumption)
            subst e1
            have hol := order_len hok
            k_steps
            unfold Hold
            obtain ⟨ha1, ha2, ha3⟩ := host_low hs hhs
            obtain ⟨hb1, hb2, hb3⟩ := rule_low ds hds (dotOf np)
            try rw [hht]
            k_dflt (refine' ud_c ha1 hb1 rfl rfl (low_hdn _ ha2) (low_hdn _ hb2) ha3 hb3 ?k41 ?k42 ?k43 ?k45 ?kK4 ?k44 ?kd4 ?ku4 ?_; (case k44 => k_asm); (case k41 => k_asm); (case k42 => k_asm); (case k43 => k_asm); (case k45 => k_asm); (case kK4 => exact rfl); (case kd4 => decide); (case ku4 => decide))
            intro h9 tk9 v9 F9' N9' hv9
            have hfp : tells hs (nums.getD p9 0) = v9 := by
              rw [hv9.trans (tells_is hhs hds hdl)]; simp [List.getD, hnp]
            have hkq : kys (hpop ys).2 = kpops (c5 + 1) (keys nums) := hpk.2
            have hfs : c5 < (order (nums.map rmany)).length := by rw [hol]; simpa using hc6
            clear hv9
            cases v9
            · k_steps
              unfold Hold
              refine ih (c5 + 1) _ (by omega) ⟨_, _, _, t, _, _, (hpop ys).2, rfl, fr_map (whM (-1) t Bx k Hp Ra Ha S) (by k_asm) ?_, by k_asm, hp6, hkq, hc6, told_miss hfs hp9 e2 hfp⟩
              exact List.forall_mem_cons.mpr ⟨rfl, List.forall_mem_cons.mpr ⟨rfl, List.forall_mem_cons.mpr ⟨rfl, List.forall_mem_cons.mpr ⟨rfl, List.forall_mem_cons.mpr ⟨rfl, List.forall_mem_cons.mpr ⟨rfl, List.forall_mem_cons.mpr ⟨rfl, List.forall_mem_nil _⟩⟩⟩⟩⟩⟩⟩
            · k_steps
              unfold Hold
              refine ih (c5 + 1) _ (by omega) ⟨_, _, _, u6, _, _, (hpop ys).2, rfl, fr_map (whM (p9 : Int) u6 Bx k Hp Ra Ha S) (by k_asm) ?_, by k_asm, hp6, hkq, hc6, told_hit hfs hp9 e2 hfp⟩
              exact List.forall_mem_cons.mpr ⟨rfl, List.forall_mem_cons.mpr ⟨rfl, List.forall_mem_cons.mpr ⟨rfl, List.forall_mem_cons.mpr ⟨rfl, List.forall_mem_cons.mpr ⟨rfl, List.forall_mem_cons.mpr ⟨rfl, List.forall_mem_cons.mpr ⟨rfl, List.forall_mem_nil _⟩⟩⟩⟩⟩⟩⟩
          · unfold Hold
            have hc5 : c5 = nums.length := by omega
            have hol := order_len hok
            have e : told = firstOf (fun p => tells hs (nums.getD p 0)) (order (nums.map rmany)) := by
              obtain ⟨e1, e2⟩ := hto.1 (by assumption)
              rw [e1, ← e2, List.take_of_length_le (by rw [hol]; simp; omega)]
            subst e
            rename News _ _ _ _ => N8
            exact ⟨rfl, _, _, _, _, rfl, by k_asm, fun p hp => N8 p (.tail _ (.tail _ hp))⟩
          · unfold Hold
            have e := hto.2 (by assumption)
            subst e
            rename News _ _ _ _ => N8
            exact ⟨rfl, _, _, _, _, rfl, by k_asm, fun p hp => N8 p (.tail _ hp)⟩
      case done4 =>
        rintro m₁ nx h tk ⟨u4, rfl, hZ4⟩ F9 N9
        k_steps
        show WkLeave _ _ _
        unfold WkLeave
        dsimp only
        exact ret _ (old_regrown hTA F9) os2 G2
end
end Mine

end
section
open PySem PySem.W PyProof.Rows PySem.Calls PySem.W.X
set_option maxRecDepth 100000
set_option maxHeartbeats 0
theorem Mine.fin_call {w : World} {ll : List Str} {mean : ExcName → Option Value} {mg mb : Str → Option Value} {s : Shared} {Q E : Value → Shared → Prop} {sc fa : Addr} {sv : List Value} {ns : List Int}
  (X : (Mine.hd.heap_39 w.params).In s.heap) (T : Top Mine.hd.view_39 ll mean mg mb s.heap) (hmg : mg (Str.ofString "law") = some (.ref fa)) (hg : s.gens = #[]) (hL : s.heap.IsList sc sv.toArray) (hI : IntsAre sv ns) (hns : ns.length ≤ 63)
  (ret : ∀ s', OldK s.heap s'.heap → s'.os = s.os → AllBare s'.gens → Q (.bool true) s') :
  wpAny (model PySem.Challenge.rw_of0095_01.row.prog w) callerA (call (.ref fa) [.ref sc]) Q E s := by
  have e1 : mg (Str.ofString "law") = some (.ref 821) := mg_of X T.g (by kernel_rfl)
  have e2 : mg (Str.ofString "join") = some (.ref 798) := mg_of X T.g (by kernel_rfl)
  have e3 : fa = 821 := by rw [e1] at hmg; cases hmg; rfl
  subst e3
  have e4 : ∃ o, s.heap.get? 798 = some o ∧ ∃ fd, o.data = .func fd ∧ fd.code = .ref 797 := ⟨_, X _ _ rfl, _, rfl, rfl⟩
  obtain ⟨o, ho, fd, hd, hc⟩ := e4
  have e5 : ∃ d, (recsOf Mine.hd.view_39).find? (fun e => e.name == Str.ofString "join") = some d := Option.isSome_iff_exists.mp (by decide +kernel)
  obtain ⟨d, hf⟩ := e5
  obtain ⟨c, P, hc', B⟩ := based_of_top T hf e2 ho hd
  rw [hc] at hc'
  cases hc'
  obtain ⟨_, _, M⟩ := bmod_of_top T
  exact law_call X T B.code B.tab B.notStatics M (.of_eq hg) hL hI hns ret
set_option maxRecDepth 100000 in
set_option maxHeartbeats 0 in
theorem PySem.Challenge.cw_of0095_01_holds : PySem.Challenge.rw_of0095_01.Holds := by
  w_on
  refine holds_law Mine.hd.said0 fun said => ?_
  refine holds_open (q := Mine.hd.view_39) (loose := Mine.hd.loose) (Xt := fun s => xlAt Mine.hd.view_39 [] s && recOk (RowW.records PySem.Challenge.rw_of0095_01.row.toRowW) s) (XP := XL Mine.hd.view_39 []) (Yf := Mine.hd.hook.obs) (Ya := Mine.hd.hook.val) (YP := Mine.hd.hook.says) (N := 12000) Mine.hd.left0 Mine.hd.hook.of Mine.hd.hook.keeps (fun s e => xl_of s (Bool.and_eq_true_iff.mp e).1) XL.keeps (by rfl) (by rfl) (by rfl) (fun s e => recFacts_of (Bool.and_eq_true_iff.mp e).2) (by rfl) said (by decide +kernel) ⟨rfl, rfl, rfl, rfl, rfl, by decide +kernel⟩ ?hw ?hc
  case hw => w_witness2
  case hc =>
    k_fill
    intro w s₀ s₁ mg mb G Y fa o pm cd doc dV kV ho hd hcd hD hmg hg args vals as hpre hlay hrd hwl hlo
    have KX := kIn_of Y
    refine Ground.open G ?_
    intro T B D TE TW
    try (refine guard_noD D (by decide +kernel) ?_; clear D)
    wrow_args hpre hlay hrd hwl hlo
    rename_i ns _ _ _ _ _ _ _ sc sv _ hL _ _ _ hI _ hlen _
    refine Mine.fin_call KX T hmg hg hL hI (by omega) fun s' h1 h2 h3 => ?_
    exact ⟨.inl ⟨_, _, _, rfl, raisesW_false (by wrow_none_raised), (by w_reads), postW_of (by wrow_shape) (by wtm_val) (by str_meet; first | done | w_fin), unshared_nil⟩, h1, h2, h3⟩
end
