import PyProof.Rows.All
import Wide.All
import OpenK.AllK
import Wide.FinOn
import Lean
import PySem.Challenge.RW_ji0038_05
set_option Elab.async false
set_option linter.all false
set_option maxRecDepth 100000
section
open PySem PySem.W PySem.Calls
namespace MineH
noncomputable section
noncomputable abbrev pb : List Stmt := PySem.Challenge.pw_ji0038_05.main.body
noncomputable def fnAt (l : List Stmt) (i : Nat) : List Stmt × Scope := match l[i]? with
  | some (.FunctionDef _ _ b _ _ _ sc _ _ _) => (b, sc)
  | _ => default
noncomputable def fnPar (l : List Stmt) (i : Nat) : Arguments := match l[i]? with
  | some (.FunctionDef _ a _ _ _ _ _ _ _ _) => a
  | _ => default
noncomputable def clsAt (l : List Stmt) (i : Nat) : List Stmt := match l[i]? with
  | some (.ClassDef _ _ _ b _ _ _ _ _ _ _) => b
  | _ => []
noncomputable abbrev nd (o : Obj) (l r : BT) : BT := .node o l r
noncomputable abbrev nl (o : Obj) : BT := .node o .nil .nil
noncomputable abbrev de (P : Params) (k : Str) (n : Tok) (v : Value) : DictEntry := ⟨PyData.keyHash P k, .str k n, v⟩
noncomputable abbrev tpO (l : Array Value) : Obj := ⟨.type "tuple", none, .seq l 0, #[]⟩
noncomputable abbrev cdO (l : Array Value) : Obj := ⟨.type "code", none, .fields l, #[]⟩
noncomputable abbrev flO (l : Array Value) : Obj := ⟨.none, none, .fields l, #[]⟩
noncomputable abbrev fnO (d : FuncData) : Obj := ⟨.type "function", none, .func d, #[]⟩
noncomputable abbrev ftO (d : FuncData) : Obj := ⟨.none, none, .func d, #[]⟩
noncomputable abbrev dcO (l : Array DictEntry) (n : Nat) : Obj := ⟨.type "dict", none, .dict l n, #[]⟩
noncomputable abbrev j (n : Int) : Value := .int n 0
noncomputable abbrev r (n : Nat) : Value := .ref n
noncomputable abbrev cp (n : Tok) : Value := .str "/claim/cut.py" n
noncomputable abbrev mO : Value := .str "dulwich.objects" 309
noncomputable abbrev fe (n q : Str) (l : List Stmt) (i : Nat) (sc : Scope) (a1 : Addr) (a2 : List (Str × Addr)) (a3 a4 a5 a6 : Value) (a7 : Option Addr) (a8 a9 : Value) (a10 : Addr) : FuncData := ⟨n, q, fnPar l i, .stmts (fnAt l i).1, sc, a1, a2, a3, a4, a5, a6, a7, a8, a9, a10⟩
noncomputable abbrev fd (n q : Str) (l : List Stmt) (i : Nat) (a1 : Addr) (a2 : List (Str × Addr)) (a3 a4 a5 a6 : Value) (a7 : Option Addr) (a8 a9 : Value) (a10 : Addr) : FuncData := fe n q l i (fnAt l i).2 a1 a2 a3 a4 a5 a6 a7 a8 a9 a10
noncomputable def life0 : Life := ⟨[], [], [], 0, [], [], false, #[], [], 0, false, false, false, 0, [2000, 10, 10], false, 0, true, [], [], 0, false⟩
noncomputable def o11 (P : Params) : Obj := tpO #[]
noncomputable def o12 (P : Params) : Obj := flO #[]
noncomputable def o13 (P : Params) : Obj := cdO #[(.str "<module>" 182), (.str "<module>" 183), (cp 184), (j 1), (j 0), (j 0), (j 0), (j 0), (r 11), (.bool false), (j 181), (r 12), .none, .none, .none, .none, (j 185), (j 1), (cp 186)]
noncomputable def o14 (P : Params) : Obj := ⟨(.type "frame"), .none, .plain, #[(.some (r 13)), (.some (r 3)), (.some (r 3)), .none, (.some (.str "__main__" 164)), .none, (.some (r 0))]⟩
noncomputable def o2v1 (P : Params) : Obj := ⟨.none, .none, (.dict #[de P "type.__subclasses__.Exception.0" 214 (j 31), de P "type.__subclasses__.Exception.n" 215 (j 1)] 2), #[]⟩
noncomputable def o3v1 (P : Params) : Obj := dcO #[de P "__name__" 165 mO, de P "__doc__" 166 .none, de P "__package__" 167 .none, de P "__loader__" 168 (.builtin "__main__.__loader__#opaque"), de P "__spec__" 169 .none, de P "__annotations__" 170 (r 6), de P "__builtins__" 171 (r 4), de P "__file__" 173 (cp 172), de P "__cached__" 174 .none, de P "_wall" 193 (r 21), de P "FileFormatException" 217 (r 31), de P "ObjectFormatException" 235 (r 44), de P "ObjectFormat" 285 (r 70), de P "SHA1" 307 (r 76), de P "DEFAULT_OBJECT_FORMAT" 308 (r 76), de P "_tuplegetter" 367 (r 116), de P "S_IFDIR" 369 (.int 16384 368), de P "S_IFREG" 371 (.int 32768 370), de P "S_IFLNK" 373 (.int 40960 372), de P "S_IFMT" 380 (r 127), de P "S_ISDIR" 387 (r 134), de P "hexlify" 393 (r 139), de P "_digit" 400 (r 146), de P "unhexlify" 406 (r 151), de P "ObjectID" 413 (r 158), de P "RawObjectID" 420 (r 165), de P "_TREE_HEADER" 422 (.bytes #[116, 114, 101, 101] 421), de P "_PARENT_HEADER" 424 (.bytes #[112, 97, 114, 101, 110, 116] 423), de P "_AUTHOR_HEADER" 426 (.bytes #[97, 117, 116, 104, 111, 114] 425), de P "_COMMITTER_HEADER" 428 (.bytes #[99, 111, 109, 109, 105, 116, 116, 101, 114] 427), de P "_ENCODING_HEADER" 430 (.bytes #[101, 110, 99, 111, 100, 105, 110, 103] 429), de P "_GPGSIG_HEADER" 432 (.bytes #[103, 112, 103, 115, 105, 103] 431), de P "S_IFGITLINK" 434 (.int 57344 433), de P "MAX_TIME" 436 (.int 9223372036854775807 435), de P "sha_to_hex" 445 (r 172), de P "hex_to_sha" 453 (r 179), de P "valid_hexsha" 461 (r 186), de P "check_hexsha" 470 (r 193), de P "check_identity" 481 (r 200), de P "check_time" 489 (r 207), de P "git_line" 498 (r 214), de P "is_commit" 506 (r 221), de P "is_tree" 514 (r 228), de P "ShaFile" 635 (r 311)] 44
noncomputable def o12v1 (P : Params) : Obj := flO #[(j 1), (j 0), (r 20), (j 5), (j 0), (r 27), (j 7), (j 0), (r 40), (j 10), (j 0), (r 52), (j 34), (j 0), (r 83), (j 55), (j 0), (r 126), (j 57), (j 0), (r 133), (j 59), (j 0), (r 138), (j 62), (j 0), (r 145), (j 70), (j 0), (r 150), (j 74), (j 0), (r 157), (j 76), (j 0), (r 164), (j 86), (j 0), (r 171), (j 92), (j 0), (r 178), (j 97), (j 0), (r 185), (j 114), (j 0), (r 192), (j 125), (j 0), (r 199), (j 140), (j 0), (r 206), (j 151), (j 0), (r 213), (j 154), (j 0), (r 220), (j 157), (j 0), (r 227), (j 160), (j 0), (r 234)]
noncomputable def o17 (P : Params) : Obj := tpO #[(.str "k" 190)]
noncomputable def o19 (P : Params) : Obj := ftO (fd "_wall" "_wall" pb 0 0 [] .none .none .none .none .none .none .none 0)
noncomputable def o20 (P : Params) : Obj := cdO #[(.str "_wall" 187), (.str "_wall" 188), (cp 189), (j 1), (j 1), (j 0), (j 0), (j 3), (r 15), (.bool true), (j 181), (r 16), .none, (r 17), (r 18), (r 19), (j 191), (j 1), (cp 192)]
noncomputable def o21 (P : Params) : Obj := fnO (fd "_wall" "_wall" pb 0 3 [] .none .none .none (.str "__main__" 164) .none (r 20) .none 0)
noncomputable def o22 (P : Params) : Obj := tpO #[(.type "Exception")]
noncomputable def o23 (P : Params) : Obj := ⟨(.type "builtin_function_or_method"), .none, (.fields #[(.builtin "type.__prepare__"), (.type "type")]), #[]⟩
noncomputable def o24 (P : Params) : Obj := dcO #[de P "__module__" 203 (.str "dulwich.errors" 194), de P "__qualname__" 205 (.str "FileFormatException" 204), de P "__firstlineno__" 207 (.int 5 206), de P "__doc__" 209 (.str "Base class for exceptions relating to reading git file formats." 208), de P "__static_attributes__" 211 (r 29)] 5
noncomputable def o27 (P : Params) : Obj := cdO #[(.str "FileFormatException" 198), (.str "FileFormatException" 199), (cp 200), (j 5), (j 0), (j 0), (j 0), (j 0), (r 25), (.bool false), (j 181), (r 26), .none, .none, .none, .none, (j 201), (j 5), (cp 202)]
noncomputable def o28 (P : Params) : Obj := ⟨(.type "frame"), .none, .plain, #[(.some (r 27)), (.some (r 3)), (.some (r 24)), .none, (.some (.str "dulwich.errors" 194)), .none, (.some (r 0))]⟩
noncomputable def o30 (P : Params) : Obj := dcO #[de P "__module__" 203 (.str "dulwich.errors" 194), de P "__firstlineno__" 207 (.int 5 206), de P "__doc__" 209 (.str "Base class for exceptions relating to reading git file formats." 208), de P "__static_attributes__" 211 (r 29), de P "__weakref__" 213 (r 32)] 2
noncomputable def o31 (P : Params) : Obj := ⟨(.type "type"), .none, (.cls ⟨"FileFormatException", [(.type "Exception")], [(r 31), (.type "Exception"), (.type "BaseException"), (.type "object")], 30, "FileFormatException", true, [], [(r 44)], false, .none, false⟩), #[(.some (r 22)), .none, (.some (.str "FileFormatException" 196)), (.some (.str "FileFormatException" 204)), (.some (.builtin "Exception.__new__")), (.some (.bool true))]⟩
noncomputable def o32 (P : Params) : Obj := ⟨(.type "getset_descriptor"), .none, (.fields #[(.str "__weakref__" 212), (r 31), (.builtin "ExceptionGroup.__weakref__"), .none]), #[]⟩
noncomputable def o33 (P : Params) : Obj := ⟨(.type "super"), .none, (.fields #[(r 31), (r 31), (r 31)]), #[]⟩
noncomputable def o34 (P : Params) : Obj := ⟨(.type "builtin_function_or_method"), .none, (.fields #[(.builtin "object.__init_subclass__"), (r 31)]), #[]⟩
noncomputable def o35 (P : Params) : Obj := tpO #[(r 31)]
noncomputable def o37 (P : Params) : Obj := dcO #[de P "__module__" 225 (.str "dulwich.errors" 194), de P "__qualname__" 227 (.str "ObjectFormatException" 226), de P "__firstlineno__" 229 (.int 7 228), de P "__doc__" 231 (.str "Indicates an error parsing an object." 230), de P "__static_attributes__" 233 (r 42)] 5
noncomputable def o40 (P : Params) : Obj := cdO #[(.str "ObjectFormatException" 220), (.str "ObjectFormatException" 221), (cp 222), (j 7), (j 0), (j 0), (j 0), (j 0), (r 38), (.bool false), (j 181), (r 39), .none, .none, .none, .none, (j 223), (j 7), (cp 224)]
noncomputable def o41 (P : Params) : Obj := ⟨(.type "frame"), .none, .plain, #[(.some (r 40)), (.some (r 3)), (.some (r 37)), .none, (.some (.str "dulwich.errors" 194)), .none, (.some (r 0))]⟩
noncomputable def o43 (P : Params) : Obj := dcO #[de P "__module__" 225 (.str "dulwich.errors" 194), de P "__firstlineno__" 229 (.int 7 228), de P "__doc__" 231 (.str "Indicates an error parsing an object." 230), de P "__static_attributes__" 233 (r 42)] 1
noncomputable def o44 (P : Params) : Obj := ⟨(.type "type"), .none, (.cls ⟨"ObjectFormatException", [(r 31)], [(r 44), (r 31), (.type "Exception"), (.type "BaseException"), (.type "object")], 43, "ObjectFormatException", true, [], [], false, .none, false⟩), #[(.some (r 35)), .none, (.some (.str "ObjectFormatException" 218)), (.some (.str "ObjectFormatException" 226)), (.some (.builtin "Exception.__new__")), (.some (.bool true))]⟩
noncomputable def o45 (P : Params) : Obj := ⟨(.type "super"), .none, (.fields #[(r 44), (r 44), (r 44)]), #[]⟩
noncomputable def o46 (P : Params) : Obj := ⟨(.type "builtin_function_or_method"), .none, (.fields #[(.builtin "object.__init_subclass__"), (r 44)]), #[]⟩
noncomputable def o49 (P : Params) : Obj := dcO #[de P "__module__" 245 (.str "dulwich.object_format" 236), de P "__qualname__" 247 (.str "ObjectFormat" 246), de P "__firstlineno__" 249 (.int 10 248), de P "__doc__" 251 (.str "Object format (hash algorithm) used in Git." 250), de P "__init__" 265 (r 60), de P "hash_object_hex" 273 (r 67), de P "__static_attributes__" 279 (r 68)] 7
noncomputable def o51 (P : Params) : Obj := flO #[(j 13), (j 4), (r 59), (j 29), (j 4), (r 66)]
noncomputable def o52 (P : Params) : Obj := cdO #[(.str "ObjectFormat" 240), (.str "ObjectFormat" 241), (cp 242), (j 10), (j 0), (j 0), (j 0), (j 0), (r 50), (.bool false), (j 181), (r 51), .none, .none, .none, .none, (j 243), (j 10), (cp 244)]
noncomputable def o53 (P : Params) : Obj := ⟨(.type "frame"), .none, .plain, #[(.some (r 52)), (.some (r 3)), (.some (r 49)), .none, (.some (.str "dulwich.object_format" 236)), .none, (.some (r 0))]⟩
noncomputable def o56 (P : Params) : Obj := tpO #[(.str "self" 256), (.str "name" 257), (.str "type_num" 258), (.str "oid_length" 259), (.str "hex_length" 260), (.str "hash_func" 261)]
noncomputable def o58 (P : Params) : Obj := ftO (fd "__init__" "ObjectFormat.__init__" (clsAt pb 5) 1 0 [] .none .none .none .none .none .none .none 0)
noncomputable def o59 (P : Params) : Obj := cdO #[(.str "__init__" 253), (.str "ObjectFormat.__init__" 254), (cp 255), (j 13), (j 6), (j 0), (j 0), (j 3), (r 54), (.bool true), (j 181), (r 55), .none, (r 56), (r 57), (r 58), (j 262), (j 13), (cp 263)]
noncomputable def o60 (P : Params) : Obj := fnO (fd "__init__" "ObjectFormat.__init__" (clsAt pb 5) 1 3 [] .none .none (.str "Initialize an object format.\n\nArgs:\n    name: Name of the format (e.g., \"sha1\", \"sha256\")\n    type_num: Format type number used in Git\n    oid_length: Length of the binary object ID in bytes\n    hex_length: Length of the hexadecimal object ID in characters\n    hash_func: Hash function from hashlib\n" 264) (.str "dulwich.object_format" 236) .none (r 59) .none 0)
noncomputable def o63 (P : Params) : Obj := tpO #[(.str "self" 269), (.str "data" 270)]
noncomputable def o65 (P : Params) : Obj := ftO (fd "hash_object_hex" "ObjectFormat.hash_object_hex" (clsAt pb 5) 2 0 [] .none .none .none .none .none .none .none 0)
noncomputable def o66 (P : Params) : Obj := cdO #[(.str "hash_object_hex" 266), (.str "ObjectFormat.hash_object_hex" 267), (cp 268), (j 29), (j 2), (j 0), (j 0), (j 3), (r 61), (.bool true), (j 181), (r 62), .none, (r 63), (r 64), (r 65), (j 271), (j 29), (cp 272)]
noncomputable def o67 (P : Params) : Obj := fnO (fd "hash_object_hex" "ObjectFormat.hash_object_hex" (clsAt pb 5) 2 3 [] .none .none .none (.str "dulwich.object_format" 236) .none (r 66) .none 0)
noncomputable def o68 (P : Params) : Obj := tpO #[(.str "hash_func" 274), (.str "hex_length" 275), (.str "name" 276), (.str "oid_length" 277), (.str "type_num" 278)]
noncomputable def o69 (P : Params) : Obj := dcO #[de P "__module__" 245 (.str "dulwich.object_format" 236), de P "__firstlineno__" 249 (.int 10 248), de P "__doc__" 251 (.str "Object format (hash algorithm) used in Git." 250), de P "__init__" 265 (r 60), de P "hash_object_hex" 273 (r 67), de P "__static_attributes__" 279 (r 68), de P "__dict__" 281 (r 71), de P "__weakref__" 283 (r 72)] 3
noncomputable def o70 (P : Params) : Obj := ⟨(.type "type"), .none, (.cls ⟨"ObjectFormat", [(.type "object")], [(r 70), (.type "object")], 69, "ObjectFormat", true, [], [], false, .none, false⟩), #[.none, .none, (.some (.str "ObjectFormat" 238)), (.some (.str "ObjectFormat" 246)), (.some (.builtin "object.__new__")), (.some (.bool true))]⟩
noncomputable def o71 (P : Params) : Obj := ⟨(.type "getset_descriptor"), .none, (.fields #[(.str "__dict__" 280), (r 70), (.builtin "function.__dict__"), (.builtin "function.__dict__#set")]), #[]⟩
noncomputable def o72 (P : Params) : Obj := ⟨(.type "getset_descriptor"), .none, (.fields #[(.str "__weakref__" 282), (r 70), (.builtin "ExceptionGroup.__weakref__"), .none]), #[]⟩
noncomputable def o73 (P : Params) : Obj := ⟨(.type "super"), .none, (.fields #[(r 70), (r 70), (r 70)]), #[]⟩
noncomputable def o74 (P : Params) : Obj := ⟨(.type "builtin_function_or_method"), .none, (.fields #[(.builtin "object.__init_subclass__"), (r 70)]), #[]⟩
noncomputable def o75 (P : Params) : Obj := dcO #[de P "name" 298 (.str "sha1" 286), de P "type_num" 300 (.int 1 287), de P "oid_length" 302 (.int 20 288), de P "hex_length" 304 (.int 40 289), de P "hash_func" 306 .none] 5
noncomputable def o76 (P : Params) : Obj := ⟨(r 70), (.some 75), .plain, #[]⟩
noncomputable def o77 (P : Params) : Obj := ⟨(.type "frame"), .none, (.dict #[de P "self" 290 (r 76), de P "name" 291 (.str "sha1" 286), de P "type_num" 292 (.int 1 287), de P "oid_length" 293 (.int 20 288), de P "hex_length" 294 (.int 40 289), de P "hash_func" 295 .none] 6), #[]⟩
noncomputable def o80 (P : Params) : Obj := dcO #[de P "__module__" 318 mO, de P "__qualname__" 320 (.str "_tuplegetter" 319), de P "__firstlineno__" 322 (.int 34 321), de P "__init__" 331 (r 91), de P "__get__" 340 (r 99), de P "__set__" 349 (r 106), de P "__delete__" 357 (r 113), de P "__static_attributes__" 360 (r 114)] 8
noncomputable def o82 (P : Params) : Obj := flO #[(j 36), (j 4), (r 90), (j 40), (j 4), (r 98), (j 47), (j 4), (r 105), (j 50), (j 4), (r 112)]
noncomputable def o83 (P : Params) : Obj := cdO #[(.str "_tuplegetter" 313), (.str "_tuplegetter" 314), (cp 315), (j 34), (j 0), (j 0), (j 0), (j 0), (r 81), (.bool false), (j 181), (r 82), .none, .none, .none, .none, (j 316), (j 34), (cp 317)]
noncomputable def o84 (P : Params) : Obj := ⟨(.type "frame"), .none, .plain, #[(.some (r 83)), (.some (r 3)), (.some (r 80)), .none, (.some mO), .none, (.some (r 0))]⟩
noncomputable def o87 (P : Params) : Obj := tpO #[(.str "self" 326), (.str "index" 327), (.str "doc" 328)]
noncomputable def o89 (P : Params) : Obj := ftO (fd "__init__" "_tuplegetter.__init__" (clsAt pb 9) 0 0 [] .none .none .none .none .none .none .none 0)
noncomputable def o90 (P : Params) : Obj := cdO #[(.str "__init__" 323), (.str "_tuplegetter.__init__" 324), (cp 325), (j 36), (j 3), (j 0), (j 0), (j 3), (r 85), (.bool true), (j 181), (r 86), .none, (r 87), (r 88), (r 89), (j 329), (j 36), (cp 330)]
noncomputable def o91 (P : Params) : Obj := fnO (fd "__init__" "_tuplegetter.__init__" (clsAt pb 9) 0 3 [] .none .none .none mO .none (r 90) .none 0)
noncomputable def o92 (P : Params) : Obj := tpO #[.none]
noncomputable def o95 (P : Params) : Obj := tpO #[(.str "self" 335), (.str "obj" 336), (.str "objtype" 337)]
noncomputable def o97 (P : Params) : Obj := ftO (fd "__get__" "_tuplegetter.__get__" (clsAt pb 9) 1 0 [] .none .none .none .none .none .none .none 0)
noncomputable def o98 (P : Params) : Obj := cdO #[(.str "__get__" 332), (.str "_tuplegetter.__get__" 333), (cp 334), (j 40), (j 3), (j 0), (j 0), (j 3), (r 93), (.bool true), (j 181), (r 94), .none, (r 95), (r 96), (r 97), (j 338), (j 40), (cp 339)]
noncomputable def o99 (P : Params) : Obj := fnO (fd "__get__" "_tuplegetter.__get__" (clsAt pb 9) 1 3 [] (r 92) .none .none mO .none (r 98) .none 0)
noncomputable def o102 (P : Params) : Obj := tpO #[(.str "self" 344), (.str "obj" 345), (.str "value" 346)]
noncomputable def o104 (P : Params) : Obj := ftO (fd "__set__" "_tuplegetter.__set__" (clsAt pb 9) 2 0 [] .none .none .none .none .none .none .none 0)
noncomputable def o105 (P : Params) : Obj := cdO #[(.str "__set__" 341), (.str "_tuplegetter.__set__" 342), (cp 343), (j 47), (j 3), (j 0), (j 0), (j 3), (r 100), (.bool true), (j 181), (r 101), .none, (r 102), (r 103), (r 104), (j 347), (j 47), (cp 348)]
noncomputable def o106 (P : Params) : Obj := fnO (fd "__set__" "_tuplegetter.__set__" (clsAt pb 9) 2 3 [] .none .none .none mO .none (r 105) .none 0)
noncomputable def o109 (P : Params) : Obj := tpO #[(.str "self" 353), (.str "obj" 354)]
noncomputable def o111 (P : Params) : Obj := ftO (fd "__delete__" "_tuplegetter.__delete__" (clsAt pb 9) 3 0 [] .none .none .none .none .none .none .none 0)
noncomputable def o112 (P : Params) : Obj := cdO #[(.str "__delete__" 350), (.str "_tuplegetter.__delete__" 351), (cp 352), (j 50), (j 2), (j 0), (j 0), (j 3), (r 107), (.bool true), (j 181), (r 108), .none, (r 109), (r 110), (r 111), (j 355), (j 50), (cp 356)]
noncomputable def o113 (P : Params) : Obj := fnO (fd "__delete__" "_tuplegetter.__delete__" (clsAt pb 9) 3 3 [] .none .none .none mO .none (r 112) .none 0)
noncomputable def o114 (P : Params) : Obj := tpO #[(.str "__doc__" 358), (.str "index" 359)]
noncomputable def o115 (P : Params) : Obj := dcO #[de P "__module__" 318 mO, de P "__firstlineno__" 322 (.int 34 321), de P "__init__" 331 (r 91), de P "__get__" 340 (r 99), de P "__set__" 349 (r 106), de P "__delete__" 357 (r 113), de P "__static_attributes__" 360 (r 114), de P "__dict__" 362 (r 117), de P "__weakref__" 364 (r 118), de P "__doc__" 365 .none] 4
noncomputable def o116 (P : Params) : Obj := ⟨(.type "type"), .none, (.cls ⟨"_tuplegetter", [(.type "object")], [(r 116), (.type "object")], 115, "_tuplegetter", true, [], [], false, .none, false⟩), #[.none, .none, (.some (.str "_tuplegetter" 311)), (.some (.str "_tuplegetter" 319)), (.some (.builtin "object.__new__")), (.some (.bool true))]⟩
noncomputable def o117 (P : Params) : Obj := ⟨(.type "getset_descriptor"), .none, (.fields #[(.str "__dict__" 361), (r 116), (.builtin "function.__dict__"), (.builtin "function.__dict__#set")]), #[]⟩
noncomputable def o118 (P : Params) : Obj := ⟨(.type "getset_descriptor"), .none, (.fields #[(.str "__weakref__" 363), (r 116), (.builtin "ExceptionGroup.__weakref__"), .none]), #[]⟩
noncomputable def o119 (P : Params) : Obj := ⟨(.type "super"), .none, (.fields #[(r 116), (r 116), (r 116)]), #[]⟩
noncomputable def o120 (P : Params) : Obj := ⟨(.type "builtin_function_or_method"), .none, (.fields #[(.builtin "object.__init_subclass__"), (r 116)]), #[]⟩
noncomputable def o123 (P : Params) : Obj := tpO #[(.str "mode" 377)]
noncomputable def o125 (P : Params) : Obj := ftO (fd "S_IFMT" "S_IFMT" pb 13 0 [] .none .none .none .none .none .none .none 0)
noncomputable def o126 (P : Params) : Obj := cdO #[(.str "S_IFMT" 374), (.str "S_IFMT" 375), (cp 376), (j 55), (j 1), (j 0), (j 0), (j 3), (r 121), (.bool true), (j 181), (r 122), .none, (r 123), (r 124), (r 125), (j 378), (j 55), (cp 379)]
noncomputable def o127 (P : Params) : Obj := fnO (fd "S_IFMT" "S_IFMT" pb 13 3 [] .none .none .none mO .none (r 126) .none 0)
noncomputable def o130 (P : Params) : Obj := tpO #[(.str "mode" 384)]
noncomputable def o132 (P : Params) : Obj := ftO (fd "S_ISDIR" "S_ISDIR" pb 14 0 [] .none .none .none .none .none .none .none 0)
noncomputable def o133 (P : Params) : Obj := cdO #[(.str "S_ISDIR" 381), (.str "S_ISDIR" 382), (cp 383), (j 57), (j 1), (j 0), (j 0), (j 3), (r 128), (.bool true), (j 181), (r 129), .none, (r 130), (r 131), (r 132), (j 385), (j 57), (cp 386)]
noncomputable def o134 (P : Params) : Obj := fnO (fd "S_ISDIR" "S_ISDIR" pb 14 3 [] .none .none .none mO .none (r 133) .none 0)
noncomputable def o137 (P : Params) : Obj := ftO (fd "hexlify" "hexlify" pb 15 0 [] .none .none .none .none .none .none .none 0)
noncomputable def o138 (P : Params) : Obj := cdO #[(.str "hexlify" 388), (.str "hexlify" 389), (cp 390), (j 59), (j 1), (j 0), (j 0), (j 3), (r 135), (.bool true), (j 181), (r 136), .none, .none, .none, (r 137), (j 391), (j 59), (cp 392)]
noncomputable def o139 (P : Params) : Obj := fnO (fd "hexlify" "hexlify" pb 15 3 [] .none .none .none mO .none (r 138) .none 0)
noncomputable def o142 (P : Params) : Obj := tpO #[(.str "octet" 397)]
noncomputable def o144 (P : Params) : Obj := ftO (fd "_digit" "_digit" pb 16 0 [] .none .none .none .none .none .none .none 0)
noncomputable def o145 (P : Params) : Obj := cdO #[(.str "_digit" 394), (.str "_digit" 395), (cp 396), (j 62), (j 1), (j 0), (j 0), (j 3), (r 140), (.bool true), (j 181), (r 141), .none, (r 142), (r 143), (r 144), (j 398), (j 62), (cp 399)]
noncomputable def o146 (P : Params) : Obj := fnO (fd "_digit" "_digit" pb 16 3 [] .none .none .none mO .none (r 145) .none 0)
noncomputable def o149 (P : Params) : Obj := ftO (fd "unhexlify" "unhexlify" pb 17 0 [] .none .none .none .none .none .none .none 0)
noncomputable def o150 (P : Params) : Obj := cdO #[(.str "unhexlify" 401), (.str "unhexlify" 402), (cp 403), (j 70), (j 1), (j 0), (j 0), (j 3), (r 147), (.bool true), (j 181), (r 148), .none, .none, .none, (r 149), (j 404), (j 70), (cp 405)]
noncomputable def o151 (P : Params) : Obj := fnO (fd "unhexlify" "unhexlify" pb 17 3 [] .none .none .none mO .none (r 150) .none 0)
noncomputable def o154 (P : Params) : Obj := tpO #[(.str "octets" 410)]
noncomputable def o156 (P : Params) : Obj := ftO (fd "ObjectID" "ObjectID" pb 18 0 [] .none .none .none .none .none .none .none 0)
noncomputable def o157 (P : Params) : Obj := cdO #[(.str "ObjectID" 407), (.str "ObjectID" 408), (cp 409), (j 74), (j 1), (j 0), (j 0), (j 3), (r 152), (.bool true), (j 181), (r 153), .none, (r 154), (r 155), (r 156), (j 411), (j 74), (cp 412)]
noncomputable def o158 (P : Params) : Obj := fnO (fd "ObjectID" "ObjectID" pb 18 3 [] .none .none .none mO .none (r 157) .none 0)
noncomputable def o161 (P : Params) : Obj := tpO #[(.str "octets" 417)]
noncomputable def o163 (P : Params) : Obj := ftO (fe "RawObjectID" "RawObjectID" pb 19 ((fnAt pb 18).2) 0 [] .none .none .none .none .none .none .none 0)
noncomputable def o164 (P : Params) : Obj := cdO #[(.str "RawObjectID" 414), (.str "RawObjectID" 415), (cp 416), (j 76), (j 1), (j 0), (j 0), (j 3), (r 159), (.bool true), (j 181), (r 160), .none, (r 161), (r 162), (r 163), (j 418), (j 76), (cp 419)]
noncomputable def o165 (P : Params) : Obj := fnO (fe "RawObjectID" "RawObjectID" pb 19 ((fnAt pb 18).2) 3 [] .none .none .none mO .none (r 164) .none 0)
noncomputable def o168 (P : Params) : Obj := tpO #[(.str "sha" 440), (.str "hexsha" 441)]
noncomputable def o170 (P : Params) : Obj := ftO (fd "sha_to_hex" "sha_to_hex" pb 28 0 [] .none .none .none .none .none .none .none 0)
noncomputable def o171 (P : Params) : Obj := cdO #[(.str "sha_to_hex" 437), (.str "sha_to_hex" 438), (cp 439), (j 86), (j 1), (j 0), (j 0), (j 3), (r 166), (.bool true), (j 181), (r 167), .none, (r 168), (r 169), (r 170), (j 442), (j 86), (cp 443)]
noncomputable def o172 (P : Params) : Obj := fnO (fd "sha_to_hex" "sha_to_hex" pb 28 3 [] .none .none (.str "Takes a string and returns the hex of the sha within." 444) mO .none (r 171) .none 0)
noncomputable def o175 (P : Params) : Obj := tpO #[(.str "hex" 449)]
noncomputable def o177 (P : Params) : Obj := ftO (fd "hex_to_sha" "hex_to_sha" pb 29 0 [] .none .none .none .none .none .none .none 0)
noncomputable def o178 (P : Params) : Obj := cdO #[(.str "hex_to_sha" 446), (.str "hex_to_sha" 447), (cp 448), (j 92), (j 1), (j 0), (j 0), (j 3), (r 173), (.bool true), (j 181), (r 174), .none, (r 175), (r 176), (r 177), (j 450), (j 92), (cp 451)]
noncomputable def o179 (P : Params) : Obj := fnO (fd "hex_to_sha" "hex_to_sha" pb 29 3 [] .none .none (.str "Takes a hex sha and returns a binary sha." 452) mO .none (r 178) .none 0)
noncomputable def o182 (P : Params) : Obj := tpO #[(.str "hex" 457)]
noncomputable def o184 (P : Params) : Obj := ftO (fd "valid_hexsha" "valid_hexsha" pb 30 0 [] .none .none .none .none .none .none .none 0)
noncomputable def o185 (P : Params) : Obj := cdO #[(.str "valid_hexsha" 454), (.str "valid_hexsha" 455), (cp 456), (j 97), (j 1), (j 0), (j 0), (j 3), (r 180), (.bool true), (j 181), (r 181), .none, (r 182), (r 183), (r 184), (j 458), (j 97), (cp 459)]
noncomputable def o186 (P : Params) : Obj := fnO (fd "valid_hexsha" "valid_hexsha" pb 30 3 [] .none .none (.str "Check if a hex string is a valid SHA1 or SHA256.\n\nArgs:\n    hex: Hex string to validate\n\nReturns:\n    True if valid SHA1 (40 chars) or SHA256 (64 chars), False otherwise\n" 460) mO .none (r 185) .none 0)
noncomputable def o189 (P : Params) : Obj := tpO #[(.str "hex" 465), (.str "error_msg" 466)]
noncomputable def o191 (P : Params) : Obj := ftO (fd "check_hexsha" "check_hexsha" pb 31 0 [] .none .none .none .none .none .none .none 0)
noncomputable def o192 (P : Params) : Obj := cdO #[(.str "check_hexsha" 462), (.str "check_hexsha" 463), (cp 464), (j 114), (j 2), (j 0), (j 0), (j 3), (r 187), (.bool true), (j 181), (r 188), .none, (r 189), (r 190), (r 191), (j 467), (j 114), (cp 468)]
noncomputable def o193 (P : Params) : Obj := fnO (fd "check_hexsha" "check_hexsha" pb 31 3 [] .none .none (.str "Check if a string is a valid hex sha string.\n\nArgs:\n  hex: Hex string to check\n  error_msg: Error message to use in exception\nRaises:\n  ObjectFormatException: Raised when the string is not valid\n" 469) mO .none (r 192) .none 0)
noncomputable def o196 (P : Params) : Obj := tpO #[(.str "identity" 474), (.str "error_msg" 475), (.str "email_start" 476), (.str "email_end" 477)]
noncomputable def o198 (P : Params) : Obj := ftO (fd "check_identity" "check_identity" pb 32 0 [] .none .none .none .none .none .none .none 0)
noncomputable def o199 (P : Params) : Obj := cdO #[(.str "check_identity" 471), (.str "check_identity" 472), (cp 473), (j 125), (j 2), (j 0), (j 0), (j 3), (r 194), (.bool true), (j 181), (r 195), .none, (r 196), (r 197), (r 198), (j 478), (j 125), (cp 479)]
noncomputable def o200 (P : Params) : Obj := fnO (fd "check_identity" "check_identity" pb 32 3 [] .none .none (.str "Check if the specified identity is valid.\n\nThis will raise an exception if the identity is not valid.\n\nArgs:\n  identity: Identity string\n  error_msg: Error message to use in exception\n" 480) mO .none (r 199) .none 0)
noncomputable def o203 (P : Params) : Obj := tpO #[(.str "time_seconds" 485)]
noncomputable def o205 (P : Params) : Obj := ftO (fd "check_time" "check_time" pb 33 0 [] .none .none .none .none .none .none .none 0)
noncomputable def o206 (P : Params) : Obj := cdO #[(.str "check_time" 482), (.str "check_time" 483), (cp 484), (j 140), (j 1), (j 0), (j 0), (j 3), (r 201), (.bool true), (j 181), (r 202), .none, (r 203), (r 204), (r 205), (j 486), (j 140), (cp 487)]
noncomputable def o207 (P : Params) : Obj := fnO (fd "check_time" "check_time" pb 33 3 [] .none .none (.str "Check if the specified time is not prone to overflow error.\n\nThis will raise an exception if the time is not valid.\n\nArgs:\n  time_seconds: time in seconds\n\n" 488) mO .none (r 206) .none 0)
noncomputable def o210 (P : Params) : Obj := tpO #[(.str "field" 493), (.str "value" 494)]
noncomputable def o212 (P : Params) : Obj := ftO (fd "git_line" "git_line" pb 34 0 [] .none .none .none .none .none .none .none 0)
noncomputable def o213 (P : Params) : Obj := cdO #[(.str "git_line" 490), (.str "git_line" 491), (cp 492), (j 151), (j 2), (j 0), (j 0), (j 3), (r 208), (.bool true), (j 181), (r 209), .none, (r 210), (r 211), (r 212), (j 495), (j 151), (cp 496)]
noncomputable def o214 (P : Params) : Obj := fnO (fd "git_line" "git_line" pb 34 3 [] .none .none (.str "Formats items into a space separated line." 497) mO .none (r 213) .none 0)
noncomputable def o217 (P : Params) : Obj := tpO #[(.str "obj" 502)]
noncomputable def o219 (P : Params) : Obj := ftO (fd "is_commit" "is_commit" pb 35 0 [] .none .none .none .none .none .none .none 0)
noncomputable def o220 (P : Params) : Obj := cdO #[(.str "is_commit" 499), (.str "is_commit" 500), (cp 501), (j 154), (j 1), (j 0), (j 0), (j 3), (r 215), (.bool true), (j 181), (r 216), .none, (r 217), (r 218), (r 219), (j 503), (j 154), (cp 504)]
noncomputable def o221 (P : Params) : Obj := fnO (fd "is_commit" "is_commit" pb 35 3 [] .none .none (.str "Check if a ShaFile is a Commit." 505) mO .none (r 220) .none 0)
noncomputable def o224 (P : Params) : Obj := tpO #[(.str "obj" 510)]
noncomputable def o226 (P : Params) : Obj := ftO (fe "is_tree" "is_tree" pb 36 ((fnAt pb 35).2) 0 [] .none .none .none .none .none .none .none 0)
noncomputable def o227 (P : Params) : Obj := cdO #[(.str "is_tree" 507), (.str "is_tree" 508), (cp 509), (j 157), (j 1), (j 0), (j 0), (j 3), (r 222), (.bool true), (j 181), (r 223), .none, (r 224), (r 225), (r 226), (j 511), (j 157), (cp 512)]
noncomputable def o228 (P : Params) : Obj := fnO (fe "is_tree" "is_tree" pb 36 ((fnAt pb 35).2) 3 [] .none .none (.str "Check if a ShaFile is a Tree." 513) mO .none (r 227) .none 0)
noncomputable def o231 (P : Params) : Obj := dcO #[de P "__module__" 522 mO, de P "__qualname__" 524 (.str "ShaFile" 523), de P "__firstlineno__" 526 (.int 160 525), de P "__doc__" 528 (.str "A git SHA file." 527), de P "__init__" 537 (r 242), de P "as_raw_chunks" 545 (r 249), de P "as_raw_string" 553 (r 256), de P "set_raw_string" 562 (r 263), de P "set_raw_chunks" 571 (r 270), de P "from_string" 593 (r 279), de P "_header" 600 (r 287), de P "raw_length" 607 (r 294), de P "copy" 616 (r 301), de P "get_id" 624 (r 308), de P "__static_attributes__" 629 (r 309)] 15
noncomputable def o233 (P : Params) : Obj := flO #[(j 163), (j 4), (r 241), (j 170), (j 4), (r 248), (j 182), (j 4), (r 255), (j 189), (j 4), (r 262), (j 195), (j 4), (r 269), (j 203), (j 4), (r 276), (j 209), (j 4), (r 286), (j 212), (j 4), (r 293), (j 215), (j 4), (r 300), (j 227), (j 4), (r 307)]
noncomputable def o234 (P : Params) : Obj := cdO #[(.str "ShaFile" 517), (.str "ShaFile" 518), (cp 519), (j 160), (j 0), (j 0), (j 0), (j 0), (r 232), (.bool false), (j 181), (r 233), .none, .none, .none, .none, (j 520), (j 160), (cp 521)]
noncomputable def o235 (P : Params) : Obj := ⟨(.type "frame"), .none, .plain, #[(.some (r 234)), (.some (r 3)), (.some (r 231)), .none, (.some mO), .none, (.some (r 0))]⟩
noncomputable def o238 (P : Params) : Obj := tpO #[(.str "self" 533)]
noncomputable def o240 (P : Params) : Obj := ftO (fd "__init__" "ShaFile.__init__" (clsAt pb 37) 1 0 [] .none .none .none .none .none .none .none 0)
noncomputable def o241 (P : Params) : Obj := cdO #[(.str "__init__" 530), (.str "ShaFile.__init__" 531), (cp 532), (j 163), (j 1), (j 0), (j 0), (j 3), (r 236), (.bool true), (j 181), (r 237), .none, (r 238), (r 239), (r 240), (j 534), (j 163), (cp 535)]
noncomputable def o242 (P : Params) : Obj := fnO (fd "__init__" "ShaFile.__init__" (clsAt pb 37) 1 3 [] .none .none (.str "Initialize a ShaFile." 536) mO .none (r 241) .none 0)
noncomputable def o245 (P : Params) : Obj := tpO #[(.str "self" 541)]
noncomputable def o247 (P : Params) : Obj := ftO (fd "as_raw_chunks" "ShaFile.as_raw_chunks" (clsAt pb 37) 2 0 [] .none .none .none .none .none .none .none 0)
noncomputable def o248 (P : Params) : Obj := cdO #[(.str "as_raw_chunks" 538), (.str "ShaFile.as_raw_chunks" 539), (cp 540), (j 170), (j 1), (j 0), (j 0), (j 3), (r 243), (.bool true), (j 181), (r 244), .none, (r 245), (r 246), (r 247), (j 542), (j 170), (cp 543)]
noncomputable def o249 (P : Params) : Obj := fnO (fd "as_raw_chunks" "ShaFile.as_raw_chunks" (clsAt pb 37) 2 3 [] .none .none (.str "Return chunks with serialization of the object.\n\nReturns: List of strings, not necessarily one per line\n" 544) mO .none (r 248) .none 0)
noncomputable def o252 (P : Params) : Obj := tpO #[(.str "self" 549)]
noncomputable def o254 (P : Params) : Obj := ftO (fe "as_raw_string" "ShaFile.as_raw_string" (clsAt pb 37) 3 ((fnAt (clsAt pb 37) 2).2) 0 [] .none .none .none .none .none .none .none 0)
noncomputable def o255 (P : Params) : Obj := cdO #[(.str "as_raw_string" 546), (.str "ShaFile.as_raw_string" 547), (cp 548), (j 182), (j 1), (j 0), (j 0), (j 3), (r 250), (.bool true), (j 181), (r 251), .none, (r 252), (r 253), (r 254), (j 550), (j 182), (cp 551)]
noncomputable def o256 (P : Params) : Obj := fnO (fe "as_raw_string" "ShaFile.as_raw_string" (clsAt pb 37) 3 ((fnAt (clsAt pb 37) 2).2) 3 [] .none .none (.str "Return raw string with serialization of the object.\n\nReturns: String object\n" 552) mO .none (r 255) .none 0)
noncomputable def o259 (P : Params) : Obj := tpO #[(.str "self" 557), (.str "text" 558)]
noncomputable def o261 (P : Params) : Obj := ftO (fd "set_raw_string" "ShaFile.set_raw_string" (clsAt pb 37) 4 0 [] .none .none .none .none .none .none .none 0)
noncomputable def o262 (P : Params) : Obj := cdO #[(.str "set_raw_string" 554), (.str "ShaFile.set_raw_string" 555), (cp 556), (j 189), (j 2), (j 0), (j 0), (j 3), (r 257), (.bool true), (j 181), (r 258), .none, (r 259), (r 260), (r 261), (j 559), (j 189), (cp 560)]
noncomputable def o263 (P : Params) : Obj := fnO (fd "set_raw_string" "ShaFile.set_raw_string" (clsAt pb 37) 4 3 [] .none .none (.str "Set the contents of this object from a serialized string." 561) mO .none (r 262) .none 0)
noncomputable def o266 (P : Params) : Obj := tpO #[(.str "self" 566), (.str "chunks" 567)]
noncomputable def o268 (P : Params) : Obj := ftO (fd "set_raw_chunks" "ShaFile.set_raw_chunks" (clsAt pb 37) 5 0 [] .none .none .none .none .none .none .none 0)
noncomputable def o269 (P : Params) : Obj := cdO #[(.str "set_raw_chunks" 563), (.str "ShaFile.set_raw_chunks" 564), (cp 565), (j 195), (j 2), (j 0), (j 0), (j 3), (r 264), (.bool true), (j 181), (r 265), .none, (r 266), (r 267), (r 268), (j 568), (j 195), (cp 569)]
noncomputable def o270 (P : Params) : Obj := fnO (fd "set_raw_chunks" "ShaFile.set_raw_chunks" (clsAt pb 37) 5 3 [] .none .none (.str "Set the contents of this object from a list of chunks." 570) mO .none (r 269) .none 0)
noncomputable def o273 (P : Params) : Obj := tpO #[(.str "cls" 575), (.str "string" 576), (.str "obj" 577)]
noncomputable def o275 (P : Params) : Obj := ftO (fd "from_string" "ShaFile.from_string" (clsAt pb 37) 6 0 [] .none .none .none .none .none .none .none 0)
noncomputable def o276 (P : Params) : Obj := cdO #[(.str "from_string" 572), (.str "ShaFile.from_string" 573), (cp 574), (j 202), (j 2), (j 0), (j 0), (j 3), (r 271), (.bool true), (j 181), (r 272), .none, (r 273), (r 274), (r 275), (j 578), (j 202), (cp 579)]
noncomputable def o277 (P : Params) : Obj := fnO (fd "from_string" "ShaFile.from_string" (clsAt pb 37) 6 3 [] .none .none (.str "Create a ShaFile from a string." 580) mO (.some 280) (r 276) .none 0)
noncomputable def o278 (P : Params) : Obj := dcO #[de P "__module__" 582 mO, de P "__name__" 585 (.str "from_string" 584), de P "__qualname__" 588 (.str "ShaFile.from_string" 587), de P "__doc__" 590 (.str "Create a ShaFile from a string." 580), de P "__annotations__" 592 (r 280)] 5
noncomputable def o279 (P : Params) : Obj := ⟨(.type "classmethod"), (.some 278), (.fields #[(r 277), (.bool false)]), #[]⟩
noncomputable def o280 (P : Params) : Obj := dcO #[] 0
noncomputable def o283 (P : Params) : Obj := tpO #[(.str "self" 597)]
noncomputable def o285 (P : Params) : Obj := ftO (fd "_header" "ShaFile._header" (clsAt pb 37) 7 0 [] .none .none .none .none .none .none .none 0)
noncomputable def o286 (P : Params) : Obj := cdO #[(.str "_header" 594), (.str "ShaFile._header" 595), (cp 596), (j 209), (j 1), (j 0), (j 0), (j 3), (r 281), (.bool true), (j 181), (r 282), .none, (r 283), (r 284), (r 285), (j 598), (j 209), (cp 599)]
noncomputable def o287 (P : Params) : Obj := fnO (fd "_header" "ShaFile._header" (clsAt pb 37) 7 3 [] .none .none .none mO .none (r 286) .none 0)
noncomputable def o290 (P : Params) : Obj := tpO #[(.str "self" 604)]
noncomputable def o292 (P : Params) : Obj := ftO (fe "raw_length" "ShaFile.raw_length" (clsAt pb 37) 8 ((fnAt (clsAt pb 37) 7).2) 0 [] .none .none .none .none .none .none .none 0)
noncomputable def o293 (P : Params) : Obj := cdO #[(.str "raw_length" 601), (.str "ShaFile.raw_length" 602), (cp 603), (j 212), (j 1), (j 0), (j 0), (j 3), (r 288), (.bool true), (j 181), (r 289), .none, (r 290), (r 291), (r 292), (j 605), (j 212), (cp 606)]
noncomputable def o294 (P : Params) : Obj := fnO (fe "raw_length" "ShaFile.raw_length" (clsAt pb 37) 8 ((fnAt (clsAt pb 37) 7).2) 3 [] .none .none .none mO .none (r 293) .none 0)
noncomputable def o297 (P : Params) : Obj := tpO #[(.str "self" 611), (.str "obj" 612)]
noncomputable def o299 (P : Params) : Obj := ftO (fd "copy" "ShaFile.copy" (clsAt pb 37) 9 0 [] .none .none .none .none .none .none .none 0)
noncomputable def o300 (P : Params) : Obj := cdO #[(.str "copy" 608), (.str "ShaFile.copy" 609), (cp 610), (j 215), (j 1), (j 0), (j 0), (j 3), (r 295), (.bool true), (j 181), (r 296), .none, (r 297), (r 298), (r 299), (j 613), (j 215), (cp 614)]
noncomputable def o301 (P : Params) : Obj := fnO (fd "copy" "ShaFile.copy" (clsAt pb 37) 9 3 [] .none .none (.str "Create a new copy of this SHA1 object from its raw string." 615) mO .none (r 300) .none 0)
noncomputable def o304 (P : Params) : Obj := tpO #[(.str "self" 620), (.str "object_format" 621)]
noncomputable def o306 (P : Params) : Obj := ftO (fd "get_id" "ShaFile.get_id" (clsAt pb 37) 10 0 [] .none .none .none .none .none .none .none 0)
noncomputable def o307 (P : Params) : Obj := cdO #[(.str "get_id" 617), (.str "ShaFile.get_id" 618), (cp 619), (j 227), (j 2), (j 0), (j 0), (j 3), (r 302), (.bool true), (j 181), (r 303), .none, (r 304), (r 305), (r 306), (j 622), (j 227), (cp 623)]
noncomputable def o308 (P : Params) : Obj := fnO (fd "get_id" "ShaFile.get_id" (clsAt pb 37) 10 3 [] .none .none .none mO .none (r 307) .none 0)
noncomputable def o309 (P : Params) : Obj := tpO #[(.str "_chunked_text" 625), (.str "_needs_serialization" 626), (.str "_sha" 627), (.str "object_format" 628)]
noncomputable def o310 (P : Params) : Obj := dcO #[de P "__module__" 522 mO, de P "__firstlineno__" 526 (.int 160 525), de P "__doc__" 528 (.str "A git SHA file." 527), de P "__init__" 537 (r 242), de P "as_raw_chunks" 545 (r 249), de P "as_raw_string" 553 (r 256), de P "set_raw_string" 562 (r 263), de P "set_raw_chunks" 571 (r 270), de P "from_string" 593 (r 279), de P "_header" 600 (r 287), de P "raw_length" 607 (r 294), de P "copy" 616 (r 301), de P "get_id" 624 (r 308), de P "__static_attributes__" 629 (r 309), de P "__dict__" 631 (r 312), de P "__weakref__" 633 (r 313)] 3
noncomputable def o311 (P : Params) : Obj := ⟨(.type "type"), .none, (.cls ⟨"ShaFile", [(.type "object")], [(r 311), (.type "object")], 310, "ShaFile", true, [], [], false, .none, false⟩), #[.none, .none, (.some (.str "ShaFile" 515)), (.some (.str "ShaFile" 523)), (.some (.builtin "object.__new__")), (.some (.bool true))]⟩
noncomputable def o312 (P : Params) : Obj := ⟨(.type "getset_descriptor"), .none, (.fields #[(.str "__dict__" 630), (r 311), (.builtin "function.__dict__"), (.builtin "function.__dict__#set")]), #[]⟩
noncomputable def o313 (P : Params) : Obj := ⟨(.type "getset_descriptor"), .none, (.fields #[(.str "__weakref__" 632), (r 311), (.builtin "ExceptionGroup.__weakref__"), .none]), #[]⟩
noncomputable def o314 (P : Params) : Obj := ⟨(.type "super"), .none, (.fields #[(r 311), (r 311), (r 311)]), #[]⟩
noncomputable def o315 (P : Params) : Obj := ⟨(.type "builtin_function_or_method"), .none, (.fields #[(.builtin "object.__init_subclass__"), (r 311)]), #[]⟩
noncomputable def o3v2 (P : Params) : Obj := dcO #[de P "__name__" 165 mO, de P "__doc__" 166 .none, de P "__package__" 167 .none, de P "__loader__" 168 (.builtin "__main__.__loader__#opaque"), de P "__spec__" 169 .none, de P "__annotations__" 170 (r 6), de P "__builtins__" 171 (r 4), de P "__file__" 173 (cp 172), de P "__cached__" 174 .none, de P "_wall" 193 (r 21), de P "FileFormatException" 217 (r 31), de P "ObjectFormatException" 235 (r 44), de P "ObjectFormat" 285 (r 70), de P "SHA1" 307 (r 76), de P "DEFAULT_OBJECT_FORMAT" 308 (r 76), de P "_tuplegetter" 367 (r 116), de P "S_IFDIR" 369 (.int 16384 368), de P "S_IFREG" 371 (.int 32768 370), de P "S_IFLNK" 373 (.int 40960 372), de P "S_IFMT" 380 (r 127), de P "S_ISDIR" 387 (r 134), de P "hexlify" 393 (r 139), de P "_digit" 400 (r 146), de P "unhexlify" 406 (r 151), de P "ObjectID" 413 (r 158), de P "RawObjectID" 420 (r 165), de P "_TREE_HEADER" 422 (.bytes #[116, 114, 101, 101] 421), de P "_PARENT_HEADER" 424 (.bytes #[112, 97, 114, 101, 110, 116] 423), de P "_AUTHOR_HEADER" 426 (.bytes #[97, 117, 116, 104, 111, 114] 425), de P "_COMMITTER_HEADER" 428 (.bytes #[99, 111, 109, 109, 105, 116, 116, 101, 114] 427), de P "_ENCODING_HEADER" 430 (.bytes #[101, 110, 99, 111, 100, 105, 110, 103] 429), de P "_GPGSIG_HEADER" 432 (.bytes #[103, 112, 103, 115, 105, 103] 431), de P "S_IFGITLINK" 434 (.int 57344 433), de P "MAX_TIME" 436 (.int 9223372036854775807 435), de P "sha_to_hex" 445 (r 172), de P "hex_to_sha" 453 (r 179), de P "valid_hexsha" 461 (r 186), de P "check_hexsha" 470 (r 193), de P "check_identity" 481 (r 200), de P "check_time" 489 (r 207), de P "git_line" 498 (r 214), de P "is_commit" 506 (r 221), de P "is_tree" 514 (r 228), de P "ShaFile" 635 (r 311), de P "Blob" 729 (r 389), de P "_parse_message" 746 (r 398), de P "_format_message" 758 (r 405), de P "TreeEntry" 886 (r 476), de P "parse_tree" 906 (r 487), de P "serialize_tree" 917 (r 494), de P "sorted_tree_items" 931 (r 501), de P "key_entry" 942 (r 508), de P "key_entry_name_order" 950 (r 515), de P "Tree" 1086 (r 610)] 54
noncomputable def o12v2 (P : Params) : Obj := flO #[(j 1), (j 0), (r 20), (j 5), (j 0), (r 27), (j 7), (j 0), (r 40), (j 10), (j 0), (r 52), (j 34), (j 0), (r 83), (j 55), (j 0), (r 126), (j 57), (j 0), (r 133), (j 59), (j 0), (r 138), (j 62), (j 0), (r 145), (j 70), (j 0), (r 150), (j 74), (j 0), (r 157), (j 76), (j 0), (r 164), (j 86), (j 0), (r 171), (j 92), (j 0), (r 178), (j 97), (j 0), (r 185), (j 114), (j 0), (r 192), (j 125), (j 0), (r 199), (j 140), (j 0), (r 206), (j 151), (j 0), (r 213), (j 154), (j 0), (r 220), (j 157), (j 0), (r 227), (j 160), (j 0), (r 234), (j 229), (j 0), (r 322), (j 268), (j 0), (r 397), (j 309), (j 0), (r 404), (j 318), (j 0), (r 412), (j 361), (j 0), (r 486), (j 396), (j 0), (r 493), (j 405), (j 0), (r 500), (j 425), (j 0), (r 507), (j 435), (j 0), (r 514), (j 438), (j 0), (r 522)]
noncomputable def o311v1 (P : Params) : Obj := ⟨(.type "type"), .none, (.cls ⟨"ShaFile", [(.type "object")], [(r 311), (.type "object")], 310, "ShaFile", true, [], [(r 389), (r 610)], false, .none, false⟩), #[.none, .none, (.some (.str "ShaFile" 515)), (.some (.str "ShaFile" 523)), (.some (.builtin "object.__new__")), (.some (.bool true))]⟩
noncomputable def o316 (P : Params) : Obj := tpO #[(r 311)]
noncomputable def o318 (P : Params) : Obj := dcO #[de P "__module__" 643 mO, de P "__qualname__" 645 (.str "Blob" 644), de P "__firstlineno__" 647 (.int 229 646), de P "__doc__" 649 (.str "A Git Blob object." 648), de P "type_name" 652 (.bytes #[98, 108, 111, 98] 651), de P "type_num" 654 (.int 3 653), de P "__init__" 663 (r 331), de P "data" 672 (r 348), de P "chunked" 691 (r 365), de P "_serialize" 708 (r 372), de P "_deserialize" 716 (r 379), de P "splitlines" 723 (r 386), de P "__static_attributes__" 726 (r 387), de P "__classcell__" 727 (r 319)] 14
noncomputable def o319 (P : Params) : Obj := ⟨(.type "cell"), .none, (.cell (.some (r 389))), #[]⟩
noncomputable def o321 (P : Params) : Obj := flO #[(j 234), (j 4), (r 330), (j 241), (j 4), (r 337), (j 246), (j 4), (r 346), (j 250), (j 4), (r 354), (j 256), (j 4), (r 363), (j 259), (j 4), (r 371), (j 263), (j 4), (r 378), (j 266), (j 4), (r 385)]
noncomputable def o322 (P : Params) : Obj := cdO #[(.str "Blob" 638), (.str "Blob" 639), (cp 640), (j 229), (j 0), (j 0), (j 0), (j 0), (r 320), (.bool false), (j 181), (r 321), .none, .none, .none, .none, (j 641), (j 229), (cp 642)]
noncomputable def o323 (P : Params) : Obj := ⟨(.type "frame"), .none, .plain, #[(.some (r 322)), (.some (r 3)), (.some (r 318)), .none, (.some mO), .none, (.some (r 0))]⟩
noncomputable def o324 (P : Params) : Obj := tpO #[(r 319)]
noncomputable def o325 (P : Params) : Obj := tpO #[(.str "__class__" 658)]
noncomputable def o327 (P : Params) : Obj := tpO #[(.str "self" 659)]
noncomputable def o329 (P : Params) : Obj := ftO (fd "__init__" "Blob.__init__" (clsAt pb 38) 3 0 [] .none .none .none .none .none .none .none 0)
noncomputable def o330 (P : Params) : Obj := cdO #[(.str "__init__" 655), (.str "Blob.__init__" 656), (cp 657), (j 234), (j 1), (j 0), (j 0), (j 3), (r 325), (.bool true), (j 181), (r 326), .none, (r 327), (r 328), (r 329), (j 660), (j 234), (cp 661)]
noncomputable def o331 (P : Params) : Obj := fnO (fd "__init__" "Blob.__init__" (clsAt pb 38) 3 3 [("__class__", 319)] .none .none (.str "Initialize a new Blob object." 662) mO .none (r 330) (r 324) 0)
noncomputable def o334 (P : Params) : Obj := tpO #[(.str "self" 667)]
noncomputable def o336 (P : Params) : Obj := ftO (fe "data" "Blob.data" (clsAt pb 38) 4 ((fnAt (clsAt pb 37) 2).2) 0 [] .none .none .none .none .none .none .none 0)
noncomputable def o337 (P : Params) : Obj := cdO #[(.str "data" 664), (.str "Blob.data" 665), (cp 666), (j 240), (j 1), (j 0), (j 0), (j 3), (r 332), (.bool true), (j 181), (r 333), .none, (r 334), (r 335), (r 336), (j 668), (j 240), (cp 669)]
noncomputable def o338 (P : Params) : Obj := fnO (fe "data" "Blob.data" (clsAt pb 38) 4 ((fnAt (clsAt pb 37) 2).2) 3 [] .none .none (.str "The text contained within the blob object." 670) mO .none (r 337) .none 0)
noncomputable def o339 (P : Params) : Obj := ⟨(.type "property"), .none, (.fields #[(r 338), .none, .none, (.str "The text contained within the blob object." 670), (j 0), (.bool true)]), #[]⟩
noncomputable def o340 (P : Params) : Obj := ⟨(.type "builtin_function_or_method"), .none, (.fields #[(.builtin "property.setter"), (r 339)]), #[]⟩
noncomputable def o343 (P : Params) : Obj := tpO #[(.str "self" 677), (.str "data" 678)]
noncomputable def o345 (P : Params) : Obj := ftO (fd "data" "Blob.data" (clsAt pb 38) 5 0 [] .none .none .none .none .none .none .none 0)
noncomputable def o346 (P : Params) : Obj := cdO #[(.str "data" 674), (.str "Blob.data" 675), (cp 676), (j 245), (j 2), (j 0), (j 0), (j 3), (r 341), (.bool true), (j 181), (r 342), .none, (r 343), (r 344), (r 345), (j 679), (j 245), (cp 680)]
noncomputable def o347 (P : Params) : Obj := fnO (fd "data" "Blob.data" (clsAt pb 38) 5 3 [] .none .none .none mO .none (r 346) .none 0)
noncomputable def o348 (P : Params) : Obj := ⟨(.type "property"), .none, (.fields #[(r 338), (r 347), .none, (.str "The text contained within the blob object." 670), (.str "data" 672), (.bool true)]), #[]⟩
noncomputable def o351 (P : Params) : Obj := tpO #[(.str "self" 686)]
noncomputable def o353 (P : Params) : Obj := ftO (fe "chunked" "Blob.chunked" (clsAt pb 38) 6 ((fnAt (clsAt pb 37) 2).2) 0 [] .none .none .none .none .none .none .none 0)
noncomputable def o354 (P : Params) : Obj := cdO #[(.str "chunked" 683), (.str "Blob.chunked" 684), (cp 685), (j 249), (j 1), (j 0), (j 0), (j 3), (r 349), (.bool true), (j 181), (r 350), .none, (r 351), (r 352), (r 353), (j 687), (j 249), (cp 688)]
noncomputable def o355 (P : Params) : Obj := fnO (fe "chunked" "Blob.chunked" (clsAt pb 38) 6 ((fnAt (clsAt pb 37) 2).2) 3 [] .none .none (.str "The text in the blob object, as chunks (not necessarily lines)." 689) mO .none (r 354) .none 0)
noncomputable def o356 (P : Params) : Obj := ⟨(.type "property"), .none, (.fields #[(r 355), .none, .none, (.str "The text in the blob object, as chunks (not necessarily lines)." 689), (j 0), (.bool true)]), #[]⟩
noncomputable def o357 (P : Params) : Obj := ⟨(.type "builtin_function_or_method"), .none, (.fields #[(.builtin "property.setter"), (r 356)]), #[]⟩
noncomputable def o360 (P : Params) : Obj := tpO #[(.str "self" 696), (.str "chunks" 697)]
noncomputable def o362 (P : Params) : Obj := ftO (fe "chunked" "Blob.chunked" (clsAt pb 38) 7 ((fnAt (clsAt pb 37) 5).2) 0 [] .none .none .none .none .none .none .none 0)
noncomputable def o363 (P : Params) : Obj := cdO #[(.str "chunked" 693), (.str "Blob.chunked" 694), (cp 695), (j 255), (j 2), (j 0), (j 0), (j 3), (r 358), (.bool true), (j 181), (r 359), .none, (r 360), (r 361), (r 362), (j 698), (j 255), (cp 699)]
noncomputable def o364 (P : Params) : Obj := fnO (fe "chunked" "Blob.chunked" (clsAt pb 38) 7 ((fnAt (clsAt pb 37) 5).2) 3 [] .none .none .none mO .none (r 363) .none 0)
noncomputable def o365 (P : Params) : Obj := ⟨(.type "property"), .none, (.fields #[(r 355), (r 364), .none, (.str "The text in the blob object, as chunks (not necessarily lines)." 689), (.str "chunked" 691), (.bool true)]), #[]⟩
noncomputable def o368 (P : Params) : Obj := tpO #[(.str "self" 705)]
noncomputable def o370 (P : Params) : Obj := ftO (fe "_serialize" "Blob._serialize" (clsAt pb 38) 8 ((fnAt (clsAt pb 37) 2).2) 0 [] .none .none .none .none .none .none .none 0)
noncomputable def o371 (P : Params) : Obj := cdO #[(.str "_serialize" 702), (.str "Blob._serialize" 703), (cp 704), (j 259), (j 1), (j 0), (j 0), (j 3), (r 366), (.bool true), (j 181), (r 367), .none, (r 368), (r 369), (r 370), (j 706), (j 259), (cp 707)]
noncomputable def o372 (P : Params) : Obj := fnO (fe "_serialize" "Blob._serialize" (clsAt pb 38) 8 ((fnAt (clsAt pb 37) 2).2) 3 [] .none .none .none mO .none (r 371) .none 0)
noncomputable def o375 (P : Params) : Obj := tpO #[(.str "self" 712), (.str "chunks" 713)]
noncomputable def o377 (P : Params) : Obj := ftO (fe "_deserialize" "Blob._deserialize" (clsAt pb 38) 9 ((fnAt (clsAt pb 37) 5).2) 0 [] .none .none .none .none .none .none .none 0)
noncomputable def o378 (P : Params) : Obj := cdO #[(.str "_deserialize" 709), (.str "Blob._deserialize" 710), (cp 711), (j 263), (j 2), (j 0), (j 0), (j 3), (r 373), (.bool true), (j 181), (r 374), .none, (r 375), (r 376), (r 377), (j 714), (j 263), (cp 715)]
noncomputable def o379 (P : Params) : Obj := fnO (fe "_deserialize" "Blob._deserialize" (clsAt pb 38) 9 ((fnAt (clsAt pb 37) 5).2) 3 [] .none .none .none mO .none (r 378) .none 0)
noncomputable def o382 (P : Params) : Obj := tpO #[(.str "self" 720)]
noncomputable def o384 (P : Params) : Obj := ftO (fe "splitlines" "Blob.splitlines" (clsAt pb 38) 10 ((fnAt (clsAt pb 37) 7).2) 0 [] .none .none .none .none .none .none .none 0)
noncomputable def o385 (P : Params) : Obj := cdO #[(.str "splitlines" 717), (.str "Blob.splitlines" 718), (cp 719), (j 266), (j 1), (j 0), (j 0), (j 3), (r 380), (.bool true), (j 181), (r 381), .none, (r 382), (r 383), (r 384), (j 721), (j 266), (cp 722)]
noncomputable def o386 (P : Params) : Obj := fnO (fe "splitlines" "Blob.splitlines" (clsAt pb 38) 10 ((fnAt (clsAt pb 37) 7).2) 3 [] .none .none .none mO .none (r 385) .none 0)
noncomputable def o387 (P : Params) : Obj := tpO #[(.str "_chunked_text" 724), (.str "_needs_serialization" 725)]
noncomputable def o388 (P : Params) : Obj := dcO #[de P "__module__" 643 mO, de P "__firstlineno__" 647 (.int 229 646), de P "__doc__" 649 (.str "A Git Blob object." 648), de P "type_name" 652 (.bytes #[98, 108, 111, 98] 651), de P "type_num" 654 (.int 3 653), de P "__init__" 663 (r 331), de P "data" 672 (r 348), de P "chunked" 691 (r 365), de P "_serialize" 708 (r 372), de P "_deserialize" 716 (r 379), de P "splitlines" 723 (r 386), de P "__static_attributes__" 726 (r 387)] 2
noncomputable def o389 (P : Params) : Obj := ⟨(.type "type"), .none, (.cls ⟨"Blob", [(r 311)], [(r 389), (r 311), (.type "object")], 388, "Blob", true, [], [], false, .none, false⟩), #[(.some (r 316)), .none, (.some (.str "Blob" 636)), (.some (.str "Blob" 644)), (.some (.builtin "object.__new__")), (.some (.bool true))]⟩
noncomputable def o390 (P : Params) : Obj := ⟨(.type "super"), .none, (.fields #[(r 389), (r 389), (r 389)]), #[]⟩
noncomputable def o391 (P : Params) : Obj := ⟨(.type "builtin_function_or_method"), .none, (.fields #[(.builtin "object.__init_subclass__"), (r 389)]), #[]⟩
noncomputable def o394 (P : Params) : Obj := tpO #[(.str "chunks" 733), (.str "text" 734), (.str "place" 735), (.str "k" 736), (.str "v" 737), (.str "eof" 738), (.str "_strip_last_newline" 739), (.str "end" 740), (.str "line" 741), (.str "rest" 742)]
noncomputable def o396 (P : Params) : Obj := ftO (fd "_parse_message" "_parse_message" pb 39 0 [] .none .none .none .none .none .none .none 0)
noncomputable def o397 (P : Params) : Obj := cdO #[(.str "_parse_message" 730), (.str "_parse_message" 731), (cp 732), (j 268), (j 1), (j 0), (j 0), (j 35), (r 392), (.bool true), (j 181), (r 393), .none, (r 394), (r 395), (r 396), (j 743), (j 268), (cp 744)]
noncomputable def o398 (P : Params) : Obj := fnO (fd "_parse_message" "_parse_message" pb 39 3 [] .none .none (.str "Parse a message with a list of fields and a body.\n\nArgs:\n  chunks: the raw chunks of the tag or commit object.\nReturns: iterator of tuples of (field, value), one per header line, in the\n    order read from the text, possibly including duplicates. Includes a\n    field named None for the freeform tag/commit text.\n" 745) mO .none (r 397) .none 0)
noncomputable def o401 (P : Params) : Obj := tpO #[(.str "headers" 750), (.str "body" 751), (.str "field" 752), (.str "value" 753), (.str "lines" 754), (.str "line" 755)]
noncomputable def o403 (P : Params) : Obj := ftO (fd "_format_message" "_format_message" pb 40 0 [] .none .none .none .none .none .none .none 0)
noncomputable def o404 (P : Params) : Obj := cdO #[(.str "_format_message" 747), (.str "_format_message" 748), (cp 749), (j 309), (j 2), (j 0), (j 0), (j 35), (r 399), (.bool true), (j 181), (r 400), .none, (r 401), (r 402), (r 403), (j 756), (j 309), (cp 757)]
noncomputable def o405 (P : Params) : Obj := fnO (fd "_format_message" "_format_message" pb 40 3 [] .none .none .none mO .none (r 404) .none 0)
noncomputable def o406 (P : Params) : Obj := tpO #[(.type "tuple")]
noncomputable def o408 (P : Params) : Obj := dcO #[de P "__module__" 766 mO, de P "__qualname__" 768 (.str "TreeEntry" 767), de P "__firstlineno__" 770 (.int 318 769), de P "__doc__" 772 (.str "TreeEntry(path, mode, sha)" 771), de P "__slots__" 774 (r 414), de P "_fields" 778 (r 415), de P "_field_defaults" 779 (r 416), de P "__new__" 790 (r 423), de P "_make" 812 (r 432), de P "_replace" 823 (r 441), de P "__replace__" 824 (r 441), de P "__repr__" 832 (r 448), de P "_asdict" 839 (r 455), de P "__getnewargs__" 847 (r 462), de P "__match_args__" 851 (r 463), de P "path" 861 (r 465), de P "mode" 871 (r 468), de P "sha" 881 (r 471), de P "__static_attributes__" 882 (r 473), de P "__classcell__" 883 (r 409)] 20
noncomputable def o409 (P : Params) : Obj := ⟨(.type "cell"), .none, (.cell (.some (r 476))), #[]⟩
noncomputable def o411 (P : Params) : Obj := flO #[(j 324), (j 4), (r 422), (j 329), (j 4), (r 429), (j 336), (j 4), (r 440), (j 347), (j 4), (r 447), (j 351), (j 4), (r 454), (j 354), (j 4), (r 461)]
noncomputable def o412 (P : Params) : Obj := cdO #[(.str "TreeEntry" 761), (.str "TreeEntry" 762), (cp 763), (j 318), (j 0), (j 0), (j 0), (j 0), (r 410), (.bool false), (j 181), (r 411), .none, .none, .none, .none, (j 764), (j 318), (cp 765)]
noncomputable def o413 (P : Params) : Obj := ⟨(.type "frame"), .none, .plain, #[(.some (r 412)), (.some (r 3)), (.some (r 408)), .none, (.some mO), .none, (.some (r 0))]⟩
noncomputable def o415 (P : Params) : Obj := tpO #[(.str "path" 775), (.str "mode" 776), (.str "sha" 777)]
noncomputable def o419 (P : Params) : Obj := tpO #[(.str "_cls" 783), (.str "path" 784), (.str "mode" 785), (.str "sha" 786)]
noncomputable def o421 (P : Params) : Obj := ftO (fd "__new__" "TreeEntry.__new__" (clsAt pb 41) 4 0 [] .none .none .none .none .none .none .none 0)
noncomputable def o422 (P : Params) : Obj := cdO #[(.str "__new__" 780), (.str "TreeEntry.__new__" 781), (cp 782), (j 324), (j 4), (j 0), (j 0), (j 3), (r 417), (.bool true), (j 181), (r 418), .none, (r 419), (r 420), (r 421), (j 787), (j 324), (cp 788)]
noncomputable def o423 (P : Params) : Obj := fnO (fd "__new__" "TreeEntry.__new__" (clsAt pb 41) 4 3 [] .none .none (.str "Create new instance of TreeEntry(path, mode, sha)" 789) mO .none (r 422) .none 0)
noncomputable def o426 (P : Params) : Obj := tpO #[(.str "cls" 794), (.str "iterable" 795), (.str "result" 796)]
noncomputable def o428 (P : Params) : Obj := ftO (fd "_make" "TreeEntry._make" (clsAt pb 41) 5 0 [] .none .none .none .none .none .none .none 0)
noncomputable def o429 (P : Params) : Obj := cdO #[(.str "_make" 791), (.str "TreeEntry._make" 792), (cp 793), (j 328), (j 2), (j 0), (j 0), (j 3), (r 424), (.bool true), (j 181), (r 425), .none, (r 426), (r 427), (r 428), (j 797), (j 328), (cp 798)]
noncomputable def o430 (P : Params) : Obj := fnO (fd "_make" "TreeEntry._make" (clsAt pb 41) 5 3 [] .none .none (.str "Make a new TreeEntry object from a sequence or iterable" 799) mO (.some 433) (r 429) .none 0)
noncomputable def o431 (P : Params) : Obj := dcO #[de P "__module__" 801 mO, de P "__name__" 804 (.str "_make" 803), de P "__qualname__" 807 (.str "TreeEntry._make" 806), de P "__doc__" 809 (.str "Make a new TreeEntry object from a sequence or iterable" 799), de P "__annotations__" 811 (r 433)] 5
noncomputable def o432 (P : Params) : Obj := ⟨(.type "classmethod"), (.some 431), (.fields #[(r 430), (.bool false)]), #[]⟩
noncomputable def o434 (P : Params) : Obj := tpO #[(r 409)]
noncomputable def o435 (P : Params) : Obj := tpO #[(.str "__class__" 816)]
noncomputable def o437 (P : Params) : Obj := tpO #[(.str "self" 817), (.str "kwds" 818), (.str "result" 819)]
noncomputable def o439 (P : Params) : Obj := ftO (fd "_replace" "TreeEntry._replace" (clsAt pb 41) 6 0 [] .none .none .none .none .none .none .none 0)
noncomputable def o440 (P : Params) : Obj := cdO #[(.str "_replace" 813), (.str "TreeEntry._replace" 814), (cp 815), (j 336), (j 1), (j 1), (j 0), (j 11), (r 435), (.bool true), (j 181), (r 436), .none, (r 437), (r 438), (r 439), (j 820), (j 336), (cp 821)]
noncomputable def o441 (P : Params) : Obj := fnO (fd "_replace" "TreeEntry._replace" (clsAt pb 41) 6 3 [("__class__", 409)] .none .none (.str "Return a new TreeEntry object replacing specified fields with new values" 822) mO .none (r 440) (r 434) 0)
noncomputable def o444 (P : Params) : Obj := tpO #[(.str "self" 828)]
noncomputable def o446 (P : Params) : Obj := ftO (fe "__repr__" "TreeEntry.__repr__" (clsAt pb 41) 8 ((fnAt (clsAt pb 37) 2).2) 0 [] .none .none .none .none .none .none .none 0)
noncomputable def o447 (P : Params) : Obj := cdO #[(.str "__repr__" 825), (.str "TreeEntry.__repr__" 826), (cp 827), (j 347), (j 1), (j 0), (j 0), (j 3), (r 442), (.bool true), (j 181), (r 443), .none, (r 444), (r 445), (r 446), (j 829), (j 347), (cp 830)]
noncomputable def o448 (P : Params) : Obj := fnO (fe "__repr__" "TreeEntry.__repr__" (clsAt pb 41) 8 ((fnAt (clsAt pb 37) 2).2) 3 [] .none .none (.str "Return a nicely formatted representation string" 831) mO .none (r 447) .none 0)
noncomputable def o451 (P : Params) : Obj := tpO #[(.str "self" 836)]
noncomputable def o453 (P : Params) : Obj := ftO (fe "_asdict" "TreeEntry._asdict" (clsAt pb 41) 9 ((fnAt (clsAt pb 37) 7).2) 0 [] .none .none .none .none .none .none .none 0)
noncomputable def o454 (P : Params) : Obj := cdO #[(.str "_asdict" 833), (.str "TreeEntry._asdict" 834), (cp 835), (j 351), (j 1), (j 0), (j 0), (j 3), (r 449), (.bool true), (j 181), (r 450), .none, (r 451), (r 452), (r 453), (j 837), (j 351), (cp 838)]
noncomputable def o455 (P : Params) : Obj := fnO (fe "_asdict" "TreeEntry._asdict" (clsAt pb 41) 9 ((fnAt (clsAt pb 37) 7).2) 3 [] .none .none .none mO .none (r 454) .none 0)
noncomputable def o458 (P : Params) : Obj := tpO #[(.str "self" 843)]
noncomputable def o460 (P : Params) : Obj := ftO (fd "__getnewargs__" "TreeEntry.__getnewargs__" (clsAt pb 41) 10 0 [] .none .none .none .none .none .none .none 0)
noncomputable def o461 (P : Params) : Obj := cdO #[(.str "__getnewargs__" 840), (.str "TreeEntry.__getnewargs__" 841), (cp 842), (j 354), (j 1), (j 0), (j 0), (j 3), (r 456), (.bool true), (j 181), (r 457), .none, (r 458), (r 459), (r 460), (j 844), (j 354), (cp 845)]
noncomputable def o462 (P : Params) : Obj := fnO (fd "__getnewargs__" "TreeEntry.__getnewargs__" (clsAt pb 41) 10 3 [] .none .none (.str "Return self as a plain tuple.  Used by copy and pickle." 846) mO .none (r 461) .none 0)
noncomputable def o463 (P : Params) : Obj := tpO #[(.str "path" 848), (.str "mode" 849), (.str "sha" 850)]
noncomputable def o464 (P : Params) : Obj := dcO #[de P "index" 858 (.int 0 852), de P "__doc__" 860 (.str "Alias for field number 0" 853)] 2
noncomputable def o465 (P : Params) : Obj := ⟨(r 116), (.some 464), .plain, #[]⟩
noncomputable def o466 (P : Params) : Obj := ⟨(.type "frame"), .none, (.dict #[de P "self" 854 (r 465), de P "index" 855 (.int 0 852), de P "doc" 856 (.str "Alias for field number 0" 853)] 3), #[]⟩
noncomputable def o467 (P : Params) : Obj := dcO #[de P "index" 868 (.int 1 862), de P "__doc__" 870 (.str "Alias for field number 1" 863)] 2
noncomputable def o468 (P : Params) : Obj := ⟨(r 116), (.some 467), .plain, #[]⟩
noncomputable def o469 (P : Params) : Obj := ⟨(.type "frame"), .none, (.dict #[de P "self" 864 (r 468), de P "index" 865 (.int 1 862), de P "doc" 866 (.str "Alias for field number 1" 863)] 3), #[]⟩
noncomputable def o470 (P : Params) : Obj := dcO #[de P "index" 878 (.int 2 872), de P "__doc__" 880 (.str "Alias for field number 2" 873)] 2
noncomputable def o471 (P : Params) : Obj := ⟨(r 116), (.some 470), .plain, #[]⟩
noncomputable def o472 (P : Params) : Obj := ⟨(.type "frame"), .none, (.dict #[de P "self" 874 (r 471), de P "index" 875 (.int 2 872), de P "doc" 876 (.str "Alias for field number 2" 873)] 3), #[]⟩
noncomputable def o474 (P : Params) : Obj := ⟨(.type "list"), .none, (.seq #[] 0), #[]⟩
noncomputable def o475 (P : Params) : Obj := dcO #[de P "__module__" 766 mO, de P "__firstlineno__" 770 (.int 318 769), de P "__doc__" 772 (.str "TreeEntry(path, mode, sha)" 771), de P "__slots__" 774 (r 414), de P "_fields" 778 (r 415), de P "_field_defaults" 779 (r 416), de P "__new__" 790 (r 477), de P "_make" 812 (r 432), de P "_replace" 823 (r 441), de P "__replace__" 824 (r 441), de P "__repr__" 832 (r 448), de P "_asdict" 839 (r 455), de P "__getnewargs__" 847 (r 462), de P "__match_args__" 851 (r 463), de P "path" 861 (r 465), de P "mode" 871 (r 468), de P "sha" 881 (r 471), de P "__static_attributes__" 882 (r 473)] 2
noncomputable def o476 (P : Params) : Obj := ⟨(.type "type"), .none, (.cls ⟨"TreeEntry", [(.type "tuple")], [(r 476), (.type "tuple"), (.type "object")], 475, "TreeEntry", false, [], [], false, .none, false⟩), #[(.some (r 406)), .none, (.some (.str "TreeEntry" 759)), (.some (.str "TreeEntry" 767)), (.some .none), (.some (.bool false))]⟩
noncomputable def o477 (P : Params) : Obj := ⟨(.type "staticmethod"), .none, (.fields #[(r 423)]), #[]⟩
noncomputable def o478 (P : Params) : Obj := ⟨(.type "super"), .none, (.fields #[(r 476), (r 476), (r 476)]), #[]⟩
noncomputable def o479 (P : Params) : Obj := ⟨(.type "builtin_function_or_method"), .none, (.fields #[(.builtin "object.__init_subclass__"), (r 476)]), #[]⟩
noncomputable def o480 (P : Params) : Obj := tpO #[.none, (.bool false)]
noncomputable def o483 (P : Params) : Obj := tpO #[(.str "text" 890), (.str "sha_len" 891), (.str "strict" 892), (.str "count" 893), (.str "length" 894), (.str "mode_end" 895), (.str "mode_text" 896), (.str "mode" 897), (.str "exc" 898), (.str "name_end" 899), (.str "name" 900), (.str "sha" 901), (.str "hexsha" 902)]
noncomputable def o485 (P : Params) : Obj := ftO (fd "parse_tree" "parse_tree" pb 42 0 [] .none .none .none .none .none .none .none 0)
noncomputable def o486 (P : Params) : Obj := cdO #[(.str "parse_tree" 887), (.str "parse_tree" 888), (cp 889), (j 361), (j 3), (j 0), (j 0), (j 35), (r 481), (.bool true), (j 181), (r 482), .none, (r 483), (r 484), (r 485), (j 903), (j 361), (cp 904)]
noncomputable def o487 (P : Params) : Obj := fnO (fd "parse_tree" "parse_tree" pb 42 3 [] (r 480) .none (.str "Parse a tree text.\n\nArgs:\n  text: Serialized text to parse\n  sha_len: Length of the object IDs in bytes\n  strict: Whether to be strict about format\nReturns: iterator of tuples of (name, mode, sha)\n\nRaises:\n  ObjectFormatException: if the object was malformed in some way\n" 905) mO .none (r 486) .none 0)
noncomputable def o490 (P : Params) : Obj := tpO #[(.str "items" 910), (.str "name" 911), (.str "mode" 912), (.str "hexsha" 913)]
noncomputable def o492 (P : Params) : Obj := ftO (fd "serialize_tree" "serialize_tree" pb 43 0 [] .none .none .none .none .none .none .none 0)
noncomputable def o493 (P : Params) : Obj := cdO #[(.str "serialize_tree" 907), (.str "serialize_tree" 908), (cp 909), (j 396), (j 1), (j 0), (j 0), (j 35), (r 488), (.bool true), (j 181), (r 489), .none, (r 490), (r 491), (r 492), (j 914), (j 396), (cp 915)]
noncomputable def o494 (P : Params) : Obj := fnO (fd "serialize_tree" "serialize_tree" pb 43 3 [] .none .none (.str "Serialize the items in a tree to a text.\n\nArgs:\n  items: Sorted iterable over (name, mode, sha) tuples\nReturns: Serialized tree text as chunks\n" 916) mO .none (r 493) .none 0)
noncomputable def o497 (P : Params) : Obj := tpO #[(.str "entries" 921), (.str "name_order" 922), (.str "key_func" 923), (.str "name" 924), (.str "entry" 925), (.str "mode" 926), (.str "hexsha" 927)]
noncomputable def o499 (P : Params) : Obj := ftO (fd "sorted_tree_items" "sorted_tree_items" pb 44 0 [] .none .none .none .none .none .none .none 0)
noncomputable def o500 (P : Params) : Obj := cdO #[(.str "sorted_tree_items" 918), (.str "sorted_tree_items" 919), (cp 920), (j 405), (j 2), (j 0), (j 0), (j 35), (r 495), (.bool true), (j 181), (r 496), .none, (r 497), (r 498), (r 499), (j 928), (j 405), (cp 929)]
noncomputable def o501 (P : Params) : Obj := fnO (fd "sorted_tree_items" "sorted_tree_items" pb 44 3 [] .none .none (.str "Iterate over a tree entries dictionary.\n\nArgs:\n  name_order: If True, iterate entries in order of their name. If\n    False, iterate entries in tree order, that is, treat subtree entries as\n    having '/' appended.\n  entries: Dictionary mapping names to (mode, sha) tuples\nReturns: Iterator over (name, mode, hexsha)\n" 930) mO .none (r 500) .none 0)
noncomputable def o504 (P : Params) : Obj := tpO #[(.str "entry" 935), (.str "name" 936), (.str "mode" 937), (.str "_sha" 938)]
noncomputable def o506 (P : Params) : Obj := ftO (fd "key_entry" "key_entry" pb 45 0 [] .none .none .none .none .none .none .none 0)
noncomputable def o507 (P : Params) : Obj := cdO #[(.str "key_entry" 932), (.str "key_entry" 933), (cp 934), (j 425), (j 1), (j 0), (j 0), (j 3), (r 502), (.bool true), (j 181), (r 503), .none, (r 504), (r 505), (r 506), (j 939), (j 425), (cp 940)]
noncomputable def o508 (P : Params) : Obj := fnO (fd "key_entry" "key_entry" pb 45 3 [] .none .none (.str "Sort key for tree entry.\n\nArgs:\n  entry: (name, value) tuple\n" 941) mO .none (r 507) .none 0)
noncomputable def o511 (P : Params) : Obj := tpO #[(.str "entry" 946)]
noncomputable def o513 (P : Params) : Obj := ftO (fd "key_entry_name_order" "key_entry_name_order" pb 46 0 [] .none .none .none .none .none .none .none 0)
noncomputable def o514 (P : Params) : Obj := cdO #[(.str "key_entry_name_order" 943), (.str "key_entry_name_order" 944), (cp 945), (j 435), (j 1), (j 0), (j 0), (j 3), (r 509), (.bool true), (j 181), (r 510), .none, (r 511), (r 512), (r 513), (j 947), (j 435), (cp 948)]
noncomputable def o515 (P : Params) : Obj := fnO (fd "key_entry_name_order" "key_entry_name_order" pb 46 3 [] .none .none (.str "Sort key for tree entry in name order." 949) mO .none (r 514) .none 0)
noncomputable def o518 (P : Params) : Obj := dcO #[de P "__module__" 958 mO, de P "__qualname__" 960 (.str "Tree" 959), de P "__firstlineno__" 962 (.int 438 961), de P "__doc__" 964 (.str "A Git tree object." 963), de P "type_name" 967 (.bytes #[116, 114, 101, 101] 966), de P "type_num" 969 (.int 2 968), de P "__init__" 978 (r 531), de P "__contains__" 987 (r 538), de P "__getitem__" 996 (r 545), de P "__setitem__" 1008 (r 552), de P "__delitem__" 1017 (r 559), de P "__len__" 1025 (r 566), de P "add" 1035 (r 573), de P "iteritems" 1044 (r 581), de P "items" 1052 (r 588), de P "_deserialize" 1059 (r 593), de P "check" 1073 (r 600), de P "_serialize" 1080 (r 607), de P "__static_attributes__" 1083 (r 608), de P "__classcell__" 1084 (r 519)] 20
noncomputable def o519 (P : Params) : Obj := ⟨(.type "cell"), .none, (.cell (.some (r 610))), #[]⟩
noncomputable def o521 (P : Params) : Obj := flO #[(j 443), (j 4), (r 530), (j 448), (j 4), (r 537), (j 452), (j 4), (r 544), (j 456), (j 4), (r 551), (j 469), (j 4), (r 558), (j 474), (j 4), (r 565), (j 478), (j 4), (r 572), (j 481), (j 4), (r 580), (j 491), (j 4), (r 587), (j 498), (j 4), (r 592), (j 506), (j 4), (r 599), (j 530), (j 4), (r 606)]
noncomputable def o522 (P : Params) : Obj := cdO #[(.str "Tree" 953), (.str "Tree" 954), (cp 955), (j 438), (j 0), (j 0), (j 0), (j 0), (r 520), (.bool false), (j 181), (r 521), .none, .none, .none, .none, (j 956), (j 438), (cp 957)]
noncomputable def o523 (P : Params) : Obj := ⟨(.type "frame"), .none, .plain, #[(.some (r 522)), (.some (r 3)), (.some (r 518)), .none, (.some mO), .none, (.some (r 0))]⟩
noncomputable def o524 (P : Params) : Obj := tpO #[(r 519)]
noncomputable def o525 (P : Params) : Obj := tpO #[(.str "__class__" 973)]
noncomputable def o527 (P : Params) : Obj := tpO #[(.str "self" 974)]
noncomputable def o529 (P : Params) : Obj := ftO (fe "__init__" "Tree.__init__" (clsAt pb 47) 3 ((fnAt (clsAt pb 38) 3).2) 0 [] .none .none .none .none .none .none .none 0)
noncomputable def o530 (P : Params) : Obj := cdO #[(.str "__init__" 970), (.str "Tree.__init__" 971), (cp 972), (j 443), (j 1), (j 0), (j 0), (j 3), (r 525), (.bool true), (j 181), (r 526), .none, (r 527), (r 528), (r 529), (j 975), (j 443), (cp 976)]
noncomputable def o531 (P : Params) : Obj := fnO (fe "__init__" "Tree.__init__" (clsAt pb 47) 3 ((fnAt (clsAt pb 38) 3).2) 3 [("__class__", 519)] .none .none (.str "Initialize an empty Tree." 977) mO .none (r 530) (r 524) 0)
noncomputable def o534 (P : Params) : Obj := tpO #[(.str "self" 982), (.str "name" 983)]
noncomputable def o536 (P : Params) : Obj := ftO (fd "__contains__" "Tree.__contains__" (clsAt pb 47) 4 0 [] .none .none .none .none .none .none .none 0)
noncomputable def o537 (P : Params) : Obj := cdO #[(.str "__contains__" 979), (.str "Tree.__contains__" 980), (cp 981), (j 448), (j 2), (j 0), (j 0), (j 3), (r 532), (.bool true), (j 181), (r 533), .none, (r 534), (r 535), (r 536), (j 984), (j 448), (cp 985)]
noncomputable def o538 (P : Params) : Obj := fnO (fd "__contains__" "Tree.__contains__" (clsAt pb 47) 4 3 [] .none .none (.str "Check if name exists in tree." 986) mO .none (r 537) .none 0)
noncomputable def o541 (P : Params) : Obj := tpO #[(.str "self" 991), (.str "name" 992)]
noncomputable def o543 (P : Params) : Obj := ftO (fe "__getitem__" "Tree.__getitem__" (clsAt pb 47) 5 ((fnAt (clsAt pb 47) 4).2) 0 [] .none .none .none .none .none .none .none 0)
noncomputable def o544 (P : Params) : Obj := cdO #[(.str "__getitem__" 988), (.str "Tree.__getitem__" 989), (cp 990), (j 452), (j 2), (j 0), (j 0), (j 3), (r 539), (.bool true), (j 181), (r 540), .none, (r 541), (r 542), (r 543), (j 993), (j 452), (cp 994)]
noncomputable def o545 (P : Params) : Obj := fnO (fe "__getitem__" "Tree.__getitem__" (clsAt pb 47) 5 ((fnAt (clsAt pb 47) 4).2) 3 [] .none .none (.str "Get tree entry by name." 995) mO .none (r 544) .none 0)
noncomputable def o548 (P : Params) : Obj := tpO #[(.str "self" 1000), (.str "name" 1001), (.str "value" 1002), (.str "mode" 1003), (.str "hexsha" 1004)]
noncomputable def o550 (P : Params) : Obj := ftO (fd "__setitem__" "Tree.__setitem__" (clsAt pb 47) 6 0 [] .none .none .none .none .none .none .none 0)
noncomputable def o551 (P : Params) : Obj := cdO #[(.str "__setitem__" 997), (.str "Tree.__setitem__" 998), (cp 999), (j 456), (j 3), (j 0), (j 0), (j 3), (r 546), (.bool true), (j 181), (r 547), .none, (r 548), (r 549), (r 550), (j 1005), (j 456), (cp 1006)]
noncomputable def o552 (P : Params) : Obj := fnO (fd "__setitem__" "Tree.__setitem__" (clsAt pb 47) 6 3 [] .none .none (.str "Set a tree entry by name.\n\nArgs:\n  name: The name of the entry, as a string.\n  value: A tuple of (mode, hexsha), where mode is the mode of the\n    entry as an integral type and hexsha is the hex SHA of the entry as\n    a string.\n" 1007) mO .none (r 551) .none 0)
noncomputable def o555 (P : Params) : Obj := tpO #[(.str "self" 1012), (.str "name" 1013)]
noncomputable def o557 (P : Params) : Obj := ftO (fe "__delitem__" "Tree.__delitem__" (clsAt pb 47) 7 ((fnAt (clsAt pb 47) 4).2) 0 [] .none .none .none .none .none .none .none 0)
noncomputable def o558 (P : Params) : Obj := cdO #[(.str "__delitem__" 1009), (.str "Tree.__delitem__" 1010), (cp 1011), (j 469), (j 2), (j 0), (j 0), (j 3), (r 553), (.bool true), (j 181), (r 554), .none, (r 555), (r 556), (r 557), (j 1014), (j 469), (cp 1015)]
noncomputable def o559 (P : Params) : Obj := fnO (fe "__delitem__" "Tree.__delitem__" (clsAt pb 47) 7 ((fnAt (clsAt pb 47) 4).2) 3 [] .none .none (.str "Delete tree entry by name." 1016) mO .none (r 558) .none 0)
noncomputable def o562 (P : Params) : Obj := tpO #[(.str "self" 1021)]
noncomputable def o564 (P : Params) : Obj := ftO (fd "__len__" "Tree.__len__" (clsAt pb 47) 8 0 [] .none .none .none .none .none .none .none 0)
noncomputable def o565 (P : Params) : Obj := cdO #[(.str "__len__" 1018), (.str "Tree.__len__" 1019), (cp 1020), (j 474), (j 1), (j 0), (j 0), (j 3), (r 560), (.bool true), (j 181), (r 561), .none, (r 562), (r 563), (r 564), (j 1022), (j 474), (cp 1023)]
noncomputable def o566 (P : Params) : Obj := fnO (fd "__len__" "Tree.__len__" (clsAt pb 47) 8 3 [] .none .none (.str "Return number of entries in tree." 1024) mO .none (r 565) .none 0)
noncomputable def o569 (P : Params) : Obj := tpO #[(.str "self" 1029), (.str "name" 1030), (.str "mode" 1031), (.str "hexsha" 1032)]
noncomputable def o571 (P : Params) : Obj := ftO (fd "add" "Tree.add" (clsAt pb 47) 9 0 [] .none .none .none .none .none .none .none 0)
noncomputable def o572 (P : Params) : Obj := cdO #[(.str "add" 1026), (.str "Tree.add" 1027), (cp 1028), (j 478), (j 4), (j 0), (j 0), (j 3), (r 567), (.bool true), (j 181), (r 568), .none, (r 569), (r 570), (r 571), (j 1033), (j 478), (cp 1034)]
noncomputable def o573 (P : Params) : Obj := fnO (fd "add" "Tree.add" (clsAt pb 47) 9 3 [] .none .none .none mO .none (r 572) .none 0)
noncomputable def o574 (P : Params) : Obj := tpO #[(.bool false)]
noncomputable def o577 (P : Params) : Obj := tpO #[(.str "self" 1039), (.str "name_order" 1040)]
noncomputable def o579 (P : Params) : Obj := ftO (fd "iteritems" "Tree.iteritems" (clsAt pb 47) 10 0 [] .none .none .none .none .none .none .none 0)
noncomputable def o580 (P : Params) : Obj := cdO #[(.str "iteritems" 1036), (.str "Tree.iteritems" 1037), (cp 1038), (j 481), (j 2), (j 0), (j 0), (j 3), (r 575), (.bool true), (j 181), (r 576), .none, (r 577), (r 578), (r 579), (j 1041), (j 481), (cp 1042)]
noncomputable def o581 (P : Params) : Obj := fnO (fd "iteritems" "Tree.iteritems" (clsAt pb 47) 10 3 [] (r 574) .none (.str "Iterate over entries.\n\nArgs:\n  name_order: If True, iterate in name order instead of tree\n    order.\nReturns: Iterator over (name, mode, sha) tuples\n" 1043) mO .none (r 580) .none 0)
noncomputable def o584 (P : Params) : Obj := tpO #[(.str "self" 1048)]
noncomputable def o586 (P : Params) : Obj := ftO (fd "items" "Tree.items" (clsAt pb 47) 11 0 [] .none .none .none .none .none .none .none 0)
noncomputable def o587 (P : Params) : Obj := cdO #[(.str "items" 1045), (.str "Tree.items" 1046), (cp 1047), (j 491), (j 1), (j 0), (j 0), (j 3), (r 582), (.bool true), (j 181), (r 583), .none, (r 584), (r 585), (r 586), (j 1049), (j 491), (cp 1050)]
noncomputable def o588 (P : Params) : Obj := fnO (fd "items" "Tree.items" (clsAt pb 47) 11 3 [] .none .none (.str "Return the sorted entries in this tree.\n\nReturns: List with (name, mode, sha) tuples\n" 1051) mO .none (r 587) .none 0)
noncomputable def o591 (P : Params) : Obj := ftO (fd "_deserialize" "Tree._deserialize" (clsAt pb 47) 12 0 [] .none .none .none .none .none .none .none 0)
noncomputable def o592 (P : Params) : Obj := cdO #[(.str "_deserialize" 1053), (.str "Tree._deserialize" 1054), (cp 1055), (j 498), (j 2), (j 0), (j 0), (j 3), (r 589), (.bool true), (j 181), (r 590), .none, .none, .none, (r 591), (j 1056), (j 498), (cp 1057)]
noncomputable def o593 (P : Params) : Obj := fnO (fd "_deserialize" "Tree._deserialize" (clsAt pb 47) 12 3 [] .none .none (.str "Grab the entries in the tree." 1058) mO .none (r 592) .none 0)
noncomputable def o596 (P : Params) : Obj := tpO #[(.str "self" 1063), (.str "last" 1064), (.str "allowed_modes" 1065), (.str "name" 1066), (.str "mode" 1067), (.str "sha" 1068), (.str "entry" 1069)]
noncomputable def o598 (P : Params) : Obj := ftO (fd "check" "Tree.check" (clsAt pb 47) 13 0 [] .none .none .none .none .none .none .none 0)
noncomputable def o599 (P : Params) : Obj := cdO #[(.str "check" 1060), (.str "Tree.check" 1061), (cp 1062), (j 506), (j 1), (j 0), (j 0), (j 3), (r 594), (.bool true), (j 181), (r 595), .none, (r 596), (r 597), (r 598), (j 1070), (j 506), (cp 1071)]
noncomputable def o600 (P : Params) : Obj := fnO (fd "check" "Tree.check" (clsAt pb 47) 13 3 [] .none .none (.str "Check this object for internal consistency.\n\nRaises:\n  ObjectFormatException: if the object is malformed in some way\n" 1072) mO .none (r 599) .none 0)
noncomputable def o603 (P : Params) : Obj := tpO #[(.str "self" 1077)]
noncomputable def o605 (P : Params) : Obj := ftO (fd "_serialize" "Tree._serialize" (clsAt pb 47) 14 0 [] .none .none .none .none .none .none .none 0)
noncomputable def o606 (P : Params) : Obj := cdO #[(.str "_serialize" 1074), (.str "Tree._serialize" 1075), (cp 1076), (j 530), (j 1), (j 0), (j 0), (j 3), (r 601), (.bool true), (j 181), (r 602), .none, (r 603), (r 604), (r 605), (j 1078), (j 530), (cp 1079)]
noncomputable def o607 (P : Params) : Obj := fnO (fd "_serialize" "Tree._serialize" (clsAt pb 47) 14 3 [] .none .none .none mO .none (r 606) .none 0)
noncomputable def o608 (P : Params) : Obj := tpO #[(.str "_entries" 1081), (.str "_needs_serialization" 1082)]
noncomputable def o609 (P : Params) : Obj := dcO #[de P "__module__" 958 mO, de P "__firstlineno__" 962 (.int 438 961), de P "__doc__" 964 (.str "A Git tree object." 963), de P "type_name" 967 (.bytes #[116, 114, 101, 101] 966), de P "type_num" 969 (.int 2 968), de P "__init__" 978 (r 531), de P "__contains__" 987 (r 538), de P "__getitem__" 996 (r 545), de P "__setitem__" 1008 (r 552), de P "__delitem__" 1017 (r 559), de P "__len__" 1025 (r 566), de P "add" 1035 (r 573), de P "iteritems" 1044 (r 581), de P "items" 1052 (r 588), de P "_deserialize" 1059 (r 593), de P "check" 1073 (r 600), de P "_serialize" 1080 (r 607), de P "__static_attributes__" 1083 (r 608)] 2
noncomputable def o610 (P : Params) : Obj := ⟨(.type "type"), .none, (.cls ⟨"Tree", [(r 311)], [(r 610), (r 311), (.type "object")], 609, "Tree", true, [], [], false, .none, false⟩), #[(.some (r 516)), .none, (.some (.str "Tree" 951)), (.some (.str "Tree" 959)), (.some (.builtin "object.__new__")), (.some (.bool true))]⟩
noncomputable def o611 (P : Params) : Obj := ⟨(.type "super"), .none, (.fields #[(r 610), (r 610), (r 610)]), #[]⟩
noncomputable def o612 (P : Params) : Obj := ⟨(.type "builtin_function_or_method"), .none, (.fields #[(.builtin "object.__init_subclass__"), (r 610)]), #[]⟩
noncomputable def o3v3 (P : Params) : Obj := dcO #[de P "__name__" 165 mO, de P "__doc__" 166 .none, de P "__package__" 167 .none, de P "__loader__" 168 (.builtin "__main__.__loader__#opaque"), de P "__spec__" 169 .none, de P "__annotations__" 170 (r 6), de P "__builtins__" 171 (r 4), de P "__file__" 173 (cp 172), de P "__cached__" 174 .none, de P "_wall" 193 (r 21), de P "FileFormatException" 217 (r 31), de P "ObjectFormatException" 235 (r 44), de P "ObjectFormat" 285 (r 70), de P "SHA1" 307 (r 76), de P "DEFAULT_OBJECT_FORMAT" 308 (r 76), de P "_tuplegetter" 367 (r 116), de P "S_IFDIR" 369 (.int 16384 368), de P "S_IFREG" 371 (.int 32768 370), de P "S_IFLNK" 373 (.int 40960 372), de P "S_IFMT" 380 (r 127), de P "S_ISDIR" 387 (r 134), de P "hexlify" 393 (r 139), de P "_digit" 400 (r 146), de P "unhexlify" 406 (r 151), de P "ObjectID" 413 (r 158), de P "RawObjectID" 420 (r 165), de P "_TREE_HEADER" 422 (.bytes #[116, 114, 101, 101] 421), de P "_PARENT_HEADER" 424 (.bytes #[112, 97, 114, 101, 110, 116] 423), de P "_AUTHOR_HEADER" 426 (.bytes #[97, 117, 116, 104, 111, 114] 425), de P "_COMMITTER_HEADER" 428 (.bytes #[99, 111, 109, 109, 105, 116, 116, 101, 114] 427), de P "_ENCODING_HEADER" 430 (.bytes #[101, 110, 99, 111, 100, 105, 110, 103] 429), de P "_GPGSIG_HEADER" 432 (.bytes #[103, 112, 103, 115, 105, 103] 431), de P "S_IFGITLINK" 434 (.int 57344 433), de P "MAX_TIME" 436 (.int 9223372036854775807 435), de P "sha_to_hex" 445 (r 172), de P "hex_to_sha" 453 (r 179), de P "valid_hexsha" 461 (r 186), de P "check_hexsha" 470 (r 193), de P "check_identity" 481 (r 200), de P "check_time" 489 (r 207), de P "git_line" 498 (r 214), de P "is_commit" 506 (r 221), de P "is_tree" 514 (r 228), de P "ShaFile" 635 (r 311), de P "Blob" 729 (r 389), de P "_parse_message" 746 (r 398), de P "_format_message" 758 (r 405), de P "TreeEntry" 886 (r 476), de P "parse_tree" 906 (r 487), de P "serialize_tree" 917 (r 494), de P "sorted_tree_items" 931 (r 501), de P "key_entry" 942 (r 508), de P "key_entry_name_order" 950 (r 515), de P "Tree" 1086 (r 610), de P "parse_timezone" 1100 (r 619), de P "format_timezone" 1111 (r 627), de P "parse_time_entry" 1128 (r 634), de P "format_time_entry" 1140 (r 641), de P "_parse_commit" 1161 (r 649)] 59
noncomputable def o12v3 (P : Params) : Obj := flO #[(j 1), (j 0), (r 20), (j 5), (j 0), (r 27), (j 7), (j 0), (r 40), (j 10), (j 0), (r 52), (j 34), (j 0), (r 83), (j 55), (j 0), (r 126), (j 57), (j 0), (r 133), (j 59), (j 0), (r 138), (j 62), (j 0), (r 145), (j 70), (j 0), (r 150), (j 74), (j 0), (r 157), (j 76), (j 0), (r 164), (j 86), (j 0), (r 171), (j 92), (j 0), (r 178), (j 97), (j 0), (r 185), (j 114), (j 0), (r 192), (j 125), (j 0), (r 199), (j 140), (j 0), (r 206), (j 151), (j 0), (r 213), (j 154), (j 0), (r 220), (j 157), (j 0), (r 227), (j 160), (j 0), (r 234), (j 229), (j 0), (r 322), (j 268), (j 0), (r 397), (j 309), (j 0), (r 404), (j 318), (j 0), (r 412), (j 361), (j 0), (r 486), (j 396), (j 0), (r 493), (j 405), (j 0), (r 500), (j 425), (j 0), (r 507), (j 435), (j 0), (r 514), (j 438), (j 0), (r 522), (j 532), (j 0), (r 618), (j 553), (j 0), (r 626), (j 570), (j 0), (r 633), (j 593), (j 0), (r 640), (j 597), (j 0), (r 648)]
noncomputable def o615 (P : Params) : Obj := tpO #[(.str "text" 1090), (.str "sign" 1091), (.str "offset" 1092), (.str "unnecessary_negative_timezone" 1093), (.str "signum" 1094), (.str "hours" 1095), (.str "minutes" 1096)]
noncomputable def o617 (P : Params) : Obj := ftO (fd "parse_timezone" "parse_timezone" pb 48 0 [] .none .none .none .none .none .none .none 0)
noncomputable def o618 (P : Params) : Obj := cdO #[(.str "parse_timezone" 1087), (.str "parse_timezone" 1088), (cp 1089), (j 532), (j 1), (j 0), (j 0), (j 3), (r 613), (.bool true), (j 181), (r 614), .none, (r 615), (r 616), (r 617), (j 1097), (j 532), (cp 1098)]
noncomputable def o619 (P : Params) : Obj := fnO (fd "parse_timezone" "parse_timezone" pb 48 3 [] .none .none (.str "Parse a timezone text fragment (e.g. '+0100').\n\nArgs:\n  text: Text to parse.\nReturns: Tuple with timezone as seconds difference to UTC\n    and a boolean indicating whether this was a UTC timezone\n    prefixed with a negative sign (-0000).\n" 1099) mO .none (r 618) .none 0)
noncomputable def o623 (P : Params) : Obj := tpO #[(.str "offset" 1104), (.str "unnecessary_negative_timezone" 1105), (.str "sign" 1106), (.str "hours" 1107)]
noncomputable def o625 (P : Params) : Obj := ftO (fd "format_timezone" "format_timezone" pb 49 0 [] .none .none .none .none .none .none .none 0)
noncomputable def o626 (P : Params) : Obj := cdO #[(.str "format_timezone" 1101), (.str "format_timezone" 1102), (cp 1103), (j 553), (j 2), (j 0), (j 0), (j 3), (r 621), (.bool true), (j 181), (r 622), .none, (r 623), (r 624), (r 625), (j 1108), (j 553), (cp 1109)]
noncomputable def o627 (P : Params) : Obj := fnO (fd "format_timezone" "format_timezone" pb 49 3 [] (r 620) .none (.str "Format a timezone for Git serialization.\n\nArgs:\n  offset: Timezone offset as seconds difference to UTC\n  unnecessary_negative_timezone: Whether to use a minus sign for\n    UTC or positive timezones (-0000 and --700 rather than +0000 / +0700).\n" 1110) mO .none (r 626) .none 0)
noncomputable def o630 (P : Params) : Obj := tpO #[(.str "value" 1115), (.str "sep" 1116), (.str "person" 1117), (.str "rest" 1118), (.str "timetext" 1119), (.str "timezonetext" 1120), (.str "time" 1121), (.str "timezone" 1122), (.str "timezone_neg_utc" 1123), (.str "exc" 1124)]
noncomputable def o632 (P : Params) : Obj := ftO (fd "parse_time_entry" "parse_time_entry" pb 50 0 [] .none .none .none .none .none .none .none 0)
noncomputable def o633 (P : Params) : Obj := cdO #[(.str "parse_time_entry" 1112), (.str "parse_time_entry" 1113), (cp 1114), (j 570), (j 1), (j 0), (j 0), (j 3), (r 628), (.bool true), (j 181), (r 629), .none, (r 630), (r 631), (r 632), (j 1125), (j 570), (cp 1126)]
noncomputable def o634 (P : Params) : Obj := fnO (fd "parse_time_entry" "parse_time_entry" pb 50 3 [] .none .none (.str "Parse event.\n\nArgs:\n  value: Bytes representing a git commit/tag line\nRaises:\n  ObjectFormatException in case of parsing error (malformed\n  field date)\nReturns: Tuple of (author, time, (timezone, timezone_neg_utc))\n" 1127) mO .none (r 633) .none 0)
noncomputable def o637 (P : Params) : Obj := tpO #[(.str "person" 1132), (.str "time" 1133), (.str "timezone_info" 1134), (.str "timezone" 1135), (.str "timezone_neg_utc" 1136)]
noncomputable def o639 (P : Params) : Obj := ftO (fd "format_time_entry" "format_time_entry" pb 51 0 [] .none .none .none .none .none .none .none 0)
noncomputable def o640 (P : Params) : Obj := cdO #[(.str "format_time_entry" 1129), (.str "format_time_entry" 1130), (cp 1131), (j 593), (j 3), (j 0), (j 0), (j 3), (r 635), (.bool true), (j 181), (r 636), .none, (r 637), (r 638), (r 639), (j 1137), (j 593), (cp 1138)]
noncomputable def o641 (P : Params) : Obj := fnO (fd "format_time_entry" "format_time_entry" pb 51 3 [] .none .none (.str "Format an event." 1139) mO .none (r 640) .none 0)
noncomputable def o642 (P : Params) : Obj := tpO #[(.bytes #[103, 112, 103, 115, 105, 103] 431)]
noncomputable def o645 (P : Params) : Obj := tpO #[(.str "chunks" 1144), (.str "signature_header" 1145), (.str "parents" 1146), (.str "extra" 1147), (.str "tree" 1148), (.str "author" 1149), (.str "committer" 1150), (.str "encoding" 1151), (.str "message" 1152), (.str "signatures" 1153), (.str "in_parents" 1154), (.str "field" 1155), (.str "value" 1156), (.str "no_ident" 1157)]
noncomputable def o647 (P : Params) : Obj := ftO (fd "_parse_commit" "_parse_commit" pb 52 0 [] .none .none .none .none .none .none .none 0)
noncomputable def o648 (P : Params) : Obj := cdO #[(.str "_parse_commit" 1141), (.str "_parse_commit" 1142), (cp 1143), (j 597), (j 2), (j 0), (j 0), (j 3), (r 643), (.bool true), (j 181), (r 644), .none, (r 645), (r 646), (r 647), (j 1158), (j 597), (cp 1159)]
noncomputable def o649 (P : Params) : Obj := fnO (fd "_parse_commit" "_parse_commit" pb 52 3 [] (r 642) .none (.str "Parse a commit object from chunks.\n\nWhere a header is repeated, the first tree, author, committer and\nencoding are used, and only the parents directly following the tree.\nRepeated signature headers are concatenated.\n\nArgs:\n  chunks: Chunks to parse\n  signature_header: Name of the signature header for the hash algorithm\nReturns: Tuple of (tree, parents, author_info, commit_info,\n    encoding, mergetag, gpgsig, message, extra)\n" 1160) mO .none (r 648) .none 0)
noncomputable def o3v4 (P : Params) : Obj := dcO #[de P "__name__" 165 (.str "law_ji0038_05" 1453), de P "__doc__" 166 .none, de P "__package__" 167 .none, de P "__loader__" 168 (.builtin "__main__.__loader__#opaque"), de P "__spec__" 169 .none, de P "__annotations__" 170 (r 6), de P "__builtins__" 171 (r 4), de P "__file__" 173 (cp 172), de P "__cached__" 174 .none, de P "_wall" 193 (r 21), de P "FileFormatException" 217 (r 31), de P "ObjectFormatException" 235 (r 44), de P "ObjectFormat" 285 (r 70), de P "SHA1" 307 (r 76), de P "DEFAULT_OBJECT_FORMAT" 308 (r 76), de P "_tuplegetter" 367 (r 116), de P "S_IFDIR" 369 (.int 16384 368), de P "S_IFREG" 371 (.int 32768 370), de P "S_IFLNK" 373 (.int 40960 372), de P "S_IFMT" 380 (r 127), de P "S_ISDIR" 387 (r 134), de P "hexlify" 393 (r 139), de P "_digit" 400 (r 146), de P "unhexlify" 406 (r 151), de P "ObjectID" 413 (r 158), de P "RawObjectID" 420 (r 165), de P "_TREE_HEADER" 422 (.bytes #[116, 114, 101, 101] 421), de P "_PARENT_HEADER" 424 (.bytes #[112, 97, 114, 101, 110, 116] 423), de P "_AUTHOR_HEADER" 426 (.bytes #[97, 117, 116, 104, 111, 114] 425), de P "_COMMITTER_HEADER" 428 (.bytes #[99, 111, 109, 109, 105, 116, 116, 101, 114] 427), de P "_ENCODING_HEADER" 430 (.bytes #[101, 110, 99, 111, 100, 105, 110, 103] 429), de P "_GPGSIG_HEADER" 432 (.bytes #[103, 112, 103, 115, 105, 103] 431), de P "S_IFGITLINK" 434 (.int 57344 433), de P "MAX_TIME" 436 (.int 9223372036854775807 435), de P "sha_to_hex" 445 (r 172), de P "hex_to_sha" 453 (r 179), de P "valid_hexsha" 461 (r 186), de P "check_hexsha" 470 (r 193), de P "check_identity" 481 (r 200), de P "check_time" 489 (r 207), de P "git_line" 498 (r 214), de P "is_commit" 506 (r 221), de P "is_tree" 514 (r 228), de P "ShaFile" 635 (r 311), de P "Blob" 729 (r 389), de P "_parse_message" 746 (r 398), de P "_format_message" 758 (r 405), de P "TreeEntry" 886 (r 476), de P "parse_tree" 906 (r 487), de P "serialize_tree" 917 (r 494), de P "sorted_tree_items" 931 (r 501), de P "key_entry" 942 (r 508), de P "key_entry_name_order" 950 (r 515), de P "Tree" 1086 (r 610), de P "parse_timezone" 1100 (r 619), de P "format_timezone" 1111 (r 627), de P "parse_time_entry" 1128 (r 634), de P "format_time_entry" 1140 (r 641), de P "_parse_commit" 1161 (r 649), de P "Commit" 1452 (r 881)] 60
noncomputable def o12v4 (P : Params) : Obj := flO #[(j 1), (j 0), (r 20), (j 5), (j 0), (r 27), (j 7), (j 0), (r 40), (j 10), (j 0), (r 52), (j 34), (j 0), (r 83), (j 55), (j 0), (r 126), (j 57), (j 0), (r 133), (j 59), (j 0), (r 138), (j 62), (j 0), (r 145), (j 70), (j 0), (r 150), (j 74), (j 0), (r 157), (j 76), (j 0), (r 164), (j 86), (j 0), (r 171), (j 92), (j 0), (r 178), (j 97), (j 0), (r 185), (j 114), (j 0), (r 192), (j 125), (j 0), (r 199), (j 140), (j 0), (r 206), (j 151), (j 0), (r 213), (j 154), (j 0), (r 220), (j 157), (j 0), (r 227), (j 160), (j 0), (r 234), (j 229), (j 0), (r 322), (j 268), (j 0), (r 397), (j 309), (j 0), (r 404), (j 318), (j 0), (r 412), (j 361), (j 0), (r 486), (j 396), (j 0), (r 493), (j 405), (j 0), (r 500), (j 425), (j 0), (r 507), (j 435), (j 0), (r 514), (j 438), (j 0), (r 522), (j 532), (j 0), (r 618), (j 553), (j 0), (r 626), (j 570), (j 0), (r 633), (j 593), (j 0), (r 640), (j 597), (j 0), (r 648), (j 661), (j 0), (r 656)]
noncomputable def o311v2 (P : Params) : Obj := ⟨(.type "type"), .none, (.cls ⟨"ShaFile", [(.type "object")], [(r 311), (.type "object")], 310, "ShaFile", true, [], [(r 389), (r 610), (r 881)], false, .none, false⟩), #[.none, .none, (.some (.str "ShaFile" 515)), (.some (.str "ShaFile" 523)), (.some (.builtin "object.__new__")), (.some (.bool true))]⟩
noncomputable def o652 (P : Params) : Obj := dcO #[de P "__module__" 1169 mO, de P "__qualname__" 1171 (.str "Commit" 1170), de P "__firstlineno__" 1173 (.int 661 1172), de P "__doc__" 1175 (.str "A git commit object." 1174), de P "type_name" 1178 (.bytes #[99, 111, 109, 109, 105, 116] 1177), de P "type_num" 1180 (.int 1 1179), de P "__init__" 1189 (r 665), de P "_deserialize" 1195 (r 670), de P "check" 1207 (r 677), de P "raw_without_sig" 1214 (r 684), de P "_serialize" 1223 (r 691), de P "tree" 1232 (r 708), de P "parents" 1251 (r 725), de P "author" 1271 (r 742), de P "committer" 1290 (r 759), de P "message" 1309 (r 776), de P "commit_time" 1328 (r 793), de P "commit_timezone" 1347 (r 810), de P "author_time" 1366 (r 827), de P "author_timezone" 1385 (r 844), de P "encoding" 1404 (r 861), de P "gpgsig" 1423 (r 878), de P "__static_attributes__" 1449 (r 879), de P "__classcell__" 1450 (r 653)] 24
noncomputable def o653 (P : Params) : Obj := ⟨(.type "cell"), .none, (.cell (.some (r 881))), #[]⟩
noncomputable def o655 (P : Params) : Obj := flO #[(j 666), (j 4), (r 664), (j 676), (j 4), (r 669), (j 687), (j 4), (r 676), (j 730), (j 4), (r 683), (j 733), (j 4), (r 690), (j 757), (j 4), (r 697), (j 762), (j 4), (r 706), (j 767), (j 4), (r 714), (j 772), (j 4), (r 723), (j 778), (j 4), (r 731), (j 783), (j 4), (r 740), (j 788), (j 4), (r 748), (j 793), (j 4), (r 757), (j 798), (j 4), (r 765), (j 803), (j 4), (r 774), (j 808), (j 4), (r 782), (j 813), (j 4), (r 791), (j 818), (j 4), (r 799), (j 823), (j 4), (r 808), (j 828), (j 4), (r 816), (j 833), (j 4), (r 825), (j 838), (j 4), (r 833), (j 843), (j 4), (r 842), (j 848), (j 4), (r 850), (j 853), (j 4), (r 859), (j 858), (j 4), (r 867), (j 863), (j 4), (r 876)]
noncomputable def o656 (P : Params) : Obj := cdO #[(.str "Commit" 1164), (.str "Commit" 1165), (cp 1166), (j 661), (j 0), (j 0), (j 0), (j 0), (r 654), (.bool false), (j 181), (r 655), .none, .none, .none, .none, (j 1167), (j 661), (cp 1168)]
noncomputable def o657 (P : Params) : Obj := ⟨(.type "frame"), .none, .plain, #[(.some (r 656)), (.some (r 3)), (.some (r 652)), .none, (.some mO), .none, (.some (r 0))]⟩
noncomputable def o658 (P : Params) : Obj := tpO #[(r 653)]
noncomputable def o659 (P : Params) : Obj := tpO #[(.str "__class__" 1184)]
noncomputable def o661 (P : Params) : Obj := tpO #[(.str "self" 1185)]
noncomputable def o663 (P : Params) : Obj := ftO (fe "__init__" "Commit.__init__" (clsAt pb 53) 3 ((fnAt (clsAt pb 38) 3).2) 0 [] .none .none .none .none .none .none .none 0)
noncomputable def o664 (P : Params) : Obj := cdO #[(.str "__init__" 1181), (.str "Commit.__init__" 1182), (cp 1183), (j 666), (j 1), (j 0), (j 0), (j 3), (r 659), (.bool true), (j 181), (r 660), .none, (r 661), (r 662), (r 663), (j 1186), (j 666), (cp 1187)]
noncomputable def o665 (P : Params) : Obj := fnO (fe "__init__" "Commit.__init__" (clsAt pb 53) 3 ((fnAt (clsAt pb 38) 3).2) 3 [("__class__", 653)] .none .none (.str "Initialize an empty Commit." 1188) mO .none (r 664) (r 658) 0)
noncomputable def o668 (P : Params) : Obj := ftO (fd "_deserialize" "Commit._deserialize" (clsAt pb 53) 4 0 [] .none .none .none .none .none .none .none 0)
noncomputable def o669 (P : Params) : Obj := cdO #[(.str "_deserialize" 1190), (.str "Commit._deserialize" 1191), (cp 1192), (j 676), (j 2), (j 0), (j 0), (j 3), (r 666), (.bool true), (j 181), (r 667), .none, .none, .none, (r 668), (j 1193), (j 676), (cp 1194)]
noncomputable def o670 (P : Params) : Obj := fnO (fd "_deserialize" "Commit._deserialize" (clsAt pb 53) 4 3 [] .none .none .none mO .none (r 669) .none 0)
noncomputable def o673 (P : Params) : Obj := tpO #[(.str "self" 1199), (.str "parent" 1200), (.str "last" 1201), (.str "field" 1202), (.str "_" 1203)]
noncomputable def o675 (P : Params) : Obj := ftO (fd "check" "Commit.check" (clsAt pb 53) 5 0 [] .none .none .none .none .none .none .none 0)
noncomputable def o676 (P : Params) : Obj := cdO #[(.str "check" 1196), (.str "Commit.check" 1197), (cp 1198), (j 687), (j 1), (j 0), (j 0), (j 3), (r 671), (.bool true), (j 181), (r 672), .none, (r 673), (r 674), (r 675), (j 1204), (j 687), (cp 1205)]
noncomputable def o677 (P : Params) : Obj := fnO (fd "check" "Commit.check" (clsAt pb 53) 5 3 [] .none .none (.str "Check this object for internal consistency.\n\nRaises:\n  ObjectFormatException: if the object is malformed in some way\n" 1206) mO .none (r 676) .none 0)
noncomputable def o680 (P : Params) : Obj := tpO #[(.str "self" 1211)]
noncomputable def o682 (P : Params) : Obj := ftO (fe "raw_without_sig" "Commit.raw_without_sig" (clsAt pb 53) 6 ((fnAt (clsAt pb 37) 7).2) 0 [] .none .none .none .none .none .none .none 0)
noncomputable def o683 (P : Params) : Obj := cdO #[(.str "raw_without_sig" 1208), (.str "Commit.raw_without_sig" 1209), (cp 1210), (j 730), (j 1), (j 0), (j 0), (j 3), (r 678), (.bool true), (j 181), (r 679), .none, (r 680), (r 681), (r 682), (j 1212), (j 730), (cp 1213)]
noncomputable def o684 (P : Params) : Obj := fnO (fe "raw_without_sig" "Commit.raw_without_sig" (clsAt pb 53) 6 ((fnAt (clsAt pb 37) 7).2) 3 [] .none .none .none mO .none (r 683) .none 0)
noncomputable def o687 (P : Params) : Obj := tpO #[(.str "self" 1218), (.str "headers" 1219), (.str "p" 1220)]
noncomputable def o689 (P : Params) : Obj := ftO (fd "_serialize" "Commit._serialize" (clsAt pb 53) 7 0 [] .none .none .none .none .none .none .none 0)
noncomputable def o690 (P : Params) : Obj := cdO #[(.str "_serialize" 1215), (.str "Commit._serialize" 1216), (cp 1217), (j 733), (j 1), (j 0), (j 0), (j 3), (r 685), (.bool true), (j 181), (r 686), .none, (r 687), (r 688), (r 689), (j 1221), (j 733), (cp 1222)]
noncomputable def o691 (P : Params) : Obj := fnO (fd "_serialize" "Commit._serialize" (clsAt pb 53) 7 3 [] .none .none .none mO .none (r 690) .none 0)
noncomputable def o694 (P : Params) : Obj := tpO #[(.str "self" 1227)]
noncomputable def o696 (P : Params) : Obj := ftO (fe "tree" "Commit.tree" (clsAt pb 53) 8 ((fnAt (clsAt pb 37) 2).2) 0 [] .none .none .none .none .none .none .none 0)
noncomputable def o697 (P : Params) : Obj := cdO #[(.str "tree" 1224), (.str "Commit.tree" 1225), (cp 1226), (j 756), (j 1), (j 0), (j 0), (j 3), (r 692), (.bool true), (j 181), (r 693), .none, (r 694), (r 695), (r 696), (j 1228), (j 756), (cp 1229)]
noncomputable def o698 (P : Params) : Obj := fnO (fe "tree" "Commit.tree" (clsAt pb 53) 8 ((fnAt (clsAt pb 37) 2).2) 3 [] .none .none (.str "Tree that is the state of this commit" 1230) mO .none (r 697) .none 0)
noncomputable def o699 (P : Params) : Obj := ⟨(.type "property"), .none, (.fields #[(r 698), .none, .none, (.str "Tree that is the state of this commit" 1230), (j 0), (.bool true)]), #[]⟩
noncomputable def o700 (P : Params) : Obj := ⟨(.type "builtin_function_or_method"), .none, (.fields #[(.builtin "property.setter"), (r 699)]), #[]⟩
noncomputable def o703 (P : Params) : Obj := tpO #[(.str "self" 1237), (.str "value" 1238)]
noncomputable def o705 (P : Params) : Obj := ftO (fd "tree" "Commit.tree" (clsAt pb 53) 9 0 [] .none .none .none .none .none .none .none 0)
noncomputable def o706 (P : Params) : Obj := cdO #[(.str "tree" 1234), (.str "Commit.tree" 1235), (cp 1236), (j 761), (j 2), (j 0), (j 0), (j 3), (r 701), (.bool true), (j 181), (r 702), .none, (r 703), (r 704), (r 705), (j 1239), (j 761), (cp 1240)]
noncomputable def o707 (P : Params) : Obj := fnO (fd "tree" "Commit.tree" (clsAt pb 53) 9 3 [] .none .none .none mO .none (r 706) .none 0)
noncomputable def o708 (P : Params) : Obj := ⟨(.type "property"), .none, (.fields #[(r 698), (r 707), .none, (.str "Tree that is the state of this commit" 1230), (.str "tree" 1232), (.bool true)]), #[]⟩
noncomputable def o711 (P : Params) : Obj := tpO #[(.str "self" 1246)]
noncomputable def o713 (P : Params) : Obj := ftO (fe "parents" "Commit.parents" (clsAt pb 53) 10 ((fnAt (clsAt pb 37) 2).2) 0 [] .none .none .none .none .none .none .none 0)
noncomputable def o714 (P : Params) : Obj := cdO #[(.str "parents" 1243), (.str "Commit.parents" 1244), (cp 1245), (j 766), (j 1), (j 0), (j 0), (j 3), (r 709), (.bool true), (j 181), (r 710), .none, (r 711), (r 712), (r 713), (j 1247), (j 766), (cp 1248)]
noncomputable def o715 (P : Params) : Obj := fnO (fe "parents" "Commit.parents" (clsAt pb 53) 10 ((fnAt (clsAt pb 37) 2).2) 3 [] .none .none (.str "Parents of this commit, by their SHA1." 1249) mO .none (r 714) .none 0)
noncomputable def o716 (P : Params) : Obj := ⟨(.type "property"), .none, (.fields #[(r 715), .none, .none, (.str "Parents of this commit, by their SHA1." 1249), (j 0), (.bool true)]), #[]⟩
noncomputable def o717 (P : Params) : Obj := ⟨(.type "builtin_function_or_method"), .none, (.fields #[(.builtin "property.setter"), (r 716)]), #[]⟩
noncomputable def o720 (P : Params) : Obj := tpO #[(.str "self" 1256), (.str "value" 1257)]
noncomputable def o722 (P : Params) : Obj := ftO (fe "parents" "Commit.parents" (clsAt pb 53) 11 ((fnAt (clsAt pb 53) 9).2) 0 [] .none .none .none .none .none .none .none 0)
noncomputable def o723 (P : Params) : Obj := cdO #[(.str "parents" 1253), (.str "Commit.parents" 1254), (cp 1255), (j 771), (j 2), (j 0), (j 0), (j 3), (r 718), (.bool true), (j 181), (r 719), .none, (r 720), (r 721), (r 722), (j 1258), (j 771), (cp 1259)]
noncomputable def o724 (P : Params) : Obj := fnO (fe "parents" "Commit.parents" (clsAt pb 53) 11 ((fnAt (clsAt pb 53) 9).2) 3 [] .none .none (.str "Set a list of parents of this commit." 1260) mO .none (r 723) .none 0)
noncomputable def o725 (P : Params) : Obj := ⟨(.type "property"), .none, (.fields #[(r 715), (r 724), .none, (.str "Parents of this commit, by their SHA1." 1249), (.str "parents" 1251), (.bool true)]), #[]⟩
noncomputable def o728 (P : Params) : Obj := tpO #[(.str "self" 1266)]
noncomputable def o730 (P : Params) : Obj := ftO (fe "author" "Commit.author" (clsAt pb 53) 12 ((fnAt (clsAt pb 37) 2).2) 0 [] .none .none .none .none .none .none .none 0)
noncomputable def o731 (P : Params) : Obj := cdO #[(.str "author" 1263), (.str "Commit.author" 1264), (cp 1265), (j 777), (j 1), (j 0), (j 0), (j 3), (r 726), (.bool true), (j 181), (r 727), .none, (r 728), (r 729), (r 730), (j 1267), (j 777), (cp 1268)]
noncomputable def o732 (P : Params) : Obj := fnO (fe "author" "Commit.author" (clsAt pb 53) 12 ((fnAt (clsAt pb 37) 2).2) 3 [] .none .none (.str "The name of the author of the commit" 1269) mO .none (r 731) .none 0)
noncomputable def o733 (P : Params) : Obj := ⟨(.type "property"), .none, (.fields #[(r 732), .none, .none, (.str "The name of the author of the commit" 1269), (j 0), (.bool true)]), #[]⟩
noncomputable def o734 (P : Params) : Obj := ⟨(.type "builtin_function_or_method"), .none, (.fields #[(.builtin "property.setter"), (r 733)]), #[]⟩
noncomputable def o737 (P : Params) : Obj := tpO #[(.str "self" 1276), (.str "value" 1277)]
noncomputable def o739 (P : Params) : Obj := ftO (fe "author" "Commit.author" (clsAt pb 53) 13 ((fnAt (clsAt pb 53) 9).2) 0 [] .none .none .none .none .none .none .none 0)
noncomputable def o740 (P : Params) : Obj := cdO #[(.str "author" 1273), (.str "Commit.author" 1274), (cp 1275), (j 782), (j 2), (j 0), (j 0), (j 3), (r 735), (.bool true), (j 181), (r 736), .none, (r 737), (r 738), (r 739), (j 1278), (j 782), (cp 1279)]
noncomputable def o741 (P : Params) : Obj := fnO (fe "author" "Commit.author" (clsAt pb 53) 13 ((fnAt (clsAt pb 53) 9).2) 3 [] .none .none .none mO .none (r 740) .none 0)
noncomputable def o742 (P : Params) : Obj := ⟨(.type "property"), .none, (.fields #[(r 732), (r 741), .none, (.str "The name of the author of the commit" 1269), (.str "author" 1271), (.bool true)]), #[]⟩
noncomputable def o745 (P : Params) : Obj := tpO #[(.str "self" 1285)]
noncomputable def o747 (P : Params) : Obj := ftO (fe "committer" "Commit.committer" (clsAt pb 53) 14 ((fnAt (clsAt pb 37) 2).2) 0 [] .none .none .none .none .none .none .none 0)
noncomputable def o748 (P : Params) : Obj := cdO #[(.str "committer" 1282), (.str "Commit.committer" 1283), (cp 1284), (j 787), (j 1), (j 0), (j 0), (j 3), (r 743), (.bool true), (j 181), (r 744), .none, (r 745), (r 746), (r 747), (j 1286), (j 787), (cp 1287)]
noncomputable def o749 (P : Params) : Obj := fnO (fe "committer" "Commit.committer" (clsAt pb 53) 14 ((fnAt (clsAt pb 37) 2).2) 3 [] .none .none (.str "The name of the committer of the commit" 1288) mO .none (r 748) .none 0)
noncomputable def o750 (P : Params) : Obj := ⟨(.type "property"), .none, (.fields #[(r 749), .none, .none, (.str "The name of the committer of the commit" 1288), (j 0), (.bool true)]), #[]⟩
noncomputable def o751 (P : Params) : Obj := ⟨(.type "builtin_function_or_method"), .none, (.fields #[(.builtin "property.setter"), (r 750)]), #[]⟩
noncomputable def o754 (P : Params) : Obj := tpO #[(.str "self" 1295), (.str "value" 1296)]
noncomputable def o756 (P : Params) : Obj := ftO (fe "committer" "Commit.committer" (clsAt pb 53) 15 ((fnAt (clsAt pb 53) 9).2) 0 [] .none .none .none .none .none .none .none 0)
noncomputable def o757 (P : Params) : Obj := cdO #[(.str "committer" 1292), (.str "Commit.committer" 1293), (cp 1294), (j 792), (j 2), (j 0), (j 0), (j 3), (r 752), (.bool true), (j 181), (r 753), .none, (r 754), (r 755), (r 756), (j 1297), (j 792), (cp 1298)]
noncomputable def o758 (P : Params) : Obj := fnO (fe "committer" "Commit.committer" (clsAt pb 53) 15 ((fnAt (clsAt pb 53) 9).2) 3 [] .none .none .none mO .none (r 757) .none 0)
noncomputable def o759 (P : Params) : Obj := ⟨(.type "property"), .none, (.fields #[(r 749), (r 758), .none, (.str "The name of the committer of the commit" 1288), (.str "committer" 1290), (.bool true)]), #[]⟩
noncomputable def o762 (P : Params) : Obj := tpO #[(.str "self" 1304)]
noncomputable def o764 (P : Params) : Obj := ftO (fe "message" "Commit.message" (clsAt pb 53) 16 ((fnAt (clsAt pb 37) 2).2) 0 [] .none .none .none .none .none .none .none 0)
noncomputable def o765 (P : Params) : Obj := cdO #[(.str "message" 1301), (.str "Commit.message" 1302), (cp 1303), (j 797), (j 1), (j 0), (j 0), (j 3), (r 760), (.bool true), (j 181), (r 761), .none, (r 762), (r 763), (r 764), (j 1305), (j 797), (cp 1306)]
noncomputable def o766 (P : Params) : Obj := fnO (fe "message" "Commit.message" (clsAt pb 53) 16 ((fnAt (clsAt pb 37) 2).2) 3 [] .none .none (.str "The commit message" 1307) mO .none (r 765) .none 0)
noncomputable def o767 (P : Params) : Obj := ⟨(.type "property"), .none, (.fields #[(r 766), .none, .none, (.str "The commit message" 1307), (j 0), (.bool true)]), #[]⟩
noncomputable def o768 (P : Params) : Obj := ⟨(.type "builtin_function_or_method"), .none, (.fields #[(.builtin "property.setter"), (r 767)]), #[]⟩
noncomputable def o771 (P : Params) : Obj := tpO #[(.str "self" 1314), (.str "value" 1315)]
noncomputable def o773 (P : Params) : Obj := ftO (fe "message" "Commit.message" (clsAt pb 53) 17 ((fnAt (clsAt pb 53) 9).2) 0 [] .none .none .none .none .none .none .none 0)
noncomputable def o774 (P : Params) : Obj := cdO #[(.str "message" 1311), (.str "Commit.message" 1312), (cp 1313), (j 802), (j 2), (j 0), (j 0), (j 3), (r 769), (.bool true), (j 181), (r 770), .none, (r 771), (r 772), (r 773), (j 1316), (j 802), (cp 1317)]
noncomputable def o775 (P : Params) : Obj := fnO (fe "message" "Commit.message" (clsAt pb 53) 17 ((fnAt (clsAt pb 53) 9).2) 3 [] .none .none .none mO .none (r 774) .none 0)
noncomputable def o776 (P : Params) : Obj := ⟨(.type "property"), .none, (.fields #[(r 766), (r 775), .none, (.str "The commit message" 1307), (.str "message" 1309), (.bool true)]), #[]⟩
noncomputable def o779 (P : Params) : Obj := tpO #[(.str "self" 1323)]
noncomputable def o781 (P : Params) : Obj := ftO (fe "commit_time" "Commit.commit_time" (clsAt pb 53) 18 ((fnAt (clsAt pb 37) 2).2) 0 [] .none .none .none .none .none .none .none 0)
noncomputable def o782 (P : Params) : Obj := cdO #[(.str "commit_time" 1320), (.str "Commit.commit_time" 1321), (cp 1322), (j 807), (j 1), (j 0), (j 0), (j 3), (r 777), (.bool true), (j 181), (r 778), .none, (r 779), (r 780), (r 781), (j 1324), (j 807), (cp 1325)]
noncomputable def o783 (P : Params) : Obj := fnO (fe "commit_time" "Commit.commit_time" (clsAt pb 53) 18 ((fnAt (clsAt pb 37) 2).2) 3 [] .none .none (.str "The timestamp of the commit." 1326) mO .none (r 782) .none 0)
noncomputable def o784 (P : Params) : Obj := ⟨(.type "property"), .none, (.fields #[(r 783), .none, .none, (.str "The timestamp of the commit." 1326), (j 0), (.bool true)]), #[]⟩
noncomputable def o785 (P : Params) : Obj := ⟨(.type "builtin_function_or_method"), .none, (.fields #[(.builtin "property.setter"), (r 784)]), #[]⟩
noncomputable def o788 (P : Params) : Obj := tpO #[(.str "self" 1333), (.str "value" 1334)]
noncomputable def o790 (P : Params) : Obj := ftO (fe "commit_time" "Commit.commit_time" (clsAt pb 53) 19 ((fnAt (clsAt pb 53) 9).2) 0 [] .none .none .none .none .none .none .none 0)
noncomputable def o791 (P : Params) : Obj := cdO #[(.str "commit_time" 1330), (.str "Commit.commit_time" 1331), (cp 1332), (j 812), (j 2), (j 0), (j 0), (j 3), (r 786), (.bool true), (j 181), (r 787), .none, (r 788), (r 789), (r 790), (j 1335), (j 812), (cp 1336)]
noncomputable def o792 (P : Params) : Obj := fnO (fe "commit_time" "Commit.commit_time" (clsAt pb 53) 19 ((fnAt (clsAt pb 53) 9).2) 3 [] .none .none .none mO .none (r 791) .none 0)
noncomputable def o793 (P : Params) : Obj := ⟨(.type "property"), .none, (.fields #[(r 783), (r 792), .none, (.str "The timestamp of the commit." 1326), (.str "commit_time" 1328), (.bool true)]), #[]⟩
noncomputable def o796 (P : Params) : Obj := tpO #[(.str "self" 1342)]
noncomputable def o798 (P : Params) : Obj := ftO (fe "commit_timezone" "Commit.commit_timezone" (clsAt pb 53) 20 ((fnAt (clsAt pb 37) 2).2) 0 [] .none .none .none .none .none .none .none 0)
noncomputable def o799 (P : Params) : Obj := cdO #[(.str "commit_timezone" 1339), (.str "Commit.commit_timezone" 1340), (cp 1341), (j 817), (j 1), (j 0), (j 0), (j 3), (r 794), (.bool true), (j 181), (r 795), .none, (r 796), (r 797), (r 798), (j 1343), (j 817), (cp 1344)]
noncomputable def o800 (P : Params) : Obj := fnO (fe "commit_timezone" "Commit.commit_timezone" (clsAt pb 53) 20 ((fnAt (clsAt pb 37) 2).2) 3 [] .none .none (.str "The zone the commit time is in" 1345) mO .none (r 799) .none 0)
noncomputable def o801 (P : Params) : Obj := ⟨(.type "property"), .none, (.fields #[(r 800), .none, .none, (.str "The zone the commit time is in" 1345), (j 0), (.bool true)]), #[]⟩
noncomputable def o802 (P : Params) : Obj := ⟨(.type "builtin_function_or_method"), .none, (.fields #[(.builtin "property.setter"), (r 801)]), #[]⟩
noncomputable def o805 (P : Params) : Obj := tpO #[(.str "self" 1352), (.str "value" 1353)]
noncomputable def o807 (P : Params) : Obj := ftO (fe "commit_timezone" "Commit.commit_timezone" (clsAt pb 53) 21 ((fnAt (clsAt pb 53) 9).2) 0 [] .none .none .none .none .none .none .none 0)
noncomputable def o808 (P : Params) : Obj := cdO #[(.str "commit_timezone" 1349), (.str "Commit.commit_timezone" 1350), (cp 1351), (j 822), (j 2), (j 0), (j 0), (j 3), (r 803), (.bool true), (j 181), (r 804), .none, (r 805), (r 806), (r 807), (j 1354), (j 822), (cp 1355)]
noncomputable def o809 (P : Params) : Obj := fnO (fe "commit_timezone" "Commit.commit_timezone" (clsAt pb 53) 21 ((fnAt (clsAt pb 53) 9).2) 3 [] .none .none .none mO .none (r 808) .none 0)
noncomputable def o810 (P : Params) : Obj := ⟨(.type "property"), .none, (.fields #[(r 800), (r 809), .none, (.str "The zone the commit time is in" 1345), (.str "commit_timezone" 1347), (.bool true)]), #[]⟩
noncomputable def o813 (P : Params) : Obj := tpO #[(.str "self" 1361)]
noncomputable def o815 (P : Params) : Obj := ftO (fe "author_time" "Commit.author_time" (clsAt pb 53) 22 ((fnAt (clsAt pb 37) 2).2) 0 [] .none .none .none .none .none .none .none 0)
noncomputable def o816 (P : Params) : Obj := cdO #[(.str "author_time" 1358), (.str "Commit.author_time" 1359), (cp 1360), (j 827), (j 1), (j 0), (j 0), (j 3), (r 811), (.bool true), (j 181), (r 812), .none, (r 813), (r 814), (r 815), (j 1362), (j 827), (cp 1363)]
noncomputable def o817 (P : Params) : Obj := fnO (fe "author_time" "Commit.author_time" (clsAt pb 53) 22 ((fnAt (clsAt pb 37) 2).2) 3 [] .none .none (.str "The timestamp the commit was written." 1364) mO .none (r 816) .none 0)
noncomputable def o818 (P : Params) : Obj := ⟨(.type "property"), .none, (.fields #[(r 817), .none, .none, (.str "The timestamp the commit was written." 1364), (j 0), (.bool true)]), #[]⟩
noncomputable def o819 (P : Params) : Obj := ⟨(.type "builtin_function_or_method"), .none, (.fields #[(.builtin "property.setter"), (r 818)]), #[]⟩
noncomputable def o822 (P : Params) : Obj := tpO #[(.str "self" 1371), (.str "value" 1372)]
noncomputable def o824 (P : Params) : Obj := ftO (fe "author_time" "Commit.author_time" (clsAt pb 53) 23 ((fnAt (clsAt pb 53) 9).2) 0 [] .none .none .none .none .none .none .none 0)
noncomputable def o825 (P : Params) : Obj := cdO #[(.str "author_time" 1368), (.str "Commit.author_time" 1369), (cp 1370), (j 832), (j 2), (j 0), (j 0), (j 3), (r 820), (.bool true), (j 181), (r 821), .none, (r 822), (r 823), (r 824), (j 1373), (j 832), (cp 1374)]
noncomputable def o826 (P : Params) : Obj := fnO (fe "author_time" "Commit.author_time" (clsAt pb 53) 23 ((fnAt (clsAt pb 53) 9).2) 3 [] .none .none .none mO .none (r 825) .none 0)
noncomputable def o827 (P : Params) : Obj := ⟨(.type "property"), .none, (.fields #[(r 817), (r 826), .none, (.str "The timestamp the commit was written." 1364), (.str "author_time" 1366), (.bool true)]), #[]⟩
noncomputable def o830 (P : Params) : Obj := tpO #[(.str "self" 1380)]
noncomputable def o832 (P : Params) : Obj := ftO (fe "author_timezone" "Commit.author_timezone" (clsAt pb 53) 24 ((fnAt (clsAt pb 37) 2).2) 0 [] .none .none .none .none .none .none .none 0)
noncomputable def o833 (P : Params) : Obj := cdO #[(.str "author_timezone" 1377), (.str "Commit.author_timezone" 1378), (cp 1379), (j 837), (j 1), (j 0), (j 0), (j 3), (r 828), (.bool true), (j 181), (r 829), .none, (r 830), (r 831), (r 832), (j 1381), (j 837), (cp 1382)]
noncomputable def o834 (P : Params) : Obj := fnO (fe "author_timezone" "Commit.author_timezone" (clsAt pb 53) 24 ((fnAt (clsAt pb 37) 2).2) 3 [] .none .none (.str "Returns the zone the author time is in." 1383) mO .none (r 833) .none 0)
noncomputable def o835 (P : Params) : Obj := ⟨(.type "property"), .none, (.fields #[(r 834), .none, .none, (.str "Returns the zone the author time is in." 1383), (j 0), (.bool true)]), #[]⟩
noncomputable def o836 (P : Params) : Obj := ⟨(.type "builtin_function_or_method"), .none, (.fields #[(.builtin "property.setter"), (r 835)]), #[]⟩
noncomputable def o839 (P : Params) : Obj := tpO #[(.str "self" 1390), (.str "value" 1391)]
noncomputable def o841 (P : Params) : Obj := ftO (fe "author_timezone" "Commit.author_timezone" (clsAt pb 53) 25 ((fnAt (clsAt pb 53) 9).2) 0 [] .none .none .none .none .none .none .none 0)
noncomputable def o842 (P : Params) : Obj := cdO #[(.str "author_timezone" 1387), (.str "Commit.author_timezone" 1388), (cp 1389), (j 842), (j 2), (j 0), (j 0), (j 3), (r 837), (.bool true), (j 181), (r 838), .none, (r 839), (r 840), (r 841), (j 1392), (j 842), (cp 1393)]
noncomputable def o843 (P : Params) : Obj := fnO (fe "author_timezone" "Commit.author_timezone" (clsAt pb 53) 25 ((fnAt (clsAt pb 53) 9).2) 3 [] .none .none .none mO .none (r 842) .none 0)
noncomputable def o844 (P : Params) : Obj := ⟨(.type "property"), .none, (.fields #[(r 834), (r 843), .none, (.str "Returns the zone the author time is in." 1383), (.str "author_timezone" 1385), (.bool true)]), #[]⟩
noncomputable def o847 (P : Params) : Obj := tpO #[(.str "self" 1399)]
noncomputable def o849 (P : Params) : Obj := ftO (fe "encoding" "Commit.encoding" (clsAt pb 53) 26 ((fnAt (clsAt pb 37) 2).2) 0 [] .none .none .none .none .none .none .none 0)
noncomputable def o850 (P : Params) : Obj := cdO #[(.str "encoding" 1396), (.str "Commit.encoding" 1397), (cp 1398), (j 847), (j 1), (j 0), (j 0), (j 3), (r 845), (.bool true), (j 181), (r 846), .none, (r 847), (r 848), (r 849), (j 1400), (j 847), (cp 1401)]
noncomputable def o851 (P : Params) : Obj := fnO (fe "encoding" "Commit.encoding" (clsAt pb 53) 26 ((fnAt (clsAt pb 37) 2).2) 3 [] .none .none (.str "Encoding of the commit message." 1402) mO .none (r 850) .none 0)
noncomputable def o852 (P : Params) : Obj := ⟨(.type "property"), .none, (.fields #[(r 851), .none, .none, (.str "Encoding of the commit message." 1402), (j 0), (.bool true)]), #[]⟩
noncomputable def o853 (P : Params) : Obj := ⟨(.type "builtin_function_or_method"), .none, (.fields #[(.builtin "property.setter"), (r 852)]), #[]⟩
noncomputable def o856 (P : Params) : Obj := tpO #[(.str "self" 1409), (.str "value" 1410)]
noncomputable def o858 (P : Params) : Obj := ftO (fe "encoding" "Commit.encoding" (clsAt pb 53) 27 ((fnAt (clsAt pb 53) 9).2) 0 [] .none .none .none .none .none .none .none 0)
noncomputable def o859 (P : Params) : Obj := cdO #[(.str "encoding" 1406), (.str "Commit.encoding" 1407), (cp 1408), (j 852), (j 2), (j 0), (j 0), (j 3), (r 854), (.bool true), (j 181), (r 855), .none, (r 856), (r 857), (r 858), (j 1411), (j 852), (cp 1412)]
noncomputable def o860 (P : Params) : Obj := fnO (fe "encoding" "Commit.encoding" (clsAt pb 53) 27 ((fnAt (clsAt pb 53) 9).2) 3 [] .none .none .none mO .none (r 859) .none 0)
noncomputable def o861 (P : Params) : Obj := ⟨(.type "property"), .none, (.fields #[(r 851), (r 860), .none, (.str "Encoding of the commit message." 1402), (.str "encoding" 1404), (.bool true)]), #[]⟩
noncomputable def o864 (P : Params) : Obj := tpO #[(.str "self" 1418)]
noncomputable def o866 (P : Params) : Obj := ftO (fe "gpgsig" "Commit.gpgsig" (clsAt pb 53) 28 ((fnAt (clsAt pb 37) 2).2) 0 [] .none .none .none .none .none .none .none 0)
noncomputable def o867 (P : Params) : Obj := cdO #[(.str "gpgsig" 1415), (.str "Commit.gpgsig" 1416), (cp 1417), (j 857), (j 1), (j 0), (j 0), (j 3), (r 862), (.bool true), (j 181), (r 863), .none, (r 864), (r 865), (r 866), (j 1419), (j 857), (cp 1420)]
noncomputable def o868 (P : Params) : Obj := fnO (fe "gpgsig" "Commit.gpgsig" (clsAt pb 53) 28 ((fnAt (clsAt pb 37) 2).2) 3 [] .none .none (.str "GPG Signature." 1421) mO .none (r 867) .none 0)
noncomputable def o869 (P : Params) : Obj := ⟨(.type "property"), .none, (.fields #[(r 868), .none, .none, (.str "GPG Signature." 1421), (j 0), (.bool true)]), #[]⟩
noncomputable def o870 (P : Params) : Obj := ⟨(.type "builtin_function_or_method"), .none, (.fields #[(.builtin "property.setter"), (r 869)]), #[]⟩
noncomputable def o873 (P : Params) : Obj := tpO #[(.str "self" 1428), (.str "value" 1429)]
noncomputable def o875 (P : Params) : Obj := ftO (fe "gpgsig" "Commit.gpgsig" (clsAt pb 53) 29 ((fnAt (clsAt pb 53) 9).2) 0 [] .none .none .none .none .none .none .none 0)
noncomputable def o876 (P : Params) : Obj := cdO #[(.str "gpgsig" 1425), (.str "Commit.gpgsig" 1426), (cp 1427), (j 862), (j 2), (j 0), (j 0), (j 3), (r 871), (.bool true), (j 181), (r 872), .none, (r 873), (r 874), (r 875), (j 1430), (j 862), (cp 1431)]
noncomputable def o877 (P : Params) : Obj := fnO (fe "gpgsig" "Commit.gpgsig" (clsAt pb 53) 29 ((fnAt (clsAt pb 53) 9).2) 3 [] .none .none .none mO .none (r 876) .none 0)
noncomputable def o878 (P : Params) : Obj := ⟨(.type "property"), .none, (.fields #[(r 868), (r 877), .none, (.str "GPG Signature." 1421), (.str "gpgsig" 1423), (.bool true)]), #[]⟩
noncomputable def o879 (P : Params) : Obj := tpO #[(.str "_author" 1434), (.str "_author_time" 1435), (.str "_author_timezone" 1436), (.str "_author_timezone_neg_utc" 1437), (.str "_commit_time" 1438), (.str "_commit_timezone" 1439), (.str "_commit_timezone_neg_utc" 1440), (.str "_committer" 1441), (.str "_encoding" 1442), (.str "_extra" 1443), (.str "_gpgsig" 1444), (.str "_message" 1445), (.str "_needs_serialization" 1446), (.str "_parents" 1447), (.str "_tree" 1448)]
noncomputable def o880 (P : Params) : Obj := dcO #[de P "__module__" 1169 mO, de P "__firstlineno__" 1173 (.int 661 1172), de P "__doc__" 1175 (.str "A git commit object." 1174), de P "type_name" 1178 (.bytes #[99, 111, 109, 109, 105, 116] 1177), de P "type_num" 1180 (.int 1 1179), de P "__init__" 1189 (r 665), de P "_deserialize" 1195 (r 670), de P "check" 1207 (r 677), de P "raw_without_sig" 1214 (r 684), de P "_serialize" 1223 (r 691), de P "tree" 1232 (r 708), de P "parents" 1251 (r 725), de P "author" 1271 (r 742), de P "committer" 1290 (r 759), de P "message" 1309 (r 776), de P "commit_time" 1328 (r 793), de P "commit_timezone" 1347 (r 810), de P "author_time" 1366 (r 827), de P "author_timezone" 1385 (r 844), de P "encoding" 1404 (r 861), de P "gpgsig" 1423 (r 878), de P "__static_attributes__" 1449 (r 879)] 2
noncomputable def o881 (P : Params) : Obj := ⟨(.type "type"), .none, (.cls ⟨"Commit", [(r 311)], [(r 881), (r 311), (.type "object")], 880, "Commit", true, [], [], false, .none, false⟩), #[(.some (r 650)), .none, (.some (.str "Commit" 1162)), (.some (.str "Commit" 1170)), (.some (.builtin "object.__new__")), (.some (.bool true))]⟩
noncomputable def o882 (P : Params) : Obj := ⟨(.type "super"), .none, (.fields #[(r 881), (r 881), (r 881)]), #[]⟩
noncomputable def o883 (P : Params) : Obj := ⟨(.type "builtin_function_or_method"), .none, (.fields #[(.builtin "object.__init_subclass__"), (r 881)]), #[]⟩
noncomputable def o3v5 (P : Params) : Obj := dcO #[de P "__name__" 165 (.str "law_ji0038_05" 1453), de P "__doc__" 166 .none, de P "__package__" 167 .none, de P "__loader__" 168 (.builtin "__main__.__loader__#opaque"), de P "__spec__" 169 .none, de P "__annotations__" 170 (r 6), de P "__builtins__" 171 (r 4), de P "__file__" 173 (cp 172), de P "__cached__" 174 .none, de P "_wall" 193 (r 21), de P "FileFormatException" 217 (r 31), de P "ObjectFormatException" 235 (r 44), de P "ObjectFormat" 285 (r 70), de P "SHA1" 307 (r 76), de P "DEFAULT_OBJECT_FORMAT" 308 (r 76), de P "_tuplegetter" 367 (r 116), de P "S_IFDIR" 369 (.int 16384 368), de P "S_IFREG" 371 (.int 32768 370), de P "S_IFLNK" 373 (.int 40960 372), de P "S_IFMT" 380 (r 127), de P "S_ISDIR" 387 (r 134), de P "hexlify" 393 (r 139), de P "_digit" 400 (r 146), de P "unhexlify" 406 (r 151), de P "ObjectID" 413 (r 158), de P "RawObjectID" 420 (r 165), de P "_TREE_HEADER" 422 (.bytes #[116, 114, 101, 101] 421), de P "_PARENT_HEADER" 424 (.bytes #[112, 97, 114, 101, 110, 116] 423), de P "_AUTHOR_HEADER" 426 (.bytes #[97, 117, 116, 104, 111, 114] 425), de P "_COMMITTER_HEADER" 428 (.bytes #[99, 111, 109, 109, 105, 116, 116, 101, 114] 427), de P "_ENCODING_HEADER" 430 (.bytes #[101, 110, 99, 111, 100, 105, 110, 103] 429), de P "_GPGSIG_HEADER" 432 (.bytes #[103, 112, 103, 115, 105, 103] 431), de P "S_IFGITLINK" 434 (.int 57344 433), de P "MAX_TIME" 436 (.int 9223372036854775807 435), de P "sha_to_hex" 445 (r 172), de P "hex_to_sha" 453 (r 179), de P "valid_hexsha" 461 (r 186), de P "check_hexsha" 470 (r 193), de P "check_identity" 481 (r 200), de P "check_time" 489 (r 207), de P "git_line" 498 (r 214), de P "is_commit" 506 (r 221), de P "is_tree" 514 (r 228), de P "ShaFile" 635 (r 311), de P "Blob" 729 (r 389), de P "_parse_message" 746 (r 398), de P "_format_message" 758 (r 405), de P "TreeEntry" 886 (r 476), de P "parse_tree" 906 (r 487), de P "serialize_tree" 917 (r 494), de P "sorted_tree_items" 931 (r 501), de P "key_entry" 942 (r 508), de P "key_entry_name_order" 950 (r 515), de P "Tree" 1086 (r 610), de P "parse_timezone" 1100 (r 619), de P "format_timezone" 1111 (r 627), de P "parse_time_entry" 1128 (r 634), de P "format_time_entry" 1140 (r 641), de P "_parse_commit" 1161 (r 649), de P "Commit" 1452 (r 881), de P "_law_figures" 1460 (r 890), de P "_law_names" 1466 (r 897), de P "_law_mode" 1475 (r 904), de P "_law_sound" 1487 (r 911), de P "law" 1493 (r 916)] 65
noncomputable def o12v5 (P : Params) : Obj := flO #[(j 1), (j 0), (r 20), (j 5), (j 0), (r 27), (j 7), (j 0), (r 40), (j 10), (j 0), (r 52), (j 34), (j 0), (r 83), (j 55), (j 0), (r 126), (j 57), (j 0), (r 133), (j 59), (j 0), (r 138), (j 62), (j 0), (r 145), (j 70), (j 0), (r 150), (j 74), (j 0), (r 157), (j 76), (j 0), (r 164), (j 86), (j 0), (r 171), (j 92), (j 0), (r 178), (j 97), (j 0), (r 185), (j 114), (j 0), (r 192), (j 125), (j 0), (r 199), (j 140), (j 0), (r 206), (j 151), (j 0), (r 213), (j 154), (j 0), (r 220), (j 157), (j 0), (r 227), (j 160), (j 0), (r 234), (j 229), (j 0), (r 322), (j 268), (j 0), (r 397), (j 309), (j 0), (r 404), (j 318), (j 0), (r 412), (j 361), (j 0), (r 486), (j 396), (j 0), (r 493), (j 405), (j 0), (r 500), (j 425), (j 0), (r 507), (j 435), (j 0), (r 514), (j 438), (j 0), (r 522), (j 532), (j 0), (r 618), (j 553), (j 0), (r 626), (j 570), (j 0), (r 633), (j 593), (j 0), (r 640), (j 597), (j 0), (r 648), (j 661), (j 0), (r 656), (j 867), (j 0), (r 889), (j 869), (j 0), (r 896), (j 871), (j 0), (r 903), (j 876), (j 0), (r 910), (j 888), (j 0), (r 915)]
noncomputable def o888 (P : Params) : Obj := ftO (fd "_law_figures" "_law_figures" pb 55 0 [] .none .none .none .none .none .none .none 0)
noncomputable def o889 (P : Params) : Obj := cdO #[(.str "_law_figures" 1455), (.str "_law_figures" 1456), (cp 1457), (j 867), (j 0), (j 0), (j 0), (j 3), (r 884), (.bool true), (j 181), (r 885), .none, (r 886), (r 887), (r 888), (j 1458), (j 867), (cp 1459)]
noncomputable def o890 (P : Params) : Obj := fnO (fd "_law_figures" "_law_figures" pb 55 3 [] .none .none .none (.str "law_ji0038_05" 1453) .none (r 889) .none 0)
noncomputable def o895 (P : Params) : Obj := ftO ⟨"_law_names", "_law_names", (fnPar pb 55), (.stmts (fnAt pb 56).1), (fnAt pb 55).2, 0, [], .none, .none, .none, .none, .none, .none, .none, 0⟩
noncomputable def o896 (P : Params) : Obj := cdO #[(.str "_law_names" 1461), (.str "_law_names" 1462), (cp 1463), (j 869), (j 0), (j 0), (j 0), (j 3), (r 891), (.bool true), (j 181), (r 892), .none, (r 893), (r 894), (r 895), (j 1464), (j 869), (cp 1465)]
noncomputable def o897 (P : Params) : Obj := fnO ⟨"_law_names", "_law_names", (fnPar pb 55), (.stmts (fnAt pb 56).1), (fnAt pb 55).2, 3, [], .none, .none, .none, (.str "law_ji0038_05" 1453), .none, (r 896), .none, 0⟩
noncomputable def o900 (P : Params) : Obj := tpO #[(.str "figures" 1470), (.str "mode" 1471), (.str "octet" 1472)]
noncomputable def o902 (P : Params) : Obj := ftO (fd "_law_mode" "_law_mode" pb 57 0 [] .none .none .none .none .none .none .none 0)
noncomputable def o903 (P : Params) : Obj := cdO #[(.str "_law_mode" 1467), (.str "_law_mode" 1468), (cp 1469), (j 871), (j 1), (j 0), (j 0), (j 3), (r 898), (.bool true), (j 181), (r 899), .none, (r 900), (r 901), (r 902), (j 1473), (j 871), (cp 1474)]
noncomputable def o904 (P : Params) : Obj := fnO (fd "_law_mode" "_law_mode" pb 57 3 [] .none .none .none (.str "law_ji0038_05" 1453) .none (r 903) .none 0)
noncomputable def o907 (P : Params) : Obj := tpO #[(.str "rows" 1479), (.str "last" 1480), (.str "figures" 1481), (.str "spot" 1482), (.str "octets" 1483), (.str "key" 1484)]
noncomputable def o909 (P : Params) : Obj := ftO (fd "_law_sound" "_law_sound" pb 58 0 [] .none .none .none .none .none .none .none 0)
noncomputable def o910 (P : Params) : Obj := cdO #[(.str "_law_sound" 1476), (.str "_law_sound" 1477), (cp 1478), (j 876), (j 1), (j 0), (j 0), (j 3), (r 905), (.bool true), (j 181), (r 906), .none, (r 907), (r 908), (r 909), (j 1485), (j 876), (cp 1486)]
noncomputable def o911 (P : Params) : Obj := fnO (fd "_law_sound" "_law_sound" pb 58 3 [] .none .none .none (.str "law_ji0038_05" 1453) .none (r 910) .none 0)
noncomputable def o914 (P : Params) : Obj := ftO (fd "law" "law" pb 59 0 [] .none .none .none .none .none .none .none 0)
noncomputable def o915 (P : Params) : Obj := cdO #[(.str "law" 1488), (.str "law" 1489), (cp 1490), (j 888), (j 1), (j 0), (j 0), (j 3), (r 912), (.bool true), (j 181), (r 913), .none, .none, .none, (r 914), (j 1491), (j 888), (cp 1492)]
noncomputable def o916 (P : Params) : Obj := fnO (fd "law" "law" pb 59 3 [] .none .none .none (.str "law_ji0038_05" 1453) .none (r 915) .none 0)
noncomputable def heapA (P : Params) : Heap := ⟨#[boot_o_0 P, boot_o_1 P, boot_o_2 P, boot_o_3 P, boot_o_4 P, boot_o_5 P, boot_o_6 P, boot_o_7 P, boot_o_8 P, boot_o_9 P, boot_o_10 P, o11 P, o12 P, o13 P, o14 P], life0⟩
noncomputable def treeB (P : Params) : BT := (nd (boot_o_0 P) (nd (boot_o_1 P) (nd (boot_o_3 P) (nl (boot_o_7 P)) (nl (o11 P))) (nd (boot_o_5 P) (nl (boot_o_9 P)) (nl (o13 P)))) (nd (boot_o_2 P) (nd (boot_o_4 P) (nl (boot_o_8 P)) (nl (o12 P))) (nd (boot_o_6 P) (nl (boot_o_10 P)) (nl (o14 P)))))
noncomputable def treeC0 (P : Params) : BT := (nd (boot_o_0 P) (nd (boot_o_1 P) (nd (o3v1 P) (nd (boot_o_7 P) (nd (o11 P) (nd (o31 P) (nd (o63 P) (nd (o127 P) (nl (o255 P)) .nil) (nl (o191 P))) (nd (o95 P) (nd (o11 P) (nl (o287 P)) .nil) (nl (o12 P)))) (nd (o11 P) (nd (o23 P) (nd (o11 P) (nl (o11 P)) .nil) (nl (o207 P))) (nd (o111 P) (nd (o175 P) (nl (o12 P)) .nil) (nl (o11 P))))) (nd (o23 P) (nd (o12 P) (nd (o71 P) (nd (o11 P) (nl (o263 P)) .nil) (nl (o199 P))) (nd (o11 P) (nd (o12 P) (nl (o11 P)) .nil) (nl (o231 P)))) (nd (o12 P) (nd (o87 P) (nd (o151 P) (nl (o279 P)) .nil) (nl (o11 P))) (nd (o119 P) (nd (o11 P) (nl (o311 P)) .nil) (nl (o247 P)))))) (nd (o11 P) (nd (o19 P) (nd (o35 P) (nd (o67 P) (nd (o11 P) (nl (o259 P)) .nil) (nl (o12 P))) (nd (o99 P) (nd (o163 P) (nl (o11 P)) .nil) (nl (o227 P)))) (nd (o51 P) (nd (o83 P) (nd (o11 P) (nl (o275 P)) .nil) (nl (o11 P))) (nd (o115 P) (nd (o179 P) (nl (o307 P)) .nil) (nl (o11 P))))) (nd (o27 P) (nd (o43 P) (nd (o75 P) (nd (o139 P) (nl (o11 P)) .nil) (nl (o203 P))) (nd (o11 P) (nd (o171 P) (nl (o299 P)) .nil) (nl (o235 P)))) (nd (o59 P) (nd (o91 P) (nd (o11 P) (nl (o283 P)) .nil) (nl (o219 P))) (nd (o123 P) (nd (o11 P) (nl (o315 P)) .nil) (nl (o12 P))))))) (nd (boot_o_5 P) (nd (boot_o_9 P) (nd (o17 P) (nd (o33 P) (nd (o65 P) (nd (o12 P) (nl (o11 P)) .nil) (nl (o193 P))) (nd (o97 P) (nd (o161 P) (nl (o12 P)) .nil) (nl (o11 P)))) (nd (o49 P) (nd (o11 P) (nd (o145 P) (nl (o273 P)) .nil) (nl (o12 P))) (nd (o113 P) (nd (o177 P) (nl (o11 P)) .nil) (nl (o241 P))))) (nd (o11 P) (nd (o41 P) (nd (o73 P) (nd (o137 P) (nl (o12 P)) .nil) (nl (o11 P))) (nd (o105 P) (nd (o11 P) (nl (o297 P)) .nil) (nl (o233 P)))) (nd (o11 P) (nd (o89 P) (nd (o12 P) (nl (o11 P)) .nil) (nl (o217 P))) (nd (o11 P) (nd (o185 P) (nl (o313 P)) .nil) (nl (o249 P)))))) (nd (o13 P) (nd (o21 P) (nd (o37 P) (nd (o69 P) (nd (o133 P) (nl (o261 P)) .nil) (nl (o11 P))) (nd (o12 P) (nd (o165 P) (nl (o293 P)) .nil) (nl (o11 P)))) (nd (o53 P) (nd (o11 P) (nd (o149 P) (nl (o277 P)) .nil) (nl (o213 P))) (nd (o117 P) (nd (o12 P) (nl (o309 P)) .nil) (nl (o245 P))))) (nd (o11 P) (nd (o45 P) (nd (o77 P) (nd (o12 P) (nl (o269 P)) .nil) (nl (o205 P))) (nd (o109 P) (nd (o11 P) (nl (o301 P)) .nil) (nl (o12 P)))) (nd (o11 P) (nd (o11 P) (nd (o157 P) (nl (o285 P)) .nil) (nl (o221 P))) (nd (o125 P) (nl (o189 P)) (nl (o11 P)))))))) (nd (o2v1 P) (nd (boot_o_4 P) (nd (boot_o_8 P) (nd (o12 P) (nd (o32 P) (nd (o11 P) (nd (o11 P) (nl (o256 P)) .nil) (nl (o192 P))) (nd (o11 P) (nd (o12 P) (nl (o11 P)) .nil) (nl (o224 P)))) (nd (o23 P) (nd (o80 P) (nd (o144 P) (nl (o12 P)) .nil) (nl (o11 P))) (nd (o112 P) (nd (o11 P) (nl (o304 P)) .nil) (nl (o240 P))))) (nd (o24 P) (nd (o40 P) (nd (o72 P) (nd (o12 P) (nl (o11 P)) .nil) (nl (o200 P))) (nd (o104 P) (nd (o168 P) (nl (o12 P)) .nil) (nl (o11 P)))) (nd (o56 P) (nd (o11 P) (nd (o11 P) (nl (o280 P)) .nil) (nl (o12 P))) (nd (o120 P) (nd (o184 P) (nl (o312 P)) .nil) (nl (o248 P)))))) (nd (o12v1 P) (nd (o20 P) (nd (o23 P) (nd (o68 P) (nd (o132 P) (nl (o11 P)) .nil) (nl (o196 P))) (nd (o11 P) (nd (o164 P) (nl (o292 P)) .nil) (nl (o228 P)))) (nd (o52 P) (nd (o84 P) (nd (o12 P) (nl (o276 P)) .nil) (nl (o212 P))) (nd (o116 P) (nd (o11 P) (nl (o308 P)) .nil) (nl (o12 P))))) (nd (o28 P) (nd (o44 P) (nd (o76 P) (nd (o11 P) (nl (o268 P)) .nil) (nl (o11 P))) (nd (o12 P) (nd (o172 P) (nl (o300 P)) .nil) (nl (o11 P)))) (nd (o60 P) (nd (o92 P) (nd (o156 P) (nl (o11 P)) .nil) (nl (o220 P))) (nd (o11 P) (nl (o12 P)) (nl (o252 P))))))) (nd (boot_o_6 P) (nd (boot_o_10 P) (nd (o11 P) (nd (o34 P) (nd (o66 P) (nd (o130 P) (nl (o12 P)) .nil) (nl (o11 P))) (nd (o98 P) (nd (o11 P) (nl (o290 P)) .nil) (nl (o226 P)))) (nd (o11 P) (nd (o82 P) (nd (o146 P) (nl (o11 P)) .nil) (nl (o210 P))) (nd (o114 P) (nd (o178 P) (nl (o306 P)) .nil) (nl (o242 P))))) (nd (o12 P) (nd (o11 P) (nd (o74 P) (nd (o138 P) (nl (o266 P)) .nil) (nl (o12 P))) (nd (o106 P) (nd (o170 P) (nl (o11 P)) .nil) (nl (o234 P)))) (nd (o58 P) (nd (o90 P) (nd (o154 P) (nl (o12 P)) .nil) (nl (o11 P))) (nd (o12 P) (nd (o186 P) (nl (o314 P)) .nil) (nl (o11 P)))))) (nd (o14 P) (nd (o22 P) (nd (o11 P) (nd (o70 P) (nd (o134 P) (nl (o262 P)) .nil) (nl (o198 P))) (nd (o102 P) (nd (o11 P) (nl (o294 P)) .nil) (nl (o23 P)))) (nd (o11 P) (nd (o12 P) (nd (o150 P) (nl (o278 P)) .nil) (nl (o214 P))) (nd (o118 P) (nd (o182 P) (nl (o310 P)) .nil) (nl (o11 P))))) (nd (o30 P) (nd (o46 P) (nd (o11 P) (nd (o142 P) (nl (o270 P)) .nil) (nl (o206 P))) (nd (o11 P) (nd (o12 P) (nl (o11 P)) .nil) (nl (o238 P)))) (nd (o12 P) (nd (o12 P) (nd (o158 P) (nl (o286 P)) .nil) (nl (o11 P))) (nd (o126 P) (nl (o11 P)) (nl (o254 P)))))))))
noncomputable def treeC1 (P : Params) : BT := (nd (boot_o_0 P) (nd (boot_o_1 P) (nd (o3v2 P) (nd (boot_o_7 P) (nd (o11 P) (nd (o31 P) (nd (o63 P) (nd (o127 P) (nd (o255 P) (nl (o511 P)) .nil) (nl (o11 P))) (nd (o191 P) (nd (o319 P) (nl (o11 P)) .nil) (nl (o447 P)))) (nd (o95 P) (nd (o11 P) (nd (o287 P) (nl (o543 P)) .nil) (nl (o415 P))) (nd (o12 P) (nd (o351 P) (nl (o607 P)) .nil) (nl (o479 P))))) (nd (o11 P) (nd (o23 P) (nd (o11 P) (nd (o11 P) (nl (o527 P)) .nil) (nl (o11 P))) (nd (o207 P) (nd (o11 P) (nl (o591 P)) .nil) (nl (o463 P)))) (nd (o111 P) (nd (o175 P) (nd (o12 P) (nl (o559 P)) .nil) (nl (o431 P))) (nd (o11 P) (nl (o12 P)) (nl (o11 P)))))) (nd (o23 P) (nd (o12 P) (nd (o71 P) (nd (o11 P) (nd (o263 P) (nl (o519 P)) .nil) (nl (o391 P))) (nd (o199 P) (nd (o327 P) (nl (o12 P)) .nil) (nl (o455 P)))) (nd (o11 P) (nd (o12 P) (nd (o11 P) (nl (o551 P)) .nil) (nl (o423 P))) (nd (o231 P) (nl (o12 P)) (nl (o487 P))))) (nd (o12 P) (nd (o87 P) (nd (o151 P) (nd (o279 P) (nl (o11 P)) .nil) (nl (o23 P))) (nd (o11 P) (nd (o343 P) (nl (o599 P)) .nil) (nl (o471 P)))) (nd (o119 P) (nd (o11 P) (nd (o311v1 P) (nl (o11 P)) .nil) (nl (o439 P))) (nd (o247 P) (nl (o375 P)) (nl (o12 P))))))) (nd (o11 P) (nd (o19 P) (nd (o35 P) (nd (o67 P) (nd (o11 P) (nd (o259 P) (nl (o515 P)) .nil) (nl (o387 P))) (nd (o12 P) (nd (o323 P) (nl (o579 P)) .nil) (nl (o451 P)))) (nd (o99 P) (nd (o163 P) (nd (o11 P) (nl (o12 P)) .nil) (nl (o419 P))) (nd (o227 P) (nd (o355 P) (nl (o611 P)) .nil) (nl (o483 P))))) (nd (o51 P) (nd (o83 P) (nd (o11 P) (nd (o275 P) (nl (o531 P)) .nil) (nl (o403 P))) (nd (o11 P) (nd (o339 P) (nl (o12 P)) .nil) (nl (o467 P)))) (nd (o115 P) (nd (o179 P) (nd (o307 P) (nl (o11 P)) .nil) (nl (o435 P))) (nd (o11 P) (nl (o371 P)) (nl (o499 P)))))) (nd (o27 P) (nd (o43 P) (nd (o75 P) (nd (o139 P) (nd (o11 P) (nl (o523 P)) .nil) (nl (o11 P))) (nd (o203 P) (nd (o331 P) (nl (o587 P)) .nil) (nl (o11 P)))) (nd (o11 P) (nd (o171 P) (nd (o299 P) (nl (o555 P)) .nil) (nl (o11 P))) (nd (o235 P) (nl (o363 P)) (nl (o11 P))))) (nd (o59 P) (nd (o91 P) (nd (o11 P) (nd (o283 P) (nl (o11 P)) .nil) (nl (o411 P))) (nd (o219 P) (nd (o347 P) (nl (o603 P)) .nil) (nl (o475 P)))) (nd (o123 P) (nd (o11 P) (nd (o315 P) (nl (o571 P)) .nil) (nl (o12 P))) (nd (o12 P) (nl (o379 P)) (nl (o507 P)))))))) (nd (boot_o_5 P) (nd (boot_o_9 P) (nd (o17 P) (nd (o33 P) (nd (o65 P) (nd (o12 P) (nd (o11 P) (nl (o513 P)) .nil) (nl (o385 P))) (nd (o193 P) (nd (o321 P) (nl (o577 P)) .nil) (nl (o11 P)))) (nd (o97 P) (nd (o161 P) (nd (o12 P) (nl (o545 P)) .nil) (nl (o11 P))) (nd (o11 P) (nd (o353 P) (nl (o609 P)) .nil) (nl (o11 P))))) (nd (o49 P) (nd (o11 P) (nd (o145 P) (nd (o273 P) (nl (o529 P)) .nil) (nl (o401 P))) (nd (o12 P) (nd (o337 P) (nl (o593 P)) .nil) (nl (o465 P)))) (nd (o113 P) (nd (o177 P) (nd (o11 P) (nl (o12 P)) .nil) (nl (o280 P))) (nd (o241 P) (nl (o11 P)) (nl (o497 P)))))) (nd (o11 P) (nd (o41 P) (nd (o73 P) (nd (o137 P) (nd (o12 P) (nl (o521 P)) .nil) (nl (o12 P))) (nd (o11 P) (nd (o329 P) (nl (o11 P)) .nil) (nl (o12 P)))) (nd (o105 P) (nd (o11 P) (nd (o297 P) (nl (o11 P)) .nil) (nl (o12 P))) (nd (o233 P) (nl (o11 P)) (nl (o12 P))))) (nd (o11 P) (nd (o89 P) (nd (o12 P) (nd (o11 P) (nl (o537 P)) .nil) (nl (o409 P))) (nd (o217 P) (nd (o345 P) (nl (o11 P)) .nil) (nl (o11 P)))) (nd (o11 P) (nd (o185 P) (nd (o313 P) (nl (o569 P)) .nil) (nl (o441 P))) (nd (o249 P) (nl (o377 P)) (nl (o11 P))))))) (nd (o13 P) (nd (o21 P) (nd (o37 P) (nd (o69 P) (nd (o133 P) (nd (o261 P) (nl (o23 P)) .nil) (nl (o389 P))) (nd (o11 P) (nd (o325 P) (nl (o581 P)) .nil) (nl (o453 P)))) (nd (o12 P) (nd (o165 P) (nd (o293 P) (nl (o11 P)) .nil) (nl (o421 P))) (nd (o11 P) (nl (o357 P)) (nl (o485 P))))) (nd (o53 P) (nd (o11 P) (nd (o149 P) (nd (o277 P) (nl (o12 P)) .nil) (nl (o405 P))) (nd (o213 P) (nd (o11 P) (nl (o11 P)) .nil) (nl (o469 P)))) (nd (o117 P) (nd (o12 P) (nd (o309 P) (nl (o565 P)) .nil) (nl (o437 P))) (nd (o245 P) (nl (o11 P)) (nl (o501 P)))))) (nd (o11 P) (nd (o45 P) (nd (o77 P) (nd (o12 P) (nd (o269 P) (nl (o525 P)) .nil) (nl (o397 P))) (nd (o205 P) (nd (o12 P) (nl (o11 P)) .nil) (nl (o461 P)))) (nd (o109 P) (nd (o11 P) (nd (o301 P) (nl (o557 P)) .nil) (nl (o429 P))) (nd (o12 P) (nl (o365 P)) (nl (o493 P))))) (nd (o11 P) (nd (o11 P) (nd (o157 P) (nd (o285 P) (nl (o541 P)) .nil) (nl (o413 P))) (nd (o221 P) (nd (o11 P) (nl (o605 P)) .nil) (nl (o477 P)))) (nd (o125 P) (nd (o189 P) (nd (o23 P) (nl (o573 P)) .nil) (nl (o11 P))) (nd (o11 P) (nl (o12 P)) (nl (o11 P))))))))) (nd (o2v1 P) (nd (boot_o_4 P) (nd (boot_o_8 P) (nd (o12 P) (nd (o32 P) (nd (o11 P) (nd (o11 P) (nd (o256 P) (nl (o11 P)) .nil) (nl (o384 P))) (nd (o192 P) (nd (o11 P) (nl (o12 P)) .nil) (nl (o448 P)))) (nd (o11 P) (nd (o12 P) (nd (o11 P) (nl (o544 P)) .nil) (nl (o280 P))) (nd (o224 P) (nd (o11 P) (nl (o608 P)) .nil) (nl (o480 P))))) (nd (o23 P) (nd (o80 P) (nd (o144 P) (nd (o12 P) (nl (o11 P)) .nil) (nl (o12 P))) (nd (o11 P) (nd (o336 P) (nl (o592 P)) .nil) (nl (o464 P)))) (nd (o112 P) (nd (o11 P) (nd (o304 P) (nl (o11 P)) .nil) (nl (o432 P))) (nd (o240 P) (nl (o368 P)) (nl (o12 P)))))) (nd (o24 P) (nd (o40 P) (nd (o72 P) (nd (o12 P) (nd (o11 P) (nl (o11 P)) .nil) (nl (o11 P))) (nd (o200 P) (nd (o11 P) (nl (o584 P)) .nil) (nl (o11 P)))) (nd (o104 P) (nd (o168 P) (nd (o12 P) (nl (o552 P)) .nil) (nl (o11 P))) (nd (o11 P) (nl (o360 P)) (nl (o11 P))))) (nd (o56 P) (nd (o11 P) (nd (o11 P) (nd (o280 P) (nl (o536 P)) .nil) (nl (o408 P))) (nd (o12 P) (nd (o11 P) (nl (o600 P)) .nil) (nl (o472 P)))) (nd (o120 P) (nd (o184 P) (nd (o312 P) (nl (o12 P)) .nil) (nl (o440 P))) (nd (o248 P) (nl (o11 P)) (nl (o504 P))))))) (nd (o12v2 P) (nd (o20 P) (nd (o23 P) (nd (o68 P) (nd (o132 P) (nd (o11 P) (nl (o316 P)) .nil) (nl (o388 P))) (nd (o196 P) (nd (o324 P) (nl (o580 P)) .nil) (nl (o11 P)))) (nd (o11 P) (nd (o164 P) (nd (o292 P) (nl (o548 P)) .nil) (nl (o11 P))) (nd (o228 P) (nd (o356 P) (nl (o612 P)) .nil) (nl (o11 P))))) (nd (o52 P) (nd (o84 P) (nd (o12 P) (nd (o276 P) (nl (o11 P)) .nil) (nl (o404 P))) (nd (o212 P) (nd (o340 P) (nl (o596 P)) .nil) (nl (o468 P)))) (nd (o116 P) (nd (o11 P) (nd (o308 P) (nl (o564 P)) .nil) (nl (o12 P))) (nd (o12 P) (nl (o372 P)) (nl (o500 P)))))) (nd (o28 P) (nd (o44 P) (nd (o76 P) (nd (o11 P) (nd (o268 P) (nl (o524 P)) .nil) (nl (o396 P))) (nd (o11 P) (nd (o11 P) (nl (o588 P)) .nil) (nl (o460 P)))) (nd (o12 P) (nd (o172 P) (nd (o300 P) (nl (o11 P)) .nil) (nl (o428 P))) (nd (o11 P) (nl (o364 P)) (nl (o492 P))))) (nd (o60 P) (nd (o92 P) (nd (o156 P) (nd (o11 P) (nl (o12 P)) .nil) (nl (o412 P))) (nd (o220 P) (nd (o348 P) (nl (o11 P)) .nil) (nl (o476 P)))) (nd (o11 P) (nd (o12 P) (nd (o316 P) (nl (o572 P)) .nil) (nl (o444 P))) (nd (o252 P) (nl (o11 P)) (nl (o508 P)))))))) (nd (boot_o_6 P) (nd (boot_o_10 P) (nd (o11 P) (nd (o34 P) (nd (o66 P) (nd (o130 P) (nd (o12 P) (nl (o514 P)) .nil) (nl (o386 P))) (nd (o11 P) (nd (o322 P) (nl (o11 P)) .nil) (nl (o12 P)))) (nd (o98 P) (nd (o11 P) (nd (o290 P) (nl (o11 P)) .nil) (nl (o12 P))) (nd (o226 P) (nd (o354 P) (nl (o610 P)) .nil) (nl (o12 P))))) (nd (o11 P) (nd (o82 P) (nd (o146 P) (nd (o11 P) (nl (o530 P)) .nil) (nl (o11 P))) (nd (o210 P) (nd (o338 P) (nl (o11 P)) .nil) (nl (o466 P)))) (nd (o114 P) (nd (o178 P) (nd (o306 P) (nl (o562 P)) .nil) (nl (o434 P))) (nd (o242 P) (nl (o370 P)) (nl (o11 P)))))) (nd (o12 P) (nd (o11 P) (nd (o74 P) (nd (o138 P) (nd (o266 P) (nl (o522 P)) .nil) (nl (o394 P))) (nd (o12 P) (nd (o330 P) (nl (o586 P)) .nil) (nl (o458 P)))) (nd (o106 P) (nd (o170 P) (nd (o11 P) (nl (o12 P)) .nil) (nl (o426 P))) (nd (o234 P) (nl (o362 P)) (nl (o490 P))))) (nd (o58 P) (nd (o90 P) (nd (o154 P) (nd (o12 P) (nl (o538 P)) .nil) (nl (o11 P))) (nd (o11 P) (nd (o346 P) (nl (o12 P)) .nil) (nl (o474 P)))) (nd (o12 P) (nd (o186 P) (nd (o314 P) (nl (o11 P)) .nil) (nl (o11 P))) (nd (o11 P) (nl (o378 P)) (nl (o506 P))))))) (nd (o14 P) (nd (o22 P) (nd (o11 P) (nd (o70 P) (nd (o134 P) (nd (o262 P) (nl (o518 P)) .nil) (nl (o390 P))) (nd (o198 P) (nd (o12 P) (nl (o11 P)) .nil) (nl (o454 P)))) (nd (o102 P) (nd (o11 P) (nd (o294 P) (nl (o550 P)) .nil) (nl (o422 P))) (nd (o23 P) (nl (o11 P)) (nl (o486 P))))) (nd (o11 P) (nd (o12 P) (nd (o150 P) (nd (o278 P) (nl (o534 P)) .nil) (nl (o406 P))) (nd (o214 P) (nd (o12 P) (nl (o598 P)) .nil) (nl (o470 P)))) (nd (o118 P) (nd (o182 P) (nd (o310 P) (nl (o566 P)) .nil) (nl (o11 P))) (nd (o11 P) (nl (o12 P)) (nl (o11 P)))))) (nd (o30 P) (nd (o46 P) (nd (o11 P) (nd (o142 P) (nd (o270 P) (nl (o12 P)) .nil) (nl (o398 P))) (nd (o206 P) (nd (o334 P) (nl (o12 P)) .nil) (nl (o462 P)))) (nd (o11 P) (nd (o12 P) (nd (o11 P) (nl (o558 P)) .nil) (nl (o430 P))) (nd (o238 P) (nl (o11 P)) (nl (o494 P))))) (nd (o12 P) (nd (o12 P) (nd (o158 P) (nd (o286 P) (nl (o11 P)) .nil) (nl (o11 P))) (nd (o11 P) (nd (o12 P) (nl (o606 P)) .nil) (nl (o478 P)))) (nd (o126 P) (nd (o11 P) (nd (o318 P) (nl (o574 P)) .nil) (nl (o446 P))) (nd (o254 P) (nl (o382 P)) (nl (o12 P))))))))))
noncomputable def treeC2 (P : Params) : BT := (nd (boot_o_0 P) (nd (boot_o_1 P) (nd (o3v3 P) (nd (boot_o_7 P) (nd (o11 P) (nd (o31 P) (nd (o63 P) (nd (o127 P) (nd (o255 P) (nl (o511 P)) .nil) (nd (o11 P) (nl (o639 P)) .nil)) (nd (o191 P) (nd (o319 P) (nl (o11 P)) .nil) (nl (o447 P)))) (nd (o95 P) (nd (o11 P) (nd (o287 P) (nl (o543 P)) .nil) (nl (o415 P))) (nd (o12 P) (nd (o351 P) (nl (o607 P)) .nil) (nl (o479 P))))) (nd (o11 P) (nd (o23 P) (nd (o11 P) (nd (o11 P) (nl (o527 P)) .nil) (nl (o11 P))) (nd (o207 P) (nd (o11 P) (nl (o591 P)) .nil) (nl (o463 P)))) (nd (o111 P) (nd (o175 P) (nd (o12 P) (nl (o559 P)) .nil) (nl (o431 P))) (nd (o11 P) (nd (o12 P) (nl (o623 P)) .nil) (nl (o11 P)))))) (nd (o23 P) (nd (o12 P) (nd (o71 P) (nd (o11 P) (nd (o263 P) (nl (o519 P)) .nil) (nd (o391 P) (nl (o647 P)) .nil)) (nd (o199 P) (nd (o327 P) (nl (o12 P)) .nil) (nl (o455 P)))) (nd (o11 P) (nd (o12 P) (nd (o11 P) (nl (o551 P)) .nil) (nl (o423 P))) (nd (o231 P) (nd (o12 P) (nl (o615 P)) .nil) (nl (o487 P))))) (nd (o12 P) (nd (o87 P) (nd (o151 P) (nd (o279 P) (nl (o11 P)) .nil) (nl (o23 P))) (nd (o11 P) (nd (o343 P) (nl (o599 P)) .nil) (nl (o471 P)))) (nd (o119 P) (nd (o11 P) (nd (o311v1 P) (nl (o11 P)) .nil) (nl (o439 P))) (nd (o247 P) (nd (o375 P) (nl (o11 P)) .nil) (nl (o12 P))))))) (nd (o11 P) (nd (o19 P) (nd (o35 P) (nd (o67 P) (nd (o11 P) (nd (o259 P) (nl (o515 P)) .nil) (nd (o387 P) (nl (o11 P)) .nil)) (nd (o12 P) (nd (o323 P) (nl (o579 P)) .nil) (nl (o451 P)))) (nd (o99 P) (nd (o163 P) (nd (o11 P) (nl (o12 P)) .nil) (nl (o419 P))) (nd (o227 P) (nd (o355 P) (nl (o611 P)) .nil) (nl (o483 P))))) (nd (o51 P) (nd (o83 P) (nd (o11 P) (nd (o275 P) (nl (o531 P)) .nil) (nl (o403 P))) (nd (o11 P) (nd (o339 P) (nl (o12 P)) .nil) (nl (o467 P)))) (nd (o115 P) (nd (o179 P) (nd (o307 P) (nl (o11 P)) .nil) (nl (o435 P))) (nd (o11 P) (nd (o371 P) (nl (o627 P)) .nil) (nl (o499 P)))))) (nd (o27 P) (nd (o43 P) (nd (o75 P) (nd (o139 P) (nd (o11 P) (nl (o523 P)) .nil) (nl (o11 P))) (nd (o203 P) (nd (o331 P) (nl (o587 P)) .nil) (nl (o11 P)))) (nd (o11 P) (nd (o171 P) (nd (o299 P) (nl (o555 P)) .nil) (nl (o11 P))) (nd (o235 P) (nd (o363 P) (nl (o619 P)) .nil) (nl (o11 P))))) (nd (o59 P) (nd (o91 P) (nd (o11 P) (nd (o283 P) (nl (o11 P)) .nil) (nl (o411 P))) (nd (o219 P) (nd (o347 P) (nl (o603 P)) .nil) (nl (o475 P)))) (nd (o123 P) (nd (o11 P) (nd (o315 P) (nl (o571 P)) .nil) (nl (o12 P))) (nd (o12 P) (nd (o379 P) (nl (o11 P)) .nil) (nl (o507 P)))))))) (nd (boot_o_5 P) (nd (boot_o_9 P) (nd (o17 P) (nd (o33 P) (nd (o65 P) (nd (o12 P) (nd (o11 P) (nl (o513 P)) .nil) (nd (o385 P) (nl (o641 P)) .nil)) (nd (o193 P) (nd (o321 P) (nl (o577 P)) .nil) (nl (o11 P)))) (nd (o97 P) (nd (o161 P) (nd (o12 P) (nl (o545 P)) .nil) (nl (o11 P))) (nd (o11 P) (nd (o353 P) (nl (o609 P)) .nil) (nl (o11 P))))) (nd (o49 P) (nd (o11 P) (nd (o145 P) (nd (o273 P) (nl (o529 P)) .nil) (nl (o401 P))) (nd (o12 P) (nd (o337 P) (nl (o593 P)) .nil) (nl (o465 P)))) (nd (o113 P) (nd (o177 P) (nd (o11 P) (nl (o12 P)) .nil) (nl (o280 P))) (nd (o241 P) (nd (o11 P) (nl (o625 P)) .nil) (nl (o497 P)))))) (nd (o11 P) (nd (o41 P) (nd (o73 P) (nd (o137 P) (nd (o12 P) (nl (o521 P)) .nil) (nd (o12 P) (nl (o649 P)) .nil)) (nd (o11 P) (nd (o329 P) (nl (o11 P)) .nil) (nl (o12 P)))) (nd (o105 P) (nd (o11 P) (nd (o297 P) (nl (o11 P)) .nil) (nl (o12 P))) (nd (o233 P) (nd (o11 P) (nl (o617 P)) .nil) (nl (o12 P))))) (nd (o11 P) (nd (o89 P) (nd (o12 P) (nd (o11 P) (nl (o537 P)) .nil) (nl (o409 P))) (nd (o217 P) (nd (o345 P) (nl (o11 P)) .nil) (nl (o11 P)))) (nd (o11 P) (nd (o185 P) (nd (o313 P) (nl (o569 P)) .nil) (nl (o441 P))) (nd (o249 P) (nd (o377 P) (nl (o633 P)) .nil) (nl (o11 P))))))) (nd (o13 P) (nd (o21 P) (nd (o37 P) (nd (o69 P) (nd (o133 P) (nd (o261 P) (nl (o23 P)) .nil) (nd (o389 P) (nl (o645 P)) .nil)) (nd (o11 P) (nd (o325 P) (nl (o581 P)) .nil) (nl (o453 P)))) (nd (o12 P) (nd (o165 P) (nd (o293 P) (nl (o11 P)) .nil) (nl (o421 P))) (nd (o11 P) (nd (o357 P) (nl (o11 P)) .nil) (nl (o485 P))))) (nd (o53 P) (nd (o11 P) (nd (o149 P) (nd (o277 P) (nl (o12 P)) .nil) (nl (o405 P))) (nd (o213 P) (nd (o11 P) (nl (o11 P)) .nil) (nl (o469 P)))) (nd (o117 P) (nd (o12 P) (nd (o309 P) (nl (o565 P)) .nil) (nl (o437 P))) (nd (o245 P) (nd (o11 P) (nl (o12 P)) .nil) (nl (o501 P)))))) (nd (o11 P) (nd (o45 P) (nd (o77 P) (nd (o12 P) (nd (o269 P) (nl (o525 P)) .nil) (nl (o397 P))) (nd (o205 P) (nd (o12 P) (nl (o11 P)) .nil) (nl (o461 P)))) (nd (o109 P) (nd (o11 P) (nd (o301 P) (nl (o557 P)) .nil) (nl (o429 P))) (nd (o12 P) (nd (o365 P) (nl (o11 P)) .nil) (nl (o493 P))))) (nd (o11 P) (nd (o11 P) (nd (o157 P) (nd (o285 P) (nl (o541 P)) .nil) (nl (o413 P))) (nd (o221 P) (nd (o11 P) (nl (o605 P)) .nil) (nl (o477 P)))) (nd (o125 P) (nd (o189 P) (nd (o23 P) (nl (o573 P)) .nil) (nl (o11 P))) (nd (o11 P) (nd (o12 P) (nl (o637 P)) .nil) (nl (o11 P))))))))) (nd (o2v1 P) (nd (boot_o_4 P) (nd (boot_o_8 P) (nd (o12 P) (nd (o32 P) (nd (o11 P) (nd (o11 P) (nd (o256 P) (nl (o11 P)) .nil) (nd (o384 P) (nl (o640 P)) .nil)) (nd (o192 P) (nd (o11 P) (nl (o12 P)) .nil) (nl (o448 P)))) (nd (o11 P) (nd (o12 P) (nd (o11 P) (nl (o544 P)) .nil) (nl (o280 P))) (nd (o224 P) (nd (o11 P) (nl (o608 P)) .nil) (nl (o480 P))))) (nd (o23 P) (nd (o80 P) (nd (o144 P) (nd (o12 P) (nl (o11 P)) .nil) (nl (o12 P))) (nd (o11 P) (nd (o336 P) (nl (o592 P)) .nil) (nl (o464 P)))) (nd (o112 P) (nd (o11 P) (nd (o304 P) (nl (o11 P)) .nil) (nl (o432 P))) (nd (o240 P) (nd (o368 P) (nl (o11 P)) .nil) (nl (o12 P)))))) (nd (o24 P) (nd (o40 P) (nd (o72 P) (nd (o12 P) (nd (o11 P) (nl (o11 P)) .nil) (nd (o11 P) (nl (o648 P)) .nil)) (nd (o200 P) (nd (o11 P) (nl (o584 P)) .nil) (nl (o11 P)))) (nd (o104 P) (nd (o168 P) (nd (o12 P) (nl (o552 P)) .nil) (nl (o11 P))) (nd (o11 P) (nd (o360 P) (nl (o11 P)) .nil) (nl (o11 P))))) (nd (o56 P) (nd (o11 P) (nd (o11 P) (nd (o280 P) (nl (o536 P)) .nil) (nl (o408 P))) (nd (o12 P) (nd (o11 P) (nl (o600 P)) .nil) (nl (o472 P)))) (nd (o120 P) (nd (o184 P) (nd (o312 P) (nl (o12 P)) .nil) (nl (o440 P))) (nd (o248 P) (nd (o11 P) (nl (o632 P)) .nil) (nl (o504 P))))))) (nd (o12v3 P) (nd (o20 P) (nd (o23 P) (nd (o68 P) (nd (o132 P) (nd (o11 P) (nl (o316 P)) .nil) (nd (o388 P) (nl (o12 P)) .nil)) (nd (o196 P) (nd (o324 P) (nl (o580 P)) .nil) (nl (o11 P)))) (nd (o11 P) (nd (o164 P) (nd (o292 P) (nl (o548 P)) .nil) (nl (o11 P))) (nd (o228 P) (nd (o356 P) (nl (o612 P)) .nil) (nl (o11 P))))) (nd (o52 P) (nd (o84 P) (nd (o12 P) (nd (o276 P) (nl (o11 P)) .nil) (nl (o404 P))) (nd (o212 P) (nd (o340 P) (nl (o596 P)) .nil) (nl (o468 P)))) (nd (o116 P) (nd (o11 P) (nd (o308 P) (nl (o564 P)) .nil) (nl (o12 P))) (nd (o12 P) (nd (o372 P) (nl (o11 P)) .nil) (nl (o500 P)))))) (nd (o28 P) (nd (o44 P) (nd (o76 P) (nd (o11 P) (nd (o268 P) (nl (o524 P)) .nil) (nl (o396 P))) (nd (o11 P) (nd (o11 P) (nl (o588 P)) .nil) (nl (o460 P)))) (nd (o12 P) (nd (o172 P) (nd (o300 P) (nl (o11 P)) .nil) (nl (o428 P))) (nd (o11 P) (nd (o364 P) (nl (o574 P)) .nil) (nl (o492 P))))) (nd (o60 P) (nd (o92 P) (nd (o156 P) (nd (o11 P) (nl (o12 P)) .nil) (nl (o412 P))) (nd (o220 P) (nd (o348 P) (nl (o11 P)) .nil) (nl (o476 P)))) (nd (o11 P) (nd (o12 P) (nd (o316 P) (nl (o572 P)) .nil) (nl (o444 P))) (nd (o252 P) (nd (o11 P) (nl (o12 P)) .nil) (nl (o508 P)))))))) (nd (boot_o_6 P) (nd (boot_o_10 P) (nd (o11 P) (nd (o34 P) (nd (o66 P) (nd (o130 P) (nd (o12 P) (nl (o514 P)) .nil) (nd (o386 P) (nl (o642 P)) .nil)) (nd (o11 P) (nd (o322 P) (nl (o11 P)) .nil) (nl (o12 P)))) (nd (o98 P) (nd (o11 P) (nd (o290 P) (nl (o11 P)) .nil) (nl (o12 P))) (nd (o226 P) (nd (o354 P) (nl (o610 P)) .nil) (nl (o12 P))))) (nd (o11 P) (nd (o82 P) (nd (o146 P) (nd (o11 P) (nl (o530 P)) .nil) (nl (o11 P))) (nd (o210 P) (nd (o338 P) (nl (o11 P)) .nil) (nl (o466 P)))) (nd (o114 P) (nd (o178 P) (nd (o306 P) (nl (o562 P)) .nil) (nl (o434 P))) (nd (o242 P) (nd (o370 P) (nl (o626 P)) .nil) (nl (o11 P)))))) (nd (o12 P) (nd (o11 P) (nd (o74 P) (nd (o138 P) (nd (o266 P) (nl (o522 P)) .nil) (nl (o394 P))) (nd (o12 P) (nd (o330 P) (nl (o586 P)) .nil) (nl (o458 P)))) (nd (o106 P) (nd (o170 P) (nd (o11 P) (nl (o12 P)) .nil) (nl (o426 P))) (nd (o234 P) (nd (o362 P) (nl (o618 P)) .nil) (nl (o490 P))))) (nd (o58 P) (nd (o90 P) (nd (o154 P) (nd (o12 P) (nl (o538 P)) .nil) (nl (o11 P))) (nd (o11 P) (nd (o346 P) (nl (o12 P)) .nil) (nl (o474 P)))) (nd (o12 P) (nd (o186 P) (nd (o314 P) (nl (o11 P)) .nil) (nl (o11 P))) (nd (o11 P) (nd (o378 P) (nl (o634 P)) .nil) (nl (o506 P))))))) (nd (o14 P) (nd (o22 P) (nd (o11 P) (nd (o70 P) (nd (o134 P) (nd (o262 P) (nl (o518 P)) .nil) (nd (o390 P) (nl (o11 P)) .nil)) (nd (o198 P) (nd (o12 P) (nl (o11 P)) .nil) (nl (o454 P)))) (nd (o102 P) (nd (o11 P) (nd (o294 P) (nl (o550 P)) .nil) (nl (o422 P))) (nd (o23 P) (nd (o11 P) (nl (o12 P)) .nil) (nl (o486 P))))) (nd (o11 P) (nd (o12 P) (nd (o150 P) (nd (o278 P) (nl (o534 P)) .nil) (nl (o406 P))) (nd (o214 P) (nd (o12 P) (nl (o598 P)) .nil) (nl (o470 P)))) (nd (o118 P) (nd (o182 P) (nd (o310 P) (nl (o566 P)) .nil) (nl (o11 P))) (nd (o11 P) (nd (o12 P) (nl (o630 P)) .nil) (nl (o11 P)))))) (nd (o30 P) (nd (o46 P) (nd (o11 P) (nd (o142 P) (nd (o270 P) (nl (o12 P)) .nil) (nl (o398 P))) (nd (o206 P) (nd (o334 P) (nl (o12 P)) .nil) (nl (o462 P)))) (nd (o11 P) (nd (o12 P) (nd (o11 P) (nl (o558 P)) .nil) (nl (o430 P))) (nd (o238 P) (nd (o11 P) (nl (o12 P)) .nil) (nl (o494 P))))) (nd (o12 P) (nd (o12 P) (nd (o158 P) (nd (o286 P) (nl (o11 P)) .nil) (nl (o11 P))) (nd (o11 P) (nd (o12 P) (nl (o606 P)) .nil) (nl (o478 P)))) (nd (o126 P) (nd (o11 P) (nd (o318 P) (nl (o574 P)) .nil) (nl (o446 P))) (nd (o254 P) (nd (o382 P) (nl (o11 P)) .nil) (nl (o12 P))))))))))
noncomputable def treeC3 (P : Params) : BT := (nd (boot_o_0 P) (nd (boot_o_1 P) (nd (o3v4 P) (nd (boot_o_7 P) (nd (o11 P) (nd (o31 P) (nd (o63 P) (nd (o127 P) (nd (o255 P) (nl (o511 P)) (nl (o767 P))) (nd (o11 P) (nl (o639 P)) .nil)) (nd (o191 P) (nd (o319 P) (nl (o11 P)) (nl (o11 P))) (nd (o447 P) (nl (o703 P)) .nil))) (nd (o95 P) (nd (o11 P) (nd (o287 P) (nl (o543 P)) (nl (o799 P))) (nd (o415 P) (nl (o11 P)) .nil)) (nd (o12 P) (nd (o351 P) (nl (o607 P)) (nl (o12 P))) (nd (o479 P) (nl (o11 P)) .nil)))) (nd (o11 P) (nd (o23 P) (nd (o11 P) (nd (o11 P) (nl (o527 P)) (nl (o783 P))) (nd (o11 P) (nl (o655 P)) .nil)) (nd (o207 P) (nd (o11 P) (nl (o591 P)) (nl (o847 P))) (nd (o463 P) (nl (o12 P)) .nil))) (nd (o111 P) (nd (o175 P) (nd (o12 P) (nl (o559 P)) (nl (o815 P))) (nd (o431 P) (nl (o687 P)) .nil)) (nd (o11 P) (nd (o12 P) (nl (o623 P)) (nl (o879 P))) (nd (o11 P) (nl (o751 P)) .nil))))) (nd (o23 P) (nd (o12 P) (nd (o71 P) (nd (o11 P) (nd (o263 P) (nl (o519 P)) (nl (o775 P))) (nd (o391 P) (nl (o647 P)) .nil)) (nd (o199 P) (nd (o327 P) (nl (o12 P)) (nl (o839 P))) (nd (o455 P) (nl (o711 P)) .nil))) (nd (o11 P) (nd (o12 P) (nd (o11 P) (nl (o551 P)) (nl (o807 P))) (nd (o423 P) (nl (o12 P)) .nil)) (nd (o231 P) (nd (o12 P) (nl (o615 P)) (nl (o11 P))) (nd (o487 P) (nl (o11 P)) .nil)))) (nd (o12 P) (nd (o87 P) (nd (o151 P) (nd (o279 P) (nl (o11 P)) (nl (o791 P))) (nd (o23 P) (nl (o663 P)) .nil)) (nd (o11 P) (nd (o343 P) (nl (o599 P)) (nl (o12 P))) (nd (o471 P) (nl (o12 P)) .nil))) (nd (o119 P) (nd (o11 P) (nd (o311v2 P) (nl (o11 P)) (nl (o11 P))) (nd (o439 P) (nl (o11 P)) .nil)) (nd (o247 P) (nd (o375 P) (nl (o11 P)) .nil) (nd (o12 P) (nl (o759 P)) .nil)))))) (nd (o11 P) (nd (o19 P) (nd (o35 P) (nd (o67 P) (nd (o11 P) (nd (o259 P) (nl (o515 P)) (nl (o771 P))) (nd (o387 P) (nl (o11 P)) .nil)) (nd (o12 P) (nd (o323 P) (nl (o579 P)) (nl (o835 P))) (nd (o451 P) (nl (o707 P)) .nil))) (nd (o99 P) (nd (o163 P) (nd (o11 P) (nl (o12 P)) (nl (o11 P))) (nd (o419 P) (nl (o675 P)) .nil)) (nd (o227 P) (nd (o355 P) (nl (o611 P)) (nl (o867 P))) (nd (o483 P) (nl (o739 P)) .nil)))) (nd (o51 P) (nd (o83 P) (nd (o11 P) (nd (o275 P) (nl (o531 P)) (nl (o12 P))) (nd (o403 P) (nl (o659 P)) .nil)) (nd (o11 P) (nd (o339 P) (nl (o12 P)) (nl (o851 P))) (nd (o467 P) (nl (o723 P)) .nil))) (nd (o115 P) (nd (o179 P) (nd (o307 P) (nl (o11 P)) (nl (o819 P))) (nd (o435 P) (nl (o691 P)) .nil)) (nd (o11 P) (nd (o371 P) (nl (o627 P)) (nl (o883 P))) (nd (o499 P) (nl (o11 P)) .nil))))) (nd (o27 P) (nd (o43 P) (nd (o75 P) (nd (o139 P) (nd (o11 P) (nl (o523 P)) (nl (o779 P))) (nd (o11 P) (nl (o23 P)) .nil)) (nd (o203 P) (nd (o331 P) (nl (o587 P)) (nl (o843 P))) (nd (o11 P) (nl (o715 P)) .nil))) (nd (o11 P) (nd (o171 P) (nd (o299 P) (nl (o555 P)) (nl (o11 P))) (nd (o11 P) (nl (o683 P)) .nil)) (nd (o235 P) (nd (o363 P) (nl (o619 P)) (nl (o875 P))) (nd (o11 P) (nl (o747 P)) .nil)))) (nd (o59 P) (nd (o91 P) (nd (o11 P) (nd (o283 P) (nl (o11 P)) (nl (o12 P))) (nd (o411 P) (nl (o12 P)) .nil)) (nd (o219 P) (nd (o347 P) (nl (o603 P)) (nl (o859 P))) (nd (o475 P) (nl (o731 P)) .nil))) (nd (o123 P) (nd (o11 P) (nd (o315 P) (nl (o571 P)) (nl (o827 P))) (nd (o12 P) (nl (o699 P)) .nil)) (nd (o12 P) (nd (o379 P) (nl (o11 P)) .nil) (nd (o507 P) (nl (o11 P)) .nil))))))) (nd (boot_o_5 P) (nd (boot_o_9 P) (nd (o17 P) (nd (o33 P) (nd (o65 P) (nd (o12 P) (nd (o11 P) (nl (o513 P)) (nl (o11 P))) (nd (o385 P) (nl (o641 P)) .nil)) (nd (o193 P) (nd (o321 P) (nl (o577 P)) (nl (o833 P))) (nd (o11 P) (nl (o705 P)) .nil))) (nd (o97 P) (nd (o161 P) (nd (o12 P) (nl (o545 P)) (nl (o801 P))) (nd (o11 P) (nl (o673 P)) .nil)) (nd (o11 P) (nd (o353 P) (nl (o609 P)) (nl (o11 P))) (nd (o11 P) (nl (o737 P)) .nil)))) (nd (o49 P) (nd (o11 P) (nd (o145 P) (nd (o273 P) (nl (o529 P)) (nl (o785 P))) (nd (o401 P) (nl (o657 P)) .nil)) (nd (o12 P) (nd (o337 P) (nl (o593 P)) (nl (o849 P))) (nd (o465 P) (nl (o11 P)) .nil))) (nd (o113 P) (nd (o177 P) (nd (o11 P) (nl (o12 P)) (nl (o817 P))) (nd (o280 P) (nl (o689 P)) .nil)) (nd (o241 P) (nd (o11 P) (nl (o625 P)) (nl (o881 P))) (nd (o497 P) (nl (o12 P)) .nil))))) (nd (o11 P) (nd (o41 P) (nd (o73 P) (nd (o137 P) (nd (o12 P) (nl (o521 P)) (nl (o11 P))) (nd (o12 P) (nl (o649 P)) .nil)) (nd (o11 P) (nd (o329 P) (nl (o11 P)) (nl (o841 P))) (nd (o12 P) (nl (o713 P)) .nil))) (nd (o105 P) (nd (o11 P) (nd (o297 P) (nl (o11 P)) (nl (o809 P))) (nd (o12 P) (nl (o11 P)) .nil)) (nd (o233 P) (nd (o11 P) (nl (o617 P)) (nl (o873 P))) (nd (o12 P) (nl (o745 P)) .nil)))) (nd (o11 P) (nd (o89 P) (nd (o12 P) (nd (o11 P) (nl (o537 P)) (nl (o793 P))) (nd (o409 P) (nl (o665 P)) .nil)) (nd (o217 P) (nd (o345 P) (nl (o11 P)) (nl (o11 P))) (nd (o11 P) (nl (o11 P)) .nil))) (nd (o11 P) (nd (o185 P) (nd (o313 P) (nl (o569 P)) (nl (o825 P))) (nd (o441 P) (nl (o697 P)) .nil)) (nd (o249 P) (nd (o377 P) (nl (o633 P)) .nil) (nd (o11 P) (nl (o12 P)) .nil)))))) (nd (o13 P) (nd (o21 P) (nd (o37 P) (nd (o69 P) (nd (o133 P) (nd (o261 P) (nl (o23 P)) (nl (o773 P))) (nd (o389 P) (nl (o645 P)) .nil)) (nd (o11 P) (nd (o325 P) (nl (o581 P)) (nl (o11 P))) (nd (o453 P) (nl (o11 P)) .nil))) (nd (o12 P) (nd (o165 P) (nd (o293 P) (nl (o11 P)) (nl (o805 P))) (nd (o421 P) (nl (o677 P)) .nil)) (nd (o11 P) (nd (o357 P) (nl (o11 P)) (nl (o869 P))) (nd (o485 P) (nl (o741 P)) .nil)))) (nd (o53 P) (nd (o11 P) (nd (o149 P) (nd (o277 P) (nl (o12 P)) (nl (o11 P))) (nd (o405 P) (nl (o661 P)) .nil)) (nd (o213 P) (nd (o11 P) (nl (o11 P)) (nl (o853 P))) (nd (o469 P) (nl (o725 P)) .nil))) (nd (o117 P) (nd (o12 P) (nd (o309 P) (nl (o565 P)) (nl (o12 P))) (nd (o437 P) (nl (o12 P)) .nil)) (nd (o245 P) (nd (o11 P) (nl (o12 P)) .nil) (nd (o501 P) (nl (o757 P)) .nil))))) (nd (o11 P) (nd (o45 P) (nd (o77 P) (nd (o12 P) (nd (o269 P) (nl (o525 P)) (nl (o781 P))) (nd (o397 P) (nl (o653 P)) .nil)) (nd (o205 P) (nd (o12 P) (nl (o11 P)) (nl (o11 P))) (nd (o461 P) (nl (o717 P)) .nil))) (nd (o109 P) (nd (o11 P) (nd (o301 P) (nl (o557 P)) (nl (o813 P))) (nd (o429 P) (nl (o11 P)) .nil)) (nd (o12 P) (nd (o365 P) (nl (o11 P)) (nl (o877 P))) (nd (o493 P) (nl (o749 P)) .nil)))) (nd (o11 P) (nd (o11 P) (nd (o157 P) (nd (o285 P) (nl (o541 P)) (nl (o11 P))) (nd (o413 P) (nl (o669 P)) .nil)) (nd (o221 P) (nd (o11 P) (nl (o605 P)) (nl (o861 P))) (nd (o477 P) (nl (o733 P)) .nil))) (nd (o125 P) (nd (o189 P) (nd (o23 P) (nl (o573 P)) (nl (o12 P))) (nd (o11 P) (nl (o11 P)) .nil)) (nd (o11 P) (nd (o12 P) (nl (o637 P)) .nil) (nd (o11 P) (nl (o765 P)) .nil)))))))) (nd (o2v1 P) (nd (boot_o_4 P) (nd (boot_o_8 P) (nd (o12 P) (nd (o32 P) (nd (o11 P) (nd (o11 P) (nd (o256 P) (nl (o11 P)) (nl (o768 P))) (nd (o384 P) (nl (o640 P)) .nil)) (nd (o192 P) (nd (o11 P) (nl (o12 P)) (nl (o832 P))) (nd (o448 P) (nl (o11 P)) .nil))) (nd (o11 P) (nd (o12 P) (nd (o11 P) (nl (o544 P)) (nl (o800 P))) (nd (o280 P) (nl (o12 P)) .nil)) (nd (o224 P) (nd (o11 P) (nl (o608 P)) (nl (o864 P))) (nd (o480 P) (nl (o12 P)) .nil)))) (nd (o23 P) (nd (o80 P) (nd (o144 P) (nd (o12 P) (nl (o11 P)) (nl (o784 P))) (nd (o12 P) (nl (o656 P)) .nil)) (nd (o11 P) (nd (o336 P) (nl (o592 P)) (nl (o11 P))) (nd (o464 P) (nl (o720 P)) .nil))) (nd (o112 P) (nd (o11 P) (nd (o304 P) (nl (o11 P)) (nl (o816 P))) (nd (o432 P) (nl (o11 P)) .nil)) (nd (o240 P) (nd (o368 P) (nl (o11 P)) (nl (o880 P))) (nd (o12 P) (nl (o11 P)) .nil))))) (nd (o24 P) (nd (o40 P) (nd (o72 P) (nd (o12 P) (nd (o11 P) (nl (o11 P)) (nl (o776 P))) (nd (o11 P) (nl (o648 P)) .nil)) (nd (o200 P) (nd (o11 P) (nl (o584 P)) (nl (o11 P))) (nd (o11 P) (nl (o11 P)) .nil))) (nd (o104 P) (nd (o168 P) (nd (o12 P) (nl (o552 P)) (nl (o808 P))) (nd (o11 P) (nl (o680 P)) .nil)) (nd (o11 P) (nd (o360 P) (nl (o11 P)) (nl (o12 P))) (nd (o11 P) (nl (o12 P)) .nil)))) (nd (o56 P) (nd (o11 P) (nd (o11 P) (nd (o280 P) (nl (o536 P)) (nl (o792 P))) (nd (o408 P) (nl (o664 P)) .nil)) (nd (o12 P) (nd (o11 P) (nl (o600 P)) (nl (o856 P))) (nd (o472 P) (nl (o728 P)) .nil))) (nd (o120 P) (nd (o184 P) (nd (o312 P) (nl (o12 P)) (nl (o824 P))) (nd (o440 P) (nl (o696 P)) .nil)) (nd (o248 P) (nd (o11 P) (nl (o632 P)) .nil) (nd (o504 P) (nl (o11 P)) .nil)))))) (nd (o12v4 P) (nd (o20 P) (nd (o23 P) (nd (o68 P) (nd (o132 P) (nd (o11 P) (nl (o316 P)) (nl (o11 P))) (nd (o388 P) (nl (o12 P)) .nil)) (nd (o196 P) (nd (o324 P) (nl (o580 P)) (nl (o836 P))) (nd (o11 P) (nl (o708 P)) .nil))) (nd (o11 P) (nd (o164 P) (nd (o292 P) (nl (o548 P)) (nl (o12 P))) (nd (o11 P) (nl (o676 P)) .nil)) (nd (o228 P) (nd (o356 P) (nl (o612 P)) (nl (o868 P))) (nd (o11 P) (nl (o740 P)) .nil)))) (nd (o52 P) (nd (o84 P) (nd (o12 P) (nd (o276 P) (nl (o11 P)) (nl (o788 P))) (nd (o404 P) (nl (o12 P)) .nil)) (nd (o212 P) (nd (o340 P) (nl (o596 P)) (nl (o852 P))) (nd (o468 P) (nl (o724 P)) .nil))) (nd (o116 P) (nd (o11 P) (nd (o308 P) (nl (o564 P)) (nl (o11 P))) (nd (o12 P) (nl (o11 P)) .nil)) (nd (o12 P) (nd (o372 P) (nl (o11 P)) .nil) (nd (o500 P) (nl (o756 P)) .nil))))) (nd (o28 P) (nd (o44 P) (nd (o76 P) (nd (o11 P) (nd (o268 P) (nl (o524 P)) (nl (o11 P))) (nd (o396 P) (nl (o652 P)) .nil)) (nd (o11 P) (nd (o11 P) (nl (o588 P)) (nl (o844 P))) (nd (o460 P) (nl (o716 P)) .nil))) (nd (o12 P) (nd (o172 P) (nd (o300 P) (nl (o11 P)) (nl (o12 P))) (nd (o428 P) (nl (o684 P)) .nil)) (nd (o11 P) (nd (o364 P) (nl (o574 P)) (nl (o876 P))) (nd (o492 P) (nl (o748 P)) .nil)))) (nd (o60 P) (nd (o92 P) (nd (o156 P) (nd (o11 P) (nl (o12 P)) (nl (o796 P))) (nd (o412 P) (nl (o668 P)) .nil)) (nd (o220 P) (nd (o348 P) (nl (o11 P)) (nl (o860 P))) (nd (o476 P) (nl (o732 P)) .nil))) (nd (o11 P) (nd (o12 P) (nd (o316 P) (nl (o572 P)) (nl (o11 P))) (nd (o444 P) (nl (o700 P)) .nil)) (nd (o252 P) (nd (o11 P) (nl (o12 P)) .nil) (nd (o508 P) (nl (o764 P)) .nil))))))) (nd (boot_o_6 P) (nd (boot_o_10 P) (nd (o11 P) (nd (o34 P) (nd (o66 P) (nd (o130 P) (nd (o12 P) (nl (o514 P)) (nl (o12 P))) (nd (o386 P) (nl (o642 P)) .nil)) (nd (o11 P) (nd (o322 P) (nl (o11 P)) (nl (o834 P))) (nd (o12 P) (nl (o706 P)) .nil))) (nd (o98 P) (nd (o11 P) (nd (o290 P) (nl (o11 P)) (nl (o802 P))) (nd (o12 P) (nl (o11 P)) .nil)) (nd (o226 P) (nd (o354 P) (nl (o610 P)) (nl (o866 P))) (nd (o12 P) (nl (o11 P)) .nil)))) (nd (o11 P) (nd (o82 P) (nd (o146 P) (nd (o11 P) (nl (o530 P)) (nl (o11 P))) (nd (o11 P) (nl (o658 P)) .nil)) (nd (o210 P) (nd (o338 P) (nl (o11 P)) (nl (o850 P))) (nd (o466 P) (nl (o722 P)) .nil))) (nd (o114 P) (nd (o178 P) (nd (o306 P) (nl (o562 P)) (nl (o818 P))) (nd (o434 P) (nl (o690 P)) .nil)) (nd (o242 P) (nd (o370 P) (nl (o626 P)) (nl (o882 P))) (nd (o11 P) (nl (o754 P)) .nil))))) (nd (o12 P) (nd (o11 P) (nd (o74 P) (nd (o138 P) (nd (o266 P) (nl (o522 P)) (nl (o12 P))) (nd (o394 P) (nl (o316 P)) .nil)) (nd (o12 P) (nd (o330 P) (nl (o586 P)) (nl (o842 P))) (nd (o458 P) (nl (o714 P)) .nil))) (nd (o106 P) (nd (o170 P) (nd (o11 P) (nl (o12 P)) (nl (o810 P))) (nd (o426 P) (nl (o682 P)) .nil)) (nd (o234 P) (nd (o362 P) (nl (o618 P)) (nl (o11 P))) (nd (o490 P) (nl (o11 P)) .nil)))) (nd (o58 P) (nd (o90 P) (nd (o154 P) (nd (o12 P) (nl (o538 P)) (nl (o11 P))) (nd (o11 P) (nl (o11 P)) .nil)) (nd (o11 P) (nd (o346 P) (nl (o12 P)) (nl (o858 P))) (nd (o474 P) (nl (o730 P)) .nil))) (nd (o12 P) (nd (o186 P) (nd (o314 P) (nl (o11 P)) (nl (o826 P))) (nd (o11 P) (nl (o698 P)) .nil)) (nd (o11 P) (nd (o378 P) (nl (o634 P)) .nil) (nd (o506 P) (nl (o762 P)) .nil)))))) (nd (o14 P) (nd (o22 P) (nd (o11 P) (nd (o70 P) (nd (o134 P) (nd (o262 P) (nl (o518 P)) (nl (o774 P))) (nd (o390 P) (nl (o11 P)) .nil)) (nd (o198 P) (nd (o12 P) (nl (o11 P)) (nl (o12 P))) (nd (o454 P) (nl (o12 P)) .nil))) (nd (o102 P) (nd (o11 P) (nd (o294 P) (nl (o550 P)) (nl (o11 P))) (nd (o422 P) (nl (o11 P)) .nil)) (nd (o23 P) (nd (o11 P) (nl (o12 P)) (nl (o870 P))) (nd (o486 P) (nl (o742 P)) .nil)))) (nd (o11 P) (nd (o12 P) (nd (o150 P) (nd (o278 P) (nl (o534 P)) (nl (o790 P))) (nd (o406 P) (nl (o11 P)) .nil)) (nd (o214 P) (nd (o12 P) (nl (o598 P)) (nl (o11 P))) (nd (o470 P) (nl (o11 P)) .nil))) (nd (o118 P) (nd (o182 P) (nd (o310 P) (nl (o566 P)) (nl (o822 P))) (nd (o11 P) (nl (o694 P)) .nil)) (nd (o11 P) (nd (o12 P) (nl (o630 P)) .nil) (nd (o11 P) (nl (o758 P)) .nil))))) (nd (o30 P) (nd (o46 P) (nd (o11 P) (nd (o142 P) (nd (o270 P) (nl (o12 P)) (nl (o782 P))) (nd (o398 P) (nl (o11 P)) .nil)) (nd (o206 P) (nd (o334 P) (nl (o12 P)) (nl (o12 P))) (nd (o462 P) (nl (o11 P)) .nil))) (nd (o11 P) (nd (o12 P) (nd (o11 P) (nl (o558 P)) (nl (o11 P))) (nd (o430 P) (nl (o12 P)) .nil)) (nd (o238 P) (nd (o11 P) (nl (o12 P)) (nl (o878 P))) (nd (o494 P) (nl (o750 P)) .nil)))) (nd (o12 P) (nd (o12 P) (nd (o158 P) (nd (o286 P) (nl (o11 P)) (nl (o798 P))) (nd (o11 P) (nl (o670 P)) .nil)) (nd (o11 P) (nd (o12 P) (nl (o606 P)) (nl (o11 P))) (nd (o478 P) (nl (o734 P)) .nil))) (nd (o126 P) (nd (o11 P) (nd (o318 P) (nl (o574 P)) (nl (o830 P))) (nd (o446 P) (nl (o12 P)) .nil)) (nd (o254 P) (nd (o382 P) (nl (o11 P)) .nil) (nd (o12 P) (nl (o766 P)) .nil)))))))))
noncomputable def treeC4 (P : Params) : BT := (nd (boot_o_0 P) (nd (boot_o_1 P) (nd (o3v5 P) (nd (boot_o_7 P) (nd (o11 P) (nd (o31 P) (nd (o63 P) (nd (o127 P) (nd (o255 P) (nl (o511 P)) (nl (o767 P))) (nd (o11 P) (nl (o639 P)) (nl (o895 P)))) (nd (o191 P) (nd (o319 P) (nl (o11 P)) (nl (o11 P))) (nd (o447 P) (nl (o703 P)) .nil))) (nd (o95 P) (nd (o11 P) (nd (o287 P) (nl (o543 P)) (nl (o799 P))) (nd (o415 P) (nl (o11 P)) .nil)) (nd (o12 P) (nd (o351 P) (nl (o607 P)) (nl (o12 P))) (nd (o479 P) (nl (o11 P)) .nil)))) (nd (o11 P) (nd (o23 P) (nd (o11 P) (nd (o11 P) (nl (o527 P)) (nl (o783 P))) (nd (o11 P) (nl (o655 P)) (nl (o911 P)))) (nd (o207 P) (nd (o11 P) (nl (o591 P)) (nl (o847 P))) (nd (o463 P) (nl (o12 P)) .nil))) (nd (o111 P) (nd (o175 P) (nd (o12 P) (nl (o559 P)) (nl (o815 P))) (nd (o431 P) (nl (o687 P)) .nil)) (nd (o11 P) (nd (o12 P) (nl (o623 P)) (nl (o879 P))) (nd (o11 P) (nl (o751 P)) .nil))))) (nd (o23 P) (nd (o12 P) (nd (o71 P) (nd (o11 P) (nd (o263 P) (nl (o519 P)) (nl (o775 P))) (nd (o391 P) (nl (o647 P)) (nl (o903 P)))) (nd (o199 P) (nd (o327 P) (nl (o12 P)) (nl (o839 P))) (nd (o455 P) (nl (o711 P)) .nil))) (nd (o11 P) (nd (o12 P) (nd (o11 P) (nl (o551 P)) (nl (o807 P))) (nd (o423 P) (nl (o12 P)) .nil)) (nd (o231 P) (nd (o12 P) (nl (o615 P)) (nl (o11 P))) (nd (o487 P) (nl (o11 P)) .nil)))) (nd (o12 P) (nd (o87 P) (nd (o151 P) (nd (o279 P) (nl (o11 P)) (nl (o791 P))) (nd (o23 P) (nl (o663 P)) .nil)) (nd (o11 P) (nd (o343 P) (nl (o599 P)) (nl (o12 P))) (nd (o471 P) (nl (o12 P)) .nil))) (nd (o119 P) (nd (o11 P) (nd (o311v2 P) (nl (o11 P)) (nl (o11 P))) (nd (o439 P) (nl (o11 P)) .nil)) (nd (o247 P) (nd (o375 P) (nl (o11 P)) (nl (o11 P))) (nd (o12 P) (nl (o759 P)) .nil)))))) (nd (o11 P) (nd (o19 P) (nd (o35 P) (nd (o67 P) (nd (o11 P) (nd (o259 P) (nl (o515 P)) (nl (o771 P))) (nd (o387 P) (nl (o11 P)) (nl (o12 P)))) (nd (o12 P) (nd (o323 P) (nl (o579 P)) (nl (o835 P))) (nd (o451 P) (nl (o707 P)) .nil))) (nd (o99 P) (nd (o163 P) (nd (o11 P) (nl (o12 P)) (nl (o11 P))) (nd (o419 P) (nl (o675 P)) .nil)) (nd (o227 P) (nd (o355 P) (nl (o611 P)) (nl (o867 P))) (nd (o483 P) (nl (o739 P)) .nil)))) (nd (o51 P) (nd (o83 P) (nd (o11 P) (nd (o275 P) (nl (o531 P)) (nl (o12 P))) (nd (o403 P) (nl (o659 P)) (nl (o915 P)))) (nd (o11 P) (nd (o339 P) (nl (o12 P)) (nl (o851 P))) (nd (o467 P) (nl (o723 P)) .nil))) (nd (o115 P) (nd (o179 P) (nd (o307 P) (nl (o11 P)) (nl (o819 P))) (nd (o435 P) (nl (o691 P)) .nil)) (nd (o11 P) (nd (o371 P) (nl (o627 P)) (nl (o883 P))) (nd (o499 P) (nl (o11 P)) .nil))))) (nd (o27 P) (nd (o43 P) (nd (o75 P) (nd (o139 P) (nd (o11 P) (nl (o523 P)) (nl (o779 P))) (nd (o11 P) (nl (o23 P)) (nl (o907 P)))) (nd (o203 P) (nd (o331 P) (nl (o587 P)) (nl (o843 P))) (nd (o11 P) (nl (o715 P)) .nil))) (nd (o11 P) (nd (o171 P) (nd (o299 P) (nl (o555 P)) (nl (o11 P))) (nd (o11 P) (nl (o683 P)) .nil)) (nd (o235 P) (nd (o363 P) (nl (o619 P)) (nl (o875 P))) (nd (o11 P) (nl (o747 P)) .nil)))) (nd (o59 P) (nd (o91 P) (nd (o11 P) (nd (o283 P) (nl (o11 P)) (nl (o12 P))) (nd (o411 P) (nl (o12 P)) .nil)) (nd (o219 P) (nd (o347 P) (nl (o603 P)) (nl (o859 P))) (nd (o475 P) (nl (o731 P)) .nil))) (nd (o123 P) (nd (o11 P) (nd (o315 P) (nl (o571 P)) (nl (o827 P))) (nd (o12 P) (nl (o699 P)) .nil)) (nd (o12 P) (nd (o379 P) (nl (o11 P)) (nl (o11 P))) (nd (o507 P) (nl (o11 P)) .nil))))))) (nd (boot_o_5 P) (nd (boot_o_9 P) (nd (o17 P) (nd (o33 P) (nd (o65 P) (nd (o12 P) (nd (o11 P) (nl (o513 P)) (nl (o11 P))) (nd (o385 P) (nl (o641 P)) (nl (o897 P)))) (nd (o193 P) (nd (o321 P) (nl (o577 P)) (nl (o833 P))) (nd (o11 P) (nl (o705 P)) .nil))) (nd (o97 P) (nd (o161 P) (nd (o12 P) (nl (o545 P)) (nl (o801 P))) (nd (o11 P) (nl (o673 P)) .nil)) (nd (o11 P) (nd (o353 P) (nl (o609 P)) (nl (o11 P))) (nd (o11 P) (nl (o737 P)) .nil)))) (nd (o49 P) (nd (o11 P) (nd (o145 P) (nd (o273 P) (nl (o529 P)) (nl (o785 P))) (nd (o401 P) (nl (o657 P)) (nl (o12 P)))) (nd (o12 P) (nd (o337 P) (nl (o593 P)) (nl (o849 P))) (nd (o465 P) (nl (o11 P)) .nil))) (nd (o113 P) (nd (o177 P) (nd (o11 P) (nl (o12 P)) (nl (o817 P))) (nd (o280 P) (nl (o689 P)) .nil)) (nd (o241 P) (nd (o11 P) (nl (o625 P)) (nl (o881 P))) (nd (o497 P) (nl (o12 P)) .nil))))) (nd (o11 P) (nd (o41 P) (nd (o73 P) (nd (o137 P) (nd (o12 P) (nl (o521 P)) (nl (o11 P))) (nd (o12 P) (nl (o649 P)) (nl (o11 P)))) (nd (o11 P) (nd (o329 P) (nl (o11 P)) (nl (o841 P))) (nd (o12 P) (nl (o713 P)) .nil))) (nd (o105 P) (nd (o11 P) (nd (o297 P) (nl (o11 P)) (nl (o809 P))) (nd (o12 P) (nl (o11 P)) .nil)) (nd (o233 P) (nd (o11 P) (nl (o617 P)) (nl (o873 P))) (nd (o12 P) (nl (o745 P)) .nil)))) (nd (o11 P) (nd (o89 P) (nd (o12 P) (nd (o11 P) (nl (o537 P)) (nl (o793 P))) (nd (o409 P) (nl (o665 P)) .nil)) (nd (o217 P) (nd (o345 P) (nl (o11 P)) (nl (o11 P))) (nd (o11 P) (nl (o11 P)) .nil))) (nd (o11 P) (nd (o185 P) (nd (o313 P) (nl (o569 P)) (nl (o825 P))) (nd (o441 P) (nl (o697 P)) .nil)) (nd (o249 P) (nd (o377 P) (nl (o633 P)) (nl (o889 P))) (nd (o11 P) (nl (o12 P)) .nil)))))) (nd (o13 P) (nd (o21 P) (nd (o37 P) (nd (o69 P) (nd (o133 P) (nd (o261 P) (nl (o23 P)) (nl (o773 P))) (nd (o389 P) (nl (o645 P)) (nl (o11 P)))) (nd (o11 P) (nd (o325 P) (nl (o581 P)) (nl (o11 P))) (nd (o453 P) (nl (o11 P)) .nil))) (nd (o12 P) (nd (o165 P) (nd (o293 P) (nl (o11 P)) (nl (o805 P))) (nd (o421 P) (nl (o677 P)) .nil)) (nd (o11 P) (nd (o357 P) (nl (o11 P)) (nl (o869 P))) (nd (o485 P) (nl (o741 P)) .nil)))) (nd (o53 P) (nd (o11 P) (nd (o149 P) (nd (o277 P) (nl (o12 P)) (nl (o11 P))) (nd (o405 P) (nl (o661 P)) .nil)) (nd (o213 P) (nd (o11 P) (nl (o11 P)) (nl (o853 P))) (nd (o469 P) (nl (o725 P)) .nil))) (nd (o117 P) (nd (o12 P) (nd (o309 P) (nl (o565 P)) (nl (o12 P))) (nd (o437 P) (nl (o12 P)) .nil)) (nd (o245 P) (nd (o11 P) (nl (o12 P)) (nl (o12 P))) (nd (o501 P) (nl (o757 P)) .nil))))) (nd (o11 P) (nd (o45 P) (nd (o77 P) (nd (o12 P) (nd (o269 P) (nl (o525 P)) (nl (o781 P))) (nd (o397 P) (nl (o653 P)) (nl (o909 P)))) (nd (o205 P) (nd (o12 P) (nl (o11 P)) (nl (o11 P))) (nd (o461 P) (nl (o717 P)) .nil))) (nd (o109 P) (nd (o11 P) (nd (o301 P) (nl (o557 P)) (nl (o813 P))) (nd (o429 P) (nl (o11 P)) .nil)) (nd (o12 P) (nd (o365 P) (nl (o11 P)) (nl (o877 P))) (nd (o493 P) (nl (o749 P)) .nil)))) (nd (o11 P) (nd (o11 P) (nd (o157 P) (nd (o285 P) (nl (o541 P)) (nl (o11 P))) (nd (o413 P) (nl (o669 P)) .nil)) (nd (o221 P) (nd (o11 P) (nl (o605 P)) (nl (o861 P))) (nd (o477 P) (nl (o733 P)) .nil))) (nd (o125 P) (nd (o189 P) (nd (o23 P) (nl (o573 P)) (nl (o12 P))) (nd (o11 P) (nl (o11 P)) .nil)) (nd (o11 P) (nd (o12 P) (nl (o637 P)) (nl (o11 P))) (nd (o11 P) (nl (o765 P)) .nil)))))))) (nd (o2v1 P) (nd (boot_o_4 P) (nd (boot_o_8 P) (nd (o12 P) (nd (o32 P) (nd (o11 P) (nd (o11 P) (nd (o256 P) (nl (o11 P)) (nl (o768 P))) (nd (o384 P) (nl (o640 P)) (nl (o896 P)))) (nd (o192 P) (nd (o11 P) (nl (o12 P)) (nl (o832 P))) (nd (o448 P) (nl (o11 P)) .nil))) (nd (o11 P) (nd (o12 P) (nd (o11 P) (nl (o544 P)) (nl (o800 P))) (nd (o280 P) (nl (o12 P)) .nil)) (nd (o224 P) (nd (o11 P) (nl (o608 P)) (nl (o864 P))) (nd (o480 P) (nl (o12 P)) .nil)))) (nd (o23 P) (nd (o80 P) (nd (o144 P) (nd (o12 P) (nl (o11 P)) (nl (o784 P))) (nd (o12 P) (nl (o656 P)) (nl (o11 P)))) (nd (o11 P) (nd (o336 P) (nl (o592 P)) (nl (o11 P))) (nd (o464 P) (nl (o720 P)) .nil))) (nd (o112 P) (nd (o11 P) (nd (o304 P) (nl (o11 P)) (nl (o816 P))) (nd (o432 P) (nl (o11 P)) .nil)) (nd (o240 P) (nd (o368 P) (nl (o11 P)) (nl (o880 P))) (nd (o12 P) (nl (o11 P)) .nil))))) (nd (o24 P) (nd (o40 P) (nd (o72 P) (nd (o12 P) (nd (o11 P) (nl (o11 P)) (nl (o776 P))) (nd (o11 P) (nl (o648 P)) (nl (o904 P)))) (nd (o200 P) (nd (o11 P) (nl (o584 P)) (nl (o11 P))) (nd (o11 P) (nl (o11 P)) .nil))) (nd (o104 P) (nd (o168 P) (nd (o12 P) (nl (o552 P)) (nl (o808 P))) (nd (o11 P) (nl (o680 P)) .nil)) (nd (o11 P) (nd (o360 P) (nl (o11 P)) (nl (o12 P))) (nd (o11 P) (nl (o12 P)) .nil)))) (nd (o56 P) (nd (o11 P) (nd (o11 P) (nd (o280 P) (nl (o536 P)) (nl (o792 P))) (nd (o408 P) (nl (o664 P)) .nil)) (nd (o12 P) (nd (o11 P) (nl (o600 P)) (nl (o856 P))) (nd (o472 P) (nl (o728 P)) .nil))) (nd (o120 P) (nd (o184 P) (nd (o312 P) (nl (o12 P)) (nl (o824 P))) (nd (o440 P) (nl (o696 P)) .nil)) (nd (o248 P) (nd (o11 P) (nl (o632 P)) (nl (o888 P))) (nd (o504 P) (nl (o11 P)) .nil)))))) (nd (o12v5 P) (nd (o20 P) (nd (o23 P) (nd (o68 P) (nd (o132 P) (nd (o11 P) (nl (o316 P)) (nl (o11 P))) (nd (o388 P) (nl (o12 P)) (nl (o900 P)))) (nd (o196 P) (nd (o324 P) (nl (o580 P)) (nl (o836 P))) (nd (o11 P) (nl (o708 P)) .nil))) (nd (o11 P) (nd (o164 P) (nd (o292 P) (nl (o548 P)) (nl (o12 P))) (nd (o11 P) (nl (o676 P)) .nil)) (nd (o228 P) (nd (o356 P) (nl (o612 P)) (nl (o868 P))) (nd (o11 P) (nl (o740 P)) .nil)))) (nd (o52 P) (nd (o84 P) (nd (o12 P) (nd (o276 P) (nl (o11 P)) (nl (o788 P))) (nd (o404 P) (nl (o12 P)) (nl (o916 P)))) (nd (o212 P) (nd (o340 P) (nl (o596 P)) (nl (o852 P))) (nd (o468 P) (nl (o724 P)) .nil))) (nd (o116 P) (nd (o11 P) (nd (o308 P) (nl (o564 P)) (nl (o11 P))) (nd (o12 P) (nl (o11 P)) .nil)) (nd (o12 P) (nd (o372 P) (nl (o11 P)) (nl (o11 P))) (nd (o500 P) (nl (o756 P)) .nil))))) (nd (o28 P) (nd (o44 P) (nd (o76 P) (nd (o11 P) (nd (o268 P) (nl (o524 P)) (nl (o11 P))) (nd (o396 P) (nl (o652 P)) (nl (o11 P)))) (nd (o11 P) (nd (o11 P) (nl (o588 P)) (nl (o844 P))) (nd (o460 P) (nl (o716 P)) .nil))) (nd (o12 P) (nd (o172 P) (nd (o300 P) (nl (o11 P)) (nl (o12 P))) (nd (o428 P) (nl (o684 P)) .nil)) (nd (o11 P) (nd (o364 P) (nl (o574 P)) (nl (o876 P))) (nd (o492 P) (nl (o748 P)) .nil)))) (nd (o60 P) (nd (o92 P) (nd (o156 P) (nd (o11 P) (nl (o12 P)) (nl (o796 P))) (nd (o412 P) (nl (o668 P)) .nil)) (nd (o220 P) (nd (o348 P) (nl (o11 P)) (nl (o860 P))) (nd (o476 P) (nl (o732 P)) .nil))) (nd (o11 P) (nd (o12 P) (nd (o316 P) (nl (o572 P)) (nl (o11 P))) (nd (o444 P) (nl (o700 P)) .nil)) (nd (o252 P) (nd (o11 P) (nl (o12 P)) (nl (o12 P))) (nd (o508 P) (nl (o764 P)) .nil))))))) (nd (boot_o_6 P) (nd (boot_o_10 P) (nd (o11 P) (nd (o34 P) (nd (o66 P) (nd (o130 P) (nd (o12 P) (nl (o514 P)) (nl (o12 P))) (nd (o386 P) (nl (o642 P)) (nl (o11 P)))) (nd (o11 P) (nd (o322 P) (nl (o11 P)) (nl (o834 P))) (nd (o12 P) (nl (o706 P)) .nil))) (nd (o98 P) (nd (o11 P) (nd (o290 P) (nl (o11 P)) (nl (o802 P))) (nd (o12 P) (nl (o11 P)) .nil)) (nd (o226 P) (nd (o354 P) (nl (o610 P)) (nl (o866 P))) (nd (o12 P) (nl (o11 P)) .nil)))) (nd (o11 P) (nd (o82 P) (nd (o146 P) (nd (o11 P) (nl (o530 P)) (nl (o11 P))) (nd (o11 P) (nl (o658 P)) (nl (o914 P)))) (nd (o210 P) (nd (o338 P) (nl (o11 P)) (nl (o850 P))) (nd (o466 P) (nl (o722 P)) .nil))) (nd (o114 P) (nd (o178 P) (nd (o306 P) (nl (o562 P)) (nl (o818 P))) (nd (o434 P) (nl (o690 P)) .nil)) (nd (o242 P) (nd (o370 P) (nl (o626 P)) (nl (o882 P))) (nd (o11 P) (nl (o754 P)) .nil))))) (nd (o12 P) (nd (o11 P) (nd (o74 P) (nd (o138 P) (nd (o266 P) (nl (o522 P)) (nl (o12 P))) (nd (o394 P) (nl (o316 P)) (nl (o12 P)))) (nd (o12 P) (nd (o330 P) (nl (o586 P)) (nl (o842 P))) (nd (o458 P) (nl (o714 P)) .nil))) (nd (o106 P) (nd (o170 P) (nd (o11 P) (nl (o12 P)) (nl (o810 P))) (nd (o426 P) (nl (o682 P)) .nil)) (nd (o234 P) (nd (o362 P) (nl (o618 P)) (nl (o11 P))) (nd (o490 P) (nl (o11 P)) .nil)))) (nd (o58 P) (nd (o90 P) (nd (o154 P) (nd (o12 P) (nl (o538 P)) (nl (o11 P))) (nd (o11 P) (nl (o11 P)) .nil)) (nd (o11 P) (nd (o346 P) (nl (o12 P)) (nl (o858 P))) (nd (o474 P) (nl (o730 P)) .nil))) (nd (o12 P) (nd (o186 P) (nd (o314 P) (nl (o11 P)) (nl (o826 P))) (nd (o11 P) (nl (o698 P)) .nil)) (nd (o11 P) (nd (o378 P) (nl (o634 P)) (nl (o890 P))) (nd (o506 P) (nl (o762 P)) .nil)))))) (nd (o14 P) (nd (o22 P) (nd (o11 P) (nd (o70 P) (nd (o134 P) (nd (o262 P) (nl (o518 P)) (nl (o774 P))) (nd (o390 P) (nl (o11 P)) (nl (o902 P)))) (nd (o198 P) (nd (o12 P) (nl (o11 P)) (nl (o12 P))) (nd (o454 P) (nl (o12 P)) .nil))) (nd (o102 P) (nd (o11 P) (nd (o294 P) (nl (o550 P)) (nl (o11 P))) (nd (o422 P) (nl (o11 P)) .nil)) (nd (o23 P) (nd (o11 P) (nl (o12 P)) (nl (o870 P))) (nd (o486 P) (nl (o742 P)) .nil)))) (nd (o11 P) (nd (o12 P) (nd (o150 P) (nd (o278 P) (nl (o534 P)) (nl (o790 P))) (nd (o406 P) (nl (o11 P)) .nil)) (nd (o214 P) (nd (o12 P) (nl (o598 P)) (nl (o11 P))) (nd (o470 P) (nl (o11 P)) .nil))) (nd (o118 P) (nd (o182 P) (nd (o310 P) (nl (o566 P)) (nl (o822 P))) (nd (o11 P) (nl (o694 P)) .nil)) (nd (o11 P) (nd (o12 P) (nl (o630 P)) (nl (o11 P))) (nd (o11 P) (nl (o758 P)) .nil))))) (nd (o30 P) (nd (o46 P) (nd (o11 P) (nd (o142 P) (nd (o270 P) (nl (o12 P)) (nl (o782 P))) (nd (o398 P) (nl (o11 P)) (nl (o910 P)))) (nd (o206 P) (nd (o334 P) (nl (o12 P)) (nl (o12 P))) (nd (o462 P) (nl (o11 P)) .nil))) (nd (o11 P) (nd (o12 P) (nd (o11 P) (nl (o558 P)) (nl (o11 P))) (nd (o430 P) (nl (o12 P)) .nil)) (nd (o238 P) (nd (o11 P) (nl (o12 P)) (nl (o878 P))) (nd (o494 P) (nl (o750 P)) .nil)))) (nd (o12 P) (nd (o12 P) (nd (o158 P) (nd (o286 P) (nl (o11 P)) (nl (o798 P))) (nd (o11 P) (nl (o670 P)) .nil)) (nd (o11 P) (nd (o12 P) (nl (o606 P)) (nl (o11 P))) (nd (o478 P) (nl (o734 P)) .nil))) (nd (o126 P) (nd (o11 P) (nd (o318 P) (nl (o574 P)) (nl (o830 P))) (nd (o446 P) (nl (o12 P)) .nil)) (nd (o254 P) (nd (o382 P) (nl (o11 P)) (nl (o11 P))) (nd (o12 P) (nl (o766 P)) .nil)))))))))
noncomputable def heapC4 (P : Params) : Heap := ⟨#[boot_o_0 P, boot_o_1 P, o2v1 P, o3v5 P, boot_o_4 P, boot_o_5 P, boot_o_6 P, boot_o_7 P, boot_o_8 P, boot_o_9 P, boot_o_10 P, o11 P, o12v5 P, o13 P, o14 P, o11 P, o12 P, o17 P, o11 P, o19 P, o20 P, o21 P, o22 P, o23 P, o24 P, o11 P, o12 P, o27 P, o28 P, o11 P, o30 P, o31 P, o32 P, o33 P, o34 P, o35 P, o23 P, o37 P, o11 P, o12 P, o40 P, o41 P, o11 P, o43 P, o44 P, o45 P, o46 P, o11 P, o23 P, o49 P, o11 P, o51 P, o52 P, o53 P, o11 P, o12 P, o56 P, o11 P, o58 P, o59 P, o60 P, o11 P, o12 P, o63 P, o11 P, o65 P, o66 P, o67 P, o68 P, o69 P, o70 P, o71 P, o72 P, o73 P, o74 P, o75 P, o76 P, o77 P, o11 P, o23 P, o80 P, o11 P, o82 P, o83 P, o84 P, o11 P, o12 P, o87 P, o11 P, o89 P, o90 P, o91 P, o92 P, o11 P, o12 P, o95 P, o11 P, o97 P, o98 P, o99 P, o11 P, o12 P, o102 P, o11 P, o104 P, o105 P, o106 P, o11 P, o12 P, o109 P, o11 P, o111 P, o112 P, o113 P, o114 P, o115 P, o116 P, o117 P, o118 P, o119 P, o120 P, o11 P, o12 P, o123 P, o11 P, o125 P, o126 P, o127 P, o11 P, o12 P, o130 P, o11 P, o132 P, o133 P, o134 P, o11 P, o12 P, o137 P, o138 P, o139 P, o11 P, o12 P, o142 P, o11 P, o144 P, o145 P, o146 P, o11 P, o12 P, o149 P, o150 P, o151 P, o11 P, o12 P, o154 P, o11 P, o156 P, o157 P, o158 P, o11 P, o12 P, o161 P, o11 P, o163 P, o164 P, o165 P, o11 P, o12 P, o168 P, o11 P, o170 P, o171 P, o172 P, o11 P, o12 P, o175 P, o11 P, o177 P, o178 P, o179 P, o11 P, o12 P, o182 P, o11 P, o184 P, o185 P, o186 P, o11 P, o12 P, o189 P, o11 P, o191 P, o192 P, o193 P, o11 P, o12 P, o196 P, o11 P, o198 P, o199 P, o200 P, o11 P, o12 P, o203 P, o11 P, o205 P, o206 P, o207 P, o11 P, o12 P, o210 P, o11 P, o212 P, o213 P, o214 P, o11 P, o12 P, o217 P, o11 P, o219 P, o220 P, o221 P, o11 P, o12 P, o224 P, o11 P, o226 P, o227 P, o228 P, o11 P, o23 P, o231 P, o11 P, o233 P, o234 P, o235 P, o11 P, o12 P, o238 P, o11 P, o240 P, o241 P, o242 P, o11 P, o12 P, o245 P, o11 P, o247 P, o248 P, o249 P, o11 P, o12 P, o252 P, o11 P, o254 P, o255 P, o256 P, o11 P, o12 P, o259 P, o11 P, o261 P, o262 P, o263 P, o11 P, o12 P, o266 P, o11 P, o268 P, o269 P, o270 P, o11 P, o12 P, o273 P, o11 P, o275 P, o276 P, o277 P, o278 P, o279 P, o280 P, o11 P, o12 P, o283 P, o11 P, o285 P, o286 P, o287 P, o11 P, o12 P, o290 P, o11 P, o292 P, o293 P, o294 P, o11 P, o12 P, o297 P, o11 P, o299 P, o300 P, o301 P, o11 P, o12 P, o304 P, o11 P, o306 P, o307 P, o308 P, o309 P, o310 P, o311v2 P, o312 P, o313 P, o314 P, o315 P, o316 P, o23 P, o318 P, o319 P, o11 P, o321 P, o322 P, o323 P, o324 P, o325 P, o12 P, o327 P, o11 P, o329 P, o330 P, o331 P, o11 P, o12 P, o334 P, o11 P, o336 P, o337 P, o338 P, o339 P, o340 P, o11 P, o12 P, o343 P, o11 P, o345 P, o346 P, o347 P, o348 P, o11 P, o12 P, o351 P, o11 P, o353 P, o354 P, o355 P, o356 P, o357 P, o11 P, o12 P, o360 P, o11 P, o362 P, o363 P, o364 P, o365 P, o11 P, o12 P, o368 P, o11 P, o370 P, o371 P, o372 P, o11 P, o12 P, o375 P, o11 P, o377 P, o378 P, o379 P, o11 P, o12 P, o382 P, o11 P, o384 P, o385 P, o386 P, o387 P, o388 P, o389 P, o390 P, o391 P, o11 P, o12 P, o394 P, o11 P, o396 P, o397 P, o398 P, o11 P, o12 P, o401 P, o11 P, o403 P, o404 P, o405 P, o406 P, o23 P, o408 P, o409 P, o11 P, o411 P, o412 P, o413 P, o11 P, o415 P, o280 P, o11 P, o12 P, o419 P, o11 P, o421 P, o422 P, o423 P, o11 P, o12 P, o426 P, o11 P, o428 P, o429 P, o430 P, o431 P, o432 P, o280 P, o434 P, o435 P, o12 P, o437 P, o11 P, o439 P, o440 P, o441 P, o11 P, o12 P, o444 P, o11 P, o446 P, o447 P, o448 P, o11 P, o12 P, o451 P, o11 P, o453 P, o454 P, o455 P, o11 P, o12 P, o458 P, o11 P, o460 P, o461 P, o462 P, o463 P, o464 P, o465 P, o466 P, o467 P, o468 P, o469 P, o470 P, o471 P, o472 P, o11 P, o474 P, o475 P, o476 P, o477 P, o478 P, o479 P, o480 P, o11 P, o12 P, o483 P, o11 P, o485 P, o486 P, o487 P, o11 P, o12 P, o490 P, o11 P, o492 P, o493 P, o494 P, o11 P, o12 P, o497 P, o11 P, o499 P, o500 P, o501 P, o11 P, o12 P, o504 P, o11 P, o506 P, o507 P, o508 P, o11 P, o12 P, o511 P, o11 P, o513 P, o514 P, o515 P, o316 P, o23 P, o518 P, o519 P, o11 P, o521 P, o522 P, o523 P, o524 P, o525 P, o12 P, o527 P, o11 P, o529 P, o530 P, o531 P, o11 P, o12 P, o534 P, o11 P, o536 P, o537 P, o538 P, o11 P, o12 P, o541 P, o11 P, o543 P, o544 P, o545 P, o11 P, o12 P, o548 P, o11 P, o550 P, o551 P, o552 P, o11 P, o12 P, o555 P, o11 P, o557 P, o558 P, o559 P, o11 P, o12 P, o562 P, o11 P, o564 P, o565 P, o566 P, o11 P, o12 P, o569 P, o11 P, o571 P, o572 P, o573 P, o574 P, o11 P, o12 P, o577 P, o11 P, o579 P, o580 P, o581 P, o11 P, o12 P, o584 P, o11 P, o586 P, o587 P, o588 P, o11 P, o12 P, o591 P, o592 P, o593 P, o11 P, o12 P, o596 P, o11 P, o598 P, o599 P, o600 P, o11 P, o12 P, o603 P, o11 P, o605 P, o606 P, o607 P, o608 P, o609 P, o610 P, o611 P, o612 P, o11 P, o12 P, o615 P, o11 P, o617 P, o618 P, o619 P, o574 P, o11 P, o12 P, o623 P, o11 P, o625 P, o626 P, o627 P, o11 P, o12 P, o630 P, o11 P, o632 P, o633 P, o634 P, o11 P, o12 P, o637 P, o11 P, o639 P, o640 P, o641 P, o642 P, o11 P, o12 P, o645 P, o11 P, o647 P, o648 P, o649 P, o316 P, o23 P, o652 P, o653 P, o11 P, o655 P, o656 P, o657 P, o658 P, o659 P, o12 P, o661 P, o11 P, o663 P, o664 P, o665 P, o11 P, o12 P, o668 P, o669 P, o670 P, o11 P, o12 P, o673 P, o11 P, o675 P, o676 P, o677 P, o11 P, o12 P, o680 P, o11 P, o682 P, o683 P, o684 P, o11 P, o12 P, o687 P, o11 P, o689 P, o690 P, o691 P, o11 P, o12 P, o694 P, o11 P, o696 P, o697 P, o698 P, o699 P, o700 P, o11 P, o12 P, o703 P, o11 P, o705 P, o706 P, o707 P, o708 P, o11 P, o12 P, o711 P, o11 P, o713 P, o714 P, o715 P, o716 P, o717 P, o11 P, o12 P, o720 P, o11 P, o722 P, o723 P, o724 P, o725 P, o11 P, o12 P, o728 P, o11 P, o730 P, o731 P, o732 P, o733 P, o734 P, o11 P, o12 P, o737 P, o11 P, o739 P, o740 P, o741 P, o742 P, o11 P, o12 P, o745 P, o11 P, o747 P, o748 P, o749 P, o750 P, o751 P, o11 P, o12 P, o754 P, o11 P, o756 P, o757 P, o758 P, o759 P, o11 P, o12 P, o762 P, o11 P, o764 P, o765 P, o766 P, o767 P, o768 P, o11 P, o12 P, o771 P, o11 P, o773 P, o774 P, o775 P, o776 P, o11 P, o12 P, o779 P, o11 P, o781 P, o782 P, o783 P, o784 P, o785 P, o11 P, o12 P, o788 P, o11 P, o790 P, o791 P, o792 P, o793 P, o11 P, o12 P, o796 P, o11 P, o798 P, o799 P, o800 P, o801 P, o802 P, o11 P, o12 P, o805 P, o11 P, o807 P, o808 P, o809 P, o810 P, o11 P, o12 P, o813 P, o11 P, o815 P, o816 P, o817 P, o818 P, o819 P, o11 P, o12 P, o822 P, o11 P, o824 P, o825 P, o826 P, o827 P, o11 P, o12 P, o830 P, o11 P, o832 P, o833 P, o834 P, o835 P, o836 P, o11 P, o12 P, o839 P, o11 P, o841 P, o842 P, o843 P, o844 P, o11 P, o12 P, o847 P, o11 P, o849 P, o850 P, o851 P, o852 P, o853 P, o11 P, o12 P, o856 P, o11 P, o858 P, o859 P, o860 P, o861 P, o11 P, o12 P, o864 P, o11 P, o866 P, o867 P, o868 P, o869 P, o870 P, o11 P, o12 P, o873 P, o11 P, o875 P, o876 P, o877 P, o878 P, o879 P, o880 P, o881 P, o882 P, o883 P, o11 P, o12 P, o11 P, o11 P, o888 P, o889 P, o890 P, o11 P, o12 P, o11 P, o11 P, o895 P, o896 P, o897 P, o11 P, o12 P, o900 P, o11 P, o902 P, o903 P, o904 P, o11 P, o12 P, o907 P, o11 P, o909 P, o910 P, o911 P, o11 P, o12 P, o914 P, o915 P, o916 P], life0⟩
noncomputable def kK0 (P : Params) : Frag := [(0, boot_o_0 P), (1, boot_o_1 P), (2, o2v1 P), (3, o3v5 P), (4, boot_o_4 P), (5, boot_o_5 P), (6, boot_o_6 P), (7, boot_o_7 P), (8, boot_o_8 P), (9, boot_o_9 P), (10, boot_o_10 P), (11, o11 P), (12, o12v5 P), (13, o13 P), (14, o14 P), (30, o30 P), (31, o31 P), (32, o32 P), (43, o43 P), (44, o44 P), (45, o45 P), (69, o69 P), (70, o70 P), (71, o71 P), (75, o75 P), (76, o76 P), (125, o125 P), (126, o126 P), (127, o127 P), (132, o132 P), (133, o133 P), (134, o134 P), (137, o137 P), (138, o138 P), (139, o139 P), (144, o144 P), (145, o145 P), (146, o146 P), (149, o149 P), (150, o150 P), (151, o151 P), (156, o156 P), (157, o157 P), (158, o158 P), (163, o163 P), (164, o164 P), (165, o165 P), (170, o170 P), (171, o171 P), (172, o172 P), (177, o177 P), (178, o178 P), (179, o179 P), (184, o184 P), (185, o185 P), (186, o186 P), (191, o191 P), (192, o192 P), (193, o193 P), (240, o240 P), (241, o241 P), (242, o242 P), (247, o247 P), (248, o248 P), (249, o249 P), (254, o254 P), (255, o255 P), (256, o256 P), (261, o261 P), (262, o262 P), (263, o263 P), (268, o268 P), (269, o269 P), (270, o270 P), (275, o275 P), (276, o276 P), (277, o277 P), (279, o279 P), (309, o309 P), (310, o310 P), (311, o311v2 P), (312, o312 P), (480, o480 P), (485, o485 P), (486, o486 P), (487, o487 P), (506, o506 P), (507, o507 P), (508, o508 P), (519, o519 P), (529, o529 P), (530, o530 P), (531, o531 P), (536, o536 P), (537, o537 P), (538, o538 P), (543, o543 P), (544, o544 P), (545, o545 P), (564, o564 P), (565, o565 P), (566, o566 P), (591, o591 P), (592, o592 P), (593, o593 P), (598, o598 P), (599, o599 P), (600, o600 P), (609, o609 P), (610, o610 P), (611, o611 P), (888, o888 P), (889, o889 P), (890, o890 P), (895, o895 P), (896, o896 P), (897, o897 P), (902, o902 P), (903, o903 P), (904, o904 P), (909, o909 P), (910, o910 P), (911, o911 P), (914, o914 P), (915, o915 P), (916, o916 P)]
noncomputable def keptK (P : Params) : Frag := kK0 P ++ [(318, o318 P)]
noncomputable def asK : List Addr := [0, 1, 2, 3, 4, 5, 6, 7, 8, 9, 10, 11, 12, 13, 14, 30, 31, 32, 43, 44, 45, 69, 70, 71, 75, 76, 125, 126, 127, 132, 133, 134, 137, 138, 139, 144, 145, 146, 149, 150, 151, 156, 157, 158, 163, 164, 165, 170, 171, 172, 177, 178, 179, 184, 185, 186, 191, 192, 193, 240, 241, 242, 247, 248, 249, 254, 255, 256, 261, 262, 263, 268, 269, 270, 275, 276, 277, 279, 309, 310, 311, 312, 480, 485, 486, 487, 506, 507, 508, 519, 529, 530, 531, 536, 537, 538, 543, 544, 545, 564, 565, 566, 591, 592, 593, 598, 599, 600, 609, 610, 611, 888, 889, 890, 895, 896, 897, 902, 903, 904, 909, 910, 911, 914, 915, 916, 318]
end
end MineH
end
section
open PySem PySem.W PySem.Calls
namespace MineH
noncomputable section
noncomputable abbrev pg : Program := PySem.Challenge.rw_ji0038_05.row.toRowW.1
noncomputable def env0 : Env := { scope := pg.main.scope, locals := mainNs, globals := mainNs, cells := [], code := .ref 13, frame := some 14 }
noncomputable def cE : Code := .body (behindTheImports pg) env0
noncomputable abbrev fr0 : List Frame := [topFrame ⟨0, 0, 0, 0⟩]
noncomputable abbrev ann0 : Option Value := some (.ref 6)
noncomputable abbrev sT (t : BT) (n k : Nat) (os : OsState) : SharedT := ⟨t, n, life0, #[], {}, k, os⟩
theorem hd_pre (w : World) (os : OsState) : topGo treeTable pg w 11 ann0 12 ⟨boot_heap w.params, #[], boot_drawn, boot_toks, os⟩ (topStub pg) = some (⟨heapA w.params, #[], {}, 187, os⟩, ⟨denote treeTable cE, cE, ⟨0, 0, 0, 0⟩, fr0⟩) := by kernel_rfl
theorem hd_block (w : World) (os : OsState) : segRun treeTable pg w 11 ann0 1 1 ⟨heapA w.params, #[], {}, 187, os⟩ (blockOf (behindTheImports pg) env0 cE ⟨0, 0, 0, 0⟩ fr0) = some (.next, (sT (treeB w.params) 15 187 os).abs, cE, ⟨0, 0, 0, 0⟩) := by kernel_rfl
noncomputable def sts0 : List Stmt := ((behindTheImports pg).drop 0).take 38
theorem hd_p0 (w : World) (os : OsState) : segRunT treeTable pg w 11 ann0 1 2540 (sT (treeB w.params) 15 187 os) (piecesOf sts0 env0 cE ⟨0, 0, 0, 0⟩ fr0) = some (.next, sT (treeC0 w.params) 316 636 os, cE, ⟨160, 0, 228, 16⟩) := by kernel_rfl
noncomputable def sts1 : List Stmt := ((behindTheImports pg).drop 38).take 10
theorem hd_p1 (w : World) (os : OsState) : segRunT treeTable pg w 11 ann0 1 2744 (sT (treeC0 w.params) 316 636 os) (piecesOf sts1 env0 cE ⟨160, 0, 228, 16⟩ fr0) = some (.next, sT (treeC1 w.params) 613 1087 os, cE, ⟨438, 0, 531, 53⟩) := by kernel_rfl
noncomputable def sts2 : List Stmt := ((behindTheImports pg).drop 48).take 5
theorem hd_p2 (w : World) (os : OsState) : segRunT treeTable pg w 11 ann0 1 190 (sT (treeC1 w.params) 613 1087 os) (piecesOf sts2 env0 cE ⟨438, 0, 531, 53⟩ fr0) = some (.next, sT (treeC2 w.params) 650 1162 os, cE, ⟨597, 0, 660, 230⟩) := by kernel_rfl
noncomputable def sts3 : List Stmt := ((behindTheImports pg).drop 53).take 2
theorem hd_p3 (w : World) (os : OsState) : segRunT treeTable pg w 11 ann0 1 2737 (sT (treeC2 w.params) 650 1162 os) (piecesOf sts3 env0 cE ⟨597, 0, 660, 230⟩ fr0) = some (.next, sT (treeC3 w.params) 884 1455 os, cE, ⟨866, 0, 866, 8⟩) := by kernel_rfl
noncomputable def sts4 : List Stmt := ((behindTheImports pg).drop 55).take 5
theorem hd_p4 (w : World) (os : OsState) : segRunT treeTable pg w 11 ann0 1 148 (sT (treeC3 w.params) 884 1455 os) (piecesOf sts4 env0 cE ⟨866, 0, 866, 8⟩ fr0) = some (.next, sT (treeC4 w.params) 917 1494 os, cE, ⟨888, 0, 911, 27⟩) := by kernel_rfl
theorem hd_fin (w : World) (os : OsState) : topRun treeTable pg w 11 ann0 2 (sT (treeC4 w.params) 917 1494 os).abs ⟨doneF .next, cE, ⟨888, 0, 911, 27⟩, fr0⟩ = some ⟨heapC4 w.params, #[], {}, 1494, os⟩ := by kernel_rfl
end
end MineH
end
section
open PySem PySem.W PySem.Calls PyProof.Rows PySem.W.X
namespace MineH
noncomputable section
noncomputable def q1 : Program := { pg with main := { pg.main with body := [(pg.main.body)[59]?.getD default] } }
noncomputable def loose1 : List Str := [Str.ofString "_wall", Str.ofString "FileFormatException", Str.ofString "ObjectFormatException", Str.ofString "ObjectFormat", Str.ofString "SHA1", Str.ofString "DEFAULT_OBJECT_FORMAT", Str.ofString "_tuplegetter", Str.ofString "S_IFDIR", Str.ofString "S_IFREG", Str.ofString "S_IFLNK", Str.ofString "S_IFMT", Str.ofString "S_ISDIR", Str.ofString "hexlify", Str.ofString "_digit", Str.ofString "unhexlify", Str.ofString "ObjectID", Str.ofString "RawObjectID", Str.ofString "_TREE_HEADER", Str.ofString "_PARENT_HEADER", Str.ofString "_AUTHOR_HEADER", Str.ofString "_COMMITTER_HEADER", Str.ofString "_ENCODING_HEADER", Str.ofString "_GPGSIG_HEADER", Str.ofString "S_IFGITLINK", Str.ofString "MAX_TIME", Str.ofString "sha_to_hex", Str.ofString "hex_to_sha", Str.ofString "valid_hexsha", Str.ofString "check_hexsha", Str.ofString "check_identity", Str.ofString "check_time", Str.ofString "git_line", Str.ofString "is_commit", Str.ofString "is_tree", Str.ofString "ShaFile", Str.ofString "Blob", Str.ofString "_parse_message", Str.ofString "_format_message", Str.ofString "TreeEntry", Str.ofString "parse_tree", Str.ofString "serialize_tree", Str.ofString "sorted_tree_items", Str.ofString "key_entry", Str.ofString "key_entry_name_order", Str.ofString "Tree", Str.ofString "parse_timezone", Str.ofString "format_timezone", Str.ofString "parse_time_entry", Str.ofString "format_time_entry", Str.ofString "_parse_commit", Str.ofString "Commit", Str.ofString "_law_figures", Str.ofString "_law_names", Str.ofString "_law_mode", Str.ofString "_law_sound"]
noncomputable abbrev sF (w : World) (os : OsState) : Shared := ⟨heapC4 w.params, #[], {}, 1494, os⟩
theorem hd_body : behindTheImports pg = sts0 ++ (sts1 ++ (sts2 ++ (sts3 ++ (sts4 ++ [])))) := by kernel_rfl
theorem hd_run (w : World) (os : OsState) : topRun treeTable pg w 11 ann0 (12 + (1 + (2540 + (2744 + (190 + (2737 + (148 + 2))))))) ⟨boot_heap w.params, #[], boot_drawn, boot_toks, os⟩ (topStub pg) = some (sF w os) := by
  have k5 := piece_nil (env := env0) (c := cE) (hd_fin w os)
  have k4 := piece_app (segRun_of (hd_p4 w os)) k5
  have k3 := piece_app (segRun_of (hd_p3 w os)) k4
  have k2 := piece_app (segRun_of (hd_p2 w os)) k3
  have k1 := piece_app (segRun_of (hd_p1 w os)) k2
  have k0 := piece_app (segRun_of (hd_p0 w os)) k1
  rw [← hd_body] at k0
  exact go_top (hd_pre w os) (piece_block (hd_block w os) k0)
theorem hd_l0 (w : World) (os : OsState) : (staticsOk (importedModules pg.main.body) (boot_heap w.params) (heapC4 w.params) && namesBound pg (heapC4 w.params) && gensDone (sF w os) && laidKept (boot_heap w.params) (heapC4 w.params)) = true := by kernel_rfl
theorem hd_l1 (w : World) (os : OsState) : openSeen q1 loose1 (importedModules pg.main.body) (fun s => xlAt q1 [] s && recOk PySem.Challenge.rw_ji0038_05.row.records s) true (sF w os) = openGood q1 loose1 := by kernel_rfl
theorem hd_l2 (w : World) (os : OsState) : obsZ asK (sF w os) = valZ keptK 917 1494 w := by kernel_rfl
theorem hd_e : opening pg = plainProg pg.main.scope.names := by kernel_rfl
theorem hd_f (s : Shared) : fenceModules? pg s = some s := by kernel_rfl
theorem hd_size (w : World) : ((boot_heap w.params).isNs mainGlobals && (#[] : Array GenState).size == 0, (boot_heap w.params).objs.size, (boot_heap w.params).nsMap mainGlobals "__annotations__") = (true, 11, ann0) := by kernel_rfl
theorem hd_left : LeftO pg q1 loose1 (fun s => xlAt q1 [] s && recOk PySem.Challenge.rw_ji0038_05.row.records s) (obsZ asK) (valZ keptK 917 1494) 16834 true :=
  LeftO.of_pieces (boot_open hd_e rfl hd_f) hd_size hd_run rfl fun w => funext fun os => Prod.ext (hd_l0 w os) (Prod.ext (hd_l1 w os) (hd_l2 w os))
end
end MineH
end
section
open PySem PySem.W PyProof.Rows PySem.W.X PySem.W.ZRun
set_option maxHeartbeats 4000000
namespace MineH
noncomputable abbrev rr : OpenRow := PySem.Challenge.rw_ji0038_05.row
noncomputable def lawRec : DefRec := ((recsOf q1).head?).getD ⟨Str.empty, fnPar pb 59, [], (fnAt pb 59).2, ⟨0, 0, 0, 0⟩⟩
theorem a_def : defOf q1 rr.name = some (lawRec, []) := by kernel_rfl
theorem a_the : rr.prog.theDef rr.name = some (lawRec.params, lawRec.body, lawRec.scope) := by kernel_rfl
theorem a_kw : kwWritten? lawRec.params.kwonlyargs lawRec.params.kw_defaults = some [] := by kernel_rfl
theorem a_wr : (!rr.writes || List.isEmpty rr.records) = true := by kernel_rfl
theorem lk_res : namesResolve rr.prog = true := (congrFun Fast.te8377067652309620493 _).trans (show Fast.tw8377067652309620493 rr.prog = true by kernel_rfl)
theorem lk_vars : readsOut rr.prog rr.prog.main.body "vars" = false := by kernel_rfl
theorem lk_dir : readsOut rr.prog rr.prog.main.body "dir" = false := by kernel_rfl
theorem lk_loc : readsOut rr.prog rr.prog.main.body "locals" = false := by kernel_rfl
theorem lk_bare : (["vars", "dir", "locals"] : List Str).filter (readsOut rr.prog rr.prog.main.body) = [] := by
  rw [List.filter_cons_of_neg (by rw [lk_vars]; exact Bool.false_ne_true), List.filter_cons_of_neg (by rw [lk_dir]; exact Bool.false_ne_true), List.filter_cons_of_neg (by rw [lk_loc]; exact Bool.false_ne_true), List.filter_nil]
theorem lk_road : noRoadLSs { strict := !(importedModules rr.prog.main.body).all cThrough.contains, foot := none, bare := [] } rr.prog.main.body = true := by kernel_rfl
theorem lk_meet : (namesMeet rr.prog rr.prog.main.body fun _ n => attrL n) = true := by kernel_rfl
theorem lk_open : looksOpen rr.prog = true := by
  unfold looksOpen
  rw [lk_res, lk_bare, lk_road, lk_meet]
  kernel_rfl
theorem law_said : PySem.Challenge.rw_ji0038_05.wellSaid = true := by
  unfold OpenLaw.wellSaid OpenRow.wellSaid OpenRow.partSaid
  rw [lk_open]
  kernel_rfl
theorem a_ok : (chainsOk q1 && opensWell rr.prog && (frees rr.toRowW && rr.within.isEmpty)) = true := by decide +kernel
theorem a_bare : rr.prog.bare := ⟨rfl, rfl, rfl, rfl, rfl, by decide +kernel⟩
theorem hz_hold (hw : rr.promised) (hc : WalkX q1 loose1 (XL q1 []) (obsZ asK) (valZ keptK 917 1494) rr.toRowW lawRec [] fun f vs => call f vs) : rr.Holds :=
  holds_openX hd_left (fun s e => xl_of s (Bool.and_eq_true_iff.mp e).1) XL.keeps a_def a_the a_kw (fun s e => recFacts_of (Bool.and_eq_true_iff.mp e).2) a_wr (row_said law_said) a_ok a_bare hw hc
theorem a_prom : rr.promised := ⟨[WData.list []], by kernel_rfl, by kernel_rfl⟩
theorem hz_law (hc : WalkX q1 loose1 (XL q1 []) (obsZ asK) (valZ keptK 917 1494) rr.toRowW lawRec [] fun f vs => call f vs) : PySem.Challenge.rw_ji0038_05.Holds :=
  holds_law law_said fun _ => hz_hold a_prom hc
end MineH
end
open PySem PySem.Spec PySem.Calls PyProof.Rows PySem.W
namespace Mine
theorem el_0_2  {A0 A1 : Prop} {P : Prop} (h : A0 ∧ A1) (f : A0 → A1 → P) : P := by
  obtain ⟨h0, h1⟩ := h; exact f h0 h1
theorem el_1_1 {α0 : Sort _} {A0 : α0 → Prop} {P : Prop} (h : ∃ x0, A0 x0) (f : ∀ x0, A0 x0 → P) : P := by
  obtain ⟨x0, h0⟩ := h; exact f x0 h0
theorem el_0_3  {A0 A1 A2 : Prop} {P : Prop} (h : A0 ∧ A1 ∧ A2) (f : A0 → A1 → A2 → P) : P := by
  obtain ⟨h0, h1, h2⟩ := h; exact f h0 h1 h2
theorem el_1_2 {α0 : Sort _} {A0 A1 : α0 → Prop} {P : Prop} (h : ∃ x0, A0 x0 ∧ A1 x0) (f : ∀ x0, A0 x0 → A1 x0 → P) : P := by
  obtain ⟨x0, h0, h1⟩ := h; exact f x0 h0 h1
theorem el_2_1 {α0 : Sort _} {α1 : Sort _} {A0 : α0 → α1 → Prop} {P : Prop} (h : ∃ x0 x1, A0 x0 x1) (f : ∀ x0 x1, A0 x0 x1 → P) : P := by
  obtain ⟨x0, x1, h0⟩ := h; exact f x0 x1 h0
theorem el_0_4  {A0 A1 A2 A3 : Prop} {P : Prop} (h : A0 ∧ A1 ∧ A2 ∧ A3) (f : A0 → A1 → A2 → A3 → P) : P := by
  obtain ⟨h0, h1, h2, h3⟩ := h; exact f h0 h1 h2 h3
theorem el_1_3 {α0 : Sort _} {A0 A1 A2 : α0 → Prop} {P : Prop} (h : ∃ x0, A0 x0 ∧ A1 x0 ∧ A2 x0) (f : ∀ x0, A0 x0 → A1 x0 → A2 x0 → P) : P := by
  obtain ⟨x0, h0, h1, h2⟩ := h; exact f x0 h0 h1 h2
theorem el_2_2 {α0 : Sort _} {α1 : Sort _} {A0 A1 : α0 → α1 → Prop} {P : Prop} (h : ∃ x0 x1, A0 x0 x1 ∧ A1 x0 x1) (f : ∀ x0 x1, A0 x0 x1 → A1 x0 x1 → P) : P := by
  obtain ⟨x0, x1, h0, h1⟩ := h; exact f x0 x1 h0 h1
theorem el_3_1 {α0 : Sort _} {α1 : Sort _} {α2 : Sort _} {A0 : α0 → α1 → α2 → Prop} {P : Prop} (h : ∃ x0 x1 x2, A0 x0 x1 x2) (f : ∀ x0 x1 x2, A0 x0 x1 x2 → P) : P := by
  obtain ⟨x0, x1, x2, h0⟩ := h; exact f x0 x1 x2 h0
theorem el_0_5  {A0 A1 A2 A3 A4 : Prop} {P : Prop} (h : A0 ∧ A1 ∧ A2 ∧ A3 ∧ A4) (f : A0 → A1 → A2 → A3 → A4 → P) : P := by
  obtain ⟨h0, h1, h2, h3, h4⟩ := h; exact f h0 h1 h2 h3 h4
theorem el_1_4 {α0 : Sort _} {A0 A1 A2 A3 : α0 → Prop} {P : Prop} (h : ∃ x0, A0 x0 ∧ A1 x0 ∧ A2 x0 ∧ A3 x0) (f : ∀ x0, A0 x0 → A1 x0 → A2 x0 → A3 x0 → P) : P := by
  obtain ⟨x0, h0, h1, h2, h3⟩ := h; exact f x0 h0 h1 h2 h3
theorem el_2_3 {α0 : Sort _} {α1 : Sort _} {A0 A1 A2 : α0 → α1 → Prop} {P : Prop} (h : ∃ x0 x1, A0 x0 x1 ∧ A1 x0 x1 ∧ A2 x0 x1) (f : ∀ x0 x1, A0 x0 x1 → A1 x0 x1 → A2 x0 x1 → P) : P := by
  obtain ⟨x0, x1, h0, h1, h2⟩ := h; exact f x0 x1 h0 h1 h2
theorem el_3_2 {α0 : Sort _} {α1 : Sort _} {α2 : Sort _} {A0 A1 : α0 → α1 → α2 → Prop} {P : Prop} (h : ∃ x0 x1 x2, A0 x0 x1 x2 ∧ A1 x0 x1 x2) (f : ∀ x0 x1 x2, A0 x0 x1 x2 → A1 x0 x1 x2 → P) : P := by
  obtain ⟨x0, x1, x2, h0, h1⟩ := h; exact f x0 x1 x2 h0 h1
theorem el_1_5 {α0 : Sort _} {A0 A1 A2 A3 A4 : α0 → Prop} {P : Prop} (h : ∃ x0, A0 x0 ∧ A1 x0 ∧ A2 x0 ∧ A3 x0 ∧ A4 x0) (f : ∀ x0, A0 x0 → A1 x0 → A2 x0 → A3 x0 → A4 x0 → P) : P := by
  obtain ⟨x0, h0, h1, h2, h3, h4⟩ := h; exact f x0 h0 h1 h2 h3 h4
theorem el_2_4 {α0 : Sort _} {α1 : Sort _} {A0 A1 A2 A3 : α0 → α1 → Prop} {P : Prop} (h : ∃ x0 x1, A0 x0 x1 ∧ A1 x0 x1 ∧ A2 x0 x1 ∧ A3 x0 x1) (f : ∀ x0 x1, A0 x0 x1 → A1 x0 x1 → A2 x0 x1 → A3 x0 x1 → P) : P := by
  obtain ⟨x0, x1, h0, h1, h2, h3⟩ := h; exact f x0 x1 h0 h1 h2 h3
theorem el_3_3 {α0 : Sort _} {α1 : Sort _} {α2 : Sort _} {A0 A1 A2 : α0 → α1 → α2 → Prop} {P : Prop} (h : ∃ x0 x1 x2, A0 x0 x1 x2 ∧ A1 x0 x1 x2 ∧ A2 x0 x1 x2) (f : ∀ x0 x1 x2, A0 x0 x1 x2 → A1 x0 x1 x2 → A2 x0 x1 x2 → P) : P := by
  obtain ⟨x0, x1, x2, h0, h1, h2⟩ := h; exact f x0 x1 x2 h0 h1 h2
theorem el_4_2 {α0 : Sort _} {α1 : Sort _} {α2 : Sort _} {α3 : Sort _} {A0 A1 : α0 → α1 → α2 → α3 → Prop} {P : Prop} (h : ∃ x0 x1 x2 x3, A0 x0 x1 x2 x3 ∧ A1 x0 x1 x2 x3) (f : ∀ x0 x1 x2 x3, A0 x0 x1 x2 x3 → A1 x0 x1 x2 x3 → P) : P := by
  obtain ⟨x0, x1, x2, x3, h0, h1⟩ := h; exact f x0 x1 x2 x3 h0 h1
theorem el_5_1 {α0 : Sort _} {α1 : Sort _} {α2 : Sort _} {α3 : Sort _} {α4 : Sort _} {A0 : α0 → α1 → α2 → α3 → α4 → Prop} {P : Prop} (h : ∃ x0 x1 x2 x3 x4, A0 x0 x1 x2 x3 x4) (f : ∀ x0 x1 x2 x3 x4, A0 x0 x1 x2 x3 x4 → P) : P := by
  obtain ⟨x0, x1, x2, x3, x4, h0⟩ := h; exact f x0 x1 x2 x3 x4 h0
theorem el_3_4 {α0 : Sort _} {α1 : Sort _} {α2 : Sort _} {A0 A1 A2 A3 : α0 → α1 → α2 → Prop} {P : Prop} (h : ∃ x0 x1 x2, A0 x0 x1 x2 ∧ A1 x0 x1 x2 ∧ A2 x0 x1 x2 ∧ A3 x0 x1 x2) (f : ∀ x0 x1 x2, A0 x0 x1 x2 → A1 x0 x1 x2 → A2 x0 x1 x2 → A3 x0 x1 x2 → P) : P := by
  obtain ⟨x0, x1, x2, h0, h1, h2, h3⟩ := h; exact f x0 x1 x2 h0 h1 h2 h3
theorem el_4_3 {α0 : Sort _} {α1 : Sort _} {α2 : Sort _} {α3 : Sort _} {A0 A1 A2 : α0 → α1 → α2 → α3 → Prop} {P : Prop} (h : ∃ x0 x1 x2 x3, A0 x0 x1 x2 x3 ∧ A1 x0 x1 x2 x3 ∧ A2 x0 x1 x2 x3) (f : ∀ x0 x1 x2 x3, A0 x0 x1 x2 x3 → A1 x0 x1 x2 x3 → A2 x0 x1 x2 x3 → P) : P := by
  obtain ⟨x0, x1, x2, x3, h0, h1, h2⟩ := h; exact f x0 x1 x2 x3 h0 h1 h2
theorem el_5_2 {α0 : Sort _} {α1 : Sort _} {α2 : Sort _} {α3 : Sort _} {α4 : Sort _} {A0 A1 : α0 → α1 → α2 → α3 → α4 → Prop} {P : Prop} (h : ∃ x0 x1 x2 x3 x4, A0 x0 x1 x2 x3 x4 ∧ A1 x0 x1 x2 x3 x4) (f : ∀ x0 x1 x2 x3 x4, A0 x0 x1 x2 x3 x4 → A1 x0 x1 x2 x3 x4 → P) : P := by
  obtain ⟨x0, x1, x2, x3, x4, h0, h1⟩ := h; exact f x0 x1 x2 x3 x4 h0 h1
theorem el_2_6 {α0 : Sort _} {α1 : Sort _} {A0 A1 A2 A3 A4 A5 : α0 → α1 → Prop} {P : Prop} (h : ∃ x0 x1, A0 x0 x1 ∧ A1 x0 x1 ∧ A2 x0 x1 ∧ A3 x0 x1 ∧ A4 x0 x1 ∧ A5 x0 x1) (f : ∀ x0 x1, A0 x0 x1 → A1 x0 x1 → A2 x0 x1 → A3 x0 x1 → A4 x0 x1 → A5 x0 x1 → P) : P := by
  obtain ⟨x0, x1, h0, h1, h2, h3, h4, h5⟩ := h; exact f x0 x1 h0 h1 h2 h3 h4 h5
theorem el_3_5 {α0 : Sort _} {α1 : Sort _} {α2 : Sort _} {A0 A1 A2 A3 A4 : α0 → α1 → α2 → Prop} {P : Prop} (h : ∃ x0 x1 x2, A0 x0 x1 x2 ∧ A1 x0 x1 x2 ∧ A2 x0 x1 x2 ∧ A3 x0 x1 x2 ∧ A4 x0 x1 x2) (f : ∀ x0 x1 x2, A0 x0 x1 x2 → A1 x0 x1 x2 → A2 x0 x1 x2 → A3 x0 x1 x2 → A4 x0 x1 x2 → P) : P := by
  obtain ⟨x0, x1, x2, h0, h1, h2, h3, h4⟩ := h; exact f x0 x1 x2 h0 h1 h2 h3 h4
theorem el_4_4 {α0 : Sort _} {α1 : Sort _} {α2 : Sort _} {α3 : Sort _} {A0 A1 A2 A3 : α0 → α1 → α2 → α3 → Prop} {P : Prop} (h : ∃ x0 x1 x2 x3, A0 x0 x1 x2 x3 ∧ A1 x0 x1 x2 x3 ∧ A2 x0 x1 x2 x3 ∧ A3 x0 x1 x2 x3) (f : ∀ x0 x1 x2 x3, A0 x0 x1 x2 x3 → A1 x0 x1 x2 x3 → A2 x0 x1 x2 x3 → A3 x0 x1 x2 x3 → P) : P := by
  obtain ⟨x0, x1, x2, x3, h0, h1, h2, h3⟩ := h; exact f x0 x1 x2 x3 h0 h1 h2 h3
theorem el_5_3 {α0 : Sort _} {α1 : Sort _} {α2 : Sort _} {α3 : Sort _} {α4 : Sort _} {A0 A1 A2 : α0 → α1 → α2 → α3 → α4 → Prop} {P : Prop} (h : ∃ x0 x1 x2 x3 x4, A0 x0 x1 x2 x3 x4 ∧ A1 x0 x1 x2 x3 x4 ∧ A2 x0 x1 x2 x3 x4) (f : ∀ x0 x1 x2 x3 x4, A0 x0 x1 x2 x3 x4 → A1 x0 x1 x2 x3 x4 → A2 x0 x1 x2 x3 x4 → P) : P := by
  obtain ⟨x0, x1, x2, x3, x4, h0, h1, h2⟩ := h; exact f x0 x1 x2 x3 x4 h0 h1 h2
theorem el_3_6 {α0 : Sort _} {α1 : Sort _} {α2 : Sort _} {A0 A1 A2 A3 A4 A5 : α0 → α1 → α2 → Prop} {P : Prop} (h : ∃ x0 x1 x2, A0 x0 x1 x2 ∧ A1 x0 x1 x2 ∧ A2 x0 x1 x2 ∧ A3 x0 x1 x2 ∧ A4 x0 x1 x2 ∧ A5 x0 x1 x2) (f : ∀ x0 x1 x2, A0 x0 x1 x2 → A1 x0 x1 x2 → A2 x0 x1 x2 → A3 x0 x1 x2 → A4 x0 x1 x2 → A5 x0 x1 x2 → P) : P := by
  obtain ⟨x0, x1, x2, h0, h1, h2, h3, h4, h5⟩ := h; exact f x0 x1 x2 h0 h1 h2 h3 h4 h5
theorem el_4_5 {α0 : Sort _} {α1 : Sort _} {α2 : Sort _} {α3 : Sort _} {A0 A1 A2 A3 A4 : α0 → α1 → α2 → α3 → Prop} {P : Prop} (h : ∃ x0 x1 x2 x3, A0 x0 x1 x2 x3 ∧ A1 x0 x1 x2 x3 ∧ A2 x0 x1 x2 x3 ∧ A3 x0 x1 x2 x3 ∧ A4 x0 x1 x2 x3) (f : ∀ x0 x1 x2 x3, A0 x0 x1 x2 x3 → A1 x0 x1 x2 x3 → A2 x0 x1 x2 x3 → A3 x0 x1 x2 x3 → A4 x0 x1 x2 x3 → P) : P := by
  obtain ⟨x0, x1, x2, x3, h0, h1, h2, h3, h4⟩ := h; exact f x0 x1 x2 x3 h0 h1 h2 h3 h4
theorem el_5_5 {α0 : Sort _} {α1 : Sort _} {α2 : Sort _} {α3 : Sort _} {α4 : Sort _} {A0 A1 A2 A3 A4 : α0 → α1 → α2 → α3 → α4 → Prop} {P : Prop} (h : ∃ x0 x1 x2 x3 x4, A0 x0 x1 x2 x3 x4 ∧ A1 x0 x1 x2 x3 x4 ∧ A2 x0 x1 x2 x3 x4 ∧ A3 x0 x1 x2 x3 x4 ∧ A4 x0 x1 x2 x3 x4) (f : ∀ x0 x1 x2 x3 x4, A0 x0 x1 x2 x3 x4 → A1 x0 x1 x2 x3 x4 → A2 x0 x1 x2 x3 x4 → A3 x0 x1 x2 x3 x4 → A4 x0 x1 x2 x3 x4 → P) : P := by
  obtain ⟨x0, x1, x2, x3, x4, h0, h1, h2, h3, h4⟩ := h; exact f x0 x1 x2 x3 x4 h0 h1 h2 h3 h4
theorem el_3_8 {α0 : Sort _} {α1 : Sort _} {α2 : Sort _} {A0 A1 A2 A3 A4 A5 A6 A7 : α0 → α1 → α2 → Prop} {P : Prop} (h : ∃ x0 x1 x2, A0 x0 x1 x2 ∧ A1 x0 x1 x2 ∧ A2 x0 x1 x2 ∧ A3 x0 x1 x2 ∧ A4 x0 x1 x2 ∧ A5 x0 x1 x2 ∧ A6 x0 x1 x2 ∧ A7 x0 x1 x2) (f : ∀ x0 x1 x2, A0 x0 x1 x2 → A1 x0 x1 x2 → A2 x0 x1 x2 → A3 x0 x1 x2 → A4 x0 x1 x2 → A5 x0 x1 x2 → A6 x0 x1 x2 → A7 x0 x1 x2 → P) : P := by
  obtain ⟨x0, x1, x2, h0, h1, h2, h3, h4, h5, h6, h7⟩ := h; exact f x0 x1 x2 h0 h1 h2 h3 h4 h5 h6 h7
theorem el_3_9 {α0 : Sort _} {α1 : Sort _} {α2 : Sort _} {A0 A1 A2 A3 A4 A5 A6 A7 A8 : α0 → α1 → α2 → Prop} {P : Prop} (h : ∃ x0 x1 x2, A0 x0 x1 x2 ∧ A1 x0 x1 x2 ∧ A2 x0 x1 x2 ∧ A3 x0 x1 x2 ∧ A4 x0 x1 x2 ∧ A5 x0 x1 x2 ∧ A6 x0 x1 x2 ∧ A7 x0 x1 x2 ∧ A8 x0 x1 x2) (f : ∀ x0 x1 x2, A0 x0 x1 x2 → A1 x0 x1 x2 → A2 x0 x1 x2 → A3 x0 x1 x2 → A4 x0 x1 x2 → A5 x0 x1 x2 → A6 x0 x1 x2 → A7 x0 x1 x2 → A8 x0 x1 x2 → P) : P := by
  obtain ⟨x0, x1, x2, h0, h1, h2, h3, h4, h5, h6, h7, h8⟩ := h; exact f x0 x1 x2 h0 h1 h2 h3 h4 h5 h6 h7 h8
theorem el_6_6 {α0 : Sort _} {α1 : Sort _} {α2 : Sort _} {α3 : Sort _} {α4 : Sort _} {α5 : Sort _} {A0 A1 A2 A3 A4 A5 : α0 → α1 → α2 → α3 → α4 → α5 → Prop} {P : Prop} (h : ∃ x0 x1 x2 x3 x4 x5, A0 x0 x1 x2 x3 x4 x5 ∧ A1 x0 x1 x2 x3 x4 x5 ∧ A2 x0 x1 x2 x3 x4 x5 ∧ A3 x0 x1 x2 x3 x4 x5 ∧ A4 x0 x1 x2 x3 x4 x5 ∧ A5 x0 x1 x2 x3 x4 x5) (f : ∀ x0 x1 x2 x3 x4 x5, A0 x0 x1 x2 x3 x4 x5 → A1 x0 x1 x2 x3 x4 x5 → A2 x0 x1 x2 x3 x4 x5 → A3 x0 x1 x2 x3 x4 x5 → A4 x0 x1 x2 x3 x4 x5 → A5 x0 x1 x2 x3 x4 x5 → P) : P := by
  obtain ⟨x0, x1, x2, x3, x4, x5, h0, h1, h2, h3, h4, h5⟩ := h; exact f x0 x1 x2 x3 x4 x5 h0 h1 h2 h3 h4 h5
section
inductive AV where
  | non | bool (b : Bool) | int (i : Int) | byt (l : List UInt8) | str (s : Str) | con (v : Value) | tup (c : Value) (l : List AV) | obj (k : Nat)
noncomputable abbrev AV.tu (l : List AV) : AV := .tup (.type "tuple") l
structure Own where
  a : Addr
  xs : List Addr := []
  g : List Nat := []
noncomputable def Own.as (o : Own) : List Addr := o.a :: o.xs
noncomputable abbrev Rho := List Own
noncomputable def IsSq (h : Heap) (a : Addr) (c : Value) (vs : Array Value) : Prop := ∃ o, h.get? a = some o ∧ o.cls = c ∧ ∃ n, o.data = .seq vs n
mutual
inductive DenA (ρ : Rho) (h : Heap) : AV → Value → Prop
  | non : DenA ρ h .non .none
  | bool (b : Bool) : DenA ρ h (.bool b) (.bool b)
  | int (i : Int) (t : Tok) : DenA ρ h (.int i) (.int i t)
  | byt (l : List UInt8) (t : Tok) : DenA ρ h (.byt l) (.bytes l.toArray t)
  | str (s : Str) (t : Tok) : DenA ρ h (.str s) (.str s t)
  | con (v : Value) : DenA ρ h (.con v) v
  | tup {c : Value} {l : List AV} {vs : List Value} {a : Addr} : c ≠ .type "list" → IsSq h a c vs.toArray → DenL ρ h l vs → DenA ρ h (.tup c l) (.ref a)
  | obj {k : Nat} {o : Own} : ρ[k]? = some o → DenA ρ h (.obj k) (.ref o.a)
inductive DenL (ρ : Rho) (h : Heap) : List AV → List Value → Prop
  | nil : DenL ρ h [] []
  | cons {p : AV} {v : Value} {l : List AV} {vs : List Value} : DenA ρ h p v → DenL ρ h l vs → DenL ρ h (p :: l) (v :: vs)
end
section
variable {ρ : Rho} {h : Heap} {v : Value}
theorem DenA.iInt {i : Int} (d : DenA ρ h (.int i) v) : ∃ t, v = .int i t := by cases d; exact ⟨_, rfl⟩
theorem DenA.iByt {l : List UInt8} (d : DenA ρ h (.byt l) v) : ∃ t, v = .bytes l.toArray t := by cases d; exact ⟨_, rfl⟩
theorem DenA.iStr {x : Str} (d : DenA ρ h (.str x) v) : ∃ t, v = .str x t := by cases d; exact ⟨_, rfl⟩
theorem DenA.iBool {b : Bool} (d : DenA ρ h (.bool b) v) : v = .bool b := by cases d; rfl
theorem DenA.iNon (d : DenA ρ h .non v) : v = .none := by cases d; rfl
theorem DenA.iCon {u : Value} (d : DenA ρ h (.con u) v) : v = u := by cases d; rfl
theorem DenA.iObj {k : Nat} (d : DenA ρ h (.obj k) v) : ∃ o, ρ[k]? = some o ∧ v = .ref o.a := by cases d with | obj e => exact ⟨_, e, rfl⟩
theorem DenA.iTup {c : Value} {l : List AV} (d : DenA ρ h (.tup c l) v) : ∃ vs a, c ≠ .type "list" ∧ IsSq h a c vs.toArray ∧ DenL ρ h l vs ∧ v = .ref a := by cases d with | tup n q e => exact ⟨_, _, n, q, e, rfl⟩
theorem DenL.iNil {vs : List Value} (d : DenL ρ h [] vs) : vs = [] := by cases d; rfl
theorem DenL.iCons {a : AV} {l : List AV} {vs : List Value} (d : DenL ρ h (a :: l) vs) : ∃ v us, vs = v :: us ∧ DenA ρ h a v ∧ DenL ρ h l us := by cases d with | cons x y => exact ⟨_, _, rfl, x, y⟩
end
noncomputable def Frz (h h' : Heap) : Prop := ∀ a c vs, c ≠ .type "list" → IsSq h a c vs → IsSq h' a c vs
theorem Frz.refl (h : Heap) : Frz h h := fun _ _ _ _ x => x
theorem Frz.trans {a b c : Heap} (x : Frz a b) (y : Frz b c) : Frz a c := fun _ _ _ n z => y _ _ _ n (x _ _ _ n z)
theorem Frz.ofExt {h h' : Heap} (k : ∀ b o, h.get? b = some o → h'.get? b = some o) : Frz h h' := fun _ _ _ _ hQ0 => by refine el_1_2 hQ0 fun o ho r => ?_; exact ⟨o, k _ _ ho, r⟩
noncomputable def RhoLe (ρ ρ' : Rho) : Prop := ∀ (k : Nat) (o : Own), ρ[k]? = some o → ∃ o', ρ'[k]? = some o' ∧ o'.a = o.a
theorem RhoLe.refl (ρ : Rho) : RhoLe ρ ρ := fun _ o x => ⟨o, x, rfl⟩
theorem RhoLe.trans {a b c : Rho} (x : RhoLe a b) (y : RhoLe b c) : RhoLe a c := fun _ _ z =>
  let ⟨_, h1, h2⟩ := x _ _ z
  let ⟨o2, h4, h5⟩ := y _ _ h1
  ⟨o2, h4, h5.trans h2⟩
theorem RhoLe.of {ρ ρ' : Rho} (h : ∀ (k : Nat) (o : Own), ρ[k]? = some o → ρ'[k]? = some o) : RhoLe ρ ρ' := fun k o e => ⟨o, h k o e, rfl⟩
theorem RhoLe.append (ρ ρ' : Rho) : RhoLe ρ (ρ ++ ρ') := .of fun k x e => by
  rw [List.getElem?_append_left (List.getElem?_eq_some_iff.mp e).1]; exact e
theorem take_get {ρ : Rho} {n k : Nat} {o : Own} (e : (ρ.take n)[k]? = some o) : k < n ∧ ρ[k]? = some o := by
  rw [List.getElem?_take] at e
  by_cases h : k < n
  · rw [if_pos h] at e; exact ⟨h, e⟩
  · rw [if_neg h] at e; cases e
theorem get_take {ρ : Rho} {n k : Nat} {o : Own} (h : k < n) (e : ρ[k]? = some o) : (ρ.take n)[k]? = some o := by
  rw [List.getElem?_take, if_pos h]; exact e
theorem RhoLe.take (ρ : Rho) (n : Nat) : RhoLe (ρ.take n) ρ := .of fun k o e => (take_get e).2
theorem RhoLe.take2 {ρ ρ' : Rho} (n : Nat) (x : RhoLe (ρ.take n) ρ') : RhoLe (ρ.take n) (ρ'.take n) := fun k o e =>
  let ⟨o', h1, h2⟩ := x k o e
  ⟨o', get_take (take_get e).1 h1, h2⟩
theorem DenA.ind {ρ : Rho} {h : Heap} {M : AV → Value → Prop} {N : List AV → List Value → Prop} (h1 : M .non .none) (h2 : ∀ b, M (.bool b) (.bool b)) (h3 : ∀ i t, M (.int i) (.int i t)) (h4 : ∀ l t, M (.byt l) (.bytes l.toArray t)) (h5 : ∀ s t, M (.str s) (.str s t)) (h6 : ∀ v, M (.con v) v)
    (h7 : ∀ {c l vs a}, c ≠ .type "list" → IsSq h a c vs.toArray → DenL ρ h l vs → N l vs → M (.tup c l) (.ref a)) (h8 : ∀ {k o}, ρ[k]? = some o → M (.obj k) (.ref o.a)) (h9 : N [] []) (h10 : ∀ {a v l vs}, DenA ρ h a v → DenL ρ h l vs → M a v → N l vs → N (a :: l) (v :: vs)) :
    (∀ {a v}, DenA ρ h a v → M a v) ∧ ∀ {l vs}, DenL ρ h l vs → N l vs :=
  ⟨fun d => DenA.rec (motive_1 := fun a v _ => M a v) (motive_2 := fun l vs _ => N l vs) h1 h2 h3 h4 h5 h6 (fun n q d i => h7 n q d i) (fun e => h8 e) h9 (fun a b x y => h10 a b x y) d,
   fun d => DenL.rec (motive_1 := fun a v _ => M a v) (motive_2 := fun l vs _ => N l vs) h1 h2 h3 h4 h5 h6 (fun n q d i => h7 n q d i) (fun e => h8 e) h9 (fun a b x y => h10 a b x y) d⟩
theorem DenAL.mono {ρ ρ' : Rho} {h h' : Heap} (z : Frz h h') (r : RhoLe ρ ρ') : (∀ {p v}, DenA ρ h p v → DenA ρ' h' p v) ∧ ∀ {p v}, DenL ρ h p v → DenL ρ' h' p v :=
  DenA.ind .non .bool .int .byt .str .con (fun n q _ d => .tup n (z _ _ _ n q) d) (fun e => el_1_2 (r _ _ e) fun _ h1 h2 => h2 ▸ .obj h1) .nil fun _ _ a b => .cons a b
theorem DenA.mono {ρ ρ' : Rho} {h h' : Heap} (z : Frz h h') (r : RhoLe ρ ρ') {p v} (d : DenA ρ h p v) : DenA ρ' h' p v := (DenAL.mono z r).1 d
theorem DenL.mono {ρ ρ' : Rho} {h h' : Heap} (z : Frz h h') (r : RhoLe ρ ρ') {p v} (d : DenL ρ h p v) : DenL ρ' h' p v := (DenAL.mono z r).2 d
theorem DenL.length {ρ : Rho} {h : Heap} {l vs} (d : DenL ρ h l vs) : vs.length = l.length :=
  (DenA.ind (M := fun _ _ => True) (N := fun l vs => vs.length = l.length) trivial (fun _ => trivial) (fun _ _ => trivial) (fun _ _ => trivial) (fun _ _ => trivial) (fun _ => trivial) (fun _ _ _ _ => trivial) (fun _ => trivial) rfl fun _ _ _ e => congrArg (· + 1) e).2 d
theorem DenL.ind {ρ : Rho} {h : Heap} {N : List AV → List Value → Prop} (h9 : N [] []) (h10 : ∀ {a v l vs}, DenA ρ h a v → DenL ρ h l vs → N l vs → N (a :: l) (v :: vs)) {l vs} (d : DenL ρ h l vs) : N l vs :=
  (DenA.ind (M := fun _ _ => True) (N := N) trivial (fun _ => trivial) (fun _ _ => trivial) (fun _ _ => trivial) (fun _ _ => trivial) (fun _ => trivial) (fun _ _ _ _ => trivial) (fun _ => trivial) h9 fun a b _ e => h10 a b e).2 d
theorem DenL.get {ρ : Rho} {h : Heap} {l : List AV} {vs : List Value} (d : DenL ρ h l vs) : ∀ {i : Nat} {p : AV}, l[i]? = some p → ∃ v, vs[i]? = some v ∧ DenA ρ h p v :=
  DenL.ind (N := fun l vs => ∀ {i : Nat} {p : AV}, l[i]? = some p → ∃ v, vs[i]? = some v ∧ DenA ρ h p v) (fun {_ _} e => (nomatch e)) (fun {a v l vs} a1 _ ih {i p} e => by
    cases i with
    | zero => exact ⟨_, rfl, Option.some.inj (show some a = some p from e) ▸ a1⟩
    | succ i => exact ih e) d
theorem DenL.append {ρ : Rho} {h : Heap} {l vs l' vs'} (x : DenL ρ h l vs) (y : DenL ρ h l' vs') : DenL ρ h (l ++ l') (vs ++ vs') :=
  DenL.ind (N := fun l vs => DenL ρ h (l ++ l') (vs ++ vs')) y (fun a _ ih => .cons a ih) x
noncomputable def KeptObj (F : Addr → Prop) (b : Addr) (o : Obj) (x : Option Obj) : Prop := x = some o ∨ (F b ∧ ∃ o', x = some o' ∧ o'.cls = o.cls ∧ o'.data = o.data ∧ o'.dict = o.dict)
theorem KeptObj.there {F b o x} (k : KeptObj F b o x) : ∃ o', x = some o' := by
  rcases k with k | ⟨_, o', k, _⟩
  · exact ⟨_, k⟩
  · exact ⟨_, k⟩
theorem KeptObj.trans {F G b o o' x} (k : KeptObj F b o (some o')) (l : KeptObj G b o' x) (hGF : G b → F b) : KeptObj F b o x := by
  rcases k with k | ⟨hn, o1, k, c2, c3, c4⟩
  · cases k
    rcases l with l | ⟨hg, o2, l, d2, d3, d4⟩
    · exact .inl l
    · exact .inr ⟨hGF hg, o2, l, d2, d3, d4⟩
  · cases k
    rcases l with l | ⟨_, o2, l, d2, d3, d4⟩
    · exact .inr ⟨hn, _, l, c2, c3, c4⟩
    · exact .inr ⟨hn, o2, l, d2.trans c2, d3.trans c3, d4.trans c4⟩
theorem KeptObj.weak {F G : Addr → Prop} {b o x} (k : KeptObj F b o x) (h : F b → G b) : KeptObj G b o x := k.imp_right fun hQ1 => by refine el_0_2 hQ1 fun a r => ?_; exact ⟨h a, r⟩
theorem KeptObj.strict {F : Addr → Prop} {b : Addr} {o : Obj} {x : Option Obj} (k : KeptObj F b o x) (hc : ¬ F b) : x = some o := by
  rcases k with k | ⟨c, _⟩
  · exact k
  · exact absurd c hc
theorem KeptObj.data {F : Addr → Prop} {b : Addr} {o : Obj} {x : Option Obj} (k : KeptObj F b o x) : ∃ o', x = some o' ∧ o'.cls = o.cls ∧ o'.data = o.data ∧ o'.dict = o.dict := by
  rcases k with k | ⟨_, o', k, c, d, e⟩
  · exact ⟨o, k, rfl, rfl, rfl⟩
  · exact ⟨o', k, c, d, e⟩
noncomputable def frAddr (A : Around) (b : Addr) : Prop := ∃ l env, A.frames = some l ∧ env ∈ l ∧ env.frame = some b
inductive VS where
  | non | v (a : AV) | cell (k : Nat)
structure Wd where
  prog : Program
  w : World
  h1 : Heap
  os : OsState
inductive AObj where
  | list (l : List AV)
  | cell (a : Option AV)
  | rng (a b c : Int)
  | dict (kvs : List (List UInt8 × AV)) (ep : Nat)
  | inst (c : Addr) (ats : List (Str × AV))
  | gen (f : Addr) (fd : FuncData) (body : List Stmt) (vars : List VS)
  | sem (Φ : Own → Heap → Array GenState → Prop)
  | junk
structure Loc (sc : Scope) (x : Str) (i : Nat) (kd : NameKind) : Prop where
  at_ : sc.names[i]? = some (x, kd)
  look : sc.names.lookup x = some kd
  uniq : ∀ (j : Nat) (kd' : NameKind), sc.names[j]? = some (x, kd') → j = i
noncomputable def SlotOK (ρ : Rho) (h : Heap) (env : Env) (m : Str → Option Value) (x : Str) (kd : NameKind) : VS → Prop
  | .non => True
  | .v a => kd = .local ∧ ∃ v, m x = some v ∧ DenA ρ h a v
  | .cell k => (kd = .cell ∨ kd = .free) ∧ ∃ o, env.cells.lookup x = some o.a ∧ ρ[k]? = some o
theorem SlotOK.mono {ρ ρ' : Rho} {h h' : Heap} {env : Env} {m : Str → Option Value} {x : Str} {kd : NameKind} {sl : VS} (z : Frz h h') (r : RhoLe ρ ρ') (y : SlotOK ρ h env m x kd sl) : SlotOK ρ' h' env m x kd sl := by
  cases sl with
  | non => trivial
  | v a => obtain ⟨e, v, hv, hd⟩ := y; exact ⟨e, v, hv, hd.mono z r⟩
  | cell k => obtain ⟨e, c, hc, hd⟩ := y; refine el_1_2 (r _ _ hd) fun o' h1 h2 => ?_; exact ⟨e, o', hc.trans (by rw [h2]), h1⟩
noncomputable def FrameOK (ρ : Rho) (h : Heap) (env : Env) (vars : List VS) : Prop :=
  ∃ m, h.Ns env.locals m ∧ ∀ (i : Nat) (x : Str) (kd : NameKind), env.scope.names[i]? = some (x, kd) → ∀ sl : VS, vars[i]? = some sl → SlotOK ρ h env m x kd sl
theorem FrameOK.mono {ρ ρ' : Rho} {h h' : Heap} {env : Env} {vars : List VS} (z : Frz h h') (r : RhoLe ρ ρ') (k : ∀ m, h.Ns env.locals m → h'.Ns env.locals m) (x : FrameOK ρ h env vars) : FrameOK ρ' h' env vars := by
  refine el_1_2 x fun m hm hs => ?_
  exact ⟨m, k m hm, fun i x kd hi sl hsl => (hs i x kd hi sl hsl).mono z r⟩
theorem ns_data {h h' : Heap} {a : Addr} (k : ∀ o, h.get? a = some o → ∃ o', h'.get? a = some o' ∧ o'.data = o.data) (m : Str → Option Value) (x : h.Ns a m) : h'.Ns a m :=
  let ⟨_, es, ep, e, d, r⟩ := x
  let ⟨o', e', d'⟩ := k _ e
  ⟨o', es, ep, e', d'.trans d, r⟩
inductive Ents (ρ : Rho) (h : Heap) : List (Str × AV) → List DictEntry → Prop
  | nil : Ents ρ h [] []
  | cons {x : Str} {a : AV} {r : List (Str × AV)} {e : DictEntry} {es : List DictEntry} {t : Tok} : e.key = .str x t → DenA ρ h a e.val → Ents ρ h r es → Ents ρ h ((x, a) :: r) (e :: es)
theorem Ents.mono {ρ ρ' : Rho} {h h' : Heap} (z : Frz h h') (r : RhoLe ρ ρ') : ∀ {l es}, Ents ρ h l es → Ents ρ' h' l es
  | _, _, .nil => .nil
  | _, _, .cons a b c => .cons a (b.mono z r) (c.mono z r)
noncomputable def RepObj (W : Wd) (ρ : Rho) (h : Heap) (gs : Array GenState) (own : Own) : AObj → Prop
  | .list l => ∃ vs : List Value, h.PlainList own.a vs.toArray ∧ DenL ρ h l vs
  | .cell av => ∃ o, h.get? own.a = some o ∧ (match av with | some a => ∃ v, o.data = .cell (some v) ∧ DenA ρ h a v | none => o.data = .cell none)
  | .rng a b c => ∃ t u v, IsRange h own.a a b c t u v
  | .dict kvs ep => (own.a == sysModules) = false ∧ ∃ vs : List Value, h.DictOf (bytesKind W.prog W.w) own.a ((kvs.map (·.1)).zip vs) ∧ DenL ρ h (kvs.map (·.2)) vs
  | .inst c ats => ∃ dx es n, own.xs = [dx] ∧ h.get? own.a = some { cls := .ref c, dict := some dx, data := .plain } ∧ h.get? dx = some { cls := .type "dict", data := .dict es n } ∧ Ents ρ h ats es.toList
  | .gen f fd body vars => ∃ L g, own.xs = [L] ∧ own.g = [g] ∧ h.IsGen own.a g ∧ gs[g]? = some (.fresh (.func body (callEnvC fd L f))) ∧ vars.length ≤ fd.scope.names.length ∧ FrameOK ρ h (callEnvC fd L f) vars
  | .sem Φ => ∃ h₀ gs₀, Φ own h₀ gs₀ ∧ (∀ i ∈ own.g, ∃ x, gs₀[i]? = some x ∧ gs[i]? = some x) ∧ (∀ a ∈ own.as, ∃ ob, h₀.get? a = some ob ∧ h.get? a = some ob) ∧ Frz h₀ h
  | .junk => True
theorem RepObj.mono {W : Wd} {ρ ρ' : Rho} {h h' : Heap} {gs gs' : Array GenState} {own : Own} {o : AObj} (z : Frz h h') (r : RhoLe ρ ρ') (k : ∀ a ∈ own.as, ∀ ob, h.get? a = some ob → h'.get? a = some ob)
    (kg : ∀ g, g ∈ own.g → ∀ x, gs[g]? = some x → gs'[g]? = some x) (x : RepObj W ρ h gs own o) : RepObj W ρ' h' gs' own o := by
  cases o with
  | list l =>
    refine el_1_2 x fun vs hl hd => ?_
    refine el_1_1 hl fun n ho => ?_
    exact ⟨vs, ⟨n, k _ (.head _) _ ho⟩, DenL.mono z r hd⟩
  | cell av =>
    refine el_1_2 x fun o ho hd => ?_
    refine ⟨o, k _ (.head _) o ho, ?_⟩
    cases av with
    | none => exact hd
    | some a => refine el_1_2 hd fun v e d => ?_; exact ⟨v, e, d.mono z r⟩
  | rng a b c => refine el_3_1 x fun t u v ho => ?_; exact ⟨t, u, v, k _ (.head _) _ ho⟩
  | dict kvs ep =>
    obtain ⟨hs, vs, ⟨o, es, ep', ho, q⟩, hd⟩ := x
    exact ⟨hs, vs, ⟨o, es, ep', k _ (.head _) _ ho, q⟩, hd.mono z r⟩
  | inst c ats =>
    refine el_3_4 x fun dx es n hx h1 h2 he => ?_
    exact ⟨dx, es, n, hx, k _ (.head _) _ h1, k dx (by unfold Own.as; rw [hx]; exact .tail _ (.head _)) _ h2, he.mono z r⟩
  | gen f fd body vars =>
    refine el_2_6 x fun L g hx hg hG hs hlen hf => ?_
    refine el_3_2 hG fun o nm qn ho q => ?_
    exact ⟨L, g, hx, hg, ⟨o, nm, qn, k _ (.head _) _ ho, q⟩, kg g (hg ▸ .head _) _ hs, hlen, hf.mono z r (ns_data fun o e => ⟨o, k _ (by unfold Own.as; rw [hx]; exact .tail _ (.head _)) o e, rfl⟩)⟩
  | sem Φ =>
    refine el_2_4 x fun h₀ gs₀ hΦ hs ha hz => ?_
    exact ⟨h₀, gs₀, hΦ, fun i m => let ⟨x, q1, q2⟩ := hs i m; ⟨x, q1, kg i m x q2⟩, fun a m => let ⟨ob, q1, q2⟩ := ha a m; ⟨ob, q1, k a m ob q2⟩, hz.trans z⟩
  | junk => trivial
structure St where
  vars : List VS
  objs : List AObj
structure Base where
  h : Heap
  g : Nat → Option GenState
structure Ctx where
  A : Around
  env : Env
  
  low : Nat
  
  hcls : Value := .none
  
  hclean : Bool := true
noncomputable def rhoAs (ρ : Rho) : List Addr := ρ.flatMap (·.as)
noncomputable def ownA (C : Ctx) (ρ : Rho) : List Addr := C.env.locals :: rhoAs ρ
structure Rep (W : Wd) (C : Ctx) (B : Base) (ρ : Rho) (σ : St) (s : Shared) : Prop where
  top : ∀ b o, W.h1.get? b = some o → s.heap.get? b = some o
  keep : ∀ b o, B.h.get? b = some o → KeptObj (frAddr C.A) b o (s.heap.get? b)
  nodup : (ownA C ρ).Nodup
  fresh : ∀ a ∈ ownA C ρ, B.h.get? a = none ∧ W.h1.get? a = none
  frame : FrameOK ρ s.heap C.env σ.vars
  live : ∀ a ∈ ownA C ρ, ∃ o, s.heap.get? a = some o
  len : ρ.length = σ.objs.length
  objs : ∀ (k : Nat) (own : Own) (o : AObj), ρ[k]? = some own → σ.objs[k]? = some o → RepObj W ρ s.heap s.gens own o
  gkeep : ∀ (i : Nat) (x : GenState), B.g i = some x → s.gens[i]? = some x
  gnew : ∀ o ∈ ρ, ∀ g, g ∈ o.g → B.g g = none ∧ g < s.gens.size
  gnod : ∀ (i j : Nat) (o₁ o₂ : Own) (g : Nat), ρ[i]? = some o₁ → ρ[j]? = some o₂ → g ∈ o₁.g → g ∈ o₂.g → i = j
  frs : ∀ b, frAddr C.A b → W.h1.get? b = none ∧ b ∉ rhoAs ρ ∧ ∃ o es ep, s.heap.get? b = some o ∧ o.data = .dict es ep
  hand : ∀ v, C.A.handled = some v → ∃ e o vs, v = .ref e ∧ B.h.get? e = some o ∧ o.cls = C.hcls ∧ o.data = .fields vs ∧ 6 ≤ vs.size ∧ (C.hclean = true → vs[2]? = some .none)
  bare : AllBare s.gens
  os : s.os = W.os
noncomputable def Ext (ρ : Rho) (s : Shared) (ρ' : Rho) (s' : Shared) : Prop := RhoLe ρ ρ' ∧ Frz s.heap s'.heap
theorem Ext.refl (ρ : Rho) (s : Shared) : Ext ρ s ρ s := ⟨.refl _, .refl _⟩
theorem Ext.trans {ρ ρ' ρ'' : Rho} {s s' s'' : Shared} (x : Ext ρ s ρ' s') (y : Ext ρ' s' ρ'' s'') : Ext ρ s ρ'' s'' := ⟨x.1.trans y.1, x.2.trans y.2⟩
theorem Ext.low {ρ ρ' : Rho} {s s' : Shared} (n : Nat) (x : Ext ρ s ρ' s') : Ext (ρ.take n) s ρ' s' := ⟨(RhoLe.take ρ n).trans x.1, x.2⟩
theorem Ext.transL {ρ ρ' ρ'' : Rho} {s s' s'' : Shared} {n : Nat} (x : Ext (ρ.take n) s ρ' s') (y : Ext (ρ'.take n) s' ρ'' s'') : Ext (ρ.take n) s ρ'' s'' := ⟨(x.1.take2 n).trans y.1, x.2.trans y.2⟩
theorem DenA.ext {ρ ρ' : Rho} {s s' : Shared} {a : AV} {v : Value} (x : DenA ρ s.heap a v) (e : Ext ρ s ρ' s') : DenA ρ' s'.heap a v := x.mono e.2 e.1
theorem DenL.ext {ρ ρ' : Rho} {s s' : Shared} {as : List AV} {vs : List Value} (x : DenL ρ s.heap as vs) (e : Ext ρ s ρ' s') : DenL ρ' s'.heap as vs := x.mono e.2 e.1
section
variable {W : Wd} {C : Ctx} {B : Base} {ρ : Rho} {σ : St} {s s' : Shared}
theorem Rep.frd (R : Rep W C B ρ σ s) (b : Addr) (f : frAddr C.A b) : ∃ o es ep, s.heap.get? b = some o ∧ o.data = .dict es ep := (R.frs b f).2.2
theorem frz_of_kept {h h' : Heap} {F : Addr → Prop} (hF : ∀ b, F b → ∃ o es ep, h.get? b = some o ∧ o.data = .dict es ep) (k : ∀ b o c vs n, c ≠ .type "list" → o.cls = c → o.data = .seq vs n → h.get? b = some o → KeptObj F b o (h'.get? b)) : Frz h h' := fun a c vs hn ⟨o, ho, hc, n, hd⟩ =>
  ⟨o, (k _ _ _ _ _ hn hc hd ho).strict (fun f => by refine el_3_2 (hF _ f) fun o' es ep h1 h2 => ?_; rw [ho] at h1; cases h1; rw [hd] at h2; cases h2), hc, n, hd⟩
theorem Rep.upd (R : Rep W C B ρ σ s) (T : Addr → Prop) (G : Nat → Prop)
    (hk : ∀ b o, ¬ T b → s.heap.get? b = some o → KeptObj (frAddr C.A) b o (s'.heap.get? b)) (hT : ∀ b, T b → (B.h.get? b = none ∧ W.h1.get? b = none) ∧ (b ∈ ownA C ρ → ∃ o, s'.heap.get? b = some o))
    {σ' : St} (hf : FrameOK ρ s'.heap C.env σ'.vars) (hTf : ∀ b, T b → frAddr C.A b → ∃ o es ep, s'.heap.get? b = some o ∧ o.data = .dict es ep) (hl : σ'.objs.length = σ.objs.length)
    (hb : ∀ (k : Nat) (own : Own) (o' : AObj), ρ[k]? = some own → σ'.objs[k]? = some o' → RepObj W ρ s'.heap s'.gens own o')
    (hg : ∀ (i : Nat) x, ¬ G i → s.gens[i]? = some x → s'.gens[i]? = some x) (hG : ∀ i, G i → B.g i = none) (hgs : s.gens.size ≤ s'.gens.size) (hbare : AllBare s'.gens) (hos : s'.os = s.os) : Rep W C B ρ σ' s' where
  top b o e := (hk b o (fun t => by have := (hT b t).1.2; rw [e] at this; cases this) (R.top b o e)).strict (fun f => by have := (R.frs b f).1; rw [e] at this; cases this)
  keep b o e := by
    refine el_1_1 ((R.keep b o e).there) fun o1 h1 => ?_
    have k := R.keep b o e
    rw [h1] at k
    exact k.trans (hk b o1 (fun t => by have := (hT b t).1.1; rw [e] at this; cases this) h1) id
  nodup := R.nodup
  fresh := R.fresh
  frame := hf
  live a ha := by
    refine el_1_1 (R.live a ha) fun o ho => ?_
    by_cases t : T a
    · exact (hT a t).2 ha
    · exact (hk a o t ho).there
  len := R.len.trans hl.symm
  objs := hb
  gkeep i x e := hg i x (fun g => by have := hG i g; rw [e] at this; cases this) (R.gkeep i x e)
  gnew o ho g e := ⟨(R.gnew o ho g e).1, Nat.lt_of_lt_of_le (R.gnew o ho g e).2 hgs⟩
  gnod := R.gnod
  frs b f := by
    obtain ⟨x1, x2, o, es, ep, h1, h2⟩ := R.frs b f
    refine ⟨x1, x2, ?_⟩
    by_cases t : T b
    · exact hTf b t f
    · refine el_1_4 ((hk b o t h1).data) fun o' q1 _ q2 _ => ?_
      exact ⟨o', es, ep, q1, q2.trans h2⟩
  hand := R.hand
  bare := hbare
  os := hos.trans R.os
theorem mem_rhoAs {ρ : Rho} {k : Nat} {own : Own} (h : ρ[k]? = some own) {a : Addr} (ha : a ∈ own.as) : a ∈ rhoAs ρ :=
  List.mem_flatMap.mpr ⟨own, List.mem_of_getElem? h, ha⟩
theorem rhoAs_apart {ρ : Rho} (hn : (rhoAs ρ).Nodup) : ∀ {j k : Nat} {o₁ o₂ : Own}, ρ[j]? = some o₁ → ρ[k]? = some o₂ → ∀ {a : Addr}, a ∈ o₁.as → a ∈ o₂.as → j = k := by
  induction ρ with
  | nil => intro j k o₁ o₂ h1; cases h1
  | cons x ρ ih =>
    have hn' : (x.as ++ rhoAs ρ).Nodup := hn
    rw [List.nodup_append] at hn'
    intro j k o₁ o₂ h1 h2 a a1 a2
    cases j with
    | zero =>
      cases k with
      | zero => rfl
      | succ k =>
        cases h1
        exact absurd rfl (hn'.2.2 a a1 a (mem_rhoAs (by simpa using h2) a2))
    | succ j =>
      cases k with
      | zero =>
        cases h2
        exact absurd rfl (hn'.2.2 a a2 a (mem_rhoAs (by simpa using h1) a1))
      | succ k => exact congrArg (· + 1) (@ih hn'.2.1 j k o₁ o₂ (by simpa using h1) (by simpa using h2) a a1 a2)
theorem Rep.nodupR (R : Rep W C B ρ σ s) : (rhoAs ρ).Nodup := (List.nodup_cons.mp R.nodup).2
theorem Rep.envNot (R : Rep W C B ρ σ s) : C.env.locals ∉ rhoAs ρ := (List.nodup_cons.mp R.nodup).1
theorem Rep.kept2 (R : Rep W C B ρ σ s)
    (hk : ∀ b o, s.heap.get? b = some o → KeptObj (frAddr C.A) b o (s'.heap.get? b)) (hg : ∀ (i : Nat) x, s.gens[i]? = some x → s'.gens[i]? = some x) (hb : AllBare s'.gens) (hos : s'.os = s.os) : Rep W C B ρ σ s' :=
  have hz : Frz s.heap s'.heap := frz_of_kept R.frd fun b o _ _ _ _ _ _ => hk b o
  R.upd (fun _ => False) (fun _ => False) (fun b o _ => hk b o) (fun _ x => x.elim) (R.frame.mono hz (.refl _) (ns_data fun o e => let ⟨o', h1, _, h2, _⟩ := (hk _ _ e).data; ⟨o', h1, h2⟩)) (fun _ x => x.elim) rfl
    (fun k own o h1 h2 => (R.objs k own o h1 h2).mono hz (.refl _) (fun a ha ob e => (hk a ob e).strict fun f => (R.frs a f).2.1 (mem_rhoAs h1 ha)) fun g _ x e => hg g x e)
    (fun i x _ => hg i x) (fun _ x => x.elim) (by
      cases h : s.gens.size with
      | zero => exact Nat.zero_le _
      | succ n =>
        have := hg n s.gens[n] (Array.getElem?_eq_getElem (by omega))
        exact (Array.getElem?_eq_some_iff.mp this).1) hb hos
theorem Rep.kept (R : Rep W C B ρ σ s)
    (hk : ∀ b o, s.heap.get? b = some o → KeptObj (frAddr C.A) b o (s'.heap.get? b)) (hg : s'.gens = s.gens := by rfl) (hos : s'.os = s.os := by rfl) : Rep W C B ρ σ s' :=
  R.kept2 hk (by rw [hg]; exact fun _ _ x => x) (by rw [hg]; exact R.bare) hos
theorem Rep.grow (R : Rep W C B ρ σ s) (hk : ∀ b o, s.heap.get? b = some o → s'.heap.get? b = some o) (hg : s'.gens = s.gens := by rfl) (hos : s'.os = s.os := by rfl) : Rep W C B ρ σ s' :=
  R.kept (fun b o e => .inl (hk b o e)) hg hos
theorem frz_of_ns {h h' : Heap} {L : Addr} {m : Str → Option Value} (hm : h.Ns L m) (hs : Heap.SameBut L h h') : Frz h h' := fun b c vs _ hQ3 => by
  obtain ⟨o, ho, hc, n, hd⟩ := hQ3
  refine el_3_3 hm fun oL es ep hL hLd _ => ?_
  have hb : b ≠ L := fun q => by rw [q, hL] at ho; cases ho; rw [hLd] at hd; cases hd
  exact ⟨o, (hs.2 b hb).trans ho, hc, n, hd⟩
theorem Rep.setSlot (R : Rep W C B ρ σ s) {x : Str} {i : Nat} (hl : Loc C.env.scope x i .local) {m : Str → Option Value} {vo : Option Value} {sl : VS} (hm : s.heap.Ns C.env.locals m)
    (hsl : ∀ (i : Nat) (x : Str) (kd : NameKind), C.env.scope.names[i]? = some (x, kd) → ∀ sl : VS, σ.vars[i]? = some sl → SlotOK ρ s.heap C.env m x kd sl)
    (hd : ∀ {h' : Heap}, Frz s.heap h' → SlotOK ρ h' C.env (fun y => if y = x then vo else m y) x .local sl) {h' : Heap} (hm' : h'.Ns C.env.locals (fun y => if y = x then vo else m y)) (hs : Heap.SameBut C.env.locals s.heap h') (tk : Nat) :
    Rep W C B ρ { σ with vars := σ.vars.set i sl } { s with heap := h', toks := tk } ∧ Ext ρ s ρ { s with heap := h', toks := tk } := by
  have hz : Frz s.heap h' := frz_of_ns hm hs
  refine ⟨?_, .refl _, hz⟩
  have hf : FrameOK ρ h' C.env (σ.vars.set i sl) := by
    refine ⟨_, hm', fun j y kd hj sl' hsj => ?_⟩
    by_cases hij : i = j
    · subst hij
      rw [hl.at_] at hj
      cases hj
      have : sl' = sl := by
        by_cases hlt : i < σ.vars.length
        · rw [List.getElem?_set_self hlt] at hsj; exact (Option.some.inj hsj).symm
        · rw [List.getElem?_eq_none (by simpa using hlt)] at hsj; cases hsj
      subst this
      exact hd hz
    · rw [List.getElem?_set_ne hij] at hsj
      have z := hsl j y kd hj sl' hsj
      have hy : y ≠ x := fun q => hij (hl.uniq j kd (q ▸ hj)).symm
      cases sl' with
      | non => trivial
      | v a' => obtain ⟨e, v', hv, hd'⟩ := z; exact ⟨e, v', (if_neg hy).trans hv, hd'.mono hz (.refl _)⟩
      | cell k => obtain ⟨e, c, hc, hd'⟩ := z; exact ⟨e, c, hc, hd'⟩
  exact R.upd (s' := { s with heap := h', toks := tk }) (fun b => b = C.env.locals) (fun _ => False) (fun b o hb he => .inl ((hs.2 b hb).trans he)) (fun b hb => hb ▸ ⟨R.fresh _ (.head _), fun _ => let ⟨o, _, _, q, _⟩ := hm'; ⟨o, q⟩⟩)
    hf (fun b hb _ => hb ▸ let ⟨o, es, ep, q, r, _⟩ := hm'; ⟨o, es, ep, q, r⟩) rfl (fun k own o h1 h2 => (R.objs k own o h1 h2).mono hz (.refl _) (fun b hb ob he => (hs.2 b (fun q => R.envNot (q ▸ mem_rhoAs h1 hb))).trans he) fun g _ x e => e)
    (fun _ _ _ x => x) (fun _ x => x.elim) (Nat.le_refl _) R.bare rfl
theorem Rep.setVar (R : Rep W C B ρ σ s) {x : Str} {i : Nat} (hl : Loc C.env.scope x i .local) {m : Str → Option Value} {a : AV} {v : Value} (hm : s.heap.Ns C.env.locals m)
    (hsl : ∀ (i : Nat) (x : Str) (kd : NameKind), C.env.scope.names[i]? = some (x, kd) → ∀ sl : VS, σ.vars[i]? = some sl → SlotOK ρ s.heap C.env m x kd sl)
    (hd : DenA ρ s.heap a v) {h' : Heap} (hm' : h'.Ns C.env.locals (fun y => if y = x then some v else m y)) (hs : Heap.SameBut C.env.locals s.heap h') (tk : Nat) :
    Rep W C B ρ { σ with vars := σ.vars.set i (.v a) } { s with heap := h', toks := tk } ∧ Ext ρ s ρ { s with heap := h', toks := tk } :=
  R.setSlot (sl := .v a) (vo := some v) hl hm hsl (fun hz => ⟨rfl, v, if_pos rfl, hd.mono hz (.refl _)⟩) hm' hs tk
theorem Rep.setObj (R : Rep W C B ρ σ s) {k : Nat} {own : Own} {a : Addr} {o' : AObj} {h' : Heap} {oa : Obj} (hk : ρ[k]? = some own) (ha : a ∈ own.as)
    (hoa : s.heap.get? a = some oa) (hnt : ∀ items n, oa.data = .seq items n → oa.cls = .type "list") (hs : Heap.ExtBut a s.heap h') (hl : ∃ o, h'.get? a = some o) (hn : Frz s.heap h' → RepObj W ρ h' s.gens own o') (tk : Nat) :
    Rep W C B ρ { σ with objs := σ.objs.set k o' } { s with heap := h', toks := tk } ∧ Ext ρ s ρ { s with heap := h', toks := tk } := by
  have hz : Frz s.heap h' := fun b c vs hn hQ4 => by obtain ⟨o, ho, hc, n, r⟩ := hQ4; exact ⟨o, hs b o (fun q => by subst q; rw [hoa] at ho; cases ho; exact hn (hc ▸ hnt _ _ r)) ho, hc, n, r⟩
  have hm := mem_rhoAs hk ha
  refine ⟨R.upd (s' := { s with heap := h', toks := tk }) (fun b => b = a) (fun _ => False) (fun b o hb he => .inl (hs b o hb he)) (fun b hb => hb ▸ ⟨R.fresh _ (.tail _ hm), fun _ => hl⟩)
    (R.frame.mono hz (.refl _) (ns_data fun o e => ⟨o, hs _ o (fun q => R.envNot (q ▸ hm)) e, rfl⟩)) (fun b hb f => absurd hm (hb ▸ (R.frs b f).2.1)) (by simp)
    (fun j ow o h1 h2 => ?_) (fun _ _ _ x => x) (fun _ x => x.elim) (Nat.le_refl _) R.bare rfl, .refl _, hz⟩
  by_cases hj : k = j
  · subst hj
    rw [hk] at h1
    cases h1
    have h3 : (σ.objs.set k o')[k]? = some o := h2
    rw [List.getElem?_set_self (by rw [← R.len]; exact (List.getElem?_eq_some_iff.mp hk).1)] at h3
    cases h3
    exact hn hz
  · have h3 : (σ.objs.set k o')[j]? = some o := h2
    rw [List.getElem?_set_ne hj] at h3
    exact (R.objs j ow o h1 h3).mono hz (.refl _) (fun b hb ob he => hs b ob (fun q => hj (rhoAs_apart R.nodupR hk h1 ha (q ▸ hb))) he) fun _ _ _ x => x
theorem rhoAs_append (ρ ρ' : Rho) : rhoAs (ρ ++ ρ') = rhoAs ρ ++ rhoAs ρ' := List.flatMap_append
noncomputable def NewA (W : Wd) (C : Ctx) (B : Base) (ρ : Rho) (a : Addr) : Prop := a ∉ ownA C ρ ∧ B.h.get? a = none ∧ W.h1.get? a = none ∧ ¬ frAddr C.A a
theorem Rep.newNot (R : Rep W C B ρ σ s) {a : Addr} (hn : s.heap.get? a = none) : NewA W C B ρ a := by
  refine ⟨fun q => ?_, ?_, ?_, fun f => ?_⟩
  · refine el_1_1 (R.live a q) fun o ho => ?_; rw [hn] at ho; cases ho
  · cases q : B.h.get? a with
    | none => rfl
    | some o => refine el_1_1 ((R.keep a o q).there) fun o' h' => ?_; rw [hn] at h'; cases h'
  · cases q : W.h1.get? a with
    | none => rfl
    | some o => have h' := R.top a o q; rw [hn] at h'; cases h'
  · refine el_3_2 (R.frd a f) fun o _ _ h1 _ => ?_
    rw [hn] at h1; cases h1
theorem Rep.adopts (R : Rep W C B ρ σ s) {ρ₂ : Rho} {os : List AObj}
    (hnew : ∀ a ∈ rhoAs ρ₂, NewA W C B ρ a ∧ ∃ o, s.heap.get? a = some o) (hnd : (rhoAs ρ₂).Nodup) (hlen : ρ₂.length = os.length)
    (hgn : ∀ o ∈ ρ₂, ∀ g, g ∈ o.g → (B.g g = none ∧ g < s.gens.size) ∧ ∀ o' ∈ ρ, g ∉ o'.g) (hgd : ∀ (i j : Nat) (o₁ o₂ : Own) (g : Nat), ρ₂[i]? = some o₁ → ρ₂[j]? = some o₂ → g ∈ o₁.g → g ∈ o₂.g → i = j)
    (hn : ∀ (k : Nat) (own : Own) (o : AObj), ρ₂[k]? = some own → os[k]? = some o → RepObj W (ρ ++ ρ₂) s.heap s.gens own o) :
    Rep W C B (ρ ++ ρ₂) { σ with objs := σ.objs ++ os } s ∧ Ext ρ s (ρ ++ ρ₂) s := by
  have eo : ownA C (ρ ++ ρ₂) = ownA C ρ ++ rhoAs ρ₂ := by simp [ownA, rhoAs_append]
  refine ⟨{ top := R.top, keep := R.keep, nodup := ?_, fresh := ?_, live := ?_, frame := R.frame.mono (.refl _) (.append _ _) fun _ x => x,
            len := by simp [R.len, hlen], objs := ?_, gkeep := R.gkeep, gnew := ?_, gnod := ?_, frs := ?_, hand := R.hand, bare := R.bare, os := R.os }, .append _ _, .refl _⟩
  · rw [eo, List.nodup_append]
    refine ⟨R.nodup, hnd, fun a ha b hb e => ?_⟩
    subst e
    exact (hnew a hb).1.1 ha
  · intro a ha
    rw [eo] at ha
    rcases List.mem_append.mp ha with ha | ha
    · exact R.fresh a ha
    · exact ⟨(hnew a ha).1.2.1, (hnew a ha).1.2.2.1⟩
  · intro a ha
    rw [eo] at ha
    rcases List.mem_append.mp ha with ha | ha
    · exact R.live a ha
    · exact (hnew a ha).2
  · intro k ow o h1 h2
    have h3 : (σ.objs ++ os)[k]? = some o := h2
    by_cases hk' : k < ρ.length
    · rw [List.getElem?_append_left hk'] at h1
      rw [List.getElem?_append_left (by rw [← R.len]; exact hk')] at h3
      exact (R.objs k ow o h1 h3).mono (.refl _) (.append _ _) (fun a _ ob e => e) fun _ _ _ x => x
    · have hge : ρ.length ≤ k := Nat.le_of_not_lt hk'
      rw [List.getElem?_append_right hge] at h1
      rw [List.getElem?_append_right (by rw [← R.len]; exact hge), ← R.len] at h3
      exact hn _ ow o h1 h3
  · intro o ho g e
    rcases List.mem_append.mp ho with ho | ho
    · exact R.gnew o ho g e
    · exact (hgn o ho g e).1
  · intro i j o₁ o₂ g h1 h2 e1 e2
    by_cases hi : i < ρ.length <;> by_cases hj : j < ρ.length
    · rw [List.getElem?_append_left hi] at h1
      rw [List.getElem?_append_left hj] at h2
      exact R.gnod i j o₁ o₂ g h1 h2 e1 e2
    · rw [List.getElem?_append_left hi] at h1
      rw [List.getElem?_append_right (Nat.le_of_not_lt hj)] at h2
      exact absurd e1 ((hgn o₂ (List.mem_of_getElem? h2) g e2).2 o₁ (List.mem_of_getElem? h1))
    · rw [List.getElem?_append_right (Nat.le_of_not_lt hi)] at h1
      rw [List.getElem?_append_left hj] at h2
      exact absurd e2 ((hgn o₁ (List.mem_of_getElem? h1) g e1).2 o₂ (List.mem_of_getElem? h2))
    · rw [List.getElem?_append_right (Nat.le_of_not_lt hi)] at h1
      rw [List.getElem?_append_right (Nat.le_of_not_lt hj)] at h2
      have := hgd _ _ o₁ o₂ g h1 h2 e1 e2
      omega
  · intro b f
    refine el_0_3 (R.frs b f) fun x1 x2 x3 => ?_
    refine ⟨x1, fun q => ?_, x3⟩
    rw [rhoAs_append] at q
    rcases List.mem_append.mp q with q | q
    · exact x2 q
    · exact (hnew b q).1.2.2.2 f
theorem Rep.adopt (R : Rep W C B ρ σ s) {own : Own} {o' : AObj} (hg : own.g = [])
    (hnew : ∀ a ∈ own.as, NewA W C B ρ a ∧ ∃ o, s.heap.get? a = some o) (hnd : own.as.Nodup) (hn : RepObj W (ρ ++ [own]) s.heap s.gens own o') :
    Rep W C B (ρ ++ [own]) { σ with objs := σ.objs ++ [o'] } s ∧ Ext ρ s (ρ ++ [own]) s :=
  R.adopts (ρ₂ := [own]) (os := [o']) (fun a ha => hnew a (by simpa [rhoAs] using ha)) (by simpa [rhoAs] using hnd) rfl (fun o ho g e => by rw [List.mem_singleton.mp ho, hg] at e; cases e) (fun i j o₁ o₂ g h1 _ e1 _ => by rw [List.mem_singleton.mp (List.mem_of_getElem? h1), hg] at e1; cases e1)
    fun k ow o h1 h2 => by
      cases k with
      | zero => cases h1; cases h2; exact hn
      | succ k => simp at h1
theorem Rep.addObj (R : Rep W C B ρ σ s) {own : Own} {o' : AObj} {h' : Heap} (hg : own.g = []) (hk : ∀ b o, s.heap.get? b = some o → h'.get? b = some o)
    (hnew : ∀ a ∈ own.as, s.heap.get? a = none ∧ ∃ o, h'.get? a = some o) (hnd : own.as.Nodup) (hn : Frz s.heap h' → RepObj W (ρ ++ [own]) h' s.gens own o') (tk : Nat) :
    Rep W C B (ρ ++ [own]) { σ with objs := σ.objs ++ [o'] } { s with heap := h', toks := tk } ∧ Ext ρ s (ρ ++ [own]) { s with heap := h', toks := tk } := by
  have hz : Frz s.heap h' := .ofExt hk
  have G : Rep W C B ρ σ { s with heap := h', toks := tk } := R.grow hk
  refine el_0_2 (G.adopt (own := own) (o' := o') hg (fun a ha => ⟨R.newNot (hnew a ha).1, (hnew a ha).2⟩) hnd (hn hz)) fun R1 E1 => ?_
  exact ⟨R1, E1.1, hz⟩
noncomputable def Base.Le (A : Around) (B B₂ : Base) : Prop := (∀ b o, B.h.get? b = some o → ∃ o1, KeptObj (frAddr A) b o (some o1) ∧ B₂.h.get? b = some o1) ∧ (∀ (i : Nat) x, B.g i = some x → B₂.g i = some x)
theorem Rep.unbase {B₂ : Base} (R : Rep W C B₂ ρ σ s) (h : Base.Le C.A B B₂) (hh : ∀ v, C.A.handled = some v → ∃ e o vs, v = .ref e ∧ B.h.get? e = some o ∧ o.cls = C.hcls ∧ o.data = .fields vs ∧ 6 ≤ vs.size ∧ (C.hclean = true → vs[2]? = some .none)) : Rep W C B ρ σ s where
  top := R.top
  keep b o e := let ⟨o1, k, e1⟩ := h.1 b o e; k.trans (R.keep b o1 e1) id
  nodup := R.nodup
  fresh a ha := ⟨(by
    cases q : B.h.get? a with
    | none => rfl
    | some o => (refine el_1_2 (h.1 a o q) fun o1 _ e1 => ?_; have := (R.fresh a ha).1; rw [e1] at this; cases this)), (R.fresh a ha).2⟩
  frame := R.frame
  live := R.live
  len := R.len
  objs := R.objs
  gkeep i x e := R.gkeep i x (h.2 i x e)
  gnew o ho g e := ⟨(by
    cases q : B.g g with
    | none => rfl
    | some x => (have := (R.gnew o ho g e).1; rw [h.2 g x q] at this; cases this)), (R.gnew o ho g e).2⟩
  gnod := R.gnod
  frs := R.frs
  hand := hh
  bare := R.bare
  os := R.os
open Classical in
noncomputable def baseOf (l : List Addr) (ρ : Rho) (s : Shared) : Base := ⟨hideAll s.heap l, fun i => if ∃ o ∈ ρ, i ∈ o.g then none else s.gens[i]?⟩
theorem baseOf_h {l : List Addr} {ρ : Rho} {s : Shared} {b : Addr} {o : Obj} (e : s.heap.get? b = some o) (h : b ∉ l) : (baseOf l ρ s).h.get? b = some o := hideAll_get l e h
theorem baseOf_none {l : List Addr} {ρ : Rho} {s : Shared} {b : Addr} (h : b ∈ l) : (baseOf l ρ s).h.get? b = none := hideAll_none l h
theorem of_baseOf {l : List Addr} {ρ : Rho} {s : Shared} {b : Addr} {o : Obj} (e : (baseOf l ρ s).h.get? b = some o) : s.heap.get? b = some o := of_hideAll l e
theorem baseOf_le (R : Rep W C B ρ σ s) {l : List Addr} (hl : ∀ a ∈ l, a ∈ ownA C ρ) : Base.Le C.A B (baseOf l ρ s) :=
  ⟨fun b o e => by
    refine el_1_1 ((R.keep b o e).there) fun o1 h1 => ?_
    have k := R.keep b o e
    rw [h1] at k
    exact ⟨o1, k, baseOf_h h1 fun q => by have := (R.fresh b (hl b q)).1; rw [e] at this; cases this⟩,
   fun i x e => by
    show (if _ then _ else _) = _
    rw [if_neg (fun hQ5 => by refine el_1_2 hQ5 fun o ho q => ?_; have := (R.gnew o ho i q).1; rw [e] at this; cases this)]
    exact R.gkeep i x e⟩
theorem Rep.handS (R : Rep W C B ρ σ s) (v : Value) (h : C.A.handled = some v) : ∃ e o vs, v = .ref e ∧ s.heap.get? e = some o ∧ e ∉ ownA C ρ ∧ ¬ frAddr C.A e ∧ o.cls = C.hcls ∧ o.data = .fields vs ∧ 6 ≤ vs.size ∧ (C.hclean = true → vs[2]? = some .none) := by
  refine el_3_6 (R.hand v h) fun e o vs h1 h2 h3 h4 h5 h6 => ?_
  have nf : ¬ frAddr C.A e := fun f => by
    obtain ⟨_, _, o', es, ep, q1, q2⟩ := R.frs e f
    refine el_1_4 ((R.keep e o h2).data) fun o2 q3 _ q4 _ => ?_
    rw [q1] at q3; cases q3; rw [q2, h4] at q4; cases q4
  exact ⟨e, o, vs, h1, (R.keep e o h2).strict nf, fun q => (by have := (R.fresh e q).1; rw [h2] at this; cases this), nf, h3, h4, h5, h6⟩
theorem Rep.handB (R : Rep W C B ρ σ s) {l : List Addr} (hl : ∀ a ∈ l, a ∈ ownA C ρ) (v : Value) (h : C.A.handled = some v) : ∃ e o vs, v = .ref e ∧ (baseOf l ρ s).h.get? e = some o ∧ o.cls = C.hcls ∧ o.data = .fields vs ∧ 6 ≤ vs.size ∧ (C.hclean = true → vs[2]? = some .none) := by
  refine el_3_5 (R.handS v h) fun e o vs h1 h2 h3 h4 h5 => ?_
  exact ⟨e, o, vs, h1, baseOf_h h2 fun q => h3 (hl e q), h5⟩
theorem Rep.rebase (R : Rep W C B ρ σ s) : Rep W C (baseOf (ownA C ρ) ρ s) ρ σ s where
  top := R.top
  keep b o e := .inl (of_baseOf e)
  nodup := R.nodup
  fresh a ha := ⟨baseOf_none ha, (R.fresh a ha).2⟩
  frame := R.frame
  live := R.live
  len := R.len
  objs := R.objs
  gkeep i x e := by
    have e' : (if _ then _ else _) = _ := e
    split at e'
    · cases e'
    · exact e'
  gnew o ho g e := ⟨by show (if _ then _ else _) = _; rw [if_pos ⟨o, ho, e⟩], (R.gnew o ho g e).2⟩
  gnod := R.gnod
  frs := R.frs
  hand := R.handB fun _ x => x
  bare := R.bare
  os := R.os
mutual
noncomputable def AV.ren (f : Nat → Nat) : AV → AV
  | .tup c l => .tup c (AV.renL f l)
  | .obj k => .obj (f k)
  | .non => .non
  | .bool b => .bool b
  | .int i => .int i
  | .byt l => .byt l
  | .str s => .str s
  | .con v => .con v
noncomputable def AV.renL (f : Nat → Nat) : List AV → List AV
  | [] => []
  | a :: l => a.ren f :: AV.renL f l
end
noncomputable def VS.ren (f : Nat → Nat) : VS → VS
  | .non => .non
  | .v a => .v (a.ren f)
  | .cell k => .cell (f k)
noncomputable def AObj.ren (f : Nat → Nat) : AObj → AObj
  | .list l => .list (AV.renL f l)
  | .cell a => .cell (a.map (AV.ren f))
  | .rng a b c => .rng a b c
  | .dict kvs ep => .dict (kvs.map fun p => (p.1, p.2.ren f)) ep
  | .inst c ats => .inst c (ats.map fun p => (p.1, p.2.ren f))
  | .gen g fd body vars => .gen g fd body (vars.map (VS.ren f))
  | .sem Φ => .sem Φ
  | .junk => .junk
noncomputable def renF (π : List Nat) (n : Nat) (i : Nat) : Nat := π.getD i n
noncomputable def renR (π : List Nat) (ρ : Rho) : Rho := π.map fun j => ρ.getD j ⟨0, [], []⟩
theorem renR_get {π : List Nat} {ρ : Rho} {i j : Nat} {o : Own} (h1 : π[i]? = some j) (h2 : ρ[j]? = some o) : (renR π ρ)[i]? = some o := by
  unfold renR
  rw [List.getElem?_map, h1]
  show some (ρ.getD j _) = _
  rw [List.getD_eq_getElem?_getD, h2]; rfl
theorem renR_of {π : List Nat} {ρ : Rho} {i : Nat} {o : Own} (hlt : ∀ j ∈ π, j < ρ.length) (h : (renR π ρ)[i]? = some o) : ∃ j, π[i]? = some j ∧ ρ[j]? = some o := by
  unfold renR at h
  rw [List.getElem?_map] at h
  refine el_1_2 (Option.map_eq_some_iff.mp h) fun j h1 h2 => ?_
  refine ⟨j, h1, ?_⟩
  have := hlt j (List.mem_of_getElem? h1)
  rw [List.getD_eq_getElem?_getD, List.getElem?_eq_getElem this] at h2
  rw [List.getElem?_eq_getElem this]
  exact congrArg some h2
theorem renF_get {π : List Nat} {ρ : Rho} {i : Nat} {o : Own} (h : ρ[renF π ρ.length i]? = some o) : (renR π ρ)[i]? = some o := by
  unfold renF at h
  rw [List.getD_eq_getElem?_getD] at h
  cases q : π[i]? with
  | none => rw [q] at h; simp at h
  | some j => rw [q] at h; exact renR_get q h
mutual
theorem DenA.ren {π : List Nat} {ρ : Rho} {h : Heap} : ∀ {a : AV} {v : Value}, DenA ρ h (a.ren (renF π ρ.length)) v → DenA (renR π ρ) h a v
  | .non, _, x => (DenA.iNon x) ▸ .non
  | .bool b, _, x => (DenA.iBool x) ▸ .bool b
  | .int i, _, x => (DenA.iInt x).elim fun _ e => e ▸ .int i _
  | .byt l, _, x => (DenA.iByt x).elim fun _ e => e ▸ .byt l _
  | .str s, _, x => (DenA.iStr x).elim fun _ e => e ▸ .str s _
  | .con v, _, x => (DenA.iCon x) ▸ .con _
  | .tup c l, _, x => el_2_4 (DenA.iTup x) fun _ _ n q d e => e ▸ .tup n q (DenL.ren d)
  | .obj k, _, x => el_1_2 (DenA.iObj x) fun _ q e => e ▸ .obj (renF_get q)
theorem DenL.ren {π : List Nat} {ρ : Rho} {h : Heap} : ∀ {l : List AV} {vs : List Value}, DenL ρ h (AV.renL (renF π ρ.length) l) vs → DenL (renR π ρ) h l vs
  | [], _, x => (DenL.iNil x) ▸ .nil
  | a :: l, _, x => el_2_3 (DenL.iCons x) fun _ _ e d r => e ▸ .cons (DenA.ren d) (DenL.ren r)
end
theorem SlotOK.ren {π : List Nat} {ρ : Rho} {h : Heap} {env : Env} {m : Str → Option Value} {x : Str} {kd : NameKind} {sl : VS} (y : SlotOK ρ h env m x kd (sl.ren (renF π ρ.length))) : SlotOK (renR π ρ) h env m x kd sl := by
  cases sl with
  | non => trivial
  | v a => obtain ⟨e, v, hv, hd⟩ := y; exact ⟨e, v, hv, hd.ren⟩
  | cell k => obtain ⟨e, o, hc, hd⟩ := y; exact ⟨e, o, hc, renF_get hd⟩
theorem Ents.ren {π : List Nat} {ρ : Rho} {h : Heap} : ∀ {l : List (Str × AV)} {es : List DictEntry}, Ents ρ h (l.map fun p => (p.1, p.2.ren (renF π ρ.length))) es → Ents (renR π ρ) h l es
  | [], _, x => by cases x; exact .nil
  | (n, a) :: l, _, x => by
    cases x with
    | cons e d r => exact .cons e d.ren r.ren
theorem renL_map (f : Nat → Nat) : ∀ l : List AV, AV.renL f l = l.map (AV.ren f)
  | [] => rfl
  | a :: l => by rw [AV.renL, renL_map f l]; rfl
theorem RepObj.ren {W : Wd} {π : List Nat} {ρ : Rho} {h : Heap} {gs : Array GenState} {own : Own} {o : AObj} (x : RepObj W ρ h gs own (o.ren (renF π ρ.length))) : RepObj W (renR π ρ) h gs own o := by
  cases o with
  | list l => refine el_1_2 x fun vs hl hd => ?_; exact ⟨vs, hl, hd.ren⟩
  | cell av =>
    refine el_1_2 x fun o ho hd => ?_
    refine ⟨o, ho, ?_⟩
    cases av with
    | none => exact hd
    | some a => refine el_1_2 hd fun v e d => ?_; exact ⟨v, e, d.ren⟩
  | rng a b c => exact x
  | dict kvs ep =>
    obtain ⟨hs, vs, hd, hv⟩ := x
    rw [List.map_map] at hd hv
    refine ⟨hs, vs, hd, DenL.ren (π := π) ?_⟩
    rw [renL_map, List.map_map]
    exact hv
  | inst c ats => refine el_3_4 x fun dx es n hx h1 h2 he => ?_; exact ⟨dx, es, n, hx, h1, h2, he.ren⟩
  | gen f fd body vars =>
    obtain ⟨L, g, hx, hg, hG, hs, hlen, m, hm, hf⟩ := x
    refine ⟨L, g, hx, hg, hG, hs, by simpa using hlen, m, hm, fun i x kd hi sl hsl => SlotOK.ren (hf i x kd hi _ ?_)⟩
    rw [List.getElem?_map, hsl]; rfl
  | sem Φ => exact x
  | junk => trivial
theorem renR_le {π : List Nat} {ρ : Rho} {n : Nat} (h : ∀ k, k < n → π[k]? = some k) : RhoLe (ρ.take n) (renR π ρ) := .of fun k o e =>
  let ⟨h1, h2⟩ := take_get e
  renR_get (h k h1) h2
theorem Rep.ren (R : Rep W C B ρ σ s) (π : List Nat) (hnd : π.Nodup) (hlt : ∀ j ∈ π, j < σ.objs.length) {σ' : St} (hlen : σ'.objs.length = π.length)
    (hv : ∀ (i : Nat) x, σ'.vars[i]? = some x → x = .non ∨ σ.vars[i]? = some (x.ren (renF π σ.objs.length)))
    (ho : ∀ (i j : Nat) o', π[i]? = some j → σ'.objs[i]? = some o' → o' = .junk ∨ σ.objs[j]? = some (o'.ren (renF π σ.objs.length))) : Rep W C B (renR π ρ) σ' s := by
  rw [← R.len] at hlt hv ho
  have hsub : ∀ o ∈ renR π ρ, ∃ j, ρ[j]? = some o := fun o ho => by
    refine el_1_1 (List.mem_iff_getElem?.mp ho) fun i hi => ?_
    refine el_1_2 (renR_of hlt hi) fun j _ h2 => ?_
    exact ⟨j, h2⟩
  have has : ∀ a ∈ rhoAs (renR π ρ), a ∈ rhoAs ρ := fun a ha => by
    refine el_1_2 (List.mem_flatMap.mp ha) fun o h1 h2 => ?_
    refine el_1_1 (hsub o h1) fun j hj => ?_
    exact mem_rhoAs hj h2
  have hnd2 : (rhoAs (renR π ρ)).Nodup := by
    unfold rhoAs renR
    rw [List.flatMap_map]
    have base : ∀ o ∈ ρ, o.as.Nodup := fun o ho => by
      have := R.nodupR
      unfold rhoAs at this
      unfold List.Nodup at this
      rw [List.pairwise_flatMap] at this
      exact this.1 o ho
    unfold List.Nodup
    rw [List.pairwise_flatMap]
    refine ⟨fun j hj => ?_, ?_⟩
    · have := hlt j hj
      rw [List.getD_eq_getElem?_getD, List.getElem?_eq_getElem this]
      exact base _ (List.getElem_mem this)
    · refine List.Pairwise.imp_of_mem (fun {a b} ha hb hne => ?_) hnd
      intro x hx1 y hx2 e
      subst e
      have l1 := hlt a ha
      have l2 := hlt b hb
      rw [List.getD_eq_getElem?_getD, List.getElem?_eq_getElem l1] at hx1
      rw [List.getD_eq_getElem?_getD, List.getElem?_eq_getElem l2] at hx2
      exact hne (rhoAs_apart R.nodupR (List.getElem?_eq_getElem l1) (List.getElem?_eq_getElem l2) hx1 hx2)
  exact
    { top := R.top, keep := R.keep
      nodup := List.nodup_cons.mpr ⟨fun q => R.envNot (has _ q), hnd2⟩
      fresh := fun a ha => by
        rcases List.mem_cons.mp ha with rfl | ha
        · exact R.fresh _ (.head _)
        · exact R.fresh a (.tail _ (has a ha))
      frame := by
        refine el_1_2 R.frame fun m hm hs => ?_
        refine ⟨m, hm, fun i x kd hi sl hsl => ?_⟩
        rcases hv i sl hsl with rfl | q
        · trivial
        · exact (hs i x kd hi _ q).ren
      live := fun a ha => by
        rcases List.mem_cons.mp ha with rfl | ha
        · exact R.live _ (.head _)
        · exact R.live a (.tail _ (has a ha))
      len := by rw [hlen]; simp [renR]
      objs := fun k own o h1 h2 => by
        refine el_1_2 (renR_of hlt h1) fun j h3 h4 => ?_
        rcases ho k j o h3 h2 with rfl | q
        · trivial
        · exact (R.objs j own _ h4 q).ren
      gkeep := R.gkeep
      gnew := fun o ho => by refine el_1_1 (hsub o ho) fun j hj => ?_; exact R.gnew o (List.mem_of_getElem? hj)
      gnod := fun i j o₁ o₂ g h1 h2 e1 e2 => by
        refine el_1_2 (renR_of hlt h1) fun i' p1 q1 => ?_
        refine el_1_2 (renR_of hlt h2) fun j' p2 q2 => ?_
        have := R.gnod i' j' o₁ o₂ g q1 q2 e1 e2
        subst this
        refine el_1_1 (List.getElem?_eq_some_iff.mp p1) fun l1 e1' => ?_
        refine el_1_1 (List.getElem?_eq_some_iff.mp p2) fun l2 e2' => ?_
        have hp := List.pairwise_iff_getElem.mp hnd
        rcases Nat.lt_trichotomy i j with q | q | q
        · exact absurd (e1'.trans e2'.symm) (hp i j l1 l2 q)
        · exact q
        · exact absurd (e2'.trans e1'.symm) (hp j i l2 l1 q)
      frs := fun b f => let ⟨x1, x2, x3⟩ := R.frs b f; ⟨x1, fun q => x2 (has b q), x3⟩
      hand := R.hand, bare := R.bare, os := R.os }
end
end
section
noncomputable abbrev KA := AV → St → Prop
noncomputable abbrev KX := Value → Bool → St → Prop
inductive AFlow where
  | next | brk | cont | ret (a : AV)
noncomputable abbrev KF := AFlow → St → Prop
section
variable (W : Wd) (C : Ctx)
noncomputable def PostA (B : Base) (ρ₀ : Rho) (s₀ : Shared) (K : KA) : Value → Shared → Prop := fun v s => ∃ ρ a σ, Ext ρ₀ s₀ ρ s ∧ Rep W C B ρ σ s ∧ DenA ρ s.heap a v ∧ K a σ
structure Fly (W : Wd) (C : Ctx) (B : Base) (ρ : Rho) (h : Heap) (e : Addr) (cls : Value) (cl : Bool) : Prop where
  fresh : NewA W C B ρ e
  obj : ∃ oe vs, h.get? e = some oe ∧ oe.cls = cls ∧ oe.data = .fields vs ∧ 6 ≤ vs.size ∧ (cl = true → vs[2]? = some .none) ∧
    (vs[1]? = some .none ∨ ∃ T oT ts fl, vs[1]? = some (.ref T) ∧ NewA W C B ρ T ∧ T ≠ e ∧ h.get? T = some oT ∧ oT.cls = .type "traceback" ∧ oT.data = .fields ts ∧ 5 ≤ ts.size ∧ ts[3]? = some fl ∧ (fl = .none ∨ ∃ z : Nat, fl = rawInt z))
noncomputable def PostX (B : Base) (ρ₀ : Rho) (s₀ : Shared) (X : KX) : Value → Shared → Prop := fun v s => ∃ ρ cls cl σ e, v = .ref e ∧ Ext ρ₀ s₀ ρ s ∧ Rep W C B ρ σ s ∧ Fly W C B ρ s.heap e cls cl ∧ X cls cl σ
noncomputable def PostB (B : Base) (ρ₀ : Rho) (s₀ : Shared) (K : Bool → St → Prop) : Bool → Shared → Prop := fun b s => ∃ ρ σ, Ext ρ₀ s₀ ρ s ∧ Rep W C B ρ σ s ∧ K b σ
noncomputable def PostU (B : Base) (ρ₀ : Rho) (s₀ : Shared) (K : St → Prop) : Unit → Shared → Prop := fun _ s => ∃ ρ σ, Ext ρ₀ s₀ ρ s ∧ Rep W C B ρ σ s ∧ K σ
noncomputable def DenF (ρ : Rho) (h : Heap) : AFlow → Flow → Prop
  | .next, .next => True
  | .brk, .brk => True
  | .cont, .cont => True
  | .ret a, .ret v => DenA ρ h a v
  | _, _ => False
noncomputable def PostF (B : Base) (ρ₀ : Rho) (s₀ : Shared) (K : KF) : Flow → Shared → Prop := fun f s => ∃ ρ a σ, Ext ρ₀ s₀ ρ s ∧ Rep W C B ρ σ s ∧ DenF ρ s.heap a f ∧ K a σ
end
section
variable {W : Wd} {C : Ctx} {B : Base} {ρ₀ : Rho} {s₀ s : Shared} {P : Prop}
theorem PostA.el {K : KA} {v : Value} (h : PostA W C B ρ₀ s₀ K v s) (k : ∀ ρ a σ, Ext ρ₀ s₀ ρ s → Rep W C B ρ σ s → DenA ρ s.heap a v → K a σ → P) : P := by
  refine el_3_4 h fun ρ a σ e R d x => ?_; exact k ρ a σ e R d x
theorem PostX.el {X : KX} {v : Value} (h : PostX W C B ρ₀ s₀ X v s) (k : ∀ ρ cls cl σ e, v = .ref e → Ext ρ₀ s₀ ρ s → Rep W C B ρ σ s → Fly W C B ρ s.heap e cls cl → X cls cl σ → P) : P := by
  refine el_5_5 h fun ρ cls cl σ e ev x R F y => ?_; exact k ρ cls cl σ e ev x R F y
theorem PostB.el {K : Bool → St → Prop} {b : Bool} (h : PostB W C B ρ₀ s₀ K b s) (k : ∀ ρ σ, Ext ρ₀ s₀ ρ s → Rep W C B ρ σ s → K b σ → P) : P := by
  refine el_2_3 h fun ρ σ e R x => ?_; exact k ρ σ e R x
theorem PostU.el {K : St → Prop} (h : PostU W C B ρ₀ s₀ K () s) (k : ∀ ρ σ, Ext ρ₀ s₀ ρ s → Rep W C B ρ σ s → K σ → P) : P := by
  refine el_2_3 h fun ρ σ e R x => ?_; exact k ρ σ e R x
theorem PostF.el {K : KF} {f : Flow} (h : PostF W C B ρ₀ s₀ K f s) (k : ∀ ρ a σ, Ext ρ₀ s₀ ρ s → Rep W C B ρ σ s → DenF ρ s.heap a f → K a σ → P) : P := by
  refine el_3_4 h fun ρ a σ e R d x => ?_; exact k ρ a σ e R d x
end
section
variable (W : Wd) (C : Ctx)
noncomputable def JV (t : Sem Value) (K : KA) (X : KX) (B : Base) (ρ : Rho) (s : Shared) : Prop := wpAny (model W.prog W.w) C.A t (PostA W C B ρ s K) (PostX W C B ρ s X) s
noncomputable def J (e : Expr) (K : KA) (X : KX) (σ : St) : Prop := ∀ B ρ s, Rep W C B ρ σ s → JV W C (eval e C.env) K X B ρ s
noncomputable def JB (e : Expr) (K : Bool → St → Prop) (X : KX) (σ : St) : Prop :=
  ∀ B ρ s, Rep W C B ρ σ s → wpAny (model W.prog W.w) C.A (isTrue e C.env (eval e C.env)) (PostB W C B ρ s K) (PostX W C B ρ s X) s
noncomputable def JS (st : Stmt) (K : KF) (X : KX) (σ : St) : Prop :=
  ∀ B ρ s, Rep W C B ρ σ s → wpAny (model W.prog W.w) C.A (exec st C.env) (PostF W C B (ρ.take C.low) s K) (PostX W C B (ρ.take C.low) s X) s
noncomputable def JSs (l : List Stmt) (K : KF) (X : KX) (σ : St) : Prop :=
  ∀ B ρ s, Rep W C B ρ σ s → wpAny (model W.prog W.w) C.A (execs l C.env) (PostF W C B (ρ.take C.low) s K) (PostX W C B (ρ.take C.low) s X) s
noncomputable def Op1 (f : Value → Sem Value) (a : AV) (K : KA) (X : KX) (σ : St) : Prop :=
  ∀ B ρ s v, Rep W C B ρ σ s → DenA ρ s.heap a v → JV W C (f v) K X B ρ s
noncomputable def Op2 (f : Value → Value → Sem Value) (a b : AV) (K : KA) (X : KX) (σ : St) : Prop :=
  ∀ B ρ s v u, Rep W C B ρ σ s → DenA ρ s.heap a v → DenA ρ s.heap b u → JV W C (f v u) K X B ρ s
noncomputable def OpU (f : Value → Sem Unit) (a : AV) (K : St → Prop) (X : KX) (σ : St) : Prop :=
  ∀ B ρ s v, Rep W C B ρ σ s → DenA ρ s.heap a v → wpAny (model W.prog W.w) C.A (f v) (PostU W C B ρ s K) (PostX W C B ρ s X) s
end
section
variable {W : Wd} {C : Ctx} {B : Base} {ρ ρ₀ : Rho} {σ : St} {s s₀ : Shared} {K : KA} {X : KX}
theorem PostA.ext {v : Value} (e : Ext ρ₀ s₀ ρ s) : ∀ {s'}, PostA W C B ρ s K v s' → PostA W C B ρ₀ s₀ K v s' := fun hQ0 => by refine el_3_2 hQ0 fun ρ' a σ' x r => ?_; exact ⟨ρ', a, σ', e.trans x, r⟩
theorem PostX.ext {v : Value} (e : Ext ρ₀ s₀ ρ s) : ∀ {s'}, PostX W C B ρ s X v s' → PostX W C B ρ₀ s₀ X v s' := fun hQ1 => by refine el_5_3 hQ1 fun ρ' a cl σ' q eq x r => ?_; exact ⟨ρ', a, cl, σ', q, eq, e.trans x, r⟩
theorem PostB.ext {K : Bool → St → Prop} {v : Bool} (e : Ext ρ₀ s₀ ρ s) : ∀ {s'}, PostB W C B ρ s K v s' → PostB W C B ρ₀ s₀ K v s' := fun hQ2 => by refine el_2_2 hQ2 fun ρ' σ' x r => ?_; exact ⟨ρ', σ', e.trans x, r⟩
theorem PostU.ext {K : St → Prop} {v : Unit} (e : Ext ρ₀ s₀ ρ s) : ∀ {s'}, PostU W C B ρ s K v s' → PostU W C B ρ₀ s₀ K v s' := fun hQ3 => by refine el_2_2 hQ3 fun ρ' σ' x r => ?_; exact ⟨ρ', σ', e.trans x, r⟩
theorem PostF.ext {K : KF} {v : Flow} (e : Ext ρ₀ s₀ ρ s) : ∀ {s'}, PostF W C B ρ s K v s' → PostF W C B ρ₀ s₀ K v s' := fun hQ4 => by refine el_3_2 hQ4 fun ρ' a σ' x r => ?_; exact ⟨ρ', a, σ', e.trans x, r⟩
theorem PostA.now {a : AV} {v : Value} (R : Rep W C B ρ σ s) (d : DenA ρ s.heap a v) (k : K a σ) : PostA W C B ρ s K v s := ⟨ρ, a, σ, .refl _ _, R, d, k⟩
theorem PostA.tok {a : AV} {v : Value} {n : Nat} (R : Rep W C B ρ σ s) (d : DenA ρ s.heap a v) (k : K a σ) : PostA W C B ρ s K v { s with toks := n } :=
  ⟨ρ, a, σ, ⟨.refl _, .refl _⟩, R.grow fun _ _ e => e, d, k⟩
theorem PostF.now {K : KF} {a : AFlow} {f : Flow} {n : Nat} (R : Rep W C B ρ σ s) (d : DenF ρ s.heap a f) (k : K a σ) : PostF W C B (ρ.take n) s K f s := ⟨ρ, a, σ, (Ext.refl _ _).low n, R, d, k⟩
theorem PostX.low {v : Value} (n : Nat) {s'} (x : PostX W C B ρ s X v s') : PostX W C B (ρ.take n) s X v s' := x.ext ((Ext.refl _ _).low n)
theorem Ext.cut {ρ ρ' : Rho} {s s' : Shared} {n : Nat} (x : Ext (ρ.take n) s ρ' s') : Ext (ρ.take n) s (ρ'.take n) s' := ⟨x.1.take2 n, x.2⟩
theorem Ext.lowcut {ρ ρ' : Rho} {s s' : Shared} (n : Nat) (x : Ext ρ s ρ' s') : Ext (ρ.take n) s (ρ'.take n) s' := (x.low n).cut
theorem J_int {i : Int} {k : Nat} {p : Pos} (h : K (.int i) σ) : J W C (.Constant (.int i) k p) K X σ := fun _ _ _ R => fun _ _ _ => .tok (a := .int i) R (DenA.int i _) h
theorem J_byt {l : List UInt8} {k : Nat} {p : Pos} (h : K (.byt l) σ) : J W C (.Constant (.bytes l) k p) K X σ := fun _ _ _ R => fun _ _ _ => .tok (a := .byt l) R (DenA.byt l _) h
theorem J_str {x : Str} {k : Nat} {p : Pos} (h : K (.str x) σ) : J W C (.Constant (.str x) k p) K X σ := fun _ _ _ R => fun _ _ _ => .tok (a := .str x) R (DenA.str x _) h
theorem J_bool {b : Bool} {k : Nat} {p : Pos} (h : K (.bool b) σ) : J W C (.Constant (.bool b) k p) K X σ := fun _ _ _ R => fun _ _ _ => .now (a := .bool b) R (DenA.bool b) h
theorem J_non {k : Nat} {p : Pos} (h : K (.non) σ) : J W C (.Constant .none k p) K X σ := fun _ _ _ R => fun _ _ _ => .now (a := .non) R DenA.non h
theorem loadName_local {x : Str} {i : Nat} {a : AV} (hk : C.env.scope.kind = .function) (hl : Loc C.env.scope x i .local) (hv : σ.vars[i]? = some (.v a)) (h : K a σ) (R : Rep W C B ρ σ s) : JV W C (loadName C.env x) K X B ρ s := by
  refine el_1_2 R.frame fun m hm hs => ?_
  obtain ⟨_, v, e, d⟩ := hs i x _ hl.at_ _ hv
  exact wpAny_loadName_local hk hl.look hm e (.now R d h)
theorem J_local {x : Str} {i : Nat} {p : Pos} {a : AV} (hk : C.env.scope.kind = .function) (hl : Loc C.env.scope x i .local) (hv : σ.vars[i]? = some (.v a)) (hd : (x == ("__debug__" : Str)) = false) (h : K a σ) : J W C (.Name x p) K X σ :=
  fun _ _ _ R => wpAny_Name (loadName_local hk hl hv h R) hd
theorem loadName_cell {x : Str} {i k : Nat} {a : AV} (hk : C.env.scope.kind = .function) (hl : Loc C.env.scope x i .cell) (hv : σ.vars[i]? = some (.cell k)) (ho : σ.objs[k]? = some (.cell (some a))) (h : K a σ) (R : Rep W C B ρ σ s) : JV W C (loadName C.env x) K X B ρ s := by
  refine el_1_2 R.frame fun m hm hs => ?_
  obtain ⟨_, c, e, d⟩ := hs i x _ hl.at_ _ hv
  obtain ⟨o, ho', v, hd, den⟩ := R.objs k _ _ d ho
  exact wpAny_loadName_cell hk hl.look e ⟨o, ho', hd⟩ (.now R den h)
theorem J_cell {x : Str} {i k : Nat} {p : Pos} {a : AV} (hk : C.env.scope.kind = .function) (hl : Loc C.env.scope x i .cell) (hv : σ.vars[i]? = some (.cell k)) (ho : σ.objs[k]? = some (.cell (some a))) (hd : (x == ("__debug__" : Str)) = false) (h : K a σ) : J W C (.Name x p) K X σ :=
  fun _ _ _ R => wpAny_Name (loadName_cell hk hl hv ho h R) hd
structure TopN (W : Wd) (mg mb : Str → Option Value) : Prop where
  g : W.h1.Ns mainGlobals mg
  b : W.h1.Ns builtinsNs mb
  lim : W.h1.NoLimit
theorem J_global {x : Str} {p : Pos} {v : Value} {mg mb : Str → Option Value} (T : TopN W mg mb) (hg : C.env.globals = mainGlobals) (hk : C.env.scope.kind = .function) (hx : C.env.kindOf x = some .globalImplicit) (hm : mg x = some v) (hd : (x == ("__debug__" : Str)) = false) (h : K (.con v) σ) : J W C (.Name x p) K X σ :=
  fun _ _ _ R => Name_function_global hk hx (loadGlobal_global (hg ▸ T.g.keeps R.top) hm (.now (a := .con v) R (DenA.con v) h)) hd
theorem J_builtin {x : Str} {p : Pos} {v : Value} {mg mb : Str → Option Value} (T : TopN W mg mb) (hg : C.env.globals = mainGlobals) (hb : C.env.builtins = builtinsNs) (hk : C.env.scope.kind = .function) (hx : C.env.kindOf x = some .globalImplicit) (hm : mg x = none) (hm' : mb x = some v) (hd : (x == ("__debug__" : Str)) = false) (h : K (.con v) σ) : J W C (.Name x p) K X σ :=
  fun _ _ _ R => Name_function_global hk hx (loadGlobal_builtin (hg ▸ T.g.keeps R.top) hm (hb ▸ T.b.keeps R.top) hm' (.now (a := .con v) R (DenA.con v) h)) hd
theorem J_BinOp {l r : Expr} {op : Operator} {p : Pos} (h : J W C l (fun a σ₁ => J W C r (fun b σ₂ => Op2 W C (binaryOp op) a b K X σ₂) X σ₁) X σ) : J W C (.BinOp l op r p) K X σ := fun B ρ s R => by
  refine wpAny_BinOp (wpAny_mono (h B ρ s R) (fun v s1 h1 => ?_) fun _ _ x => x)
  refine h1.el fun ρ1 a σ1 e1 R1 d1 k1 => ?_
  refine wpAny_mono (k1 B ρ1 s1 R1) (fun u s2 h2 => ?_) fun _ _ x => x.ext e1
  refine h2.el fun ρ2 b σ2 e2 R2 d2 k2 => ?_
  exact wpAny_mono (k2 B ρ2 s2 v u R2 (d1.ext e2) d2) (fun _ _ x => x.ext (e1.trans e2)) fun _ _ x => x.ext (e1.trans e2)
theorem J_Compare1 {l r : Expr} {op : CmpOp} {p : Pos} (hm : behindInMarks op r = false) (h : J W C l (fun a σ₁ => J W C r (fun b σ₂ => Op2 W C (compareOp op) a b K X σ₂) X σ₁) X σ) : J W C (.Compare l [op] [r] p) K X σ := fun B ρ s R => by
  refine wpAny_Compare1 (wpAny_mono (h B ρ s R) (fun v s1 h1 => ?_) fun _ _ x => x) hm
  refine h1.el fun ρ1 a σ1 e1 R1 d1 k1 => ?_
  refine wpAny_mono (k1 B ρ1 s1 R1) (fun u s2 h2 => ?_) fun _ _ x => x.ext e1
  refine h2.el fun ρ2 b σ2 e2 R2 d2 k2 => ?_
  exact wpAny_mono (k2 B ρ2 s2 v u R2 (d1.ext e2) d2) (fun _ _ x => x.ext (e1.trans e2)) fun _ _ x => x.ext (e1.trans e2)
noncomputable def OpT (W : Wd) (C : Ctx) (a : AV) (K : Bool → St → Prop) (X : KX) (σ : St) : Prop :=
  ∀ B ρ s v, Rep W C B ρ σ s → DenA ρ s.heap a v → wpAny (model W.prog W.w) C.A (truthy v) (PostB W C B ρ s K) (PostX W C B ρ s X) s
theorem OpT_bool {b : Bool} {K : Bool → St → Prop} (h : K b σ) : OpT W C (.bool b) K X σ := fun B ρ s v R d => by
  cases d with
  | bool b => exact wpAny_truthy_bool ⟨ρ, σ, .refl _ _, R, h⟩
theorem JB_Compare1 {l r : Expr} {op : CmpOp} {p : Pos} {K : Bool → St → Prop} (hm : behindInMarks op r = false) (h : J W C l (fun a σ₁ => J W C r (fun b σ₂ => Op2 W C (compareOp op) a b (fun c σ₃ => OpT W C c K X σ₃) X σ₂) X σ₁) X σ) : JB W C (.Compare l [op] [r] p) K X σ := fun B ρ s R => by
  refine wpAny_isTrue_Compare1 (wpAny_mono (h B ρ s R) (fun v s1 h1 => ?_) fun _ _ x => x) hm
  refine h1.el fun ρ1 a σ1 e1 R1 d1 k1 => ?_
  refine wpAny_mono (k1 B ρ1 s1 R1) (fun u s2 h2 => ?_) fun _ _ x => x.ext e1
  refine h2.el fun ρ2 b σ2 e2 R2 d2 k2 => ?_
  refine wpAny_mono (k2 B ρ2 s2 v u R2 (d1.ext e2) d2) (fun _ s3 h3 => ?_) fun _ _ x => x.ext (e1.trans e2)
  refine h3.el fun ρ3 c σ3 e3 R3 d3 k3 => ?_
  exact wpAny_mono (k3 B ρ3 s3 _ R3 d3) (fun _ _ x => x.ext ((e1.trans e2).trans e3)) fun _ _ x => x.ext ((e1.trans e2).trans e3)
theorem JB_not {e : Expr} {p : Pos} {K : Bool → St → Prop} (h : JB W C e (fun b => K (!b)) X σ) : JB W C (.UnaryOp .Not e p) K X σ := fun B ρ s R =>
  wpAny_isTrue_Not (h B ρ s R)
theorem JB_value {e : Expr} {K : Bool → St → Prop} (h : J W C e (fun a σ₁ => OpT W C a K X σ₁) X σ) (he : ∀ env whole, isTrue e env whole = (do let v ← whole; standAt e.pos; holding [v] (truthy v))) : JB W C e K X σ := fun B ρ s R => by
  refine wpAny_isTrue_value (wpAny_mono (h B ρ s R) (fun v s1 h1 => ?_) fun _ _ x => x) (he _ _)
  refine h1.el fun ρ1 a σ1 e1 R1 d1 k1 => ?_
  exact wpAny_mono (k1 B ρ1 s1 v R1 d1) (fun _ _ x => x.ext e1) fun _ _ x => x.ext e1
noncomputable def JAll (W : Wd) (C : Ctx) (op : BoolOp) (es : List Expr) (K : Bool → St → Prop) (X : KX) (σ : St) : Prop :=
  ∀ B ρ s, Rep W C B ρ σ s → wpAny (model W.prog W.w) C.A (allTrue op es C.env) (PostB W C B ρ s K) (PostX W C B ρ s X) s
theorem JB_BoolOp {op : BoolOp} {es : List Expr} {p : Pos} {K : Bool → St → Prop} (h : JAll W C op es K X σ) : JB W C (.BoolOp op es p) K X σ := fun B ρ s R => wpAny_isTrue_BoolOp (h B ρ s R)
theorem JAll_and_nil {K : Bool → St → Prop} (h : K true σ) : JAll W C .And [] K X σ := fun B ρ s R => wpAny_allTrue_And_nil ⟨ρ, σ, .refl _ _, R, h⟩
theorem JAll_or_nil {K : Bool → St → Prop} (h : K false σ) : JAll W C .Or [] K X σ := fun B ρ s R => wpAny_allTrue_Or_nil ⟨ρ, σ, .refl _ _, R, h⟩
theorem JAll_and {e : Expr} {es : List Expr} {K : Bool → St → Prop} (h : JB W C e (fun b σ₁ => (b = true → JAll W C .And es K X σ₁) ∧ (b = false → K false σ₁)) X σ) : JAll W C .And (e :: es) K X σ := fun B ρ s R => by
  refine wpAny_allTrue_And_cons (wpAny_mono (h B ρ s R) (fun b s1 h1 => ?_) fun _ _ x => x)
  refine h1.el fun ρ1 σ1 e1 R1 kP => ?_; refine el_0_2 kP fun k1 k2 => ?_
  cases b with
  | true => exact wpAny_mono (k1 rfl B ρ1 s1 R1) (fun _ _ x => x.ext e1) fun _ _ x => x.ext e1
  | false => exact ⟨ρ1, σ1, e1, R1, k2 rfl⟩
theorem wpAny_allTrue_Or_cons' {M : Model} {A : Around} {E : Value → Shared → Prop} {s : Shared} {env : Env} {x : Expr} {rest : List Expr} {Q : Bool → Shared → Prop}
    (h : wpAny M A (isTrue x env (eval x env)) (fun b s₁ => if b then Q true s₁ else wpAny M A (allTrue .Or rest env) Q E s₁) E s) : wpAny M A (allTrue .Or (x :: rest) env) Q E s := by
  show wpAny M A (do match BoolOp.Or, ← isTrue x env (eval x env) with | .And, false => pure false | .Or, true => pure true | _, _ => allTrue .Or rest env) Q E s
  refine wpAny_bind (wpAny_mono h (fun b s₁ h₁ => ?_) fun _ _ x => x)
  cases b
  · exact h₁
  · exact wpAny_pure h₁
theorem JAll_or {e : Expr} {es : List Expr} {K : Bool → St → Prop} (h : JB W C e (fun b σ₁ => (b = true → K true σ₁) ∧ (b = false → JAll W C .Or es K X σ₁)) X σ) : JAll W C .Or (e :: es) K X σ := fun B ρ s R => by
  refine wpAny_allTrue_Or_cons' (wpAny_mono (h B ρ s R) (fun b s1 h1 => ?_) fun _ _ x => x)
  refine h1.el fun ρ1 σ1 e1 R1 kP => ?_; refine el_0_2 kP fun k1 k2 => ?_
  cases b with
  | true => exact ⟨ρ1, σ1, e1, R1, k1 rfl⟩
  | false => exact wpAny_mono (k2 rfl B ρ1 s1 R1) (fun _ _ x => x.ext e1) fun _ _ x => x.ext e1
theorem J_UnaryOp {op : UnaryOp} {e : Expr} {p : Pos} (h : J W C e (fun a σ₁ => Op1 W C (unaryOp op) a K X σ₁) X σ) : J W C (.UnaryOp op e p) K X σ := fun B ρ s R => by
  refine wpAny_UnaryOp (wpAny_mono (h B ρ s R) (fun v s1 h1 => ?_) fun _ _ x => x)
  refine h1.el fun ρ1 a σ1 e1 R1 d1 k1 => ?_
  exact wpAny_mono (k1 B ρ1 s1 v R1 d1) (fun _ _ x => x.ext e1) fun _ _ x => x.ext e1
theorem J_IfExp {t a b : Expr} {p : Pos} (h : JB W C t (fun c σ₁ => (c = true → J W C a K X σ₁) ∧ (c = false → J W C b K X σ₁)) X σ) : J W C (.IfExp t a b p) K X σ := fun B ρ s R => by
  refine wpAny_IfExp (wpAny_mono (h B ρ s R) (fun c s1 h1 => ?_) fun _ _ x => x)
  refine h1.el fun ρ1 σ1 e1 R1 kP => ?_; refine el_0_2 kP fun k1 k2 => ?_
  cases c with
  | true => exact wpAny_mono (k1 rfl B ρ1 s1 R1) (fun _ _ x => x.ext e1) fun _ _ x => x.ext e1
  | false => exact wpAny_mono (k2 rfl B ρ1 s1 R1) (fun _ _ x => x.ext e1) fun _ _ x => x.ext e1
theorem JSs_nil {K : KF} (h : K .next σ) : JSs W C [] K X σ := fun B ρ s R => wpAny_execs_nil (.now (a := .next) R trivial h)
theorem JSs_cons {st : Stmt} {l : List Stmt} {K : KF} (h : JS W C st (fun f σ₁ => match f with | .next => JSs W C l K X σ₁ | f => K f σ₁) X σ) : JSs W C (st :: l) K X σ := fun B ρ s R => by
  refine wpAny_execs_cons (wpAny_mono (h B ρ s R) (fun f s1 h1 => ?_) fun _ _ x => x)
  refine h1.el fun ρ1 a σ1 e1 R1 d1 k1 => ?_
  cases a <;> cases f <;> first | exact d1.elim | exact wpAny_mono (k1 B ρ1 s1 R1) (fun _ _ x => x.ext e1.cut) (fun _ _ x => x.ext e1.cut) | exact ⟨ρ1, _, σ1, e1, R1, d1, k1⟩
theorem JS_If {t : Expr} {a b : List Stmt} {p : Pos} {K : KF} (h : JB W C t (fun c σ₁ => (c = true → JSs W C a K X σ₁) ∧ (c = false → JSs W C b K X σ₁)) X σ) : JS W C (.If t a b p) K X σ := fun B ρ s R => by
  refine wpAny_If (wpAny_mono (h B ρ s R) (fun c s1 h1 => ?_) fun _ _ x => x.low _)
  refine h1.el fun ρ1 σ1 e1 R1 kP => ?_; refine el_0_2 kP fun k1 k2 => ?_
  cases c with
  | true => exact wpAny_mono (k1 rfl B ρ1 s1 R1) (fun _ _ x => x.ext (e1.lowcut _)) fun _ _ x => x.ext (e1.lowcut _)
  | false => exact wpAny_mono (k2 rfl B ρ1 s1 R1) (fun _ _ x => x.ext (e1.lowcut _)) fun _ _ x => x.ext (e1.lowcut _)
theorem JS_Return {e : Expr} {p : Pos} {K : KF} (h : J W C e (fun a σ₁ => K (.ret a) σ₁) X σ) : JS W C (.Return (some e) p) K X σ := fun B ρ s R =>
  wpAny_Return_some (wpAny_mono (h B ρ s R) (fun v s1 hP => hP.el fun ρ1 a σ1 e1 R1 d1 k1 => ⟨ρ1, .ret a, σ1, e1.low _, R1, d1, k1⟩) fun _ _ x => x.low _)
theorem JS_Expr {e : Expr} {p : Pos} {K : KF} (hi : interactive C.env = false) (hs : swapsWith e none p.line C.env = pure false) (h : J W C e (fun _ σ₁ => K .next σ₁) X σ) : JS W C (.Expr e p) K X σ := fun B ρ s R =>
  wpAny_Expr_any (wpAny_mono (h B ρ s R) (fun v s1 hP => hP.el fun ρ1 a σ1 e1 R1 d1 k1 => ⟨ρ1, .next, σ1, e1.low _, R1, trivial, k1⟩) fun _ _ x => x.low _) hi hs
noncomputable def SetN (W : Wd) (C : Ctx) (x : Str) (a : AV) (K : St → Prop) (X : KX) (σ : St) : Prop := OpU W C (storeName C.env x) a K X σ
theorem SetN_local {x : Str} {i : Nat} {a : AV} {K : St → Prop} (hk : C.env.scope.kind = .function) (hl : Loc C.env.scope x i .local) (h : K { σ with vars := σ.vars.set i (.v a) }) : SetN W C x a K X σ := fun B ρ s v R d => by
  refine el_1_2 R.frame fun m hm hs => ?_
  refine wpAny_storeName_local hl.look hm (fun h' hm' hsb => ?_) (by show (C.env.scope.kind == .class || (C.env.scope.kind == .module && C.env.locals != C.env.globals)) = false; rw [hk]; rfl)
  refine el_0_2 (R.setVar hl hm hs d hm' hsb (s.toks + 1)) fun R' e' => ?_
  exact ⟨ρ, _, e', R', h⟩
theorem SetN_cell {x : Str} {i k : Nat} {a : AV} {a0 : Option AV} {K : St → Prop} (hk : C.env.scope.kind = .function) (hl : Loc C.env.scope x i .cell) (hv : σ.vars[i]? = some (.cell k)) (ho : σ.objs[k]? = some (.cell a0)) (h : K { σ with objs := σ.objs.set k (.cell (some a)) }) : SetN W C x a K X σ := fun B ρ s v R d => by
  refine el_1_2 R.frame fun m hm hs => ?_
  obtain ⟨_, own, e, hc⟩ := hs i x _ hl.at_ _ hv
  refine el_1_2 (R.objs k _ _ hc ho) fun o ho' hd => ?_
  have hcell : ∃ v0, o.data = .cell v0 := by
    cases a0 with
    | none => exact ⟨_, hd⟩
    | some a => refine el_1_2 hd fun v e _ => ?_; exact ⟨_, e⟩
  refine el_1_1 hcell fun v0 hd0 => ?_
  refine wpAny_storeName_cell hk hl.look e ⟨o, ho', hd0⟩ fun h' hc' hsb => ?_
  refine el_1_2 hc' fun o1 ho1 hd1 => ?_
  refine el_0_2 (R.setObj (o' := .cell (some a)) (h' := h') hc (.head _) ho' (fun _ _ q => by rw [hd0] at q; cases q) hsb.extBut ⟨o1, ho1⟩ (fun hz => ⟨o1, ho1, v, hd1, d.mono hz (.refl _)⟩) s.toks) fun R' e' => ?_
  exact ⟨ρ, _, e', R', h⟩
theorem JS_Assign {x : Str} {e : Expr} {p q : Pos} {K : KF} (hs : swapsWith e (some (.Name x q)) p.line C.env = pure false) (h : J W C e (fun a σ₁ => SetN W C x a (fun σ₂ => K .next σ₂) X σ₁) X σ) : JS W C (.Assign [.Name x q] e p) K X σ := fun B ρ s R => by
  refine wpAny_Assign_Name (wpAny_mono (h B ρ s R) (fun v s1 h1 => ?_) fun _ _ x => x.low _) hs
  refine h1.el fun ρ1 a σ1 e1 R1 d1 k1 => ?_
  exact wpAny_mono (k1 B ρ1 s1 v R1 d1) (fun _ s2 hP => hP.el fun ρ2 σ2 e2 R2 k2 => ⟨ρ2, .next, σ2, (e1.trans e2).low _, R2, trivial, k2⟩) fun _ _ x => (x.ext e1).low _
noncomputable def GetN (W : Wd) (C : Ctx) (x : Str) (K : KA) (X : KX) (σ : St) : Prop := ∀ B ρ s, Rep W C B ρ σ s → JV W C (loadName C.env x) K X B ρ s
theorem GetN_local {x : Str} {i : Nat} {a : AV} (hk : C.env.scope.kind = .function) (hl : Loc C.env.scope x i .local) (hv : σ.vars[i]? = some (.v a)) (h : K a σ) : GetN W C x K X σ := fun _ _ _ R => loadName_local hk hl hv h R
theorem JS_AugAssign {x : Str} {e : Expr} {op : Operator} {p q : Pos} {K : KF} (h : GetN W C x (fun a σ₁ => J W C e (fun b σ₂ => Op2 W C (inplaceOp op) a b (fun c σ₃ => SetN W C x c (fun σ₄ => K .next σ₄) X σ₃) X σ₂) X σ₁) X σ) : JS W C (.AugAssign (.Name x q) op e p) K X σ := fun B ρ s R => by
  refine wpAny_AugAssign_Name (wpAny_mono (h B ρ s R) (fun v s1 h1 => ?_) fun _ _ x => x.low _)
  refine h1.el fun ρ1 a σ1 e1 R1 d1 k1 => ?_
  refine wpAny_mono (k1 B ρ1 s1 R1) (fun u s2 h2 => ?_) fun _ _ x => (x.ext e1).low _
  refine h2.el fun ρ2 b σ2 e2 R2 d2 k2 => ?_
  refine wpAny_mono (k2 B ρ2 s2 v u R2 (d1.ext e2) d2) (fun _ s3 h3 => ?_) fun _ _ x => (x.ext (e1.trans e2)).low _
  refine h3.el fun ρ3 c σ3 e3 R3 d3 k3 => ?_
  exact wpAny_mono (k3 B ρ3 s3 _ R3 d3) (fun _ s4 hP => hP.el fun ρ4 σ4 e4 R4 k4 => ⟨ρ4, .next, σ4, (((e1.trans e2).trans e3).trans e4).low _, R4, trivial, k4⟩) fun _ _ x => (x.ext ((e1.trans e2).trans e3)).low _
end
end
section
noncomputable abbrev KL := List AV → St → Prop
section
variable (W : Wd) (C : Ctx)
noncomputable def PostL (B : Base) (ρ₀ : Rho) (s₀ : Shared) (K : KL) : List Value → Shared → Prop := fun vs s => ∃ ρ as σ, Ext ρ₀ s₀ ρ s ∧ Rep W C B ρ σ s ∧ DenL ρ s.heap as vs ∧ K as σ
theorem PostL.el {W : Wd} {C : Ctx} {B : Base} {ρ₀ : Rho} {s₀ s : Shared} {P : Prop} {K : KL} {v : List Value} (h : PostL W C B ρ₀ s₀ K v s) (k : ∀ ρ as σ, Ext ρ₀ s₀ ρ s → Rep W C B ρ σ s → DenL ρ s.heap as v → K as σ → P) : P := by
  refine el_3_4 h fun ρ a σ e R d x => ?_; exact k ρ a σ e R d x
noncomputable def JEs : List Expr → KL → KX → St → Prop
  | [], K, _, σ => K [] σ
  | e :: r, K, X, σ => J W C e (fun a σ₁ => JEs r (fun as σ₂ => K (a :: as) σ₂) X σ₁) X σ
noncomputable def JKs : List Keyword → KL → KX → St → Prop
  | [], K, _, σ => K [] σ
  | ⟨_, e, _⟩ :: r, K, X, σ => J W C e (fun a σ₁ => JKs r (fun as σ₂ => K (a :: as) σ₂) X σ₁) X σ
end
noncomputable def notStar : Expr → Bool
  | .Starred .. => false
  | _ => true
theorem starEach_one (env : Env) (e : Expr) (r : List Expr) (h : notStar e = true) : starEach (e :: r) env = (false, eval e env) :: starEach r env := by
  cases e <;> first | rfl | exact (Bool.false_ne_true h).elim
theorem starEach_plain (env : Env) (es : List Expr) (h : es.all notStar = true) : starEach es env = es.map fun e => (false, eval e env) := by
  induction es with
  | nil => rfl
  | cons e r ih =>
    rw [List.all_cons, Bool.and_eq_true] at h
    rw [starEach_one env e r h.1, ih h.2]; rfl
theorem backTo_plain (pos : Pos) (env : Env) (es : List Expr) : backTo pos (es.map fun e => (false, eval e env)) = es.map fun e => (false, eval e env) := by
  unfold backTo
  rw [List.map_map]
  rfl
section
variable {W : Wd} {C : Ctx} {B : Base} {ρ ρ₀ : Rho} {σ : St} {s s₀ : Shared} {K : KA} {X : KX}
theorem spliced_JEs : ∀ {es : List Expr} {K : KL} {σ : St} {ρ : Rho} {s : Shared}, JEs W C es K X σ → Rep W C B ρ σ s → wpAny (model W.prog W.w) C.A (spliced (es.map fun e => (false, eval e C.env))) (PostL W C B ρ s K) (PostX W C B ρ s X) s
  | [], K, σ, ρ, s, h, R => Calls.spliced_nil ⟨ρ, [], σ, .refl _ _, R, .nil, h⟩
  | e :: r, K, σ, ρ, s, h, R => by
    refine Calls.spliced_cons (wpAny_mono (h B ρ s R) (fun v s1 hP => hP.el fun ρ1 a σ1 e1 R1 d1 k1 => ?_) fun _ _ x => x)
    exact wpAny_mono (spliced_JEs k1 R1) (fun vs s2 hP => hP.el fun ρ2 as σ2 e2 R2 d2 k2 => ⟨ρ2, a :: as, σ2, e1.trans e2, R2, (.cons (d1.ext e2) d2), k2⟩) fun _ _ x => x.ext e1
theorem evalAll_cons' {M : Model} {A : Around} {E : Value → Shared → Prop} {s : Shared} {x : Sem Value} {rest : List (Sem Value)} {Q : List Value → Shared → Prop}
    (h : wpAny M A x (fun v s₁ => wpAny M A (evalAll rest) (fun vs s₂ => Q (v :: vs) s₂) E s₁) E s) : wpAny M A (evalAll (x :: rest)) Q E s := by
  rw [evalAll]
  refine wpAny_bind (wpAny_mono h (fun v s₁ h₁ => ?_) fun _ _ x => x)
  exact wpAny_bind (wpAny_holding (wpAny_mono h₁ (fun vs s₂ h₂ => wpAny_pure h₂) fun _ _ x => x))
theorem evalAll_JKs {pos : Pos} {ks : List Keyword} : ∀ {K : KL} {σ : St} {ρ : Rho} {s : Shared}, JKs W C ks K X σ → Rep W C B ρ σ s →
    wpAny (model W.prog W.w) C.A (evalAll ((backToKw pos (keywordEach ks C.env)).map (·.2))) (PostL W C B ρ s K) (PostX W C B ρ s X) s := by
  induction ks with
  | nil => intro K σ ρ s h R; exact wpAny_pure ⟨ρ, [], σ, .refl _ _, R, .nil, h⟩
  | cons kw r ih =>
    intro K σ ρ s h R
    cases kw with
    | mk n e q =>
    show wpAny _ _ (evalAll ((do let v ← eval e C.env; standAt pos; pure v) :: (backToKw pos (keywordEach r C.env)).map (·.2))) _ _ s
    refine evalAll_cons' (wpAny_bind (wpAny_mono (h B ρ s R) (fun v s1 hP => hP.el fun ρ1 a σ1 e1 R1 d1 k1 => wpAny_bind (wpAny_standAt (wpAny_pure ?_))) fun _ _ x => x))
    exact wpAny_mono (ih k1 R1) (fun vs s2 hP => hP.el fun ρ2 as σ2 e2 R2 d2 k2 => ⟨ρ2, a :: as, σ2, e1.trans e2, R2, (.cons (d1.ext e2) d2), k2⟩) fun _ _ x => x.ext e1
noncomputable def kwNames : List Keyword → List Str
  | [] => []
  | ⟨some n, _, _⟩ :: r => n :: kwNames r
  | ⟨none, _, _⟩ :: r => kwNames r
noncomputable def allNamed : List Keyword → Bool
  | [] => true
  | ⟨some _, _, _⟩ :: r => allNamed r
  | ⟨none, _, _⟩ :: _ => false
theorem keywordEach_names (pos : Pos) (env : Env) : ∀ ks : List Keyword, allNamed ks = true → (backToKw pos (keywordEach ks env)).filterMap (·.1) = kwNames ks ∧ (backToKw pos (keywordEach ks env)).all (·.1.isSome) = true
  | [], _ => ⟨rfl, rfl⟩
  | ⟨some n, e, q⟩ :: r, h => by
    refine el_0_2 (keywordEach_names pos env r h) fun a b => ?_
    refine ⟨?_, ?_⟩
    · show n :: (backToKw pos (keywordEach r env)).filterMap (·.1) = _; rw [a]; rfl
    · show (true && (backToKw pos (keywordEach r env)).all (·.1.isSome)) = true; rw [b]; rfl
theorem evalArgs_plainAll {M : Model} {A : Around} {E : Value → Shared → Prop} {s : Shared} {f : Value} {env : Env} {es : List Expr} {kws : List (Option Str × Sem Value)} {Q : Args → Shared → Prop} (hk : kws.all (·.1.isSome) = true)
    (h : wpAny M A (spliced (es.map fun e => (false, eval e env))) (fun vs s₁ => wpAny M A (evalAll (kws.map (·.2))) (fun us s₂ => Q ⟨vs, (kws.filterMap (·.1)).zip us⟩ s₂) E s₁) E s) :
    wpAny M A (evalArgs f true (es.map fun e => (false, eval e env)) kws) Q E s := by
  have tail : ∀ {vs : List Value} {s1 : Shared}, wpAny M A (evalAll (kws.map (·.2))) (fun us s₂ => Q ⟨vs, (kws.filterMap (·.1)).zip us⟩ s₂) E s1 → wpAny M A (evalAll (kws.map (·.2)) >>= fun us => (pure vs : Sem (List Value)) >>= fun ps => (pure ⟨ps, (kws.filterMap (·.1)).zip us⟩ : Sem Args)) Q E s1 := fun h1 =>
    wpAny_bind (wpAny_mono h1 (fun us s2 h2 => wpAny_bind (wpAny_pure (wpAny_pure h2))) fun _ _ x => x)
  unfold evalArgs
  cases es with
  | nil =>
    show wpAny M A (spliced [] >>= _) Q E s
    refine wpAny_bind (wpAny_mono h (fun vs s1 h1 => ?_) fun _ _ x => x)
    refine wpAny_holding ?_
    simp only [hk, if_true]
    exact tail h1
  | cons e r =>
    cases r with
    | nil =>
      show wpAny M A (spliced [(false, eval e env)] >>= _) Q E s
      refine wpAny_bind (wpAny_mono h (fun vs s1 h1 => ?_) fun _ _ x => x)
      refine wpAny_holding ?_
      simp only [hk, if_true]
      exact tail h1
    | cons e' r =>
      show wpAny M A (spliced ((false, eval e env) :: (false, eval e' env) :: r.map fun e => (false, eval e env)) >>= _) Q E s
      refine wpAny_bind (wpAny_mono h (fun vs s1 h1 => ?_) fun _ _ x => x)
      refine wpAny_holding ?_
      simp only [hk, if_true]
      exact tail h1
noncomputable def JCallV (W : Wd) (C : Ctx) (f : Value) (as : List AV) (names : List Str) (bs : List AV) (K : KA) (X : KX) (σ : St) : Prop :=
  ∀ B ρ s vs us, Rep W C B ρ σ s → DenL ρ s.heap as vs → DenL ρ s.heap bs us → JV W C (call f vs (names.zip us)) K X B ρ s
noncomputable def Keeper1 (W : Wd) (f : Value) : Prop := ∀ (M : Model) (h : Heap), (∀ b o, W.h1.get? b = some o → h.get? b = some o) → ∃ k, (k = Keeper.frame ∨ k = Keeper.machine ∨ k = Keeper.boundFrame) ∧ Looks M h (keeperOf f) k
theorem keeper_builtin (id : String) : Keeper1 W (.builtin id) := fun _ _ _ => ⟨.machine, .inr (.inl rfl), Looks.of_pure rfl⟩
theorem keeper_type (id : String) : Keeper1 W (.type id) := fun _ _ _ => ⟨.machine, .inr (.inl rfl), Looks.of_pure rfl⟩
theorem keeper_K {K : Frag} {f : Value} (X : K.In W.h1) (h : keepIn K f = true) : Keeper1 W f := fun M h' k => by
  refine el_1_2 (looks_keep (M := M) (h := h') h (X.keeps k)) fun a b c => ?_
  exact ⟨a, b.elim .inl (fun x => .inr (.inl x)), c⟩
theorem callWith_J {pos : Pos} {f : Value} {first : List AV} {vs₀ : List Value} {es : List Expr} {ks : List Keyword} (hs : es.all notStar = true) (hk : allNamed ks = true) (kp : Keeper1 W f)
    (h : JEs W C es (fun as σ₁ => JKs W C ks (fun bs σ₂ => JCallV W C f (first ++ as) (kwNames ks) bs K X σ₂) X σ₁) X σ) (R : Rep W C B ρ σ s) (d : DenL ρ s.heap first vs₀) :
    JV W C (callWith pos f vs₀ (backTo pos (starEach es C.env)) (backToKw pos (keywordEach ks C.env))) K X B ρ s := by
  refine el_0_2 (keywordEach_names pos C.env ks hk) fun kn ka => ?_
  rw [starEach_plain _ _ hs, backTo_plain]
  refine callWith_of (P := fun h => ∀ b o, W.h1.get? b = some o → h.get? b = some o) ?_ (fun h hp => kp _ h hp) (evalArgs_plainAll ka ?_)
  · have h1 : ((es.map fun e => (false, eval e C.env)).any (·.1)) = false := by simp
    have h2 : (backToKw pos (keywordEach ks C.env)).any (·.1.isNone) = false := by
      rw [List.any_eq_false]
      intro x hx
      have := List.all_eq_true.mp ka x hx
      cases hx1 : x.1 with
      | none => rw [hx1] at this; cases this
      | some _ => simp
    rw [h1, h2]; rfl
  · refine wpAny_mono (spliced_JEs h R) (fun vs s1 hP => hP.el fun ρ1 as σ1 e1 R1 d1 k1 => ?_) fun _ _ x => x
    refine wpAny_mono (evalAll_JKs k1 R1) (fun us s2 hP => hP.el fun ρ2 bs σ2 e2 R2 d2 k2 => ⟨R2.top, ?_⟩) fun _ _ x => x.ext e1
    rw [kn]
    have e := e1.trans e2
    exact wpAny_mono (k2 B ρ2 s2 _ _ R2 (DenL.append (d.ext e) (d1.ext e2)) d2) (fun _ _ x => x.ext e) fun _ _ x => x.ext e
theorem J_Call {f : Expr} {es : List Expr} {ks : List Keyword} {pos : Pos} {fv : Value} (hf : ∀ env, eval (.Call f es ks pos) env = (do callWith pos (← eval f env) [] (backTo pos (starEach es env)) (backToKw pos (keywordEach ks env))))
    (hs : es.all notStar = true) (hk : allNamed ks = true) (kp : Keeper1 W fv)
    (h : J W C f (fun a σ₁ => a = .con fv ∧ JEs W C es (fun as σ₂ => JKs W C ks (fun bs σ₃ => JCallV W C fv as (kwNames ks) bs K X σ₃) X σ₂) X σ₁) X σ) : J W C (.Call f es ks pos) K X σ := fun B ρ s R => by
  unfold JV
  rw [hf]
  refine wpAny_bind (wpAny_mono (h B ρ s R) (fun v s1 hP => hP.el fun ρ1 a σ1 e1 R1 d1 hQ1 => ?_) fun _ _ x => x)
  refine el_0_2 hQ1 fun ea k1 => ?_
  subst ea
  obtain rfl := d1.iCon
  exact wpAny_mono (callWith_J (first := []) hs hk kp k1 R1 .nil) (fun _ _ x => x.ext e1) fun _ _ x => x.ext e1
theorem callForm_name {x : Str} {p pos : Pos} {es : List Expr} {ks : List Keyword} : ∀ env, eval (.Call (.Name x p) es ks pos) env = (do callWith pos (← eval (.Name x p) env) [] (backTo pos (starEach es env)) (backToKw pos (keywordEach ks env))) := fun _ => rfl
noncomputable def GetM (W : Wd) (C : Ctx) (a : AV) (name : Str) (f : Value) (first : List AV) (σ : St) : Prop :=
  ∀ (B : Base) (ρ : Rho) (s : Shared) (v : Value) (pl : Sem Bool) (E : Value → Shared → Prop) (Q : Value × List Value → Shared → Prop), Rep W C B ρ σ s → DenA ρ s.heap a v → (∀ us tk, DenL ρ s.heap first us → Q (f, us) { s with toks := tk }) → wpAny (model W.prog W.w) C.A (getMethod v name pl) Q E s
theorem J_Method {o : Expr} {name : Str} {apos pos : Pos} {es : List Expr} {ks : List Keyword} (hb : ∀ t, attributeBase o name C.env t = t) (hfew : decide (es.length + ks.length + (if ks.isEmpty then 0 else 1) < 30) = true) (hline : (apos.endLine == pos.line) = true)
    (hs : es.all notStar = true) (hk : allNamed ks = true)
    (h : J W C o (fun a σ₁ => ∃ f first, GetM W C a name f first σ₁ ∧ Keeper1 W f ∧ JEs W C es (fun as σ₂ => JKs W C ks (fun bs σ₃ => JCallV W C f (first ++ as) (kwNames ks) bs K X σ₃) X σ₂) X σ₁) X σ) : J W C (.Call (.Attribute o name apos) es ks pos) K X σ := fun B ρ s R => by
  unfold JV
  rw [arm_eval_Call, hb]
  refine wpAny_bind (wpAny_mono (h B ρ s R) (fun v s1 hP => hP.el fun ρ1 a σ1 e1 R1 d1 ⟨f, first, g, kp, k1⟩ => wpAny_bind (wpAny_standAt ?_)) fun _ _ x => x)
  refine el_0_2 (keywordEach_names pos C.env ks hk) fun kn ka => ?_
  have hform : methodCallForm (es.length + ks.length) (backTo pos (starEach es C.env)) (backToKw pos (keywordEach ks C.env)) = true := by
    unfold methodCallForm
    have h1 : (backTo pos (starEach es C.env)).all (fun x => !x.1) = true := by rw [starEach_plain _ _ hs, backTo_plain]; simp
    have h2 : (backToKw pos (keywordEach ks C.env)).isEmpty = ks.isEmpty := by
      cases ks with
      | nil => rfl
      | cons k r => cases k; rfl
    rw [h1, ka, h2]; exact hfew
  have hpos : methodCallPos true o C.env apos pos = pure pos := by unfold methodCallPos; simp [hline]
  unfold methodCall calleeOf
  rw [hform]
  refine wpAny_bind (wpAny_holding (g B ρ1 s1 v _ _ _ R1 d1 fun us tk du => ?_))
  refine wpAny_bind (wpAny_of_eq hpos ?_)
  have R2 : Rep W C B ρ1 σ1 { s1 with toks := tk } := R1.grow fun _ _ e => e
  have e2 : Ext ρ1 s1 ρ1 { s1 with toks := tk } := ⟨.refl _, .refl _⟩
  exact wpAny_mono (callWith_J hs hk kp k1 R2 du) (fun _ _ x => x.ext (e1.trans e2)) fun _ _ x => x.ext (e1.trans e2)
end
end
noncomputable def cellsOf (n : Nat) : List (Str × NameKind) → List (Str × Addr)
  | [] => []
  | (x, kd) :: r => if kd == .cell then (x, n) :: cellsOf (n + 1) r else cellsOf n r
theorem cellsFrom_eq : ∀ (names : List (Str × NameKind)) (n : Nat) (acc : List (Str × Addr)), cellsFrom n names acc = (cellsOf n names).reverse ++ acc
  | [], _, _ => rfl
  | (x, kd) :: r, n, acc => by
    unfold cellsFrom cellsOf
    split
    · rw [cellsFrom_eq r]; simp
    · rw [cellsFrom_eq r]
theorem cellsOf_keys : ∀ (names : List (Str × NameKind)) (n : Nat), ((cellsOf n names).map (·.1)).Sublist (names.map (·.1))
  | [], _ => .slnil
  | (x, kd) :: r, n => by
    unfold cellsOf
    split
    · exact (cellsOf_keys r (n + 1)).cons_cons x
    · exact (cellsOf_keys r n).cons x
theorem cellsOf_mem : ∀ (names : List (Str × NameKind)) (n : Nat) {x : Str} {c : Addr}, (x, c) ∈ cellsOf n names → (x, NameKind.cell) ∈ names
  | [], _, _, _, h => nomatch h
  | (y, kd) :: r, n, x, c, h => by
    unfold cellsOf at h
    split at h
    · rename_i q
      have : kd = .cell := by simpa using q
      rcases List.mem_cons.mp h with e | h
      · cases e; rw [this]; exact .head _
      · exact .tail _ (cellsOf_mem r _ h)
    · exact .tail _ (cellsOf_mem r _ h)
theorem cellsOf_of_mem : ∀ (names : List (Str × NameKind)) (n : Nat) {x : Str}, (x, NameKind.cell) ∈ names → ∃ c, (x, c) ∈ cellsOf n names
  | (y, kd) :: r, n, x, h => by
    unfold cellsOf
    split
    · rcases List.mem_cons.mp h with e | h
      · cases e; exact ⟨n, .head _⟩
      · refine el_1_1 (cellsOf_of_mem r (n + 1) h) fun c hc => ?_; exact ⟨c, .tail _ hc⟩
    · rename_i hz
      rcases List.mem_cons.mp h with e | h
      · cases e; exact absurd rfl hz
      · exact cellsOf_of_mem r n h
theorem lookup_of_mem {α β : Type} [BEq α] [LawfulBEq α] : ∀ {l : List (α × β)} {x : α} {c : β}, (l.map (·.1)).Nodup → (x, c) ∈ l → l.lookup x = some c
  | (y, d) :: r, x, c, hn, hm => by
    rw [List.map_cons, List.nodup_cons] at hn
    rcases List.mem_cons.mp hm with e | hm
    · cases e; simp [List.lookup_cons]
    · have : x ≠ y := fun e => hn.1 (e ▸ List.mem_map_of_mem (f := (·.1)) hm)
      rw [List.lookup_cons, beq_eq_false_iff_ne.mpr this]
      exact lookup_of_mem hn.2 hm
noncomputable def mkSlots (binds : List (Str × AV)) : List (Str × NameKind) → Nat → List VS
  | [], _ => []
  | (x, kd) :: r, k => match kd with
    | .cell => .cell k :: mkSlots binds r (k + 1)
    | .local => (match binds.lookup x with | some a => .v a | none => .non) :: mkSlots binds r k
    | _ => .non :: mkSlots binds r k
noncomputable def mkCells (binds : List (Str × AV)) : List (Str × NameKind) → List AObj
  | [] => []
  | (x, kd) :: r => match kd with
    | .cell => .cell (binds.lookup x) :: mkCells binds r
    | _ => mkCells binds r
theorem slots_ok {ρ : Rho} {h : Heap} {env : Env} {m : Str → Option Value} {binds : List (Str × AV)} (names : List (Str × NameKind)) : ∀ (n k : Nat),
    (∀ x c, (x, c) ∈ cellsOf n names → env.cells.lookup x = some c) → (∀ (j : Nat) x c, (cellsOf n names)[j]? = some (x, c) → ρ[k + j]? = some ⟨c, [], []⟩) →
    (∀ x a, (x, NameKind.local) ∈ names → binds.lookup x = some a → ∃ v, m x = some v ∧ DenA ρ h a v) →
    ∀ (i : Nat) (x : Str) (kd : NameKind), names[i]? = some (x, kd) → ∀ sl : VS, (mkSlots binds names k)[i]? = some sl → SlotOK ρ h env m x kd sl := by
  induction names with
  | nil => intro _ _ _ _ _ i x kd e; cases e
  | cons p r ih =>
    intro n k h1 h2 h3 i x kd e sl e'
    obtain ⟨y, kd'⟩ := p
    cases kd' with
    | cell =>
      have hc : cellsOf n ((y, NameKind.cell) :: r) = (y, n) :: cellsOf (n + 1) r := by rw [cellsOf]; rfl
      rw [hc] at h1 h2
      cases i with
      | zero =>
        cases e
        have e2 : some (VS.cell k) = some sl := e'
        cases e2
        exact ⟨.inl rfl, ⟨n, [], []⟩, h1 _ _ (.head _), h2 0 _ _ rfl⟩
      | succ i =>
        refine ih (n + 1) (k + 1) (fun x c hm => h1 x c (.tail _ hm)) (fun j x c hj => ?_) (fun x a hm => h3 x a (.tail _ hm)) i x kd e sl e'
        have := h2 (j + 1) x c hj
        rwa [Nat.add_assoc, Nat.add_comm 1 j]
    | «local» =>
      have hc : cellsOf n ((y, NameKind.local) :: r) = cellsOf n r := by
        rw [cellsOf]; rfl
      rw [hc] at h1 h2
      cases i with
      | zero =>
        cases e
        have e2 : some (match binds.lookup x with | some a => VS.v a | none => .non) = some sl := e'
        cases q : binds.lookup x with
        | none => rw [q] at e2; cases e2; trivial
        | some a =>
          rw [q] at e2; cases e2
          refine el_1_2 (h3 x a (.head _) q) fun v hv hd => ?_
          exact ⟨rfl, v, hv, hd⟩
      | succ i => exact ih n k h1 h2 (fun x a hm => h3 x a (.tail _ hm)) i x kd e sl e'
    | _ =>
      have hc : ∀ kd'' : NameKind, (kd'' == NameKind.cell) = false → cellsOf n ((y, kd'') :: r) = cellsOf n r := fun kd'' q => by
        rw [cellsOf, if_neg (by rw [q]; simp)]
      rw [hc _ (by rfl)] at h1 h2
      cases i with
      | zero =>
        have e2 : some VS.non = some sl := e'
        cases e2; trivial
      | succ i => exact ih n k h1 h2 (fun x a hm => h3 x a (.tail _ hm)) i x kd e sl e'
theorem mkCells_get {binds : List (Str × AV)} : ∀ (names : List (Str × NameKind)) (n : Nat) (j : Nat) (o : AObj), (mkCells binds names)[j]? = some o → ∃ x c, (cellsOf n names)[j]? = some (x, c) ∧ o = .cell (binds.lookup x)
  | [], _, _, _, e => by simp [mkCells] at e
  | (y, kd) :: r, n, j, o, e => by
    cases kd with
    | cell =>
      have hc : cellsOf n ((y, NameKind.cell) :: r) = (y, n) :: cellsOf (n + 1) r := by rw [cellsOf]; rfl
      rw [hc]
      cases j with
      | zero => cases e; exact ⟨y, n, rfl, rfl⟩
      | succ j => exact mkCells_get r (n + 1) j o e
    | _ =>
      have hc : ∀ kd'' : NameKind, (kd'' == NameKind.cell) = false → cellsOf n ((y, kd'') :: r) = cellsOf n r := fun kd'' q => by
        rw [cellsOf, if_neg (by rw [q]; simp)]
      rw [hc _ (by rfl)]
      exact mkCells_get r n j o e
theorem mkCells_length {binds : List (Str × AV)} : ∀ (names : List (Str × NameKind)) (n : Nat), (mkCells binds names).length = (cellsOf n names).length
  | [], _ => rfl
  | (y, kd) :: r, n => by
    cases kd with
    | cell =>
      have hc : cellsOf n ((y, NameKind.cell) :: r) = (y, n) :: cellsOf (n + 1) r := by rw [cellsOf]; rfl
      rw [hc]; show _ + 1 = _ + 1; rw [mkCells_length r (n + 1)]
    | _ =>
      have hc : ∀ kd'' : NameKind, (kd'' == NameKind.cell) = false → cellsOf n ((y, kd'') :: r) = cellsOf n r := fun kd'' q => by
        rw [cellsOf, if_neg (by rw [q]; simp)]
      rw [hc _ (by rfl)]
      exact mkCells_length r n
noncomputable def DenB (ρ : Rho) (h : Heap) : List (Str × AV) → List (Str × Value) → Prop
  | [], [] => True
  | (x, a) :: as, (y, v) :: vs => x = y ∧ DenA ρ h a v ∧ DenB ρ h as vs
  | _, _ => False
theorem DenB.lookup {ρ : Rho} {h : Heap} : ∀ {as : List (Str × AV)} {vs : List (Str × Value)}, DenB ρ h as vs → ∀ {x : Str}, (∀ a, as.lookup x = some a → ∃ v, vs.lookup x = some v ∧ DenA ρ h a v) ∧ (as.lookup x = none → vs.lookup x = none)
  | [], [], _, x => ⟨fun a e => (nomatch (e : (none : Option AV) = some a)), fun _ => rfl⟩
  | (y, a) :: as, (_, v) :: vs, ⟨rfl, d, r⟩, x => by
    rw [List.lookup_cons, List.lookup_cons]
    cases q : x == y with
    | true => exact ⟨fun a' e => by cases e; exact ⟨v, rfl, d⟩, fun e => (nomatch e)⟩
    | false => exact DenB.lookup r
theorem DenB.keys {ρ : Rho} {h : Heap} {as : List (Str × AV)} : ∀ {vs : List (Str × Value)}, DenB ρ h as vs → vs.map (·.1) = as.map (·.1) := by
  induction as with
  | nil => intro vs d; cases vs with
    | nil => rfl
    | cons _ _ => exact d.elim
  | cons p as ih => intro vs d; cases vs with
    | nil => exact d.elim
    | cons q vs => rw [List.map_cons, List.map_cons, ih d.2.2]; exact congrArg (· :: _) (d.1 : p.1 = q.1).symm
theorem bindL_at {kindOf : Str → Option NameKind} : ∀ (binds : List (Str × Value)) (m : Str → Option Value) (x : Str), (binds.map (·.1)).Nodup → kindOf x = some .local → bindL kindOf binds m x = (match binds.lookup x with | some v => some v | none => m x)
  | [], m, x, _, _ => rfl
  | (y, v) :: r, m, x, hn, hk => by
    rw [List.map_cons, List.nodup_cons] at hn
    rw [bindL, bindL_at r _ x hn.2 hk, List.lookup_cons]
    by_cases q : x = y
    · subst q
      have : r.lookup x = none := by
        cases e : r.lookup x with
        | none => rfl
        | some c => exact absurd (List.mem_map_of_mem (f := (·.1)) (mem_of_lookup e)) hn.1
      rw [this]; simp [hk]
    · rw [beq_eq_false_iff_ne.mpr q]
      cases r.lookup x with
      | some _ => rfl
      | none => dsimp only; split <;> simp [q]
theorem bindC_at {kindOf : Str → Option NameKind} : ∀ (binds : List (Str × Value)) (m : Str → Option Value) (x : Str), (binds.map (·.1)).Nodup → kindOf x ≠ some .local → bindC kindOf binds m x = (match binds.lookup x with | some v => some v | none => m x)
  | [], m, x, _, _ => rfl
  | (y, v) :: r, m, x, hn, hk => by
    rw [List.map_cons, List.nodup_cons] at hn
    rw [bindC, bindC_at r _ x hn.2 hk, List.lookup_cons]
    by_cases q : x = y
    · subst q
      have : r.lookup x = none := by
        cases e : r.lookup x with
        | none => rfl
        | some c => exact absurd (List.mem_map_of_mem (f := (·.1)) (mem_of_lookup e)) hn.1
      rw [this]; simp [hk]
    · rw [beq_eq_false_iff_ne.mpr q]
      cases r.lookup x with
      | some _ => rfl
      | none => dsimp only; split <;> simp [q]
section
structure FnFacts (W : Wd) (f : Addr) (fd : FuncData) (body : List Stmt) : Prop where
  at_ : ∃ fo, W.h1.get? f = some fo ∧ fo.data = .func fd
  body : fd.body = .stmts body
  clo : fd.closure = []
  kind : fd.scope.kind = .function
  co : fd.scope.isCoroutine = false
  gen : fd.scope.isGenerator = false
  code : W.h1.CodeRec fd.code fd.qualname
  nd : (fd.scope.names.map (·.1)).Nodup
  lim : W.h1.NoLimit
section
variable {W : Wd} {C : Ctx} {B : Base} {ρ ρ₀ : Rho} {σ : St} {s s₀ : Shared} {K : KA} {X : KX}
theorem frAddr_deeper {A : Around} {env : Env} {b : Addr} (h : frAddr (A.deeper env) b) : env.frame = some b ∨ frAddr A b := by
  refine el_2_3 h fun l e h1 h2 h3 => ?_
  have h1' : A.frames.map (env :: ·) = some l := h1
  cases q : A.frames with
  | none => rw [q] at h1'; cases h1'
  | some l₀ =>
    rw [q] at h1'
    cases h1'
    rcases List.mem_cons.mp h2 with rfl | h2
    · exact .inl h3
    · exact .inr ⟨l₀, e, q, h2, h3⟩
theorem frAddr_up {A : Around} {env : Env} {b : Addr} (h : frAddr A b) : frAddr (A.deeper env) b := by
  refine el_2_3 h fun l e h1 h2 h3 => ?_
  exact ⟨env :: l, e, by show A.frames.map _ = _; rw [h1]; rfl, .tail _ h2, h3⟩
structure Like (A A' : Around) : Prop where
  frames : A.frames = A'.frames
  handled : A.handled = A'.handled
theorem Like.refl (A : Around) : Like A A := ⟨rfl, rfl⟩
theorem Like.fr {A A' : Around} (h : Like A A') {b : Addr} : frAddr A b ↔ frAddr A' b := by unfold frAddr; rw [h.frames]
noncomputable def bodyCtx (C : Ctx) (A : Around) (env' : Env) (n : Nat) : Ctx := ⟨A.deeper env', env', n, C.hcls, C.hclean⟩
theorem Rep.enter {fd : FuncData} {f : Addr} {binds : List (Str × Value)} {ab : List (Str × AV)} {s₁ : Shared} {A : Around} (R : Rep W C B ρ σ s) (hA : Like A C.A)
    (hnd : (fd.scope.names.map (·.1)).Nodup) (hkeys : (ab.map (·.1)).Nodup) (hd : DenB ρ s.heap ab binds)
    (x : InCallC s (callEnvC fd s.heap.objs.size f).locals (bindL (callEnvC fd s.heap.objs.size f).kindOf binds fun _ => none) (callEnvC fd s.heap.objs.size f).cells
        (bindC (callEnvC fd s.heap.objs.size f).kindOf binds fun _ => none) s₁) :
    Rep W (bodyCtx C A (callEnvC fd s.heap.objs.size f) ρ.length) (baseOf (rhoAs ρ) ρ s) (ρ ++ (cellsOf (s.heap.objs.size + 1) fd.scope.names).map fun c => ⟨c.2, [], []⟩) ⟨mkSlots ab fd.scope.names ρ.length, σ.objs ++ mkCells ab fd.scope.names⟩ s₁ ∧
      Ext ρ s (ρ ++ (cellsOf (s.heap.objs.size + 1) fd.scope.names).map fun c => ⟨c.2, [], []⟩) s₁ := by
  have hk : ∀ b o, s.heap.get? b = some o → s₁.heap.get? b = some o := x.toInCall.keep
  have hz : Frz s.heap s₁.heap := .ofExt hk
  have hle := RhoLe.append ρ ((cellsOf (s.heap.objs.size + 1) fd.scope.names).map fun c => (⟨c.2, [], []⟩ : Own))
  refine el_2_1 x.toInCall.same fun h' tk es => ?_
  have hgens : s₁.gens = s.gens := by rw [es]
  have hos : s₁.os = s.os := by rw [es]
  have ecells : (callEnvC fd s.heap.objs.size f).cells = (cellsOf (s.heap.objs.size + 1) fd.scope.names).reverse := by
    show cellsFrom (s.heap.objs.size + 1) fd.scope.names [] = _
    rw [cellsFrom_eq, List.append_nil]
  have eloc : (callEnvC fd s.heap.objs.size f).locals = s.heap.objs.size := rfl
  have esc : (callEnvC fd s.heap.objs.size f).scope = fd.scope := rfl
  have ckeys : ((cellsOf (s.heap.objs.size + 1) fd.scope.names).map (·.1)).Nodup := hnd.sublist (cellsOf_keys _ _)
  have hlook : ∀ y c, (y, c) ∈ cellsOf (s.heap.objs.size + 1) fd.scope.names → (callEnvC fd s.heap.objs.size f).cells.lookup y = some c := fun y c hm => by
    rw [ecells]
    exact lookup_of_mem (by rw [List.map_reverse]; exact (List.reverse_perm _).nodup_iff.mpr ckeys) (List.mem_reverse.mpr hm)
  have habove : ∀ c, c ∈ (cellsOf (s.heap.objs.size + 1) fd.scope.names).map (·.2) → s.heap.objs.size < c := fun c hc => by
    refine el_1_2 (List.mem_map.mp hc) fun hO23 hm hE24 => ?_; obtain ⟨y, c'⟩ := hO23; subst hE24
    exact x.above y c' (by rw [ecells]; exact List.mem_reverse.mpr hm)
  have hcnd : ((cellsOf (s.heap.objs.size + 1) fd.scope.names).map (·.2)).Nodup := by
    have := x.apart
    rw [ecells, List.pairwise_reverse] at this
    refine List.pairwise_map.mpr (this.imp fun h e => h e.symm)
  have eas : rhoAs ((cellsOf (s.heap.objs.size + 1) fd.scope.names).map fun c => (⟨c.2, [], []⟩ : Own)) = (cellsOf (s.heap.objs.size + 1) fd.scope.names).map (·.2) := by
    unfold rhoAs
    rw [List.flatMap_map]
    induction cellsOf (s.heap.objs.size + 1) fd.scope.names with
    | nil => rfl
    | cons a r ih => rw [List.flatMap_cons, List.map_cons, ih]; rfl
  have hcell : ∀ y c, (y, c) ∈ cellsOf (s.heap.objs.size + 1) fd.scope.names → s₁.heap.IsCell c (bindC (callEnvC fd s.heap.objs.size f).kindOf binds (fun _ => none) y) := fun y c hm => x.cell y c (hlook y c hm)
  have hkeys' : (binds.map (·.1)).Nodup := by rw [hd.keys]; exact hkeys
  have hnone : ∀ a, s.heap.objs.size ≤ a → s.heap.get? a = none := fun a ha => by
    cases q : s.heap.get? a with
    | none => rfl
    | some o => exact absurd (Heap.lt_size q) (Nat.not_lt.mpr ha)
  have hold : ∀ a, s.heap.get? a = none → (baseOf (rhoAs ρ) ρ s).h.get? a = none ∧ W.h1.get? a = none := fun a hn => by
    refine ⟨?_, (R.newNot hn).2.2.1⟩
    cases q : (baseOf (rhoAs ρ) ρ s).h.get? a with
    | none => rfl
    | some o => have := of_baseOf q; rw [hn] at this; cases this
  have eown : ownA (bodyCtx C A (callEnvC fd s.heap.objs.size f) ρ.length) (ρ ++ (cellsOf (s.heap.objs.size + 1) fd.scope.names).map fun c => ⟨c.2, [], []⟩) = s.heap.objs.size :: (rhoAs ρ ++ (cellsOf (s.heap.objs.size + 1) fd.scope.names).map (·.2)) := by
    unfold ownA
    rw [rhoAs_append, eas]
    rfl
  have hnew : ∀ a, a ∈ (cellsOf (s.heap.objs.size + 1) fd.scope.names).map (·.2) → s.heap.get? a = none := fun a ha => hnone a (Nat.le_of_lt (habove a ha))
  refine ⟨?_, hle, hz⟩
  exact
    { top := fun b o e => hk b o (R.top b o e)
      keep := fun b o e => .inl (hk b o (of_baseOf e))
      nodup := by
        rw [eown, List.nodup_cons, List.nodup_append]
        refine ⟨fun q => ?_, R.nodupR, hcnd, fun a ha b hb e => ?_⟩
        · rcases List.mem_append.mp q with q | q
          · refine el_1_1 (R.live _ (.tail _ q)) fun o ho => ?_
            exact absurd (Heap.lt_size ho) (Nat.lt_irrefl _)
          · exact absurd (habove _ q) (Nat.lt_irrefl _)
        · subst e
          refine el_1_1 (R.live a (.tail _ ha)) fun o ho => ?_
          rw [hnew a hb] at ho; cases ho
      fresh := fun a ha => by
        rw [eown] at ha
        rcases List.mem_cons.mp ha with rfl | ha
        · exact hold _ (hnone _ (Nat.le_refl _))
        · rcases List.mem_append.mp ha with ha | ha
          · exact ⟨baseOf_none ha, (R.fresh a (.tail _ ha)).2⟩
          · exact hold a (hnew a ha)
      live := fun a ha => by
        rw [eown] at ha
        rcases List.mem_cons.mp ha with rfl | ha
        · refine el_3_2 x.toInCall.ns fun o _ _ q _ => ?_; exact ⟨o, q⟩
        · rcases List.mem_append.mp ha with ha | ha
          · refine el_1_1 (R.live a (.tail _ ha)) fun o ho => ?_; exact ⟨o, hk a o ho⟩
          · refine el_1_2 (List.mem_map.mp ha) fun hO25 hm hE26 => ?_; obtain ⟨y, c⟩ := hO25; subst hE26
            refine el_1_2 (hcell y c hm) fun o ho _ => ?_; exact ⟨o, ho⟩
      frame := ⟨_, x.toInCall.ns, slots_ok fd.scope.names (s.heap.objs.size + 1) ρ.length hlook (fun j y c hj => by
          rw [List.getElem?_append_right (Nat.le_add_right _ _), Nat.add_sub_cancel_left, List.getElem?_map, hj]; rfl)
        (fun y a hm ha => by
          refine el_1_2 (hd.lookup.1 a ha) fun v hv hdv => ?_
          have hkl : (callEnvC fd s.heap.objs.size f).kindOf y = some .local := lookup_of_mem hnd hm
          rw [bindL_at binds _ y hkeys' hkl, hv]
          exact ⟨v, rfl, hdv.mono hz hle⟩)⟩
      len := by
        show (ρ ++ _).length = (σ.objs ++ _).length
        rw [List.length_append, List.length_append, List.length_map, R.len, mkCells_length fd.scope.names (s.heap.objs.size + 1)]
      objs := fun k own o h1 h2 => by
        have h3 : (σ.objs ++ mkCells ab fd.scope.names)[k]? = some o := h2
        by_cases hlt : k < ρ.length
        · rw [List.getElem?_append_left hlt] at h1
          rw [List.getElem?_append_left (by rw [← R.len]; exact hlt)] at h3
          exact (R.objs k own o h1 h3).mono hz hle (fun a _ ob e => hk a ob e) fun g _ x e => by rw [hgens]; exact e
        · have hge : ρ.length ≤ k := Nat.le_of_not_lt hlt
          rw [List.getElem?_append_right hge] at h1
          rw [List.getElem?_append_right (by rw [← R.len]; exact hge), ← R.len] at h3
          refine el_2_2 (mkCells_get fd.scope.names (s.heap.objs.size + 1) _ o h3) fun y c hc hE27 => ?_; subst hE27
          rw [List.getElem?_map, hc] at h1
          cases h1
          have hm := List.mem_of_getElem? hc
          refine el_1_2 (hcell y c hm) fun oc hoc hdc => ?_
          refine ⟨oc, hoc, ?_⟩
          have hkc : (callEnvC fd s.heap.objs.size f).kindOf y ≠ some .local := by
            have hmc : (y, NameKind.cell) ∈ fd.scope.names := cellsOf_mem _ _ hm
            have : fd.scope.names.lookup y = some .cell := lookup_of_mem hnd hmc
            show fd.scope.names.lookup y ≠ _
            rw [this]; simp
          rw [bindC_at binds _ y hkeys' hkc] at hdc
          cases q : ab.lookup y with
          | none => rw [hd.lookup.2 q] at hdc; exact hdc
          | some a =>
            refine el_1_2 (hd.lookup.1 a q) fun v hv hdv => ?_
            rw [hv] at hdc
            exact ⟨v, hdc, hdv.mono hz hle⟩
      gkeep := fun i y e => by
        have e' : (if _ then _ else _) = _ := e
        split at e'
        · cases e'
        · rw [hgens]; exact e'
      gnew := fun o ho g e => by
        rcases List.mem_append.mp ho with ho | ho
        · refine ⟨?_, by rw [hgens]; exact (R.gnew o ho g e).2⟩
          show (if _ then _ else _) = _
          rw [if_pos ⟨o, ho, e⟩]
        · refine el_1_2 (List.mem_map.mp ho) fun c _ hE28 => ?_; subst hE28
          cases e
      gnod := fun i j o₁ o₂ g h1 h2 e1 e2 => by
        have key : ∀ {i : Nat} {o : Own}, (ρ ++ (cellsOf (s.heap.objs.size + 1) fd.scope.names).map fun c => (⟨c.2, [], []⟩ : Own))[i]? = some o → g ∈ o.g → ρ[i]? = some o := fun {i o} h e => by
          by_cases hlt : i < ρ.length
          · rwa [List.getElem?_append_left hlt] at h
          · rw [List.getElem?_append_right (Nat.le_of_not_lt hlt), List.getElem?_map] at h
            refine el_1_2 (Option.map_eq_some_iff.mp h) fun c _ hE29 => ?_; subst hE29
            cases e
        exact R.gnod i j o₁ o₂ g (key h1 e1) (key h2 e2) e1 e2
      frs := fun b fa => by
        rcases frAddr_deeper fa with q | q
        · have : s.heap.objs.size = b := Option.some.inj q
          subst this
          refine el_3_3 x.toInCall.ns fun o es ep h1 h2 _ => ?_
          refine ⟨(hold _ (hnone _ (Nat.le_refl _))).2, fun q => ?_, o, es, ep, h1, h2⟩
          rw [rhoAs_append, eas] at q
          rcases List.mem_append.mp q with q | q
          · refine el_1_1 (R.live _ (List.mem_cons_of_mem _ q)) fun o' ho' => ?_
            exact absurd (Heap.lt_size ho') (Nat.lt_irrefl _)
          · exact absurd (habove _ q) (Nat.lt_irrefl _)
        · obtain ⟨y1, y2, o, es, ep, h1, h2⟩ := R.frs b (hA.fr.mp q)
          refine ⟨y1, fun q => ?_, o, es, ep, hk b o h1, h2⟩
          rw [rhoAs_append, eas] at q
          rcases List.mem_append.mp q with q | q
          · exact y2 q
          · rw [hnew b q] at h1; cases h1
      hand := fun v hv => R.handB (fun a ha => .tail _ ha) v (hA.handled.symm.trans hv)
      bare := by rw [hgens]; exact R.bare
      os := hos.trans R.os }
theorem Rep.leave {C' : Ctx} {A : Around} {env' : Env} {ρ' : Rho} {σ' : St} {s' : Shared} (R : Rep W C B ρ σ s) (hA : Like A C.A) (hC : C'.A = A.deeper env') (hE : C'.env = env') (hL : env'.frame = some env'.locals) (R' : Rep W C' (baseOf (rhoAs ρ) ρ s) ρ' σ' s') (E : Ext ρ s ρ' s') :
    Rep W C B ρ' ⟨σ.vars, σ'.objs⟩ s' := by
  have le : Base.Le C.A B (baseOf (rhoAs ρ) ρ s) := baseOf_le R fun a ha => .tail _ ha
  have weak : ∀ b o, (baseOf (rhoAs ρ) ρ s).h.get? b = some o → KeptObj (frAddr C.A) b o (s'.heap.get? b) := fun b o e => (R'.keep b o e).weak fun f => by
    rw [hC] at f
    rcases frAddr_deeper f with q | q
    · rw [hL] at q; cases q
      have := (R'.fresh C'.env.locals (.head _)).1; rw [hE, e] at this; cases this
    · exact hA.fr.mp q
  refine el_1_1 (R.live C.env.locals (.head _)) fun oL hoL => ?_
  have bL := baseOf_h (ρ := ρ) hoL R.envNot
  exact
    { top := R'.top
      keep := fun b o e => let ⟨o1, k, e1⟩ := le.1 b o e; k.trans (weak b o1 e1) id
      nodup := List.nodup_cons.mpr ⟨fun q => (by have := (R'.fresh _ (.tail _ q)).1; rw [bL] at this; cases this), R'.nodupR⟩
      fresh := fun a ha => by
        rcases List.mem_cons.mp ha with rfl | ha
        · exact R.fresh _ (.head _)
        · refine ⟨?_, (R'.fresh a (.tail _ ha)).2⟩
          cases q : B.h.get? a with
          | none => rfl
          | some o => refine el_1_2 (le.1 a o q) fun o1 _ e1 => ?_; have := (R'.fresh a (.tail _ ha)).1; rw [e1] at this; cases this
      frame := R.frame.mono E.2 E.1 (ns_data fun o e => by rw [hoL] at e; cases e; refine el_1_4 ((weak _ _ bL).data) fun o' h1 _ h2 _ => ?_; exact ⟨o', h1, h2⟩)
      live := fun a ha => by
        rcases List.mem_cons.mp ha with rfl | ha
        · exact (weak _ _ bL).there
        · exact R'.live a (.tail _ ha)
      len := R'.len
      objs := R'.objs
      gkeep := fun i x e => R'.gkeep i x (le.2 i x e)
      gnew := fun o ho g e => ⟨(by
        cases q : B.g g with
        | none => rfl
        | some x => (have := (R'.gnew o ho g e).1; rw [le.2 g x q] at this; cases this)), (R'.gnew o ho g e).2⟩
      gnod := R'.gnod
      frs := fun b f => R'.frs b (by rw [hC]; exact frAddr_up (hA.fr.mpr f))
      hand := R.hand
      bare := R'.bare
      os := R'.os }
end
end
section
section
variable {W : Wd} {C : Ctx} {B : Base} {ρ ρ₀ : Rho} {σ : St} {s s₀ : Shared} {K : KA} {X : KX}
theorem Rep.offs {s' : Shared} (R : Rep W C B ρ σ s) (T : Addr → Prop) (hT : ∀ b, T b → NewA W C B ρ b) (hnt : ∀ b o items n, T b → s.heap.get? b = some o → o.data = .seq items n → False)
    (hk : ∀ b o, ¬ T b → s.heap.get? b = some o → KeptObj (frAddr C.A) b o (s'.heap.get? b)) (hg : s'.gens = s.gens := by rfl) (hos : s'.os = s.os := by rfl) : Rep W C B ρ σ s' ∧ Ext ρ s ρ s' := by
  have hz : Frz s.heap s'.heap := fun a c vs _ ⟨o, ho, hc, n, hd⟩ =>
    ⟨o, (hk a o (fun t => hnt a o _ _ t ho hd) ho).strict (fun f => by refine el_3_2 (R.frd _ f) fun o' es ep h1 h2 => ?_; rw [ho] at h1; cases h1; rw [hd] at h2; cases h2), hc, n, hd⟩
  have nT : ∀ a, a ∈ ownA C ρ → ¬ T a := fun a ha t => (hT a t).1 ha
  refine ⟨R.upd T (fun _ => False) hk (fun b t => ⟨⟨(hT b t).2.1, (hT b t).2.2.1⟩, fun q => absurd q (hT b t).1⟩) (R.frame.mono hz (.refl _) (ns_data fun o e => let ⟨o', h1, _, h2, _⟩ := (hk _ _ (nT _ (.head _)) e).data; ⟨o', h1, h2⟩))
    (fun b t f => absurd f (hT b t).2.2.2) rfl (fun k own o h1 h2 => (R.objs k own o h1 h2).mono hz (.refl _) (fun a ha ob e => (hk a ob (nT a (.tail _ (mem_rhoAs h1 ha))) e).strict fun f => (R.frs a f).2.1 (mem_rhoAs h1 ha)) fun g _ x e => by rw [hg]; exact e)
    (fun i x _ e => by rw [hg]; exact e) (fun _ x => x.elim) (by rw [hg]; exact Nat.le_refl _) (by rw [hg]; exact R.bare) hos, .refl _, hz⟩
noncomputable def FrsA (A : Around) (env : Env) (L : Addr) : Prop := ∃ env' l, A.frames = some (env' :: l) ∧ env'.frame = some L ∧ env.frame = some L ∧ ∀ x ∈ env' :: l, x.scope.kind ≠ .module ∧ ∃ L', x.frame = some L'
theorem FrsA.deeper {A : Around} {env : Env} {L : Addr} (h : FrsA A env L) {env₂ : Env} {L₂ : Addr} (hk : env₂.scope.kind = .function) (hf : env₂.frame = some L₂) : FrsA (A.deeper env₂) env₂ L₂ := by
  refine el_2_4 h fun env' l h1 h2 h3 h4 => ?_
  refine ⟨env₂, env' :: l, by show A.frames.map _ = _; rw [h1]; rfl, hf, hf, fun x hx => ?_⟩
  rcases List.mem_cons.mp hx with rfl | hx
  · exact ⟨by rw [hk]; decide, _, hf⟩
  · exact h4 x hx
theorem Rep.funFrames (R : Rep W C B ρ σ s) {base : Heap} (hb : ∀ b, frAddr C.A b → base.get? b = none) {l : List Env} (hl : C.A.frames = some l) : ∀ {l' : List Env}, (∀ x ∈ l', x ∈ l ∧ x.scope.kind ≠ .module ∧ ∃ L', x.frame = some L') → s.heap.FunFrames base l'
  | [], _ => trivial
  | x :: r, h => by
    obtain ⟨h1, h2, L', h3⟩ := h x (.head _)
    have f : frAddr C.A L' := ⟨l, x, hl, h1, h3⟩
    refine el_3_2 (R.frd L' f) fun o es ep q1 q2 => ?_
    exact ⟨h2, ⟨L', o, h3, hb _ f, q1, fun vs q => by rw [q2] at q; cases q⟩, R.funFrames hb hl fun y hy => h y (.tail _ hy)⟩
theorem frameOf_J {L : Addr} {E : Value → Shared → Prop} {Q : Value → Shared → Prop} (R : Rep W C B ρ σ s) (hF : FrsA C.A C.env L)
    (h : ∀ h', (∀ b, ¬ frAddr C.A b → h'.get? b = s.heap.get? b) → (∀ b o, s.heap.get? b = some o → KeptObj (frAddr C.A) b o (h'.get? b)) → h'.objs.size = s.heap.objs.size → Q (.ref L) { s with heap := h' }) : wpAny (model W.prog W.w) C.A (PySem.frameOf C.env) Q E s := by
  refine el_2_4 hF fun env' l h1 h2 h3 h4 => ?_
  unfold PySem.frameOf
  refine wpAny_bind (wpAny_frameEnvs h1 ?_)
  have hdw : ((env' :: l).dropWhile fun x => x.frame != C.env.frame) = env' :: l := by simp [List.dropWhile, h2, h3]
  rw [hdw]
  unfold frameObject
  refine wpAny_bind (wpAny_bind (wpAny_readyFrames_fun (base := {}) (R.funFrames (fun b _ => by simp [Heap.get?]) h1 fun x hx => ⟨hx, h4 x hx⟩) fun h' hs => wpAny_pure ?_))
  rw [h2]
  have hS : ∀ b, b ∈ (env' :: l).filterMap (·.frame) → frAddr C.A b := fun b hb => by
    refine el_1_2 (List.mem_filterMap.mp hb) fun x hx hxf => ?_
    exact ⟨_, x, h1, hx, hxf⟩
  refine wpAny_pure (h h' (fun b hb => hs.2.1 b fun q => hb (hS b q)) (fun b o e => ?_) hs.1)
  by_cases f : b ∈ (env' :: l).filterMap (·.frame)
  · refine el_1_1 (hs.2.2 b o e) fun sl q => ?_
    exact .inr ⟨hS b f, _, q, rfl, rfl, rfl⟩
  · exact .inl ((hs.2.1 b f).trans e)
structure FlyT (W : Wd) (C : Ctx) (B : Base) (ρ : Rho) (h : Heap) (e : Addr) (cls fl : Value) (cl : Bool) : Prop where
  fresh : NewA W C B ρ e
  obj : ∃ oe vs T oT ts, h.get? e = some oe ∧ oe.cls = cls ∧ oe.data = .fields vs ∧ 6 ≤ vs.size ∧ (cl = true → vs[2]? = some .none) ∧
    vs[1]? = some (.ref T) ∧ NewA W C B ρ T ∧ T ≠ e ∧ h.get? T = some oT ∧ oT.cls = .type "traceback" ∧ oT.data = .fields ts ∧ 5 ≤ ts.size ∧ ts[3]? = some fl
theorem FlyT.toFly {h : Heap} {e : Addr} {cls fl : Value} {cl : Bool} (x : FlyT W C B ρ h e cls fl cl) (hfl : fl = .none ∨ ∃ z : Nat, fl = rawInt z) : Fly W C B ρ h e cls cl := by
  obtain ⟨a, oe, vs, T, oT, ts, h1, h2, h3, h4, h5, h6, h7, h8, h9, h10, h11, h12, h13⟩ := x
  exact ⟨a, oe, vs, h1, h2, h3, h4, h5, .inr ⟨T, oT, ts, fl, h6, h7, h8, h9, h10, h11, h12, h13, hfl⟩⟩
theorem entry_J {L e : Addr} {cls head : Value} {hadNext cl : Bool} {oe : Obj} {vs : Array Value} {E : Value → Shared → Prop} {Q : Unit → Shared → Prop} (R : Rep W C B ρ σ s) (hF : FrsA C.A C.env L) (he : NewA W C B ρ e)
    (h1 : s.heap.get? e = some oe) (h2 : oe.cls = cls) (h3 : oe.data = .fields vs) (h4 : 6 ≤ vs.size) (h5 : cl = true → vs[2]? = some .none)
    (h : ∀ h', Rep W C B ρ σ { s with heap := h' } → Ext ρ s ρ { s with heap := h' } → FlyT W C B ρ h' e cls (rawInt L) cl → Q () { s with heap := h' }) :
    wpAny (model W.prog W.w) C.A (do let a ← PySem.frameOf C.env; let pl ← entryPlaceOf L hadNext; let b ← EntryCells.newEntry head a .none (rawInt L) .none pl; setField (.ref e) 1 b) Q E s := by
  refine wpAny_bind (frameOf_J R hF fun ha k1 k2 k3 => ?_)
  refine wpAny_bind (wpAny_entryPlaceOf fun pl hpl => ?_)
  unfold EntryCells.newEntry newFields
  refine wpAny_bind (wpAny_newObj_type ?_ (hpl.sizeOk5 _ _ _ _ _))
  generalize hts : ([head, Value.ref L, Value.none, rawInt L, Value.none] ++ (if pl.isEmpty then List.replicate 6 Value.none else pl)) = ts
  have hts3 : ts[3]? = some (rawInt L) := by rw [← hts]; rfl
  have hts5 : 5 ≤ ts.length := by rw [← hts]; simp
  have he1 : ha.get? e = some oe := (k1 e he.2.2.2).trans h1
  have he2 := Heap.get?_push_of_some (h := ha) { cls := .type "traceback", dict := none, data := .fields ts.toArray } he1
  refine wpAny_setField he2 h3 (by omega) (h _ ?_ ?_ ?_)
  all_goals
    have hT : s.heap.get? ha.objs.size = none := by
      rw [k3]
      cases q : s.heap.get? s.heap.objs.size with
      | none => rfl
      | some o => exact absurd (Heap.lt_size q) (Nat.lt_irrefl _)
    have hTn := R.newNot hT
    have hTe : ha.objs.size ≠ e := Nat.ne_of_gt (Heap.lt_size he1)
    have hd3 := Obj.data_mapFields h3 (·.setIfInBounds 1 (Value.ref ha.objs.size))
    have key := R.offs (s' := { s with heap := (ha.push { cls := .type "traceback", dict := none, data := .fields ts.toArray }).update e (Obj.mapFields (·.setIfInBounds 1 (Value.ref ha.objs.size))) }) (fun b => b = e) (fun b hb => hb ▸ he)
      (fun b o items n hb ho hd => by subst hb; rw [h1] at ho; cases ho; rw [h3] at hd; cases hd)
      (fun b o hb ho => by
        have k := k2 b o ho
        refine el_1_1 k.there fun o' q => ?_
        have : ((ha.push { cls := .type "traceback", dict := none, data := .fields ts.toArray }).update e (Obj.mapFields (·.setIfInBounds 1 (Value.ref ha.objs.size)))).get? b = ha.get? b := by
          rw [Heap.get?_update_other _ _ (Ne.symm hb), q]
          exact Heap.get?_push_of_some _ q
        show KeptObj _ _ _ (((ha.push _).update e _).get? b)
        rw [this]; exact k)
  · exact key.1
  · exact key.2
  · refine ⟨he, _, _, ha.objs.size, { cls := .type "traceback", dict := none, data := .fields ts.toArray }, ts.toArray, Heap.get?_update_self _ he2 (Obj.isFreed_of_fields hd3), (Obj.cls_mapFields _ _).trans h2, hd3, by simpa using h4, ?_, ?_, hTn, hTe, ?_, rfl, rfl, (by rw [List.size_toArray]; exact hts5), (by rw [List.getElem?_toArray]; exact hts3)⟩
    · rw [Array.getElem?_setIfInBounds_ne (by decide)]; exact h5
    · rw [Array.getElem?_setIfInBounds_self_of_lt (by omega)]
    · rw [Heap.get?_update_other _ _ (Ne.symm hTe)]
      exact Heap.get?_push_size ha rfl
theorem note_J {L e : Addr} {cls : Value} {cl : Bool} {E : Value → Shared → Prop} {Q : Unit → Shared → Prop} (R : Rep W C B ρ σ s) (hF : FrsA C.A C.env L) (y : Fly W C B ρ s.heap e cls cl)
    (h : ∀ h', Rep W C B ρ σ { s with heap := h' } → Ext ρ s ρ { s with heap := h' } → FlyT W C B ρ h' e cls (rawInt L) cl → Q () { s with heap := h' }) : wpAny (model W.prog W.w) C.A (noteFrame (.ref e) C.env) Q E s := by
  obtain ⟨he, oe, vs, h1, h2, h3, h4, h5, h6⟩ := y
  have hfr : C.env.frame = some L := by refine el_2_4 hF fun _ _ _ _ h _ => ?_; exact h
  unfold noteFrame
  simp only [hfr]
  rcases h6 with h6 | ⟨T, oT, ts, fl, h6, h7, h8, h9, h10, h11, h12, h13, h14⟩
  · refine wpAny_bind (wpAny_field h1 h3 h6 ?_)
    rw [if_neg (by decide)]
    exact entry_J R hF he h1 h2 h3 h4 h5 h
  · refine wpAny_bind (wpAny_field h1 h3 h6 ?_)
    rw [if_pos (show (Value.ref T != Value.none) = true from by simp)]
    refine wpAny_bind (wpAny_field h9 h11 h13 ?_)
    by_cases q : (fl == rawInt L) = true
    · rw [if_pos q]
      have q' : fl = rawInt L := by simpa using q
      subst q'
      exact wpAny_pure (h _ R (.refl _ _) ⟨he, oe, vs, T, oT, ts, h1, h2, h3, h4, h5, h6, h7, h8, h9, h10, h11, h12, h13⟩)
    · rw [if_neg q]
      refine wpAny_bind (wpAny_setField h9 h11 (by omega) ?_)
      obtain ⟨R', E'⟩ := R.offs (s' := { s with heap := s.heap.update T (Obj.mapFields (·.setIfInBounds 3 Value.none)) }) (fun b => b = T) (fun b hb => hb ▸ h7)
        (fun b o items n hb ho hd => by subst hb; rw [h9] at ho; cases ho; rw [h11] at hd; cases hd) (fun b o hb ho => .inl ((Heap.get?_update_other _ _ (Ne.symm hb)).trans ho))
      exact entry_J R' hF he ((Heap.get?_update_other _ _ h8).trans h1) h2 h3 h4 h5 fun h' R2 E2 F2 => h h' R2 (E'.trans E2) F2
theorem flight_J {e : Addr} {cls fl : Value} {cl : Bool} {f : Option Addr} {E : Value → Shared → Prop} {Q : Unit → Shared → Prop} (R : Rep W C B ρ σ s) (y : FlyT W C B ρ s.heap e cls fl cl)
    (h : ∀ h', Rep W C B ρ σ { s with heap := h' } → Ext ρ s ρ { s with heap := h' } → FlyT W C B ρ h' e cls (f.elim .none fun f => rawInt f) cl → Q () { s with heap := h' }) : wpAny (model W.prog W.w) C.A (setFlight (.ref e) f) Q E s := by
  obtain ⟨he, oe, vs, T, oT, ts, h1, h2, h3, h4, h5, h6, h7, h8, h9, h10, h11, h12, h13⟩ := y
  unfold setFlight
  refine wpAny_bind (wpAny_field h1 h3 h6 ?_)
  rw [if_pos (show (Value.ref T != Value.none) = true from by simp)]
  refine wpAny_setField h9 h11 (by omega) ?_
  obtain ⟨R', E'⟩ := R.offs (s' := { s with heap := s.heap.update T (Obj.mapFields (·.setIfInBounds 3 (f.elim .none fun f => rawInt f))) }) (fun b => b = T) (fun b hb => hb ▸ h7)
    (fun b o items n hb ho hd => by subst hb; rw [h9] at ho; cases ho; rw [h11] at hd; cases hd) (fun b o hb ho => .inl ((Heap.get?_update_other _ _ (Ne.symm hb)).trans ho))
  have hd3 := Obj.data_mapFields h11 (·.setIfInBounds 3 (f.elim Value.none fun f => rawInt f))
  refine h _ R' E' ⟨he, oe, vs, T, _, _, (Heap.get?_update_other _ _ h8).trans h1, h2, h3, h4, h5, h6, h7, h8, Heap.get?_update_self _ h9 (Obj.isFreed_of_fields hd3), (Obj.cls_mapFields _ _).trans h10, hd3, by simpa using h12, ?_⟩
  rw [Array.getElem?_setIfInBounds_self_of_lt (by omega)]
end
end
section
mutual
noncomputable def AV.lt (n : Nat) : AV → Bool
  | .tup _ l => AV.ltL n l
  | .obj k => decide (k < n)
  | _ => true
noncomputable def AV.ltL (n : Nat) : List AV → Bool
  | [] => true
  | a :: l => a.lt n && AV.ltL n l
end
noncomputable def VS.lt (n : Nat) : VS → Bool
  | .v a => a.lt n
  | .cell k => decide (k < n)
  | .non => true
noncomputable def AObj.lt (n : Nat) : AObj → Bool
  | .list l => AV.ltL n l
  | .cell (some a) => a.lt n
  | .dict kvs _ => kvs.all fun p => p.2.lt n
  | .inst _ ats => ats.all fun p => p.2.lt n
  | .gen _ _ _ vars => vars.all (VS.lt n)
  | _ => true
mutual
theorem AV.ren_of_lt {n : Nat} {f : Nat → Nat} (hf : ∀ i, i < n → f i = i) : ∀ {a : AV}, a.lt n = true → a.ren f = a
  | .tup c l, h => by rw [AV.ren, AV.renL_of_lt hf (by rw [AV.lt] at h; exact h)]
  | .obj k, h => by rw [AV.ren, hf k (by simpa [AV.lt] using h)]
  | .non, _ => rfl
  | .bool _, _ => rfl
  | .int _, _ => rfl
  | .byt _, _ => rfl
  | .str _, _ => rfl
  | .con _, _ => rfl
theorem AV.renL_of_lt {n : Nat} {f : Nat → Nat} (hf : ∀ i, i < n → f i = i) : ∀ {l : List AV}, AV.ltL n l = true → AV.renL f l = l
  | [], _ => rfl
  | a :: l, h => by
    rw [AV.ltL, Bool.and_eq_true] at h
    rw [AV.renL, AV.ren_of_lt hf h.1, AV.renL_of_lt hf h.2]
end
theorem AObj.ren_of_lt {n : Nat} {f : Nat → Nat} (hf : ∀ i, i < n → f i = i) {o : AObj} (h : o.lt n = true) : o.ren f = o := by
  cases o with
  | list l => rw [AObj.ren, AV.renL_of_lt hf h]
  | cell a =>
    cases a with
    | none => rfl
    | some a => rw [AObj.ren, Option.map, AV.ren_of_lt hf h]
  | rng a b c => rfl
  | dict kvs ep =>
    have e : ∀ p ∈ kvs, (p.1, p.2.ren f) = id p := fun p hp => by rw [AV.ren_of_lt hf (List.all_eq_true.mp h p hp)]; rfl
    rw [AObj.ren, List.map_congr_left e, List.map_id]
  | inst c ats =>
    have e : ∀ p ∈ ats, (p.1, p.2.ren f) = id p := fun p hp => by rw [AV.ren_of_lt hf (List.all_eq_true.mp h p hp)]; rfl
    rw [AObj.ren, List.map_congr_left e, List.map_id]
  | gen g fd body vars =>
    have e : ∀ p ∈ vars, VS.ren f p = id p := fun p hp => by
      have := List.all_eq_true.mp h p hp
      cases p with
      | non => rfl
      | v a => rw [VS.ren, AV.ren_of_lt hf this]; rfl
      | cell k => rw [VS.ren, hf k (by simpa [VS.lt] using this)]; rfl
    rw [AObj.ren, List.map_congr_left e, List.map_id]
  | sem Φ => rfl
  | junk => rfl
theorem DenAL.lt {ρ : Rho} {h : Heap} : (∀ {a : AV} {v : Value}, DenA ρ h a v → a.lt ρ.length = true) ∧ ∀ {l : List AV} {vs : List Value}, DenL ρ h l vs → AV.ltL ρ.length l = true :=
  DenA.ind rfl (fun _ => rfl) (fun _ _ => rfl) (fun _ _ => rfl) (fun _ _ => rfl) (fun _ => rfl) (fun _ _ _ d => d) (fun e => decide_eq_true (List.getElem?_eq_some_iff.mp e).1) rfl fun _ _ a b => by rw [AV.ltL, a, b]; rfl
theorem DenA.lt {ρ : Rho} {h : Heap} {a : AV} {v : Value} (d : DenA ρ h a v) : a.lt ρ.length = true := DenAL.lt.1 d
theorem DenL.lt {ρ : Rho} {h : Heap} {l : List AV} {vs : List Value} (d : DenL ρ h l vs) : AV.ltL ρ.length l = true := DenAL.lt.2 d
theorem ltL_all {n : Nat} : ∀ l : List AV, AV.ltL n l = l.all (AV.lt n)
  | [] => rfl
  | a :: l => by rw [AV.ltL, ltL_all l]; rfl
theorem Ents.lt {ρ : Rho} {h : Heap} : ∀ {l : List (Str × AV)} {es : List DictEntry}, Ents ρ h l es → (l.all fun p => p.2.lt ρ.length) = true
  | _, _, .nil => rfl
  | _, _, .cons _ d r => by rw [List.all_cons, d.lt, r.lt]; rfl
theorem RepObj.lt {W : Wd} {ρ : Rho} {h : Heap} {gs : Array GenState} {own : Own} {o : AObj} (x : RepObj W ρ h gs own o) : o.lt ρ.length = true := by
  cases o with
  | list l => refine el_1_2 x fun vs _ d => ?_; exact d.lt
  | cell a =>
    cases a with
    | none => rfl
    | some a => obtain ⟨_, _, _, _, d⟩ := x; exact d.lt
  | rng a b c => rfl
  | dict kvs ep =>
    obtain ⟨_, vs, _, d⟩ := x
    have := d.lt
    rw [ltL_all, List.all_map] at this
    exact this
  | inst c ats => refine el_3_4 x fun _ _ _ _ _ _ e => ?_; exact e.lt
  | gen g fd body vars =>
    obtain ⟨L, gg, _, _, _, _, hlen, m, hm, hf⟩ := x
    refine List.all_eq_true.mpr fun sl hsl => ?_
    refine el_1_1 (List.mem_iff_getElem?.mp hsl) fun i hi => ?_
    have hlt : i < fd.scope.names.length := Nat.lt_of_lt_of_le (List.getElem?_eq_some_iff.mp hi).1 hlen
    have := hf i fd.scope.names[i].1 fd.scope.names[i].2 (List.getElem?_eq_getElem hlt) sl hi
    cases sl with
    | non => rfl
    | v a => obtain ⟨_, _, _, d⟩ := this; exact d.lt
    | cell k => obtain ⟨_, _, _, e⟩ := this; exact decide_eq_true (List.getElem?_eq_some_iff.mp e).1
  | sem Φ => rfl
  | junk => rfl
noncomputable def Wf (objs : List AObj) : Prop := ∀ o ∈ objs, o.lt objs.length = true
theorem Rep.wf {W : Wd} {C : Ctx} {B : Base} {ρ : Rho} {σ : St} {s : Shared} (R : Rep W C B ρ σ s) : Wf σ.objs := fun o ho => by
  refine el_1_1 (List.mem_iff_getElem?.mp ho) fun k hk => ?_
  have hlt := (List.getElem?_eq_some_iff.mp hk).1
  rw [← R.len] at hlt ⊢
  exact (R.objs k _ o (List.getElem?_eq_getElem hlt) hk).lt
structure Tell (n : Nat) (objs : List AObj) (π : List Nat) (objs' : List AObj) : Prop where
  nd : π.Nodup
  lt : ∀ j ∈ π, j < objs.length
  len : objs'.length = π.length
  fix : ∀ k, k < n → π[k]? = some k
  ok : ∀ (i j : Nat) o', π[i]? = some j → objs'[i]? = some o' → o' = .junk ∨ objs[j]? = some (o'.ren (renF π objs.length))
noncomputable def keepF (n : Nat) (ks : List Nat) (N : Nat) (i : Nat) : Nat := if i < n then i else (ks.map (n + ·)).getD (i - n) N
noncomputable def keepPi (n : Nat) (ks : List Nat) : List Nat := List.range n ++ ks.map (n + ·)
theorem renF_keep (n : Nat) (ks : List Nat) (N : Nat) : renF (keepPi n ks) N = keepF n ks N := by
  funext i
  unfold renF keepPi keepF
  rw [List.getD_eq_getElem?_getD]
  by_cases h : i < n
  · rw [if_pos h, List.getElem?_append_left (by simpa using h), List.getElem?_range h]; rfl
  · rw [if_neg h, List.getElem?_append_right (by simpa using h), List.length_range, List.getD_eq_getElem?_getD]
inductive KeepOK (n : Nat) (ext : List AObj) (ks : List Nat) : List Nat → List AObj → Prop
  | nil : KeepOK n ext ks [] []
  | cons {k : Nat} {r : List Nat} {o : AObj} {os : List AObj} : (o = .junk ∨ ext[k]? = some (o.ren (keepF n ks (n + ext.length)))) → k < ext.length → KeepOK n ext ks r os → KeepOK n ext ks (k :: r) (o :: os)
theorem KeepOK.get {n : Nat} {ext : List AObj} {ks : List Nat} {l : List Nat} {os : List AObj} (h : KeepOK n ext ks l os) : os.length = l.length ∧ (∀ k ∈ l, k < ext.length) ∧
    ∀ (i k : Nat) o, l[i]? = some k → os[i]? = some o → o = .junk ∨ ext[k]? = some (o.ren (keepF n ks (n + ext.length))) := by
  induction h with
  | nil => exact ⟨rfl, fun _ h => (nomatch h), fun i k o h => by simp at h⟩
  | cons h1 h2 h3 ih =>
    refine el_0_3 ih fun a b c => ?_
    refine ⟨by simp [a], fun j hj => ?_, fun i j o' e1 e2 => ?_⟩
    · rcases List.mem_cons.mp hj with rfl | hj
      · exact h2
      · exact b j hj
    · cases i with
      | zero => simp only [List.getElem?_cons_zero, Option.some.injEq] at e1 e2; subst e1; subst e2; exact h1
      | succ i => exact c i j o' e1 e2
theorem Tell.keep {n : Nat} {pre ext ext' : List AObj} {ks : List Nat} (hn : pre.length = n) (hpre : ∀ o ∈ pre, o.lt n = true) (hnd : ks.Nodup) (h : KeepOK n ext ks ks ext') : Tell n (pre ++ ext) (keepPi n ks) (pre ++ ext') := by
  refine el_0_3 h.get fun h1 h2 h3 => ?_
  refine ⟨?_, ?_, ?_, ?_, ?_⟩
  · unfold keepPi
    rw [List.nodup_append]
    refine ⟨List.nodup_range, List.Pairwise.map _ (fun a b hab e => hab (by omega)) hnd, fun a ha b hb e => ?_⟩
    subst e
    refine el_1_2 (List.mem_map.mp hb) fun k _ hE39 => ?_; subst hE39
    have := List.mem_range.mp ha
    omega
  · intro j hj
    rw [List.length_append, hn]
    rcases List.mem_append.mp hj with hj | hj
    · have := List.mem_range.mp hj; omega
    · refine el_1_2 (List.mem_map.mp hj) fun k hk hE40 => ?_; subst hE40
      have := h2 k hk; omega
  · simp [keepPi, hn, h1]
  · intro k hk
    unfold keepPi
    rw [List.getElem?_append_left (by simpa using hk), List.getElem?_range hk]
  · intro i j o' e1 e2
    rw [renF_keep, List.length_append, hn]
    unfold keepPi at e1
    by_cases hi : i < n
    · rw [List.getElem?_append_left (by simpa using hi), List.getElem?_range hi] at e1
      cases e1
      rw [List.getElem?_append_left (by omega)] at e2
      rw [List.getElem?_append_left (by omega), e2, AObj.ren_of_lt (n := n) (fun i hi => by unfold keepF; rw [if_pos hi]) (hpre o' (List.mem_of_getElem? e2))]
      exact .inr rfl
    · rw [List.getElem?_append_right (by simpa using hi), List.length_range, List.getElem?_map] at e1
      refine el_1_2 (Option.map_eq_some_iff.mp e1) fun k hk hE41 => ?_; subst hE41
      rw [List.getElem?_append_right (by omega), hn] at e2
      rw [List.getElem?_append_right (by omega), hn, Nat.add_sub_cancel_left]
      exact h3 _ k o' hk e2
section
variable {W : Wd} {C : Ctx} {B : Base} {ρ ρ₀ : Rho} {σ : St} {s s₀ : Shared} {K : KA} {X : KX}
theorem Rep.tell {n : Nat} {objs' : List AObj} {π : List Nat} {vars' : List VS} (R : Rep W C B ρ σ s) (t : Tell n σ.objs π objs') (hv : ∀ (i : Nat) x, vars'[i]? = some x → x = .non ∨ σ.vars[i]? = some (x.ren (renF π σ.objs.length))) :
    Rep W C B (renR π ρ) ⟨vars', objs'⟩ s ∧ Ext (ρ.take n) s (renR π ρ) s :=
  ⟨R.ren π t.nd t.lt (σ' := ⟨vars', objs'⟩) t.len hv t.ok, renR_le t.fix, .refl _⟩
noncomputable def RetK (K : KA) (vars : List VS) (n : Nat) : KF := fun fl σ => match fl with
  | .ret a => ∃ π a' objs', Tell n σ.objs π objs' ∧ a = a'.ren (renF π σ.objs.length) ∧ K a' ⟨vars, objs'⟩
  | .next => ∃ π objs', Tell n σ.objs π objs' ∧ K .non ⟨vars, objs'⟩
  | _ => False
noncomputable def RetX (X : KX) (vars : List VS) (n : Nat) : KX := fun cls cl σ => ∃ π objs', Tell n σ.objs π objs' ∧ X cls cl ⟨vars, objs'⟩
theorem le_of_take {ρ ρ' ρ'' : Rho} (h : RhoLe ρ ρ') (h2 : RhoLe (ρ'.take ρ.length) ρ'') : RhoLe ρ ρ'' := fun k o e =>
  let ⟨o1, e1, a1⟩ := h k o e
  let ⟨o2, e2, a2⟩ := h2 k o1 (get_take (List.getElem?_eq_some_iff.mp e).1 e1)
  ⟨o2, e2, a2.trans a1⟩
theorem Rep.exit {A : Around} {env' : Env} {ρ' : Rho} {σ' : St} {s' : Shared} {n : Nat} {π : List Nat} {objs' : List AObj} (R : Rep W C B ρ σ s) (hA : Like A C.A) (hL : env'.frame = some env'.locals) (hn : n = ρ.length)
    (R' : Rep W (bodyCtx C A env' n) (baseOf (rhoAs ρ) ρ s) ρ' σ' s') (E : Ext ρ s ρ' s') (t : Tell n σ'.objs π objs') : Rep W C B (renR π ρ') ⟨σ.vars, objs'⟩ s' ∧ Ext ρ s (renR π ρ') s' := by
  subst hn
  refine el_0_2 (R'.tell (vars' := []) t (fun i x e => by simp at e)) fun R2 E2 => ?_
  have E3 : Ext ρ s (renR π ρ') s' := ⟨le_of_take E.1 E2.1, E.2.trans E2.2⟩
  exact ⟨R.leave hA rfl rfl hL R2 E3, E3⟩
theorem NewA.leave {A : Around} {env' : Env} {ρ' ρ'' : Rho} {n : Nat} {a : Addr} (R : Rep W C B ρ σ s) (hA : Like A C.A) (hsub : ∀ a ∈ rhoAs ρ'', a ∈ rhoAs ρ') (x : NewA W (bodyCtx C A env' n) (baseOf (rhoAs ρ) ρ s) ρ' a) : NewA W C B ρ'' a := by
  refine el_0_4 x fun x1 x2 x3 x4 => ?_
  refine ⟨fun q => ?_, ?_, x3, fun f => x4 (frAddr_up (hA.fr.mpr f))⟩
  · rcases List.mem_cons.mp q with rfl | q
    · refine el_1_1 (R.live C.env.locals (.head _)) fun o ho => ?_
      rw [baseOf_h ho R.envNot] at x2; cases x2
    · exact x1 (.tail _ (hsub a q))
  · cases q : B.h.get? a with
    | none => rfl
    | some o => refine el_1_2 ((baseOf_le R fun a ha => List.mem_cons_of_mem _ ha).1 a o q) fun o1 _ e1 => ?_; rw [e1] at x2; cases x2
theorem Fly.weaken {C' : Ctx} {B' : Base} {ρ' : Rho} {h : Heap} {e : Addr} {cls : Value} {cl : Bool} (x : Fly W C' B' ρ' h e cls cl) (hN : ∀ a, NewA W C' B' ρ' a → NewA W C B ρ a) : Fly W C B ρ h e cls cl := by
  obtain ⟨h0, oe, vs, h1, h2, h3, h4, h5, h6⟩ := x
  refine ⟨hN e h0, oe, vs, h1, h2, h3, h4, h5, ?_⟩
  rcases h6 with h6 | ⟨T, oT, ts, fl, h6, h7, r⟩
  · exact .inl h6
  · exact .inr ⟨T, oT, ts, fl, h6, hN T h7, r⟩
theorem rhoAs_ren {π : List Nat} {ρ : Rho} {n : Nat} (hlt : ∀ j ∈ π, j < n) (hn : n = ρ.length) (a : Addr) (ha : a ∈ rhoAs (renR π ρ)) : a ∈ rhoAs ρ := by
  subst hn
  refine el_1_2 (List.mem_flatMap.mp ha) fun o h1 h2 => ?_
  refine el_1_1 (List.mem_iff_getElem?.mp h1) fun i hi => ?_
  refine el_1_2 (renR_of hlt hi) fun j _ h3 => ?_
  exact mem_rhoAs h3 h2
theorem NewA.sub {ρ' : Rho} {a : Addr} (hsub : ∀ a ∈ rhoAs ρ', a ∈ rhoAs ρ) (x : NewA W C B ρ a) : NewA W C B ρ' a :=
  ⟨fun q => x.1 (by rcases List.mem_cons.mp q with rfl | q; exact .head _; exact .tail _ (hsub a q)), x.2⟩
theorem leaving_J {L e : Addr} {cls : Value} {cl : Bool} {E : Value → Shared → Prop} {Q : Unit → Shared → Prop} (R : Rep W C B ρ σ s) (hF : FrsA C.A C.env L) (y : Fly W C B ρ s.heap e cls cl)
    (h : ∀ h', Rep W C B ρ σ { s with heap := h' } → Ext ρ s ρ { s with heap := h' } → Fly W C B ρ h' e cls cl → Q () { s with heap := h' }) : wpAny (model W.prog W.w) C.A (leaving C.env (.ref e)) Q E s := by
  unfold leaving
  refine wpAny_bind (note_J R hF y fun h1 R1 E1 F1 => ?_)
  exact flight_J (f := none) R1 F1 fun h2 R2 E2 F2 => h h2 R2 (E1.trans E2) (F2.toFly (.inl rfl))
theorem cameBack_J {L e : Addr} {cls fl : Value} {cl : Bool} {E : Value → Shared → Prop} (R : Rep W C B ρ σ s) (hF : FrsA C.A C.env L) (y : FlyT W C B ρ s.heap e cls fl cl)
    (h : ∀ h', Rep W C B ρ σ { s with heap := h' } → Ext ρ s ρ { s with heap := h' } → Fly W C B ρ h' e cls cl → E (.ref e) { s with heap := h' }) : cameBackBy (model W.prog W.w) C.A C.env E (.ref e) s := by
  unfold cameBackBy
  have y' := y
  obtain ⟨he, oe, vs, T, oT, ts, h1, h2, h3, h4, h5, h6, h7, h8, h9, h10, h11, h12, h13⟩ := y
  refine wpAny_bind (wpAny_field h1 h3 h6 ?_)
  rw [if_neg (show ¬ ((Value.ref T == Value.none) = true) from by simp)]
  refine flight_J R y' fun h2 R2 E2 F2 => h h2 R2 E2 (F2.toFly ?_)
  have hfr : C.env.frame = some L := by refine el_2_4 hF fun _ _ _ _ h _ => ?_; exact h
  rw [hfr]
  exact .inr ⟨L, rfl⟩
theorem noted_J {L e : Addr} {cls : Value} {cl : Bool} {E : Value → Shared → Prop} (R : Rep W C B ρ σ s) (hF : FrsA C.A C.env L) (y : Fly W C B ρ s.heap e cls cl)
    (h : ∀ h', Rep W C B ρ σ { s with heap := h' } → Ext ρ s ρ { s with heap := h' } → Fly W C B ρ h' e cls cl → E (.ref e) { s with heap := h' }) :
    notedBy (model W.prog W.w) C.A C.env (fun e s' => cameBackBy (model W.prog W.w) C.A C.env E e s') (.ref e) s := by
  unfold notedBy
  exact note_J R hF y fun h1 R1 E1 F1 => cameBack_J R1 hF F1 fun h2 R2 E2 F2 => h h2 R2 (E1.trans E2) F2
noncomputable def AOK (A : Around) (n : Nat) : Prop := A.depth + n < 600 ∧ A.units + 8 * n < 9000
theorem AOK.room {A : Around} {n : Nat} (h : AOK A n) : A.depth < recursionLimit := by unfold recursionLimit; have := h.1; omega
theorem AOK.deeper {A : Around} {n : Nat} (h : AOK A (n + 1)) (env : Env) : AOK (A.deeper env) n := by
  refine el_0_2 h fun a b => ?_
  refine ⟨?_, ?_⟩
  · show A.depth + 1 + n < 600; omega
  · show A.units + 3 + 8 * n < 9000; omega
theorem AOK.less {A : Around} {n m : Nat} (h : AOK A n) (hm : m ≤ n) : AOK A m := ⟨by have := h.1; omega, by have := h.2; omega⟩
noncomputable def FrsC (C : Ctx) : Prop := ∃ L, FrsA C.A C.env L
theorem Rep.doneF {A : Around} {env' : Env} {ρ₁ : Rho} {s₁ s2 : Shared} {fl : PySem.Flow} (R : Rep W C B ρ σ s) (hA : Like A C.A) (hL : env'.frame = some env'.locals) (E1 : Ext ρ s ρ₁ s₁)
    (h : PostF W (bodyCtx C A env' ρ.length) (baseOf (rhoAs ρ) ρ s) ρ₁ s₁ (RetK K σ.vars ρ.length) fl s2) : (fl = .next ∧ PostA W C B ρ s K .none s2) ∨ ∃ v, fl = .ret v ∧ PostA W C B ρ s K v s2 := by
  refine h.el fun ρ2 a σ2 E2 R2 d2 k2 => ?_
  cases a with
  | next =>
    cases fl <;> first | exact d2.elim | skip
    exact el_2_2 k2 fun π objs' t k => el_0_2 (R.exit hA hL rfl R2 (E1.trans E2) t) fun R3 E3 => .inl ⟨rfl, _, .non, _, E3, R3, .non, k⟩
  | brk => exact k2.elim
  | cont => exact k2.elim
  | ret a =>
    cases fl with
    | ret v =>
      refine el_3_3 k2 fun π a' objs' t ea k => el_0_2 (R.exit hA hL rfl R2 (E1.trans E2) t) fun R3 E3 => .inr ⟨v, rfl, _, a', _, E3, R3, ?_, k⟩
      subst ea
      have d3 : DenA ρ2 s2.heap (a'.ren (renF π σ2.objs.length)) v := d2
      rw [← R2.len] at d3
      exact d3.ren
    | _ => exact d2.elim
theorem Rep.doneX {A : Around} {env' : Env} {ρ₁ : Rho} {s₁ s2 : Shared} {e : Value} {Q : Unit → Shared → Prop} {E' : Value → Shared → Prop} (R : Rep W C B ρ σ s) (hA : Like A C.A) (hL : env'.frame = some env'.locals) (hF' : FrsC (bodyCtx C A env' ρ.length)) (E1 : Ext ρ s ρ₁ s₁)
    (h : PostX W (bodyCtx C A env' ρ.length) (baseOf (rhoAs ρ) ρ s) ρ₁ s₁ (RetX X σ.vars ρ.length) e s2) (hq : ∀ s3, PostX W C B ρ s X e s3 → Q () s3) : wpAny (model W.prog W.w) (A.deeper env') (leaving env' e) Q E' s2 := by
  refine h.el fun ρ2 cls cl σ2 e' ee E2 R2 F2 k2 => ?_
  subst ee
  refine el_1_1 hF' fun L hL' => leaving_J R2 hL' F2 fun h3 R3 E3 F3 => el_2_2 k2 fun π objs' t k => ?_
  exact el_0_2 (R.exit hA hL rfl R3 ((E1.trans E2).trans E3) t) fun R4 E4 => hq _ ⟨_, cls, cl, _, e', rfl, E4, R4, F3.weaken fun a na => na.leave R hA fun b hb => rhoAs_ren t.lt R3.len.symm b hb, k⟩
theorem call_text {A : Around} {f : Addr} {fd : FuncData} {body : List Stmt} (FF : FnFacts W f fd body) {args : Args} {binds : List (Str × Value)} {ab : List (Str × AV)} (R : Rep W C B ρ σ s) (hA : Like A C.A) (hFr : FrsC C)
    (hb : BindsTo s fd args binds) (hd : DenB ρ s.heap ab binds) (hkeys : (ab.map (·.1)).Nodup) (hkinds : ∀ y ∈ ab.map (·.1), fd.scope.names.lookup y = some .local ∨ fd.scope.names.lookup y = some .cell) (hroom : A.depth < recursionLimit)
    (h : ∀ L, FrsC (bodyCtx C A (callEnvC fd L f) ρ.length) → JSs W (bodyCtx C A (callEnvC fd L f) ρ.length) body (RetK K σ.vars ρ.length) (RetX X σ.vars ρ.length) ⟨mkSlots ab fd.scope.names ρ.length, σ.objs ++ mkCells ab fd.scope.names⟩) :
    codeAny (model W.prog W.w) A (.call (.ref f) args) (fun r s' => match r with | .ok (.ret v) => PostA W C B ρ s K v s' | .error e => PostX W C B ρ s X e s' | _ => False) s := by
  refine el_1_2 FF.at_ fun fo ho hfd => ?_
  have hcode : s.heap.CodeRec fd.code fd.qualname := by
    refine el_4_4 FF.code fun c o vs t e1 e2 e3 e4 => ?_
    exact ⟨c, o, vs, t, e1, R.top _ _ e2, e3, e4⟩
  have hlim : s.heap.NoLimit := FF.lim.keeps R.top
  refine codeAny_call_function hroom (R.top _ _ ho) hfd FF.co FF.gen FF.body hcode ?_
  refine hb _ _ _ _ ?_
  rw [FF.clo]
  refine wpAny_newFunctionEnv_cells FF.kind (fun y hy => ?_) fun env he s' x => ?_
  · have hm : y.1 ∈ ab.map (·.1) := by rw [← hd.keys]; exact List.mem_map_of_mem hy
    rcases hkinds _ hm with q | q
    · exact .inl q
    · refine .inr ⟨q, ?_⟩
      rw [cellsFrom_eq, List.append_nil]
      have hmem := cellsOf_of_mem fd.scope.names (s.heap.objs.size + 1) (mem_of_lookup q)
      refine el_1_1 hmem fun c hc => ?_
      rw [lookup_of_mem (by rw [List.map_reverse]; exact (List.reverse_perm _).nodup_iff.mpr (FF.nd.sublist (cellsOf_keys _ _))) (List.mem_reverse.mpr hc)]
      rfl
  · subst he
    refine ⟨hlim.keeps x.toInCall.keep, codeAny_func ?_⟩
    refine el_0_2 (R.enter hA FF.nd hkeys hd x) fun R1 E1 => ?_
    have hF' : FrsC (bodyCtx C A (callEnvC fd s.heap.objs.size f) ρ.length) := by
      refine el_1_1 hFr fun L hL => ?_
      refine ⟨s.heap.objs.size, ?_⟩
      have hL' : FrsA A C.env L := by
        refine el_2_2 hL fun env' l h1 r => ?_
        exact ⟨env', l, hA.frames.trans h1, r⟩
      exact hL'.deeper FF.kind rfl
    have etake : (ρ ++ (cellsOf (s.heap.objs.size + 1) fd.scope.names).map fun c => (⟨c.2, [], []⟩ : Own)).take ρ.length = ρ := by simp
    have E1' : Ext ρ s ((ρ ++ (cellsOf (s.heap.objs.size + 1) fd.scope.names).map fun c => (⟨c.2, [], []⟩ : Own)).take ρ.length) s' := by rw [etake]; exact ⟨.refl _, E1.2⟩
    refine wpAny_mono (h _ hF' _ _ s' R1) (fun fl s2 hP => ?_) fun e s2 hP => R.doneX hA rfl hF' E1' hP fun _ x => x
    rcases R.doneF hA rfl E1' hP with ⟨rfl, q⟩ | ⟨v, rfl, q⟩ <;> exact q
theorem JV_call {f : Value} {vs : List Value} {kw : List (Str × Value)} (h : codeAny (model W.prog W.w) C.A (.call f ⟨vs, kw⟩) (fun r s' => match r with | .ok (.ret v) => PostA W C B ρ s K v s' | .error e => PostX W C B ρ s X e s' | _ => False) s) : JV W C (call f vs kw) K X B ρ s := by
  refine wpAny_call (codeAny_mono h fun r s' hr => ?_)
  rcases r with f | e
  · exact hr
  · cases e <;> first | exact hr | exact hr.elim
end
end
section
noncomputable def Back (C : Ctx) (σ σ' : St) : Prop := σ' = σ ∨ ∃ π, Tell C.low σ.objs π σ'.objs ∧ ∀ (i : Nat) x, σ'.vars[i]? = some x → x = .non ∨ σ.vars[i]? = some (x.ren (renF π σ.objs.length))
noncomputable def LoopK (C : Ctx) (I : St → Prop) (K : KF) : KF := fun fl σ => match fl with
  | .next => ∃ σ', Back C σ σ' ∧ I σ'
  | .cont => ∃ σ', Back C σ σ' ∧ I σ'
  | .brk => K .next σ
  | .ret a => K (.ret a) σ
section
variable {W : Wd} {C : Ctx} {B : Base} {ρ ρ₀ : Rho} {σ : St} {s s₀ : Shared} {K : KA} {X : KX}
theorem Rep.back {σ' : St} (R : Rep W C B ρ σ s) (b : Back C σ σ') : ∃ ρ', Rep W C B ρ' σ' s ∧ Ext (ρ.take C.low) s ρ' s ∧ (∀ a ∈ rhoAs ρ', a ∈ rhoAs ρ) ∧ ∀ o ∈ ρ', o ∈ ρ := by
  rcases b with rfl | ⟨π, t, hv⟩
  · exact ⟨ρ, R, (Ext.refl _ _).low _, fun _ x => x, fun _ x => x⟩
  · refine el_0_2 (R.tell t hv) fun R' E' => ?_
    refine ⟨_, R', E', fun a ha => rhoAs_ren t.lt R.len.symm a ha, fun o ho => ?_⟩
    refine el_1_1 (List.mem_iff_getElem?.mp ho) fun i hi => ?_
    refine el_1_2 (renR_of (fun j hj => by rw [R.len]; exact t.lt j hj) hi) fun j _ h3 => ?_
    exact List.mem_of_getElem? h3
structure Itr0 (W : Wd) (C : Ctx) (ρ₀ : Rho) (ok : St → Prop) (vals : List AV) (I : Addr) (It : Nat → Heap → Prop) : Prop where
  obj : ∀ i h, It i h → ∃ o vs nm, h.get? I = some o ∧ o.cls = .type nm ∧ ["enumerate", "zip", "dict_itemiterator", "dict_reverseitemiterator", "odict_iterator", "itertools.zip_longest", "itertools.pairwise"].contains nm = false ∧ o.data = .fields vs
  mono : ∀ i h h', It i h → Frz h h' → h'.get? I = h.get? I → It i h'
  item : ∀ i a B ρ σ (s : Shared) (Q : Option Value → Shared → Prop) (E : Value → Shared → Prop), vals[i]? = some a → Rep W C B ρ σ s → RhoLe (ρ₀.take C.low) ρ → ok σ → It i s.heap → NewA W C B ρ I →
    (∀ h' tk v, It (i + 1) h' → Heap.ExtBut I s.heap h' → DenA ρ h' a v → Q (some v) { s with heap := h', toks := tk }) → wpAny (model W.prog W.w) C.A (pyNext (.ref I)) Q E s
  done : ∀ B ρ σ (s : Shared) (Q : Option Value → Shared → Prop) (E : Value → Shared → Prop), Rep W C B ρ σ s → RhoLe (ρ₀.take C.low) ρ → ok σ → It vals.length s.heap → NewA W C B ρ I →
    (∀ h' tk, Heap.ExtBut I s.heap h' → Q none { s with heap := h', toks := tk }) → wpAny (model W.prog W.w) C.A (pyNext (.ref I)) Q E s
  self : ∀ i (s : Shared) (Q : Value → Shared → Prop) (E : Value → Shared → Prop), It i s.heap → Q (.ref I) s → wpAny (model W.prog W.w) C.A (pyIter (.ref I)) Q E s
theorem letGo_J {target : Expr} {I : Addr} {v : Value} {o : Obj} {vs : Array Value} {nm : String} {Q : Unit → Shared → Prop} {E : Value → Shared → Prop} (ho : s.heap.get? I = some o) (hc : o.cls = .type nm)
    (hn : ["enumerate", "zip", "dict_itemiterator", "dict_reverseitemiterator", "odict_iterator", "itertools.zip_longest", "itertools.pairwise"].contains nm = false) (hd : o.data = .fields vs) (h : Q () s) :
    wpAny (model W.prog W.w) C.A (letOwnedTupleGo target (.ref I) v) Q E s := by
  have key : ∀ a : Addr, wpAny (model W.prog W.w) C.A (do
      let o ← load I
      match o.cls, o.data with
      | .type n, .fields vs =>
        if ["enumerate", "zip", "dict_itemiterator", "dict_reverseitemiterator", "odict_iterator", "itertools.zip_longest", "itertools.pairwise"].contains n && vs[0]? == some (rawInt a) then
          rule "for.unpacks-the-owned-tuple"
          updateField I 0 .none
      | _, _ => pure ()) Q E s := fun a => by
    refine wpAny_bind (wpAny_load ho ?_)
    rw [hc, hd]
    dsimp only
    rw [if_neg (by rw [hn, Bool.false_and]; exact Bool.false_ne_true)]
    exact wpAny_pure h
  unfold letOwnedTupleGo
  cases target <;> first
    | exact wpAny_pure h
    | (cases v <;> first
        | exact wpAny_pure h
        | exact key _)
structure Itr (W : Wd) (C : Ctx) (ρ₀ : Rho) (ok : Nat → St → Prop) (step : Nat → St → St) (vals : List AV) (endX : Option (Value × Bool)) (I : Addr) (It : Nat → Base → Rho → Shared → Prop) : Prop where
  stay : ∀ i B ρ₁ ρ₃ σ₁ σ₃ s₁ s₃, It i B ρ₁ s₁ → Rep W C B ρ₁ σ₁ s₁ → Rep W C (baseOf (ownA C ρ₁) ρ₁ s₁) ρ₃ σ₃ s₃ → Frz s₁.heap s₃.heap → It i B ρ₃ s₃
  sub : ∀ i B ρ ρ' s, It i B ρ s → (∀ a ∈ rhoAs ρ', a ∈ rhoAs ρ) → It i B ρ' s
  item : ∀ i a B ρ σ (s : Shared) (Q : Option Value → Shared → Prop) (E : Value → Shared → Prop), vals[i]? = some a → Rep W C B ρ σ s → RhoLe (ρ₀.take C.low) ρ → ok i σ → It i B ρ s →
    (∀ s' ρ' v, Rep W C B ρ' (step i σ) s' → Ext ρ s ρ' s' → It (i + 1) B ρ' s' → DenA ρ' s'.heap a v → (∀ (target : Expr) (Q : Unit → Shared → Prop) (E : Value → Shared → Prop), Q () s' → wpAny (model W.prog W.w) C.A (letOwnedTupleGo target (.ref I) v) Q E s') → Q (some v) s') →
    wpAny (model W.prog W.w) C.A (pyNext (.ref I)) Q E s
  done : ∀ B ρ σ (s : Shared) (Q : Option Value → Shared → Prop) (E : Value → Shared → Prop), Rep W C B ρ σ s → RhoLe (ρ₀.take C.low) ρ → ok vals.length σ → It vals.length B ρ s →
    (endX = none → ∀ s' ρ', Rep W C B ρ' (step vals.length σ) s' → Ext ρ s ρ' s' → Q none s') → (∀ c cl, endX = some (c, cl) → ∀ s' ρ' e, Rep W C B ρ' (step vals.length σ) s' → Ext ρ s ρ' s' → Fly W C B ρ' s'.heap e c cl → E (.ref e) s') → wpAny (model W.prog W.w) C.A (pyNext (.ref I)) Q E s
  self : ∀ i B ρ σ (s : Shared) (Q : Value → Shared → Prop) (E : Value → Shared → Prop), Rep W C B ρ σ s → RhoLe (ρ₀.take C.low) ρ → ok i σ → It i B ρ s → Q (.ref I) s → wpAny (model W.prog W.w) C.A (pyIter (.ref I)) Q E s
theorem Itr0.itr {ok : St → Prop} {vals : List AV} {I : Addr} {It : Nat → Heap → Prop} (T : Itr0 W C ρ₀ ok vals I It) : Itr W C ρ₀ (fun _ => ok) (fun _ σ => σ) vals none I (fun i B ρ s => It i s.heap ∧ NewA W C B ρ I) := by
  have offI : ∀ {i : Nat} {B : Base} {ρ : Rho} {σ : St} {s : Shared} (h' : Heap) (tk : Nat), Rep W C B ρ σ s → It i s.heap → NewA W C B ρ I → Heap.ExtBut I s.heap h' → Rep W C B ρ σ { s with heap := h', toks := tk } ∧ Ext ρ s ρ { s with heap := h', toks := tk } := fun {i B ρ σ s} h' tk R hIt n1 hs => by
    refine el_3_4 (T.obj i _ hIt) fun o vs nm ho hc hn hd => ?_
    exact R.offs (s' := { s with heap := h', toks := tk }) (fun b => b = I) (fun b hb => hb ▸ n1) (fun b o' items n hb ho' hd' => by rw [hb, ho] at ho'; cases ho'; rw [hd] at hd'; cases hd')
      (fun b o' hb ho' => .inl (hs b o' hb ho'))
  refine { stay := fun i B ρ₁ ρ₃ σ₁ σ₃ s₁ s₃ hQ2 R1 R3 hz => ?_, sub := fun i B ρ ρ' s hQ3 hs => by refine el_0_2 hQ3 fun hI hN => ?_; exact ⟨hI, hN.sub hs⟩, item := fun i a B ρ σ s Q E hv R le hok hQ4 hQ => ?_, done := fun B ρ σ s Q E R le hok hQ5 h1 _ => ?_, self := fun i B ρ σ s Q E _ _ _ hQ6 q => by refine el_0_2 hQ6 fun hI _ => ?_; exact T.self i s Q E hI q}
  · refine el_0_2 hQ2 fun hI hN => ?_
    refine el_3_4 (T.obj _ _ hI) fun o2 vs2 nm2 ho2 hc2 hn2 hd2 => ?_
    have bI : (baseOf (ownA C ρ₁) ρ₁ s₁).h.get? I = some o2 := baseOf_h ho2 hN.1
    refine ⟨T.mono _ _ _ hI hz ?_, fun q => ?_, hN.2⟩
    · rw [(R3.keep I o2 bI).strict hN.2.2.2]; exact ho2.symm
    · have := (R3.fresh I q).1; rw [bI] at this; cases this
  · refine el_0_2 hQ4 fun hI hN => ?_
    refine T.item i a B ρ σ s _ _ hv R le hok hI hN fun h' tk v hI2 hs hd => ?_
    refine el_0_2 (offI h' tk R hI hN hs) fun R2 e2 => ?_
    refine el_3_4 (T.obj _ _ hI2) fun o2 vs2 nm2 ho2 hc2 hn2 hd2 => ?_
    exact hQ _ ρ v R2 e2 ⟨hI2, hN⟩ hd fun target Q E q => letGo_J (s := { s with heap := h', toks := tk }) ho2 hc2 hn2 hd2 q
  · refine el_0_2 hQ5 fun hI hN => ?_
    refine T.done B ρ σ s _ _ R le hok hI hN fun h' tk hs => ?_
    refine el_0_2 (offI h' tk R hI hN hs) fun R2 e2 => ?_
    exact h1 rfl _ ρ R2 e2
noncomputable abbrev AsgJ (W : Wd) (C : Ctx) (target : Expr) (a : AV) (K : St → Prop) (X : KX) (σ : St) : Prop := OpU W C (assign target C.env) a K X σ
theorem for_itr {target : Expr} {body orelse : List Stmt} {K : KF} {ok : Nat → St → Prop} {step : Nat → St → St} {vals : List AV} {endX : Option (Value × Bool)} {I : Addr} {It : Nat → Base → Rho → Shared → Prop} (T : Itr W C ρ ok step vals endX I It) (hF : FrsC C) (Inv : Nat → St → Prop) (hok : ∀ i σ, Inv i σ → ok i σ)
    (turn : ∀ i a σ, vals[i]? = some a → Inv i σ → AsgJ W C target a (fun σ₁ => JSs W C body (LoopK C (Inv (i + 1)) K) X σ₁) X (step i σ)) (fin : endX = none → ∀ σ, Inv vals.length σ → JSs W C orelse K X (step vals.length σ)) (finX : ∀ c cl, endX = some (c, cl) → ∀ σ, Inv vals.length σ → X c cl (step vals.length σ))
    (R : Rep W C B ρ σ s) (h0 : Inv 0 σ) (hI : It 0 B ρ s) :
    codeAny (model W.prog W.w) C.A (.forLoop target (.ref I) body orelse C.env) (fun r s' => match r with | .ok f => PostF W C B (ρ.take C.low) s K f s' | .error e => cameBackBy (model W.prog W.w) C.A C.env (PostX W C B (ρ.take C.low) s X) e s') s := by
  refine el_1_1 hF fun L hL => ?_
  refine codeAny_forLoop_any (fun n s' => ∃ i ρ' σ', n + i = vals.length ∧ Ext (ρ.take C.low) s ρ' s' ∧ Rep W C B ρ' σ' s' ∧ Inv i σ' ∧ It i B ρ' s') (fun n s1 hQ7 => ?_) vals.length ⟨0, ρ, σ, rfl, (Ext.refl _ _).low _, R, h0, hI⟩
  refine el_3_5 hQ7 fun i ρ1 σ1 hni e1 R1 i1 t1 => ?_
  have err : ∀ {ρ2 : Rho} {s2 : Shared}, Ext (ρ.take C.low) s ρ2 s2 → ∀ v s3, PostX W C B (ρ2.take C.low) s2 X v s3 → notedBy (model W.prog W.w) C.A C.env (fun e s' => cameBackBy (model W.prog W.w) C.A C.env (PostX W C B (ρ.take C.low) s X) e s') v s3 := fun e2 v s3 hP => hP.el fun ρ3 cls cl σ3 e ev e3 R3 F3 x3 => by
    subst ev
    exact noted_J R3 hL F3 fun h' R4 E4 F4 => ⟨ρ3, cls, cl, σ3, e, rfl, (e2.transL e3).trans E4, R4, F4, x3⟩
  cases hv : vals[i]? with
  | none =>
    have hi : i = vals.length := by
      rcases Nat.lt_or_ge i vals.length with q | q
      · rw [List.getElem?_eq_getElem q] at hv; cases hv
      · omega
    subst hi
    refine T.done B ρ1 σ1 s1 _ _ R1 e1.1 (hok _ _ i1) t1 (fun hn s2 ρ2 R2 e2 => ?_) fun c cl hc s2 ρ2 e R2 e2 F2 => ?_
    · exact wpAny_mono (fin hn σ1 i1 B ρ2 _ R2) (fun f s3 x => x.ext ((e1.trans e2).cut)) fun v s3 x => err (e1.trans e2) v s3 x
    · exact err (e1.trans e2) _ _ ⟨ρ2, c, cl, _, e, rfl, (Ext.refl _ _).low _, R2, F2, finX c cl hc σ1 i1⟩
  | some a =>
    refine T.item i a B ρ1 σ1 s1 _ _ hv R1 e1.1 (hok _ _ i1) t1 fun s1' ρ1' v R2 e2 t2 hdv hgo => ?_
    refine hgo _ _ _ ?_
    have R2' := R2.rebase
    have le := baseOf_le R2 (l := ownA C ρ1') fun _ x => x
    have handB := R1.hand
    have leave : ∀ {ρ3 : Rho} {σ3 : St} {s3 : Shared}, Frz s1'.heap s3.heap → Rep W C (baseOf (ownA C ρ1') ρ1' s1') ρ3 σ3 s3 → Rep W C B ρ3 σ3 s3 ∧ It (i + 1) B ρ3 s3 := fun hz R3 => ⟨R3.unbase le handB, T.stay _ _ _ _ _ _ _ _ t2 R2 R3 hz⟩
    have errB : ∀ {ρ2 : Rho} {s2 : Shared}, Frz s1'.heap s2.heap → Ext (ρ.take C.low) s ρ2 s2 → ∀ v s3, PostX W C (baseOf (ownA C ρ1') ρ1' s1') (ρ2.take C.low) s2 X v s3 → notedBy (model W.prog W.w) C.A C.env (fun e s' => cameBackBy (model W.prog W.w) C.A C.env (PostX W C B (ρ.take C.low) s X) e s') v s3 := fun hz e2 v s3 hP => hP.el fun ρ3 cls cl σ3 e ev e3 R3 F3 x3 =>
      err e2 v s3 ⟨ρ3, cls, cl, σ3, e, ev, e3, (leave (hz.trans e3.2) R3).1, F3.weaken fun a na => ⟨na.1, (by
        cases q : B.h.get? a with
        | none => rfl
        | some o => (refine el_1_2 (le.1 a o q) fun o1 _ q1 => ?_; have := na.2.1; rw [q1] at this; cases this)), na.2.2⟩, x3⟩
    refine wpAny_mono (turn i a σ1 hv i1 _ ρ1' _ v R2' hdv) (fun _ s2 hP => hP.el fun ρ2 σ2 e3 R3 k3 => ?_) fun v s3 x => errB (.refl _) (e1.trans e2) v s3 (x.low _)
    have e123 := (e1.trans e2).trans e3
    refine wpAny_mono (k3 _ ρ2 s2 R3) (fun f s3 hP => hP.el fun ρ4 a4 σ4 e4 R4 d4 k4 => ?_) fun v s3 x => errB e3.2 e123 v s3 x
    refine el_0_2 (leave (e3.2.trans e4.2) R4) fun R4' t4 => ?_
    have e1234 := e123.transL e4
    cases a4 <;> cases f <;> first
      | exact d4.elim
      | (obtain ⟨σ', b, i'⟩ := k4
         refine el_1_4 (R4'.back b) fun ρ5 R5 e5 hsub _ => ?_
         have hlt := (List.getElem?_eq_some_iff.mp hv).1
         exact ⟨n - 1, by omega, i + 1, ρ5, σ', by omega, e1234.transL e5, R5, i', T.sub _ _ _ _ _ t4 hsub⟩)
      | exact ⟨ρ4, .next, σ4, e1234, R4', trivial, k4⟩
      | exact ⟨ρ4, _, σ4, e1234, R4', d4, k4⟩
noncomputable def ForJ (W : Wd) (C : Ctx) (target : Expr) (body orelse : List Stmt) (a : AV) (K : KF) (X : KX) (σ : St) : Prop :=
  ∀ B ρ s v, Rep W C B ρ σ s → DenA ρ s.heap a v → wpAny (model W.prog W.w) C.A (pyIter v) (fun it s₂ =>
    codeAny (model W.prog W.w) C.A (.forLoop target it body orelse C.env) (fun r s' => match r with | .ok f => PostF W C B (ρ.take C.low) s K f s' | .error e => cameBackBy (model W.prog W.w) C.A C.env (PostX W C B (ρ.take C.low) s X) e s') s₂) (PostX W C B ρ s X) s
theorem JS_For {target iter : Expr} {body orelse : List Stmt} {pos : Pos} {K : KF} (hs : ∀ x, foldedSetIterable iter C.env x = pure x) (hF : FrsC C) (h : J W C iter (fun a σ₁ => ForJ W C target body orelse a K X σ₁) X σ) : JS W C (.For target iter body orelse pos) K X σ := fun B ρ s R => by
  refine wpAny_For (wpAny_mono (h B ρ s R) (fun v s1 hP => hP.el fun ρ1 a σ1 e1 R1 d1 k1 => ?_) fun _ _ x => x.low _) hs
  refine el_1_1 hF fun L hL => ?_
  refine wpAny_mono (k1 B ρ1 s1 v R1 d1) (fun it s2 h2 => codeAny_mono h2 fun r s3 h3 => ?_) fun _ _ x => (x.ext e1).low _
  cases r with
  | ok f => exact PostF.ext (e1.lowcut _) h3
  | error e =>
    show cameBackBy _ _ _ _ _ _
    exact wpAny_mono h3 (fun _ s4 x => x.ext (e1.lowcut _)) fun _ s4 x => x.ext (e1.lowcut _)
noncomputable def Ctx.lowTo (C : Ctx) (n : Nat) : Ctx := { C with low := n }
theorem Rep.lowTo {n : Nat} (R : Rep W C B ρ σ s) : Rep W (C.lowTo n) B ρ σ s :=
  { top := R.top, keep := R.keep, nodup := R.nodup, fresh := R.fresh, frame := R.frame, live := R.live, len := R.len, objs := R.objs, gkeep := R.gkeep, gnew := R.gnew, gnod := R.gnod, frs := R.frs, hand := R.hand, bare := R.bare, os := R.os }
theorem Rep.ofLow {n : Nat} (R : Rep W (C.lowTo n) B ρ σ s) : Rep W C B ρ σ s :=
  { top := R.top, keep := R.keep, nodup := R.nodup, fresh := R.fresh, frame := R.frame, live := R.live, len := R.len, objs := R.objs, gkeep := R.gkeep, gnew := R.gnew, gnod := R.gnod, frs := R.frs, hand := R.hand, bare := R.bare, os := R.os }
end
end
section
noncomputable def HD (A : Around) (h : Heap) : Prop := A.handled = none ∨ ∃ e o vs, A.handled = some (.ref e) ∧ h.get? e = some o ∧ o.data = .fields vs ∧ vs[2]? = some .none
theorem Rep.hd {W : Wd} {C : Ctx} {B : Base} {ρ : Rho} {σ : St} {s : Shared} (R : Rep W C B ρ σ s) (hc : C.hclean = true) : HD C.A s.heap := by
  cases q : C.A.handled with
  | none => exact .inl q
  | some v =>
    refine el_3_8 (R.handS v q) fun e o vs hE53 h1 _ _ _ h2 _ h3 => ?_; subst hE53
    exact .inr ⟨e, o, vs, q, h1, h2, h3 hc⟩
section
variable {prog : Program} {w : World} {A : Around} {E : Value → Shared → Prop} {s : Shared}
theorem entry_unchain : entryFor table "proto.unchain" = some Builtin.«proto.unchain» := entryFor_of_tree (by kernel_rfl)
theorem raiseNew_gen {α : Type} {Q : α → Shared → Prop} {e : Addr} {oe : Obj} {vs : Array Value} (hd : HD A s.heap) (he : s.heap.get? e = some oe) (hv : oe.data = .fields vs) (hz : 2 < vs.size) (hne : ∀ x, A.handled = some x → x ≠ .ref e)
    (h0 : A.handled = none → E (.ref e) s)
    (h1 : ∀ x, A.handled = some x → E (.ref e) { s with heap := s.heap.update e (Obj.mapFields (·.setIfInBounds 2 x)) }) : wpAny (model prog w) A (raiseNew (.ref e) : Sem α) Q E s := by
  unfold raiseNew
  refine wpAny_bind (wpAny_handled ?_)
  rcases hd with hd | ⟨x, o, ws, q1, q2, q3, q4⟩
  · rw [hd]
    exact wpAny_bind (wpAny_pure (wpAny_throw (h0 hd)))
  · rw [q1]
    dsimp only
    rw [if_pos (show (Value.ref x != Value.ref e) = true from by have := hne _ q1; simpa using this)]
    refine wpAny_bind (wpAny_holding (wpAny_runValue (codeAny_builtin entry_unchain ?_)))
    unfold Builtin.«proto.unchain»
    refine wpAny_bind (wpAny_field q2 q3 q4 ?_)
    rw [if_pos (by rfl)]
    refine wpAny_bind (wpAny_pure ?_)
    refine wpAny_pure ?_
    unfold updateField
    refine wpAny_bind (wpAny_bind (wpAny_load he ?_))
    rw [hv]
    dsimp only
    rw [if_pos hz]
    exact wpAny_update he (wpAny_throw (h1 _ q1))
theorem stop_gen2 {α : Type} {Q : α → Shared → Prop} (hd : HD A s.heap)
    (h : ∀ h' e, (∀ b o, s.heap.get? b = some o → h'.get? b = some o) → ({ s with heap := h' } : Shared).TypeIs (.ref e) "StopIteration" → E (.ref e) { s with heap := h' }) : wpAny (model prog w) A (newExc (.type "StopIteration") []) (fun e s' => wpAny (model prog w) A (raiseNew e : Sem α) Q E s') E s := by
  simp only [newExc, newTuple]
  refine wpAny_bind (wpAny_newObj_type ?_ (by size_fits))
  refine wpAny_bind (m := firstArgMember _ _) (wpAny_of_eq (a := Value.none) (by first | rfl | (simp only [firstArgMember]; rfl)) ?_)
  refine wpAny_newObj_type ?_ (by size_fits)
  have hk : ∀ (o1 o2 : Obj) b o, s.heap.get? b = some o → ((s.heap.push o1).push o2).get? b = some o := fun o1 o2 b o e => Heap.get?_push_of_some _ (Heap.get?_push_of_some _ e)
  have hnew := Heap.get?_push_size (s.heap.push { cls := .type "tuple", dict := none, data := .seq #[] }) (o := { cls := .type "StopIteration", dict := none, data := .fields (#[.ref s.heap.objs.size, .none, .none, .none, .bool false, .none] ++ ownMembersOf (Value.type "StopIteration") []) }) rfl
  have hne : ∀ (x : Value), A.handled = some x → x ≠ .ref (s.heap.push { cls := .type "tuple", dict := none, data := .seq #[] }).objs.size := fun x q => by
    rcases hd with hd | ⟨e, o, vs, q1, q2, _⟩
    · rw [hd] at q; cases q
    · rw [q1] at q; cases q
      intro c
      injection c with c
      have := Heap.lt_size q2
      rw [c, Heap.size_push] at this
      exact Nat.lt_irrefl _ (Nat.lt_of_succ_lt this)
  refine raiseNew_gen (oe := _) (vs := _) ?_ hnew rfl (by simp only [Array.size_append]; exact Nat.lt_of_lt_of_le (by decide : 2 < 6) (Nat.le_add_right 6 _)) hne (fun q => h _ _ (hk _ _) ⟨_, hnew, rfl⟩) fun x q => h _ _ (fun b o e => ?_) ⟨_, Heap.get?_update_self _ hnew rfl, rfl⟩
  · rcases hd with hd | ⟨e, o, vs, q1, q2, q3⟩
    · exact .inl hd
    · exact .inr ⟨e, o, vs, q1, hk _ _ _ _ q2, q3⟩
  · rw [Heap.get?_update_other _ _ (fun q => ?_)]
    · exact hk _ _ _ _ e
    · have := Heap.lt_size e
      rw [← q, Heap.size_push] at this
      exact Nat.lt_irrefl _ (Nat.lt_of_succ_lt this)
theorem stop_gen {α : Type} {Q : α → Shared → Prop} (hd : HD A s.heap)
    (h : ∀ h' e, (∀ b o, s.heap.get? b = some o → h'.get? b = some o) → ({ s with heap := h' } : Shared).TypeIs (.ref e) "StopIteration" → E (.ref e) { s with heap := h' }) : wpAny (model prog w) A (newExc (.type "StopIteration") [] >>= fun e => (raiseNew e : Sem α)) Q E s :=
  wpAny_bind (stop_gen2 hd h)
theorem list_end {it l : Addr} {i : Nat} {items} {Q : Option Value → Shared → Prop} (hd : HD A s.heap) (hit : s.heap.IsListIter it l i) (hl : s.heap.IsList l items) (hx : items[i]? = none)
    (hQ : ∀ h', Heap.ExtBut it s.heap h' → Q none { s with heap := h' }) : wpAny (model prog w) A (pyNext (.ref it)) Q E s := by
  refine el_1_3 (id hit) fun o ho hc hdt => ?_
  obtain ⟨ol, hol, _, nl, hdl⟩ := hl
  unfold pyNext
  refine wpAny_bind (wpAny_attempt (wpAny_callSpecial?_slot (name := Str.ofString "__next__") hit.typeIs slot_listiter_next (wpAny_call_entry slot_listiter_next hit.typeIs entry_listiter_next ?_ (args_listiter_next _))))
  show wpAny _ _ (field (.ref it) 0 >>= _) _ _ s
  refine wpAny_bind (wpAny_field ho hdt (x := .ref l) rfl ?_)
  show wpAny _ _ (if (Value.ref l == Value.none) = true then _ else _) _ _ s
  rw [if_neg (show ¬ ((Value.ref l == Value.none) = true) from Bool.false_ne_true)]
  show wpAny _ _ (field (.ref it) 1 >>= _) _ _ s
  refine wpAny_bind (wpAny_field ho hdt (x := .int i 0) rfl ?_)
  show wpAny _ _ (seqItems? (.ref l) >>= _) _ _ s
  refine wpAny_bind (wpAny_seqItems hol hdl ?_)
  simp only [Int.toNat_natCast, hx]
  refine wpAny_bind (wpAny_rule (wpAny_bind (wpAny_setField ho hdt (by simp) ?_)))
  have hs : Heap.ExtBut it s.heap (s.heap.update it (Obj.mapFields (·.setIfInBounds 0 Value.none))) := (Heap.SameBut.update ..).extBut
  show wpAny _ _ (newExc (.type "StopIteration") [] >>= fun e => raiseNew e) _ _ _
  refine stop_gen ?_ fun h' e hk ht => wpAny_bind (wpAny_isInstance (T := "StopIteration") (b := true) ht isSubtype_stop (wpAny_pure (hQ h' fun b o hb e => hk b o (hs b o hb e))))
  rcases hd with hd | ⟨e, oe, vs, q1, q2, q3, q4⟩
  · exact .inl hd
  · by_cases c : e = it
    · subst c
      rw [q2] at ho; cases ho
      rw [hdt] at q3; cases q3
      simp at q4
    · exact .inr ⟨e, oe, vs, q1, hs e oe c q2, q3, q4⟩
theorem tuple_end {it l : Addr} {i : Nat} {items} {Q : Option Value → Shared → Prop} (hd : HD A s.heap) (hit : IsTupIter s.heap it l i) (hl : IsTup s.heap l items) (hx : items[i]? = none)
    (hQ : ∀ h', Heap.ExtBut it s.heap h' → Q none { s with heap := h' }) : wpAny (model prog w) A (pyNext (.ref it)) Q E s := by
  refine el_1_3 (id hit) fun o ho hc hdt => ?_
  obtain ⟨ol, hol, _, nl, hdl⟩ := hl
  unfold pyNext
  refine wpAny_bind (wpAny_attempt (wpAny_callSpecial?_slot (name := Str.ofString "__next__") hit.typeIs slot_tupleiter_next (wpAny_call_entry slot_tupleiter_next hit.typeIs entry_tupleiter_next ?_ (args_tupleiter_next _))))
  show wpAny _ _ (field (.ref it) 0 >>= _) _ _ s
  refine wpAny_bind (wpAny_field ho hdt (x := .ref l) rfl ?_)
  show wpAny _ _ (if (Value.ref l == Value.none) = true then _ else _) _ _ s
  rw [if_neg (show ¬ ((Value.ref l == Value.none) = true) from Bool.false_ne_true)]
  show wpAny _ _ (field (.ref it) 1 >>= _) _ _ s
  refine wpAny_bind (wpAny_field ho hdt (x := .int i 0) rfl ?_)
  show wpAny _ _ (seqItems? (.ref l) >>= _) _ _ s
  refine wpAny_bind (wpAny_seqItems hol hdl ?_)
  simp only [Int.toNat_natCast, hx]
  refine wpAny_bind (wpAny_rule (wpAny_bind (wpAny_setField ho hdt (by simp) ?_)))
  have hs : Heap.ExtBut it s.heap (s.heap.update it (Obj.mapFields (·.setIfInBounds 0 Value.none))) := (Heap.SameBut.update ..).extBut
  show wpAny _ _ (newExc (.type "StopIteration") [] >>= fun e => raiseNew e) _ _ _
  refine stop_gen ?_ fun h' e hk ht => wpAny_bind (wpAny_isInstance (T := "StopIteration") (b := true) ht isSubtype_stop (wpAny_pure (hQ h' fun b o hb e => hk b o (hs b o hb e))))
  rcases hd with hd | ⟨e, oe, vs, q1, q2, q3, q4⟩
  · exact .inl hd
  · by_cases c : e = it
    · subst c
      rw [q2] at ho; cases ho
      rw [hdt] at q3; cases q3
      simp at q4
    · exact .inr ⟨e, oe, vs, q1, hs e oe c q2, q3, q4⟩
theorem unpackItems_tup {t : Addr} {items : Array Value} {Q : List Value → Shared → Prop} (hd : HD A s.heap) (ht : IsTup s.heap t items)
    (hQ : ∀ h', (∀ b o, s.heap.get? b = some o → h'.get? b = some o) → Q items.toList { s with heap := h' }) : wpAny (model prog w) A (unpackItems (.ref t) items.size none) Q E s := by
  have hlt : t ≠ s.heap.objs.size := by refine el_1_2 ht fun o ho _ => ?_; exact Nat.ne_of_lt (Heap.lt_size ho)
  unfold unpackItems notIterableAtAll
  refine wpAny_bind (wpAny_bind (wpAny_specialOf ht.typeIs slot_tuple_iter.lookup (wpAny_pure ?_)))
  simp only [Bool.false_eq_true, if_false]
  refine wpAny_bind (wpAny_holding (iter_tuple ht (wpAny_bind (wpAny_holding (draw_tuple hlt items.size 0 _ _ ⟨_, Heap.get?_push_size _ rfl, rfl, rfl⟩ (ht.push _) (by omega) fun h₁ hit₁ hs₁ => ?_)))))
  rw [show List.take items.size (List.drop 0 items.toList) = items.toList by rw [List.drop_zero]; exact List.take_of_length_le (by simp)]
  rw [if_neg (by simp)]
  have up : ∀ b o, s.heap.get? b = some o → h₁.get? b = some o := fun b o e => hs₁.extBut b o (Nat.ne_of_lt (Heap.lt_size e)) (Heap.get?_push_of_some _ e)
  have hd₁ : HD A h₁ := by
    rcases hd with hd | ⟨e, oe, vs, q1, q2, q3⟩
    · exact .inl hd
    · exact .inr ⟨e, oe, vs, q1, up _ _ q2, q3⟩
  refine wpAny_bind (wpAny_holding (tuple_end (s := { s with heap := h₁ }) hd₁ hit₁ (ht.keeps up) (by simp) fun h₂ he₂ => ?_))
  simp only [Option.isSome_none, Bool.false_eq_true, if_false]
  exact wpAny_pure (hQ h₂ fun b o e => he₂ b o (Nat.ne_of_lt (Heap.lt_size e)) (up b o e))
end
end
section
theorem assignEach_one (env : Env) (e : Expr) (r : List Expr) (h : notStar e = true) : assignEach (e :: r) env = (false, assign e env) :: assignEach r env := by
  cases e <;> first | rfl | exact (Bool.false_ne_true h).elim
theorem assignEach_plain (env : Env) (es : List Expr) (h : es.all notStar = true) : assignEach es env = es.map fun e => (false, assign e env) := by
  induction es with
  | nil => rfl
  | cons e r ih =>
    rw [List.all_cons, Bool.and_eq_true] at h
    rw [assignEach_one env e r h.1, ih h.2]; rfl
theorem findIdx_plain (env : Env) (es : List Expr) : ((es.map fun e => (false, assign e env)).findIdx? (·.1)) = none := by
  rw [List.findIdx?_eq_none_iff]
  intro x hx
  refine el_1_2 (List.mem_map.mp hx) fun e _ hE66 => ?_; subst hE66
  rfl
noncomputable def AsgL (W : Wd) (C : Ctx) : List Expr → List AV → (St → Prop) → KX → St → Prop
  | [], [], K, _, σ => K σ
  | e :: es, a :: l, K, X, σ => AsgJ W C e a (fun σ₁ => AsgL W C es l K X σ₁) X σ
  | _, _, _, _, _ => False
theorem DenAL.take {ρ : Rho} {h : Heap} {n : Nat} : (∀ {a : AV} {v : Value}, DenA ρ h a v → a.lt n = true → DenA (ρ.take n) h a v) ∧ ∀ {l : List AV} {vs : List Value}, DenL ρ h l vs → AV.ltL n l = true → DenL (ρ.take n) h l vs :=
  DenA.ind (fun _ => .non) (fun b _ => .bool b) (fun i t _ => .int i t) (fun i t _ => .byt i t) (fun i t _ => .str i t) (fun v _ => .con v) (fun n q _ d x => .tup n q (d x)) (fun e x => .obj (get_take (of_decide_eq_true x) e)) (fun _ => .nil) fun _ _ a b x =>
    have x := (Bool.and_eq_true _ _).mp (by rw [AV.ltL] at x; exact x)
    .cons (a x.1) (b x.2)
theorem DenA.take {ρ : Rho} {h : Heap} {n : Nat} {a : AV} {v : Value} (d : DenA ρ h a v) : a.lt n = true → DenA (ρ.take n) h a v := DenAL.take.1 d
theorem DenL.take {ρ : Rho} {h : Heap} {n : Nat} {l : List AV} {vs : List Value} (d : DenL ρ h l vs) : AV.ltL n l = true → DenL (ρ.take n) h l vs := DenAL.take.2 d
section
variable {W : Wd} {C : Ctx} {B : Base} {ρ ρ₀ : Rho} {σ : St} {s s₀ : Shared} {X : KX} {K : St → Prop}
theorem AsgJ_name {x : Str} {p : Pos} {a : AV} (h : SetN W C x a K X σ) : AsgJ W C (.Name x p) a K X σ := fun B ρ s v R d => wpAny_assign_Name (h B ρ s v R d)
theorem AsgL_run {E : List Expr} : ∀ {l : List AV} {σ : St} {ρ : Rho} {s : Shared} {vs : List Value}, AsgL W C E l K X σ → Rep W C B ρ σ s → DenL ρ s.heap l vs →
    wpAny (model W.prog W.w) C.A (assignInOrder (E.map fun e => assign e C.env) vs) (PostU W C B ρ s K) (PostX W C B ρ s X) s := by
  induction E with
  | nil =>
    intro l σ ρ s vs h R d
    cases l with
    | nil => obtain rfl := d.iNil; exact assignInOrder_nil ⟨ρ, σ, .refl _ _, R, h⟩
    | cons a l => exact h.elim
  | cons e E ih =>
    intro l σ ρ s vs h R d
    cases l with
    | nil => exact h.elim
    | cons a l =>
      cases d with
      | cons d1 d2 =>
        refine assignInOrder_cons (wpAny_mono (h B ρ s _ R d1) (fun _ s1 hP => hP.el fun ρ1 σ1 e1 R1 k1 => ?_) fun _ _ x => x)
        exact wpAny_mono (ih k1 R1 (d2.ext e1)) (fun _ _ x => x.ext e1) fun _ _ x => x.ext e1
theorem AsgJ_tuple {elts : List Expr} {k : Nat} {pos : Pos} {l : List AV} (hc : C.hclean = true) (hs : elts.all notStar = true) (hl : elts.length = l.length) (h : AsgL W C elts l K X σ) : AsgJ W C (.Tuple elts k pos) (.tu l) K X σ := fun B ρ s v R d => by
  cases d with
  | @tup _ _ vs t hn q d =>
    have hlen := d.length
    have ht : IsTup s.heap t vs.toArray := q
    rw [assign_Tuple]
    refine wpAny_bind (wpAny_standAt ?_)
    unfold unpack
    rw [assignEach_plain _ _ hs, findIdx_plain, List.length_map, List.map_map, show elts.length = vs.toArray.size by rw [List.size_toArray, hlen, hl]]
    refine wpAny_bind (wpAny_holding (unpackItems_tup (R.hd hc) ht fun h' hk => ?_))
    have G : Rep W C B ρ σ { s with heap := h' } := R.grow hk
    have e : Ext ρ s ρ { s with heap := h' } := ⟨.refl _, .ofExt hk⟩
    exact wpAny_mono (AsgL_run h G (d.ext e)) (fun _ _ x => x.ext e) fun _ _ x => x.ext e
theorem frz_but {h h' : Heap} {I : Addr} {o : Obj} {vs : Array Value} (ho : h.get? I = some o) (hd : o.data = .fields vs) (hs : Heap.ExtBut I h h') : Frz h h' := fun a c ws _ ⟨o', ho', hc, n, hd'⟩ =>
  ⟨o', hs a o' (fun q => by subst q; rw [ho] at ho'; cases ho'; rw [hd] at hd'; cases hd') ho', hc, n, hd'⟩
theorem Itr0.list {k : Nat} {vals : List AV} {own : Own} {I : Addr} (hc : C.hclean = true) (hk : k < C.low) (ho : ρ₀[k]? = some own) : Itr0 W C ρ₀ (fun σ => σ.objs[k]? = some (.list vals)) vals I (fun i h => h.IsListIter I own.a i) where
  obj := fun i h hQ1 => by refine el_1_3 hQ1 fun o h1 h2 h3 => ?_; exact ⟨o, _, _, h1, h2, by decide, h3⟩
  mono := fun i h h' hQ2 _ e => by refine el_1_3 hQ2 fun o h1 h2 h3 => ?_; exact ⟨o, e.trans h1, h2, h3⟩
  item := fun i a B ρ σ s Q E hv R le ok it hN hQ => by
    refine el_1_2 (le k own (get_take hk ho)) fun own' e1 e2 => ?_
    refine el_1_2 (R.objs k own' _ e1 ok) fun vs hlp d => ?_
    have hl := hlp.isList
    refine el_1_2 (d.get hv) fun v h1 h2 => ?_
    rw [e2] at hl
    refine el_1_3 (id it) fun o q1 _ q2 => ?_
    exact wpAny_pyNext_list_item it hl (x := v) (by simpa using h1) fun h' it' hs => hQ h' s.toks v it' hs.extBut (h2.mono (frz_but q1 q2 hs.extBut) (.refl _))
  done := fun B ρ σ s Q E R le ok it hN hQ => by
    refine el_1_2 (le k own (get_take hk ho)) fun own' e1 e2 => ?_
    refine el_1_2 (R.objs k own' _ e1 ok) fun vs hlp d => ?_
    have hl := hlp.isList
    rw [e2] at hl
    exact list_end (R.hd hc) it hl (by simp [d.length]) fun h' hs => hQ h' s.toks hs
  self := fun _ _ _ _ it hQ => wpAny_pyIter_listiter it hQ
theorem Itr0.tuple {vals : List AV} {vs : List Value} {t : Addr} {I : Addr} (hc : C.hclean = true) : Itr0 W C ρ₀ (fun _ => True) vals I (fun i h => IsTupIter h I t i ∧ IsTup h t vs.toArray ∧ DenL (ρ₀.take C.low) h vals vs) where
  obj := fun i h hQ3 => by refine el_0_2 hQ3 fun hO10 _ => ?_; obtain ⟨o, h1, h2, h3⟩ := hO10; exact ⟨o, _, _, h1, h2, by decide, h3⟩
  mono := fun i h h' hQ4 z e => by refine el_0_3 hQ4 fun hO11 ht d => ?_; obtain ⟨o, h1, h2, h3⟩ := hO11; exact ⟨⟨o, e.trans h1, h2, h3⟩, z t _ _ (fun c => nomatch c) ht, d.mono z (.refl _)⟩
  item := fun i a B ρ σ s Q E hv R le ok hQ5 hN hQ => by
    refine el_0_3 hQ5 fun it ht d => ?_
    refine el_1_2 (d.get hv) fun v h1 h2 => ?_
    refine el_1_3 (id it) fun o q1 _ q2 => ?_
    refine next_tuple_item it ht (x := v) (by simpa using h1) fun h' it' hs => ?_
    have z := frz_but q1 q2 hs.extBut
    exact hQ h' s.toks v ⟨it', z t _ _ (fun c => nomatch c) ht, d.mono z (.refl _)⟩ hs.extBut (h2.mono z le)
  done := fun B ρ σ s Q E R le ok hQ6 hN hQ => by refine el_0_3 hQ6 fun it ht d => ?_; exact tuple_end (R.hd hc) it ht (by simp [d.length]) fun h' hs => hQ h' s.toks hs
  self := fun _ _ _ _ it hQ => wpAny_pyIter_tupleiter it.1 hQ
theorem Itr0.bytes {l : List UInt8} {t : Tok} {I : Addr} (hh : C.A.handled = none) : Itr0 W C ρ₀ (fun _ => True) (l.map fun c => .int (c.toNat : Int)) I (fun i h => KBw.IsBytesIter h I l.toArray t i) where
  obj := fun i h hQ7 => by refine el_1_3 hQ7 fun o h1 h2 h3 => ?_; exact ⟨o, _, _, h1, h2, by decide, h3⟩
  mono := fun i h h' hQ8 _ e => by refine el_1_3 hQ8 fun o h1 h2 h3 => ?_; exact ⟨o, e.trans h1, h2, h3⟩
  item := fun i a B ρ σ s Q E hv R le ok it hN hQ => by
    rw [List.getElem?_map] at hv
    refine el_1_2 (Option.map_eq_some_iff.mp hv) fun c h1 hE67 => ?_; subst hE67
    exact KBw.next_item it (c := c) (by simpa using h1) fun h' it' hs => hQ h' _ _ it' hs.extBut (.int _ _)
  done := fun B ρ σ s Q E R le ok it hN hQ => KBw.next_end hh it (by simp) fun h' hs => hQ h' s.toks hs
  self := fun _ _ _ _ it hQ => KBw.pyIter_self it hQ
noncomputable def rngVals (a b c : Int) : List AV := (List.range (Builtin.Range.rangeSize a b c).toNat).map fun (i : Nat) => .int (a + (i : Int) * c)
theorem Itr0.range {a b c : Int} {I : Addr} (hh : C.A.handled = none) : Itr0 W C ρ₀ (fun _ => True) (rngVals a b c) I (fun i h => IsRangeIter h I (a + i * c) (Builtin.Range.rangeSize a b c - i) c) where
  obj := fun i h ho => ⟨_, _, _, ho, rfl, by decide, rfl⟩
  mono := fun i h h' ho _ e => e.trans ho
  item := fun i v B ρ σ s Q E hv R le ok it hN hQ => by
    unfold rngVals at hv
    rw [List.getElem?_map] at hv
    refine el_1_2 (Option.map_eq_some_iff.mp hv) fun j h1 hE68 => ?_; subst hE68
    refine el_1_1 (List.getElem?_eq_some_iff.mp h1) fun hlt h2 => ?_
    rw [List.getElem_range] at h2
    subst h2
    rw [List.length_range] at hlt
    refine wpAny_pyNext_range_item it (by omega) fun h' it' hs => hQ h' _ _ ?_ hs.extBut (.int _ _)
    have e1 : a + (↑(i + 1) : Int) * c = a + ↑i * c + c := by rw [Int.natCast_succ, Int.add_mul, Int.one_mul]; omega
    rw [e1, show Builtin.Range.rangeSize a b c - (↑(i + 1) : Int) = Builtin.Range.rangeSize a b c - ↑i - 1 by omega]
    exact it'
  done := fun B ρ σ s Q E R le ok it hN hQ => wpAny_pyNext_range_end hh it (by simp [rngVals]; omega) fun h' hs => hQ h' s.toks hs
  self := fun _ _ _ _ it hQ => wpAny_pyIter_rangeiter it hQ
variable {target : Expr} {body orelse : List Stmt} {K : KF}
theorem iterNew (R : Rep W C B ρ σ s) (o : Obj) : Rep W C B ρ σ { s with heap := s.heap.push o } ∧ Ext ρ s ρ { s with heap := s.heap.push o } ∧ NewA W C B ρ s.heap.objs.size :=
  have hk : ∀ b o', s.heap.get? b = some o' → (s.heap.push o).get? b = some o' := fun b o' e => Heap.get?_push_of_some _ e
  ⟨R.grow hk, ⟨.refl _, .ofExt hk⟩, R.newNot (by
    cases q : s.heap.get? s.heap.objs.size with
    | none => rfl
    | some o => exact absurd (Heap.lt_size q) (Nat.lt_irrefl _))⟩
theorem post_cut {ρ : Rho} {s s₁ : Shared} (e : Ext ρ s ρ s₁) : ∀ (r : Result) (s' : Shared), (match r with | .ok f => PostF W C B (ρ.take C.low) s₁ K f s' | .error e => cameBackBy (model W.prog W.w) C.A C.env (PostX W C B (ρ.take C.low) s₁ X) e s') →
    (match r with | .ok f => PostF W C B (ρ.take C.low) s K f s' | .error e => cameBackBy (model W.prog W.w) C.A C.env (PostX W C B (ρ.take C.low) s X) e s')
  | .ok f, s', h => PostF.ext (e.lowcut _) h
  | .error v, s', h => by
    show cameBackBy _ _ _ _ _ _
    exact wpAny_mono h (fun _ s4 x => x.ext (e.lowcut _)) fun _ s4 x => x.ext (e.lowcut _)
noncomputable def Placed (b : Bool) (W : Wd) (C : Ctx) (B : Base) (ρ : Rho) (I : Addr) : Prop := match b with
  | true => I ∈ rhoAs ρ
  | false => NewA W C B ρ I
noncomputable def Iters (W : Wd) (C : Ctx) (P : Ctx → Prop) (ok : Nat → St → Prop) (step : Nat → St → St) (a : AV) (vals : List AV) (endX : Option (Value × Bool)) (σ σ₁ : St) : Prop := ∀ (B : Base) (ρ : Rho) (s : Shared) (v : Value) (Q : Value → Shared → Prop) (E : Value → Shared → Prop), Rep W C B ρ σ s → DenA ρ s.heap a v →
  (∀ I s₁, Rep W C B ρ σ₁ s₁ → Ext ρ s ρ s₁ → ∀ b, Placed b W C B ρ I → (∃ o, s₁.heap.get? I = some o) → (∀ C' ρ₁ s₂, P C' → (∀ (k : Nat) x, ρ[k]? = some x → ρ₁[k]? = some x) → (∀ b x, s₁.heap.get? b = some x → s₂.heap.get? b = some x) → s₂.gens = s₁.gens →
      ∃ It, Itr W C' ρ₁ ok step vals endX I It ∧ ∀ B', Placed b W C' B' ρ₁ I → It 0 B' ρ₁ s₂) → Q (.ref I) s₁) → wpAny (model W.prog W.w) C.A (pyIter v) Q E s
theorem Iters.simple {P : Ctx → Prop} {ok : St → Prop} {a : AV} {vals : List AV} (h : ∀ (B : Base) (ρ : Rho) (s : Shared) (v : Value) (Q : Value → Shared → Prop) (E : Value → Shared → Prop), Rep W C B ρ σ s → DenA ρ s.heap a v →
    (∀ o, (∀ C' ρ₁ h₁, P C' → (∀ (k : Nat) x, ρ[k]? = some x → ρ₁[k]? = some x) → (∀ b x, (s.heap.push o).get? b = some x → h₁.get? b = some x) → ∃ It, Itr0 W C' ρ₁ ok vals s.heap.objs.size It ∧ It 0 h₁) → o.isFreed = false → Q (.ref s.heap.objs.size) { s with heap := s.heap.push o }) → wpAny (model W.prog W.w) C.A (pyIter v) Q E s) :
    Iters W C P (fun _ => ok) (fun _ σ => σ) a vals none σ σ := fun B ρ s v Q E R d hQ => by
  refine h B ρ s v Q E R d fun o hIt hf => ?_
  refine el_0_3 (iterNew R o) fun R1 e1 n1 => ?_
  refine hQ _ _ R1 e1 false n1 ⟨o, Heap.get?_push_size _ hf⟩ fun C' ρ₁ s₂ hP hr hx _ => ?_
  refine el_1_2 (hIt C' ρ₁ s₂.heap hP hr hx) fun It T h1 => ?_
  exact ⟨_, T.itr, fun B' hN => ⟨h1, hN⟩⟩
theorem Iters_list {k : Nat} {vals : List AV} (ho : σ.objs[k]? = some (.list vals)) : Iters W C (fun C' => C'.hclean = true ∧ k < C'.low) (fun _ σ => σ.objs[k]? = some (.list vals)) (fun _ σ => σ) (.obj k) vals none σ σ := Iters.simple fun B ρ s v Q E R d h => by
  cases d with
  | @obj _ own e =>
    refine el_1_2 (R.objs k own _ e ho) fun vs hlp hd => ?_
    have hl := hlp.isList
    exact wpAny_pyIter_list hl (h _ (fun C' ρ₁ h₁ hP hr hh => ⟨_, Itr0.list hP.1 hP.2 (hr _ _ e), ⟨_, hh _ _ (Heap.get?_push_size _ rfl), rfl, rfl⟩⟩) rfl)
theorem Iters_tuple {vals : List AV} : Iters W C (fun C' => C'.hclean = true ∧ AV.ltL C'.low vals = true) (fun _ _ => True) (fun _ σ => σ) (.tu vals) vals none σ σ := Iters.simple fun B ρ s v Q E R d h => by
  cases d with
  | @tup _ _ vs t hn q d =>
    have ht : IsTup s.heap t vs.toArray := q
    refine iter_tuple ht (h _ (fun C' ρ₁ h₁ hP hr hh => ⟨_, Itr0.tuple (ρ₀ := ρ₁) (t := t) (vs := vs) hP.1, ⟨_, hh _ _ (Heap.get?_push_size _ rfl), rfl, rfl⟩, (ht.push _).keeps hh, ?_⟩) rfl)
    exact (d.mono (.ofExt fun b o e => hh _ _ (Heap.get?_push_of_some _ e)) (.of hr)).take hP.2
theorem Iters_bytes {l : List UInt8} : Iters W C (fun C' => C'.A.handled = none) (fun _ _ => True) (fun _ σ => σ) (.byt l) (l.map fun c => .int (c.toNat : Int)) none σ σ := Iters.simple fun B ρ s v Q E R d h => by
  cases d with
  | byt _ t => exact KBw.pyIter_bytes (h _ (fun C' ρ₁ h₁ hP hr hx => ⟨_, Itr0.bytes (ρ₀ := ρ₁) (l := l) (t := t) hP, ⟨_, hx _ _ (Heap.get?_push_size _ rfl), rfl, rfl⟩⟩) rfl)
theorem Iters_range {k : Nat} {a b c : Int} (ho : σ.objs[k]? = some (.rng a b c)) (hsm : Builtin.Range.small a b c = true) : Iters W C (fun C' => C'.A.handled = none) (fun _ _ => True) (fun _ σ => σ) (.obj k) (rngVals a b c) none σ σ := Iters.simple fun B ρ s v Q E R d h => by
  cases d with
  | @obj _ own e =>
    refine el_3_1 (R.objs k own _ e ho) fun t u w hr => ?_
    refine wpAny_pyIter_range hr hsm (h _ (fun C' ρ₁ h₁ hP hr hx => ⟨_, Itr0.range (ρ₀ := ρ₁) (a := a) (b := b) (c := c) hP, ?_⟩) rfl)
    show IsRangeIter _ _ (a + ((0 : Nat) : Int) * c) (_ - ((0 : Nat) : Int)) c
    rw [show a + ((0 : Nat) : Int) * c = a by simp, show Builtin.Range.rangeSize a b c - ((0 : Nat) : Int) = Builtin.Range.rangeSize a b c by simp]
    exact hx _ _ (Heap.get?_push_size _ rfl)
theorem ForJ_itX {P : Ctx → Prop} {ok : Nat → St → Prop} {step : Nat → St → St} {a : AV} {vals : List AV} {endX : Option (Value × Bool)} {σ₁ : St} (hi : Iters W C P ok step a vals endX σ σ₁) (hP : P C) (hF : FrsC C) (Inv : Nat → St → Prop) (hok : ∀ i σ, Inv i σ → ok i σ)
    (turn : ∀ i a σ, vals[i]? = some a → Inv i σ → AsgJ W C target a (fun σ₁ => JSs W C body (LoopK C (Inv (i + 1)) K) X σ₁) X (step i σ)) (fin : endX = none → ∀ σ, Inv vals.length σ → JSs W C orelse K X (step vals.length σ)) (finX : ∀ c cl, endX = some (c, cl) → ∀ σ, Inv vals.length σ → X c cl (step vals.length σ)) (h0 : Inv 0 σ₁) : ForJ W C target body orelse a K X σ := fun B ρ s v R d => by
  refine hi B ρ s v _ _ R d fun I s₁ R1 e1 b n1 _ h => ?_
  refine el_1_2 (h C ρ _ hP (fun _ _ x => x) (fun _ _ x => x) rfl) fun It T h1 => ?_
  exact codeAny_mono (for_itr T hF Inv hok turn fin finX R1 h0 (h1 B n1)) (post_cut e1)
theorem ForJ_it {P : Ctx → Prop} {ok : St → Prop} {a : AV} {vals : List AV} (hi : Iters W C P (fun _ => ok) (fun _ σ => σ) a vals none σ σ) (hP : P C) (hF : FrsC C) (Inv : Nat → St → Prop) (hok : ∀ i σ, Inv i σ → ok σ)
    (turn : ∀ i a σ, vals[i]? = some a → Inv i σ → AsgJ W C target a (fun σ₁ => JSs W C body (LoopK C (Inv (i + 1)) K) X σ₁) X σ) (fin : ∀ σ, Inv vals.length σ → JSs W C orelse K X σ) (h0 : Inv 0 σ) : ForJ W C target body orelse a K X σ :=
  ForJ_itX hi hP hF Inv hok turn (fun _ => fin) (fun c cl h => nomatch h) h0
theorem ForJ_bytes {l : List UInt8} (hh : C.A.handled = none) (hF : FrsC C) (Inv : Nat → St → Prop)
    (turn : ∀ i c σ, l[i]? = some c → Inv i σ → AsgJ W C target (.int (c.toNat : Int)) (fun σ₁ => JSs W C body (LoopK C (Inv (i + 1)) K) X σ₁) X σ) (fin : ∀ σ, Inv l.length σ → JSs W C orelse K X σ) (h0 : Inv 0 σ) : ForJ W C target body orelse (.byt l) K X σ := by
  refine ForJ_it Iters_bytes hh hF Inv (fun _ _ _ => trivial) (fun i a σ ha => ?_) (fun σ h => fin σ (by simpa using h)) h0
  rw [List.getElem?_map] at ha
  refine el_1_2 (Option.map_eq_some_iff.mp ha) fun c h1 hE69 => ?_; subst hE69
  exact turn i c σ h1
end
end
section
structure IsExc (W : Wd) (c : Value) : Prop where
  make : ∀ (A : Around) (s : Shared) (vs : List Value) (Q : Value → Shared → Prop) (E : Value → Shared → Prop), (∀ b o, W.h1.get? b = some o → s.heap.get? b = some o) → vs.length ≤ 100 →
    (∀ h' e, Heap.MadeExcOf s.heap h' e c vs → Q (.ref e) { s with heap := h' }) → wpAny (model W.prog W.w) A (call c vs []) Q E s
  base : Looks (model W.prog W.w) W.h1 (isSubtype c (.type "BaseException")) true
  meta_ : Looks (model W.prog W.w) W.h1 (typeOf c) (.type "type")
  keep : Keeper1 W c
section
variable {W : Wd} {C : Ctx} {B : Base} {ρ ρ₀ : Rho} {σ : St} {s s₀ : Shared} {K : KA} {X : KX}
noncomputable def NewX (W : Wd) (C : Ctx) (B : Base) (ρ : Rho) (h : Heap) (e : Addr) (c : Value) : Prop := NewA W C B ρ e ∧ ∃ oe vs, h.get? e = some oe ∧ oe.cls = c ∧ oe.data = .fields vs ∧ 6 ≤ vs.size ∧ vs[1]? = some .none ∧ vs[2]? = some .none
noncomputable def PostN (W : Wd) (C : Ctx) (B : Base) (ρ₀ : Rho) (s₀ : Shared) (c : Value) (K : St → Prop) : Value → Shared → Prop := fun v s => ∃ ρ σ e, v = .ref e ∧ Ext ρ₀ s₀ ρ s ∧ Rep W C B ρ σ s ∧ NewX W C B ρ s.heap e c ∧ K σ
theorem PostN.el {P : Prop} {c : Value} {K : St → Prop} {v : Value} (h : PostN W C B ρ₀ s₀ c K v s) (k : ∀ ρ σ e, v = .ref e → Ext ρ₀ s₀ ρ s → Rep W C B ρ σ s → NewX W C B ρ s.heap e c → K σ → P) : P := by
  refine el_3_5 h fun ρ σ e ev x R N y => ?_; exact k ρ σ e ev x R N y
noncomputable def JX (W : Wd) (C : Ctx) (e : Expr) (c : Value) (K : St → Prop) (X : KX) (σ : St) : Prop := ∀ B ρ s, Rep W C B ρ σ s → wpAny (model W.prog W.w) C.A (eval e C.env) (PostN W C B ρ s c K) (PostX W C B ρ s X) s
theorem JX_Call {f : Expr} {es : List Expr} {pos : Pos} {c : Value} {K : St → Prop} (Y : IsExc W c) (hf : ∀ env, eval (.Call f es [] pos) env = (do callWith pos (← eval f env) [] (backTo pos (starEach es env)) (backToKw pos (keywordEach [] env))))
    (hs : es.all notStar = true) (h : J W C f (fun a σ₁ => a = .con c ∧ JEs W C es (fun as σ₂ => as.length ≤ 100 ∧ K σ₂) X σ₁) X σ) : JX W C (.Call f es [] pos) c K X σ := fun B ρ s R => by
  rw [hf]
  refine wpAny_bind (wpAny_mono (h B ρ s R) (fun v s1 hP => hP.el fun ρ1 a σ1 e1 R1 d1 hQ1 => ?_) fun _ _ x => x)
  refine el_0_2 hQ1 fun ea k1 => ?_
  subst ea
  obtain rfl := d1.iCon
  refine el_0_2 (keywordEach_names pos C.env [] rfl) fun kn ka => ?_
  rw [starEach_plain _ _ hs, backTo_plain]
  refine callWith_of (P := fun h => ∀ b o, W.h1.get? b = some o → h.get? b = some o) ?_ (fun h hp => Y.keep _ h hp) (evalArgs_plainAll ka ?_)
  · have h1 : ((es.map fun e => (false, eval e C.env)).any (·.1)) = false := by simp
    rw [h1]; rfl
  · refine wpAny_mono (spliced_JEs k1 R1) (fun vs s2 hP => hP.el fun ρ2 as σ2 e2 R2 d2 hQ2 => ?_) fun _ _ x => x.ext e1
    refine el_0_2 hQ2 fun hl2 k2 => ?_
    refine wpAny_pure ⟨R2.top, ?_⟩
    have hl : vs.length ≤ 100 := by rw [d2.length]; exact hl2
    refine Y.make _ _ _ _ _ R2.top hl fun h' e hm => ?_
    have G : Rep W C B ρ2 σ2 { s2 with heap := h' } := R2.grow hm.keeps
    have E2 : Ext ρ2 s2 ρ2 { s2 with heap := h' } := ⟨.refl _, .ofExt hm.keeps⟩
    refine el_1_2 hm.there fun t ht _ => ?_
    exact ⟨ρ2, σ2, e, rfl, (e1.trans e2).trans E2, G, ⟨R2.newNot hm.new, _, _, ht, rfl, rfl, by simp, rfl, rfl⟩, k2⟩
theorem typeOf_ref {M : Model} {A : Around} {E : Value → Shared → Prop} {e : Addr} {oe : Obj} {Q : Value → Shared → Prop} (he : s.heap.get? e = some oe) (h : Q oe.cls s) : wpAny M A (typeOf (.ref e)) Q E s :=
  ((Looks.ld he).andThen .now : Looks M s.heap (typeOf (.ref e)) oe.cls) A Q E s (fun _ _ x => x) h
theorem isType_ref {M : Model} {A : Around} {E : Value → Shared → Prop} {e : Addr} {oe : Obj} {vs : Array Value} {Q : Bool → Shared → Prop} (he : s.heap.get? e = some oe) (hd : oe.data = .fields vs) (h : Q false s) : wpAny M A (isType (.ref e)) Q E s := by
  have L : Looks M s.heap (isType (.ref e)) (match oe.data with | .cls _ => true | _ => false) := (Looks.ld he).andThen .now
  rw [hd] at L
  exact L A Q E s (fun _ _ x => x) h
theorem excFromValue_J {A : Around} {E : Value → Shared → Prop} {e : Addr} {oe : Obj} {vs : Array Value} {c : Value} {msg : String} {Q : Value → Shared → Prop} (Y : IsExc W c) (ht : ∀ b o, W.h1.get? b = some o → s.heap.get? b = some o) (he : s.heap.get? e = some oe) (hc : oe.cls = c) (hd : oe.data = .fields vs) (h : Q (.ref e) s) :
    wpAny (model W.prog W.w) A (excFromValue (.ref e) msg) Q E s := by
  unfold excFromValue isExcClass
  refine wpAny_bind (wpAny_bind (isType_ref he hd ?_))
  rw [if_neg Bool.false_ne_true]
  refine wpAny_pure ?_
  rw [if_neg Bool.false_ne_true]
  unfold isInstance
  refine wpAny_bind (wpAny_bind (typeOf_ref he ?_))
  rw [hc]
  refine (Y.base.keeps ht).here ?_
  rw [if_pos rfl]
  exact wpAny_pure h
theorem raiseEnd_J {A : Around} {α : Type} {e : Addr} {oe : Obj} {vs : Array Value} {c : Value} {E : Value → Shared → Prop} {Q : α → Shared → Prop} (hA : Like A C.A) (hc : C.hclean = true) (Y : IsExc W c) (R : Rep W C B ρ σ s) (hn : NewA W C B ρ e) (he : s.heap.get? e = some oe) (hcl : oe.cls = c) (hd : oe.data = .fields vs) (h6 : 6 ≤ vs.size) (h1 : vs[1]? = some .none) (h2 : vs[2]? = some .none)
    (h : ∀ h' cl, (C.A.handled = none → cl = true) → Rep W C B ρ σ { s with heap := h' } → Ext ρ s ρ { s with heap := h' } → Fly W C B ρ h' e c cl → E (.ref e) { s with heap := h' }) :
    wpAny (model W.prog W.w) A (isType (.ref e) >>= fun b => if b = true then (holding [.ref e] (raisedFor (.ref e) (.ref e)) >>= fun x => (setFlight x none >>= fun _ => (raiseNew x : Sem α))) else (raisedInstance (.ref e) >>= fun x => (setFlight x none >>= fun _ => (raiseNew x : Sem α)))) Q E s := by
  refine wpAny_bind (isType_ref he hd ?_)
  rw [if_neg Bool.false_ne_true]
  unfold raisedInstance
  refine wpAny_bind (wpAny_bind (typeOf_ref he ?_))
  rw [hcl]
  refine wpAny_bind ((Y.meta_.keeps R.top).here ?_)
  rw [if_pos (by rfl)]
  refine wpAny_pure ?_
  unfold setFlight
  refine wpAny_bind (wpAny_bind (wpAny_field he hd h1 ?_))
  rw [if_neg (by decide)]
  refine wpAny_pure ?_
  have hdA : HD A s.heap := by
    rcases R.hd hc with q | ⟨x, o, ws, q1, q2⟩
    · exact .inl (hA.handled.trans q)
    · exact .inr ⟨x, o, ws, hA.handled.trans q1, q2⟩
  refine raiseNew_gen hdA he hd (by omega) (fun x q c => ?_) (fun q => ?_) fun x q => ?_
  · refine el_3_4 (R.hand x (hA.handled.symm.trans q)) fun x' o ws hE77 h1' h2' _ => ?_; subst hE77
    injection c with c
    subst c
    have := hn.2.1
    rw [h1'] at this; cases this
  · exact h s.heap true (fun _ => rfl) R (.refl _ _) ⟨hn, oe, vs, he, hcl, hd, h6, fun _ => h2, .inl h1⟩
  · obtain ⟨R', E'⟩ := R.offs (s' := { s with heap := s.heap.update e (Obj.mapFields (·.setIfInBounds 2 x)) }) (fun b => b = e) (fun b hb => hb ▸ hn)
      (fun b o items n hb ho hd' => by subst hb; rw [he] at ho; cases ho; rw [hd] at hd'; cases hd') (fun b o hb ho => .inl ((Heap.get?_update_other _ _ (Ne.symm hb)).trans ho))
    have hd3 := Obj.data_mapFields hd (·.setIfInBounds 2 x)
    refine h _ false (fun q' => ?_) R' E' ⟨hn, _, _, Heap.get?_update_self _ he (Obj.isFreed_of_fields hd3), (Obj.cls_mapFields _ _).trans hcl, hd3, by simpa using h6, (fun q' => (by cases q')), .inl ?_⟩
    · rw [hA.handled, q'] at q; cases q
    · rw [Array.getElem?_setIfInBounds_ne (by decide)]; exact h1
theorem JS_Raise {x : Expr} {pos : Pos} {c : Value} {K : KF} (hc : C.hclean = true) (Y : IsExc W c) (h : JX W C x c (fun σ₁ => ∀ cl, (C.A.handled = none → cl = true) → X c cl σ₁) X σ) : JS W C (.Raise (some x) none pos) K X σ := fun B ρ s R => by
  rw [arm_exec_Raise]
  refine wpAny_bind (wpAny_standAt ?_)
  show wpAny _ _ (raiseStmt C.env (some (do let v ← eval x C.env; standAt pos; pure v)) none) _ _ s
  unfold raiseStmt
  refine wpAny_bind (wpAny_bind (wpAny_mono (h B ρ s R) (fun v s1 hQ3 => ?_) fun _ _ x => x.low _))
  refine el_3_5 hQ3 fun ρ1 σ1 e ev e1 R1 hO20 k1 => ?_; obtain ⟨n1, oe, vs, h1, h2, h3, h4, h5, h6⟩ := hO20
  subst ev
  refine wpAny_bind (wpAny_standAt (wpAny_pure (wpAny_bind (wpAny_pure (wpAny_bind (wpAny_holding (excFromValue_J Y R1.top h1 h2 h3 ?_)))))))
  refine raiseEnd_J (.refl _) hc Y R1 n1 h1 h2 h3 h4 h5 h6 fun h' cl hcl R2 e2 F2 => ?_
  exact ⟨ρ1, c, cl, σ1, e, rfl, (e1.trans e2).low _, R2, F2, k1 cl hcl⟩
end
end
section
noncomputable def Ctx.hand (C : Ctx) (e : Addr) (c : Value) (cl : Bool) : Ctx := { C with A := C.A.mark (some (.ref e)), hcls := c, hclean := cl }
section
variable {W : Wd} {C : Ctx} {B : Base} {ρ ρ₀ ρ' : Rho} {σ σ' : St} {s s₀ s' : Shared} {K : KF} {X : KX}
theorem NewA.inB {a : Addr} {o : Obj} (x : NewA W C B ρ a) (ho : s.heap.get? a = some o) : (baseOf (ownA C ρ) ρ s).h.get? a = some o := baseOf_h ho x.1
theorem Rep.toHand {e : Addr} {c fl : Value} {cl : Bool} (R : Rep W C B ρ σ s) (y : FlyT W C B ρ s.heap e c fl cl) : Rep W (C.hand e c cl) (baseOf (ownA C ρ) ρ s) ρ σ s :=
  have R1 := R.rebase
  { top := R1.top, keep := R1.keep, nodup := R1.nodup, fresh := R1.fresh, frame := R1.frame, live := R1.live, len := R1.len, objs := R1.objs, gkeep := R1.gkeep, gnew := R1.gnew, gnod := R1.gnod, frs := R1.frs, bare := R1.bare, os := R1.os,
    hand := fun v hv => by
      obtain ⟨hn, oe, vs, T, oT, ts, h1, h2, h3, h4, h5, _⟩ := y
      cases hv
      exact ⟨e, oe, vs, rfl, hn.inB h1, h2, h3, h4, h5⟩ }
theorem Rep.ofHand {e : Addr} {c : Value} {cl : Bool} (R : Rep W C B ρ σ s) (R' : Rep W (C.hand e c cl) (baseOf (ownA C ρ) ρ s) ρ' σ' s') : Rep W C B ρ' σ' s' :=
  have le := baseOf_le R (l := ownA C ρ) fun _ x => x
  { top := R'.top, nodup := R'.nodup, frame := R'.frame, live := R'.live, len := R'.len, objs := R'.objs, gnod := R'.gnod, frs := R'.frs, bare := R'.bare, os := R'.os, hand := R.hand
    keep := fun b o h => let ⟨o1, k, e1⟩ := le.1 b o h; k.trans (R'.keep b o1 e1) id
    fresh := fun a ha => ⟨(by
      cases q : B.h.get? a with
      | none => rfl
      | some o => (refine el_1_2 (le.1 a o q) fun o1 _ e1 => ?_; have := (R'.fresh a ha).1; rw [e1] at this; cases this)), (R'.fresh a ha).2⟩
    gkeep := fun i x h => R'.gkeep i x (le.2 i x h)
    gnew := fun o ho g h => ⟨(by
      cases q : B.g g with
      | none => rfl
      | some x => (have := (R'.gnew o ho g h).1; rw [le.2 g x q] at this; cases this)), (R'.gnew o ho g h).2⟩ }
theorem NewA.ofHand {e a : Addr} {c : Value} {cl : Bool} (R : Rep W C B ρ σ s) (x : NewA W (C.hand e c cl) (baseOf (ownA C ρ) ρ s) ρ' a) : NewA W C B ρ' a :=
  ⟨x.1, (by
    cases q : B.h.get? a with
    | none => rfl
    | some o => (refine el_1_2 ((baseOf_le R (l := ownA C ρ) fun _ x => x).1 a o q) fun o1 _ e1 => ?_; have := x.2.1; rw [e1] at this; cases this)), x.2.2⟩
theorem NewA.stay {e a : Addr} {c : Value} {cl : Bool} {o : Obj} (x : NewA W C B ρ a) (ho : s.heap.get? a = some o) (R' : Rep W (C.hand e c cl) (baseOf (ownA C ρ) ρ s) ρ' σ' s') : NewA W C B ρ' a ∧ s'.heap.get? a = some o :=
  ⟨⟨fun q => (by have := (R'.fresh a q).1; rw [x.inB ho] at this; cases this), x.2⟩, (R'.keep a o (x.inB ho)).strict x.2.2.2⟩
theorem FlyT.stay {e e' : Addr} {c c' fl : Value} {cl cl' : Bool} (y : FlyT W C B ρ s.heap e c fl cl) (R' : Rep W (C.hand e' c' cl') (baseOf (ownA C ρ) ρ s) ρ' σ' s') : FlyT W C B ρ' s'.heap e c fl cl := by
  obtain ⟨hn, oe, vs, T, oT, ts, h1, h2, h3, h4, h5, h6, h7, h8, h9, r⟩ := y
  exact ⟨(hn.stay h1 R').1, oe, vs, T, oT, ts, (hn.stay h1 R').2, h2, h3, h4, h5, h6, (h7.stay h9 R').1, h8, (h7.stay h9 R').2, r⟩
noncomputable def ExcM (W : Wd) (c : Value) (a : AV) (b : Bool) : Prop := ∀ (A : Around) (C : Ctx) B ρ σ (s : Shared) e oe v (Q : Bool → Shared → Prop) (E : Value → Shared → Prop), Rep W C B ρ σ s → s.heap.get? e = some oe → oe.cls = c → DenA ρ s.heap a v → Q b s → wpAny (model W.prog W.w) A (excMatches (.ref e) v) Q E s
noncomputable def DelN (C : Ctx) (n : Str) (K : St → Prop) (σ : St) : Prop := ∃ i, C.env.scope.kind = .function ∧ Loc C.env.scope n i .local ∧ K { σ with vars := σ.vars.set i .non }
theorem delN_run {A : Around} {n : Str} {pos : Pos} {K : St → Prop} {Q : Unit → Shared → Prop} {E : Value → Shared → Prop} (R : Rep W C B ρ σ s) (h : DelN C n K σ) (hQ : ∀ s' σ', Rep W C B ρ σ' s' → Ext ρ s ρ s' → K σ' → (∀ a o, a ≠ C.env.locals → s.heap.get? a = some o → s'.heap.get? a = some o) → Q () s') :
    wpAny (model W.prog W.w) A (do bindName C.env n .none; unbindBehindTheSuite C.env n pos) Q E s := by
  refine el_1_3 h fun i hk hl k => ?_
  refine el_1_2 R.frame fun m hm hs => ?_
  refine wpAny_nameGoes_keeps hl.look hm (by show (C.env.scope.kind == .class || (C.env.scope.kind == .module && C.env.locals != C.env.globals)) = false; rw [hk]; rfl) fun h' v hm' hsb => ?_
  refine el_0_2 (R.setSlot (sl := .non) (vo := v) hl hm hs (fun _ => trivial) hm' hsb (s.toks + 1)) fun R' E' => ?_
  exact hQ _ _ R' E' k fun a o ha e => (hsb.2 a ha).trans e
noncomputable def SuiteJ (W : Wd) (C : Ctx) (C' : Ctx) (e : Addr) (name : Option Str) (body : List Stmt) (K : KF) (X : KX) (σ : St) : Prop := match name with
  | none => JSs W C' body K X σ
  | some n => SetN W C' n (.con (.ref e)) (fun σ₁ => JSs W C' body (fun fl σ₂ => DelN C n (K fl) σ₂) (fun c cl σ₂ => DelN C n (X c cl) σ₂) σ₁) noXX σ
where noXX : KX := fun _ _ _ => False
noncomputable def noX : KX := fun _ _ _ => False
noncomputable def HandJ (W : Wd) (C : Ctx) (c : Value) (cl : Bool) (K : KF) (X : KX) : List ExceptHandler → St → Prop
  | [], σ => X c cl σ
  | .ExceptHandler (some t) name body _ :: rest, σ => body ≠ [] ∧ ∀ e, J W (C.hand e c cl) t (fun a σ₁ => ∃ b, ExcM W c a b ∧ (b = false → HandJ W C c cl K X rest σ₁) ∧ (b = true → SuiteJ W C (C.hand e c cl) e name body K X σ₁)) noX σ
  | _, _ => False
theorem flight_any {A : Around} {e : Addr} {cls fl : Value} {cl : Bool} {f : Option Addr} {E : Value → Shared → Prop} {Q : Unit → Shared → Prop} (R : Rep W C B ρ σ s) (y : FlyT W C B ρ s.heap e cls fl cl)
    (h : ∀ h', Rep W C B ρ σ { s with heap := h' } → Ext ρ s ρ { s with heap := h' } → FlyT W C B ρ h' e cls (f.elim .none fun f => rawInt f) cl → Q () { s with heap := h' }) : wpAny (model W.prog W.w) A (setFlight (.ref e) f) Q E s := by
  obtain ⟨he, oe, vs, T, oT, ts, h1, h2, h3, h4, h5, h6, h7, h8, h9, h10, h11, h12, h13⟩ := y
  unfold setFlight
  refine wpAny_bind (wpAny_field h1 h3 h6 ?_)
  rw [if_pos (show (Value.ref T != Value.none) = true from by simp)]
  refine wpAny_setField h9 h11 (by omega) ?_
  obtain ⟨R', E'⟩ := R.offs (s' := { s with heap := s.heap.update T (Obj.mapFields (·.setIfInBounds 3 (f.elim .none fun f => rawInt f))) }) (fun b => b = T) (fun b hb => hb ▸ h7)
    (fun b o items n hb ho hd => by subst hb; rw [h9] at ho; cases ho; rw [h11] at hd; cases hd) (fun b o hb ho => .inl ((Heap.get?_update_other _ _ (Ne.symm hb)).trans ho))
  have hd3 := Obj.data_mapFields h11 (·.setIfInBounds 3 (f.elim Value.none fun f => rawInt f))
  refine h _ R' E' ⟨he, oe, vs, T, _, _, (Heap.get?_update_other _ _ h8).trans h1, h2, h3, h4, h5, h6, h7, h8, Heap.get?_update_self _ h9 (Obj.isFreed_of_fields hd3), (Obj.cls_mapFields _ _).trans h10, hd3, by simpa using h12, ?_⟩
  rw [Array.getElem?_setIfInBounds_self_of_lt (by omega)]
theorem outHand_J {L e : Addr} {c : Value} {cl : Bool} {ρ₁ : Rho} {σ₁ : St} {s₁ : Shared} (hF : FrsA C.A C.env L) (R₁ : Rep W C B ρ₁ σ₁ s₁) (E₁ : Ext (ρ.take C.low) s ρ₁ s₁) {v : Value} {s₂ : Shared} (x : PostX W (C.hand e c cl) (baseOf (ownA C ρ₁) ρ₁ s₁) (ρ₁.take C.low) s₁ X v s₂) :
    notedBy (model W.prog W.w) (C.hand e c cl).A C.env (cameBackBy (model W.prog W.w) C.A C.env (PostX W C B (ρ.take C.low) s X)) v s₂ := by
  refine el_5_5 x fun ρ₂ c₂ cl₂ σ₂ e₂ ev E₂ R₂ F₂ x₂ => ?_
  subst ev
  unfold notedBy
  refine note_J (C := C.hand e c cl) R₂ hF F₂ fun h' R₃ E₃ F₃ => ?_
  have F₃' : FlyT W C B ρ₂ h' e₂ c₂ (rawInt L) cl₂ := by
    obtain ⟨a1, oe, vs, T, oT, ts, b1, b2, b3, b4, b5, b6, b7, r⟩ := F₃
    exact ⟨a1.ofHand R₁, oe, vs, T, oT, ts, b1, b2, b3, b4, b5, b6, b7.ofHand R₁, r⟩
  exact cameBack_J (R₁.ofHand R₃) hF F₃' fun h'' R₄ E₄ F₄ => ⟨ρ₂, c₂, cl₂, σ₂, e₂, rfl, ((E₁.transL E₂).trans E₃).trans E₄, R₄, F₄, x₂⟩
theorem suite_J {L e : Addr} {c fl : Value} {cl : Bool} {b₀ : Stmt} {body : List Stmt} {pos : Pos} (hF : FrsA C.A C.env L) (k1 : JSs W (C.hand e c cl) (b₀ :: body) K X σ) (R : Rep W C B ρ σ s) (y : FlyT W C B ρ s.heap e c fl cl) :
    codeAny (model W.prog W.w) (C.hand e c cl).A (.handlers (.ref e) [.ExceptHandler none none (b₀ :: body) pos] C.env) (fun r s₂ => match r with | .ok f => PostF W C B (ρ.take C.low) s K f s₂ | .error x => cameBackBy (model W.prog W.w) C.A C.env (PostX W C B (ρ.take C.low) s X) x s₂) s := by
  refine codeAny_handlers_suite (flight_any (f := none) R y fun h' R2 e2 F2 => ?_)
  refine wpAny_mono (k1 _ ρ _ (R2.toHand F2)) (fun f s3 hP => hP.el fun ρ3 a3 σ3 e3 R3 d3 k3 => ?_) fun v s3 x => outHand_J hF R2 (e2.low _) x
  exact ⟨ρ3, a3, σ3, (e2.low _).transL e3, R2.ofHand R3, d3, k3⟩
theorem suiteAs_J {L e : Addr} {c fl : Value} {cl : Bool} {n : Str} {b₀ : Stmt} {body : List Stmt} {pos : Pos} (hF : FrsA C.A C.env L) (k1 : SuiteJ W C (C.hand e c cl) e (some n) (b₀ :: body) K X σ) (R : Rep W C B ρ σ s) (y : FlyT W C B ρ s.heap e c fl cl) :
    codeAny (model W.prog W.w) (C.hand e c cl).A (.handlers (.ref e) [.ExceptHandler none (some n) (b₀ :: body) pos] C.env) (fun r s₂ => match r with | .ok f => wpAny (model W.prog W.w) C.A (do bindName C.env n .none; unbindBehindTheSuite C.env n pos) (fun _ s₃ => PostF W C B (ρ.take C.low) s K f s₃) (PostX W C B (ρ.take C.low) s X) s₂ | .error x => cameBackBy (model W.prog W.w) C.A C.env (PostX W C B (ρ.take C.low) s X) x s₂) s := by
  have hF' : FrsA (C.hand e c cl).A (C.hand e c cl).env L := hF
  refine codeAny_handlers_suite_as (flight_any (f := none) R y fun h' R2 e2 F2 => ?_)
  refine wpAny_mono (k1 _ ρ _ _ (R2.toHand F2) (.con _)) (fun _ s3 hP => hP.el fun ρ3 σ3 e3 R3 k3 => ?_) fun v s3 hQ0 => by refine el_5_5 hQ0 fun _ _ _ _ _ _ _ _ _ x => ?_; exact x.elim
  have e23 := e2.trans e3
  refine wpAny_mono (k3 _ ρ3 s3 R3) (fun f s4 hP => hP.el fun ρ4 a4 σ4 e4 R4 d4 k4 => ?_) fun v s4 hP => hP.el fun ρ4 c4 cl4 σ4 e4' ev e4 R4 F4 x4 => ?_
  · refine delN_run (R2.ofHand R4) k4 fun s5 σ5 R5 e5 k5 _ => ?_
    refine ⟨ρ4, a4, σ5, ((e23.low _).transL e4).trans e5, R5, ?_, k5⟩
    cases a4 <;> cases f <;> first | exact d4 | exact DenA.ext d4 e5
  · subst ev
    refine note_J (C := C.hand e c cl) R4 hF' F4 fun h5 R5 e5 F5 => ?_
    refine delN_run (C := C.hand e c cl) R5 x4 fun s6 σ6 R6 e6 k6 hk6 => ?_
    have F6 : FlyT W (C.hand e c cl) (baseOf (ownA C ρ) ρ { s with heap := h' }) ρ4 s6.heap e4' c4 (rawInt L) cl4 := by
      obtain ⟨a1, oe, vs, T, oT, ts, b1, b2, b3, b4, b5, b6, b7, b8, b9, r⟩ := F5
      exact ⟨a1, oe, vs, T, oT, ts, hk6 _ _ (fun q => a1.1 (q ▸ .head _)) b1, b2, b3, b4, b5, b6, b7, b8, hk6 _ _ (fun q => b7.1 (q ▸ .head _)) b9, r⟩
    unfold PySem.passOn
    obtain ⟨_, oe, vs, T, oT, ts, g1, g2, g3, g4, g5, g6, _⟩ := id F6
    refine wpAny_bind (wpAny_field g1 g3 g6 ?_)
    rw [if_neg (show ¬ ((Value.ref T == Value.none) = true) from by simp)]
    have hfr : C.env.frame = some L := by refine el_2_4 hF fun _ _ _ _ h _ => ?_; exact h
    rw [hfr]
    refine wpAny_bind (flight_any (C := C.hand e c cl) (f := some L) R6 F6 fun h7 R7 e7 F7 => wpAny_throw ?_)
    exact outHand_J hF R2 (e2.low _) ⟨ρ4, c4, cl4, σ6, e4', rfl, ((((e3.low _).transL e4).trans e5).trans e6).trans e7, R7, F7.toFly (.inr ⟨L, rfl⟩), k6⟩
theorem handleBy_J {L e : Addr} {c : Value} {cl : Bool} (hF : FrsA C.A C.env L) : ∀ (hs : List ExceptHandler) {σ : St} {ρ : Rho} {s : Shared} {fl : Value}, HandJ W C c cl K X hs σ → Rep W C B ρ σ s → FlyT W C B ρ s.heap e c fl cl →
    wpAny (model W.prog W.w) C.A (handleBy (.ref e) C.env hs) (PostF W C B (ρ.take C.low) s K) (PostX W C B (ρ.take C.low) s X) s := by
  intro hs
  induction hs with
  | nil =>
    intro σ ρ s fl h R y
    unfold handleBy PySem.passOn
    obtain ⟨_, oe, vs, T, oT, ts, h1, h2, h3, h4, h5, h6, _⟩ := id y
    refine wpAny_bind (wpAny_field h1 h3 h6 ?_)
    rw [if_neg (show ¬ ((Value.ref T == Value.none) = true) from by simp)]
    have hfr : C.env.frame = some L := by refine el_2_4 hF fun _ _ _ _ h _ => ?_; exact h
    rw [hfr]
    exact wpAny_bind (flight_any (f := some L) R y fun h' R1 e1 F1 => wpAny_throw ⟨ρ, c, cl, σ, e, rfl, e1.low _, R1, F1.toFly (.inr ⟨L, rfl⟩), h⟩)
  | cons hd rest ih =>
    intro σ ρ s fl h R y
    obtain ⟨t, name, body, pos⟩ := hd
    cases t with
    | none => exact h.elim
    | some t =>
    refine el_0_2 h fun hb h => ?_
    refine wpAny_handleBy_cons (codeAny_handlers_test (wpAny_mono (h e _ ρ s (R.toHand y)) (fun v s1 hP => hP.el fun ρ1 a σ1 e1 R1 d1 ⟨b, hM, k0, k1⟩ => ?_) fun v s1 hQ2 => by refine el_5_5 hQ2 fun _ _ _ _ _ _ _ _ _ x => ?_; exact x.elim)) (by intro q; cases q)
    have R1' := R.ofHand R1
    have y1 := y.stay R1
    obtain ⟨_, oe, vs, T, oT, ts, h1, h2, h3, _⟩ := id y1
    refine hM _ _ _ _ _ _ e oe v _ _ R1 h1 h2 d1 ?_
    cases b with
    | false => exact wpAny_mono (ih (k0 rfl) R1' y1) (fun _ _ x => x.ext (e1.lowcut _)) fun _ _ x => x.ext (e1.lowcut _)
    | true =>
      have k1 := k1 rfl
      cases body with
      | nil => exact absurd rfl hb
      | cons b₀ body =>
        cases name with
        | none =>
          refine codeAny_mono (suite_J hF k1 R1' y1) fun r s2 h2 => ?_
          cases r with
          | ok f => exact PostF.ext (e1.lowcut _) h2
          | error x =>
            show cameBackBy _ _ _ _ _ _
            exact wpAny_mono h2 (fun _ s4 x => x.ext (e1.lowcut _)) fun _ s4 x => x.ext (e1.lowcut _)
        | some n =>
          refine codeAny_mono (suiteAs_J hF k1 R1' y1) fun r s2 h2 => ?_
          cases r with
          | ok f => exact wpAny_mono h2 (fun _ _ x => PostF.ext (e1.lowcut _) x) fun _ _ x => x.ext (e1.lowcut _)
          | error x =>
            show cameBackBy _ _ _ _ _ _
            exact wpAny_mono h2 (fun _ s4 x => x.ext (e1.lowcut _)) fun _ s4 x => x.ext (e1.lowcut _)
theorem JS_Try {body orelse : List Stmt} {h₀ : ExceptHandler} {hs : List ExceptHandler} {pos : Pos} (hF : FrsC C)
    (h : JSs W C body (fun fl σ₁ => match fl with | .next => JSs W C orelse K X σ₁ | fl => K fl σ₁) (fun c cl σ₁ => HandJ W C c cl K X (h₀ :: hs) σ₁) σ) : JS W C (.Try body (h₀ :: hs) orelse [] pos) K X σ := fun B ρ s R => by
  refine el_1_1 hF fun L hL => ?_
  refine wpAny_Try_except (wpAny_mono (h B ρ s R) (fun f s1 hP => hP.el fun ρ1 a σ1 e1 R1 d1 k1 => ?_) fun v s1 hP => hP.el fun ρ1 c cl σ1 e ev e1 R1 F1 x1 => ?_)
  · cases a <;> cases f <;> first
      | exact d1.elim
      | exact wpAny_mono (k1 B ρ1 s1 R1) (fun _ _ x => x.ext e1.cut) (fun _ _ x => x.ext e1.cut)
      | exact ⟨ρ1, _, σ1, e1, R1, d1, k1⟩
  · subst ev
    refine note_J R1 hL F1 fun h2 R2 e2 F2 => flight_any (f := none) R2 F2 fun h3 R3 e3 F3 => ?_
    have e123 := (e1.trans e2).trans e3
    exact wpAny_mono (handleBy_J hL _ x1 R3 F3) (fun _ _ x => x.ext e123.cut) fun _ _ x => x.ext e123.cut
end
end
section
structure Tops (W : Wd) (K : Frag) : Prop where
  X : K.In W.h1
  g : ∃ mg, W.h1.Ns mainGlobals mg
  b : ∃ mb, W.h1.Ns builtinsNs mb ∧ ∀ x : Str, x ≠ "__name__" → mb x = bootBuiltins x
  lim : W.h1.NoLimit
noncomputable def fdOf (K : Frag) (f : Addr) : FuncData := match K.lookup f with
  | some ⟨_, _, .func fd, _⟩ => fd
  | _ => default
structure FnK (K : Frag) (f : Addr) (body : List Stmt) (sc : Scope) : Prop where
  isf : fnIn K f = true
  body : (fdOf K f).body = .stmts body
  scope : (fdOf K f).scope = sc
  glob : (fdOf K f).globals = mainGlobals
  bi : (fdOf K f).builtins = builtinsNs
  clo : (fdOf K f).closure = []
  code : codeIn K (fdOf K f).code (fdOf K f).qualname = true
noncomputable def scOK (sc : Scope) : Bool := sc.kind == .function && !sc.isCoroutine && !sc.isGenerator && decide (sc.names.map (·.1)).Nodup
theorem scOK_all {sc : Scope} (h : scOK sc = true) : sc.kind = .function ∧ sc.isCoroutine = false ∧ sc.isGenerator = false ∧ (sc.names.map (·.1)).Nodup := by
  unfold scOK at h
  simp only [Bool.and_eq_true, Bool.not_eq_true', beq_iff_eq, decide_eq_true_eq] at h
  exact ⟨h.1.1.1, h.1.1.2, h.1.2, h.2⟩
theorem FnK.at_ {K : Frag} {f : Addr} {body : List Stmt} {sc : Scope} (F : FnK K f body sc) : ∃ c d sl, K.lookup f = some ⟨c, d, .func (fdOf K f), sl⟩ := by
  have h := F.isf
  unfold fnIn at h
  split at h
  · rename_i c d fd sl q
    refine ⟨c, d, sl, ?_⟩
    unfold fdOf
    rw [q]
  · cases h
theorem FnK.facts {W : Wd} {K : Frag} {f : Addr} {body : List Stmt} {sc : Scope} (F : FnK K f body sc) (T : Tops W K) (hs : scOK sc = true) : FnFacts W f (fdOf K f) body := by
  refine el_0_4 (scOK_all hs) fun a b c d => ?_
  refine el_3_1 F.at_ fun c0 d0 sl e => ?_
  exact ⟨⟨_, T.X _ _ e, rfl⟩, F.body, F.clo, by rw [F.scope]; exact a, by rw [F.scope]; exact b, by rw [F.scope]; exact c, codeRec_of T.X F.code, by rw [F.scope]; exact d, T.lim⟩
structure Liv (C : Ctx) (sc : Scope) (n : Nat) : Prop where
  scope : C.env.scope = sc
  kind : C.env.scope.kind = .function
  glob : C.env.globals = mainGlobals
  bi : C.env.builtins = builtinsNs
  co : C.env.scope.isCoroutine = false
  frs : FrsC C
  ok : AOK C.A n
theorem Liv.low {C : Ctx} {sc : Scope} {n : Nat} (h : Liv C sc n) (k : Nat) : Liv (C.lowTo k) sc n := ⟨h.scope, h.kind, h.glob, h.bi, h.co, h.frs, h.ok⟩
theorem Liv.hand {C : Ctx} {sc : Scope} {n : Nat} (h : Liv C sc n) (e : Addr) (c : Value) (cl : Bool) : Liv (C.hand e c cl) sc n := ⟨h.scope, h.kind, h.glob, h.bi, h.co, h.frs, h.ok⟩
noncomputable def BindJ (K : Frag) (f : Addr) (as : List AV) (names : List Str) (bs : List AV) (ab : List (Str × AV)) : Prop :=
  ∀ (ρ : Rho) (h : Heap) vs us, DenL ρ h as vs → DenL ρ h bs us → ∃ binds, (∀ S, peek K S (bindArgs (fdOf K f) ⟨vs, names.zip us⟩) = some binds) ∧ DenB ρ h ab binds
theorem BindJ.p0 {K : Frag} {f : Addr} (e : ∀ S, peek K S (bindArgs (fdOf K f) ⟨[], []⟩) = some []) : BindJ K f [] [] [] (List.zip [] []) := fun ρ h vs us d1 d2 => by
  obtain rfl := d1.iNil; obtain rfl := d2.iNil; exact ⟨[], e, trivial⟩
theorem BindJ.p1 {K : Frag} {f : Addr} {x : Str} {a : AV} (e : ∀ S v, peek K S (bindArgs (fdOf K f) ⟨[v], []⟩) = some [(x, v)]) : BindJ K f [a] [] [] (List.zip [x] [a]) := fun ρ h vs us d1 d2 => by
  cases d1 with
  | cons d1 r => cases r; obtain rfl := d2.iNil; exact ⟨_, fun S => e S _, rfl, d1, trivial⟩
theorem BindJ.p2 {K : Frag} {f : Addr} {x y : Str} {a b : AV} (e : ∀ S v u, peek K S (bindArgs (fdOf K f) ⟨[v, u], []⟩) = some [(x, v), (y, u)]) : BindJ K f [a, b] [] [] (List.zip [x, y] [a, b]) := fun ρ h vs us d1 d2 => by
  cases d1 with
  | cons d1 r => cases r with
    | cons d3 r => cases r; obtain rfl := d2.iNil; exact ⟨_, fun S => e S _ _, rfl, d1, rfl, d3, trivial⟩
section
variable {W : Wd} {K : Frag} {C : Ctx} {σ : St} {sc : Scope} {n : Nat} {X : KX}
noncomputable def scIdx (sc : Scope) (x : Str) : Nat := (sc.names.findIdx? fun p => p.1 == x).getD 0
noncomputable def scLoc (sc : Scope) (x : Str) (kd : NameKind) : Bool := sc.names.lookup x == some kd && sc.names[scIdx sc x]? == some (x, kd) && ((List.range sc.names.length).all fun j => j == scIdx sc x || ((sc.names[j]?.map (·.1)) != some x)) && !(x == ("__debug__" : Str)) && !(x == ("__classdict__" : Str))
theorem Loc.of {sc : Scope} {x : Str} {kd : NameKind} (h : scLoc sc x kd = true) : Loc sc x (scIdx sc x) kd ∧ (x == ("__debug__" : Str)) = false ∧ (x == ("__classdict__" : Str)) = false := by
  unfold scLoc at h
  simp only [Bool.and_eq_true, Bool.not_eq_true', beq_iff_eq] at h
  refine el_0_2 h fun hO80 h5 => ?_; refine el_0_2 hO80 fun hO23 h4 => ?_; obtain ⟨⟨h1, h2⟩, h3⟩ := hO23
  refine ⟨⟨h2, h1, fun j kd' e => ?_⟩, h4, h5⟩
  have hlt := (List.getElem?_eq_some_iff.mp e).1
  have := List.all_eq_true.mp h3 j (List.mem_range.mpr hlt)
  rcases (Bool.or_eq_true _ _).mp this with q | q
  · simpa using q
  · rw [e] at q; simp at q
variable {Kk : KA} {a : AV}
theorem J_loc {x : Str} {p : Pos} {i : Nat} (L : Liv C sc n) (hl : scLoc sc x .local = true) (hi : scIdx sc x = i) (hv : σ.vars[i]? = some (.v a)) (h : Kk a σ) : J W C (.Name x p) Kk X σ :=
  by subst hi; obtain rfl := L.scope; exact J_local L.kind (Loc.of hl).1 hv (Loc.of hl).2.1 h
theorem J_cel {x : Str} {p : Pos} {k i : Nat} (L : Liv C sc n) (hl : scLoc sc x .cell = true) (hi : scIdx sc x = i) (hv : σ.vars[i]? = some (.cell k)) (ho : σ.objs[k]? = some (.cell (some a))) (h : Kk a σ) : J W C (.Name x p) Kk X σ :=
  by subst hi; obtain rfl := L.scope; exact J_cell L.kind (Loc.of hl).1 hv ho (Loc.of hl).2.1 h
theorem Get_loc {x : Str} {i : Nat} (L : Liv C sc n) (hl : scLoc sc x .local = true) (hi : scIdx sc x = i) (hv : σ.vars[i]? = some (.v a)) (h : Kk a σ) : GetN W C x Kk X σ :=
  by subst hi; obtain rfl := L.scope; exact GetN_local L.kind (Loc.of hl).1 hv h
theorem Set_loc {x : Str} {Ks : St → Prop} {i : Nat} (L : Liv C sc n) (hl : scLoc sc x .local = true) (hi : scIdx sc x = i) (h : Ks { σ with vars := σ.vars.set i (.v a) }) : SetN W C x a Ks X σ :=
  by subst hi; obtain rfl := L.scope; exact SetN_local L.kind (Loc.of hl).1 h
noncomputable def scGlb (sc : Scope) (x : Str) : Bool := sc.names.lookup x == some .globalImplicit && !(x == ("__debug__" : Str))
theorem J_glb {x : Str} {p : Pos} {v : Value} (T : Tops W K) (L : Liv C sc n) (hl : scGlb sc x = true) (e : nsIn K mainGlobals x = some (some v)) (h : Kk (.con v) σ) : J W C (.Name x p) Kk X σ := by
  unfold scGlb at hl
  simp only [Bool.and_eq_true, Bool.not_eq_true', beq_iff_eq] at hl
  refine el_1_1 T.g fun mg hg => ?_
  refine el_1_2 T.b fun mb hb _ => ?_
  exact J_global ⟨hg, hb, T.lim⟩ L.glob L.kind (by show C.env.scope.names.lookup x = _; rw [L.scope]; exact hl.1) (mg_of T.X hg e) hl.2 h
theorem J_bui {x : Str} {p : Pos} {v : Value} (T : Tops W K) (L : Liv C sc n) (hl : scGlb sc x = true) (e : nsIn K mainGlobals x = some none) (hv : bootBuiltins x = some v) (hn : (x == ("__name__" : Str)) = false) (h : Kk (.con v) σ) : J W C (.Name x p) Kk X σ := by
  unfold scGlb at hl
  simp only [Bool.and_eq_true, Bool.not_eq_true', beq_iff_eq] at hl
  refine el_1_1 T.g fun mg hg => ?_
  refine el_1_2 T.b fun mb hb hb2 => ?_
  exact J_builtin ⟨hg, hb, T.lim⟩ L.glob L.bi L.kind (by show C.env.scope.names.lookup x = _; rw [L.scope]; exact hl.1) (mg_none_of T.X hg e) ((hb2 x (by simpa using hn)).trans hv) hl.2 h
theorem Liv.inter {C : Ctx} {sc : Scope} {n : Nat} (L : Liv C sc n) : interactive C.env = false := by unfold interactive; rw [L.kind]; rfl
end
theorem Ret_keep {a a' : AV} {vars v' : List VS} {pre ext ext' : List AObj} {ks : List Nat} {Kk : KA} (hwf : Wf pre) (hnd : ks.Nodup) (hk : KeepOK pre.length ext ks ks ext') (ha : a = a'.ren (keepF pre.length ks (pre.length + ext.length))) (h : Kk a' ⟨vars, pre ++ ext'⟩) :
    RetK Kk vars pre.length (.ret a) ⟨v', pre ++ ext⟩ :=
  ⟨_, a', _, Tell.keep rfl hwf hnd hk, by rw [renF_keep, List.length_append]; exact ha, h⟩
theorem keepF_lt {n N : Nat} {ks : List Nat} (i : Nat) (h : i < n) : keepF n ks N i = i := by unfold keepF; rw [if_pos h]
theorem Ret_drop {a : AV} {vars v' : List VS} {pre ext : List AObj} {Kk : KA} (hwf : Wf pre) (ha : a.lt pre.length = true) (h : Kk a ⟨vars, pre⟩) : RetK Kk vars pre.length (.ret a) ⟨v', pre ++ ext⟩ :=
  Ret_keep (ext' := []) (ks := []) hwf .nil .nil (AV.ren_of_lt keepF_lt ha).symm (by rw [List.append_nil]; exact h)
theorem Ret_same {a : AV} {vars v' : List VS} {pre : List AObj} {Kk : KA} (hwf : Wf pre) (ha : a.lt pre.length = true) (h : Kk a ⟨vars, pre⟩) : RetK Kk vars pre.length (.ret a) ⟨v', pre⟩ := by
  have := Ret_drop (ext := []) (v' := v') hwf ha h
  rwa [List.append_nil] at this
theorem Nxt_drop {vars v' : List VS} {pre ext : List AObj} {Kk : KA} (hwf : Wf pre) (h : Kk .non ⟨vars, pre⟩) : RetK Kk vars pre.length .next ⟨v', pre ++ ext⟩ :=
  ⟨_, pre, by have := Tell.keep (ext := ext) (ext' := []) (ks := []) rfl hwf .nil .nil; rwa [List.append_nil] at this, h⟩
theorem Nxt_same {vars v' : List VS} {pre : List AObj} {Kk : KA} (hwf : Wf pre) (h : Kk .non ⟨vars, pre⟩) : RetK Kk vars pre.length .next ⟨v', pre⟩ := by
  have := Nxt_drop (ext := []) (v' := v') hwf h
  rwa [List.append_nil] at this
theorem X_drop {c : Value} {cl : Bool} {vars v' : List VS} {pre ext : List AObj} {X : KX} (hwf : Wf pre) (h : X c cl ⟨vars, pre⟩) : RetX X vars pre.length c cl ⟨v', pre ++ ext⟩ :=
  ⟨_, pre, by have := Tell.keep (ext := ext) (ext' := []) (ks := []) rfl hwf .nil .nil; rwa [List.append_nil] at this, h⟩
noncomputable abbrev fnAt (l : List Stmt) (i : Nat) : List Stmt × Scope := MineH.fnAt l i
noncomputable abbrev clsAt (l : List Stmt) (i : Nat) : List Stmt := MineH.clsAt l i
end
section
section
variable {W : Wd} {C : Ctx} {σ : St} {K : KA} {X : KX} {i j : Int}
theorem Op2_add (h : K (.int (i + j)) σ) : Op2 W C (binaryOp .Add) (.int i) (.int j) K X σ := fun B ρ s v u R d1 d2 => by
  refine el_1_1 d1.iInt fun _ hE145 => ?_; subst hE145; refine el_1_1 d2.iInt fun _ hE146 => ?_; subst hE146; exact P.add_int (.tok (a := .int (i + j)) R (.int _ _) h)
theorem Op2_sub (h : K (.int (i - j)) σ) : Op2 W C (binaryOp .Sub) (.int i) (.int j) K X σ := fun B ρ s v u R d1 d2 => by
  refine el_1_1 d1.iInt fun _ hE149 => ?_; subst hE149; refine el_1_1 d2.iInt fun _ hE150 => ?_; subst hE150; exact P.sub_int (.tok (a := .int (i - j)) R (.int _ _) h)
theorem Op2_mul (hm : IntMulOk i j) (h : K (.int (i * j)) σ) : Op2 W C (binaryOp .Mult) (.int i) (.int j) K X σ := fun B ρ s v u R d1 d2 => by
  refine el_1_1 d1.iInt fun _ hE151 => ?_; subst hE151; refine el_1_1 d2.iInt fun _ hE152 => ?_; subst hE152; exact P.mul_int (.tok (a := .int (i * j)) R (.int _ _) h) hm
theorem noPylong {i j : Int} (hj : j.natAbs.log2 ≤ 8000) : ¬ (Builtin.divisionGoesByPylong i j = true) := by
  unfold Builtin.divisionGoesByPylong
  simp only [Bool.and_eq_true, decide_eq_true_eq, not_and]
  intro h
  exfalso
  split at h
  · omega
  · omega
theorem Op2_floordiv (h0 : (j == 0) = false) (hj : j.natAbs.log2 ≤ 8000) (h : K (.int (i.fdiv j)) σ) : Op2 W C (binaryOp .FloorDiv) (.int i) (.int j) K X σ := fun B ρ s v u R d1 d2 => by
  refine el_1_1 d1.iInt fun _ hE153 => ?_; subst hE153; refine el_1_1 d2.iInt fun _ hE154 => ?_; subst hE154
  refine AutoIntOps.floordiv_1 (by rw [h0]; exact Bool.false_ne_true) (noPylong hj) ?_
  exact .tok (a := .int (i.fdiv j)) R (.int _ _) h
theorem Op2_mod (h0 : (j == 0) = false) (h : K (.int (i.fmod j)) σ) : Op2 W C (binaryOp .Mod) (.int i) (.int j) K X σ := fun B ρ s v u R d1 d2 => by
  refine el_1_1 d1.iInt fun _ hE155 => ?_; subst hE155; refine el_1_1 d2.iInt fun _ hE156 => ?_; subst hE156
  refine AutoIntOps.mod_1 (by rw [h0]; exact Bool.false_ne_true) ?_
  exact .tok (a := .int (i.fmod j)) R (.int _ _) h
theorem Op2_band (h : K (.int (Builtin.bitAnd i j)) σ) : Op2 W C (binaryOp .BitAnd) (.int i) (.int j) K X σ := fun B ρ s v u R d1 d2 => by
  refine el_1_1 d1.iInt fun _ hE157 => ?_; subst hE157; refine el_1_1 d2.iInt fun _ hE158 => ?_; subst hE158; exact and_int (.tok (a := .int _) R (.int _ _) h)
theorem Op2_bor (h : K (.int (Builtin.bitOr i j)) σ) : Op2 W C (binaryOp .BitOr) (.int i) (.int j) K X σ := fun B ρ s v u R d1 d2 => by
  refine el_1_1 d1.iInt fun _ hE159 => ?_; subst hE159; refine el_1_1 d2.iInt fun _ hE160 => ?_; subst hE160; exact or_int (.tok (a := .int _) R (.int _ _) h)
theorem shr_big {i j : Int} (hi : 0 ≤ i) (hj : j ≥ ((Builtin.Int.intBits i : Nat) : Int)) : i.fdiv (2 ^ j.toNat) = 0 := by
  have hlt : i < 2 ^ j.toNat := by
    unfold Builtin.Int.intBits at hj
    split at hj
    · rename_i h0
      have : i = 0 := by simpa using h0
      subst this
      exact Int.pow_pos (by decide)
    · have h1 : i.natAbs < 2 ^ (i.natAbs.log2 + 1) := Nat.lt_log2_self
      have h2 : 2 ^ (i.natAbs.log2 + 1) ≤ 2 ^ j.toNat := Nat.pow_le_pow_right (by decide) (by omega)
      have e : i = (i.natAbs : Int) := by omega
      rw [e]
      exact_mod_cast Nat.lt_of_lt_of_le h1 h2
  rw [Int.fdiv_eq_ediv_of_nonneg _ (Int.le_of_lt (Int.pow_pos (by decide)))]
  exact Int.ediv_eq_zero_of_lt hi hlt
theorem Op2_shr (hi : 0 ≤ i) (h0 : 0 ≤ j) (h : K (.int (i.fdiv (2 ^ j.toNat))) σ) : Op2 W C (binaryOp .RShift) (.int i) (.int j) K X σ := fun B ρ s v u R d1 d2 => by
  refine el_1_1 d1.iInt fun _ hE161 => ?_; subst hE161; refine el_1_1 d2.iInt fun _ hE162 => ?_; subst hE162
  refine AutoIntOpsIf.rshift ?_
  rw [if_neg (by omega)]
  split
  · rename_i hb
    rw [if_neg (by omega)]
    rw [shr_big hi hb] at h
    exact .tok (a := .int 0) R (.int _ _) h
  · exact .tok (a := .int _) R (.int _ _) h
theorem Op2_eq (h : K (.bool (i == j)) σ) : Op2 W C (compareOp .Eq) (.int i) (.int j) K X σ := fun B ρ s v u R d1 d2 => by
  refine el_1_1 d1.iInt fun _ hE163 => ?_; subst hE163; refine el_1_1 d2.iInt fun _ hE164 => ?_; subst hE164; exact P.eq_int (.now (a := .bool _) R (.bool _) h)
theorem Op2_ne (h : K (.bool (i != j)) σ) : Op2 W C (compareOp .NotEq) (.int i) (.int j) K X σ := fun B ρ s v u R d1 d2 => by
  refine el_1_1 d1.iInt fun _ hE165 => ?_; subst hE165; refine el_1_1 d2.iInt fun _ hE166 => ?_; subst hE166; exact P.ne_int (.now (a := .bool _) R (.bool _) h)
theorem Op2_lt (h : K (.bool (decide (i < j))) σ) : Op2 W C (compareOp .Lt) (.int i) (.int j) K X σ := fun B ρ s v u R d1 d2 => by
  refine el_1_1 d1.iInt fun _ hE167 => ?_; subst hE167; refine el_1_1 d2.iInt fun _ hE168 => ?_; subst hE168; exact P.lt_int (.now (a := .bool _) R (.bool _) h)
theorem Op2_le (h : K (.bool (decide (i ≤ j))) σ) : Op2 W C (compareOp .LtE) (.int i) (.int j) K X σ := fun B ρ s v u R d1 d2 => by
  refine el_1_1 d1.iInt fun _ hE169 => ?_; subst hE169; refine el_1_1 d2.iInt fun _ hE170 => ?_; subst hE170; exact P.le_int (.now (a := .bool _) R (.bool _) h)
theorem Op2_gt (h : K (.bool (decide (i > j))) σ) : Op2 W C (compareOp .Gt) (.int i) (.int j) K X σ := fun B ρ s v u R d1 d2 => by
  refine el_1_1 d1.iInt fun _ hE171 => ?_; subst hE171; refine el_1_1 d2.iInt fun _ hE172 => ?_; subst hE172; exact P.gt_int (.now (a := .bool _) R (.bool _) h)
theorem Op2_ge (h : K (.bool (decide (i ≥ j))) σ) : Op2 W C (compareOp .GtE) (.int i) (.int j) K X σ := fun B ρ s v u R d1 d2 => by
  refine el_1_1 d1.iInt fun _ hE173 => ?_; subst hE173; refine el_1_1 d2.iInt fun _ hE174 => ?_; subst hE174; exact P.ge_int (.now (a := .bool _) R (.bool _) h)
theorem OpT_int {Kb : Bool → St → Prop} (h : Kb (i != 0) σ) : OpT W C (.int i) Kb X σ := fun B ρ s v R d => by
  refine el_1_1 d.iInt fun _ hE176 => ?_; subst hE176; exact P.truthy_int ⟨ρ, σ, .refl _ _, R, h⟩
end
end
section
noncomputable def clL (cells : List (Str × Addr)) : List (Str × NameKind) → List (Str × Addr) → List (Str × Addr)
  | [], cs => cs
  | (x, k) :: r, cs => clL cells r (if k == .free then (match cells.lookup x with | some c => (x, c) :: cs | none => cs) else cs)
theorem closureFor_clL (scope : Scope) (env : Env) (h : ∀ x, (x, NameKind.free) ∈ scope.names → ∃ c, env.cells.lookup x = some c) : closureFor scope env = pure (clL env.cells scope.names []) := by
  unfold closureFor
  generalize hn : scope.names = names at h ⊢
  clear hn
  have key : ∀ (names : List (Str × NameKind)) (cs : List (Str × Addr)), (∀ x, (x, NameKind.free) ∈ names → ∃ c, env.cells.lookup x = some c) →
      (forIn names cs fun x r => (if (x.2 == NameKind.free) = true then (do let c ← cellOf env x.1; pure (ForInStep.yield ((x.1, c) :: r))) else pure (ForInStep.yield r) : Sem _)) = pure (clL env.cells names cs) := by
    intro names
    induction names with
    | nil => intro cs _; rfl
    | cons p r ih =>
      intro cs h
      obtain ⟨x, k⟩ := p
      rw [List.forIn_cons, clL]
      by_cases hk : (k == NameKind.free) = true
      · have e : k = .free := by simpa using hk
        subst e
        refine el_1_1 (h x (.head _)) fun c hc => ?_
        simp only [hk, if_true]
        unfold cellOf
        rw [hc]
        simp only [pure_bind]
        exact ih _ fun y hy => h y (.tail _ hy)
      · simp only [hk, if_false, pure_bind]
        exact ih _ fun y hy => h y (.tail _ hy)
  simpa using key names [] h
theorem clL_lookup {cells : List (Str × Addr)} : ∀ (names : List (Str × NameKind)) (cs : List (Str × Addr)) {x : Str} {c : Addr}, (names.map (·.1)).Nodup → (x, NameKind.free) ∈ names → cells.lookup x = some c → (clL cells names cs).lookup x = some c := by
  intro names
  have skip : ∀ (names : List (Str × NameKind)) (cs : List (Str × Addr)) (x : Str), x ∉ names.map (·.1) → (clL cells names cs).lookup x = cs.lookup x := by
    intro names
    induction names with
    | nil => intro cs x _; rfl
    | cons p r ih =>
      intro cs x hx
      obtain ⟨y, k⟩ := p
      rw [List.map_cons, List.mem_cons, not_or] at hx
      rw [clL, ih _ x hx.2]
      split
      · split
        · rw [List.lookup_cons, beq_eq_false_iff_ne.mpr hx.1]
        · rfl
      · rfl
  induction names with
  | nil => intro cs x c _ h; cases h
  | cons p r ih =>
    intro cs x c hn hm hc
    obtain ⟨y, k⟩ := p
    rw [List.map_cons, List.nodup_cons] at hn
    rw [clL]
    rcases List.mem_cons.mp hm with e | hm
    · cases e
      rw [skip _ _ _ hn.1]
      simp [hc]
    · exact ih _ hn.2 hm hc
noncomputable def cVars (names : List (Str × NameKind)) (vars : List VS) (r : List (Str × NameKind)) : List VS := r.map fun p => match p.2 with
  | .free => (match vars[(names.findIdx? fun q => q.1 == p.1).getD names.length]? with | some (.cell k) => .cell k | _ => .non)
  | _ => .non
noncomputable def Ctx.comp (C : Ctx) (sc : Scope) (D : Addr) (n : Nat) : Ctx := { C with env := compEnvC sc (clL C.env.cells sc.names []) D C.env, low := n }
section
variable {W : Wd} {C : Ctx} {B : Base} {ρ ρ' : Rho} {σ σ' : St} {s s' : Shared} {X : KX}
noncomputable def FreeOK (C : Ctx) (σ : St) (sc : Scope) : Prop := ∀ x, (x, NameKind.free) ∈ sc.names → ∃ (i : Nat) (kd : NameKind) (k : Nat), C.env.scope.names[i]? = some (x, kd) ∧ σ.vars[i]? = some (.cell k)
theorem FreeOK.cells (h : FreeOK C σ sc) (R : Rep W C B ρ σ s) (x : Str) (hx : (x, NameKind.free) ∈ sc.names) : ∃ c, C.env.cells.lookup x = some c := by
  refine el_3_2 (h x hx) fun i kd k h1 h2 => ?_
  refine el_1_2 R.frame fun m hm hs => ?_
  obtain ⟨_, o, e, _⟩ := hs i x kd h1 _ h2
  exact ⟨_, e⟩
theorem relabel_get {sc : Scope} {env : Env} {i : Nat} {x : Str} {kd : NameKind} (h : (relabel sc env).names[i]? = some (x, kd)) : ∃ k, sc.names[i]? = some (x, k) ∧ (kd = k ∨ (k = .free ∧ kd = .cell)) := by
  unfold relabel at h
  rw [List.getElem?_map] at h
  refine el_1_2 (Option.map_eq_some_iff.mp h) fun hO183 h1 h2 => ?_; obtain ⟨y, k⟩ := hO183
  dsimp only at h2
  split at h2
  · rename_i hc
    cases h2
    simp only [Bool.and_eq_true, beq_iff_eq] at hc
    exact ⟨k, h1, .inr ⟨hc.1.1, rfl⟩⟩
  · cases h2
    exact ⟨_, h1, .inl rfl⟩
theorem findIdx_at {names : List (Str × NameKind)} (hn : (names.map (·.1)).Nodup) {i : Nat} {x : Str} {kd : NameKind} (h : names[i]? = some (x, kd)) : (names.findIdx? fun q => q.1 == x) = some i := by
  rw [List.findIdx?_eq_some_iff_getElem]
  refine el_1_1 (List.getElem?_eq_some_iff.mp h) fun hlt e => ?_
  refine ⟨hlt, by rw [e]; simp, fun j hj => ?_⟩
  have hp := List.pairwise_iff_getElem.mp hn j i (by simp; omega) (by simpa using hlt) hj
  simp only [List.getElem_map, e] at hp
  simpa using hp
theorem baseOf_le2 (R : Rep W C B ρ σ s) {l : List Addr} (hl : ∀ a ∈ l, B.h.get? a = none) : Base.Le C.A B (baseOf l ρ s) :=
  ⟨fun b o e => by
    refine el_1_1 ((R.keep b o e).there) fun o1 h1 => ?_
    have k := R.keep b o e
    rw [h1] at k
    exact ⟨o1, k, baseOf_h h1 fun q => by have := hl b q; rw [e] at this; cases this⟩,
   fun i x e => by
    show (if _ then _ else _) = _
    rw [if_neg (fun hQ0 => by refine el_1_2 hQ0 fun o ho q => ?_; have := (R.gnew o ho i q).1; rw [e] at this; cases this)]
    exact R.gkeep i x e⟩
theorem Rep.handB2 (R : Rep W C B ρ σ s) {l : List Addr} (hl : ∀ a ∈ l, B.h.get? a = none) (v : Value) (h : C.A.handled = some v) : ∃ e o vs, v = .ref e ∧ (baseOf l ρ s).h.get? e = some o ∧ o.cls = C.hcls ∧ o.data = .fields vs ∧ 6 ≤ vs.size ∧ (C.hclean = true → vs[2]? = some .none) := by
  refine el_3_5 (R.handS v h) fun e o vs h1 h2 h3 h4 h5 => ?_
  refine el_3_3 (R.hand v h) fun e' o' vs' q1 q2 _ => ?_
  have : e = e' := by rw [h1] at q1; injection q1
  subst this
  exact ⟨e, o, vs, h1, baseOf_h h2 fun q => (by have := hl e q; rw [q2] at this; cases this), h5⟩
theorem Rep.plB {I : Addr} (R : Rep W C B ρ σ s) (hI : NewA W C B ρ I ∨ I ∈ rhoAs ρ) : B.h.get? I = none := hI.elim (fun h => h.2.1) fun h => (R.fresh I (.tail _ h)).1
theorem Rep.plL {I : Addr} (R : Rep W C B ρ σ s) (hI : NewA W C B ρ I ∨ I ∈ rhoAs ρ) : I ≠ C.env.locals := fun e => hI.elim (fun h => h.1 (e ▸ .head _)) fun h => R.envNot (e ▸ h)
theorem Rep.plF {I : Addr} (R : Rep W C B ρ σ s) (hI : NewA W C B ρ I ∨ I ∈ rhoAs ρ) : ¬ frAddr C.A I := fun f => hI.elim (fun h => h.2.2.2 f) fun h => (R.frs I f).2.1 h
theorem Rep.enterComp {sc : Scope} {D I : Addr} {s₁ : Shared} {m : Str → Option Value} (R : Rep W C B ρ σ s) (hfr : FreeOK C σ sc) (hnd : (sc.names.map (·.1)).Nodup) (hnd2 : (C.env.scope.names.map (·.1)).Nodup) (hD : s.heap.get? D = none) (hI : NewA W C B ρ I ∨ I ∈ rhoAs ρ)
    (hns : s₁.heap.Ns D m) (hk : ∀ b o, s.heap.get? b = some o → s₁.heap.get? b = some o) (hg : s₁.gens = s.gens) (hos : s₁.os = s.os) :
    Rep W (C.comp sc D ρ.length) (baseOf (I :: rhoAs ρ) ρ s) ρ ⟨cVars C.env.scope.names σ.vars sc.names, σ.objs⟩ s₁ := by
  have hz : Frz s.heap s₁.heap := .ofExt hk
  have nD := R.newNot hD
  exact
    { top := fun b o e => hk b o (R.top b o e)
      keep := fun b o e => .inl (hk b o (of_baseOf e))
      nodup := List.nodup_cons.mpr ⟨fun q => nD.1 (.tail _ q), R.nodupR⟩
      fresh := fun a ha => by
        rcases List.mem_cons.mp ha with rfl | ha
        · refine ⟨?_, nD.2.2.1⟩
          cases q : (baseOf (I :: rhoAs ρ) ρ s).h.get? a with
          | none => rfl
          | some o => have := of_baseOf q; rw [hD] at this; cases this
        · exact ⟨baseOf_none (.tail _ ha), (R.fresh a (.tail _ ha)).2⟩
      live := fun a ha => by
        rcases List.mem_cons.mp ha with rfl | ha
        · refine el_3_2 hns fun o _ _ q _ => ?_; exact ⟨o, q⟩
        · refine el_1_1 (R.live a (.tail _ ha)) fun o ho => ?_; exact ⟨o, hk a o ho⟩
      frame := by
        refine ⟨m, hns, fun i x kd hi sl hsl => ?_⟩
        refine el_1_2 (relabel_get hi) fun k h1 h2 => ?_
        have hsl' : (cVars C.env.scope.names σ.vars sc.names)[i]? = some sl := hsl
        unfold cVars at hsl'
        rw [List.getElem?_map, h1] at hsl'
        have e : sl = _ := (Option.some.inj hsl').symm
        cases k with
        | free =>
          refine el_3_2 (hfr x (List.mem_of_getElem? h1)) fun j kd' k' g1 g2 => ?_
          have e2 : sl = .cell k' := by
            rw [e]
            dsimp only
            rw [findIdx_at hnd2 g1, Option.getD_some, g2]
          subst e2
          refine el_1_2 R.frame fun m' hm' hs => ?_
          obtain ⟨_, o, q1, q2⟩ := hs j x kd' g1 _ g2
          refine ⟨?_, o, clL_lookup _ _ hnd (List.mem_of_getElem? h1) q1, q2⟩
          rcases h2 with rfl | ⟨_, rfl⟩
          · exact .inr rfl
          · exact .inl rfl
        | _ => (rw [e]; trivial)
      len := R.len
      objs := fun k own o h1 h2 => (R.objs k own o h1 h2).mono hz (.refl _) (fun a _ ob e => hk a ob e) fun g _ x e => by rw [hg]; exact e
      gkeep := fun i y e => by
        have e' : (if _ then _ else _) = _ := e
        split at e'
        · cases e'
        · rw [hg]; exact e'
      gnew := fun o ho g e => ⟨by show (if _ then _ else _) = _; rw [if_pos ⟨o, ho, e⟩], by rw [hg]; exact (R.gnew o ho g e).2⟩
      gnod := R.gnod
      frs := fun b f => by
        obtain ⟨y1, y2, o, es, ep, h1, h2⟩ := R.frs b f
        exact ⟨y1, y2, o, es, ep, hk b o h1, h2⟩
      hand := fun v hv => R.handB2 (fun a ha => by rcases List.mem_cons.mp ha with rfl | ha; exact R.plB hI; exact (R.fresh a (.tail _ ha)).1) v hv
      bare := by rw [hg]; exact R.bare
      os := hos.trans R.os }
theorem Rep.leaveComp {sc : Scope} {D I : Addr} {n : Nat} (R : Rep W C B ρ σ s) (hI : NewA W C B ρ I ∨ I ∈ rhoAs ρ) (R' : Rep W (C.comp sc D n) (baseOf (I :: rhoAs ρ) ρ s) ρ' σ' s') (E : Ext ρ s ρ' s') : Rep W C B ρ' ⟨σ.vars, σ'.objs⟩ s' ∧ NewA W C B ρ' D := by
  have le : Base.Le C.A B (baseOf (I :: rhoAs ρ) ρ s) := baseOf_le2 R fun a ha => by rcases List.mem_cons.mp ha with rfl | ha; exact R.plB hI; exact (R.fresh a (.tail _ ha)).1
  refine el_1_1 (R.live C.env.locals (.head _)) fun oL hoL => ?_
  have bL := baseOf_h (l := I :: rhoAs ρ) (ρ := ρ) hoL fun q => by
    rcases List.mem_cons.mp q with q | q
    · exact R.plL hI q.symm
    · exact R.envNot q
  have fr : ∀ a ∈ ownA (C.comp sc D n) ρ', B.h.get? a = none := fun a ha => by
    cases q : B.h.get? a with
    | none => rfl
    | some o => refine el_1_2 (le.1 a o q) fun o1 _ e1 => ?_; have := (R'.fresh a ha).1; rw [e1] at this; cases this
  refine ⟨{ top := R'.top
            keep := fun b o e => let ⟨o1, k, e1⟩ := le.1 b o e; k.trans (R'.keep b o1 e1) id
            nodup := List.nodup_cons.mpr ⟨fun q => (by have := (R'.fresh _ (.tail _ q)).1; rw [bL] at this; cases this), R'.nodupR⟩
            fresh := fun a ha => by
              rcases List.mem_cons.mp ha with rfl | ha
              · exact R.fresh _ (.head _)
              · exact ⟨fr a (.tail _ ha), (R'.fresh a (.tail _ ha)).2⟩
            frame := R.frame.mono E.2 E.1 (ns_data fun o e => by rw [hoL] at e; cases e; refine el_1_4 ((R'.keep _ _ bL).data) fun o' h1 _ h2 _ => ?_; exact ⟨o', h1, h2⟩)
            live := fun a ha => by
              rcases List.mem_cons.mp ha with rfl | ha
              · exact (R'.keep _ _ bL).there
              · exact R'.live a (.tail _ ha)
            len := R'.len, objs := R'.objs
            gkeep := fun i x e => R'.gkeep i x (le.2 i x e)
            gnew := fun o ho g e => ⟨(by
              cases q : B.g g with
              | none => rfl
              | some x => (have := (R'.gnew o ho g e).1; rw [le.2 g x q] at this; cases this)), (R'.gnew o ho g e).2⟩
            gnod := R'.gnod, frs := R'.frs, hand := R.hand, bare := R'.bare, os := R'.os }, fun q => ?_, fr D (.head _), (R'.fresh D (.head _)).2, fun f => ?_⟩
  · rcases List.mem_cons.mp q with e | q
    · have := (R'.fresh D (.head _)).1
      rw [e, bL] at this; cases this
    · exact (List.nodup_cons.mp R'.nodup).1 q
  · obtain ⟨_, _, o, es, ep, h1, h2⟩ := R.frs D f
    have hD : D ∉ rhoAs ρ := (R.frs D f).2.1
    have := (R'.fresh D (.head _)).1
    rw [baseOf_h h1 (fun q => by
      rcases List.mem_cons.mp q with q | q
      · exact R.plF hI (q ▸ f)
      · exact hD q)] at this; cases this
noncomputable def AccAt (acc : Value) (k : Nat) (ρ : Rho) : Prop := ∃ own, ρ[k]? = some own ∧ acc = .ref own.a
theorem AccAt.le {acc : Value} {k : Nat} (h : AccAt acc k ρ) (e : RhoLe ρ ρ') : AccAt acc k ρ' := by
  refine el_1_2 h fun own h1 hE184 => ?_; subst hE184
  refine el_1_2 (e k own h1) fun o' e1 e2 => ?_
  exact ⟨o', e1, by rw [e2]⟩
theorem AccAt.take {acc : Value} {k n : Nat} (h : AccAt acc k ρ) (hk : k < n) : AccAt acc k (ρ.take n) := let ⟨own, h1, h2⟩ := h; ⟨own, get_take hk h1, h2⟩
noncomputable def RunU (W : Wd) (C : Ctx) (acc : Value) (k : Nat) (t : Sem Unit) (K : St → Prop) (X : KX) (σ : St) : Prop :=
  ∀ B ρ s, Rep W C B ρ σ s → AccAt acc k ρ → wpAny (model W.prog W.w) C.A t (PostU W C B ρ s K) (PostX W C B ρ s X) s
noncomputable def JTests (W : Wd) (C : Ctx) : List Expr → (Bool → St → Prop) → KX → St → Prop
  | [], K, _, σ => K true σ
  | c :: r, K, X, σ => JB W C c (fun b σ₁ => (b = true → JTests W C r K X σ₁) ∧ (b = false → K false σ₁)) X σ
theorem tests_false {M : Model} {A : Around} {E : Value → Shared → Prop} {Q : Bool → Shared → Prop} {env : Env} : ∀ (l : List Expr), Q false s → wpAny M A (forIn l false fun c r => if r = true then do let ok ← isTrue c env (eval c env); pure (ForInStep.yield ok) else pure (ForInStep.yield r)) Q E s
  | [], h => by rw [List.forIn_nil]; exact wpAny_pure h
  | c :: r, h => by
    rw [List.forIn_cons]
    simp only [Bool.false_eq_true, if_false]
    exact wpAny_bind (wpAny_pure (tests_false r h))
theorem tests_J {l : List Expr} : ∀ {K : Bool → St → Prop} {σ : St} {ρ : Rho} {s : Shared}, JTests W C l K X σ → Rep W C B ρ σ s →
    wpAny (model W.prog W.w) C.A (forIn l true fun c r => if r = true then do let ok ← isTrue c C.env (eval c C.env); pure (ForInStep.yield ok) else pure (ForInStep.yield r)) (PostB W C B ρ s K) (PostX W C B ρ s X) s := by
  induction l with
  | nil => intro K σ ρ s h R; rw [List.forIn_nil]; exact wpAny_pure ⟨ρ, σ, .refl _ _, R, h⟩
  | cons c r ih =>
    intro K σ ρ s h R
    rw [List.forIn_cons]
    simp only [if_true]
    refine wpAny_bind (wpAny_bind (wpAny_mono (h B ρ s R) (fun b s1 hP => hP.el fun ρ1 σ1 e1 R1 kk => wpAny_pure ?_) fun _ _ x => x))
    cases b with
    | true => exact wpAny_mono (ih (kk.1 rfl) R1) (fun _ _ x => x.ext e1) fun _ _ x => x.ext e1
    | false => exact tests_false r ⟨ρ1, σ1, e1, R1, kk.2 rfl⟩
noncomputable def emitOf (e : Expr) (acc : Value) (env : Env) : Sem Unit := match e with
  | .ListComp elt _ _ _ => do let _ ← call (.builtin "list.append") [acc, ← eval elt env]
  | .DictComp k v _ _ _ => do
    let kv ← eval k env
    let vv ← holding [kv] (eval v env)
    match acc with
    | .ref d => do
      standAt { k.pos with endLine := v.pos.endLine, endCol := v.pos.endCol }
      holding [kv, vv] (dictSet d kv vv)
    | _ => unsupported "internal:dictcomp"
  | _ => unsupported "internal:not-a-comprehension"
noncomputable def innerOf (e : Expr) (d : Nat) (acc : Value) (env : Env) (gens : List Comprehension) : Sem Unit := match gens[d + 1]? with
  | some g' => do
    let x ← eval g'.iter env
    standAt g'.iter.pos
    let x ← foldedSetIterable g'.iter env x
    let _ ← runOwn (.compStart e (d + 1) (← holding [x] (pyIter x)) acc env) env
  | none => emitOf e acc env
noncomputable def plainComp : Expr → Bool
  | .ListComp .. => true
  | .DictComp .. => true
  | _ => false
theorem plain_el {P : Expr → Prop} {e : Expr} (h : plainComp e = true) (h1 : ∀ a b c d, P (.ListComp a b c d)) (h2 : ∀ a b c d f, P (.DictComp a b c d f)) : P e := by
  cases e <;> first | exact h1 .. | exact h2 .. | exact (Bool.false_ne_true h).elim
section
variable {M : Model} {A : Around} {e : Expr} {d : Nat} {it acc : Value} {env : Env}
theorem plain_quiet (hp : plainComp e = true) : (Code.compLoop e d it acc env).quiet = true := plain_el (P := fun e => (Code.compLoop e d it acc env).quiet = true) hp (fun _ _ _ _ => rfl) fun _ _ _ _ _ => rfl
theorem plain_den {p : Program} {w : World} (hp : plainComp e = true) : (model p w).den (.compLoop e d it acc env) = (compTurn e d it acc env).onRaise (fun x => do noteFrame x env; theTreesLotGoes x) :=
  plain_el (P := fun e => (model p w).den (.compLoop e d it acc env) = (compTurn e d it acc env).onRaise (fun x => do noteFrame x env; theTreesLotGoes x)) hp (fun _ _ _ _ => rfl) fun _ _ _ _ _ => rfl
theorem plain_under (hp : plainComp e = true) : A.under (.compLoop e d it acc env) = A := plain_el (P := fun e => A.under (.compLoop e d it acc env) = A) hp (fun _ _ _ _ => Around.under_of_weight rfl) fun _ _ _ _ _ => Around.under_of_weight rfl
theorem plain_denS {p : Program} {w : World} (hp : plainComp e = true) : (model p w).den (.compStart e d it acc env) = (compStart e d it acc env).onRaise (fun x => do noteFrame x env; standAt theWindowsPlace) :=
  plain_el (P := fun e => (model p w).den (.compStart e d it acc env) = (compStart e d it acc env).onRaise (fun x => do noteFrame x env; standAt theWindowsPlace)) hp (fun _ _ _ _ => rfl) fun _ _ _ _ _ => rfl
theorem plain_underS (hp : plainComp e = true) : A.under (.compStart e d it acc env) = A := plain_el (P := fun e => A.under (.compStart e d it acc env) = A) hp (fun _ _ _ _ => Around.under_of_weight rfl) fun _ _ _ _ _ => Around.under_of_weight rfl
end
theorem compTurn_eq {e : Expr} {d : Nat} {it acc : Value} {env : Env} {g : Comprehension} (hp : plainComp e = true) (hg : (clausesOf e)[d]? = some g) (ha : (clausesOf e).all (fun g => g.is_async == 0) = true) :
    compTurn e d it acc env = (standAt g.iter.pos >>= fun _ => pyNext it >>= fun r => match r with
      | none => pure (.done .next)
      | some v => letOwnedTupleGo g.target it v >>= fun _ => assign g.target env v >>= fun _ =>
        (forIn g.ifs true fun c r => if r = true then do let ok ← isTrue c env (eval c env); pure (ForInStep.yield ok) else pure (ForInStep.yield r)) >>= fun ok =>
          if ok = true then innerOf e d acc env (clausesOf e) >>= fun _ => again (.compLoop e d it acc env) else again (.compLoop e d it acc env)) := by
  have ga : ∀ (j : Nat) g', (clausesOf e)[j]? = some g' → (g'.is_async != 0) = false := fun j g' h => by
    have := List.all_eq_true.mp ha g' (List.mem_of_getElem? h)
    have h0 : g'.is_async = 0 := by simpa using this
    simp [h0]
  have hg0 := ga d g hg
  refine plain_el (P := fun e => (clausesOf e)[d]? = some g → (∀ (j : Nat) g', (clausesOf e)[j]? = some g' → (g'.is_async != 0) = false) → compTurn e d it acc env = (standAt g.iter.pos >>= fun _ => pyNext it >>= fun r => match r with
      | none => pure (.done .next)
      | some v => letOwnedTupleGo g.target it v >>= fun _ => assign g.target env v >>= fun _ =>
        (forIn g.ifs true fun c r => if r = true then do let ok ← isTrue c env (eval c env); pure (ForInStep.yield ok) else pure (ForInStep.yield r)) >>= fun ok =>
          if ok = true then innerOf e d acc env (clausesOf e) >>= fun _ => again (.compLoop e d it acc env) else again (.compLoop e d it acc env))) hp (fun _ _ _ _ => ?_) (fun _ _ _ _ _ => ?_) hg ga
  all_goals
    clear hg ga ha hp
    intro hg ga
    unfold compTurn innerOf
    simp only [clausesOf] at hg ga ⊢
    simp only [hg, hg0, Bool.false_eq_true, if_false]
    refine congrArg _ (funext fun _ => congrArg _ (funext fun r => ?_))
    cases r with
    | none => rfl
    | some v =>
      dsimp only
      congr 1; funext _; congr 1; funext _; congr 1; funext ok
      cases ok with
      | false => rfl
      | true =>
        simp only [if_true]
        split
        · rename_i g' hq
          simp only [ga _ _ hq, Bool.false_eq_true, if_false, bind_assoc]
          first | rfl | (simp only [hq]; rfl) | (simp only [hq, emitOf, bind_assoc, pure_bind]; done)
        · rename_i hq
          first | rfl | (simp only [hq]; rfl) | (simp only [hq, emitOf, bind_assoc, pure_bind]; done)
noncomputable def PostXT (W : Wd) (C : Ctx) (B : Base) (ρ₀ : Rho) (s₀ : Shared) (X : KX) : Value → Shared → Prop := fun v s => ∃ ρ cls cl fl σ e, v = .ref e ∧ Ext ρ₀ s₀ ρ s ∧ Rep W C B ρ σ s ∧ FlyT W C B ρ s.heap e cls fl cl ∧ (fl = .none ∨ ∃ z : Nat, fl = rawInt z) ∧ X cls cl σ
noncomputable def CompR (W : Wd) (C : Ctx) (B : Base) (ρ₀ : Rho) (s₀ : Shared) (K : St → Prop) (X : KX) : Result → Shared → Prop := fun r s' => match r with
  | .ok _ => PostU W C B ρ₀ s₀ K () s'
  | .error v => PostXT W C B ρ₀ s₀ X v s'
theorem noteT_J {L e : Addr} {cls : Value} {cl : Bool} {E : Value → Shared → Prop} (R : Rep W C B ρ σ s) (hF : FrsA C.A C.env L) (y : Fly W C B ρ s.heap e cls cl)
    (h : ∀ h', Rep W C B ρ σ { s with heap := h' } → Ext ρ s ρ { s with heap := h' } → FlyT W C B ρ h' e cls (rawInt L) cl → E (.ref e) { s with heap := h' }) :
    notedBy (model W.prog W.w) C.A C.env E (.ref e) s := by
  unfold notedBy
  exact note_J R hF y h
set_option maxHeartbeats 1000000 in
theorem compLoop_J {e : Expr} {d k : Nat} {g : Comprehension} {acc : Value} {ok : Nat → St → Prop} {step : Nat → St → St} {vals : List AV} {endX : Option (Value × Bool)} {I : Addr} {It : Nat → Base → Rho → Shared → Prop} (hp : plainComp e = true) (hg : (clausesOf e)[d]? = some g) (ha : (clausesOf e).all (fun g => g.is_async == 0) = true)
    (T : Itr W C ρ ok step vals endX I It) (hF : FrsC C) (hk : k < C.low) (Inv : Nat → St → Prop) (hok : ∀ i σ, Inv i σ → ok i σ)
    (turn : ∀ i a σ, vals[i]? = some a → Inv i σ → AsgJ W C g.target a (fun σ₁ => JTests W C g.ifs (fun b σ₂ => (b = true → RunU W C acc k (innerOf e d acc C.env (clausesOf e)) (fun σ₃ => ∃ σ', Back C σ₃ σ' ∧ Inv (i + 1) σ') X σ₂) ∧ (b = false → ∃ σ', Back C σ₂ σ' ∧ Inv (i + 1) σ')) X σ₁) X (step i σ))
    (finX : ∀ c cl, endX = some (c, cl) → ∀ σ, Inv vals.length σ → X c cl (step vals.length σ))
    (R : Rep W C B ρ σ s) (h0 : Inv 0 σ) (hI : It 0 B ρ s) (hacc : AccAt acc k ρ) :
    codeAny (model W.prog W.w) C.A (.compLoop e d (.ref I) acc C.env) (CompR W C B (ρ.take C.low) s (fun σ' => endX = none ∧ ∃ σ, Inv vals.length σ ∧ σ' = step vals.length σ) X) s := by
  refine el_1_1 hF fun L hL => ?_
  have hq : (Code.compLoop e d (.ref I) acc C.env).quiet = true := plain_quiet hp
  refine codeAny_loop' hq (fun n s' => ∃ i ρ' σ', n + i = vals.length ∧ Ext (ρ.take C.low) s ρ' s' ∧ Rep W C B ρ' σ' s' ∧ Inv i σ' ∧ It i B ρ' s') (fun n s1 hQ3 => ?_) vals.length ⟨0, ρ, σ, rfl, (Ext.refl _ _).low _, R, h0, hI⟩
  refine el_3_5 hQ3 fun i ρ1 σ1 hni e1 R1 i1 t1 => ?_
  rw [plain_den hp, plain_under hp]
  refine wpAny_noted ?_
  rw [compTurn_eq hp hg ha]
  have err : ∀ {ρ2 : Rho} {s2 : Shared}, Ext (ρ.take C.low) s ρ2 s2 → ∀ v s3, PostX W C B (ρ2.take C.low) s2 X v s3 → notedBy (model W.prog W.w) C.A C.env (PostXT W C B (ρ.take C.low) s X) v s3 := fun e2 v s3 hP => hP.el fun ρ3 cls cl σ3 e ev e3 R3 F3 x3 => by
    subst ev
    exact noteT_J R3 hL F3 fun h' R4 E4 F4 => ⟨ρ3, cls, cl, _, σ3, e, rfl, (e2.transL e3).trans E4, R4, F4, .inr ⟨L, rfl⟩, x3⟩
  refine wpAny_bind (wpAny_standAt (wpAny_bind ?_))
  cases hv : vals[i]? with
  | none =>
    have hi : i = vals.length := by
      rcases Nat.lt_or_ge i vals.length with q | q
      · rw [List.getElem?_eq_getElem q] at hv; cases hv
      · omega
    subst hi
    refine T.done B ρ1 σ1 s1 _ _ R1 e1.1 (hok _ _ i1) t1 (fun hn s2 ρ2 R2 e2 => ?_) fun c cl hc s2 ρ2 e R2 e2 F2 => ?_
    · exact wpAny_pure ⟨ρ2, _, e1.trans e2, R2, hn, σ1, i1, rfl⟩
    · exact err (e1.trans e2) _ _ ⟨ρ2, c, cl, _, e, rfl, (Ext.refl _ _).low _, R2, F2, finX c cl hc σ1 i1⟩
  | some a =>
    refine T.item i a B ρ1 σ1 s1 _ _ hv R1 e1.1 (hok _ _ i1) t1 fun s1' ρ1' v R2 e2 t2 hdv hgo => ?_
    refine wpAny_bind (hgo _ _ _ ?_)
    have R2' := R2.rebase
    have le := baseOf_le R2 (l := ownA C ρ1') fun _ x => x
    have handB := R1.hand
    have leave : ∀ {ρ3 : Rho} {σ3 : St} {s3 : Shared}, Frz s1'.heap s3.heap → Rep W C (baseOf (ownA C ρ1') ρ1' s1') ρ3 σ3 s3 → Rep W C B ρ3 σ3 s3 ∧ It (i + 1) B ρ3 s3 := fun hz R3 => ⟨R3.unbase le handB, T.stay _ _ _ _ _ _ _ _ t2 R2 R3 hz⟩
    have errB : ∀ {ρ2 : Rho} {s2 : Shared}, Frz s1'.heap s2.heap → Ext (ρ.take C.low) s ρ2 s2 → ∀ v s3, PostX W C (baseOf (ownA C ρ1') ρ1' s1') (ρ2.take C.low) s2 X v s3 → notedBy (model W.prog W.w) C.A C.env (PostXT W C B (ρ.take C.low) s X) v s3 := fun hz e2 v s3 hP => hP.el fun ρ3 cls cl σ3 e ev e3 R3 F3 x3 =>
      err e2 v s3 ⟨ρ3, cls, cl, σ3, e, ev, e3, (leave (hz.trans e3.2) R3).1, F3.weaken fun a na => ⟨na.1, (by
        cases q : B.h.get? a with
        | none => rfl
        | some o => (refine el_1_2 (le.1 a o q) fun o1 _ q1 => ?_; have := na.2.1; rw [q1] at this; cases this)), na.2.2⟩, x3⟩
    refine wpAny_bind (wpAny_mono (turn i a σ1 hv i1 _ ρ1' _ v R2' hdv) (fun _ s2 hP => hP.el fun ρ2 σ2 e3 R3 k3 => ?_) fun v s3 x => errB (.refl _) (e1.trans e2) v s3 (x.low _))
    have e123 := (e1.trans e2).trans e3
    refine wpAny_bind (wpAny_mono (tests_J k3 R3) (fun b s3 hP => hP.el fun ρ3 σ3 e4 R4 hQ4 => ?_) fun v s3 x => errB e3.2 e123 v s3 (x.low _))
    refine el_0_2 hQ4 fun k4 k5 => ?_
    have e1234 := e123.trans e4
    have hlt := (List.getElem?_eq_some_iff.mp hv).1
    have again : ∀ {ρ5 : Rho} {σ5 : St} {s5 : Shared}, Frz s1'.heap s5.heap → Ext (ρ.take C.low) s ρ5 s5 → Rep W C (baseOf (ownA C ρ1') ρ1' s1') ρ5 σ5 s5 → (∃ σ', Back C σ5 σ' ∧ Inv (i + 1) σ') →
        ∃ m, m < n ∧ ∃ i ρ' σ', m + i = vals.length ∧ Ext (ρ.take C.low) s ρ' s5 ∧ Rep W C B ρ' σ' s5 ∧ Inv i σ' ∧ It i B ρ' s5 := fun hz e5 R5 hQ5 => by
      refine el_1_2 hQ5 fun σ' b i' => ?_
      refine el_0_2 (leave hz R5) fun R5' t5 => ?_
      refine el_1_4 (R5'.back b) fun ρ6 R6 e6 hsub _ => ?_
      exact ⟨n - 1, by omega, i + 1, ρ6, σ', by omega, e5.transL e6, R6, i', T.sub _ _ _ _ _ t5 hsub⟩
    cases b with
    | false =>
      rw [if_neg Bool.false_ne_true]
      exact wpAny_pure (.inl ⟨rfl, again (e3.2.trans e4.2) e1234 R4 (k5 rfl)⟩)
    | true =>
      rw [if_pos rfl]
      refine wpAny_bind (wpAny_mono (k4 rfl _ ρ3 s3 R4 ((hacc.take hk).le e1234.1)) (fun _ s4 hP => hP.el fun ρ4 σ4 e5 R5 k6 => ?_) fun v s4 x => errB (e3.2.trans e4.2) e1234 v s4 (x.low _))
      exact wpAny_pure (.inl ⟨rfl, again ((e3.2.trans e4.2).trans e5.2) (e1234.trans e5) R5 k6⟩)
end
end
section
section
variable {W : Wd} {C : Ctx} {B : Base} {ρ ρ' : Rho} {σ σ' : St} {s s' : Shared} {X : KX}
theorem compStart_J {e : Expr} {d : Nat} {I : Addr} {acc : Value} {R : Result → Shared → Prop} (hp : plainComp e = true) (ha : (clausesOf e).all (fun g => g.is_async == 0) = true)
    (h0 : codeAny (model W.prog W.w) C.A (.compLoop e d (.ref I) acc C.env) R s)
    (hself : ∀ (Q : Value → Shared → Prop) (E : Value → Shared → Prop), Q (.ref I) s → wpAny (model W.prog W.w) C.A (pyIter (.ref I)) Q E s) : codeAny (model W.prog W.w) C.A (.compStart e d (.ref I) acc C.env) R s := by
  refine codeAny_of_tree ?_
  have hq : (Code.compLoop e d (.ref I) acc C.env).quiet = true := plain_quiet hp
  rw [plain_denS hp, plain_underS hp]
  refine wpAny_notedAt ?_
  unfold compStart
  have hel : (((clausesOf e)[d]?).elim false fun x => x.is_async != 0) = false := by
    cases hg : (clausesOf e)[d]? with
    | none => rfl
    | some g =>
      have := List.all_eq_true.mp ha g (List.mem_of_getElem? hg)
      have h0 : g.is_async = 0 := by simpa using this
      simp [h0]
  rw [hel]
  simp only [Bool.false_eq_true, if_false]
  refine wpAny_bind (wpAny_askSetting ?_)
  split
  · exact wpAny_pure ⟨hq, h0⟩
  · refine wpAny_bind (wpAny_rule ?_)
    split
    · exact wpAny_bind (wpAny_standAt (wpAny_bind (hself _ _ (wpAny_pure ⟨hq, h0⟩))))
    · exact wpAny_bind (hself _ _ (wpAny_pure ⟨hq, h0⟩))
theorem RhoLe.takeAll (ρ : Rho) : ρ.take ρ.length = ρ := List.take_length
noncomputable def CompTurns (W : Wd) (C : Ctx) (e : Expr) (d k : Nat) (acc : Value) (g : Comprehension) (vals : List AV) (endX : Option (Value × Bool)) (ok : Nat → St → Prop) (step : Nat → St → St) (K : St → Prop) (X : KX) (σ : St) : Prop := ∃ (Inv : Nat → St → Prop), (∀ i σ, Inv i σ → ok i σ) ∧
    (∀ i a σ, vals[i]? = some a → Inv i σ → AsgJ W C g.target a (fun σ₁ => JTests W C g.ifs (fun b σ₂ => (b = true → RunU W C acc k (innerOf e d acc C.env (clausesOf e)) (fun σ₃ => ∃ σ', Back C σ₃ σ' ∧ Inv (i + 1) σ') X σ₂) ∧ (b = false → ∃ σ', Back C σ₂ σ' ∧ Inv (i + 1) σ')) X σ₁) X (step i σ)) ∧
    Inv 0 σ ∧ (endX = none → ∀ σ', Inv vals.length σ' → K (step vals.length σ')) ∧ (∀ c cl, endX = some (c, cl) → ∀ σ', Inv vals.length σ' → X c cl (step vals.length σ'))
theorem compGo_J {e : Expr} {d k : Nat} {g : Comprehension} {acc : Value} {vals : List AV} {endX : Option (Value × Bool)} {ok : Nat → St → Prop} {step : Nat → St → St} {K : St → Prop} {I : Addr} {It : Nat → Base → Rho → Shared → Prop} (hp : plainComp e = true) (hg : (clausesOf e)[d]? = some g) (ha : (clausesOf e).all (fun g => g.is_async == 0) = true) (hF : FrsC C) (hk : k < C.low) (hlow : C.low = ρ.length)
    (T : CompTurns W C e d k acc g vals endX ok step K X σ) (R : Rep W C B ρ σ s) (T1 : Itr W C ρ ok step vals endX I It) (h1 : It 0 B ρ s) (hacc : AccAt acc k ρ) :
    codeAny (model W.prog W.w) C.A (.compStart e d (.ref I) acc C.env) (CompR W C B ρ s K X) s := by
  refine el_1_5 T fun Inv hok turn h0 hK hX => ?_
  refine compStart_J hp ha (codeAny_mono (compLoop_J hp hg ha T1 hF hk Inv hok turn hX R h0 h1 hacc) fun r s3 h3 => ?_) (fun Q E q => T1.self 0 B ρ σ _ Q E R (RhoLe.take _ _) (hok _ _ h0) h1 q)
  rw [hlow, RhoLe.takeAll] at h3
  cases r with
  | ok f => refine h3.el fun ρ4 σ4 e4 R4 kP => ?_; obtain ⟨hn, σ5, k4, rfl⟩ := kP; exact ⟨ρ4, _, e4, R4, hK hn _ k4⟩
  | error x => exact h3
theorem RunU_inner {e : Expr} {d k : Nat} {g' : Comprehension} {acc : Value} {K : St → Prop} (hp : plainComp e = true) (hg : (clausesOf e)[d + 1]? = some g') (ha : (clausesOf e).all (fun g => g.is_async == 0) = true) (hF : FrsC C) (hs : ∀ x, foldedSetIterable g'.iter C.env x = pure x)
    (h : J W C g'.iter (fun a σ₁ => k < σ₁.objs.length ∧ ∃ P vals ok step, Iters W (C.lowTo σ₁.objs.length) P ok step a vals none σ₁ σ₁ ∧ P (C.lowTo σ₁.objs.length) ∧ CompTurns W (C.lowTo σ₁.objs.length) e (d + 1) k acc g' vals none ok step K X σ₁) X σ) : RunU W C acc k (innerOf e d acc C.env (clausesOf e)) K X σ := fun B ρ s R hacc => by
  unfold innerOf
  rw [hg]
  dsimp only
  refine wpAny_bind (wpAny_mono (h B ρ s R) (fun v s1 hP => hP.el fun ρ1 a σ1 e1 R1 d1 hQ0 => ?_) fun _ _ x => x)
  obtain ⟨hk, P, vals, ok, step, hi, hP, T⟩ := hQ0
  refine wpAny_bind (wpAny_standAt (wpAny_bind (wpAny_of_eq (hs v) (wpAny_bind (wpAny_holding ?_)))))
  refine hi B ρ1 s1 v _ _ R1.lowTo d1 fun I s1' R2 e2 b n2 _ h => ?_
  refine el_1_2 (h _ ρ1 _ hP (fun _ _ x => x) (fun _ _ x => x) rfl) fun It T1 h1 => ?_
  have e1 := e1.trans e2
  refine wpAny_bind (wpAny_runOwn (codeAny_mono (compGo_J (C := C.lowTo σ1.objs.length) hp hg ha hF hk R1.len.symm T R2 T1 (h1 B n2) (hacc.le e1.1)) fun r s3 h3 => ?_))
  cases r with
  | ok f =>
    refine h3.el fun ρ4 σ4 e4 R4 k4 => ?_
    exact wpAny_pure ⟨ρ4, σ4, e1.trans e4, R4.ofLow, k4⟩
  | error x =>
    refine el_6_6 h3 fun ρ4 cls cl fl σ4 e' ev e4 R4 F4 _ x4 => ?_
    subst ev
    refine el_1_1 hF fun L hL => ?_
    have F4' : FlyT W C B ρ4 s3.heap e' cls fl cl := by
      obtain ⟨a1, oe, vs, T, oT, ts, b1, b2, b3, b4, b5, b6, b7, r⟩ := F4
      exact ⟨a1, oe, vs, T, oT, ts, b1, b2, b3, b4, b5, b6, b7, r⟩
    exact cameBack_J R4.ofLow hL F4' fun h5 R5 e5 F5 => ⟨ρ4, cls, cl, σ4, e', rfl, (e1.trans e4).trans e5, R5, F5, x4⟩
theorem RunU_append {elt : Expr} {gens : List Comprehension} {scope : Scope} {pos : Pos} {d k : Nat} {acc : Value} {K : St → Prop} (hg : gens[d + 1]? = none)
    (h : J W C elt (fun a σ₁ => ∃ l, σ₁.objs[k]? = some (.list l) ∧ l.length ≤ 10000 ∧ K { σ₁ with objs := σ₁.objs.set k (.list (l ++ [a])) }) X σ) : RunU W C acc k (innerOf (.ListComp elt gens scope pos) d acc C.env gens) K X σ := fun B ρ s R hacc => by
  unfold innerOf
  rw [hg]
  dsimp only
  unfold emitOf
  dsimp only
  refine wpAny_bind (wpAny_mono (h B ρ s R) (fun v s1 hP => hP.el fun ρ1 a σ1 e1 R1 d1 hQ1 => ?_) fun _ _ x => x)
  refine el_1_3 hQ1 fun l ho hz k1 => ?_
  refine el_1_2 (hacc.le e1.1) fun own hown hE195 => ?_; subst hE195
  refine el_1_2 (R1.objs k own _ hown ho) fun vs hlp hd => ?_
  have hl := hlp.isList
  refine wpAny_bind (wpAny_list_append_plain hlp (fun h' hlp' hsb => wpAny_pure ?_) (by rw [List.size_toArray, hd.length, sizeLine_eq]; omega))
  obtain ⟨o, q1, q2, n, q3⟩ := id hl
  refine el_1_2 hlp'.isList fun o' q1' _ => ?_
  refine el_0_2 (R1.setObj (o' := .list (l ++ [a])) (h' := h') hown (.head _) q1 (fun _ _ _ => q2) hsb.extBut ⟨o', q1'⟩ (fun hz => ⟨vs ++ [v], by simpa using hlp', (hd.mono hz (.refl _)).append (.cons (d1.mono hz (.refl _)) .nil)⟩) s1.toks) fun R2 e2 => ?_
  exact ⟨ρ1, _, e1.trans e2, R2, k1⟩
noncomputable def compScOK (sc : Scope) : Bool := sc.kind == .function && (sc.names.all fun p => p.2 != .cell) && decide (sc.names.map (·.1)).Nodup
theorem compScOK_all {sc : Scope} (h : compScOK sc = true) : sc.kind = .function ∧ (∀ x ∈ sc.names, x.2 ≠ .cell) ∧ (sc.names.map (·.1)).Nodup := by
  unfold compScOK at h
  simp only [Bool.and_eq_true, beq_iff_eq, decide_eq_true_eq] at h
  refine ⟨h.1.1, fun x hx => ?_, h.2⟩
  have := List.all_eq_true.mp h.1.2 x hx
  simpa using this
theorem comp_core {e : Expr} {newAcc : Sem Value} {ob : Obj} {o' : AObj} {g : Comprehension} {gs : List Comprehension} {scope : Scope} {K : KA} (hp : plainComp e = true) (hcl : clausesOf e = g :: gs) (hnew : ∀ (Q : Value → Shared → Prop) (E : Value → Shared → Prop) (s : Shared), Q (.ref s.heap.objs.size) { s with heap := s.heap.push ob } → wpAny (model W.prog W.w) C.A newAcc Q E s)
    (hof : ob.isFreed = false) (hob : ∀ {B ρ σ s}, Rep W C B ρ σ s → ∀ ρ', RepObj W ρ' (s.heap.push ob) s.gens ⟨s.heap.objs.size, [], []⟩ o') (hk : scope.kind = .function) (hcell : ∀ x ∈ scope.names, x.2 ≠ .cell) (hnd : (scope.names.map (·.1)).Nodup) (hnd2 : (C.env.scope.names.map (·.1)).Nodup) (ha : ((g :: gs).all fun g => g.is_async == 0) = true) {L : Addr} (hL : FrsA C.A C.env L)
    (h : J W C g.iter (fun a σ₁ => FreeOK C σ₁ scope ∧ ∃ P vals endX ok step σ₂, σ₂.vars = σ₁.vars ∧ Iters W C P ok step a vals endX σ₁ σ₂ ∧ (∀ D, P (C.comp scope D (σ₂.objs.length + 1))) ∧
      ∀ acc D, CompTurns W (C.comp scope D (σ₂.objs.length + 1)) e 0 σ₂.objs.length acc g vals endX ok step (fun σ' => K (.obj σ₂.objs.length) ⟨σ₁.vars, σ'.objs⟩) (fun c cl σ' => X c cl ⟨σ₁.vars, σ'.objs⟩) ⟨cVars C.env.scope.names σ₁.vars scope.names, σ₂.objs ++ [o']⟩) X σ)
    (R : Rep W C B ρ σ s) : wpAny (model W.prog W.w) C.A (eval g.iter C.env) (fun v s0 => wpAny (model W.prog W.w) C.A (pyIter v) (fun it s₂ => wpAny (model W.prog W.w) C.A newAcc (fun acc s₃ =>
      wpAny (model W.prog W.w) C.A (newFunctionEnv scope C.env.globals (clL C.env.cells scope.names []) [] C.env.qual none Value.none (some C.env)) (fun cenv s₄ =>
        codeAny (model W.prog W.w) C.A (Code.compStart e 0 it acc { cenv with scope := relabel scope C.env }) (compPost (model W.prog W.w) C.A (PostX W C B ρ s X) none (PostA W C B ρ s K) acc cenv.locals) s₄)
        (PostX W C B ρ s X) s₃) (PostX W C B ρ s X) s₂) (PostX W C B ρ s X) s0) (PostX W C B ρ s X) s := by
  refine wpAny_mono (h B ρ s R) (fun v s0 hP => hP.el fun ρ1 a σ0 e0 R0 d0 hQ2 => ?_) fun _ _ x => x
  obtain ⟨hfr0, P, vals, endX, ok, step, σ1, hvars, hi, hP, hT⟩ := hQ2
  refine hi B ρ1 s0 v _ _ R0 d0 fun I s1 R1 e1 bI n1 hex hIt => ?_
  obtain ⟨vars1, objs1⟩ := σ1
  dsimp only at hvars hT hP
  subst hvars
  rw [show objs1.length = ρ1.length from R1.len.symm] at hT hP
  refine hnew _ _ _ (wpAny_newFunctionEnv hcell (by intro y hy; simp at hy) (fun h₁ hns₁ hsb₁ => ?_) hk)
  dsimp only at hns₁ hsb₁ ⊢
  refine el_1_1 hex fun oI hoI => ?_
  have hlist := Heap.get?_push_size s1.heap (o := ob) hof
  have hnone : s1.heap.get? s1.heap.objs.size = none := by
    cases q : s1.heap.get? s1.heap.objs.size with
    | none => rfl
    | some o' => exact absurd (Heap.lt_size q) (Nat.lt_irrefl _)
  obtain ⟨R1b, e1b⟩ := R1.addObj (own := ⟨s1.heap.objs.size, [], []⟩) (o' := o') (h' := s1.heap.push ob) rfl (fun b x e => Heap.get?_push_of_some _ e)
    (fun a ha => by rw [List.mem_singleton.mp ha]; exact ⟨hnone, _, hlist⟩) (List.pairwise_singleton _ _) (fun _ => hob R1 _) s1.toks
  have hsz2 : (s1.heap.push ob).objs.size = s1.heap.objs.size + 1 := Heap.size_push _ _
  rw [hsz2] at hns₁ hsb₁ ⊢
  have hD : (s1.heap.push ob).get? (s1.heap.objs.size + 1) = none := by
    cases q : (s1.heap.push ob).get? (s1.heap.objs.size + 1) with
    | none => rfl
    | some o' => have := Heap.lt_size q; rw [hsz2] at this; exact absurd this (Nat.lt_irrefl _)
  have hIlt : I < s1.heap.objs.size := Heap.lt_size hoI
  have hup : ∀ a ∈ rhoAs ρ1, a ∈ rhoAs (ρ1 ++ [⟨s1.heap.objs.size, [], []⟩]) := fun a ha => by rw [rhoAs_append]; exact List.mem_append_left _ ha
  have hnot : NewA W C B ρ1 I → I ∉ rhoAs (ρ1 ++ [⟨s1.heap.objs.size, [], []⟩]) := fun h q => by
    rw [rhoAs_append] at q
    rcases List.mem_append.mp q with q | q
    · exact h.1 (.tail _ q)
    · have : I = s1.heap.objs.size := by simpa [rhoAs, Own.as] using q
      exact absurd this (Nat.ne_of_lt hIlt)
  have nI : NewA W C B (ρ1 ++ [⟨s1.heap.objs.size, [], []⟩]) I ∨ I ∈ rhoAs (ρ1 ++ [⟨s1.heap.objs.size, [], []⟩]) := by
    cases bI with
    | true => exact .inr (hup I n1)
    | false =>
      have h : NewA W C B ρ1 I := n1
      refine .inl ⟨fun q => ?_, h.2⟩
      rcases List.mem_cons.mp q with q | q
      · exact h.1 (q ▸ .head _)
      · exact hnot h q
  have hk1 : ∀ b x, (s1.heap.push ob).get? b = some x → h₁.get? b = some x := fun b x e => hsb₁.extBut b x (fun q => by rw [q, hD] at e; cases e) (Heap.get?_push_of_some _ e)
  have R2 := R1b.enterComp (s₁ := { s1 with heap := h₁ }) (sc := scope) (D := s1.heap.objs.size + 1) (I := I) hfr0 hnd hnd2 hD nI hns₁ hk1 rfl rfl
  refine el_1_2 (hIt (C.comp scope (s1.heap.objs.size + 1) (ρ1.length + 1)) (ρ1 ++ [⟨s1.heap.objs.size, [], []⟩]) { s1 with heap := h₁ } (hP _) (fun k x e => by rw [List.getElem?_append_left (List.getElem?_eq_some_iff.mp e).1]; exact e) (fun b x e => hk1 b x (Heap.get?_push_of_some _ e)) rfl) fun It T1 hI => ?_
  have hlen : (ρ1 ++ [(⟨s1.heap.objs.size, [], []⟩ : Own)]).length = ρ1.length + 1 := by simp
  have hacc0 : AccAt (.ref s1.heap.objs.size) ρ1.length (ρ1 ++ [⟨s1.heap.objs.size, [], []⟩]) := ⟨⟨s1.heap.objs.size, [], []⟩, by simp, rfl⟩
  have hT2 := hT (.ref s1.heap.objs.size) (s1.heap.objs.size + 1)
  rw [hlen] at R2
  have nI2 : Placed bI W (C.comp scope (s1.heap.objs.size + 1) (ρ1.length + 1)) (baseOf (I :: rhoAs (ρ1 ++ [⟨s1.heap.objs.size, [], []⟩])) (ρ1 ++ [⟨s1.heap.objs.size, [], []⟩]) { s1 with heap := s1.heap.push ob }) (ρ1 ++ [⟨s1.heap.objs.size, [], []⟩]) I := by
    cases bI with
    | true => exact hup I n1
    | false =>
      have h : NewA W C B ρ1 I := n1
      refine ⟨fun q => ?_, baseOf_none (.head _), h.2.2.1, h.2.2.2⟩
      rcases List.mem_cons.mp q with q | q
      · have : I = s1.heap.objs.size + 1 := q
        exact absurd this (Nat.ne_of_lt (Nat.lt_succ_of_lt hIlt))
      · exact hnot h q
  have main := compGo_J (C := C.comp scope (s1.heap.objs.size + 1) (ρ1.length + 1)) (B := _) (e := e) (d := 0) hp (by rw [hcl]; rfl) (by rw [hcl]; exact ha) ⟨L, hL⟩ (Nat.lt_succ_self _) hlen.symm hT2 R2 T1 (hI _ nI2) hacc0
  have eAll : Ext ρ s (ρ1 ++ [⟨s1.heap.objs.size, [], []⟩]) { s1 with heap := s1.heap.push ob } := (e0.trans e1).trans e1b
  have e2 : Ext (ρ1 ++ [(⟨s1.heap.objs.size, [], []⟩ : Own)]) { s1 with heap := s1.heap.push ob } (ρ1 ++ [⟨s1.heap.objs.size, [], []⟩]) { s1 with heap := h₁ } := ⟨.refl _, .ofExt hk1⟩
  have fall : ∀ {ρ4 : Rho} {σ4 : St} {s4 : Shared} {h' : Heap}, Rep W (C.comp scope (s1.heap.objs.size + 1) (ρ1.length + 1)) (baseOf (I :: rhoAs (ρ1 ++ [⟨s1.heap.objs.size, [], []⟩])) (ρ1 ++ [⟨s1.heap.objs.size, [], []⟩]) { s1 with heap := s1.heap.push ob }) ρ4 σ4 s4 →
      Ext (ρ1 ++ [⟨s1.heap.objs.size, [], []⟩]) { s1 with heap := h₁ } ρ4 s4 → Heap.SameBut (s1.heap.objs.size + 1) s4.heap h' → Rep W C B ρ4 ⟨σ0.vars, σ4.objs⟩ { s4 with heap := h' } ∧ Ext ρ4 s4 ρ4 { s4 with heap := h' } := fun {ρ4 σ4 s4 h'} R4 e4 hs' => by
    refine el_0_2 (R1b.leaveComp nI R4 (e2.trans e4)) fun R5 nD => ?_
    refine el_1_2 R4.frame fun m hO196 _ => ?_; refine el_3_3 hO196 fun oD es ep q1 q2 _ => ?_
    exact R5.offs (s' := { s4 with heap := h' }) (fun b => b = s1.heap.objs.size + 1) (fun b hb => hb ▸ nD) (fun b o' items n hb ho' hd' => by
      subst hb
      have : s4.heap.get? (s1.heap.objs.size + 1) = some oD := q1
      rw [this] at ho'; cases ho'; rw [q2] at hd'; cases hd') fun b o' hb ho' => .inl ((hs'.2 b hb).trans ho')
  refine codeAny_mono main fun r s' hr => ?_
  cases r with
  | ok f =>
    refine hr.el fun ρ4 σ4 e4 R4 k4 => ?_
    refine el_1_2 (id R4.frame) fun m hm _ => ?_
    refine ⟨m, hm, fun h' hs' => ?_⟩
    refine el_0_2 (fall R4 e4 hs') fun R5 e5 => ?_
    refine el_1_2 (e4.1 ρ1.length ⟨s1.heap.objs.size, [], []⟩ (by simp)) fun own' q1 q2 => ?_
    refine ⟨ρ4, .obj ρ1.length, _, ((eAll.trans e2).trans e4).trans e5, R5, ?_, k4⟩
    have q2' : own'.a = s1.heap.objs.size := q2
    rw [← q2']
    exact .obj q1
  | error x =>
    refine el_6_6 hr fun ρ4 cls cl fl σ4 e' ev e4 R4 F4 _ x4 => ?_
    subst ev
    refine el_1_2 (id R4.frame) fun m hm _ => ?_
    refine ⟨m, hm, fun h' hs' cenv hce => ?_⟩
    refine el_0_2 (fall R4 e4 hs') fun R5 e5 => ?_
    have F5 : FlyT W C B ρ4 h' e' cls fl cl := by
      obtain ⟨a1, oe, vs, T, oT, ts, b1, b2, b3, b4, b5, b6, b7, b8, b9, r⟩ := F4
      have hn : ∀ a, NewA W (C.comp scope (s1.heap.objs.size + 1) (ρ1.length + 1)) (baseOf (I :: rhoAs (ρ1 ++ [⟨s1.heap.objs.size, [], []⟩])) (ρ1 ++ [⟨s1.heap.objs.size, [], []⟩]) { s1 with heap := s1.heap.push ob }) ρ4 a → NewA W C B ρ4 a ∧ a ≠ s1.heap.objs.size + 1 := fun a na => by
        refine el_1_1 (R1b.live C.env.locals (.head _)) fun oL hoL => ?_
        refine ⟨⟨fun q => ?_, ?_, na.2.2⟩, fun q => na.1 (q ▸ .head _)⟩
        · rcases List.mem_cons.mp q with q | q
          · have := na.2.1
            rw [q, baseOf_h hoL (fun q' => by
              rcases List.mem_cons.mp q' with q' | q'
              · exact R1b.plL nI q'.symm
              · exact R1b.envNot q')] at this
            cases this
          · exact na.1 (.tail _ q)
        · cases q : B.h.get? a with
          | none => rfl
          | some ob =>
            refine el_1_2 ((baseOf_le2 R1b (l := I :: rhoAs (ρ1 ++ [⟨s1.heap.objs.size, [], []⟩])) fun a ha => by rcases List.mem_cons.mp ha with rfl | ha; exact R1b.plB nI; exact (R1b.fresh a (.tail _ ha)).1).1 a ob q) fun o1 _ q1 => ?_
            have := na.2.1
            rw [q1] at this; cases this
      exact ⟨(hn e' a1).1, oe, vs, T, oT, ts, (hs'.2 _ (hn e' a1).2).trans b1, b2, b3, b4, b5, b6, (hn T b7).1, b8, (hs'.2 _ (hn T b7).2).trans b9, r⟩
    unfold PySem.passOn
    obtain ⟨_, oe, vs, T, oT, ts, g1, g2, g3, g4, g5, g6, _⟩ := id F5
    refine wpAny_bind (wpAny_field g1 g3 g6 ?_)
    rw [if_neg (show ¬ ((Value.ref T == Value.none) = true) from by simp)]
    refine wpAny_bind (flight_any (f := cenv.frame) R5 F5 fun h7 R7 e7 F7 => wpAny_throw ?_)
    refine ⟨ρ4, cls, cl, _, e', rfl, (((eAll.trans e2).trans e4).trans e5).trans e7, R7, F7.toFly ?_, x4⟩
    cases cenv.frame with
    | none => exact .inl rfl
    | some z => exact .inr ⟨z, rfl⟩
theorem listComp_J {elt : Expr} {g : Comprehension} {gs : List Comprehension} {scope : Scope} {pos : Pos} {K : KA} (hsc : compScOK scope = true) (hnd2 : (C.env.scope.names.map (·.1)).Nodup) (ha : ((g :: gs).all fun g => g.is_async == 0) = true) (hs : ∀ x, foldedSetIterable g.iter C.env x = pure x) (hF : FrsC C) (hfr : FreeOK C σ scope)
    (h : J W C g.iter (fun a σ₁ => FreeOK C σ₁ scope ∧ ∃ P vals endX ok step σ₂, σ₂.vars = σ₁.vars ∧ Iters W C P ok step a vals endX σ₁ σ₂ ∧ (∀ D, P (C.comp scope D (σ₂.objs.length + 1))) ∧
      ∀ acc D, CompTurns W (C.comp scope D (σ₂.objs.length + 1)) (.ListComp elt (g :: gs) scope pos) 0 σ₂.objs.length acc g vals endX ok step (fun σ' => K (.obj σ₂.objs.length) ⟨σ₁.vars, σ'.objs⟩) (fun c cl σ' => X c cl ⟨σ₁.vars, σ'.objs⟩) ⟨cVars C.env.scope.names σ₁.vars scope.names, σ₂.objs ++ [.list []]⟩) X σ) :
    J W C (.ListComp elt (g :: gs) scope pos) K X σ := fun B ρ s R => by
  refine el_0_3 (compScOK_all hsc) fun hk hcell hnd => ?_
  refine el_1_1 hF fun L hL => ?_
  unfold JV
  rw [eval_ListComp]
  have hfa : firstAsync (g :: gs) = false := by
    have := List.all_eq_true.mp ha g (.head _)
    have h0 : g.is_async = 0 := by simpa using this
    cases g; simp only at h0; subst h0; rfl
  rw [hfa]
  refine wpAny_comprehension_free (use := none) (g := g) (gs := gs) rfl hs (closureFor_clL scope C.env fun x hx => hfr.cells R x hx) hk (fun x hx hl => lookup_of_mem hnd (by rw [← hl]; exact hx)) ?_
  have hfi : firstIter (g :: gs) C.env = eval g.iter C.env := by cases g; rfl
  rw [hfi]
  exact comp_core (e := .ListComp elt (g :: gs) scope pos) (ob := { cls := .type "list", dict := none, data := .seq ([] : List Value).toArray }) (o' := .list []) rfl rfl (fun _ _ _ q => wpAny_newObj_type q) rfl (fun R1 _ => ⟨[], ⟨0, Heap.get?_push_size _ rfl⟩, .nil⟩) hk hcell hnd hnd2 ha hL h R
end
end
section
open Sem (wp)
section
variable {M : Model} {A : Around} {G : Type}
noncomputable abbrev GEnd (G : Type) := Nat → G → Shared → Result → Shared → Prop
noncomputable abbrev GYld (G : Type) := Nat → G → Shared → Value → Shared → (G → Shared → Prop) → Prop
noncomputable def EndG (R : GEnd G) (Y : GYld G) (n : Nat) (go : G → Shared → Code → Sem PySem.Fin → List Frame → Prop) (w : G) (s₀ : Shared) (e : End) (s' : Shared) : Prop := match e with
  | .ret r => R n w s₀ r s'
  | .susp v g l k c p fs => (End.susp v g l k c p fs).quiet = true ∧ Y (n - 1) w s₀ v s' fun w' s'' => go w' s'' c (k (.send .none)) fs
noncomputable def SegG (M : Model) (A : Around) (R : GEnd G) (Y : GYld G) : Nat → G → Shared → Code → Sem PySem.Fin → List Frame → Shared → Prop
  | 0 => fun w s₀ c t fs s => ∀ (Γ : PySem.Ctx) p, Γ.code = c → Γ.Woken A → ∃ e s', Runs M Γ p t fs s e s' ∧ EndG R Y 0 (fun _ _ _ _ _ => False) w s₀ e s'
  | n + 1 => fun w s₀ c t fs s => ∀ (Γ : PySem.Ctx) p, Γ.code = c → Γ.Woken A → ∃ e s', Runs M Γ p t fs s e s' ∧ EndG R Y (n + 1) (fun w' s'' c' t' fs' => SegG M A R Y n w' s'' c' t' fs' s'') w s₀ e s'
noncomputable def nextG (M : Model) (A : Around) (R : GEnd G) (Y : GYld G) : Nat → G → Shared → Code → Sem PySem.Fin → List Frame → Prop
  | 0 => fun _ _ _ _ _ => False
  | n + 1 => fun w s'' c t fs => SegG M A R Y n w s'' c t fs s''
variable {R : GEnd G} {Y : GYld G} {n : Nat} {w : G} {s₀ s : Shared} {c : Code} {fs : List Frame}
theorem segG_iff {t : Sem PySem.Fin} : SegG M A R Y n w s₀ c t fs s ↔ ∀ (Γ : PySem.Ctx) p, Γ.code = c → Γ.Woken A → ∃ e s', Runs M Γ p t fs s e s' ∧ EndG R Y n (nextG M A R Y n) w s₀ e s' := by
  cases n <;> rfl
theorem segG_wrap {α : Type} {m : Sem α} {K : α → Sem PySem.Fin} {H : Value → Sem PySem.Fin} {gd lv} (h : wpAny M (A.over c fs) m (fun a s' => SegG M A R Y n w s₀ c (K a) fs s') (fun x s' => SegG M A R Y n w s₀ c (H x) fs s') s) : SegG M A R Y n w s₀ c (m.wrap K H gd lv) fs s := by
  rw [segG_iff]
  rintro Γ p rfl hΓ
  exact runs_wrap_of_wp K H gd lv m (h (Γ.over fs) p (hΓ.over fs)) (fun a p' s' h' => segG_iff.mp h' Γ p' rfl hΓ) fun x p' s' h' => segG_iff.mp h' Γ p' rfl hΓ
theorem segG_at {p' : Pos} {k : Unit → Sem PySem.Fin} (h : SegG M A R Y n w s₀ c (k ()) fs s) : SegG M A R Y n w s₀ c (.at p' k) fs s :=
  segG_wrap (m := standAt p') (K := k) (H := .raise) (gd := id) (lv := id) (wpAny_standAt h)
theorem segG_point {l : List Value} {k : Unit → Sem PySem.Fin} (h : SegG M A R Y n w s₀ c (k ()) fs s) : SegG M A R Y n w s₀ c (.point l k) fs s :=
  segG_wrap (m := point) (K := k) (H := .raise) (gd := id) (lv := fun _ => l) (wpAny_point h)
theorem segG_call {c' : Code} {h g l} {k : Result → Sem PySem.Fin} (hc : ∀ p, SegG M A R Y n w s₀ c' (M.den c') (.ret k h g l c p [] :: fs) s) : SegG M A R Y n w s₀ c (.call c' h g l k) fs s := by
  rw [segG_iff]
  rintro Γ p rfl hΓ
  refine el_2_2 (segG_iff.mp (hc p) (Γ.goto c') p rfl (hΓ.goto c')) fun e s' hr he => ?_
  exact ⟨e, s', runs_call_seg hr, he⟩
theorem segG_leaf {k h g l c₁ p₁ kp} (r : Result) (hk : SegG M A R Y n w s₀ c₁ (k r) fs s) : SegG M A R Y n w s₀ c (leafOf r) (.ret k h g l c₁ p₁ kp :: fs) s := by
  rw [segG_iff]
  rintro Γ p rfl hΓ
  refine el_2_2 (segG_iff.mp hk (Γ.goto c₁) p₁ rfl (hΓ.goto c₁)) fun e s' hr he => ?_
  exact ⟨e, s', Runs.pop r hr, he⟩
theorem segG_again {c' : Code} (hq : c'.quiet = true) (hc : SegG M A R Y n w s₀ c' (M.den c') fs s) : SegG M A R Y n w s₀ c (.pure (.again c')) fs s := by
  rw [segG_iff]
  rintro Γ p rfl hΓ
  refine el_2_2 (segG_iff.mp hc (Γ.goto c') p rfl (hΓ.goto c')) fun e s' hr he => ?_
  exact ⟨e, s', Runs.head (c₁ := c') (fun _ _ x => .again hq x) hr, he⟩
theorem segG_end (r : Result) (h : R n w s₀ r s) : SegG M A R Y n w s₀ c (leafOf r) [] s := by
  rw [segG_iff]
  rintro Γ p rfl _
  exact ⟨.ret r, s, Runs.leaf r, h⟩
theorem segG_yield {v g l} {k : Resume → Sem PySem.Fin} (hfs : splitAtGen fs = none) (hg : g = false) (hfg : fs.any Frame.guarded = false)
    (h : Y n w s₀ v s fun w' s'' => SegG M A R Y n w' s'' c (k (.send .none)) fs s'') : SegG M A R Y (n + 1) w s₀ c (.yield v g l k) fs s := by
  rintro Γ p rfl _
  exact ⟨_, s, Runs.yield' fs hfs, And.intro (by simp [End.quiet, hg, hfg]) h⟩
noncomputable def GoesG (M : Model) (A : Around) (R : GEnd G) (Y : GYld G) (n : Nat) (w : G) (gs : GenState) (s : Shared) : Prop := match gs with
  | .fresh c => SegG M A R Y n w s c (M.den c) [] s
  | .suspended k _ c _ fs _ => SegG M A R Y n w s c (k (.send .none)) fs s
  | _ => False
theorem resume_G {E : Value → Shared → Prop} {g : Nat} {gs : GenState} {l : List Value} {α : Type} {k : GenResult → Sem α} {Q : α → Shared → Prop} (hg : s.gens[g]? = some gs) (hgo : GoesG M A R Y n w gs (s.setGen g .running))
    (hR : ∀ x s₁, R n w (s.setGen g .running) x s₁ → wpAny M A (k (End.ret x).result) Q E (s₁.setGen g .finished))
    (hY : ∀ v s₁ gs', gs'.bare = true → Y (n - 1) w (s.setGen g .running) v s₁ (fun w' s'' => match n with | 0 => False | m + 1 => GoesG M A R Y m w' gs' s'') → wpAny M A (k (.yielded v)) Q E (s₁.setGen g gs')) :
    wpAny M A (.resume g (.send .none) l k) Q E s := by
  intro Γ p hΓ
  rw [Sem.wp_resume]
  have fin : ∀ e₁ s₁, EndG R Y n (nextG M A R Y n) w (s.setGen g .running) e₁ s₁ → wp M Γ (k e₁.result) (fun a _ s' => Q a s') (fun e _ s' => E e s') p (s₁.setGen g e₁.genState) := by
    intro e₁ s₁ he
    cases e₁ with
    | ret x => exact hR x s₁ he Γ p hΓ
    | susp v g₀ l₀ k₀ c₀ p₀ fs₀ =>
      refine hY v s₁ _ (End.bare_of_quiet he.1) ?_ Γ p hΓ
      cases n with
      | zero => exact he.2
      | succ m => exact he.2
  have hqt : ∀ e₁ s₁, EndG R Y n (nextG M A R Y n) w (s.setGen g .running) e₁ s₁ → e₁.quiet = true := by
    intro e₁ s₁ he
    cases e₁ with
    | ret x => rfl
    | susp v g₀ l₀ k₀ c₀ p₀ fs₀ => exact he.1
  cases gs with
  | fresh c =>
    refine el_2_2 (segG_iff.mp hgo (Γ.wake c p) p rfl (hΓ.wake c p)) fun e₁ s₁ hr he => ?_
    exact ⟨_, _, by unfold Wakes; rw [hg]; exact ⟨e₁, s₁, hr, hqt e₁ s₁ he, rfl, rfl⟩, fin e₁ s₁ he⟩
  | suspended k₀ l₀ c₀ p₀ fs₀ cl =>
    refine el_2_2 (segG_iff.mp hgo (Γ.wake c₀ p) p₀ rfl (hΓ.wake c₀ p)) fun e₁ s₁ hr he => ?_
    exact ⟨_, _, by unfold Wakes; rw [hg]; exact ⟨e₁, s₁, hr, hqt e₁ s₁ he, rfl, rfl⟩, fin e₁ s₁ he⟩
  | running => exact hgo.elim
  | finished => exact hgo.elim
end
end
section
section
variable {W : Wd} {C : Ctx} {B : Base} {ρ : Rho} {σ : St} {s s' : Shared}
theorem split_at {ρ : Rho} {k : Nat} {own : Own} (h : ρ[k]? = some own) (own' : Own) : ∃ l₁ l₂, ρ = l₁ ++ own :: l₂ ∧ ρ.set k own' = l₁ ++ own' :: l₂ ∧ l₁.length = k := by
  refine el_1_1 (List.getElem?_eq_some_iff.mp h) fun hlt hE199 => ?_; subst hE199
  refine ⟨ρ.take k, ρ.drop (k + 1), ?_, ?_, by simp; omega⟩
  · rw [← List.drop_eq_getElem_cons hlt, List.take_append_drop]
  · rw [List.set_eq_take_append_cons_drop, if_pos hlt]
theorem rhoAs_cons (o : Own) (ρ : Rho) : rhoAs (o :: ρ) = o.as ++ rhoAs ρ := rfl
theorem Rep.genStep (R : Rep W C B ρ σ s) {k : Nat} {own own' : Own} {o' : AObj} (hk : ρ[k]? = some own) (ha : own'.a = own.a) (hng : ∀ i ∈ own'.g, (i ∈ own.g ∨ s.gens.size ≤ i) ∧ i < s'.gens.size)
    (hkeep : ∀ b o, b ∉ own.as → s.heap.get? b = some o → KeptObj (frAddr C.A) b o (s'.heap.get? b)) (hgens : ∀ (i : Nat) x, i ∉ own.g → s.gens[i]? = some x → s'.gens[i]? = some x) (hbare : AllBare s'.gens) (hos : s'.os = s.os)
    (hnew : ∀ a ∈ own'.as, a ∈ own.as ∨ s.heap.get? a = none) (hnd : own'.as.Nodup) (hlive : ∀ a ∈ own'.as, ∃ o, s'.heap.get? a = some o) (hz : Frz s.heap s'.heap) (ho : RepObj W (ρ.set k own') s'.heap s'.gens own' o') :
    Rep W C B (ρ.set k own') { σ with objs := σ.objs.set k o' } s' ∧ Ext ρ s (ρ.set k own') s' := by
  have hklt := (List.getElem?_eq_some_iff.mp hk).1
  have hle : RhoLe ρ (ρ.set k own') := fun j o e => by
    by_cases hj : k = j
    · subst hj
      rw [hk] at e; cases e
      exact ⟨own', by rw [List.getElem?_set_self hklt], ha⟩
    · exact ⟨o, by rw [List.getElem?_set_ne hj]; exact e, rfl⟩
  refine el_2_3 (split_at hk own') fun l₁ l₂ e1 e2 e3 => ?_
  have hm : ∀ a, a ∈ rhoAs (ρ.set k own') → a ∈ own'.as ∨ a ∈ rhoAs ρ := fun a h => by
    rw [e2, rhoAs_append, rhoAs_cons] at h
    rcases List.mem_append.mp h with h | h
    · exact .inr (by rw [e1, rhoAs_append]; exact List.mem_append_left _ h)
    · rcases List.mem_append.mp h with h | h
      · exact .inl h
      · exact .inr (by rw [e1, rhoAs_append, rhoAs_cons]; exact List.mem_append_right _ (List.mem_append_right _ h))
  have hot : ∀ a, a ∈ rhoAs l₁ ∨ a ∈ rhoAs l₂ → a ∈ rhoAs ρ ∧ a ∉ own.as := fun a h => by
    have hn := R.nodupR
    rw [e1, rhoAs_append, rhoAs_cons, List.nodup_append] at hn
    have hn2 := List.nodup_append.mp hn.2.1
    refine ⟨?_, fun q => ?_⟩
    · rw [e1, rhoAs_append, rhoAs_cons]
      rcases h with h | h
      · exact List.mem_append_left _ h
      · exact List.mem_append_right _ (List.mem_append_right _ h)
    · rcases h with h | h
      · exact hn.2.2 a h a (List.mem_append_left _ q) rfl
      · exact hn2.2.2 a q a h rfl
  have place : ∀ a ∈ own'.as, a ∈ own.as ∨ NewA W C B ρ a := fun a h => (hnew a h).imp id fun h => R.newNot h
  have nown : ∀ a ∈ own.as, a ∈ rhoAs ρ := fun a h => mem_rhoAs hk h
  refine ⟨?_, hle, hz⟩
  exact
    { top := fun b o e => (hkeep b o (fun q => by have := (R.fresh b (.tail _ (nown b q))).2; rw [e] at this; cases this) (R.top b o e)).strict fun f => by have := (R.frs b f).1; rw [e] at this; cases this
      keep := fun b o e => by
        refine el_1_1 ((R.keep b o e).there) fun o1 h1 => ?_
        have kk := R.keep b o e
        rw [h1] at kk
        exact kk.trans (hkeep b o1 (fun q => by have := (R.fresh b (.tail _ (nown b q))).1; rw [e] at this; cases this) h1) id
      nodup := by
        refine List.nodup_cons.mpr ⟨fun q => ?_, ?_⟩
        · rcases hm _ q with q | q
          · rcases place _ q with q | q
            · exact R.envNot (nown _ q)
            · exact q.1 (.head _)
          · exact R.envNot q
        · have hn := R.nodupR
          rw [e1, rhoAs_append, rhoAs_cons, List.nodup_append] at hn
          have hn2 := List.nodup_append.mp hn.2.1
          rw [e2, rhoAs_append, rhoAs_cons, List.nodup_append, List.nodup_append]
          have apart : ∀ a, a ∈ own'.as → a ∈ rhoAs l₁ ∨ a ∈ rhoAs l₂ → False := fun a h1 h2 => by
            refine el_0_2 (hot a h2) fun q1 q2 => ?_
            rcases place a h1 with q | q
            · exact q2 q
            · exact q.1 (.tail _ q1)
          refine ⟨hn.1, ⟨hnd, hn2.2.1, fun a h1 b h2 e => ?_⟩, fun a h1 b h2 e => ?_⟩
          · subst e; exact apart a h1 (.inr h2)
          · subst e
            rcases List.mem_append.mp h2 with h2 | h2
            · exact apart a h2 (.inl h1)
            · exact hn.2.2 a h1 a (List.mem_append_right _ h2) rfl
      fresh := fun a h => by
        rcases List.mem_cons.mp h with rfl | h
        · exact R.fresh _ (.head _)
        · rcases hm a h with q | q
          · rcases place a q with q | q
            · exact R.fresh a (.tail _ (nown a q))
            · exact ⟨q.2.1, q.2.2.1⟩
          · exact R.fresh a (.tail _ q)
      frame := R.frame.mono hz hle (ns_data fun o e => let ⟨o', h1, _, h2, _⟩ := (hkeep _ _ (fun q => R.envNot (nown _ q)) e).data; ⟨o', h1, h2⟩)
      live := fun a h => by
        rcases List.mem_cons.mp h with rfl | h
        · refine el_1_1 (R.live C.env.locals (.head _)) fun o q => ?_
          exact (hkeep _ o (fun q => R.envNot (nown _ q)) q).there
        · by_cases q' : a ∈ own'.as
          · exact hlive a q'
          · rw [e2, rhoAs_append, rhoAs_cons] at h
            have h2 : a ∈ rhoAs l₁ ∨ a ∈ rhoAs l₂ := by
              rcases List.mem_append.mp h with h | h
              · exact .inl h
              · rcases List.mem_append.mp h with h | h
                · exact absurd h q'
                · exact .inr h
            refine el_0_2 (hot a h2) fun q1 q2 => ?_
            refine el_1_1 (R.live a (.tail _ q1)) fun o q => ?_
            exact (hkeep a o q2 q).there
      len := by simp [R.len]
      objs := fun j ow o h1 h2 => by
        have h3 : (σ.objs.set k o')[j]? = some o := h2
        by_cases hj : k = j
        · subst hj
          rw [List.getElem?_set_self hklt] at h1; cases h1
          rw [List.getElem?_set_self (by rw [← R.len]; exact hklt)] at h3; cases h3
          exact ho
        · rw [List.getElem?_set_ne hj] at h1 h3
          refine (R.objs j ow o h1 h3).mono hz hle (fun a h ob e => (hkeep a ob (fun q => hj (rhoAs_apart R.nodupR hk h1 q h)) e).strict fun f => (R.frs a f).2.1 (mem_rhoAs h1 h)) fun gg e x q => hgens gg x (fun c => ?_) q
          exact hj (R.gnod k j own ow gg hk h1 c e)
      gkeep := fun i x e => hgens i x (fun c => by have := (R.gnew own (List.mem_of_getElem? hk) i c).1; rw [e] at this; cases this) (R.gkeep i x e)
      gnew := fun o h gg e => by
        refine el_1_1 (List.mem_iff_getElem?.mp h) fun j hj => ?_
        by_cases hjk : k = j
        · subst hjk
          rw [List.getElem?_set_self hklt] at hj; cases hj
          refine el_0_2 (hng gg e) fun e e' => ?_
          refine ⟨?_, e'⟩
          rcases e with e | e
          · exact (R.gnew own (List.mem_of_getElem? hk) gg e).1
          · cases q : B.g gg with
            | none => rfl
            | some x => exact absurd (Array.getElem?_eq_some_iff.mp (R.gkeep gg x q)).1 (by omega)
        · rw [List.getElem?_set_ne hjk] at hj
          refine el_0_2 (R.gnew o (List.mem_of_getElem? hj) gg e) fun r1 r2 => ?_
          exact ⟨r1, (Array.getElem?_eq_some_iff.mp (hgens gg _ (fun c => hjk (R.gnod k j own o gg hk hj c e)) (Array.getElem?_eq_getElem r2))).1⟩
      gnod := fun i j o₁ o₂ gg h1 h2 f1 f2 => by
        have back : ∀ {i : Nat} {o : Own}, (ρ.set k own')[i]? = some o → gg ∈ o.g → (∃ o2, ρ[i]? = some o2 ∧ gg ∈ o2.g) ∨ (i = k ∧ s.gens.size ≤ gg) := fun {i o} h f => by
          by_cases hj : k = i
          · subst hj
            rw [List.getElem?_set_self hklt] at h; cases h
            rcases (hng gg f).1 with e | e
            · exact .inl ⟨own, hk, e⟩
            · exact .inr ⟨rfl, e⟩
          · rw [List.getElem?_set_ne hj] at h
            exact .inl ⟨o, h, f⟩
        rcases back h1 f1 with ⟨p1, r1, q1⟩ | ⟨r1, q1⟩ <;> rcases back h2 f2 with ⟨p2, r2, q2⟩ | ⟨r2, q2⟩
        · exact R.gnod i j p1 p2 gg r1 r2 q1 q2
        · have := (R.gnew p1 (List.mem_of_getElem? r1) gg q1).2; omega
        · have := (R.gnew p2 (List.mem_of_getElem? r2) gg q2).2; omega
        · omega
      frs := fun b f => by
        obtain ⟨x1, x2, o, es, ep, h1, h2⟩ := R.frs b f
        refine el_1_4 ((hkeep b o (fun q => x2 (nown b q)) h1).data) fun o' q1 _ q2 _ => ?_
        refine ⟨x1, fun q => ?_, o', es, ep, q1, q2.trans h2⟩
        rcases hm b q with q | q
        · rcases place b q with q | q
          · exact x2 (nown b q)
          · exact q.2.2.2 f
        · exact x2 q
      hand := R.hand, bare := hbare, os := hos.trans R.os }
theorem next_gen {A : Around} {G : Type} {R : GEnd G} {Y : GYld G} {n : Nat} {w : G} {a : Addr} {g : Nat} {gs : GenState} {Q : Option Value → Shared → Prop} {E : Value → Shared → Prop} (hl : s.heap.NoLimit) (hroom : A.depth < recursionLimit) (hg : s.heap.IsGen a g) (hgs : s.gens[g]? = some gs)
    (hgo : GoesG (model W.prog W.w) A.in1 R Y n w gs (s.setGen g .running))
    (hY : ∀ v s₁ gs', gs'.bare = true → Y (n - 1) w (s.setGen g .running) v s₁ (fun w' s'' => match n with | 0 => False | m + 1 => GoesG (model W.prog W.w) A.in1 R Y m w' gs' s'') → Q (some v) (s₁.setGen g gs'))
    (hR : ∀ x s₁, R n w (s.setGen g .running) x s₁ → (x = .ok (.ret .none) ∧ HD A.in1 s₁.heap ∧ ∀ h', (∀ b o, s₁.heap.get? b = some o → h'.get? b = some o) → Q none { s₁.setGen g .finished with heap := h' }) ∨
      (∃ e oe, x = .error (.ref e) ∧ s₁.heap.IsGen a g ∧ s₁.heap.get? e = some oe ∧ Looks (model W.prog W.w) s₁.heap (isSubtype oe.cls (.type "StopIteration")) false ∧ E (.ref e) (s₁.setGen g .finished))) :
    wpAny (model W.prog W.w) A (pyNext (.ref a)) Q E s := by
  unfold pyNext
  refine wpAny_bind (wpAny_attempt (wpAny_callSpecial?_slot (name := Str.ofString "__next__") hg.typeIs slot_gen_next (wpAny_call_entry slot_gen_next hg.typeIs entry_gen_next ?_ (args_gen_next _))))
  show wpAny _ A.in1 (Builtin.Generator.genWake (.ref a) (.send .none)) _ _ s
  unfold Builtin.Generator.genWake
  refine wpAny_bind (wpAny_holding (wpAny_genNumber hg (wpAny_bind (wpAny_genState hgs ?_))))
  cases gs with
  | running => exact hgo.elim
  | finished => exact hgo.elim
  | _ =>
    refine wpAny_bind (wpAny_roomToWake hl hroom ?_)
    show wpAny _ A.in1 (.resume g (.send .none) [] _) _ _ s
    refine resume_G hgs hgo (fun x s₁ hx => ?_) (fun v s₁ gs' hb hv => ?_)
    · rcases hR x s₁ hx with ⟨rfl, hd, hq⟩ | ⟨e, oe, rfl, hG, he, hst, hq⟩
      · show wpAny _ A.in1 (newExc (.type "StopIteration") [] >>= fun e => raiseNew e >>= _) _ _ _
        refine wpAny_bind ?_
        refine wpAny_mono (stop_gen2 (Q := fun _ _ => False) hd fun h' e hk ht => ?_) (fun v s2 h2 => wpAny_bind (wpAny_mono h2 (fun _ _ f => f.elim) fun _ _ x => x)) fun _ _ x => x
        exact wpAny_bind (wpAny_isInstance (T := "StopIteration") (b := true) ht isSubtype_stop (wpAny_pure (hq h' hk)))
      · show wpAny _ A.in1 (Builtin.Generator.genLeft (.ref a) (.ref e)) _ _ _
        refine el_3_4 hG fun o nm qn ho hcls hdat _ => ?_
        have hTO : ∀ {A' : Around} {Q' : Bool → Shared → Prop} {E' : Value → Shared → Prop}, Q' false (s₁.setGen g .finished) → wpAny (model W.prog W.w) A' (isInstance (.ref e) (.type "StopIteration")) Q' E' (s₁.setGen g .finished) := fun h => by
          unfold isInstance
          exact wpAny_bind (typeOf_ref (s := s₁.setGen g .finished) he (hst _ _ _ _ (fun _ _ x => x) h))
        unfold Builtin.Generator.genLeft Builtin.Generator.madeByALambda
        refine wpAny_bind (wpAny_bind (wpAny_load (s := s₁.setGen g .finished) ho (wpAny_pure ?_)))
        rw [hdat]
        have hb : (o.cls == Value.type "generator" && (#[Value.int (↑g) 0, nm, qn][3]? == some (Value.bool true))) = false := by simp
        dsimp only
        rw [hb]
        refine wpAny_bind (hTO ?_)
        simp only [Bool.false_and, Bool.false_eq_true, if_false]
        unfold Builtin.Generator.genEscaped
        refine wpAny_bind (hTO ?_)
        simp only [Bool.not_false, if_true]
        refine wpAny_throw ?_
        refine wpAny_bind (hTO ?_)
        simp only [Bool.false_eq_true, if_false]
        exact wpAny_throw hq
    · exact wpAny_pure ⟨v, rfl, wpAny_pure (hY v s₁ gs' hb hv)⟩
end
end
section
section
variable {W : Wd} {C : Ctx} {B : Base} {ρ : Rho} {σ : St} {s s' : Shared}
theorem allBare_setGen {s : Shared} {g : Nat} {x : GenState} (h : AllBare s.gens) (hx : x.bare = true) : AllBare (s.setGen g x).gens := fun y hy => by
  have hy' : y ∈ s.gens.setIfInBounds g x := hy
  obtain ⟨i, hi, e⟩ := Array.mem_iff_getElem.mp hy'
  rw [Array.getElem_setIfInBounds] at e
  by_cases q : g = i
  · rw [if_pos q] at e; rw [← e]; exact hx
  · rw [if_neg q] at e; exact h y (by rw [← e]; exact Array.getElem_mem (by simpa using hi))
theorem gens_setGen {s : Shared} {g : Nat} {x : GenState} (h : g < s.gens.size) : (s.setGen g x).gens[g]? = some x := by
  show (s.gens.setIfInBounds g x)[g]? = _
  simp [h]
theorem gens_setGen_ne {s : Shared} {g i : Nat} {x : GenState} (h : i ≠ g) : (s.setGen g x).gens[i]? = s.gens[i]? := by
  show (s.gens.setIfInBounds g x)[i]? = _
  rw [Array.getElem?_setIfInBounds, if_neg (fun e => h e.symm)]
theorem size_setGen {s : Shared} {g : Nat} {x : GenState} : (s.setGen g x).gens.size = s.gens.size := by
  show (s.gens.setIfInBounds g x).size = _
  simp
structure GenSt (W : Wd) (A : Around) (g : Nat) (own : Own) (h₀ : Heap) (gs₀ : Array GenState) (s : Shared) : Prop where
  run : s.gens[g]? = some .running
  gsame : ∀ i ∈ own.g, i ≠ g → ∃ x, gs₀[i]? = some x ∧ s.gens[i]? = some x
  top : ∀ b o, W.h1.get? b = some o → s.heap.get? b = some o
  same : ∀ a ∈ own.as, ∃ ob, h₀.get? a = some ob ∧ s.heap.get? a = some ob
  frz : Frz h₀ s.heap
  frs : ∀ b, frAddr A b → W.h1.get? b = none ∧ b ∉ own.as ∧ ∃ o es ep, s.heap.get? b = some o ∧ o.data = .dict es ep
  hd : HD A s.heap
  new : ∀ a ∈ own.as, W.h1.get? a = none
  nodup : own.as.Nodup
  bare : AllBare s.gens
  os : s.os = W.os
structure GenKeep (A : Around) (g : Nat) (own own' : Own) (s₀ s₁ : Shared) : Prop where
  a : own'.a = own.a
  g : g ∈ own'.g
  gnew : ∀ i ∈ own'.g, (i ∈ own.g ∨ s₀.gens.size ≤ i) ∧ i < s₁.gens.size
  keep : ∀ b o, b ∉ own.as → s₀.heap.get? b = some o → KeptObj (frAddr A) b o (s₁.heap.get? b)
  gens : ∀ (i : Nat) x, i ∉ own.g → s₀.gens[i]? = some x → s₁.gens[i]? = some x
  bare : AllBare s₁.gens
  os : s₁.os = s₀.os
  new : ∀ a ∈ own'.as, a ∈ own.as ∨ s₀.heap.get? a = none
  nodup : own'.as.Nodup
  live : ∀ a ∈ own'.as, ∃ o, s₁.heap.get? a = some o
  frz : Frz s₀.heap s₁.heap
  self : ∀ o, s₀.heap.get? own.a = some o → s₁.heap.get? own.a = some o
noncomputable def gY (W : Wd) (A : Around) (g : Nat) (vals : List AV) : GYld Own := fun m own s₀ v s₁ kap => ∃ own', GenKeep A g own own' s₀ s₁ ∧ (∀ a, vals[vals.length - (m + 1)]? = some a → DenA [] s₁.heap a v) ∧ ∀ s'', GenSt W A g own' s₁.heap s₁.gens s'' → kap own' s''
noncomputable def gX (own own' : Own) (s₀ s₁ : Shared) (c : Value) (cl : Bool) (x : Result) : Prop := ∃ e oe vs, x = .error (.ref e) ∧ (s₀.heap.get? e = none ∨ e ∈ own.as) ∧ e ∉ own'.as ∧ s₁.heap.get? e = some oe ∧ oe.cls = c ∧ oe.data = .fields vs ∧ 6 ≤ vs.size ∧ (cl = true → vs[2]? = some .none) ∧
    (vs[1]? = some .none ∨ ∃ T oT ts fl, vs[1]? = some (.ref T) ∧ (s₀.heap.get? T = none ∨ T ∈ own.as) ∧ T ∉ own'.as ∧ T ≠ e ∧ s₁.heap.get? T = some oT ∧ oT.cls = .type "traceback" ∧ oT.data = .fields ts ∧ 5 ≤ ts.size ∧ ts[3]? = some fl ∧ (fl = .none ∨ ∃ z : Nat, fl = rawInt z))
noncomputable def gR (A : Around) (g : Nat) (endX : Option (Value × Bool)) : GEnd Own := fun n own s₀ x s₁ => n = 0 ∧ ∃ own', GenKeep A g own own' s₀ s₁ ∧ match endX with | none => x = .ok (.ret .none) | some (c, cl) => gX own own' s₀ s₁ c cl x
noncomputable def GenI (W : Wd) (A : Around) (vals : List AV) (endX : Option (Value × Bool)) (n : Nat) (own : Own) (h₀ : Heap) (gs₀ : Array GenState) : Prop :=
  ∃ g gst, g ∈ own.g ∧ gs₀[g]? = some gst ∧ h₀.IsGen own.a g ∧ ∀ s, GenSt W A g own h₀ gs₀ s → GoesG (model W.prog W.w) A.in1 (gR A g endX) (gY W A g vals) n own gst s
theorem Rep.genSt (R : Rep W C B ρ σ s) (hc : C.hclean = true) {k g : Nat} {own : Own} (hk : ρ[k]? = some own) (hgl : g < s.gens.size) {h₀ : Heap} {gs₀ : Array GenState} (hgs : ∀ i ∈ own.g, i ≠ g → ∃ x, gs₀[i]? = some x ∧ s.gens[i]? = some x) (hs : ∀ a ∈ own.as, ∃ ob, h₀.get? a = some ob ∧ s.heap.get? a = some ob) (hz : Frz h₀ s.heap) : GenSt W C.A g own h₀ gs₀ (s.setGen g .running) :=
  { run := gens_setGen hgl, gsame := fun i hi hn => let ⟨x, q1, q2⟩ := hgs i hi hn; ⟨x, q1, by rw [gens_setGen_ne hn]; exact q2⟩
    top := R.top, same := hs, frz := hz, frs := fun b f => ⟨(R.frs b f).1, fun q => (R.frs b f).2.1 (mem_rhoAs hk q), (R.frs b f).2.2⟩, hd := R.hd hc, new := fun a q => (R.fresh a (.tail _ (mem_rhoAs hk q))).2
    nodup := by
      refine el_2_3 (split_at hk own) fun l₁ l₂ e1 e2 e3 => ?_
      have hn := R.nodupR
      rw [e1, rhoAs_append, rhoAs_cons, List.nodup_append] at hn
      exact (List.nodup_append.mp hn.2.1).1
    bare := allBare_setGen R.bare rfl, os := R.os }
theorem Rep.genTurn (R : Rep W C B ρ σ s) {k g : Nat} {own own' : Own} {o' : AObj} {x : GenState} {s₁ : Shared} (hk : ρ[k]? = some own) (hg : g ∈ own.g) (hx : x.bare = true) (G : GenKeep C.A g own own' (s.setGen g .running) s₁)
    (ho : RepObj W (ρ.set k own') s₁.heap (s₁.setGen g x).gens own' o') :
    Rep W C B (ρ.set k own') { σ with objs := σ.objs.set k o' } (s₁.setGen g x) ∧ Ext ρ s (ρ.set k own') (s₁.setGen g x) := by
  refine R.genStep (s' := s₁.setGen g x) hk G.a (fun i hi => ?_) G.keep (fun i y hi e => ?_) (allBare_setGen G.bare hx) G.os G.new G.nodup G.live G.frz ho
  · rw [size_setGen]; have := G.gnew i hi; rwa [size_setGen] at this
  · have hn : i ≠ g := fun q => hi (q ▸ hg)
    rw [gens_setGen_ne hn]
    exact G.gens i y hi (by rw [gens_setGen_ne hn]; exact e)
theorem GenKeep.lt {A : Around} {own own' : Own} {g g' : Nat} {x : GenState} {s₁ : Shared} (G : GenKeep A g' own own' (s.setGen g x) s₁) (h : g < s.gens.size) : g' < s₁.gens.size := by
  exact (G.gnew g' G.g).2
theorem GenKeep.glive {A : Around} {own own' : Own} {g g' : Nat} {y x : GenState} {s₁ : Shared} (G : GenKeep A g own own' (s.setGen g' y) s₁) (h : ∀ j ∈ own.g, j < s.gens.size) (i : Nat) (m : i ∈ own'.g) : ∃ z, (s₁.setGen g x).gens[i]? = some z ∧ (s₁.setGen g x).gens[i]? = some z := by
  have hlt : i < (s₁.setGen g x).gens.size := by
    rw [size_setGen]
    exact (G.gnew i m).2
  exact ⟨_, Array.getElem?_eq_getElem hlt, Array.getElem?_eq_getElem hlt⟩
theorem IsGen.self {A : Around} {own own' : Own} {g g' : Nat} {x : GenState} {s₁ : Shared} (h : s.heap.IsGen own.a g) (G : GenKeep A g own own' (s.setGen g' x) s₁) : s₁.heap.IsGen own.a g := by
  refine el_3_2 h fun o nm qn ho q' => ?_
  exact ⟨o, nm, qn, G.self o ho, q'⟩
theorem rhoAs_set {k : Nat} {own own' : Own} (hk : ρ[k]? = some own) {a : Addr} (h : a ∈ rhoAs (ρ.set k own')) : a ∈ own'.as ∨ a ∈ rhoAs ρ := by
  refine el_2_3 (split_at hk own') fun l₁ l₂ e1 e2 e3 => ?_
  rw [e2, rhoAs_append, rhoAs_cons] at h
  rcases List.mem_append.mp h with h | h
  · exact .inr (by rw [e1, rhoAs_append]; exact List.mem_append_left _ h)
  · rcases List.mem_append.mp h with h | h
    · exact .inl h
    · exact .inr (by rw [e1, rhoAs_append, rhoAs_cons]; exact List.mem_append_right _ (List.mem_append_right _ h))
theorem Rep.newTurn (R : Rep W C B ρ σ s) {k : Nat} {own own' : Own} (hk : ρ[k]? = some own) {e : Addr} (hn : s.heap.get? e = none ∨ e ∈ own.as) (ho : e ∉ own'.as) : NewA W C B (ρ.set k own') e := by
  rcases hn with hn | hn
  · have n1 := R.newNot hn
    refine ⟨fun q => ?_, n1.2⟩
    rcases List.mem_cons.mp q with q | q
    · exact n1.1 (q ▸ .head _)
    · rcases rhoAs_set hk q with q | q
      · exact ho q
      · exact n1.1 (.tail _ q)
  · have hm := mem_rhoAs hk hn
    have hf := R.fresh e (.tail _ hm)
    refine ⟨fun q => ?_, hf.1, hf.2, fun f => (R.frs e f).2.1 hm⟩
    rcases List.mem_cons.mp q with q | q
    · exact R.envNot (q ▸ hm)
    · refine el_2_3 (split_at hk own') fun l₁ l₂ e1 e2 e3 => ?_
      have hnd := R.nodupR
      rw [e1, rhoAs_append, rhoAs_cons, List.nodup_append] at hnd
      have hnd2 := List.nodup_append.mp hnd.2.1
      rw [e2, rhoAs_append, rhoAs_cons] at q
      rcases List.mem_append.mp q with q | q
      · exact hnd.2.2 e q e (List.mem_append_left _ hn) rfl
      · rcases List.mem_append.mp q with q | q
        · exact ho q
        · exact hnd2.2.2 e hn e q rfl
theorem Itr_gen {Φ : Nat → Own → Heap → Array GenState → Prop} {vals : List AV} {endX : Option (Value × Bool)} {k : Nat} {own₀ : Own} (hΦ : ∀ i, Φ i = GenI W C.A vals endX (vals.length - i)) (hlim : W.h1.NoLimit) (hroom : C.A.depth < recursionLimit) (hc : C.hclean = true) (hkl : k < C.low) (hk : ρ[k]? = some own₀) (hX : ∀ c cl, endX = some (c, cl) → ∀ h, (∀ b o, W.h1.get? b = some o → h.get? b = some o) → Looks (model W.prog W.w) h (isSubtype c (.type "StopIteration")) false) :
    Itr W C ρ (fun i σ => σ.objs[k]? = some (.sem (Φ i))) (fun i σ => { σ with objs := σ.objs.set k (if i < vals.length then .sem (Φ (i + 1)) else .junk) }) vals endX own₀.a (fun _ _ _ _ => True) := by
  have own : ∀ {ρ' : Rho}, RhoLe (ρ.take C.low) ρ' → ∃ own, ρ'[k]? = some own ∧ own.a = own₀.a := fun {ρ'} le => by
    refine el_1_2 (le k own₀ (by rw [List.getElem?_take_of_lt hkl]; exact hk)) fun o h1 h2 => ?_
    exact ⟨o, h1, h2⟩
  refine { stay := fun _ _ _ _ _ _ _ _ _ _ _ _ => trivial, sub := fun _ _ _ _ _ _ _ => trivial, item := fun i a B ρ₁ σ s Q E hv R le hok _ hQ => ?_, done := fun B ρ₁ σ s Q E R le hok _ h1 h2 => ?_, self := fun i B ρ₁ σ s Q E R le hok _ q => ?_ }
  · refine el_1_2 (own le) fun ow e1 e2 => ?_
    refine el_2_4 (R.objs k ow _ e1 hok) fun h₀ gs₀ hp hgs0 hs hz => ?_
    rw [hΦ] at hp
    refine el_2_4 hp fun g gst hg hgs1 hG hgo => ?_
    have hgs : s.gens[g]? = some gst := by
      refine el_1_2 (hgs0 g hg) fun x q1 q2 => ?_
      rw [hgs1] at q1; cases q1; exact q2
    have hil : i < vals.length := (List.getElem?_eq_some_iff.mp hv).1
    have hgl : g < s.gens.size := (R.gnew ow (List.mem_of_getElem? e1) g hg).2
    have hG2 : s.heap.IsGen ow.a g := by
      refine el_3_2 hG fun o nm qn ho q' => ?_
      refine el_1_2 (hs ow.a (.head _)) fun ob q1 q2 => ?_
      exact ⟨o, nm, qn, by rw [q2, ← q1]; exact ho, q'⟩
    rw [← e2]
    refine next_gen (hlim.keeps R.top) hroom hG2 hgs (hgo (s.setGen g .running) (R.genSt hc e1 hgl (fun i m _ => hgs0 i m) hs hz)) (fun v s₁ gs' hb hy => ?_) (fun x s₁ hr => ?_)
    · refine el_1_3 hy fun own' K hd hkap => ?_
      have hgl1 := K.lt hgl
      have hm : vals.length - i = (vals.length - (i + 1)) + 1 := by omega
      have hph : GenI W C.A vals endX (vals.length - (i + 1)) own' s₁.heap (s₁.setGen g gs').gens := by
        refine ⟨g, gs', K.g, gens_setGen hgl1, ?_, fun s'' h1 => ?_⟩
        · rw [K.a]; exact IsGen.self hG2 K
        · have := hkap s'' { h1 with gsame := fun i m n => let ⟨x, q1, q2⟩ := h1.gsame i m n; ⟨x, by rw [gens_setGen_ne n] at q1; exact q1, q2⟩ }
          rw [hm] at this
          exact this
      refine el_0_2 (R.genTurn (o' := .sem (Φ (i + 1))) e1 hg hb K ⟨s₁.heap, (s₁.setGen g gs').gens, by rw [hΦ]; exact hph, fun i m => K.glive (fun j q => (R.gnew ow (List.mem_of_getElem? e1) j q).2) i m, fun a q => let ⟨o, h⟩ := K.live a q; ⟨o, h, h⟩, .refl _⟩) fun R2 E2 => ?_
      refine hQ _ _ v (by rw [if_pos hil]; exact R2) E2 trivial ?_ ?_
      · have := hd a (by rw [show vals.length - (vals.length - i - 1 + 1) = i by omega]; exact hv)
        exact this.mono (.refl _) fun j o e => by simp at e
      · intro target Q E q
        refine el_3_4 (IsGen.self hG2 K) fun o nm qn ho hcl hdt _ => ?_
        rw [← e2]
        exact letGo_J (s := s₁.setGen g gs') ho hcl (by decide) hdt q
    · exact absurd hr.1 (by omega)
  · refine el_1_2 (own le) fun ow e1 e2 => ?_
    refine el_2_4 (R.objs k ow _ e1 hok) fun h₀ gs₀ hp hgs0 hs hz => ?_
    rw [hΦ] at hp
    refine el_2_4 hp fun g gst hg hgs1 hG hgo => ?_
    have hgs : s.gens[g]? = some gst := by
      refine el_1_2 (hgs0 g hg) fun x q1 q2 => ?_
      rw [hgs1] at q1; cases q1; exact q2
    have hgl : g < s.gens.size := (R.gnew ow (List.mem_of_getElem? e1) g hg).2
    have hG2 : s.heap.IsGen ow.a g := by
      refine el_3_2 hG fun o nm qn ho q' => ?_
      refine el_1_2 (hs ow.a (.head _)) fun ob q1 q2 => ?_
      exact ⟨o, nm, qn, by rw [q2, ← q1]; exact ho, q'⟩
    rw [← e2]
    rw [if_neg (Nat.lt_irrefl _)] at h1 h2
    refine next_gen (hlim.keeps R.top) hroom hG2 hgs (hgo (s.setGen g .running) (R.genSt hc e1 hgl (fun i m _ => hgs0 i m) hs hz)) (fun v s₁ gs' hb hy => ?_) (fun x s₁ hr => ?_)
    · refine el_1_3 hy fun own' K _ hkap => ?_
      refine el_0_2 (R.genTurn (o' := .junk) (x := .running) e1 hg rfl K trivial) fun R2 _ => ?_
      have := hkap ((s₁.setGen g .running).setGen g .running) (R2.genSt hc (List.getElem?_set_self (List.getElem?_eq_some_iff.mp e1).1) (by rw [size_setGen]; exact K.lt hgl) (fun i m n => by refine el_1_2 (K.glive (x := .running) (fun j q => (R.gnew ow (List.mem_of_getElem? e1) j q).2) i m) fun x q1 q2 => ?_; exact ⟨x, by rw [gens_setGen_ne n] at q1; exact q1, q1⟩) (fun a q => let ⟨o, h⟩ := K.live a q; ⟨o, h, h⟩) (.refl _))
      rw [Nat.sub_self] at this
      exact this.elim
    · obtain ⟨_, own', K, hx⟩ := hr
      refine el_0_2 (R.genTurn (o' := .junk) (x := .finished) e1 hg rfl K trivial) fun R2 E2 => ?_
      cases hE : endX with
      | none =>
        rw [hE] at hx
        refine .inl ⟨hx, ?_, fun h' hk' => ?_⟩
        · exact R2.hd hc
        · have R3 := R2.grow (s' := { s₁.setGen g .finished with heap := h' }) hk'
          exact h1 hE _ _ R3 ⟨E2.1, E2.2.trans (Frz.ofExt hk')⟩
      | some p =>
        obtain ⟨c, cl⟩ := p
        rw [hE] at hx
        refine el_3_9 hx fun e oe vs hE212 f1 f2 f3 f4 f5 f6 f7 f8 => ?_; subst hE212
        refine .inr ⟨e, oe, rfl, ?_, f3, ?_, h2 c cl hE _ _ e R2 E2 ⟨?_, oe, vs, f3, f4, f5, f6, f7, ?_⟩⟩
        · exact IsGen.self hG2 K
        · rw [f4]; exact hX c cl hE _ R2.top
        · exact R.newTurn e1 f1 f2
        · rcases f8 with f8 | ⟨T, oT, ts, fl, g1, g2, g3, g4⟩
          · exact .inl f8
          · exact .inr ⟨T, oT, ts, fl, g1, R.newTurn e1 g2 g3, g4⟩
  · refine el_1_2 (own le) fun ow e1 e2 => ?_
    refine el_2_4 (R.objs k ow _ e1 hok) fun h₀ gs₀ hp hgs0 hs hz => ?_
    rw [hΦ] at hp
    refine el_2_4 hp fun g gst hg hgs1 hG hgo => ?_
    refine el_3_2 hG fun o nm qn ho q' => ?_
    refine el_1_2 (hs ow.a (.head _)) fun ob q1 q2 => ?_
    rw [← e2]
    exact wpAny_pyIter_gen ⟨o, nm, qn, by rw [q2, ← q1]; exact ho, q'⟩ (e2 ▸ q)
end
end
section
section
variable {W : Wd} {C : Ctx} {B : Base} {ρ : Rho} {σ : St} {s s₁ s' : Shared} {A : Around} {g : Nat} {own : Own}
noncomputable def gBase (g : Nat) (own : Own) (s : Shared) : Base := ⟨hideAll s.heap own.xs, fun i => if i ∈ own.g ∧ i ≠ g then none else s.gens[i]?⟩
structure GenC (A : Around) (C : Ctx) : Prop where
  frs : ∀ b, frAddr C.A b ↔ frAddr A b ∨ b = C.env.locals
  free : C.A.handled = none
theorem GenSt.rep (G : GenSt W A g own s₁.heap s₁.gens s) (R : Rep W C B ρ σ s₁) (hxs : own.xs = ownA C ρ) (hga : ∀ o ∈ ρ, ∀ i ∈ o.g, i ∈ own.g ∧ i ≠ g) (hC : GenC A C) : Rep W C (gBase g own s) ρ σ s := by
  have mem : ∀ a, a ∈ ownA C ρ → a ∈ own.as := fun a h => .tail _ (hxs ▸ h)
  have same : ∀ a, a ∈ ownA C ρ → ∀ ob, s₁.heap.get? a = some ob → s.heap.get? a = some ob := fun a h ob e => by
    refine el_1_2 (G.same a (mem a h)) fun o q1 q2 => ?_
    rw [e] at q1; cases q1; exact q2
  exact
    { top := G.top
      keep := fun b o e => .inl (of_hideAll own.xs e)
      nodup := R.nodup
      fresh := fun a h => ⟨hideAll_none own.xs (hxs ▸ h), G.new a (mem a h)⟩
      frame := R.frame.mono G.frz (.refl _) (ns_data fun o e => ⟨o, same _ (.head _) o e, rfl⟩)
      live := fun a h => let ⟨o, q⟩ := R.live a h; ⟨o, same a h o q⟩
      len := R.len
      objs := fun k ow o h1 h2 => (R.objs k ow o h1 h2).mono G.frz (.refl _) (fun a h ob e => same a (.tail _ (mem_rhoAs h1 h)) ob e) fun i hi x e => by
        refine el_0_2 (hga ow (List.mem_of_getElem? h1) i hi) fun q1 q2 => ?_
        refine el_1_2 (G.gsame i q1 q2) fun y r1 r2 => ?_
        rw [e] at r1; cases r1; exact r2
      gkeep := fun i x e => by
        have e' : (if i ∈ own.g ∧ i ≠ g then none else s.gens[i]?) = some x := e
        by_cases q : i ∈ own.g ∧ i ≠ g
        · rw [if_pos q] at e'; cases e'
        · rwa [if_neg q] at e'
      gnew := fun o h i hi => by
        have q := hga o h i hi
        refine ⟨if_pos q, ?_⟩
        refine el_1_2 (G.gsame i q.1 q.2) fun y r1 r2 => ?_
        exact (Array.getElem?_eq_some_iff.mp r2).1
      gnod := R.gnod
      frs := fun b f => by
        obtain ⟨x1, x2, o, es, ep, h1, h2⟩ := R.frs b f
        rcases (hC.frs b).mp f with q | rfl
        · refine el_0_3 (G.frs b q) fun y1 y2 y3 => ?_
          exact ⟨y1, fun m => y2 (mem b (.tail _ m)), y3⟩
        · exact ⟨x1, x2, o, es, ep, same _ (.head _) o h1, h2⟩
      hand := fun v e => by rw [hC.free] at e; cases e
      bare := G.bare, os := G.os }
theorem Rep.genKeep (R : Rep W C (gBase g own s) ρ σ s₁) (hC : GenC A C) (hz : Frz s.heap s₁.heap) (hrun : s.gens[g]? = some .running) (hg : g ∈ own.g) (hL : C.env.locals ∈ own.xs) (hself : ∃ o, s.heap.get? own.a = some o) (hna : own.a ∉ own.xs) (hnf : ¬ frAddr A own.a) (hos : s.os = W.os) :
    GenKeep A g own ⟨own.a, ownA C ρ, g :: ρ.flatMap (·.g)⟩ s s₁ := by
  have keepA : ∀ b o, b ∉ own.xs → s.heap.get? b = some o → KeptObj (frAddr A) b o (s₁.heap.get? b) := fun b o hb e => (R.keep b o (hideAll_get own.xs e hb)).weak fun f => by
    rcases (hC.frs b).mp f with q | rfl
    · exact q
    · exact absurd hL hb
  have selfA : ∀ o, s.heap.get? own.a = some o → s₁.heap.get? own.a = some o := fun o e => (keepA own.a o hna e).strict hnf
  have hnew : ∀ a ∈ ownA C ρ, a ∈ own.xs ∨ s.heap.get? a = none := fun a h => by
    by_cases q : a ∈ own.xs
    · exact .inl q
    · cases e : s.heap.get? a with
      | none => exact .inr rfl
      | some o => have := (R.fresh a h).1; rw [show (gBase g own s).h.get? a = some o from hideAll_get own.xs e q] at this; cases this
  have hnot : own.a ∉ ownA C ρ := fun h => by
    refine el_1_1 hself fun o e => ?_
    rcases hnew _ h with q | q
    · exact hna q
    · rw [e] at q; cases q
  exact
    { a := rfl, g := .head _
      gnew := fun i h => by
        rcases List.mem_cons.mp h with rfl | h
        · exact ⟨.inl hg, (Array.getElem?_eq_some_iff.mp (R.gkeep i .running (show (if i ∈ own.g ∧ i ≠ i then none else s.gens[i]?) = _ from by rw [if_neg (fun c => c.2 rfl)]; exact hrun))).1⟩
        · refine el_1_2 (List.mem_flatMap.mp h) fun o h1 h2 => ?_
          refine el_0_2 (R.gnew o h1 i h2) fun r1 r2 => ?_
          refine ⟨?_, r2⟩
          by_cases q : i ∈ own.g
          · exact .inl q
          · refine .inr ?_
            · have r1' : (if i ∈ own.g ∧ i ≠ g then none else s.gens[i]?) = none := r1
              rw [if_neg (fun c => q c.1)] at r1'
              exact Array.getElem?_eq_none_iff.mp r1'
      keep := fun b o hb e => keepA b o (fun q => hb (.tail _ q)) e
      gens := fun i x hi e => R.gkeep i x (show (if i ∈ own.g ∧ i ≠ g then none else s.gens[i]?) = some x from by rw [if_neg (fun c => hi c.1)]; exact e)
      bare := R.bare, os := R.os.trans hos.symm
      new := fun a h => by
        rcases List.mem_cons.mp h with rfl | h
        · exact .inl (.head _)
        · exact (hnew a h).imp (.tail _) id
      nodup := List.nodup_cons.mpr ⟨hnot, R.nodup⟩
      live := fun a h => by
        rcases List.mem_cons.mp h with rfl | h
        · refine el_1_1 hself fun o e => ?_; exact ⟨o, selfA o e⟩
        · exact R.live a h
      frz := hz
      self := selfA }
end
end
section
section
variable {W : Wd} {C : Ctx} {ρ : Rho} {σ : St} {s₀ s : Shared} {A : Around} {g : Nat} {own : Own} {endX : Option (Value × Bool)} {vals : List AV} {n : Nat} {c : Code} {fs : List Frame}
structure Wk (W : Wd) (A : Around) (g : Nat) (own : Own) (s₀ : Shared) (C : Ctx) : Prop where
  ctx : GenC A C
  run : s₀.gens[g]? = some .running
  num : g ∈ own.g
  loc : C.env.locals ∈ own.xs
  self : ∃ o, s₀.heap.get? own.a = some o
  apart : own.a ∉ own.xs
  nofr : ¬ frAddr A own.a
  os : s₀.os = W.os
noncomputable def GJ (W : Wd) (A : Around) (g : Nat) (endX : Option (Value × Bool)) (vals : List AV) (n : Nat) (c : Code) (fs : List Frame) (t : Sem PySem.Fin) (C : Ctx) (σ : St) : Prop := ∀ own s₀ ρ s, Wk W A g own s₀ C → Rep W C (gBase g own s₀) ρ σ s → Frz s₀.heap s.heap →
  SegG (model W.prog W.w) A.in1 (gR A g endX) (gY W A g vals) n own s₀ c t fs s
theorem GJ.give {t : Sem PySem.Fin} {a : AV} {v : Value} (k : GJ W A g endX vals n c fs t C σ) (hw : Wk W A g own s₀ C) (R : Rep W C (gBase g own s₀) ρ σ s) (hz : Frz s₀.heap s.heap) (ha : vals[vals.length - (n + 1)]? = some a) (hd : DenA [] s.heap a v) :
    gY W A g vals n own s₀ v s (fun w' s'' => SegG (model W.prog W.w) A.in1 (gR A g endX) (gY W A g vals) n w' s'' c t fs s'') := by
  have K := R.genKeep hw.ctx hz hw.run hw.num hw.loc hw.self hw.apart hw.nofr hw.os
  refine ⟨_, K, fun a' h => ?_, fun s'' G => k _ s'' ρ s'' ?_ (G.rep R rfl (fun o h i hi => ⟨.tail _ (List.mem_flatMap.mpr ⟨o, h, hi⟩), fun q => ?_⟩) hw.ctx) (.refl _)⟩
  · rw [ha] at h; cases h; exact hd
  · refine el_1_2 (G.same own.a (.head _)) fun ob _ q2 => ?_
    exact { ctx := hw.ctx, run := G.run, num := .head _, loc := .head _, self := ⟨ob, q2⟩, apart := (List.nodup_cons.mp K.nodup).1, nofr := hw.nofr, os := G.os }
  · subst q
    have h1 := (R.gnew o h i hi).1
    rw [show (gBase i own s₀).g i = some .running from (if_neg (fun c => c.2 rfl)).trans hw.run] at h1
    cases h1
theorem GJ.fall (hw : Wk W A g own s₀ C) (R : Rep W C (gBase g own s₀) ρ σ s) (hz : Frz s₀.heap s.heap) : gR A g none 0 own s₀ (.ok (.ret .none)) s :=
  ⟨rfl, _, R.genKeep hw.ctx hz hw.run hw.num hw.loc hw.self hw.apart hw.nofr hw.os, rfl⟩
end
end
section
section
variable {W : Wd} {C C' : Ctx} {B : Base} {ρ : Rho} {σ : St} {s₀ s : Shared} {A : Around} {g : Nat} {own : Own} {endX : Option (Value × Bool)} {vals : List AV} {n : Nat} {c : Code} {fs : List Frame}
theorem GenC.rep (h : GenC A C) (h' : GenC A C') (he : C'.env = C.env) (R : Rep W C B ρ σ s) : Rep W C' B ρ σ s := by
  have fr : ∀ b, frAddr C.A b ↔ frAddr C'.A b := fun b => by rw [h.frs, h'.frs, he]
  have ho : ownA C' ρ = ownA C ρ := by unfold ownA; rw [he]
  exact
    { top := R.top, keep := fun b o e => (R.keep b o e).weak (fr b).mp, nodup := ho ▸ R.nodup, fresh := ho ▸ R.fresh, frame := he ▸ R.frame, live := ho ▸ R.live, len := R.len, objs := R.objs, gkeep := R.gkeep, gnew := R.gnew, gnod := R.gnod
      frs := fun b f => R.frs b ((fr b).mpr f), hand := fun v e => by rw [h'.free] at e; cases e
      bare := R.bare, os := R.os }
theorem GJ.like {t : Sem PySem.Fin} (h : GenC A C) (h' : GenC A C') (he : C'.env = C.env) (k : GJ W A g endX vals n c fs t C' σ) : GJ W A g endX vals n c fs t C σ := fun own s₀ ρ s hw R hz =>
  k own s₀ ρ s { hw with ctx := h', loc := he ▸ hw.loc } (h.rep h' he R) hz
end
end
section
section
variable {W : Wd} {ρ : Rho} {A : Around} {endX : Option (Value × Bool)} {vals : List AV} {n : Nat}
noncomputable def genCtx (A : Around) (env : Env) (c : Code) (fs : List Frame) : Ctx := ⟨A.in1.over c fs, env, 0, .none, true⟩
theorem RepObj.gen0 {h : Heap} {gs : Array GenState} {own : Own} {f : Addr} {fd : FuncData} {body : List Stmt} {vars : List VS} (x : RepObj W ρ h gs own (.gen f fd body vars)) (hv : ∀ sl ∈ vars, VS.lt 0 sl = true)
    (hC : ∀ L, GenC A (genCtx A (callEnvC fd L f) (.func body (callEnvC fd L f)) [])) (hnf : ¬ frAddr A own.a)
    (hJ : ∀ L g, GJ W A g endX vals n (.func body (callEnvC fd L f)) [] ((model W.prog W.w).den (.func body (callEnvC fd L f))) (genCtx A (callEnvC fd L f) (.func body (callEnvC fd L f)) []) ⟨vars, []⟩) :
    GenI W A vals endX n own h gs := by
  refine el_2_6 x fun L g hx hg hG hs hlen hf => ?_
  refine ⟨g, _, by rw [hg]; exact .head _, hs, hG, fun s G => ?_⟩
  have hLas : L ∈ own.as := by unfold Own.as; rw [hx]; exact .tail _ (.head _)
  refine el_1_2 (G.same L hLas) fun oL q1 q2 => ?_
  refine el_1_2 (G.same own.a (.head _)) fun oa p1 p2 => ?_
  have hnd : own.a ≠ L := fun e => by
    have := G.nodup
    unfold Own.as at this; rw [hx, e] at this
    exact (List.nodup_cons.mp this).1 (.head _)
  have hf0 : FrameOK [] s.heap (callEnvC fd L f) vars := by
    refine el_1_2 (hf.mono G.frz (RhoLe.refl ρ) (ns_data fun o e => ⟨o, by rw [show (callEnvC fd L f).locals = L from rfl, q1] at e; cases e; exact q2, rfl⟩)) fun m hm hsl => ?_
    refine ⟨m, hm, fun i x kd hi sl h => ?_⟩
    have h0 := hv sl (List.mem_of_getElem? h)
    have h1 := hsl i x kd hi sl h
    cases sl with
    | non => trivial
    | v a => obtain ⟨e, v, hv', hd⟩ := h1; exact ⟨e, v, hv', hd.take (n := 0) h0⟩
    | cell k => exact absurd h0 (by simp [VS.lt])
  refine hJ L g own s [] s { ctx := hC L, run := G.run, num := by rw [hg]; exact .head _, loc := by rw [hx]; exact .head _, self := ⟨oa, p2⟩, apart := by rw [hx]; exact fun q => hnd (List.mem_singleton.mp q), nofr := hnf, os := G.os } ?_ (.refl _)
  exact
    { top := G.top, keep := fun b o e => .inl (of_hideAll own.xs e), nodup := List.nodup_cons.mpr ⟨List.not_mem_nil, List.nodup_nil⟩
      fresh := fun a h => by
        cases List.mem_singleton.mp h
        exact ⟨hideAll_none own.xs (by rw [hx]; exact .head _), G.new L hLas⟩
      frame := hf0
      live := fun a h => by cases List.mem_singleton.mp h; exact ⟨oL, q2⟩
      len := rfl
      objs := fun k ow o h => by simp at h
      gkeep := fun i x e => by
        have e' : (if i ∈ own.g ∧ i ≠ g then none else s.gens[i]?) = some x := e
        by_cases q : i ∈ own.g ∧ i ≠ g
        · rw [if_pos q] at e'; cases e'
        · rwa [if_neg q] at e'
      gnew := fun o h => by simp at h
      gnod := fun i j o₁ o₂ g h => by simp at h
      frs := fun b f => by
        rcases ((hC L).frs b).mp f with q | rfl
        · refine el_0_3 (G.frs b q) fun y1 y2 y3 => ?_
          exact ⟨y1, by simp [rhoAs], y3⟩
        · refine el_1_2 hf0 fun m hO216 _ => ?_; refine el_3_3 hO216 fun o es ep e d _ => ?_
          exact ⟨G.new _ hLas, by simp [rhoAs], o, es, ep, e, d⟩
      hand := fun v e => by rw [(hC L).free] at e; cases e
      bare := G.bare, os := G.os }
end
end
section
section
variable {W : Wd} {C : Ctx} {σ : St} {endX : Option (Value × Bool)} {vals : List AV}
theorem Iters_gen {k : Nat} {f : Addr} {fd : FuncData} {body : List Stmt} {vars : List VS} (ho : σ.objs[k]? = some (.gen f fd body vars)) (hv : ∀ sl ∈ vars, VS.lt 0 sl = true) (hlim : W.h1.NoLimit) (hroom : C.A.depth < recursionLimit)
    (hX : ∀ c cl, endX = some (c, cl) → ∀ h, (∀ b o, W.h1.get? b = some o → h.get? b = some o) → Looks (model W.prog W.w) h (isSubtype c (.type "StopIteration")) false)
    (hC : ∀ L, GenC C.A (genCtx C.A (callEnvC fd L f) (.func body (callEnvC fd L f)) []))
    (hJ : ∀ L g, GJ W C.A g endX vals vals.length (.func body (callEnvC fd L f)) [] ((model W.prog W.w).den (.func body (callEnvC fd L f))) (genCtx C.A (callEnvC fd L f) (.func body (callEnvC fd L f)) []) ⟨vars, []⟩) :
    Iters W C (fun C' => C'.A = C.A ∧ C'.hclean = true ∧ k < C'.low) (fun i σ' => σ'.objs[k]? = some (.sem (GenI W C.A vals endX (vals.length - i)))) (fun i σ' => { σ' with objs := σ'.objs.set k (if i < vals.length then .sem (GenI W C.A vals endX (vals.length - (i + 1))) else .junk) })
      (.obj k) vals endX σ { σ with objs := σ.objs.set k (.sem (GenI W C.A vals endX vals.length)) } := fun B ρ s v Q E R d hQ => by
  cases d with
  | @obj _ own hk =>
    have x := R.objs k own _ hk ho
    have hklt := (List.getElem?_eq_some_iff.mp ho).1
    have hnf : ¬ frAddr C.A own.a := fun q => (R.frs _ q).2.1 (mem_rhoAs hk (.head _))
    have x0 := x.gen0 (n := vals.length) hv hC hnf hJ
    refine el_2_6 x fun L g hx hg hG hs hlen hf => ?_
    have lv : ∀ a ∈ own.as, ∃ o, s.heap.get? a = some o := fun a h => R.live a (.tail _ (mem_rhoAs hk h))
    have R1 : Rep W C B ρ { σ with objs := σ.objs.set k (.sem (GenI W C.A vals endX vals.length)) } s :=
      { R with
        len := by simp [R.len]
        objs := fun j ow o h1 h2 => by
          have h2' : (σ.objs.set k (.sem (GenI W C.A vals endX vals.length)))[j]? = some o := h2
          by_cases hj : k = j
          · subst hj
            rw [hk] at h1; cases h1
            rw [List.getElem?_set_self hklt] at h2'; cases h2'
            refine ⟨s.heap, s.gens, x0, fun i hi => ?_, fun a h => let ⟨o, q⟩ := lv a h; ⟨o, q, q⟩, .refl _⟩
            rw [hg] at hi; cases List.mem_singleton.mp hi
            exact ⟨_, hs, hs⟩
          · rw [List.getElem?_set_ne hj] at h2'
            exact R.objs j ow o h1 h2' }
    refine wpAny_pyIter_gen hG (hQ _ _ R1 (.refl _ _) true (mem_rhoAs hk (.head _)) (lv _ (.head _)) fun C' ρ₁ s₂ hQ0 hr hm hgs => ?_)
    refine el_0_3 hQ0 fun hA hc hkl => ?_
    refine ⟨fun _ _ _ _ => True, ?_, fun _ _ => trivial⟩
    have := Itr_gen (W := W) (C := C') (ρ := ρ₁) (Φ := fun i => GenI W C'.A vals endX (vals.length - i)) (vals := vals) (endX := endX) (k := k) (own₀ := own) (fun _ => rfl) hlim (hA ▸ hroom) hc hkl (hr k own hk) hX
    rw [hA] at this
    exact this
end
end
section
section
variable {W : Wd} {A : Around} {env : Env} {c : Code} {fs : List Frame}
theorem frames_over (l : List Env) (h : A.frames = some l) : (A.in1.over c fs).frames = some (c.envs ++ (envsOf (fs.map Frame.where_) ++ l)) := by
  show pushEnvs c.envs (pushEnvs (envsOf (fs.map Frame.where_)) A.frames) = _
  rw [pushEnvs_eq, pushEnvs_eq, h]
  rfl
theorem genC_mk {l : List Env} (h : A.frames = some l) (hh : (A.in1.over c fs).handled = none) (hne : c.envs ++ envsOf (fs.map Frame.where_) ≠ []) (hall : ∀ e ∈ c.envs ++ envsOf (fs.map Frame.where_), e.frame = some env.locals) : GenC A (genCtx A env c fs) where
  frs := fun b => by
    have hf := frames_over (A := A) (c := c) (fs := fs) l h
    constructor
    · rintro ⟨l', e, h1, h2, h3⟩
      rw [show (genCtx A env c fs).A.frames = _ from hf] at h1
      cases h1
      rw [← List.append_assoc] at h2
      rcases List.mem_append.mp h2 with q | q
      · rw [hall e q] at h3; cases h3; exact .inr rfl
      · exact .inl ⟨l, e, h, q, h3⟩
    · rintro (⟨l', e, h1, h2, h3⟩ | rfl)
      · rw [h] at h1; cases h1
        exact ⟨_, e, hf, List.mem_append_right _ (List.mem_append_right _ h2), h3⟩
      · cases q : c.envs ++ envsOf (fs.map Frame.where_) with
        | nil => exact absurd q hne
        | cons e r =>
          exact ⟨_, e, hf, by rw [← List.append_assoc, q]; exact .head _, hall e (by rw [q]; exact .head _)⟩
  free := hh
variable {C : Ctx} {σ : St} {g : Nat} {endX : Option (Value × Bool)} {vals : List AV} {n : Nat} {K : PySem.Flow → Sem PySem.Fin} {H : Value → Sem PySem.Fin} {gd : Bool → Bool} {lv : List Value → List Value}
theorem GJ.cons {st : Stmt} {rest : List Stmt} (k : GJ W A g endX vals n c fs ((exec st env).wrap (fun f => match f with | .next => (execs rest env).wrap K H gd lv | f => K f) H gd lv) C σ) : GJ W A g endX vals n c fs ((execs (st :: rest) env).wrap K H gd lv) C σ := by
  rw [execs_cons_wrap]; exact k
theorem GJ.func {body : List Stmt} (k : GJ W A g endX vals n (.func body env) fs ((execs body env).wrap (fun f => .pure (.done (.ret (match f with | .ret v => v | _ => .none)))) (fun e => (leaving env e).wrap (fun _ => .raise e) .raise id id) id id) C σ) :
    GJ W A g endX vals n (.func body env) fs ((model W.prog W.w).den (.func body env)) C σ := fun own s₀ ρ s hw R hz => by
  show SegG _ _ _ _ _ _ _ _ (.point [] fun _ => ((execs body env).onRaise (leaving env)) >>= _) fs s
  refine segG_point ?_
  rw [Sem.onRaise_eq_wrap, Sem.bind_eq_wrap', Sem.wrap_wrap]
  rw [Sem.wrap_congr (execs body env) _ _ (K' := fun f => .pure (.done (.ret (match f with | .ret v => v | _ => .none))))
    (H' := fun e => (leaving env e).wrap (fun _ => .raise e) .raise id id) (fun f => by cases f <;> rfl) (fun e => by rw [Sem.bind_eq_wrap, Sem.wrap_wrap]; rfl)]
  exact k own s₀ ρ s hw R hz
end
end
section
section
variable {W : Wd} {A : Around} {c : Code} {fs : List Frame} {C : Ctx} {σ : St} {g : Nat} {endX : Option (Value × Bool)} {vals : List AV} {n : Nat} {K : PySem.Flow → Sem PySem.Fin} {H : Value → Sem PySem.Fin} {gd : Bool → Bool} {lv : List Value → List Value}
end
end
section
section
variable {W : Wd} {A : Around} {c : Code} {fs : List Frame} {C : Ctx} {σ : St} {g : Nat} {endX : Option (Value × Bool)} {vals : List AV} {n : Nat} {K : PySem.Flow → Sem PySem.Fin} {H : Value → Sem PySem.Fin} {gd : Bool → Bool} {lv : List Value → List Value}
end
end
section
section
variable {W : Wd} {A : Around} {c : Code} {fs : List Frame} {C : Ctx} {σ : St} {g : Nat} {endX : Option (Value × Bool)} {vals : List AV} {n : Nat} {K : PySem.Flow → Sem PySem.Fin} {H : Value → Sem PySem.Fin} {gd : Bool → Bool} {lv : List Value → List Value}
noncomputable abbrev whH (env : Env) (e : Value) : Sem PySem.Fin := (do noteFrame e env; theTreesLotGoes e : Sem Unit).wrap (fun _ => .raise e) .raise id id
noncomputable abbrev whK (test : Expr) (body orelse : List Stmt) (env : Env) (f : PySem.Flow) : Sem PySem.Fin := match f with
  | .next | .cont => .pure (.again (.whileLoop test body orelse env))
  | .brk => .pure (.done .next)
  | .ret v => .pure (.done (.ret v))
end
end
section
section
variable {W : Wd} {A : Around} {c c₀ : Code} {fs : List Frame} {C C₀ : Ctx} {σ : St} {g : Nat} {endX : Option (Value × Bool)} {vals : List AV} {n : Nat} {K : PySem.Flow → Sem PySem.Fin} {H : Value → Sem PySem.Fin} {gd : Bool → Bool} {lv : List Value → List Value}
noncomputable def GK (W : Wd) (A : Around) (g : Nat) (endX : Option (Value × Bool)) (vals : List AV) (n : Nat) (c : Code) (fs : List Frame) (K : PySem.Flow → Sem PySem.Fin) (C : Ctx) : KF := fun f σ => match f with
  | .next => GJ W A g endX vals n c fs (K .next) C σ
  | .brk => GJ W A g endX vals n c fs (K .brk) C σ
  | .cont => GJ W A g endX vals n c fs (K .cont) C σ
  | .ret _ => False
noncomputable def GE (W : Wd) (A : Around) (g : Nat) (endX : Option (Value × Bool)) (vals : List AV) (n : Nat) (c : Code) (fs : List Frame) (H : Value → Sem PySem.Fin) (C : Ctx) : KX := fun cls cl σ =>
  ∀ own s₀ ρ s e, Wk W A g own s₀ C → Rep W C (gBase g own s₀) ρ σ s → Frz s₀.heap s.heap → Fly W C (gBase g own s₀) ρ s.heap e cls cl →
    SegG (model W.prog W.w) A.in1 (gR A g endX) (gY W A g vals) n own s₀ c (H (.ref e)) fs s
theorem GJ.stmt {st : Stmt} (hA : C.A = A.in1.over c fs) (k : JS W C st (GK W A g endX vals n c fs K C) (GE W A g endX vals n c fs H C) σ) :
    GJ W A g endX vals n c fs ((exec st C.env).wrap K H gd lv) C σ := fun own s₀ ρ s hw R hz => by
  refine segG_wrap (hA ▸ wpAny_mono (k _ ρ s R) (fun f s' hf => ?_) fun x s' hx => ?_)
  · refine hf.el fun ρ' af σ' e R' hd hp => ?_
    cases af <;> cases f <;> first | exact hd.elim | exact hp.elim | exact hp own s₀ ρ' s' hw R' (hz.trans e.2)
  · refine el_5_5 hx fun ρ' cls cl σ' e hE255 E' R' F' q => ?_; subst hE255
    exact q own s₀ ρ' s' e hw R' (hz.trans E'.2) F'
theorem GJ.yld {e : Expr} {ypos pos : Pos} {a : AV} (hA : C.A = A.in1.over c fs) (hfs : splitAtGen fs = none) (hgd : gd false = false) (hfg : fs.any Frame.guarded = false) (hco : C.env.scope.isCoroutine = false) (hi : interactive C.env = false) (ha : vals[vals.length - (n + 1)]? = some a) (hfl : a.lt 0 = true)
    (k : J W C e (fun b σ' => b = a ∧ GJ W A g endX vals n c fs (K .next) C σ') (GE W A g endX vals (n + 1) c fs H C) σ) :
    GJ W A g endX vals (n + 1) c fs ((exec (.Expr (.Yield (some e) ypos) pos) C.env).wrap K H gd lv) C σ := fun own s₀ ρ s hw R hz => by
  rw [exec_Expr C.env _ pos hi rfl]
  show SegG _ _ _ _ _ _ _ _ (.at pos fun _ => ((eval e C.env >>= fun v => (standAt ypos >>= fun _ => yieldOut C.env v)) >>= fun x => dropValue (.Yield (some e) ypos) pos x).wrap K H gd lv) fs s
  have hy : ∀ v, yieldOut C.env v = yieldValue v := fun v => by simp only [yieldOut, hco, Bool.false_eq_true, if_false]
  simp only [hy]
  refine segG_at ?_
  rw [Sem.bind_eq_wrap', Sem.bind_eq_wrap', Sem.wrap_wrap, Sem.wrap_wrap]
  refine segG_wrap (hA ▸ wpAny_mono (k _ ρ s R) (fun v s' hf => ?_) fun x s' hx => ?_)
  · refine hf.el fun ρ' b σ' ex R' hd kP => ?_; refine el_0_2 kP fun hE256 h => ?_; subst hE256
    refine segG_at (segG_yield hfs hgd hfg ?_)
    exact h.give hw R' (hz.trans ex.2) ha (hd.take (n := 0) hfl)
  · refine el_5_5 hx fun ρ' cls cl σ' e hE257 E' R' F' q => ?_; subst hE257
    exact q own s₀ ρ' s' e hw R' (hz.trans E'.2) F'
theorem GJ.again {c' : Code} (hq : c'.quiet = true) (k : GJ W A g endX vals n c' fs ((model W.prog W.w).den c') C σ) : GJ W A g endX vals n c fs (.pure (.again c')) C σ := fun own s₀ ρ s hw R hz =>
  segG_again hq (k own s₀ ρ s hw R hz)
theorem GJ.loop {test : Expr} {body orelse : List Stmt} (hA : C.A = A.in1.over (.whileLoop test body orelse C.env) fs)
    (k : JB W C test (fun b σ' => (b = true → GJ W A g endX vals n (.whileLoop test body orelse C.env) fs ((execs body C.env).wrap (whK test body orelse C.env) (whH C.env) id id) C σ') ∧
      (b = false → GJ W A g endX vals n (.whileLoop test body orelse C.env) fs ((execs orelse C.env).wrap (fun f => .pure (.done f)) (whH C.env) id id) C σ')) (GE W A g endX vals n (.whileLoop test body orelse C.env) fs (whH C.env) C) σ) :
    GJ W A g endX vals n (.whileLoop test body orelse C.env) fs ((model W.prog W.w).den (.whileLoop test body orelse C.env)) C σ := fun own s₀ ρ s hw R hz => by
  show SegG _ _ _ _ _ _ _ _ ((whileTurn test body orelse C.env).onRaise (fun x => do noteFrame x C.env; theTreesLotGoes x)) fs s
  unfold whileTurn
  rw [Sem.onRaise_eq_wrap, Sem.bind_eq_wrap', Sem.wrap_wrap]
  refine segG_wrap (hA ▸ wpAny_mono (k _ ρ s R) (fun b s' hb => ?_) fun x s' hx => ?_)
  · refine hb.el fun ρ' σ' ex R' kP => ?_; refine el_0_2 kP fun hp hq => ?_
    cases b with
    | true =>
      show SegG _ _ _ _ _ _ _ _ (Sem.wrap _ _ _ _ (if true = true then _ else _)) fs s'
      rw [if_pos rfl, Sem.bind_eq_wrap', Sem.wrap_wrap]
      rw [Sem.wrap_congr (execs body C.env) _ _ (K' := whK test body orelse C.env) (H' := whH C.env) (fun f => by cases f <;> rfl) (fun e => by first | exact Sem.bind_eq_wrap _ _ | (show (do noteFrame e C.env; theTreesLotGoes e : Sem Unit).bind (fun _ => .raise e) = _; rw [Sem.bind_eq_wrap]))]
      exact hp rfl own s₀ ρ' s' hw R' (hz.trans ex.2)
    | false =>
      show SegG _ _ _ _ _ _ _ _ (Sem.wrap _ _ _ _ (if false = true then _ else _)) fs s'
      rw [if_neg Bool.false_ne_true, Sem.bind_eq_wrap', Sem.wrap_wrap]
      rw [Sem.wrap_congr (execs orelse C.env) _ _ (K' := fun f => (.pure (.done f) : Sem PySem.Fin)) (H' := whH C.env) (fun f => by rfl) (fun e => by first | exact Sem.bind_eq_wrap _ _ | (show (do noteFrame e C.env; theTreesLotGoes e : Sem Unit).bind (fun _ => .raise e) = _; rw [Sem.bind_eq_wrap]))]
      exact hq rfl own s₀ ρ' s' hw R' (hz.trans ex.2)
  · refine el_5_5 hx fun ρ' cls cl σ' e hE258 E' R' F' q => ?_; subst hE258
    have h := q own s₀ ρ' s' e hw R' (hz.trans E'.2) F'
    first
      | (show SegG _ _ _ _ _ _ _ _ ((do noteFrame (.ref e) C.env; theTreesLotGoes (.ref e) : Sem Unit).bind fun _ => .raise (.ref e)) fs s'; rw [Sem.bind_eq_wrap]; exact h)
      | exact h
noncomputable abbrev loK (env : Env) (K : PySem.Flow → Sem PySem.Fin) (H : Value → Sem PySem.Fin) (gd : Bool → Bool) (lv : List Value → List Value) (r : Result) : Sem PySem.Fin := ((match r with | .ok f => (.pure f : Sem PySem.Flow) | .error e => .raise e).onRaise fun (x : Value) => do
        if (← field x 1) == Value.none then unsupported "frame.own-activation:exception-without-traceback"
        setFlight x env.frame).wrap K H gd lv
theorem GJ.While {test : Expr} {body orelse : List Stmt} {pos : Pos} {env : Env}
    (h : ∀ p, GJ W A g endX vals n (.whileLoop test body orelse env) (.ret (loK env K H gd lv) none (gd false) (lv []) c p [] :: fs) ((model W.prog W.w).den (.whileLoop test body orelse env)) C σ) :
    GJ W A g endX vals n c fs ((exec (.While test body orelse pos) env).wrap K H gd lv) C σ := fun own s₀ ρ s hw R hz => by
  show SegG _ _ _ _ _ _ _ _ (.at pos fun _ => _) fs s
  exact segG_at (segG_call fun p => h p own s₀ ρ s hw R hz)
theorem GJ.left {env : Env} {p : Pos} {f : PySem.Flow} (h : GJ W A g endX vals n c₀ fs (K f) C σ) : GJ W A g endX vals n c (.ret (loK env K H gd lv) none (gd false) (lv []) c₀ p [] :: fs) (.pure (.done f)) C σ := fun own s₀ ρ s hw R hz =>
  segG_leaf (.ok f) (h own s₀ ρ s hw R hz)
theorem GenC.newA (h : GenC A C) (h' : GenC A C₀) (he : C₀.env = C.env) {B : Base} {ρ : Rho} {a : Addr} (x : NewA W C B ρ a) : NewA W C₀ B ρ a := by
  refine el_0_4 x fun x1 x2 x3 x4 => ?_
  refine ⟨?_, x2, x3, fun f => x4 ?_⟩
  · unfold ownA at x1 ⊢; rw [he]; exact x1
  · rw [h.frs]; rw [h'.frs, he] at f; exact f
theorem GE.loop {cls : Value} {cl : Bool} {env : Env} {p : Pos} (hA : C.A = A.in1.over c (.ret (loK env K H gd lv) none (gd false) (lv []) c₀ p [] :: fs)) (hA0 : C₀.A = A.in1.over c₀ fs) (hC : GenC A C) (hC0 : GenC A C₀) (he : C₀.env = C.env) (hE : C.env = env) (hF : FrsC C) (hF0 : FrsC C₀)
    (h : GE W A g endX vals n c₀ fs H C₀ cls cl σ) : GE W A g endX vals n c (.ret (loK env K H gd lv) none (gd false) (lv []) c₀ p [] :: fs) (whH env) C cls cl σ := fun own s₀ ρ s e hw R hz F => by
  subst hE
  refine el_1_1 hF fun L hL => ?_
  refine el_1_1 hF0 fun L₀ hL₀ => ?_
  refine segG_wrap (hA ▸ wpAny_bind (note_J R hL F fun h1 R1 E1 F1 => wpAny_theTreesLotGoes ?_))
  refine segG_leaf (.error (.ref e)) ?_
  show SegG _ _ _ _ _ _ _ _ (Sem.wrap K H gd lv ((do
      if (← field (.ref e) 1) == Value.none then unsupported "frame.own-activation:exception-without-traceback"
      setFlight (.ref e) C.env.frame : Sem Unit).bind fun _ => .raise (.ref e))) fs _
  rw [Sem.bind_eq_wrap, Sem.wrap_wrap]
  have R2 : Rep W C₀ (gBase g own s₀) ρ σ { s with heap := h1 } := hC.rep hC0 he R1
  have F2 : FlyT W C₀ (gBase g own s₀) ρ h1 e cls (rawInt L) cl := by
    obtain ⟨a1, oe, vs, T, oT, ts, b1, b2, b3, b4, b5, b6, b7, r⟩ := F1
    exact ⟨hC.newA hC0 he a1, oe, vs, T, oT, ts, b1, b2, b3, b4, b5, b6, hC.newA hC0 he b7, r⟩
  have hw0 : Wk W A g own s₀ C₀ := { hw with ctx := hC0, loc := he ▸ hw.loc }
  refine segG_wrap ?_
  rw [← hA0]
  obtain ⟨_, oe, vs, T, oT, ts, g1, g2, g3, g4, g5, g6, _⟩ := id F2
  refine wpAny_bind (wpAny_field g1 g3 g6 ?_)
  rw [if_neg (show ¬ ((Value.ref T == Value.none) = true) from by simp)]
  refine flight_any (f := C.env.frame) R2 F2 fun h2 R3 E3 F3 => ?_
  have hfr : C.env.frame = some L := by refine el_2_4 hL fun _ _ _ _ h _ => ?_; exact h
  exact h own s₀ ρ _ e hw0 R3 ((hz.trans E1.2).trans E3.2) (F3.toFly (by rw [hfr]; exact .inr ⟨L, rfl⟩))
noncomputable abbrev fnK : PySem.Flow → Sem PySem.Fin := fun f => .pure (.done (.ret (match f with | .ret v => v | _ => .none)))
noncomputable abbrev fnH (env : Env) : Value → Sem PySem.Fin := fun e => (leaving env e).wrap (fun _ => .raise e) .raise id id
theorem GJ.end (hx : endX = none) : GJ W A g endX vals 0 c [] (fnK .next) C σ := fun own s₀ ρ s hw R hz => by
  subst hx
  exact segG_end (.ok (.ret .none)) (GJ.fall hw R hz)
theorem newA_x {own : Own} {s₀ : Shared} {ρ : Rho} {a : Addr} (hw : Wk W A g own s₀ C) (x : NewA W C (gBase g own s₀) ρ a) {l : List Nat} : (s₀.heap.get? a = none ∨ a ∈ own.as) ∧ a ∉ (Own.mk own.a (ownA C ρ) l).as := by
  refine el_0_4 x fun x1 x2 x3 x4 => ?_
  refine ⟨?_, fun q => ?_⟩
  · by_cases q : a ∈ own.xs
    · exact .inr (.tail _ q)
    · refine .inl ?_
      cases e : s₀.heap.get? a with
      | none => rfl
      | some o => rw [show (gBase g own s₀).h.get? a = some o from hideAll_get own.xs e q] at x2; cases x2
  · rcases List.mem_cons.mp q with rfl | q
    · refine el_1_1 hw.self fun o e => ?_
      rw [show (gBase g own s₀).h.get? own.a = some o from hideAll_get own.xs e hw.apart] at x2; cases x2
    · exact x1 q
theorem GE.end {cls : Value} {cl : Bool} {env : Env} (hA : C.A = A.in1.over c []) (hE : C.env = env) (hF : FrsC C) (hx : endX = some (cls, cl)) : GE W A g endX vals 0 c [] (fnH env) C cls cl σ := fun own s₀ ρ s e hw R hz F => by
  subst hx; subst hE
  refine el_1_1 hF fun L hL => ?_
  refine segG_wrap (hA ▸ leaving_J R hL F fun h1 R1 E1 F1 => ?_)
  refine segG_end (.error (.ref e)) ⟨rfl, _, R1.genKeep hw.ctx (hz.trans E1.2) hw.run hw.num hw.loc hw.self hw.apart hw.nofr hw.os, ?_⟩
  obtain ⟨hn, oe, vs, h1, h2, h3, h4, h5, h6⟩ := F1
  obtain ⟨q1, q2⟩ := newA_x hw hn
  refine ⟨e, oe, vs, rfl, q1, q2, h1, h2, h3, h4, h5, ?_⟩
  rcases h6 with h6 | ⟨T, oT, ts, fl, h6, h7, h8, h9⟩
  · exact .inl h6
  · obtain ⟨r1, r2⟩ := newA_x hw h7
    exact .inr ⟨T, oT, ts, fl, h6, r1, r2, h8, h9⟩
end
end
section
section
variable {W : Wd} {C : Ctx} {sc : Scope} {n : Nat}
structure GLiv (A : Around) (C : Ctx) (env : Env) (c : Code) (fs : List Frame) (sc : Scope) (n : Nat) : Prop where
  liv : Liv C sc n
  gen : GenC A C
  hA : C.A = A.in1.over c fs
  env : C.env = env
  free : C.A.handled = none
  clean : C.hclean = true
theorem frsC_gen {fd : FuncData} {L f : Addr} {c : Code} {fs : List Frame} (hF : FrsC C) (hk : fd.scope.kind = .function) (he : c.envs ++ envsOf (fs.map Frame.where_) = [callEnvC fd L f]) : FrsC (genCtx C.A (callEnvC fd L f) c fs) := by
  refine el_3_4 hF fun L₀ env' l h1 h2 h3 h4 => ?_
  refine ⟨L, callEnvC fd L f, env' :: l, ?_, rfl, rfl, fun x hx => ?_⟩
  · have := frames_over (c := c) (fs := fs) _ h1
    rw [← List.append_assoc, he] at this
    exact this
  · rcases List.mem_cons.mp hx with rfl | hx
    · exact ⟨by show fd.scope.kind ≠ _; rw [hk]; decide, _, rfl⟩
    · exact h4 x hx
theorem gliv_func {fd : FuncData} {L f : Addr} {body : List Stmt} (hF : FrsC C) (hh : C.A.handled = none) (hA : AOK C.A (n + 1)) (hk : fd.scope.kind = .function) (hco : fd.scope.isCoroutine = false) (hg : fd.globals = mainGlobals) (hb : fd.builtins = builtinsNs) (hs : fd.scope = sc) :
    GLiv C.A (genCtx C.A (callEnvC fd L f) (.func body (callEnvC fd L f)) []) (callEnvC fd L f) (.func body (callEnvC fd L f)) [] sc n := by
  have he : (Code.func body (callEnvC fd L f)).envs ++ envsOf (([] : List Frame).map Frame.where_) = [callEnvC fd L f] := rfl
  have hF' := frsC_gen (c := .func body (callEnvC fd L f)) (fs := []) hF hk he
  refine el_3_2 (id hF) fun L₀ env' l h1 _ => ?_
  refine ⟨⟨hs, hk, hg, hb, hco, hF', ?_⟩, genC_mk h1 hh (by rw [he]; simp) (fun e h => by rw [he] at h; rw [List.mem_singleton.mp h]; rfl), rfl, rfl, hh, rfl⟩
  refine el_0_2 hA fun a b => ?_
  refine ⟨?_, ?_⟩
  · show C.A.depth + 0 + 1 + n < 600; omega
  · show C.A.units + 1 + 0 + 3 + 8 * n < 9000; omega
theorem gliv_loop {fd : FuncData} {L f : Addr} {body : List Stmt} {test : Expr} {b o : List Stmt} {k : Result → Sem PySem.Fin} {g : Bool} {lv : List Value} {p : Pos} (hF : FrsC C) (hh : C.A.handled = none) (hA : AOK C.A (n + 1)) (hk : fd.scope.kind = .function) (hco : fd.scope.isCoroutine = false) (hg : fd.globals = mainGlobals) (hb : fd.builtins = builtinsNs) (hs : fd.scope = sc) :
    GLiv C.A (genCtx C.A (callEnvC fd L f) (.whileLoop test b o (callEnvC fd L f)) [.ret k none g lv (.func body (callEnvC fd L f)) p []]) (callEnvC fd L f) (.whileLoop test b o (callEnvC fd L f)) [.ret k none g lv (.func body (callEnvC fd L f)) p []] sc n := by
  have he : (Code.whileLoop test b o (callEnvC fd L f)).envs ++ envsOf ([Frame.ret k none g lv (.func body (callEnvC fd L f)) p []].map Frame.where_) = [callEnvC fd L f] := rfl
  have hF' := frsC_gen (c := .whileLoop test b o (callEnvC fd L f)) (fs := [.ret k none g lv (.func body (callEnvC fd L f)) p []]) hF hk he
  refine el_3_2 (id hF) fun L₀ env' l h1 _ => ?_
  refine ⟨⟨hs, hk, hg, hb, hco, hF', ?_⟩, genC_mk h1 hh (by rw [he]; simp) (fun e h => by rw [he] at h; rw [List.mem_singleton.mp h]; rfl), rfl, rfl, hh, rfl⟩
  refine el_0_2 hA fun a b => ?_
  refine ⟨?_, ?_⟩
  · show C.A.depth + 1 + 0 + n < 600; omega
  · show C.A.units + 1 + 3 + 0 + 8 * n < 9000; omega
variable {K : Frag} {X : KX} {σ : St}
noncomputable def gnOK (sc : Scope) : Bool := sc.kind == .function && !sc.isCoroutine && sc.isGenerator && decide (sc.names.map (·.1)).Nodup && sc.names.all fun p => p.2 != .cell
theorem gnOK_all {sc : Scope} (h : gnOK sc = true) : sc.kind = .function ∧ sc.isCoroutine = false ∧ sc.isGenerator = true ∧ (sc.names.map (·.1)).Nodup ∧ ∀ p ∈ sc.names, p.2 ≠ .cell := by
  unfold gnOK at h
  simp only [Bool.and_eq_true, Bool.not_eq_true', beq_iff_eq, decide_eq_true_eq] at h
  refine ⟨h.1.1.1.1, h.1.1.1.2, h.1.1.2, h.1.2, fun p hp => ?_⟩
  have := List.all_eq_true.mp h.2 p hp
  simpa using this
theorem cellsOf_none : ∀ (names : List (Str × NameKind)) (n : Nat), (∀ p ∈ names, p.2 ≠ .cell) → cellsOf n names = []
  | [], _, _ => rfl
  | (x, kd) :: r, n, h => by
    rw [cellsOf, if_neg (fun q => h (x, kd) (.head _) (by simpa using q))]
    exact cellsOf_none r n fun p hp => h p (.tail _ hp)
theorem JCallV_gen {f : Addr} {body : List Stmt} {sc' : Scope} {as bs : List AV} {names : List Str} {pn : List Str} {vals : List AV} {Kk : KA} (T : Tops W K) (F : FnK K f body sc') (hs : gnOK sc' = true) (hA : AOK C.A 1) (hb : BindJ K f as names bs (pn.zip vals))
    (hlen : pn.length = vals.length) (hkeys : decide pn.Nodup = true) (hkinds : (pn.all fun y => sc'.names.lookup y == some .local) = true)
    (h : Kk (.obj σ.objs.length) { σ with objs := σ.objs ++ [.gen f (fdOf K f) body (mkSlots (pn.zip vals) sc'.names 0)] }) : JCallV W C (.ref f) as names bs Kk X σ := fun B ρ s vs us R d1 d2 => by
  refine el_1_2 (hb ρ s.heap vs us d1 d2) fun binds hb1 hb2 => ?_
  refine el_0_5 (gnOK_all hs) fun hk hco hgen hnd hcell => ?_
  refine el_3_1 F.at_ fun c0 d0 sl e => ?_
  have hcode : s.heap.CodeRec (fdOf K f).code (fdOf K f).qualname := codeRec_of (T.X.keeps R.top) F.code
  have hkb : ∀ y ∈ binds, sc'.names.lookup y.1 = some .local := fun y hy => by
    have hm : y.1 ∈ (pn.zip vals).map (·.1) := by rw [← hb2.keys]; exact List.mem_map_of_mem hy
    rw [List.map_fst_zip (Nat.le_of_eq hlen)] at hm
    simpa using List.all_eq_true.mp hkinds y.1 hm
  refine JV_call (codeAny_call_generator hA.room (R.top _ _ (T.X _ _ e)) rfl (by rw [F.scope]; exact hco) (by rw [F.scope]; exact hgen) F.body hcode (kp_binds (T.X.keeps R.top) hb1 _ _ _ _ ?_))
  rw [F.clo]
  refine wpAny_newFunctionEnv_cells (by rw [F.scope]; exact hk) (fun y hy => .inl (by rw [F.scope]; exact hkb y hy)) fun env he s' x => ?_
  subst he
  refine ⟨T.lim.keeps fun b o q => x.toInCall.keep b o (R.top b o q), ?_⟩
  have hk1 := x.toInCall.keep
  refine el_2_1 x.toInCall.same fun h' tk es => ?_
  have hgens : s'.gens = s.gens := by rw [es]
  have hos : s'.os = s.os := by rw [es]
  have eloc : (newEnv (fdOf K f).scope s.heap.objs.size (fdOf K f).globals (cellsFrom (s.heap.objs.size + 1) (fdOf K f).scope.names []) ((fdOf K f).qualname ++ ".<locals>.") (some f) (fdOf K f).code none (fdOf K f).builtins).locals = s.heap.objs.size := rfl
  have hns := x.toInCall.ns
  rw [eloc] at hns
  have hLs : s.heap.get? s.heap.objs.size = none := by
    cases q : s.heap.get? s.heap.objs.size with
    | none => rfl
    | some o => exact absurd (Heap.lt_size q) (Nat.lt_irrefl _)
  refine el_3_3 (id hns) fun oL esL epL hL1 hL2 _ => ?_
  have hLlt : s.heap.objs.size < s'.heap.objs.size := Heap.lt_size hL1
  generalize hgo : ({ cls := .type "generator", data := .fields #[.int (s'.gens.size : Nat) 0, .str (fdOf K f).name s'.toks, .str (fdOf K f).qualname (s'.toks + 1)] } : Obj) = go
  have hnewG : (s'.heap.push go).get? s'.heap.objs.size = some go := Heap.get?_push_size _ (by rw [← hgo]; rfl)
  have hk2 : ∀ b o, s.heap.get? b = some o → (s'.heap.push go).get? b = some o := fun b o q => Heap.get?_push_of_some _ (hk1 b o q)
  have hGs : s.heap.get? s'.heap.objs.size = none := by
    cases q : s.heap.get? s'.heap.objs.size with
    | none => rfl
    | some o => exact absurd (Heap.lt_size (hk1 _ _ q)) (Nat.lt_irrefl _)
  have hz : Frz s.heap (s'.heap.push go) := .ofExt hk2
  have R1 : Rep W C B ρ σ { s' with gens := s'.gens.push (.fresh (.func body (callEnvC (fdOf K f) s.heap.objs.size f))), toks := s'.toks + 1 + 1, heap := s'.heap.push go } := by
    refine R.kept2 (fun b o q => .inl (hk2 b o q)) (fun i y q => ?_) ?_ hos
    · show (s'.gens.push _)[i]? = _
      rw [hgens, Array.getElem?_push_lt (Array.getElem?_eq_some_iff.mp q).1]
      exact (Array.getElem?_eq_getElem _).symm.trans q
    · show AllBare (s'.gens.push _)
      rw [hgens]; exact R.bare.push rfl
  have hgl : s'.gens.size = s.gens.size := by rw [hgens]
  have key := R1.adopts (ρ₂ := [⟨s'.heap.objs.size, [s.heap.objs.size], [s.gens.size]⟩]) (os := [.gen f (fdOf K f) body (mkSlots (pn.zip vals) sc'.names 0)]) (fun a ha => ?_) ?_ rfl (fun o ho g hg => ?_) (fun i j o₁ o₂ g h1 h2 _ _ => ?_) (fun k own o h1 h2 => ?_)
  · refine el_0_2 key fun R2 E2 => ?_
    refine ⟨_, .obj σ.objs.length, _, ⟨E2.1, hz.trans E2.2⟩, R2, ?_, h⟩
    rw [← R.len]
    exact .obj (o := ⟨s'.heap.objs.size, [s.heap.objs.size], [s.gens.size]⟩) (by simp)
  · have ha' : a = s'.heap.objs.size ∨ a = s.heap.objs.size := by simpa [rhoAs, Own.as] using ha
    rcases ha' with rfl | rfl
    · exact ⟨R.newNot hGs, go, hnewG⟩
    · exact ⟨R.newNot hLs, oL, Heap.get?_push_of_some _ hL1⟩
  · show [s'.heap.objs.size, s.heap.objs.size].Nodup
    exact List.nodup_cons.mpr ⟨fun q => absurd (List.mem_singleton.mp q) (Nat.ne_of_gt hLlt), List.nodup_cons.mpr ⟨List.not_mem_nil, List.nodup_nil⟩⟩
  · have ho' := List.mem_singleton.mp ho
    subst ho'
    have hg' : g = s.gens.size := List.mem_singleton.mp hg
    subst hg'
    refine ⟨⟨?_, ?_⟩, fun o' ho' q => ?_⟩
    · cases q : B.g s.gens.size with
      | none => rfl
      | some y => exact absurd (Array.getElem?_eq_some_iff.mp (R.gkeep _ _ q)).1 (Nat.lt_irrefl _)
    · show _ < (s'.gens.push _).size
      rw [Array.size_push, hgl]; exact Nat.lt_succ_self _
    · exact absurd (R.gnew o' ho' _ q).2 (Nat.lt_irrefl _)
  · have e1 := (List.getElem?_eq_some_iff.mp h1).1
    have e2 := (List.getElem?_eq_some_iff.mp h2).1
    simp at e1 e2; omega
  · cases k with
    | succ k => simp at h1
    | zero =>
      cases h1; cases h2
      have hc0 : cellsOf (s.heap.objs.size + 1) sc'.names = [] := cellsOf_none _ _ hcell
      refine ⟨s.heap.objs.size, s.gens.size, rfl, rfl, ⟨go, .str (fdOf K f).name s'.toks, .str (fdOf K f).qualname (s'.toks + 1), hnewG, by rw [← hgo], by rw [← hgo, hgl]; exact ⟨rfl, rfl⟩⟩, ?_, ?_, ?_⟩
      · show (s'.gens.push _)[s.gens.size]? = _
        rw [hgens, Array.getElem?_push_size]
      · rw [F.scope]
        have : ∀ (l : List (Str × NameKind)) (k : Nat), (mkSlots (pn.zip vals) l k).length = l.length := by
          intro l
          induction l with
          | nil => intro k; rfl
          | cons p r ih => intro k; obtain ⟨y, kd⟩ := p; cases kd <;> simp [mkSlots, ih]
        exact Nat.le_of_eq (this _ _)
      · refine ⟨_, hns.keeps fun b o q => Heap.get?_push_of_some _ q, ?_⟩
        have hsl := slots_ok (ρ := ρ ++ [⟨s'.heap.objs.size, [s.heap.objs.size], [s.gens.size]⟩]) (h := s'.heap.push go) (env := callEnvC (fdOf K f) s.heap.objs.size f) (m := bindL (callEnvC (fdOf K f) s.heap.objs.size f).kindOf binds fun _ => none) (binds := pn.zip vals) sc'.names (s.heap.objs.size + 1) 0
          (fun y c hm => by rw [hc0] at hm; cases hm) (fun j y c hj => by rw [hc0] at hj; simp at hj)
          (fun y a hm ha => by
            refine el_1_2 (hb2.lookup.1 a ha) fun v hv hdv => ?_
            have hkl : (callEnvC (fdOf K f) s.heap.objs.size f).kindOf y = some .local := by
              show (fdOf K f).scope.names.lookup y = _
              rw [F.scope]; exact lookup_of_mem hnd hm
            rw [bindL_at binds _ y (by rw [hb2.keys, List.map_fst_zip (Nat.le_of_eq hlen)]; exact of_decide_eq_true hkeys) hkl, hv]
            exact ⟨v, rfl, hdv.mono hz (.append _ _)⟩)
        intro i y kd hi sl hsl'
        have hi' : (fdOf K f).scope.names[i]? = some (y, kd) := hi
        rw [F.scope] at hi'
        exact hsl i y kd hi' sl hsl'
end
end
section
section
variable {W : Wd} {C : Ctx} {B : Base} {ρ : Rho} {σ : St} {s : Shared} {K : KA} {X : KX}
theorem subscripted_ops (slice : Expr) (o i : Value) : ∃ ops, subscripted slice false o i = operate ops (getItem o i) := by
  cases slice with
  | Slice a b c p => cases c <;> exact ⟨_, rfl⟩
  | _ => exact ⟨_, rfl⟩
theorem tail_J {prog : Program} {w : World} {A : Around} {E : Value → Shared → Prop} {value slice : Expr} {o i : Value} {Q : Value → Shared → Prop} (h : ItemOn (model prog w) A E o i Q s) : wpAny (model prog w) A (subscriptTail value slice o i) Q E s := by
  refine el_2_3 h fun T id hl hT hg => ?_
  refine el_1_1 (subscripted_ops slice o i) fun ops hs => ?_
  unfold subscriptTail
  refine wpAny_bind ?_
  rw [getitemInPython_of_ne hT.not_modules]
  refine wpAny_bind (wpAny_specialOf hT hl ?_)
  have fin : wpAny (model prog w) A (subscripted slice false o i) (fun r s₃ => wpAny (model prog w) A (letTemporaryGo value o r >>= fun _ => pure r) Q E s₃) E s := by
    rw [hs]
    exact wpAny_operating (wpAny_mono hg (fun r s₃ h₃ => wpAny_bind (wpAny_letTemporaryGo (wpAny_pure h₃))) fun _ _ x => x)
  first
    | exact wpAny_pure (wpAny_bind fin)
    | exact wpAny_bind (wpAny_pure (wpAny_bind fin))
    | exact wpAny_bind fin
noncomputable abbrev OpS (W : Wd) (C : Ctx) (value slice : Expr) (a b : AV) (K : KA) (X : KX) (σ : St) : Prop := Op2 W C (subscriptTail value slice) a b K X σ
theorem J_Subscript {value slice : Expr} {p : Pos} (h : J W C value (fun a σ₁ => J W C slice (fun b σ₂ => OpS W C value slice a b K X σ₂) X σ₁) X σ) : J W C (.Subscript value slice p) K X σ := fun B ρ s R => by
  refine Subscript_ (wpAny_mono (h B ρ s R) (fun v s1 h1 => ?_) fun _ _ x => x)
  refine h1.el fun ρ1 a σ1 e1 R1 d1 k1 => ?_
  refine wpAny_mono (k1 B ρ1 s1 R1) (fun u s2 h2 => ?_) fun _ _ x => x.ext e1
  refine h2.el fun ρ2 b σ2 e2 R2 d2 k2 => ?_
  exact wpAny_mono (k2 B ρ2 s2 v u R2 (d1.ext e2) d2) (fun _ _ x => x.ext (e1.trans e2)) fun _ _ x => x.ext (e1.trans e2)
theorem OpS_bytes {value slice : Expr} {l : List UInt8} {i : Int} (hz : l.length ≤ 1099511627776) (h0 : 0 ≤ i) (h1 : i < l.length) (h : K (.int ((l.getD i.toNat 0).toNat : Nat)) σ) : OpS W C value slice (.byt l) (.int i) K X σ := fun B ρ s v u R d1 d2 => by
  refine el_1_1 d1.iByt fun _ hE285 => ?_; subst hE285; refine el_1_1 d2.iInt fun _ hE286 => ?_; subst hE286
  exact tail_J ⟨"bytes", _, FB.slot_bytes_getitem.lookup, typeIs_bytes _ _ _, getItem_bytes hz h0 h1 (.tok (a := .int _) R (.int _ _) h)⟩
theorem OpS_list {value slice : Expr} {k : Nat} {vals : List AV} {i : Int} {a : AV} (ho : σ.objs[k]? = some (.list vals)) (h0 : 0 ≤ i) (h1 : i < 2 ^ 63) (ha : vals[i.toNat]? = some a) (h : K a σ) : OpS W C value slice (.obj k) (.int i) K X σ := fun B ρ s v u R d1 d2 => by
  cases d1 with
  | @obj _ own e =>
    refine el_1_1 d2.iInt fun _ hE287 => ?_; subst hE287
    refine el_1_2 (R.objs k own _ e ho) fun vs hlp hd => ?_
    have hl := hlp.isList
    refine el_1_2 (hd.get ha) fun v hv dv => ?_
    exact tail_J ⟨"list", _, list_getitem_lookup, hl.typeIs, getItem_listL hl h0 h1 hv (.now R dv h)⟩
theorem OpS_tuple {value slice : Expr} {l : List AV} {i : Int} {a : AV} (h0 : 0 ≤ i) (h1 : i < 2 ^ 63) (ha : l[i.toNat]? = some a) (h : K a σ) : OpS W C value slice (.tu l) (.int i) K X σ := fun B ρ s v u R d1 d2 => by
  cases d1 with
  | @tup _ _ vs t hn q d =>
    refine el_1_1 d2.iInt fun _ hE288 => ?_; subst hE288
    refine el_1_2 (d.get ha) fun v hv dv => ?_
    have ht : IsTup s.heap t vs.toArray := q
    have hlt := (List.getElem?_eq_some_iff.mp hv).1
    refine tail_J ⟨"tuple", _, slot_tuple_getitem.lookup, ht.typeIs, PyProof.Rows.getItem_tuple (j := i.toNat) ht (by omega) h1 ?_ (by simpa using hv) (.now R dv h)⟩
    simp only [seqIndex?, List.size_toArray]
    have e1 : ¬ i < 0 := by omega
    have e2 : i < (vs.length : Int) := by omega
    simp [h0, e1, e2]
inductive PartA : AV → Option Int → Prop
  | non : PartA .non none
  | int (i : Int) : PartA (.int i) (some i)
theorem PartA.isPart {h : Heap} {a : AV} {v : Value} {lo : Option Int} (p : PartA a lo) (d : DenA ρ h a v) : IsPart v lo := by
  cases p <;> cases d <;> constructor
noncomputable def cutL {α : Type} (l : List α) (lo hi : Option Int) : List α := (l.drop (lo.elim 0 (clipAt l.length))).take (hi.elim l.length (clipAt l.length) - lo.elim 0 (clipAt l.length))
theorem cutL_map {α β : Type} (f : α → β) (l : List α) (lo hi : Option Int) : cutL (l.map f) lo hi = (cutL l lo hi).map f := by
  unfold cutL; rw [List.length_map, List.map_take, List.map_drop]
noncomputable def OpSl (W : Wd) (C : Ctx) (value slice : Expr) (a l u : AV) (K : KA) (X : KX) (σ : St) : Prop := ∀ B ρ (s : Shared) v lv uv i, Rep W C B ρ σ s → DenA ρ s.heap a v → DenA ρ s.heap l lv → DenA ρ s.heap u uv → s.heap.IsSliceOf i lv uv .none → JV W C (subscriptTail value slice v (.ref i)) K X B ρ s
noncomputable def JO (W : Wd) (C : Ctx) : Option Expr → KA → KX → St → Prop
  | none, K, _, σ => K .non σ
  | some e, K, X, σ => J W C e K X σ
theorem JO_run {e : Option Expr} (h : JO W C e K X σ) (R : Rep W C B ρ σ s) : JV W C (valueOrNone (evalOpt e C.env)) K X B ρ s := by
  cases e with
  | none => exact wpAny_pure (.now R .non h)
  | some e => exact h B ρ s R
theorem J_SubSlice {value : Expr} {lower upper : Option Expr} {q p : Pos} (h : J W C value (fun a σ₁ => JO W C lower (fun l σ₂ => JO W C upper (fun u σ₃ => OpSl W C value (.Slice lower upper none q) a l u K X σ₃) X σ₂) X σ₁) X σ) : J W C (.Subscript value (.Slice lower upper none q) p) K X σ := fun B ρ s R => by
  refine Subscript_ (wpAny_mono (h B ρ s R) (fun v s1 hP => hP.el fun ρ1 a σ1 e1 R1 d1 k1 => ?_) fun _ _ x => x)
  rw [arm_eval_Slice]
  refine wpAny_bind (wpAny_mono (JO_run k1 R1) (fun lv s2 hP => hP.el fun ρ2 l σ2 e2 R2 d2 k2 => wpAny_bind (wpAny_holding ?_)) fun _ _ x => x.ext e1)
  refine wpAny_mono (JO_run k2 R2) (fun uv s3 hP => hP.el fun ρ3 u σ3 e3 R3 d3 k3 => ?_) fun _ _ x => x.ext (e1.trans e2)
  refine wpAny_bind (wpAny_holding (wpAny_pure ?_))
  refine wpAny_newObj_type ?_
  refine el_0_3 (iterNew R3 { cls := .type "slice", data := .fields #[lv, uv, .none] }) fun R4 e4 n4 => ?_
  have e34 := e3.trans e4
  have e := (e1.trans e2).trans e34
  exact wpAny_mono (k3 B ρ3 _ v lv uv _ R4 (d1.ext (e2.trans e34)) (d2.ext e34) (d3.ext e4) (Heap.IsSliceOf.new ..)) (fun _ _ x => x.ext e) fun _ _ x => x.ext e
theorem OpSl_bytes {value slice : Expr} {l : List UInt8} {a b : AV} {lo hi : Option Int} (ha : PartA a lo) (hb : PartA b hi) (hz : l.length ≤ 16777216) (h : K (.byt (cutL l lo hi)) σ) : OpSl W C value slice (.byt l) a b K X σ := fun B ρ s v lv uv i R d1 d2 d3 hi' => by
  refine el_1_1 d1.iByt fun _ hE289 => ?_; subst hE289
  refine tail_J ⟨"bytes", _, FB.slot_bytes_getitem.lookup, typeIs_bytes _ _ _, getItem_meets (typeIs_bytes _ _ _) (by decide) FB.slot_bytes_getitem FB.entry_bytes_getitem (FB.args_bytes_getitem_2 _ _) (KBc.meets_slice2 _ _ _ (ha.isPart d2) (hb.isPart d3)) ⟨hi', Nat.le_trans (KBc.size_picked_le _ lo hi) (by rw [sizeLine_eq, List.size_toArray]; exact hz), fun t' k => ?_⟩⟩
  rw [KBc.picked_eq]
  exact .tok (a := .byt (cutL l lo hi)) R (by unfold cutL; simpa using DenA.byt _ t') h
theorem DenL.drop {h : Heap} : ∀ (n : Nat) {l : List AV} {vs : List Value}, DenL ρ h l vs → DenL ρ h (l.drop n) (vs.drop n)
  | 0, _, _, d => d
  | _ + 1, _, _, .nil => .nil
  | n + 1, _, _, .cons _ d => DenL.drop n d
theorem DenL.takeN {h : Heap} : ∀ (n : Nat) {l : List AV} {vs : List Value}, DenL ρ h l vs → DenL ρ h (l.take n) (vs.take n)
  | 0, _, _, _ => by simp only [List.take_zero]; exact .nil
  | _ + 1, _, _, .nil => by simp only [List.take_nil]; exact .nil
  | n + 1, _, _, .cons a d => .cons a (DenL.takeN n d)
theorem Rep.newList (R : Rep W C B ρ σ s) {l : List AV} {vs : List Value} (d : DenL ρ s.heap l vs) {o : Obj} (ho : o = { cls := .type "list", data := .seq vs.toArray }) {tk : Nat} :
    Rep W C B (ρ ++ [⟨s.heap.objs.size, [], []⟩]) { σ with objs := σ.objs ++ [.list l] } { s with heap := s.heap.push o, toks := tk } ∧ Ext ρ s (ρ ++ [⟨s.heap.objs.size, [], []⟩]) { s with heap := s.heap.push o, toks := tk } ∧ DenA (ρ ++ [⟨s.heap.objs.size, [], []⟩]) (s.heap.push o) (.obj σ.objs.length) (.ref s.heap.objs.size) := by
  subst ho
  have hl := Heap.get?_push_size s.heap (o := { cls := .type "list", dict := none, data := .seq vs.toArray }) rfl
  have hnone : s.heap.get? s.heap.objs.size = none := by
    cases q : s.heap.get? s.heap.objs.size with
    | none => rfl
    | some o' => exact absurd (Heap.lt_size q) (Nat.lt_irrefl _)
  obtain ⟨R1, e1⟩ := R.addObj (own := ⟨s.heap.objs.size, [], []⟩) (o' := .list l) (h' := s.heap.push { cls := .type "list", dict := none, data := .seq vs.toArray }) rfl (fun b x e => Heap.get?_push_of_some _ e)
    (fun a ha => by rw [List.mem_singleton.mp ha]; exact ⟨hnone, _, hl⟩) (List.pairwise_singleton _ _) (fun hz => ⟨vs, ⟨0, hl⟩, d.mono hz (.append _ _)⟩) tk
  refine ⟨R1, e1, ?_⟩
  rw [← R.len]
  exact .obj (o := ⟨s.heap.objs.size, [], []⟩) (by simp)
theorem Op2_badd {l r : List UInt8} (hz : l.length + r.length ≤ 16777216) (h : K (.byt (l ++ r)) σ) : Op2 W C (binaryOp .Add) (.byt l) (.byt r) K X σ := fun B ρ s v u R d1 d2 => by
  refine el_1_1 d1.iByt fun _ hE290 => ?_; subst hE290; refine el_1_1 d2.iByt fun _ hE291 => ?_; subst hE291
  refine KBy.add_bytes (by simpa using hz) fun t' k => .tok (a := .byt (l ++ r)) R ?_ h
  rw [List.append_toArray]; exact .byt _ _
theorem Op2_beq {l r : List UInt8} (h : K (.bool (l == r)) σ) : Op2 W C (compareOp .Eq) (.byt l) (.byt r) K X σ := fun B ρ s v u R d1 d2 => by
  refine el_1_1 d1.iByt fun _ hE292 => ?_; subst hE292; refine el_1_1 d2.iByt fun _ hE293 => ?_; subst hE293; exact eq_bytes (.now (a := .bool _) R (.bool _) h)
theorem Op2_bne {l r : List UInt8} (h : K (.bool (l != r)) σ) : Op2 W C (compareOp .NotEq) (.byt l) (.byt r) K X σ := fun B ρ s v u R d1 d2 => by
  refine el_1_1 d1.iByt fun _ hE294 => ?_; subst hE294; refine el_1_1 d2.iByt fun _ hE295 => ?_; subst hE295; exact ne_bytes (.now (a := .bool _) R (.bool _) h)
theorem OpT_non {Kb : Bool → St → Prop} (h : Kb false σ) : OpT W C .non Kb X σ := fun B ρ s v R d => by
  obtain rfl := d.iNon; exact PyProof.Rows.truthy_none ⟨ρ, σ, .refl _ _, R, h⟩
theorem JC_len_byt {l : List UInt8} (hz : l.length ≤ 1099511627776) (h : K (.int l.length) σ) : JCallV W C (.builtin "len") [.byt l] [] [] K X σ := fun B ρ s vs us R d1 d2 => by
  cases d1 with
  | cons d r => cases r; obtain rfl := d2.iNil; refine el_1_1 d.iByt fun _ hE297 => ?_; subst hE297; exact len_bytes (by simpa using hz) (.tok (a := .int l.length) R (.int _ _) h)
end
end
section
open PySem.SeqAt PySem.Builtin
section
variable {W : Wd} {C : Ctx} {B : Base} {ρ : Rho} {σ : St} {s : Shared} {K : KA} {X : KX}
theorem JEs_run {es : List Expr} {Kl : KL} (hs : es.all notStar = true) {pos : Pos} (h : JEs W C es Kl X σ) (R : Rep W C B ρ σ s) : wpAny (model W.prog W.w) C.A (spliced (backTo pos (starEach es C.env))) (PostL W C B ρ s Kl) (PostX W C B ρ s X) s := by
  rw [starEach_plain _ _ hs, backTo_plain]
  exact spliced_JEs h R
theorem J_List {es : List Expr} {pos : Pos} (hs : es.all notStar = true) (h : JEs W C es (fun as σ₁ => as.length ≤ 16777216 ∧ K (.obj σ₁.objs.length) { σ₁ with objs := σ₁.objs ++ [.list as] }) X σ) : J W C (.List es pos) K X σ := fun B ρ s R => by
  refine wpAny_List_spliced (wpAny_mono (JEs_run hs h R) (fun vs s1 hP => hP.el fun ρ1 as σ1 e1 R1 d1 ⟨hz, k1⟩ => ⟨by rw [d1.length, sizeLine_eq]; exact hz, ?_⟩) fun _ _ x => x)
  refine el_0_3 (R1.newList (tk := s1.toks) d1 rfl) fun R2 e2 d2 => ?_
  exact ⟨_, _, _, e1.trans e2, R2, d2, k1⟩
theorem newTup (R : Rep W C B ρ σ s) {l : List AV} {vs : List Value} (d : DenL ρ s.heap l vs) : Rep W C B ρ σ { s with heap := s.heap.push { cls := .type "tuple", data := .seq vs.toArray } } ∧ Ext ρ s ρ { s with heap := s.heap.push { cls := .type "tuple", data := .seq vs.toArray } } ∧ DenA ρ (s.heap.push { cls := .type "tuple", data := .seq vs.toArray }) (.tu l) (.ref s.heap.objs.size) := by
  refine el_0_3 (iterNew R { cls := .type "tuple", data := .seq vs.toArray }) fun R2 e2 _ => ?_
  exact ⟨R2, e2, .tup (fun c => nomatch c) ⟨_, Heap.get?_push_size _ rfl, rfl, 0, rfl⟩ (d.ext e2)⟩
theorem J_Tuple {es : List Expr} {k : Nat} {pos : Pos} (hs : es.all notStar = true) (h : JEs W C es (fun as σ₁ => as.length ≤ 16777216 ∧ K (.tu as) σ₁) X σ) : J W C (.Tuple es k pos) K X σ := fun B ρ s R => by
  refine wpAny_Tuple_spliced (wpAny_mono (JEs_run hs h R) (fun vs s1 hP => hP.el fun ρ1 as σ1 e1 R1 d1 ⟨hz, k1⟩ => ⟨by rw [d1.length, sizeLine_eq]; exact hz, ?_⟩) fun _ _ x => x)
  refine el_0_3 (newTup R1 d1) fun R2 e2 d2 => ?_
  exact ⟨_, _, _, e1.trans e2, R2, d2, k1⟩
noncomputable def AV.isNon : AV → Option Bool
  | .non => some true
  | .con _ => none
  | _ => some false
theorem isNon_den {h : Heap} {a : AV} {v : Value} {r : Bool} (e : a.isNon = some r) (d : DenA ρ h a v) : (v == Value.none) = r := by
  cases d <;> (simp only [AV.isNon, Option.some.injEq, reduceCtorEq] at e <;> first | (subst e; first | rfl | simp) | skip)
theorem Op2_is {a : AV} {r : Bool} (e : a.isNon = some r) (h : K (.bool r) σ) : Op2 W C (compareOp .Is) a .non K X σ := fun B ρ s v u R d1 d2 => by
  obtain rfl := d2.iNon
  have := isNon_den e d1
  cases r with
  | true => have e := eq_of_beq this; subst e; exact wpAny_is_self rfl (.now (a := .bool true) R (.bool _) h)
  | false => exact is_none_ne (by simpa using this) (.now (a := .bool false) R (.bool _) h)
theorem Op2_isNot {a : AV} {r : Bool} (e : a.isNon = some r) (h : K (.bool (!r)) σ) : Op2 W C (compareOp .IsNot) a .non K X σ := fun B ρ s v u R d1 d2 => by
  obtain rfl := d2.iNon
  have := isNon_den e d1
  cases r with
  | true => have e := eq_of_beq this; subst e; exact wpAny_isNot_self rfl (.now (a := .bool false) R (.bool _) h)
  | false => exact isnot_none_ne (by simpa using this) (.now (a := .bool true) R (.bool _) h)
inductive EqA : Nat → AV → AV → Bool → Prop
  | int (n : Nat) (i j : Int) : EqA n (.int i) (.int j) (i == j)
  | byt (n : Nat) (l r : List UInt8) : EqA n (.byt l) (.byt r) (l == r)
  | str (n : Nat) (x y : Str) : EqA n (.str x) (.str y) (x == y)
  | bool (n : Nat) (a b : Bool) : EqA n (.bool a) (.bool b) (a == b)
  | non (n : Nat) : EqA n .non .non true
inductive EqL : Nat → List AV → List AV → Bool → Prop
  | nil (n : Nat) : EqL n [] [] true
  | left {n : Nat} {b : AV} {r : List AV} : EqL n [] (b :: r) false
  | right {n : Nat} {a : AV} {l : List AV} : EqL n (a :: l) [] false
  | cons {n : Nat} {a b : AV} {l r : List AV} {x y : Bool} : EqA n a b x → EqL n l r y → EqL n (a :: l) (b :: r) (x && y)
theorem EqAt.bytes {A : Around} (l r : List UInt8) (t u : Tok) : EqAt A s (.bytes l.toArray t) (.bytes r.toArray u) (l == r) := fun prog w E Q hq => by
  unfold eqBool
  refine wpAny_holding ?_
  refine wpAny_ite_split (fun hab => ?_) (fun _ => ?_)
  · have e := eq_of_beq hab
    injection e with e
    have : l = r := by have := congrArg Array.toList e; simpa using this
    subst this
    exact wpAny_bind (wpAny_rule (wpAny_pure (by simpa using hq)))
  · exact wpAny_bind (eq_bytes (wpAny_truthy_bool hq))
theorem EqA.at {n : Nat} {a b : AV} {r : Bool} (e : EqA n a b r) {A : Around} {v u : Value} (d1 : DenA ρ s.heap a v) (d2 : DenA ρ s.heap b u) : RcAt A s v u r ∧ EqAt A s v u r := by
  cases e with
  | int i j => refine el_1_1 d1.iInt fun _ hE339 => ?_; subst hE339; refine el_1_1 d2.iInt fun _ hE340 => ?_; subst hE340; exact ⟨RcAt.int_int _ _ _ _, EqAt.int_int _ _ _ _⟩
  | byt i j => refine el_1_1 d1.iByt fun _ hE341 => ?_; subst hE341; refine el_1_1 d2.iByt fun _ hE342 => ?_; subst hE342; exact ⟨fun prog w E Q h => eq_bytes h, EqAt.bytes _ _ _ _⟩
  | str i j => refine el_1_1 d1.iStr fun _ hE343 => ?_; subst hE343; refine el_1_1 d2.iStr fun _ hE344 => ?_; subst hE344; exact ⟨RcAt.str_str _ _ _ _, EqAt.str_str _ _ _ _⟩
  | bool i j => obtain rfl := d1.iBool; obtain rfl := d2.iBool; exact ⟨RcAt.bool_bool _ _, EqAt.bool_bool _ _⟩
  | non => obtain rfl := d1.iNon; obtain rfl := d2.iNon; exact ⟨RcAt.none_none, EqAt.same _⟩
noncomputable def consF (x : Bool) (f : Nat → Bool) (j : Nat) : Bool := Nat.rec x (fun j _ => f j) j
theorem fst_or (x : Bool) (f : Nat → Bool) (m k : Nat) : (x && ((List.range (min m k)).all f && m == k)) = ((List.range (min (m + 1) (k + 1))).all (consF x f) && (m + 1 == k + 1)) := by
  rw [Nat.succ_min_succ, List.range_succ_eq_map, List.all_cons, List.all_map, Bool.and_assoc]
  have h : (m + 1 == k + 1) = (m == k) := by simp
  rw [h]; rfl
theorem EqL.at {n : Nat} {l l' : List AV} {r : Bool} (e : EqL n l l' r) {A : Around} : ∀ {vs us : List Value}, DenL ρ s.heap l vs → DenL ρ s.heap l' us →
    ∃ f : Nat → Bool, (∀ j (h1 : j < vs.length) (h2 : j < us.length), EqAt A s vs[j] us[j] (f j)) ∧ r = ((List.range (min vs.length us.length)).all f && vs.length == us.length) := by
  induction e with
  | nil => intro _ _ d1 d2; obtain rfl := d1.iNil; obtain rfl := d2.iNil; exact ⟨fun _ => true, fun j h => absurd h (Nat.not_lt_zero j), rfl⟩
  | left => intro _ _ d1 d2; obtain rfl := d1.iNil; cases d2; exact ⟨fun _ => true, fun j h => absurd h (Nat.not_lt_zero j), rfl⟩
  | right => intro _ _ d1 d2; cases d1; obtain rfl := d2.iNil; exact ⟨fun _ => true, fun j _ h => absurd h (Nat.not_lt_zero j), rfl⟩
  | cons ea el ih =>
    intro _ _ d1 d2
    cases d1 with
    | cons a1 r1 => cases d2 with
      | cons a2 r2 =>
        refine el_1_2 (ih r1 r2) fun f h1 hE345 => ?_; subst hE345
        refine ⟨consF _ f, fun j g1 g2 => ?_, fst_or _ f _ _⟩
        cases j with
        | zero => exact (ea.at a1 a2).2
        | succ j => exact h1 j (Nat.lt_of_succ_lt_succ g1) (Nat.lt_of_succ_lt_succ g2)
noncomputable def toByts : List AV → Option (List (List UInt8))
  | [] => some []
  | .byt x :: l => (toByts l).map (x :: ·)
  | _ :: _ => none
noncomputable def toInts : List AV → Option (List Int)
  | [] => some []
  | .int x :: l => (toInts l).map (x :: ·)
  | _ :: _ => none
noncomputable def isByt (x : List UInt8) : Value → Bool
  | .bytes b _ => b.toList == x
  | _ => false
noncomputable def isIntv (x : Int) : Value → Bool
  | .int b _ => b == x
  | _ => false
theorem toByts_eq {l : List AV} : ∀ {xs : List (List UInt8)}, toByts l = some xs → l = xs.map AV.byt := by
  induction l with
  | nil => intro xs e; cases e; rfl
  | cons a l ih => cases a with
    | byt z => intro xs e; unfold toByts at e; refine el_1_2 (Option.map_eq_some_iff.mp e) fun ys e1 e2 => ?_; subst e2; rw [ih e1]; rfl
    | _ => intro xs e; cases e
theorem toByts_den {h : Heap} (x : List UInt8) (t : Tok) {A : Around} {l : List AV} {xs : List (List UInt8)} {vs : List Value} (e : toByts l = some xs) (d : DenL ρ h l vs) : (∀ y ∈ vs, EqAt A s y (.bytes x.toArray t) (isByt x y)) ∧ vs.any (isByt x) = xs.contains x := by
  obtain rfl := toByts_eq e
  clear e
  induction xs generalizing vs with
  | nil => obtain rfl := d.iNil; exact ⟨fun y h => (nomatch h), rfl⟩
  | cons z xs ih =>
    refine el_2_3 (DenL.iCons d) fun v us hv dA r => ?_; subst hv
    refine el_1_1 dA.iByt fun _ hv => ?_; subst hv
    refine el_0_2 (ih r) fun h1 h2 => ?_
    refine ⟨fun y hy => ?_, ?_⟩
    · rcases List.mem_cons.mp hy with rfl | hy
      · show EqAt A s _ _ (z.toArray.toList == x)
        rw [List.toList_toArray]; exact EqAt.bytes _ _ _ _
      · exact h1 y hy
    · rw [List.any_cons, h2, List.contains_cons]
      congr 1
      show (z.toArray.toList == x) = (x == z)
      rw [List.toList_toArray, Bool.beq_comm]
theorem toInts_eq {l : List AV} : ∀ {xs : List Int}, toInts l = some xs → l = xs.map AV.int := by
  induction l with
  | nil => intro xs e; cases e; rfl
  | cons a l ih => cases a with
    | int z => intro xs e; unfold toInts at e; refine el_1_2 (Option.map_eq_some_iff.mp e) fun ys e1 e2 => ?_; subst e2; rw [ih e1]; rfl
    | _ => intro xs e; cases e
theorem toInts_den {h : Heap} (x : Int) (t : Tok) {A : Around} {l : List AV} {xs : List Int} {vs : List Value} (e : toInts l = some xs) (d : DenL ρ h l vs) : (∀ y ∈ vs, EqAt A s y (.int x t) (isIntv x y)) ∧ vs.any (isIntv x) = xs.contains x := by
  obtain rfl := toInts_eq e
  clear e
  induction xs generalizing vs with
  | nil => obtain rfl := d.iNil; exact ⟨fun y h => (nomatch h), rfl⟩
  | cons z xs ih =>
    refine el_2_3 (DenL.iCons d) fun v us hv dA r => ?_; subst hv
    refine el_1_1 dA.iInt fun _ hv => ?_; subst hv
    refine el_0_2 (ih r) fun h1 h2 => ?_
    refine ⟨fun y hy => ?_, ?_⟩
    · rcases List.mem_cons.mp hy with rfl | hy
      · exact EqAt.int_int _ _ _ _
      · exact h1 y hy
    · rw [List.any_cons, h2, List.contains_cons]
      congr 1
      show (z == x) = (x == z)
      rw [Bool.beq_comm]
section
variable {x : List UInt8} {i : Int} {l : List AV} {xs : List (List UInt8)} {is : List Int} {k : Nat}
theorem Op2_inT_byt (e : toByts l = some xs) (h : K (.bool (xs.contains x)) σ) : Op2 W C (compareOp .In) (.byt x) (.tu l) K X σ := fun B ρ s v u R d1 d2 => by
  refine el_1_1 d1.iByt fun _ hE350 => ?_; subst hE350
  cases d2 with
  | @tup _ _ vs t hn q d =>
    obtain ⟨h1, h2⟩ := toByts_den (A := C.A.in1) x _ e d
    exact in_tupleAt (isByt x) (items := vs.toArray) q (fun y hy => h1 y (by simpa using hy)) (by rw [List.any_toArray, h2]; exact .now (a := .bool _) R (.bool _) h)
theorem Op2_inL_byt (ho : σ.objs[k]? = some (.list l)) (e : toByts l = some xs) (h : K (.bool (xs.contains x)) σ) : Op2 W C (compareOp .In) (.byt x) (.obj k) K X σ := fun B ρ s v u R d1 d2 => by
  refine el_1_1 d1.iByt fun _ hE352 => ?_; subst hE352
  cases d2 with
  | @obj _ own eo =>
    refine el_1_2 (R.objs k own _ eo ho) fun vs hlp d => ?_
    have hl := hlp.isList
    obtain ⟨h1, h2⟩ := toByts_den (A := C.A.in1) x _ e d
    exact in_listAt (isByt x) hl (fun y hy => h1 y (by simpa using hy)) (by rw [List.any_toArray, h2]; exact .now (a := .bool _) R (.bool _) h)
theorem Op2_notInL_byt (ho : σ.objs[k]? = some (.list l)) (e : toByts l = some xs) (h : K (.bool (!xs.contains x)) σ) : Op2 W C (compareOp .NotIn) (.byt x) (.obj k) K X σ := fun B ρ s v u R d1 d2 => by
  refine el_1_1 d1.iByt fun _ hE353 => ?_; subst hE353
  cases d2 with
  | @obj _ own eo =>
    refine el_1_2 (R.objs k own _ eo ho) fun vs hlp d => ?_
    have hl := hlp.isList
    obtain ⟨h1, h2⟩ := toByts_den (A := C.A.in1) x _ e d
    exact notIn_listAt (isByt x) hl (fun y hy => h1 y (by simpa using hy)) (by rw [List.any_toArray, h2]; exact .now (a := .bool _) R (.bool _) h)
theorem Op2_notInT_int (e : toInts l = some is) (h : K (.bool (!is.contains i)) σ) : Op2 W C (compareOp .NotIn) (.int i) (.tu l) K X σ := fun B ρ s v u R d1 d2 => by
  refine el_1_1 d1.iInt fun _ hE355 => ?_; subst hE355
  cases d2 with
  | @tup _ _ vs t hn q d =>
    obtain ⟨h1, h2⟩ := toInts_den (A := C.A.in1) i _ e d
    exact notIn_tupleAt (isIntv i) (items := vs.toArray) q (fun y hy => h1 y (by simpa using hy)) (by rw [List.any_toArray, h2]; exact .now (a := .bool _) R (.bool _) h)
end
theorem slot_bytes_gt : Slot "bytes" (cmpInfo .Gt).2.1 "bytes.__gt__" :=
  .of (owner := "bytes") (n := "__gt__") (by rw [typeLookup_type, builtinLookup_eq_fast]; kernel_rfl) (by decide +kernel) (by decide +kernel) (by decide +kernel)
    (by first | exact .inl (by decide +kernel) | exact .inr (by decide +kernel)) (by rw [isSubtype_type]; kernel_rfl)
theorem entry_bytes_gt : entryFor table "bytes.__gt__" = some Builtin.«bytes.__gt__» := entryFor_of_tree (by kernel_rfl)
theorem args_bytes_gt_2 (a b : Value) : argsOk "bytes.__gt__" ⟨[a, b], []⟩ := by
  unfold argsOk; rw [signature?_of (id := "bytes.__gt__") (n := ['_', '_', 't', 'g', '_', '_']) (o := ['s', 'e', 't', 'y', 'b']) (by kernel_rfl) FB.owner_bytes]; kernel_rfl
theorem gives_bytes_gt (b c : Array UInt8) (t u : Tok) : Gives (Builtin.«bytes.__gt__» ⟨[.bytes b t, .bytes c u], []⟩) (.val (.bool (Bytes.order b.toList c.toList == .gt))) := by
  refine .of_wp fun M A E s Q hq => ?_
  show wpAny M A (isInstance (.bytes c u) (.type "bytes") >>= fun r => _) _ E s
  refine wpAny_bind (wpAny_isInstance (typeIs_bytes s c u) F.sub_bytes_bytes ?_)
  exact wpAny_pure ⟨_, rfl, hq⟩
theorem Op2_bgt {l r : List UInt8} (h : K (.bool (Bytes.order l r == .gt)) σ) : Op2 W C (compareOp .Gt) (.byt l) (.byt r) K X σ := fun B ρ s v u R d1 d2 => by
  refine el_1_1 d1.iByt fun _ hE356 => ?_; subst hE356; refine el_1_1 d2.iByt fun _ hE357 => ?_; subst hE357
  refine compareOp_gives (op := .Gt) (typeIs_bytes s _ _) (typeIs_bytes s _ _) slot_bytes_gt entry_bytes_gt (args_bytes_gt_2 _ _) (gives_bytes_gt _ _ _ _) (fun e => nomatch e) ?_
  rw [List.toList_toArray, List.toList_toArray]
  exact .now (a := .bool _) R (.bool _) h
theorem JC_append {k : Nat} {l : List AV} {a : AV} (ho : σ.objs[k]? = some (.list l)) (hz : l.length ≤ 10000) (h : K .non { σ with objs := σ.objs.set k (.list (l ++ [a])) }) : JCallV W C (.builtin "list.append") [.obj k, a] [] [] K X σ := fun B ρ s vs us R d1 d2 => by
  cases d1 with
  | cons d r => cases r with
    | cons da r =>
      cases r; obtain rfl := d2.iNil
      cases d with
      | @obj _ own hown =>
        refine el_1_2 (R.objs k own _ hown ho) fun vs hlp hd => ?_
        have hl := hlp.isList
        refine wpAny_list_append_plain hlp (fun h' hlp' hsb => ?_) (by rw [List.size_toArray, hd.length, sizeLine_eq]; omega)
        obtain ⟨o, q1, q2, n, q3⟩ := id hl
        refine el_1_2 hlp'.isList fun o' q1' _ => ?_
        refine el_0_2 (R.setObj (o' := .list (l ++ [a])) (h' := h') hown (.head _) q1 (fun _ _ _ => q2) hsb.extBut ⟨o', q1'⟩ (fun hz => ⟨vs ++ [_], by simpa using hlp', (hd.mono hz (.refl _)).append (.cons (da.mono hz (.refl _)) .nil)⟩) s.toks) fun R2 e2 => ?_
        exact ⟨ρ, _, _, e2, R2, .non, h⟩
end
end
section
open PySem.SeqAt PySem.Builtin
theorem slot_bytes_index : Slot "bytes" "index" "bytes.index" :=
  .of (owner := "bytes") (n := "index") (by rw [typeLookup_type, builtinLookup_eq_fast]; kernel_rfl) (by decide +kernel) (by decide +kernel) (by decide +kernel)
    (by first | exact .inl (by decide +kernel) | exact .inr (by decide +kernel)) (by rw [isSubtype_type]; kernel_rfl)
theorem type_bytes_index : typeOf (.builtin "bytes.index") = pure (.type "method_descriptor") := by show builtinType _ = _; rw [builtinType_eq_fast]; kernel_rfl
theorem entry_bytes_index : entryFor table "bytes.index" = some Builtin.«bytes.index» := entryFor_of_tree (by kernel_rfl)
theorem args_bytes_index_3 (a b c : Value) : argsOk "bytes.index" ⟨[a, b, c], []⟩ := by
  unfold argsOk; rw [signature?_of (id := "bytes.index") (n := ['x', 'e', 'd', 'n', 'i']) (o := ['s', 'e', 't', 'y', 'b']) (by kernel_rfl) FB.owner_bytes]; kernel_rfl
theorem bound_int (i : Int) (u : Tok) : Bytes.bound? (some (.int i u)) = pure (some i) := by
  have e : specialOf (.int i u) "__index__" = typeLookup (.type "int") "__index__" := rfl
  have : specialOf (.int i u) "__index__" = pure (some (.builtin "int.__index__")) := by rw [e]; exact F.slot_int_index.lookup
  show (specialOf (.int i u) "__index__" >>= fun r => _) = _
  rw [this]
  rfl
theorem some_idx (a b c : Value) : selfAndSome "bytes.index" "index" 1 3 ⟨[a, b, c], []⟩ = pure (a, [b, c]) := by kernel_rfl
theorem gives_bytes_index (b sub : Array UInt8) (t u v : Tok) (st : Int) (i : Nat) (h : ((if (Bytes.window b.size (some st) none).2 - (Bytes.window b.size (some st) none).1 < sub.size then none else some ((Bytes.window b.size (some st) none).1.toNat, (Bytes.window b.size (some st) none).2.toNat)).bind fun (lo, hi) => Bytes.find? b sub lo hi) = some i) :
    Gives (Builtin.«bytes.index» ⟨[.bytes b t, .bytes sub u, .int st v], []⟩) (.int i) := by
  refine .of_wp fun M A E s Q hq => ?_
  show wpAny M A (Bytes.searchArgs .bytes "index" ⟨[.bytes b t, .bytes sub u, .int st v], []⟩ >>= _) _ E s
  have e : Bytes.searchArgs .bytes "index" ⟨[.bytes b t, .bytes sub u, .int st v], []⟩ = pure (b, sub, (if (Bytes.window b.size (some st) none).2 - (Bytes.window b.size (some st) none).1 < sub.size then none else some ((Bytes.window b.size (some st) none).1.toNat, (Bytes.window b.size (some st) none).2.toNat))) := by
    show (selfAndSome "bytes.index" "index" 1 3 ⟨[.bytes b t, .bytes sub u, .int st v], []⟩ >>= fun r => _) = _
    rw [some_idx]
    show (Bytes.bound? (some (.int st v)) >>= fun r => _) = _
    rw [bound_int]
    show (Bytes.buffer? "bytes.index" (.bytes sub u) >>= fun r => _) = _
    rw [KBy.buffer_eq]
    rfl
  refine wpAny_bind (wpAny_of_eq e ?_)
  have h' : ((if (Bytes.window b.size (some st) none).2 - (Bytes.window b.size (some st) none).1 < sub.size then none else some ((Bytes.window b.size (some st) none).1.toNat, (Bytes.window b.size (some st) none).2.toNat)).bind fun (x : Nat × Nat) => match x with | (lo, hi) => if false = true then Bytes.rfind? b sub lo hi else Bytes.find? b sub lo hi) = some i := by simpa using h
  dsimp only
  rw [h']
  exact wpAny_bind (wpAny_mkInt (wpAny_pure ⟨_, rfl, hq⟩))
end
section
open PySem.SeqAt PySem.Builtin
theorem takeQuiet_eq {b : Array UInt8} {t : Tok} : Bytes.takeBufferQuiet? "bytes.join" (.bytes b t) 0 = pure (some (b, none)) := by
  have e : specialOf (.bytes b t) "__buffer__" = pure (some (.builtin "bytes.__buffer__")) := KBy.special_eq KBy.look_buffer
  have h : Bytes.takeBuffer? "bytes.join" (.bytes b t) 0 = pure (some (b, none)) := by
    unfold Bytes.takeBuffer?
    rw [e, KBy.own_buffer]
    show (specialOf (.bytes b t) "__buffer__" >>= fun r => _) = _
    rw [e]
    show (Bytes.buffer? "bytes.join" (.bytes b t) (full := (0 : Int) == Bytes.fullReadOnly) >>= fun r => _) = _
    have : Bytes.buffer? "bytes.join" (.bytes b t) (full := (0 : Int) == Bytes.fullReadOnly) = pure (some b) := by
      have e0 : ((0 : Int) == Bytes.fullReadOnly) = false := by decide +kernel
      rw [e0]; exact KBy.buffer_eq
    rw [this]
    rfl
  unfold Bytes.takeBufferQuiet?
  rw [h]
  rfl
noncomputable def jParts (bs : List (List UInt8)) : Array (Array UInt8) := (bs.map List.toArray).toArray
theorem join_loop {M : Model} {A : Around} {E : Value → Shared → Prop} {items : Array Value} {bs : List (List UInt8)} {s : Shared} {Q : ((Array (Array UInt8)) × (List (Value × Option Value))) → Shared → Prop} (body : Nat → (Array (Array UInt8)) × (List (Value × Option Value)) → Sem (ForInStep ((Array (Array UInt8)) × (List (Value × Option Value)))))
    (hlen : items.size = bs.length)
    (hbody : ∀ (i : Nat) (b : List UInt8) p tk, bs[i]? = some b → ((tk : List (Value × Option Value)).any (fun x => x.1.onHeap) = false) → ∀ (Q : ForInStep ((Array (Array UInt8)) × (List (Value × Option Value))) → Shared → Prop), (∀ v, v.onHeap = false → Q (.yield ⟨p.push b.toArray, tk ++ [(v, none)]⟩) s) → wpAny M A (body i ⟨p, tk⟩) Q E s)
    (h : ∀ tk, (∀ x ∈ tk, x.2 = none) → Q ⟨jParts bs, tk⟩ s) : wpAny M A (forIn [0:items.size] ((#[], []) : (Array (Array UInt8)) × (List (Value × Option Value))) body) Q E s := by
  rw [Std.Legacy.Range.forIn_eq_forIn_range']
  have key : ∀ (n i : Nat) (p : Array (Array UInt8)) (tk : List (Value × Option Value)), i + n = bs.length → p = jParts (bs.take i) → tk.any (fun x => x.1.onHeap) = false → (∀ x ∈ tk, x.2 = none) → wpAny M A (forIn (List.range' i n 1) (⟨p, tk⟩ : (Array (Array UInt8)) × (List (Value × Option Value))) body) Q E s := by
    intro n
    induction n with
    | zero =>
      intro i p tk e1 e2 e3 e4
      subst e2
      have : bs.take i = bs := List.take_of_length_le (by omega)
      rw [this]
      exact wpAny_pure (h tk e4)
    | succ n ih =>
      intro i p tk e1 e2 e3 e4
      have hlt : i < bs.length := by omega
      rw [List.range'_succ, List.forIn_cons]
      refine wpAny_bind (hbody i bs[i] p tk (List.getElem?_eq_getElem hlt) e3 _ fun v hv => ?_)
      refine ih (i + 1) _ _ (by omega) ?_ ?_ ?_
      · subst e2
        unfold jParts
        rw [List.take_add_one, List.getElem?_eq_getElem hlt, Option.toList, List.map_append, List.push_toArray]; rfl
      · rw [List.any_append, e3]; simp [hv]
      · intro x hx
        rcases List.mem_append.mp hx with hx | hx
        · exact e4 x hx
        · rw [List.mem_singleton.mp hx]
  have e : (Std.Legacy.Range.size [:items.size]) = items.size := by simp [Std.Legacy.Range.size]
  rw [e]
  exact key items.size 0 #[] [] (by omega) (by simp [jParts]) rfl (fun x hx => by simp at hx)
theorem join_cut {M : Model} {A : Around} {E : Value → Shared → Prop} {s : Shared} {α : Type} {vs : List Value} {f : Value → Sem α} {g : Array Value → Sem α} {Q : α → Shared → Prop} (h1 : ∀ x, vs = [x] → wpAny M A (f x) Q E s) (h2 : wpAny M A (g vs.toArray) Q E s) :
    wpAny M A (Bytes.joinM.match_1 (fun _ => Sem α) vs.toArray f g) Q E s := by
  rcases vs with _ | ⟨x, _ | ⟨y, r⟩⟩
  · exact h2
  · exact h1 x rfl
  · exact h2
theorem meets_join (sep : Array UInt8) (t : Tok) (l : Addr) (vs : List Value) (bs : List (List UInt8)) :
    Meets (Builtin.«bytes.join» ⟨[.bytes sep t, .ref l], []⟩) (fun A R s => s.heap.IsList l vs.toArray ∧ vs.length = bs.length ∧ (∀ (i : Nat) (x : Value), vs[i]? = some x → ∃ (u : Tok) (b : List UInt8), bs[i]? = some b ∧ x = Value.bytes b.toArray u) ∧ (Bytes.tooLong ((jParts bs).foldl (fun x y => x + y.size) (sep.size * ((jParts bs).size - 1))) = false ∧ (Bytes.joined sep (bs.map List.toArray)).size ≤ 16777216) ∧ ∀ t' k, R (.ok (.ret (.bytes (Bytes.joined sep (bs.map List.toArray)) t'))) { s with toks := k }) := by
  refine .of_wp fun prog w A R s hS => ?_
  refine el_0_5 hS fun hl hlen hv hO374 h => ?_; refine el_0_2 hO374 fun hz hz2 => ?_
  have hT : s.TypeIs (.ref l) "list" := hl.typeIs
  obtain ⟨o, ho, hc, n, hd⟩ := id hl
  have e1 : selfAndOne "bytes.join" ⟨[.bytes sep t, .ref l], []⟩ = pure (.bytes sep t, .ref l) := by kernel_rfl
  show wpAny _ _ (selfAndOne "bytes.join" ⟨[.bytes sep t, .ref l], []⟩ >>= fun r => _) _ _ s
  refine wpAny_bind (wpAny_of_eq e1 ?_)
  show wpAny _ _ (Bytes.joinItems (.ref l) >>= fun r => _) _ _ s
  refine wpAny_bind ?_
  unfold Bytes.joinItems
  refine wpAny_bind (wpAny_typeOf hT ?_)
  refine wpAny_ite (KBc.ite_yes (by rfl) ?_)
  refine wpAny_pure ?_
  show wpAny _ _ (seqItems? (.ref l) >>= fun r => _) _ _ s
  refine wpAny_bind (wpAny_seqItems ho hd ?_)
  dsimp only
  have ptype : ∀ (b : Array UInt8) (u : Tok), typeOf (Value.bytes b u) = pure (.type "bytes") := fun _ _ => rfl
  have one : ∀ (b : List UInt8), Bytes.joined sep [b.toArray] = b.toArray := fun b => by simp [Bytes.joined]
  have leaf : ∀ (parts : Array (Array UInt8)) (tk : List (Value × Option Value)), parts = jParts bs → True := fun _ _ _ => trivial
  refine wpAny_ite (KBc.ite_yes (by rfl) (join_cut (fun x hx => ?_) ?_))
  · subst hx
    refine el_2_2 (hv 0 x rfl) fun u b e1 hE375 => ?_; subst hE375
    obtain ⟨c, hc⟩ := List.length_eq_one_iff.mp hlen.symm
    subst hc
    obtain rfl : b = c := (Option.some.inj e1).symm
    refine wpAny_bind (wpAny_of_eq (ptype _ _) ?_)
    refine wpAny_ite (KBc.ite_yes (by rfl) ?_)
    refine wpAny_bind (wpAny_rule (wpAny_pure ⟨_, rfl, ?_⟩))
    have := h u s.toks
    rw [show List.map List.toArray [b] = [b.toArray] from rfl, one] at this
    exact this
  · 
    refine wpAny_bind (join_loop (bs := bs) _ hlen (fun i b p tk hb ht Q hq => ?_) fun tk hn => ?_)
    · have hx : i < bs.length := (List.getElem?_eq_some_iff.mp hb).1
      refine el_2_2 (hv i _ (List.getElem?_eq_getElem (by rw [hlen]; exact hx))) fun u b' e1 e2 => ?_
      rw [hb] at e1; cases e1
      refine wpAny_bind (wpAny_seqItems ho hd ?_)
      refine wpAny_ite (KBy.ite_no (by rw [Bool.or_eq_true, not_or]; exact ⟨by decide, by rw [ht]; exact Bool.false_ne_true⟩) ?_)
      have e3 : ∀ (a : Array Value) (j : Nat) (v : Value), a[j]? = some v → a.getD j Value.none = v := fun a j v q => by rw [Array.getD_eq_getD_getElem?, q]; rfl
      rw [e3 _ i (Value.bytes b.toArray u) (by rw [List.getElem?_toArray, List.getElem?_eq_getElem (by rw [hlen]; exact hx), e2])]
      refine wpAny_bind (wpAny_holding (wpAny_of_eq takeQuiet_eq ?_))
      refine wpAny_bind (wpAny_seqItems ho hd ?_)
      refine wpAny_ite (KBy.ite_no (by simp) ?_)
      exact wpAny_pure (hq _ rfl)
    · refine wpAny_bind (wpAny_of_eq (a := sep) rfl ?_)
      refine wpAny_ite (KBy.ite_no (ne_true_of_eq_false hz) ?_)
      refine wpAny_bind (wpAny_mkBytes ?_ ?_)
      · refine wpAny_bind (wpAny_holding (wpAny_point ?_))
        have let_go : ∀ (tk : List (Value × Option Value)) (k : List Value) (Q : Unit → Shared → Prop) (s : Shared), (∀ x ∈ tk, x.2 = none) → Q () s → wpAny (model prog w) A.in1 (Bytes.joinLetGo tk k) Q (fun e s' => R (Except.error e) s') s := by
          intro tk
          induction tk with
          | nil => intro k Q s _ h; exact wpAny_pure h
          | cons x r ih =>
            intro k Q s hn h
            obtain ⟨a, b⟩ := x
            have := hn _ (.head _)
            dsimp only at this
            subst this
            show wpAny _ _ (letGo _ _ >>= fun _ => Bytes.joinLetGo r k) _ _ s
            exact wpAny_bind (wpAny_letGo (ih _ _ _ (fun y hy => hn y (.tail _ hy)) h))
        exact wpAny_bind (let_go _ _ _ _ hn (wpAny_pure ⟨_, rfl, h _ _⟩))
      · rw [sizeLine_eq]; exact hz2
noncomputable def joinL (sep : List UInt8) : List (List UInt8) → List UInt8
  | [] => []
  | b :: r => b ++ (r.map (sep ++ ·)).flatten
theorem joined_tail (sep : List UInt8) : ∀ (r : List (List UInt8)) (k : Nat) (acc : Array UInt8), 0 < k → ((r.map List.toArray).zipIdx k).foldl (fun out (x : Array UInt8 × Nat) => (if x.2 > 0 then out ++ sep.toArray else out) ++ x.1) acc = acc ++ ((r.map (sep ++ ·)).flatten).toArray
  | [], k, acc, h => by simp
  | b :: r, k, acc, h => by
    rw [List.map_cons, List.zipIdx_cons, List.foldl_cons, joined_tail sep r (k + 1) _ (Nat.succ_pos _)]
    dsimp only
    rw [if_pos h]
    simp
theorem joined_eq (sep : List UInt8) (bs : List (List UInt8)) : Bytes.joined sep.toArray (bs.map List.toArray) = (joinL sep bs).toArray := by
  cases bs with
  | nil => rfl
  | cons b r =>
    show ((b.toArray :: r.map List.toArray).zipIdx 0).foldl _ #[] = _
    rw [List.zipIdx_cons, List.foldl_cons]
    have := joined_tail sep r (0 + 1) b.toArray (by decide)
    simp only [gt_iff_lt, Nat.lt_irrefl, if_false, Array.empty_append] at this ⊢
    rw [this]
    simp [joinL]
theorem joinL_length (sep : List UInt8) (bs : List (List UInt8)) : (joinL sep bs).length = sep.length * (bs.length - 1) + (bs.map List.length).sum := by
  cases bs with
  | nil => simp [joinL]
  | cons b r =>
    unfold joinL
    rw [List.length_append, List.length_flatten, List.map_map]
    have : ∀ r : List (List UInt8), (r.map (List.length ∘ (sep ++ ·))).sum = sep.length * r.length + (r.map List.length).sum := by
      intro r
      induction r with
      | nil => simp
      | cons a r ih => simp only [List.map_cons, List.sum_cons, ih, Function.comp_apply, List.length_append, List.length_cons, Nat.mul_succ]; omega
    rw [this]
    simp only [List.length_cons, Nat.add_sub_cancel, List.map_cons, List.sum_cons]
    omega
theorem jParts_sum (bs : List (List UInt8)) (c : Nat) : (jParts bs).foldl (fun x y => x + y.size) c = c + (bs.map List.length).sum := by
  unfold jParts
  rw [List.foldl_toArray]
  induction bs generalizing c with
  | nil => rfl
  | cons b r ih => rw [List.map_cons, List.foldl_cons, ih]; simp; omega
theorem slot_bytes_join : Slot "bytes" "join" "bytes.join" :=
  .of (owner := "bytes") (n := "join") (by rw [typeLookup_type, builtinLookup_eq_fast]; kernel_rfl) (by decide +kernel) (by decide +kernel) (by decide +kernel)
    (by first | exact .inl (by decide +kernel) | exact .inr (by decide +kernel)) (by rw [isSubtype_type]; kernel_rfl)
theorem type_bytes_join : typeOf (.builtin "bytes.join") = pure (.type "method_descriptor") := by show builtinType _ = _; rw [builtinType_eq_fast]; kernel_rfl
theorem entry_bytes_join : entryFor table "bytes.join" = some Builtin.«bytes.join» := entryFor_of_tree (by kernel_rfl)
theorem args_bytes_join_2 (a b : Value) : argsOk "bytes.join" ⟨[a, b], []⟩ := by
  unfold argsOk; rw [signature?_of (id := "bytes.join") (n := ['n', 'i', 'o', 'j']) (o := ['s', 'e', 't', 'y', 'b']) (by kernel_rfl) FB.owner_bytes]; kernel_rfl
section
variable {W : Wd} {C : Ctx} {B : Base} {ρ : Rho} {σ : St} {s : Shared} {K : KA} {X : KX}
theorem byts_get {h : Heap} {l : List AV} {xs : List (List UInt8)} {vs : List Value} (e : toByts l = some xs) (d : DenL ρ h l vs) : vs.length = xs.length ∧ ∀ (i : Nat) (x : Value), vs[i]? = some x → ∃ (u : Tok) (b : List UInt8), xs[i]? = some b ∧ x = Value.bytes b.toArray u := by
  obtain rfl := toByts_eq e
  clear e
  induction xs generalizing vs with
  | nil => obtain rfl := d.iNil; exact ⟨rfl, fun i x h => (nomatch h)⟩
  | cons z xs ih =>
    refine el_2_3 (DenL.iCons d) fun v us hv dA r => ?_; subst hv
    refine el_1_1 dA.iByt fun _ hv => ?_; subst hv
    refine el_0_2 (ih r) fun h1 h2 => ?_
    refine ⟨congrArg (· + 1) h1, fun i x hx => ?_⟩
    cases i with
    | zero => cases hx; exact ⟨_, z, rfl, rfl⟩
    | succ i => exact h2 i x hx
theorem JC_join {sep : List UInt8} {k : Nat} {l : List AV} {xs : List (List UInt8)} (ho : σ.objs[k]? = some (.list l)) (e : toByts l = some xs) (hz : (joinL sep xs).length ≤ 16777216) (h : K (.byt (joinL sep xs)) σ) : JCallV W C (.builtin "bytes.join") [.byt sep, .obj k] [] [] K X σ := fun B ρ s vs us R d1 d2 => by
  cases d1 with
  | cons d r => cases r with
    | cons da r =>
      cases r; obtain rfl := d2.iNil; refine el_1_1 d.iByt fun _ hE378 => ?_; subst hE378
      cases da with
      | @obj _ own hown =>
        refine el_1_2 (R.objs k own _ hown ho) fun vs hlp hd => ?_
        have hl := hlp.isList
        obtain ⟨h1, h2⟩ := byts_get e hd
        refine call_meets slot_bytes_join (typeIs_bytes _ _ _) entry_bytes_join (args_bytes_join_2 _ _) (meets_join _ _ _ vs xs) ⟨hl, h1, h2, ⟨?_, ?_⟩, fun t' k => ?_⟩
        · rw [jParts_sum]
          refine KBy.tooLong_not ?_
          rw [joinL_length] at hz
          simpa [jParts] using hz
        · rw [joined_eq, List.size_toArray]; exact hz
        · rw [joined_eq]
          exact .tok (a := .byt _) R (.byt _ _) h
end
end
section
open PySem.SeqAt PySem.Builtin
noncomputable def modeOf (l : List UInt8) : Int := l.foldl (fun m c => 8 * m + (c.toNat : Int) - 48) 0
noncomputable def octal (l : List UInt8) : Bool := !l.isEmpty && l.all fun c => decide (48 ≤ c.toNat) && decide (c.toNat ≤ 55)
theorem octal_digits (l : List UInt8) (h : ∀ c ∈ l, 48 ≤ c.toNat ∧ c.toNat ≤ 55) (acc : Array Nat) (b : Bool) (hb : l ≠ [] ∨ b = true) : ((l.map (·.toNat)).foldlM (NumText.step 8) (acc, b)) = some (acc ++ (l.map fun c => c.toNat - 48).toArray, true) := by
  induction l generalizing acc b with
  | nil => rcases hb with hb | hb; exact absurd rfl hb; subst hb; simp
  | cons c r ih =>
    refine el_0_2 (h c (.head _)) fun h1 h2 => ?_
    rw [List.map_cons, List.foldlM_cons]
    have e : NumText.step 8 (acc, b) c.toNat = some (acc.push (c.toNat - 48), true) := by
      unfold NumText.step NumText.digit?
      have q1 : (c.toNat == 95) = false := by rw [beq_eq_false_iff_ne]; omega
      have q2 : (decide (48 ≤ c.toNat) && decide (c.toNat ≤ 57)) = true := by simp; omega
      rw [q1, q2]
      have q3 : c.toNat - 48 < 8 := by omega
      simp [q3]
    rw [e]
    show List.foldlM _ (acc.push (c.toNat - 48), true) _ = _
    rw [ih (fun x hx => h x (.tail _ hx)) _ _ (.inr rfl)]
    simp
theorem octal_fold (l : List UInt8) (h : ∀ c ∈ l, 48 ≤ c.toNat ∧ c.toNat ≤ 55) (m : Nat) : (((l.map fun c => c.toNat - 48).foldl (fun acc d => acc * 8 + d) m : Nat) : Int) = l.foldl (fun m c => 8 * m + (c.toNat : Int) - 48) (m : Int) := by
  induction l generalizing m with
  | nil => rfl
  | cons c r ih =>
    refine el_0_2 (h c (.head _)) fun h1 h2 => ?_
    rw [List.map_cons, List.foldl_cons, List.foldl_cons, ih (fun x hx => h x (.tail _ hx))]
    congr 1
    omega
theorem dropWhile_self {p : Nat → Bool} : ∀ {l : List Nat}, (∀ x ∈ l, p x = false) → l.dropWhile p = l
  | [], _ => rfl
  | x :: l, h => by rw [List.dropWhile_cons, h x (.head _)]; rfl
theorem read_octal {l : List UInt8} (h : octal l = true) (limit : Nat) : (int_private% "readNumeral") limit 8 (l.map (·.toNat)) = (int_private% "Numeral.value") (modeOf l) := by
  unfold octal at h
  rw [Bool.and_eq_true, List.all_eq_true] at h
  refine el_0_2 h fun hne hall => ?_
  have hd : ∀ c ∈ l, 48 ≤ c.toNat ∧ c.toNat ≤ 55 := fun c hc => by have := hall c hc; simpa using this
  have hnb : ∀ x ∈ l.map (·.toNat), NumText.blank x = false := fun x hx => by
    refine el_1_2 (List.mem_map.mp hx) fun c hc hE385 => ?_; subst hE385
    refine el_0_2 (hd c hc) fun h1 h2 => ?_
    unfold NumText.blank
    have q1 : (c.toNat == 32) = false := by rw [beq_eq_false_iff_ne]; omega
    have q2 : (decide (c.toNat ≤ 13)) = false := by simp; omega
    rw [q1, q2]; simp
  rw [NumText.readNumeral_eq, dropWhile_self hnb]
  have hs : NumText.sign (l.map (·.toNat)) = (false, l.map (·.toNat)) := by
    cases l with
    | nil => rfl
    | cons c r =>
      refine el_0_2 (hd c (.head _)) fun h1 h2 => ?_
      rw [List.map_cons]
      unfold NumText.sign
      split
      · rename_i q; injection q with q; omega
      · rename_i q; injection q with q; omega
      · rfl
  rw [hs]
  have hb : NumText.based 8 (l.map (·.toNat)) = (8, false, l.map (·.toNat)) := by
    have hp : NumText.prefix? (l.map (·.toNat)) = none := by
      unfold NumText.prefix?
      split
      · rename_i a b c q
        cases l with
        | nil => simp at q
        | cons c1 r =>
          cases r with
          | nil => simp at q
          | cons c2 r =>
            refine el_0_2 (hd c2 (.tail _ (.head _))) fun h1 h2 => ?_
            simp only [List.map_cons] at q
            injection q with q1 q2
            injection q2 with q2 q3
            subst q2
            have e1 : ∀ k, 55 < k → (c2.toNat == k) = false := fun k hk => by rw [beq_eq_false_iff_ne]; omega
            simp [e1]
      · rfl
    unfold NumText.based
    rw [hp]; rfl
  dsimp only
  rw [hb]
  dsimp only
  rw [dropWhile_self (l := (l.map (·.toNat)).reverse) (fun x hx => hnb x (List.mem_reverse.mp hx)), List.reverse_reverse]
  have hdg : NumText.digits? 8 (l.map (·.toNat)) = some (l.map fun c => c.toNat - 48).toArray := by
    unfold NumText.digits?
    rw [octal_digits l hd #[] false (.inl (by cases l; simp at hne; simp))]
    simp
  rw [hdg]
  unfold NumText.judge
  have e := octal_fold l hd 0
  dsimp only
  rw [if_neg (by simp), if_neg (by simp)]
  have ef : (l.map fun c => c.toNat - 48).toArray.foldl (fun acc d => acc * 8 + d) 0 = (l.map fun c => c.toNat - 48).foldl (fun acc d => acc * 8 + d) 0 := by rw [List.foldl_toArray]
  rw [ef]
  simp only [Bool.false_and, Bool.false_eq_true, if_false]
  congr 1
structure Hid2 (p : Prop) : Prop where
  out : p
theorem wp_text8 {M : Model} {A : Around} {E : Value → Shared → Prop} {s : Shared} {Q : Value → Shared → Prop} {v : Value} {text : List Nat} {n : Int}
    (hs : (text.takeWhile (· != 0)).length ≤ 640) (hr : (int_private% "readNumeral") 0 8 (text.takeWhile (· != 0)) = (int_private% "Numeral.value") n)
    (ha : ((text.takeWhile (· != 0)).length == text.length) = true) (h : Q (.int n s.toks) { s with toks := s.toks + 1 }) :
    wpAny M A ((int_private% "intFromText") v text 8) Q E s := by
  obtain ⟨hp, g, d, tk, os⟩ := s
  repeat (any_goals (first
    | assumption
    | (with_reducible refine wpAny_ite_true (decide_eq_true hs) ?_)
    | (with_reducible refine wpAny_ite_true (decide_eq_true ha) ?_)
    | wp_step))
  all_goals (try rw [hr])
  all_goals (try dsimp only)
  repeat (any_goals (first
    | assumption
    | (with_reducible refine wpAny_ite_true (decide_eq_true hs) ?_)
    | (with_reducible refine wpAny_ite_true (decide_eq_true ha) ?_)
    | wp_step))
theorem typeCall_int_2 (a b : Value) : checkTypeCall "int" ⟨[a, b], []⟩ = pure () := by kernel_rfl
theorem newCall_int_2 (a b : Value) : checkBuiltinCall "int.__new__" ⟨[.type "int", a, b], []⟩ = pure () := by kernel_rfl
theorem args_object_init_3 (o a b : Value) : argsOk "object.__init__" ⟨[o, a, b], []⟩ := by unfold argsOk; kernel_rfl
theorem takeWhile_self {p : Nat → Bool} : ∀ {l : List Nat}, (∀ x ∈ l, p x = true) → l.takeWhile p = l
  | [], _ => rfl
  | x :: l, h => by rw [List.takeWhile_cons, h x (.head _)]; simp only [if_true]; rw [takeWhile_self fun y hy => h y (.tail _ hy)]
set_option maxHeartbeats 4000000 in
theorem gives_octal {l : List UInt8} {u t : Tok} (hl : l.length ≤ 640) (ho : octal l = true) : Gives (Builtin.«int.__new__» ⟨[.type "int", .bytes l.toArray u, .int 8 t], []⟩) (.int (modeOf l)) :=
  .of_wp fun M A E s Q h => by
    obtain ⟨hp, g, d, tk, os⟩ := s
    have f1 := F.conv_sub_int
    have f2 := F.madeHere_int
    have f6 : typeOf (.bytes l.toArray u) = pure (.type "bytes") := rfl
    have hd : ∀ c ∈ l, 48 ≤ c.toNat := fun c hc => by
      unfold octal at ho
      rw [Bool.and_eq_true, List.all_eq_true] at ho
      have := ho.2 c hc
      simp at this; exact this.1
    have ht : (l.toArray.toList.map (·.toNat)).takeWhile (· != 0) = l.map (·.toNat) := by
      rw [List.toList_toArray]
      refine takeWhile_self fun x hx => ?_
      refine el_1_2 (List.mem_map.mp hx) fun c hc hE386 => ?_; subst hE386
      have := hd c hc
      rw [bne_iff_ne]; omega
    have hk := Hid2.mk (And.intro (show ((l.toArray.toList.map (·.toNat)).takeWhile (· != 0)).length ≤ 640 by rw [ht]; simpa using hl) (And.intro (show (int_private% "readNumeral") 0 8 ((l.toArray.toList.map (·.toNat)).takeWhile (· != 0)) = (int_private% "Numeral.value") (modeOf l) by rw [ht]; exact read_octal ho 0) (show (((l.toArray.toList.map (·.toNat)).takeWhile (· != 0)).length == (l.toArray.toList.map (·.toNat)).length) = true by rw [ht]; simp)))
    clear ht hd hl ho
    repeat (any_goals (first
      | assumption
      | ((with_reducible show wpAny _ _ ((int_private% "intFromText") _ _ _) _ _ _); refine wp_text8 hk.out.1 hk.out.2.1 hk.out.2.2 ?_)
      | wp_step))
    all_goals first | exact ⟨_, rfl, h⟩ | skip
end
section
open PySem.SeqAt PySem.Builtin
section
variable {W : Wd} {C : Ctx} {B : Base} {ρ : Rho} {σ : St} {s : Shared} {K : KA} {X : KX}
theorem JC_int8 {l : List UInt8} (hl : l.length ≤ 640) (ho : octal l = true) (h : K (.int (modeOf l)) σ) : JCallV W C (.type "int") [.byt l, .int 8] [] [] K X σ := fun B ρ s vs us R d1 d2 => by
  cases d1 with
  | cons d r => cases r with
    | cons da r =>
      cases r; obtain rfl := d2.iNil; refine el_1_1 d.iByt fun _ hE415 => ?_; subst hE415; refine el_1_1 da.iInt fun _ hE416 => ?_; subst hE416
      exact callType_new F.called_int F.newNe_int (typeCall_int_2 _ _) (newCall_int_2 _ _) (fun obj => args_object_init_3 obj _ _) F.entry_int_new (gives_octal hl ho).meets (show (Made.int _).post _ s from ⟨rfl, .tok (a := .int _) R (.int _ _) h⟩)
theorem GetM_byt {l : List UInt8} {name : Str} {id : String} (slot : Slot "bytes" name id) (ty : typeOf (.builtin id) = pure (.type "method_descriptor")) : GetM W C (.byt l) name (.builtin id) [.byt l] σ := fun B ρ s v pl E Q R d h => by
  have h0 := h [v] s.toks (.cons d .nil)
  refine el_1_1 d.iByt fun _ hE417 => ?_; subst hE417
  exact KBd.method_of _ (typeIs_bytes _ _ _) slot ty (fun _ e => nomatch e) h0
theorem GetM_append {k : Nat} {l : List AV} (ho : σ.objs[k]? = some (.list l)) : GetM W C (.obj k) "append" (.builtin "list.append") [.obj k] σ := fun B ρ s v pl E Q R d h => by
  have h0 := h [v] s.toks (.cons d .nil)
  cases d with
  | @obj _ own hown =>
    refine el_1_2 (R.objs k own _ hown ho) fun vs hO418 hd => ?_; refine el_1_1 hO418 fun n hl => ?_
    exact Calls.getMethod_list_append hl rfl rfl h0
theorem some_starts (a b : Value) : selfAndSome "bytes.startswith" "startswith" 1 3 ⟨[a, b], []⟩ = pure (a, [b]) := by kernel_rfl
noncomputable def preOf (b sub : List UInt8) : Bool := decide (b.take sub.length = sub)
theorem sub_bytes_tuple : isSubtype (.type "bytes") (.type "tuple") = pure false := by rw [isSubtype_type]; kernel_rfl
theorem gives_bytes_starts (b sub : List UInt8) (t u : Tok) : Gives (Builtin.«bytes.startswith» ⟨[.bytes b.toArray t, .bytes sub.toArray u], []⟩) (.val (.bool (preOf b sub))) := by
  refine .of_wp fun M A E s Q hq => ?_
  show wpAny M A (selfAndSome "bytes.startswith" "startswith" 1 3 ⟨[.bytes b.toArray t, .bytes sub.toArray u], []⟩ >>= fun r => _) _ E s
  refine wpAny_bind (wpAny_of_eq (some_starts _ _) ?_)
  refine wpAny_bind (wpAny_of_eq (a := none) rfl ?_)
  refine wpAny_bind (wpAny_of_eq (a := none) rfl ?_)
  refine wpAny_bind (wpAny_of_eq (a := b.toArray) rfl ?_)
  refine wpAny_bind (wpAny_isInstance (typeIs_bytes s _ u) sub_bytes_tuple ?_)
  refine wpAny_ite (KBy.ite_no Bool.false_ne_true ?_)
  refine wpAny_bind (wpAny_of_eq KBy.buffer_eq ?_)
  refine wpAny_pure ⟨_, rfl, ?_⟩
  have e : (if (Bytes.window b.toArray.size none none).2 - (Bytes.window b.toArray.size none none).1 < (sub.toArray.size : Int) then false
      else if false = true then b.toArray.extract ((Bytes.window b.toArray.size none none).2.toNat - sub.toArray.size) (Bytes.window b.toArray.size none none).2.toNat == sub.toArray
      else b.toArray.extract (Bytes.window b.toArray.size none none).1.toNat ((Bytes.window b.toArray.size none none).1.toNat + sub.toArray.size) == sub.toArray) = preOf b sub := by
    have ew : Bytes.window b.toArray.size none none = (0, (b.length : Int)) := by
      unfold Bytes.window
      have : ¬ ((b.length : Int) < 0) := by omega
      simp [this]
    rw [ew]
    simp only [List.size_toArray, Bool.false_eq_true, if_false, Int.toNat_zero, Nat.zero_add, Int.sub_zero]
    unfold preOf
    split
    · rename_i hlt
      symm
      rw [decide_eq_false_iff_not]
      intro e
      have := congrArg List.length e
      rw [List.length_take] at this
      omega
    · rw [List.extract_toArray]
      simp only [List.drop_zero, Nat.sub_zero, List.extract_eq_take_drop]
      rw [Bool.eq_iff_iff]
      simp
  rw [← e] at hq
  exact hq
theorem JC_startswith {b sub : List UInt8} (h : K (.bool (preOf b sub)) σ) : JCallV W C (.builtin "bytes.startswith") [.byt b, .byt sub] [] [] K X σ := fun B ρ s vs us R d1 d2 => by
  cases d1 with
  | cons d r => cases r with
    | cons da r =>
      cases r; obtain rfl := d2.iNil; refine el_1_1 d.iByt fun _ hE419 => ?_; subst hE419; refine el_1_1 da.iByt fun _ hE420 => ?_; subst hE420
      exact call_gives FB.slot_bytes_startswith (typeIs_bytes s _ _) FB.entry_bytes_startswith (FB.args_bytes_startswith_2 _ _) (gives_bytes_starts _ _ _ _) (.now (a := .bool _) R (.bool _) h)
noncomputable def findB (b sub : List UInt8) (st : Int) : Option Nat := ((if (Bytes.window b.length (some st) none).2 - (Bytes.window b.length (some st) none).1 < sub.length then none else some ((Bytes.window b.length (some st) none).1.toNat, (Bytes.window b.length (some st) none).2.toNat)).bind fun (lo, hi) => Bytes.find? b.toArray sub.toArray lo hi)
theorem JC_index {b sub : List UInt8} {st : Int} {i : Nat} (hi : findB b sub st = some i) (h : K (.int i) σ) : JCallV W C (.builtin "bytes.index") [.byt b, .byt sub, .int st] [] [] K X σ := fun B ρ s vs us R d1 d2 => by
  cases d1 with
  | cons d r => cases r with
    | cons da r => cases r with
      | cons db r =>
        cases r; obtain rfl := d2.iNil; refine el_1_1 d.iByt fun _ hE421 => ?_; subst hE421; refine el_1_1 da.iByt fun _ hE422 => ?_; subst hE422; refine el_1_1 db.iInt fun _ hE423 => ?_; subst hE423
        exact call_gives slot_bytes_index (typeIs_bytes s _ _) entry_bytes_index (args_bytes_index_3 _ _ _) (gives_bytes_index _ _ _ _ _ _ i (by unfold findB at hi; simpa using hi)) (.tok (a := .int i) R (.int _ _) h)
theorem noIndex_bytes : typeLookup (.type "bytes") "__index__" = pure none := by rw [typeLookup_type, builtinLookup_eq_fast]; kernel_rfl
theorem nameCut_bytes (b : Array UInt8) (t : Tok) : typeNameOfCut 200 (.bytes b t) = pure "bytes" := by kernel_rfl
theorem asIndex_bytes {prog : Program} {w : World} (b : Array UInt8) (t : Tok) {A : Around} {E : Value → Shared → Prop} {Q : Except Value Int → Shared → Prop} (hh : A.handled = none) (h : ∀ e h' tk, (∀ a o, s.heap.get? a = some o → h'.get? a = some o) → Q (.error e) { s with heap := h', toks := tk }) : wpAny (model prog w) A ((asIndex (.bytes b t)).attempt) Q E s := by
  refine wpAny_attempt ?_
  unfold asIndex
  refine wpAny_bind (wpAny_of_eq (a := none) rfl ?_)
  refine wpAny_bind (wpAny_callSpecial?_none (typeIs_bytes s b t) noIndex_bytes ?_)
  dsimp only
  refine wpAny_bind (wpAny_of_eq (nameCut_bytes b t) ?_)
  exact wpAny_raiseErrorMade plainExc_TypeError hh (fun h' tk e hn => h _ _ _ hn.keeps) (by decide +kernel)
theorem slot_contains_arg (a b : Value) : slotArgs "__contains__" 1 ⟨[a, b], []⟩ = pure (a, [b]) := by kernel_rfl
noncomputable def subOf (sub b : List UInt8) : Bool := (Bytes.find? b.toArray sub.toArray 0 b.length).isSome
theorem meets_contains (b sub : List UInt8) (t u : Tok) : Meets (Builtin.«bytes.__contains__» ⟨[.bytes b.toArray t, .bytes sub.toArray u], []⟩) (fun A R s => A.handled = none ∧ ∀ h' tk, (∀ a o, s.heap.get? a = some o → h'.get? a = some o) → R (.ok (.ret (.bool (subOf sub b)))) { s with heap := h', toks := tk }) := by
  refine .of_wp fun prog w A R s hS => ?_
  refine el_0_2 hS fun hh h => ?_
  show wpAny _ _ (slotArgs "__contains__" 1 ⟨[.bytes b.toArray t, .bytes sub.toArray u], []⟩ >>= fun r => _) _ _ s
  refine wpAny_bind (wpAny_of_eq (slot_contains_arg _ _) ?_)
  refine wpAny_bind ?_
  unfold Bytes.containsIn
  refine wpAny_bind (asIndex_bytes _ _ hh fun e h' tk hk => ?_)
  refine wpAny_bind (wpAny_of_eq KBy.buffer_eq ?_)
  refine wpAny_bind (wpAny_of_eq KBy.buffer_eq ?_)
  refine wpAny_bind (wpAny_rule (wpAny_pure ?_))
  refine wpAny_pure ⟨_, rfl, ?_⟩
  have := h h' tk hk
  unfold subOf at this
  simpa using this
theorem Op2_in_bytes {sub b : List UInt8} (hh : C.A.handled = none) (h : K (.bool (subOf sub b)) σ) : Op2 W C (compareOp .In) (.byt sub) (.byt b) K X σ := fun B ρ s v u R d1 d2 => by
  refine el_1_1 d1.iByt fun _ hE424 => ?_; subst hE424; refine el_1_1 d2.iByt fun _ hE425 => ?_; subst hE425
  refine PySem.SeqRoads2.in_meets (typeIs_bytes _ _ _) FB.slot_bytes_contains FB.entry_bytes_contains (FB.args_bytes_contains_2 _ _) (meets_contains _ _ _ _) ⟨hh, fun h' tk hk => ?_⟩
  have R2 : Rep W C B ρ σ { s with heap := h', toks := tk } := R.grow hk
  exact ⟨_, rfl, ρ, .bool _, σ, ⟨.refl _, .ofExt hk⟩, R2, .bool _, h⟩
noncomputable def octs (l : List Int) : List UInt8 := l.map fun n => n.toNat.toUInt8
theorem ints_den {h : Heap} {l : List AV} {is : List Int} {vs : List Value} (e : toInts l = some is) (d : DenL ρ h l vs) : IntsAre vs is := by
  obtain rfl := toInts_eq e
  clear e
  induction is generalizing vs with
  | nil => obtain rfl := d.iNil; exact .nil
  | cons z xs ih =>
    refine el_2_3 (DenL.iCons d) fun v us hv dA r => ?_; subst hv
    refine el_1_1 dA.iInt fun _ hv => ?_; subst hv
    exact .cons _ _ (ih r)
theorem JC_bytes {k : Nat} {l : List AV} {is : List Int} (hh : C.A.handled = none) (ho : σ.objs[k]? = some (.list l)) (e : toInts l = some is) (hr : ∀ n ∈ is, 0 ≤ n ∧ n < 256) (hz : is.length ≤ 16777216) (h : K (.byt (octs is)) σ) : JCallV W C (.type "bytes") [.obj k] [] [] K X σ := fun B ρ s vs us R d1 d2 => by
  cases d1 with
  | cons d r =>
    cases r; obtain rfl := d2.iNil
    cases d with
    | @obj _ own hown =>
      refine el_1_2 (R.objs k own _ hown ho) fun vs hlp hd => ?_
      have hi := ints_den e hd
      refine call_bytes_ints hlp.isList hi hr (by rw [hi.length, sizeLine_eq]; exact hz) hh fun h' t k hk => ?_
      have R2 : Rep W C B ρ σ { s with heap := h', toks := k } := R.grow hk
      exact ⟨ρ, .byt (octs is), σ, ⟨.refl _, .ofExt hk⟩, R2, .byt _ _, h⟩
end
end
section
open PySem.SeqAt PySem.Builtin
noncomputable abbrev BK (W : Wd) := bytesKind W.prog W.w
noncomputable def storedA (kvs : List (List UInt8 × AV)) (k : List UInt8) (a : AV) : List (List UInt8 × AV) :=
  if kvs.any (fun p => decide (p.1 = k)) then kvs.map (fun p => if p.1 = k then (p.1, a) else p) else kvs ++ [(k, a)]
noncomputable def valA (kvs : List (List UInt8 × AV)) (k : List UInt8) : Option AV := (kvs.find? fun p => p.1 = k).map (·.2)
theorem any_zip (k : List UInt8) {kvs : List (List UInt8 × AV)} : ∀ {vs : List Value}, vs.length = kvs.length → ((kvs.map (·.1)).zip vs).any (fun p => decide (p.1 = k)) = kvs.any (fun p => decide (p.1 = k)) := by
  induction kvs with
  | nil => intro vs h; cases vs <;> rfl
  | cons p r ih => intro vs h; cases vs with
    | nil => cases h
    | cons v vs => simp only [List.map_cons, List.zip_cons_cons, List.any_cons, ih (Nat.succ.inj h)]
theorem stored_zip {ρ : Rho} {h : Heap} (k : List UInt8) {a : AV} {v : Value} (d : DenA ρ h a v) : ∀ {kvs : List (List UInt8 × AV)} {vs : List Value}, DenL ρ h (kvs.map (·.2)) vs →
    ∃ vs', DenL ρ h ((storedA kvs k a).map (·.2)) vs' ∧ stored ((kvs.map (·.1)).zip vs) k v = ((storedA kvs k a).map (·.1)).zip vs' := by
  intro kvs vs dl
  have hlen : vs.length = kvs.length := by have := dl.length; simpa using this
  by_cases hany : kvs.any (fun p => decide (p.1 = k)) = true
  · refine ⟨(List.zip kvs vs).map (fun p => if p.1.1 = k then v else p.2), ?_, ?_⟩
    · unfold storedA
      rw [if_pos hany]
      clear hany
      induction kvs generalizing vs with
      | nil => obtain rfl := dl.iNil; exact .nil
      | cons p r ih =>
        cases dl with
        | cons d1 d2 =>
          simp only [List.map_cons, List.zip_cons_cons]
          refine .cons ?_ (ih d2 (by simpa using hlen))
          by_cases q : p.1 = k
          · simp only [q, if_true]; exact d
          · simp only [q, if_false]; exact d1
    · unfold stored storedA
      rw [any_zip k hlen, if_pos hany, if_pos hany]
      clear hany dl
      induction kvs generalizing vs with
      | nil => simp
      | cons p r ih =>
        cases vs with
        | nil => simp at hlen
        | cons u us =>
          simp only [List.map_cons, List.zip_cons_cons]
          rw [ih (by simpa using hlen)]
          by_cases q : p.1 = k <;> simp [q]
  · refine ⟨vs ++ [v], ?_, ?_⟩
    · unfold storedA
      rw [if_neg hany, List.map_append]
      exact dl.append (.cons d .nil)
    · unfold stored storedA
      rw [any_zip k hlen, if_neg hany, if_neg hany, List.map_append, List.zip_append (by simp [hlen])]
      rfl
theorem valA_zip {ρ : Rho} {h : Heap} (k : List UInt8) {kvs : List (List UInt8 × AV)} : ∀ {vs : List Value}, DenL ρ h (kvs.map (·.2)) vs →
    (∀ a, valA kvs k = some a → ∃ v, valueAt ((kvs.map (·.1)).zip vs) k = some v ∧ DenA ρ h a v) ∧ (valueAt ((kvs.map (·.1)).zip vs) k).isSome = (valA kvs k).isSome := by
  induction kvs with
  | nil => intro vs d; obtain rfl := d.iNil; exact ⟨fun a e => by simp [valA] at e, rfl⟩
  | cons p r ih =>
    intro vs d
    refine el_2_3 (DenL.iCons d) fun v us hv d1 d2 => ?_; subst hv
    refine el_0_2 (ih d2) fun h1 h2 => ?_
    unfold valA valueAt at h1 h2 ⊢
    simp only [List.map_cons, List.zip_cons_cons, List.find?_cons]
    by_cases q : p.1 = k
    · simp only [q, decide_true]
      exact ⟨fun a e => by cases e; exact ⟨_, rfl, d1⟩, rfl⟩
    · simp only [q, decide_false]
      exact ⟨h1, h2⟩
theorem isByt_key (W : Wd) (l : List UInt8) (t : Tok) : (BK W).is l (.bytes l.toArray t) = true := by show (l.toArray.toList == l) = true; simp
section
variable {W : Wd} {C : Ctx} {B : Base} {ρ ρ' : Rho} {σ σ' : St} {s s' : Shared} {K : KA} {X : KX} {k : Nat} {kvs : List (List UInt8 × AV)} {l : List UInt8} {a : AV}
theorem Rep.notSys {K₀ : Frag} (R : Rep W C B ρ σ s) (T : Tops W K₀) : (s.heap.objs.size == sysModules) = false := by
  refine el_4_2 T.g fun mg o es ep ho _ => ?_
  have := Heap.lt_size (R.top _ _ ho)
  rw [beq_eq_false_iff_ne]
  unfold sysModules
  have e : mainGlobals = 3 := rfl
  rw [e] at this
  intro q
  rw [q] at this
  exact absurd this (by decide)
theorem Rep.newDict {K₀ : Frag} (R : Rep W C B ρ σ s) (T : Tops W K₀) {tk : Nat} :
    Rep W C B (ρ ++ [⟨s.heap.objs.size, [], []⟩]) { σ with objs := σ.objs ++ [.dict [] 0] } { s with heap := s.heap.push { cls := .type "dict", data := .dict #[] }, toks := tk } ∧ Ext ρ s (ρ ++ [⟨s.heap.objs.size, [], []⟩]) { s with heap := s.heap.push { cls := .type "dict", data := .dict #[] }, toks := tk } ∧ DenA (ρ ++ [⟨s.heap.objs.size, [], []⟩]) (s.heap.push { cls := .type "dict", data := .dict #[] }) (.obj σ.objs.length) (.ref s.heap.objs.size) := by
  have hl := Heap.get?_push_size s.heap (o := { cls := .type "dict", data := .dict #[] }) rfl
  have hnone : s.heap.get? s.heap.objs.size = none := by
    cases q : s.heap.get? s.heap.objs.size with
    | none => rfl
    | some o' => exact absurd (Heap.lt_size q) (Nat.lt_irrefl _)
  obtain ⟨R1, e1⟩ := R.addObj (own := ⟨s.heap.objs.size, [], []⟩) (o' := .dict [] 0) (h' := s.heap.push { cls := .type "dict", data := .dict #[] }) rfl (fun b x e => Heap.get?_push_of_some _ e)
    (fun a ha => by rw [List.mem_singleton.mp ha]; exact ⟨hnone, _, hl⟩) (List.pairwise_singleton _ _) (fun hz => ⟨R.notSys T, [], Heap.DictOf.new s.heap, .nil⟩) tk
  refine ⟨R1, e1, ?_⟩
  rw [← R.len]
  exact .obj (o := ⟨s.heap.objs.size, [], []⟩) (by simp)
theorem J_DictNil {K₀ : Frag} (T : Tops W K₀) {pos : Pos} (h : K (.obj σ.objs.length) { σ with objs := σ.objs ++ [.dict [] 0] }) : J W C (.Dict [] [] pos) K X σ := fun B ρ s R => by
  show wpAny _ _ (do standAt pos; newDict) _ _ s
  refine wpAny_bind (wpAny_standAt ?_)
  refine wpAny_newObj_type ?_
  refine el_0_3 (R.newDict T (tk := s.toks)) fun R1 e1 d1 => ?_
  exact ⟨_, _, _, e1, R1, d1, h⟩
theorem Rep.dictStored (R : Rep W C B ρ σ s) {own : Own} (hown : ρ[k]? = some own) (ho : σ.objs[k]? = some (.dict kvs 0)) {v : Value} (d : DenA ρ s.heap a v) {h' : Heap} {vs : List Value} (hs : (own.a == sysModules) = false)
    (hd : s.heap.DictOf (BK W) own.a ((kvs.map (·.1)).zip vs)) (hv : DenL ρ s.heap (kvs.map (·.2)) vs) (hd' : h'.DictOf (BK W) own.a (stored ((kvs.map (·.1)).zip vs) l v)) (hsb : Heap.SameBut own.a s.heap h') (tk : Nat) :
    Rep W C B ρ { σ with objs := σ.objs.set k (.dict (storedA kvs l a) 0) } { s with heap := h', toks := tk } ∧ Ext ρ s ρ { s with heap := h', toks := tk } := by
  refine el_3_4 (id hd) fun o es ep q1 q2 q3 _ => ?_
  refine el_3_2 (id hd') fun o' _ _ q1' _ => ?_
  refine R.setObj (o' := .dict (storedA kvs l a) 0) (h' := h') hown (.head _) q1 (fun _ _ q => by rw [q3] at q; cases q) hsb.extBut ⟨o', q1'⟩ (fun hz => ?_) tk
  refine el_1_2 (stored_zip l d hv) fun vs' e1 e2 => ?_
  exact ⟨hs, vs', e2 ▸ hd', e1.mono hz (.refl _)⟩
noncomputable abbrev OpI (W : Wd) (C : Ctx) (o i a : AV) (K : St → Prop) (X : KX) (σ : St) : Prop :=
  ∀ B ρ s ov iv v, Rep W C B ρ σ s → DenA ρ s.heap o ov → DenA ρ s.heap i iv → DenA ρ s.heap a v → wpAny (model W.prog W.w) C.A (setItem ov iv v) (PostU W C B ρ s K) (PostX W C B ρ s X) s
theorem OpI_dict {Ks : St → Prop} (ho : σ.objs[k]? = some (.dict kvs 0)) (hz : kvs.length ≤ 16777216) (h : Ks { σ with objs := σ.objs.set k (.dict (storedA kvs l a) 0) }) : OpI W C (.obj k) (.byt l) a Ks X σ := fun B ρ s ov iv v R d1 d2 d3 => by
  cases d1 with
  | @obj _ own hown =>
    refine el_1_1 d2.iByt fun _ hE442 => ?_; subst hE442
    obtain ⟨hs, vs, hd, hv⟩ := R.objs k own _ hown ho
    have hlen : vs.length = kvs.length := by have := hv.length; simpa using this
    refine wpAny_setItem_pairs (knd := BK W) (isByt_key W l _) hd (fun h' hd' hsb => ?_) (by rw [sizeLine_eq, List.length_zip]; simp; omega)
    refine el_0_2 (R.dictStored hown ho d3 hs hd hv hd' hsb (s.toks + 1)) fun R2 e2 => ?_
    exact ⟨ρ, _, e2, R2, h⟩
theorem JS_AssignSub {o i e : Expr} {p q : Pos} {Kf : KF} (hs : swapsWith e (some (.Subscript o i q)) p.line C.env = pure false) (h : J W C e (fun a σ₁ => J W C o (fun b σ₂ => J W C i (fun c σ₃ => OpI W C b c a (fun σ₄ => Kf .next σ₄) X σ₃) X σ₂) X σ₁) X σ) : JS W C (.Assign [.Subscript o i q] e p) Kf X σ := fun B ρ s R => by
  refine wpAny_Assign_Subscript (wpAny_mono (h B ρ s R) (fun v s1 hP => hP.el fun ρ1 a σ1 e1 R1 d1 k1 => ?_) fun _ _ x => x.low _) hs
  refine wpAny_mono (k1 B ρ1 s1 R1) (fun ov s2 hP => hP.el fun ρ2 b σ2 e2 R2 d2 k2 => ?_) fun _ _ x => (x.ext e1).low _
  refine wpAny_mono (k2 B ρ2 s2 R2) (fun iv s3 hP => hP.el fun ρ3 c σ3 e3 R3 d3 k3 => ?_) fun _ _ x => (x.ext (e1.trans e2)).low _
  exact wpAny_mono (k3 B ρ3 s3 ov iv v R3 (d2.ext e3) d3 (d1.ext (e2.trans e3))) (fun _ s4 hP => hP.el fun ρ4 σ4 e4 R4 k4 => ⟨ρ4, .next, σ4, (((e1.trans e2).trans e3).trans e4).low _, R4, trivial, k4⟩) fun _ _ x => (x.ext ((e1.trans e2).trans e3)).low _
theorem OpS_dict {value slice : Expr} (ho : σ.objs[k]? = some (.dict kvs 0)) (hv : valA kvs l = some a) (h : K a σ) : OpS W C value slice (.obj k) (.byt l) K X σ := fun B ρ s v u R d1 d2 => by
  cases d1 with
  | @obj _ own hown =>
    refine el_1_1 d2.iByt fun _ hE443 => ?_; subst hE443
    obtain ⟨hs, vs, hd, hvs⟩ := R.objs k own _ hown ho
    refine el_1_2 ((valA_zip l hvs).1 a hv) fun x e1 dx => ?_
    exact tail_J ⟨"dict", _, slot_dict_getitem.lookup, hd.typeIs, wpAny_getItem_of (knd := BK W) (isByt_key W l _) hd.mapOf e1 (.tok (a := a) R dx h)⟩
theorem Op2_in_dict (ho : σ.objs[k]? = some (.dict kvs 0)) (h : K (.bool (valA kvs l).isSome) σ) : Op2 W C (compareOp .In) (.byt l) (.obj k) K X σ := fun B ρ s v u R d1 d2 => by
  cases d2 with
  | @obj _ own hown =>
    refine el_1_1 d1.iByt fun _ hE444 => ?_; subst hE444
    obtain ⟨hs, vs, hd, hvs⟩ := R.objs k own _ hown ho
    refine wpAny_in_of (knd := BK W) (isByt_key W l _) hs hd.mapOf ?_
    rw [(valA_zip l hvs).2]
    exact .tok (a := .bool _) R (.bool _) h
theorem JC_len_dict (ho : σ.objs[k]? = some (.dict kvs 0)) (hz : kvs.length ≤ 1099511627776) (h : K (.int kvs.length) σ) : JCallV W C (.builtin "len") [.obj k] [] [] K X σ := fun B ρ s vs us R d1 d2 => by
  cases d1 with
  | cons d r =>
    cases r; obtain rfl := d2.iNil
    cases d with
    | @obj _ own hown =>
      obtain ⟨hs, vs, hd, hvs⟩ := R.objs k own _ hown ho
      have hlen : ((kvs.map (·.1)).zip vs).length = kvs.length := by have := hvs.length; simp at this; simp [this]
      refine call_len_dict (knd := BK W) hs hd (by rw [hlen]; omega) ?_
      rw [hlen]
      exact .tok (a := .int kvs.length) R (.int _ _) h
theorem RunU_store {kx vx : Expr} {gens : List Comprehension} {scope : Scope} {pos : Pos} {d : Nat} {acc : Value} {Ks : St → Prop} (hg : gens[d + 1]? = none)
    (h : J W C kx (fun b σ₁ => J W C vx (fun a σ₂ => ∃ l kvs, b = .byt l ∧ σ₂.objs[k]? = some (.dict kvs 0) ∧ kvs.length ≤ 10000 ∧ Ks { σ₂ with objs := σ₂.objs.set k (.dict (storedA kvs l a) 0) }) X σ₁) X σ) : RunU W C acc k (innerOf (.DictComp kx vx gens scope pos) d acc C.env gens) Ks X σ := fun B ρ s R hacc => by
  unfold innerOf
  rw [hg]
  dsimp only
  unfold emitOf
  dsimp only
  refine wpAny_bind (wpAny_mono (h B ρ s R) (fun kv s1 hP => hP.el fun ρ1 b σ1 e1 R1 d1 k1 => ?_) fun _ _ x => x)
  refine wpAny_bind (wpAny_holding (wpAny_mono (k1 B ρ1 s1 R1) (fun vv s2 hP => hP.el fun ρ2 a σ2 e2 R2 d2 hQ0 => ?_) fun _ _ x => x.ext e1))
  refine el_2_4 hQ0 fun l kvs eb ho hz k2 => ?_
  subst eb
  have e12 := e1.trans e2
  refine el_1_2 (hacc.le e12.1) fun own hown hE445 => ?_; subst hE445
  refine el_1_1 d1.iByt fun _ hE446 => ?_; subst hE446
  obtain ⟨hs, vs, hd, hvs⟩ := R2.objs k own _ hown ho
  refine wpAny_bind (wpAny_standAt (wpAny_holding (wpAny_dictSet_pairs (knd := BK W) (isByt_key W l _) hd (fun h' hd' hsb => ?_) ?_)))
  · refine el_0_2 (R2.dictStored hown ho d2 hs hd hvs hd' hsb (s2.toks + 1)) fun R3 e3 => ?_
    exact ⟨ρ2, _, e12.trans e3, R3, k2⟩
  · rw [sizeLine_eq, List.length_zip]; simp; omega
theorem dictComp_J {K₀ : Frag} (T₀ : Tops W K₀) {kx vx : Expr} {g : Comprehension} {gs : List Comprehension} {scope : Scope} {pos : Pos} {K : KA} (hsc : compScOK scope = true) (hnd2 : (C.env.scope.names.map (·.1)).Nodup) (ha : ((g :: gs).all fun g => g.is_async == 0) = true) (hs : ∀ x, foldedSetIterable g.iter C.env x = pure x) (hF : FrsC C) (hfr : FreeOK C σ scope)
    (h : J W C g.iter (fun a σ₁ => FreeOK C σ₁ scope ∧ ∃ P vals endX ok step σ₂, σ₂.vars = σ₁.vars ∧ Iters W C P ok step a vals endX σ₁ σ₂ ∧ (∀ D, P (C.comp scope D (σ₂.objs.length + 1))) ∧
      ∀ acc D, CompTurns W (C.comp scope D (σ₂.objs.length + 1)) (.DictComp kx vx (g :: gs) scope pos) 0 σ₂.objs.length acc g vals endX ok step (fun σ' => K (.obj σ₂.objs.length) ⟨σ₁.vars, σ'.objs⟩) (fun c cl σ' => X c cl ⟨σ₁.vars, σ'.objs⟩) ⟨cVars C.env.scope.names σ₁.vars scope.names, σ₂.objs ++ [.dict [] 0]⟩) X σ) :
    J W C (.DictComp kx vx (g :: gs) scope pos) K X σ := fun B ρ s R => by
  refine el_0_3 (compScOK_all hsc) fun hk hcell hnd => ?_
  refine el_1_1 hF fun L hL => ?_
  unfold JV
  rw [arm_eval_DictComp]
  have hfa : firstAsync (g :: gs) = false := by
    have := List.all_eq_true.mp ha g (.head _)
    have h0 : g.is_async = 0 := by simpa using this
    cases g; simp only at h0; subst h0; rfl
  rw [hfa]
  refine wpAny_comprehension_free (use := none) (g := g) (gs := gs) rfl hs (closureFor_clL scope C.env fun x hx => hfr.cells R x hx) hk (fun x hx hl => lookup_of_mem hnd (by rw [← hl]; exact hx)) ?_
  have hfi : firstIter (g :: gs) C.env = eval g.iter C.env := by cases g; rfl
  rw [hfi]
  exact comp_core (e := .DictComp kx vx (g :: gs) scope pos) (ob := { cls := .type "dict", dict := none, data := .dict #[] }) (o' := .dict [] 0) rfl rfl (fun _ _ _ q => wpAny_newObj_type q) rfl (fun R1 _ => ⟨R1.notSys T₀, [], Heap.DictOf.new _, .nil⟩) hk hcell hnd hnd2 ha hL h R
end
end
section
open PySem.SeqAt PySem.Builtin PySem.Builtin.ObjectAttr
structure ClsK (K : Frag) (c : Addr) : Prop where
  ga : findIn K (.ref c) "__getattribute__" = some (some (.builtin "object.__getattribute__"))
  gt : findIn K (.ref c) "__getattr__" = some none
  sa : findIn K (.ref c) "__setattr__" = some (some (.builtin "object.__setattr__"))
  over : plainOver K c = true
  hasd : (clsIn K c).any (·.hasDict) = true
noncomputable def putN (x : Str) (a : AV) : List (Str × AV) → List (Str × AV)
  | [] => [(x, a)]
  | (y, b) :: r => if y == x then (y, a) :: r else (y, b) :: putN x a r
section
variable {ρ : Rho} {h : Heap} {ats : List (Str × AV)} {es : List DictEntry} {x : Str} {a : AV}
theorem Ents.length (E : Ents ρ h ats es) : es.length = ats.length := by
  induction E with
  | nil => rfl
  | cons _ _ _ ih => simp [ih]
theorem Ents.noRef (E : Ents ρ h ats es) : es.any (·.refKey) = false := by
  induction E with
  | nil => rfl
  | cons e _ _ ih => rw [List.any_cons, ih]; unfold DictEntry.refKey; rw [e]; rfl
theorem Ents.find (E : Ents ρ h ats es) : (∀ a, ats.lookup x = some a → ∃ e, es.find? (·.key.isStr x) = some e ∧ DenA ρ h a e.val) ∧ (ats.lookup x = none → es.find? (·.key.isStr x) = none) := by
  induction E with
  | nil => exact ⟨fun a e => by simp at e, fun _ => rfl⟩
  | @cons y b r e es t ek d _ ih =>
    rw [List.lookup_cons, List.find?_cons]
    have : e.key.isStr x = (y == x) := by rw [ek]; rfl
    rw [this, Bool.beq_comm (a := y)]
    cases q : x == y with
    | true => exact ⟨fun a e' => by cases e'; exact ⟨e, rfl, d⟩, fun e' => by cases e'⟩
    | false => exact ih
theorem Ents.look (E : Ents ρ h ats es) {n : Nat} (o : Obj) (hd : o.data = .dict es.toArray n) : (∀ a, ats.lookup x = some a → ∃ v, lookIn x o = some (some v) ∧ DenA ρ h a v) ∧ (ats.lookup x = none → lookIn x o = some none) := by
  unfold lookIn
  rw [hd]
  dsimp only
  refine el_0_2 (E.find (x := x)) fun h1 h2 => ?_
  refine ⟨fun a e => ?_, fun e => ?_⟩
  · refine el_1_2 (h1 a e) fun en q d => ?_
    rw [q]; exact ⟨_, rfl, d⟩
  · rw [h2 e, E.noRef]; rfl
noncomputable def putF (hash : Int) (key v : Value) : Option DictEntry → DictEntry
  | some e => { e with val := v }
  | none => ⟨hash, key, v⟩
theorem Ents.put (E : Ents ρ h ats es) {v : Value} (d : DenA ρ h a v) (hash : Int) (tk : Tok) : Ents ρ h (putN x a ats) (nsPutIn x.cps.size x.cps.toList (putF hash (.str x tk) v) es).1 := by
  induction E with
  | nil => exact .cons (t := tk) rfl d .nil
  | @cons y b r e es t ek db er ih =>
    unfold nsPutIn putN
    have : e.key.isStrByCps x.cps.size x.cps.toList = (y == x) := by rw [Value.isStrByCps_eq, ek]; rfl
    rw [this]
    cases q : y == x with
    | true => exact .cons (t := t) ek d er
    | false => exact .cons (t := t) ek db ih
end
theorem putName_dict (name : Str) (hash : Int) (key v : Value) (es : Array DictEntry) (n : Nat) : ∃ n', Obj.putName name hash key v { cls := .type "dict", data := .dict es n } = { cls := .type "dict", data := .dict (nsPutIn name.cps.size name.cps.toList (putF hash key v) es.toList).1.toArray n' } := by
  unfold Obj.putName
  dsimp only
  split
  · rename_i es' q
    have e : (nsPutIn name.cps.size name.cps.toList (putF hash key v) es.toList).1 = es' := congrArg Prod.fst q
    exact ⟨n, by rw [e]⟩
  · rename_i es' q
    have e : (nsPutIn name.cps.size name.cps.toList (putF hash key v) es.toList).1 = es' := congrArg Prod.fst q
    exact ⟨n + 1, by rw [e]⟩
noncomputable def AV.handed : AV → Bool
  | .con v => handedIn v
  | _ => true
theorem handed_den {ρ : Rho} {h : Heap} {a : AV} {v : Value} (d : DenA ρ h a v) (e : a.handed = true) : handedIn v = true := by
  cases d <;> first | rfl | exact e
section
variable {W : Wd} {K : Frag} {C : Ctx} {B : Base} {ρ ρ' : Rho} {σ σ' : St} {s s' : Shared} {Kk : KA} {X : KX} {k : Nat} {c : Addr} {ats : List (Str × AV)} {name : Str} {a : AV}
theorem RepObj.instAt {h : Heap} {gs : Array GenState} {own : Own} (x : RepObj W ρ h gs own (.inst c ats)) : ∃ dx es n, own.xs = [dx] ∧ h.get? own.a = some { cls := .ref c, dict := some dx, data := .plain } ∧ h.get? dx = some { cls := .type "dict", data := .dict es n } ∧ Ents ρ h ats es.toList ∧
    InstAt h own.a { cls := .ref c, dict := some dx, data := .plain } c (some { cls := .type "dict", data := .dict es n }) := by
  refine el_3_4 x fun dx es n h1 h2 h3 h4 => ?_
  exact ⟨dx, es, n, h1, h2, h3, h4, ⟨h2, rfl, rfl, h3⟩⟩
theorem setAttr_J {Ks : St → Prop} (T : Tops W K) (CK : ClsK K c) (ho : σ.objs[k]? = some (.inst c ats)) (ht : takerIn K c name = some none) (hz : ats.length ≤ 500) (h : Ks { σ with objs := σ.objs.set k (.inst c (putN name a ats)) }) {v u : Value} (R : Rep W C B ρ σ s) (dv : DenA ρ s.heap (.obj k) v) (du : DenA ρ s.heap a u) :
    wpAny (model W.prog W.w) C.A (setAttr v name u) (PostU W C B ρ s Ks) (PostX W C B ρ s X) s := by
  cases dv with
  | @obj _ own hown =>
    refine el_3_5 ((R.objs k own _ hown ho).instAt) fun dx es n hx h1 h2 he I => ?_
    have X₀ := T.X.keeps R.top
    refine set_plain X₀ I CK.sa ?_
    refine osa_open (s := { s with toks := s.toks + 1 }) X₀ I CK.over ht fun b => ?_
    refine el_1_2 (any_some CK.hasd) fun cd hc hd' => ?_
    have hne : own.a ≠ dx := fun e => by rw [← e, h1] at h2; cases h2
    refine el_1_1 (putName_dict name (PyData.keyHash W.w.params name) (.str name (s.toks + 1)) u es n) fun n' hp => ?_
    have hlen : es.size = ats.length := by have := he.length; simpa using this
    have hput := Heap.get?_update_self (f := Obj.putName name (PyData.keyHash W.w.params name) (.str name (s.toks + 1)) u) h2 (by rw [hp]; rfl)
    rw [hp] at hput
    obtain ⟨R2, e2⟩ := R.setObj (o' := .inst c (putN name a ats)) (a := dx) (h' := s.heap.update dx (Obj.putName name (PyData.keyHash W.w.params name) (.str name (s.toks + 1)) u)) hown (by unfold Own.as; rw [hx]; exact .tail _ (.head _)) h2 (fun _ _ q => by cases q) (Heap.SameBut.update ..).extBut ⟨_, hput⟩
      (fun hz => ⟨dx, _, n', hx, (Heap.get?_update_other _ _ (Ne.symm hne)).trans h1, hput, by
        simpa using (Ents.put (x := name) he du (PyData.keyHash W.w.params name) (s.toks + 1)).mono hz (.refl _)⟩) (s.toks + 1 + 1)
    refine wpAny_bind (wpAny_pure (wpAny_bind (wpAny_bind (wpAny_loadPart h1 (wpAny_bind (looks_clsIn X₀ hc _ _ _ _ (fun _ _ e => e) ?_))))))
    rw [hd']
    refine wpAny_pure (a := some dx) (wpAny_bind (wpAny_pure (wpAny_bind ?_)))
    unfold nsSet
    refine wpAny_bind (wpAny_bind (wpAny_askSetting (wpAny_pure (wpAny_bind (wpAny_mkText (wpAny_bind (wpAny_loadPart h2 ?_)))))))
    dsimp only
    have cz : (!es.any (·.key.isStr name) && es.any (·.refKey)) = false := by
      rw [← Array.any_toList (p := fun e : DictEntry => e.refKey), he.noRef, Bool.and_false]
    rw [aRefKeyMayBeTheName_at, cz]
    refine wpAny_updatePart h2 ?_
    refine wpAny_bind (wpAny_lookBehind hput (pastItsLine_dict ?_) ?_)
    · have h3 : ∀ (k : Nat) (l : List Nat) (f : Option DictEntry → DictEntry) (es : List DictEntry), (nsPutIn k l f es).1.length ≤ es.length + 1 := by
        intro k l f es
        induction es with
        | nil => exact Nat.le_refl _
        | cons e r ih =>
          unfold nsPutIn
          split
          · simp
          · simp only [List.length_cons]; omega
      rw [List.size_toArray, sizeLine_eq]
      have := h3 name.cps.size name.cps.toList (putF (PyData.keyHash W.w.params name) (.str name (s.toks + 1)) u) es.toList
      rw [Array.length_toList, hlen] at this
      omega
    · exact wpAny_pure ⟨ρ, _, e2, R2, h⟩
theorem JS_AssignAttr {o e : Expr} {p q : Pos} {Kf : KF} (T : Tops W K) (hs : swapsWith e (some (.Attribute o name q)) p.line C.env = pure false)
    (h : J W C e (fun a σ₁ => J W C o (fun b σ₂ => ∃ k c ats, b = .obj k ∧ ClsK K c ∧ σ₂.objs[k]? = some (.inst c ats) ∧ takerIn K c name = some none ∧ ats.length ≤ 500 ∧ Kf .next { σ₂ with objs := σ₂.objs.set k (.inst c (putN name a ats)) }) X σ₁) X σ) : JS W C (.Assign [.Attribute o name q] e p) Kf X σ := fun B ρ s R => by
  refine plainObj_wpAny_Assign_Attribute (wpAny_mono (h B ρ s R) (fun v s1 hP => hP.el fun ρ1 a σ1 e1 R1 d1 k1 => ?_) fun _ _ x => x.low _) hs
  refine wpAny_mono (k1 B ρ1 s1 R1) (fun ov s2 hP => hP.el fun ρ2 b σ2 e2 R2 d2 hQ0 => ?_) fun _ _ x => (x.ext e1).low _
  refine el_3_6 hQ0 fun k c ats eb CK ho ht hz k2 => ?_
  subst eb
  exact wpAny_mono (setAttr_J (X := X) (Ks := fun σ' => Kf .next σ') T CK ho ht hz k2 R2 d2 (d1.ext e2)) (fun _ s4 hP => hP.el fun ρ4 σ4 e4 R4 k4 => ⟨ρ4, .next, σ4, ((e1.trans e2).trans e4).low _, R4, trivial, k4⟩) fun _ _ x => (x.ext (e1.trans e2)).low _
noncomputable abbrev OpG (W : Wd) (C : Ctx) (name : Str) (a : AV) (K : KA) (X : KX) (σ : St) : Prop := Op1 W C (fun v => getAttr v name true) a K X σ
theorem J_Attr {value : Expr} {pos : Pos} (hb : ∀ env t, attributeBase value name env t = t) (h : J W C value (fun a σ₁ => OpG W C name a Kk X σ₁) X σ) : J W C (.Attribute value name pos) Kk X σ := fun B ρ s R => by
  have he : eval (.Attribute value name pos) C.env = (do
      let o ← eval value C.env
      standAt pos.atName
      let r ← holding [o] (getAttr o name true)
      letTemporaryGo value o r
      pure r) := by
    show (attributeBase value name C.env (eval value C.env) >>= _) = _
    rw [hb]
  unfold JV
  rw [he]
  refine wpAny_bind (wpAny_mono (h B ρ s R) (fun v s1 hP => hP.el fun ρ1 a σ1 e1 R1 d1 k1 => wpAny_bind (wpAny_standAt (wpAny_bind (wpAny_holding ?_)))) fun _ _ x => x)
  exact wpAny_mono (k1 B ρ1 s1 v R1 d1) (fun r s2 x => wpAny_bind (wpAny_letTemporaryGo (wpAny_pure (x.ext e1)))) fun _ _ x => x.ext e1
theorem OpG_own (T : Tops W K) (CK : ClsK K c) (ho : σ.objs[k]? = some (.inst c ats)) (hn : findIn K (.ref c) name = some none) (ha : ats.lookup name = some a) (hh : a.handed = true) (h : Kk a σ) : OpG W C name (.obj k) Kk X σ := fun B ρ s v R d => by
  cases d with
  | @obj _ own hown =>
    refine el_3_5 ((R.objs k own _ hown ho).instAt) fun dx es n hx h1 h2 he I => ?_
    refine el_1_2 ((he.look (x := name) (n := n) { cls := .type "dict", data := .dict es n } (by simp)).1 a ha) fun u q du => ?_
    refine el_1_2 (any_some CK.hasd) fun cd hc hd' => ?_
    refine get_value (T.X.keeps R.top) I CK.ga (v := u) ?_ (handed_den du hh) (.tok (a := a) R du h)
    unfold findObj
    rw [hc, Option.bind_some, hn, Option.bind_some]
    unfold PySem.W.ownOf
    rw [hd', if_pos rfl]
    simp [q]
theorem GetM_inst {f : Addr} (T : Tops W K) (CK : ClsK K c) (ho : σ.objs[k]? = some (.inst c ats)) (hf : findIn K (.ref c) name = some (some (.ref f))) (ht : typeIn K (.ref f) = some (.type "function")) (ha : ats.lookup name = none) : GetM W C (.obj k) name (.ref f) [.obj k] σ := fun B ρ s v pl E Q R d h => by
  have h0 := h [v] s.toks (.cons d .nil)
  cases d with
  | @obj _ own hown =>
    refine el_3_5 ((R.objs k own _ hown ho).instAt) fun dx es n hx h1 h2 he I => ?_
    have q := (he.look (x := name) (n := n) { cls := .type "dict", data := .dict es n } (by simp)).2 ha
    exact method_fn (T.X.keeps R.top) I CK.ga CK.gt hf ht (by show (lookIn name _).map _ = _; rw [q]; rfl) h0
end
end
section
open PySem.SeqAt PySem.Builtin PySem.Builtin.ObjectAttr
noncomputable def JCallA (W : Wd) (C : Ctx) (A : Around) (f : Value) (as : List AV) (names : List Str) (bs : List AV) (K : KA) (X : KX) (σ : St) : Prop :=
  ∀ B ρ s vs us, Rep W C B ρ σ s → DenL ρ s.heap as vs → DenL ρ s.heap bs us → codeAny (model W.prog W.w) A (.call f ⟨vs, names.zip us⟩) (fun r s' => match r with | .ok (.ret v) => PostA W C B ρ s K v s' | .error e => PostX W C B ρ s X e s' | _ => False) s
structure Near (A A' : Around) : Prop where
  like : Like A' A
  depth : A'.depth ≤ A.depth + 1
  units : A'.units ≤ A.units + 6
theorem Near.ok {A A' : Around} {n : Nat} (h : Near A A') (o : AOK A (n + 1)) : AOK A' n := by
  refine el_0_2 o fun a b => ?_
  exact ⟨by have := h.depth; omega, by have := h.units; omega⟩
theorem Near.in1 (A : Around) : Near A A.in1 := ⟨⟨rfl, rfl⟩, Nat.le_succ _, by show A.units + 1 ≤ _; omega⟩
section
variable {W : Wd} {K : Frag} {C : Ctx} {B : Base} {ρ ρ' : Rho} {σ σ' : St} {s s' : Shared} {Kk : KA} {X : KX} {k n : Nat} {c : Addr} {ats : List (Str × AV)} {name : Str} {a : AV}
theorem JCallA.v {f : Value} {as bs : List AV} {names : List Str} (h : JCallA W C C.A f as names bs Kk X σ) : JCallV W C f as names bs Kk X σ := fun B ρ s vs us R d1 d2 => JV_call (h B ρ s vs us R d1 d2)
theorem JCallA.w {A : Around} {f : Value} {as bs : List AV} {names : List Str} (h : JCallA W C A f as names bs Kk X σ) {vs us : List Value} (R : Rep W C B ρ σ s) (d1 : DenL ρ s.heap as vs) (d2 : DenL ρ s.heap bs us) : wpAny (model W.prog W.w) A (call f vs (names.zip us)) (PostA W C B ρ s Kk) (PostX W C B ρ s X) s := by
  refine wpAny_call (codeAny_mono (h B ρ s vs us R d1 d2) fun r s' hr => ?_)
  rcases r with f | e
  · exact hr
  · cases e <;> first | exact hr | exact hr.elim
theorem JCallA_text {A : Around} {f : Addr} {body : List Stmt} {sc' : Scope} {as bs : List AV} {names : List Str} {pn : List Str} {vals : List AV} (T : Tops W K) (F : FnK K f body sc') (hs : scOK sc' = true) (hFr : FrsC C) (hL : Like A C.A) (hA : AOK A (n + 1)) (hb : BindJ K f as names bs (pn.zip vals))
    (hlen : pn.length = vals.length) (hkeys : decide pn.Nodup = true) (hkinds : (pn.all fun y => sc'.names.lookup y == some .local || sc'.names.lookup y == some .cell) = true)
    (h : ∀ C' : Ctx, Liv C' sc' n → C'.A.handled = C.A.handled → C'.hcls = C.hcls → C'.hclean = C.hclean → C'.low = σ.objs.length → Wf σ.objs →
      JSs W C' body (RetK Kk σ.vars σ.objs.length) (RetX X σ.vars σ.objs.length) ⟨mkSlots (pn.zip vals) sc'.names σ.objs.length, σ.objs ++ mkCells (pn.zip vals) sc'.names⟩) : JCallA W C A (.ref f) as names bs Kk X σ := fun B ρ s vs us R d1 d2 => by
  refine el_1_2 (hb ρ s.heap vs us d1 d2) fun binds hb1 hb2 => ?_
  have FF := F.facts T hs
  refine call_text FF R hL hFr (kp_binds (T.X.keeps R.top) hb1) hb2 (by rw [List.map_fst_zip (Nat.le_of_eq hlen)]; exact of_decide_eq_true hkeys) (fun y hy => ?_) hA.room fun L hF' => ?_
  · rw [List.map_fst_zip (Nat.le_of_eq hlen)] at hy
    have := List.all_eq_true.mp hkinds y hy
    rw [F.scope]
    rcases (Bool.or_eq_true _ _).mp this with q | q
    · exact .inl (by simpa using q)
    · exact .inr (by simpa using q)
  · rw [F.scope]
    have := h (bodyCtx C A (callEnvC (fdOf K f) L f) ρ.length) ⟨F.scope, by show (fdOf K f).scope.kind = _; rw [F.scope]; exact (scOK_all hs).1, F.glob, F.bi, by show (fdOf K f).scope.isCoroutine = _; rw [F.scope]; exact (scOK_all hs).2.1, hF', hA.deeper _⟩ hL.handled rfl rfl R.len R.wf
    rw [R.len] at this ⊢
    exact this
theorem JC_make {A : Around} {fI : Addr} {as bs : List AV} {names : List Str} (T : Tops W K) (hm : makesIn K c = true) (hi : findIn K (.ref c) "__init__" = some (some (.ref fI))) (hf : typeIn K (.ref fI) = some (.type "function"))
    (h : ∀ A', Near A A' → JCallA W C A' (.ref fI) (.obj σ.objs.length :: as) names bs (fun a σ' => a = .non ∧ Kk (.obj σ.objs.length) σ') X { σ with objs := σ.objs ++ [.inst c []] }) : JCallA W C A (.ref c) as names bs Kk X σ := fun B ρ s vs us R d1 d2 => by
  have X₀ := T.X.keeps R.top
  have hz1 : s.heap.get? s.heap.objs.size = none := by
    cases q : s.heap.get? s.heap.objs.size with
    | none => rfl
    | some o => exact absurd (Heap.lt_size q) (Nat.lt_irrefl _)
  have hz2 : s.heap.get? (s.heap.objs.size + 1) = none := by
    cases q : s.heap.get? (s.heap.objs.size + 1) with
    | none => rfl
    | some o => exact absurd (Heap.lt_size q) (Nat.not_lt.mpr (Nat.le_succ _))
  have g1 : (s.heap.push emptyDict).get? s.heap.objs.size = some emptyDict := Heap.get?_push_size _ rfl
  have g2 : ((s.heap.push emptyDict).push (instObj c s.heap.objs.size)).get? (s.heap.objs.size + 1) = some (instObj c s.heap.objs.size) := by
    have := Heap.get?_push_size (s.heap.push emptyDict) (o := instObj c s.heap.objs.size) rfl
    rwa [Heap.size_push] at this
  have g3 : ((s.heap.push emptyDict).push (instObj c s.heap.objs.size)).get? s.heap.objs.size = some emptyDict := Heap.get?_push_of_some _ g1
  have hk : ∀ b o, s.heap.get? b = some o → ((s.heap.push emptyDict).push (instObj c s.heap.objs.size)).get? b = some o := fun b o e => Heap.get?_push_of_some _ (Heap.get?_push_of_some _ e)
  obtain ⟨R1, e1⟩ := R.addObj (own := ⟨s.heap.objs.size + 1, [s.heap.objs.size], []⟩) (o' := .inst c []) (h' := (s.heap.push emptyDict).push (instObj c s.heap.objs.size)) rfl hk
    (fun a ha => by
      have ha' : a = s.heap.objs.size + 1 ∨ a = s.heap.objs.size := by simpa [Own.as] using ha
      rcases ha' with rfl | rfl
      · exact ⟨hz2, _, g2⟩
      · exact ⟨hz1, _, g3⟩)
    (List.nodup_cons.mpr ⟨fun q => absurd (List.mem_singleton.mp q) (Nat.succ_ne_self _), List.nodup_cons.mpr ⟨List.not_mem_nil, List.nodup_nil⟩⟩)
    (fun _ => ⟨s.heap.objs.size, #[], 0, rfl, g2, g3, .nil⟩) s.toks
  have hget : (ρ ++ [(⟨s.heap.objs.size + 1, [s.heap.objs.size], []⟩ : Own)])[σ.objs.length]? = some ⟨s.heap.objs.size + 1, [s.heap.objs.size], []⟩ := by rw [← R.len]; simp
  have hw : (Code.builtin "type.__call__" ⟨.ref c :: vs, names.zip us⟩).weight = 1 := rfl
  have hu : (Code.builtin "type.__call__" ⟨.ref c :: vs, names.zip us⟩).cUnits = 1 := rfl
  refine make_core (makes_of X₀ hm) (looks_findIn X₀ hi) (fun self => bind_fn X₀ self hf) (.inl rfl) ?_
  have near : Near A (A.under (.builtin "type.__call__" ⟨.ref c :: vs, names.zip us⟩)) := ⟨⟨rfl, rfl⟩, Nat.le_of_eq (by show A.depth + _ = _; rw [hw]), by show A.units + _ ≤ _; rw [hu]; omega⟩
  have dself : DenA (ρ ++ [(⟨s.heap.objs.size + 1, [s.heap.objs.size], []⟩ : Own)]) ((s.heap.push emptyDict).push (instObj c s.heap.objs.size)) (.obj σ.objs.length) (.ref (s.heap.objs.size + 1)) := .obj hget
  refine codeAny_mono (h _ near B _ _ (.ref (s.heap.objs.size + 1) :: vs) us R1 (.cons dself (d1.ext e1)) (d2.ext e1)) fun r s2 hr => ?_
  rcases r with e | f
  · exact hr.ext e1
  · cases f with
    | ret v =>
      refine hr.el fun ρ2 a2 σ2 e2 R2 d2' kP => ?_; refine el_0_2 kP fun hE452 k2 => ?_; subst hE452
      obtain rfl := d2'.iNon
      refine ⟨rfl, ρ2, .obj σ.objs.length, σ2, e1.trans e2, R2, ?_, k2⟩
      exact dself.ext e2
    | _ => exact hr.elim
noncomputable def isMeth (f self : Value) : Own → Heap → Array GenState → Prop := fun own h _ => h.get? own.a = some (methodObj f self)
theorem Rep.meth (R : Rep W C B ρ σ s) {own : Own} {f self : Value} (hk : ρ[k]? = some own) (ho : σ.objs[k]? = some (.sem (isMeth f self))) : s.heap.get? own.a = some (methodObj f self) := by
  refine el_2_4 (R.objs k own _ hk ho) fun h₀ gs₀ hp _ hs _ => ?_
  refine el_1_2 (hs own.a (.head _)) fun ob q1 q2 => ?_
  have hp' : h₀.get? own.a = some (methodObj f self) := hp
  rw [hp'] at q1; cases q1; exact q2
theorem Rep.newMeth (R : Rep W C B ρ σ s) (f self : Value) (tk : Nat) :
    Rep W C B (ρ ++ [⟨s.heap.objs.size, [], []⟩]) { σ with objs := σ.objs ++ [.sem (isMeth f self)] } { s with heap := s.heap.push (methodObj f self), toks := tk } ∧ Ext ρ s (ρ ++ [⟨s.heap.objs.size, [], []⟩]) { s with heap := s.heap.push (methodObj f self), toks := tk } ∧ DenA (ρ ++ [⟨s.heap.objs.size, [], []⟩]) (s.heap.push (methodObj f self)) (.obj σ.objs.length) (.ref s.heap.objs.size) := by
  have hl := Heap.get?_push_size s.heap (o := methodObj f self) rfl
  have hnone : s.heap.get? s.heap.objs.size = none := by
    cases q : s.heap.get? s.heap.objs.size with
    | none => rfl
    | some o' => exact absurd (Heap.lt_size q) (Nat.lt_irrefl _)
  obtain ⟨R1, e1⟩ := R.addObj (own := ⟨s.heap.objs.size, [], []⟩) (o' := .sem (isMeth f self)) (h' := s.heap.push (methodObj f self)) rfl (fun b x e => Heap.get?_push_of_some _ e)
    (fun a ha => by rw [List.mem_singleton.mp ha]; exact ⟨hnone, _, hl⟩) (List.pairwise_singleton _ _) (fun hz => ⟨_, s.gens, hl, fun i m => by simp at m, fun a m => by rw [List.mem_singleton.mp m]; exact ⟨_, hl, hl⟩, .refl _⟩) tk
  refine ⟨R1, e1, ?_⟩
  rw [← R.len]
  exact .obj (o := ⟨s.heap.objs.size, [], []⟩) (by simp)
theorem callWith_M {pos : Pos} {f : Addr} {self : Value} {es : List Expr} {ks : List Keyword} (T : Tops W K) (hfn : fnIn K f = true) (hs : es.all notStar = true) (hk : allNamed ks = true)
    (h : JEs W C es (fun as σ₁ => JKs W C ks (fun bs σ₂ => σ₂.objs[k]? = some (.sem (isMeth (.ref f) self)) ∧ JCallA W C C.A (.ref f) (.con self :: as) (kwNames ks) bs Kk X σ₂) X σ₁) X σ) (R : Rep W C B ρ σ s) {v : Value} (d : DenA ρ s.heap (.obj k) v) :
    JV W C (callWith pos v [] (backTo pos (starEach es C.env)) (backToKw pos (keywordEach ks C.env))) Kk X B ρ s := by
  cases d with
  | @obj _ own hown =>
  refine el_0_2 (keywordEach_names pos C.env ks hk) fun kn ka => ?_
  rw [starEach_plain _ _ hs, backTo_plain]
  obtain ⟨fo, fd, hfo, hfd⟩ : ∃ fo fd, W.h1.get? f = some fo ∧ fo.data = .func fd := by
    unfold fnIn at hfn
    split at hfn
    · rename_i q; exact ⟨_, _, T.X _ _ q, rfl⟩
    · cases hfn
  refine callWith_of (P := fun h => h.get? f = some fo ∧ h.get? own.a = some (methodObj (.ref f) self)) ?_ (fun h hp => ?_) (evalArgs_plainAll ka ?_)
  · have h1 : ((es.map fun e => (false, eval e C.env)).any (·.1)) = false := by simp
    have h2 : (backToKw pos (keywordEach ks C.env)).any (·.1.isNone) = false := by
      rw [List.any_eq_false]
      intro x hx
      have := List.all_eq_true.mp ka x hx
      cases hx1 : x.1 with
      | none => rw [hx1] at this; cases this
      | some _ => simp
    rw [h1, h2]; rfl
  · refine ⟨.boundFrame, .inr (.inr rfl), ?_⟩
    unfold keeperOf
    refine (Looks.ld hp.2).andThen ?_
    dsimp only
    rw [if_neg (by decide)]
    refine (Looks.ld hp.1).andThen ?_
    rw [hfd]
    exact .now
  · refine wpAny_mono (spliced_JEs h R) (fun vs s1 hP => hP.el fun ρ1 as σ1 e1 R1 d1 k1 => ?_) fun _ _ x => x
    refine wpAny_mono (evalAll_JKs k1 R1) (fun us s2 hP => hP.el fun ρ2 bs σ2 e2 R2 d2 hQ0 => ?_) fun _ _ x => x.ext e1
    refine el_0_2 hQ0 fun ho k2 => ?_
    have e := e1.trans e2
    refine el_1_2 (e.1 k own hown) fun own2 q1 q2 => ?_
    have hm := R2.meth q1 ho
    rw [q2] at hm
    refine ⟨⟨R2.top _ _ hfo, hm⟩, ?_⟩
    rw [kn]
    refine wpAny_call (method_call hm (codeAny_mono (k2 B ρ2 s2 (self :: vs) us R2 (.cons (.con self) (d1.ext e2)) d2) fun r s' hr => ?_))
    rcases r with x | x
    · exact hr.ext e
    · cases x <;> first | exact PostA.ext e hr | exact hr.elim
theorem J_ClsMethod {o : Expr} {apos pos : Pos} {es : List Expr} {ks : List Keyword} {p f : Addr} {mc obj : Value} {rest : List Value} (T : Tops W K) (hb : ∀ t, attributeBase o name C.env t = t) (hfew : decide (es.length + ks.length + (if ks.isEmpty then 0 else 1) < 30) = true) (hline : (apos.endLine == pos.line) = true)
    (hs : es.all notStar = true) (hk : allNamed ks = true) (hfn : fnIn K f = true) (hg : specialIn K (.ref c) "__getattribute__" = some (some (.builtin "type.__getattribute__"))) (hr : readsIn K c mc = true) (he : findCls K (.ref c) mc name = some (.get (.builtin "classmethod.__get__") (.ref p) obj (.ref c))) (hp : recIn K p "classmethod" = some (.ref f :: rest))
    (h : J W C o (fun a σ₁ => a = .con (.ref c) ∧ JEs W C es (fun as σ₂ => JKs W C ks (fun bs σ₃ => σ₃.objs[σ₁.objs.length]? = some (.sem (isMeth (.ref f) (.ref c))) ∧ JCallA W C C.A (.ref f) (.con (.ref c) :: as) (kwNames ks) bs Kk X σ₃) X σ₂) X { σ₁ with objs := σ₁.objs ++ [.sem (isMeth (.ref f) (.ref c))] }) X σ) : J W C (.Call (.Attribute o name apos) es ks pos) Kk X σ := fun B ρ s R => by
  unfold JV
  rw [arm_eval_Call, hb]
  refine wpAny_bind (wpAny_mono (h B ρ s R) (fun v s1 hP => hP.el fun ρ1 a σ1 e1 R1 d1 ⟨ea, k1⟩ => wpAny_bind (wpAny_standAt ?_)) fun _ _ x => x)
  subst ea
  obtain rfl := d1.iCon
  refine el_0_2 (keywordEach_names pos C.env ks hk) fun kn ka => ?_
  have hform : methodCallForm (es.length + ks.length) (backTo pos (starEach es C.env)) (backToKw pos (keywordEach ks C.env)) = true := by
    unfold methodCallForm
    have h1 : (backTo pos (starEach es C.env)).all (fun x => !x.1) = true := by rw [starEach_plain _ _ hs, backTo_plain]; simp
    have h2 : (backToKw pos (keywordEach ks C.env)).isEmpty = ks.isEmpty := by
      cases ks with
      | nil => rfl
      | cons k r => cases k; rfl
    rw [h1, ka, h2]; exact hfew
  have hpos : methodCallPos true o C.env apos pos = pure pos := by unfold methodCallPos; simp [hline]
  have X₀ := T.X.keeps R1.top
  unfold methodCall calleeOf
  rw [hform]
  refine wpAny_bind (wpAny_holding (method_cls X₀ hg (cls_bind X₀ hr he (wpAny_call ?_))))
  refine cm_get (s := { s1 with toks := s1.toks + 1 }) X₀ hp ?_
  refine handed_on rfl ?_
  refine wpAny_bind (wpAny_of_eq hpos ?_)
  refine el_0_3 (R1.newMeth (.ref f) (.ref c) (s1.toks + 1)) fun R2 e2 d2 => ?_
  have e := e1.trans e2
  exact wpAny_mono (callWith_M T hfn hs hk k1 R2 d2) (fun _ _ x => x.ext e) fun _ _ x => x.ext e
theorem JC_isinst {l : List UInt8} (h : Kk (.bool true) σ) : JCallV W C (.builtin "isinstance") [.byt l, .con (.type "bytes")] [] [] Kk X σ := fun B ρ s vs us R d1 d2 => by
  cases d1 with
  | cons d r => cases r with
    | cons da r =>
      cases r; obtain rfl := d2.iNil; refine el_1_1 d.iByt fun _ hE453 => ?_; subst hE453; obtain rfl := da.iCon
      exact call_isinstance_yes (typeIs_bytes s _ _) (by kernel_rfl) (by rw [isSubtype_type]; kernel_rfl) (.now (a := .bool true) R (.bool _) h)
end
end
section
open PySem.SeqAt PySem.Builtin PySem.Builtin.ObjectAttr
section
variable {W : Wd} {K : Frag} {C : Ctx} {B : Base} {ρ ρ' : Rho} {σ σ' : St} {s s' : Shared} {Kk : KA} {X : KX} {k n : Nat} {c : Addr} {ats : List (Str × AV)} {name : Str} {a : AV}
theorem OpT_tup {l : List AV} {Kb : Bool → St → Prop} (hz : l.length ≤ 16777216) (h : Kb (!l.isEmpty) σ) : OpT W C (.tu l) Kb X σ := fun B ρ s v R d => by
  cases d with
  | @tup _ _ vs t hn q d =>
    have ht : IsTup s.heap t vs.toArray := q
    have hl := d.length
    refine truthy_tuple ht (by rw [List.size_toArray]; omega) ⟨ρ, σ, ⟨.refl _, .refl _⟩, R.grow fun _ _ e => e, ?_⟩
    have : (!vs.toArray.isEmpty) = !l.isEmpty := by cases l <;> cases vs <;> simp at hl <;> rfl
    rw [this]; exact h
theorem contains_J {f : Addr} {u : Value} {Q : Bool → Shared → Prop} {E : Value → Shared → Prop} {x : Addr} {ox : Obj} {od : Option Obj} (X₀ : K.In s.heap) (I : InstAt s.heap x ox c od) (hs : findIn K (.ref c) "__contains__" = some (some (.ref f))) (hf : isFn K (.ref f) = true)
    (h : wpAny (model W.prog W.w) C.A (call (.ref f) [.ref x, u]) (fun r s' => wpAny (model W.prog W.w) C.A (truthy r) Q E s') E s) : wpAny (model W.prog W.w) C.A (contains (.ref x) u) Q E s := by
  unfold contains
  refine wpAny_holding (wpAny_bind (wpAny_bind (I.type.here ((looks_findIn X₀ hs).here ?_))))
  rw [if_neg (by simp)]
  exact wpAny_bind (unlessNone_K X₀ I hs hf h)
theorem Op2_in_inst {f : Addr} {b : AV} (T : Tops W K) (ho : σ.objs[k]? = some (.inst c ats)) (hs : findIn K (.ref c) "__contains__" = some (some (.ref f))) (hf : isFn K (.ref f) = true)
    (h : JCallA W C C.A (.ref f) [.obj k, b] [] [] (fun r σ' => ∃ x, r = .bool x ∧ Kk (.bool x) σ') X σ) : Op2 W C (compareOp .In) b (.obj k) Kk X σ := fun B ρ s u v R d1 d2 => by
  have d2' := d2
  cases d2 with
  | @obj _ own hown =>
    refine el_3_5 ((R.objs k own _ hown ho).instAt) fun dx es n hx h1 h2 he I => ?_
    refine wpAny_bind (contains_J (T.X.keeps R.top) I hs hf (wpAny_mono (h.w R (.cons d2' (.cons d1 .nil)) .nil) (fun r s1 hP => hP.el fun ρ1 a1 σ1 e1 R1 dr hQ0 => ?_) fun _ _ x => x))
    refine el_1_2 hQ0 fun x ex k1 => ?_
    subst ex
    obtain rfl := dr.iBool
    exact wpAny_truthy_bool (wpAny_pure ⟨ρ1, .bool x, σ1, e1, R1, .bool x, k1⟩)
theorem OpS_inst {value slice : Expr} {f : Addr} {b : AV} (T : Tops W K) (ho : σ.objs[k]? = some (.inst c ats)) (hs : findIn K (.ref c) "__getitem__" = some (some (.ref f))) (hf : fnIn K f = true) (hfn : isFn K (.ref f) = true) (hsl : ∀ o i, subscripted slice true o i = runValue (.builtin "lifetime.subscript" ⟨[o, i], []⟩))
    (h : ∀ A', Near C.A A' → JCallA W C A' (.ref f) [.obj k, b] [] [] Kk X σ) : OpS W C value slice (.obj k) b Kk X σ := fun B ρ s v u R d1 d2 => by
  have d1' := d1
  cases d1 with
  | @obj _ own hown =>
    refine el_3_5 ((R.objs k own _ hown ho).instAt) fun dx es n hx h1 h2 he I => ?_
    have X₀ := T.X.keeps R.top
    unfold fnIn at hf
    split at hf
    · rename_i e
      show wpAny _ _ (subscriptTail _ _ _ _) _ _ _
      unfold subscriptTail getitemInPython
      refine wpAny_bind (wpAny_bind (wpAny_bind (I.type.here ((looks_findIn X₀ hs).here ?_))))
      dsimp only
      refine wpAny_bind (wpAny_load (X₀ _ _ e) (wpAny_pure ?_))
      dsimp only
      rw [hsl]
      refine wpAny_bind (wpAny_runValue (codeAny_builtin entry_sub ?_))
      unfold Builtin.«lifetime.subscript»
      have near : Near C.A (C.A.under (.builtin "lifetime.subscript" ⟨[.ref own.a, u], []⟩)) := by
        have hw : (Code.builtin "lifetime.subscript" ⟨[.ref own.a, u], []⟩).weight = 0 := rfl
        have hu : (Code.builtin "lifetime.subscript" ⟨[.ref own.a, u], []⟩).cUnits = 1 := rfl
        exact ⟨⟨rfl, rfl⟩, by show C.A.depth + _ ≤ _; rw [hw]; omega, by show C.A.units + _ ≤ _; rw [hu]; omega⟩
      refine wpAny_bind (special_fn X₀ I hs (beq_iff_eq.mp hfn) (wpAny_mono ((h _ near).w R (.cons d1' (.cons d2 .nil)) .nil) (fun v s' z => ?_) fun _ _ z => z))
      refine wpAny_pure ?_
      show wpAny (model W.prog W.w) C.A (letTemporaryGo value (.ref own.a) v >>= fun _ => pure v) _ _ s'
      exact wpAny_bind (wpAny_letTemporaryGo (wpAny_pure z))
    · cases hf
theorem JC_len_inst {f : Addr} (T : Tops W K) (ho : σ.objs[k]? = some (.inst c ats)) (hs : findIn K (.ref c) "__len__" = some (some (.ref f))) (hfn : isFn K (.ref f) = true)
    (h : ∀ A', Near C.A A' → JCallA W C A' (.ref f) [.obj k] [] [] (fun r σ' => ∃ i : Nat, r = .int i ∧ i ≤ 1099511627776 ∧ Kk (.int i) σ') X σ) : JCallV W C (.builtin "len") [.obj k] [] [] Kk X σ := fun B ρ s vs us R d1 d2 => by
  cases d1 with
  | cons d r =>
    cases r; obtain rfl := d2.iNil
    have d' := d
    cases d with
    | @obj _ own hown =>
      refine el_3_5 ((R.objs k own _ hown ho).instAt) fun dx es n hx h1 h2 he I => ?_
      refine Calls.call_function_entry kind_len plain_len entry_len (args_len1 _) ?_
      unfold Builtin.«len»
      refine wpAny_bind (m := oneArg "len" _) (wpAny_pure ?_)
      refine wpAny_bind (m := callSpecial? (.ref own.a) (Str.ofString "__len__")) (special_fn (T.X.keeps R.top) I hs (beq_iff_eq.mp hfn) (wpAny_mono ((h _ (Near.in1 _)).w R (.cons d' .nil) .nil) (fun r s1 hP => hP.el fun ρ1 a1 σ1 e1 R1 dr hQ1 => ?_) fun _ _ y => y))
      refine el_1_3 hQ1 fun i ei hi k1 => ?_
      subst ei
      refine el_1_1 dr.iInt fun _ hE456 => ?_; subst hE456
      refine wpAny_bind (wpAny_holding (wpAny_pure ?_))
      refine wpAny_bind (wpAny_letGo ?_)
      show wpAny _ _ (if (i : Int) < 0 then _ else _) _ _ _
      rw [if_neg (by omega)]
      show wpAny _ _ (if (i : Int) ≥ 2 ^ 63 then _ else _) _ _ _
      rw [if_neg (by omega)]
      exact wpAny_bind (wpAny_mkInt (wpAny_pure ⟨_, rfl, ρ1, .int i, σ1, ⟨e1.1, e1.2⟩, R1.grow fun _ _ e => e, .int _ _, k1⟩))
end
end
section
open PySem.SeqAt PySem.Builtin PySem.Builtin.ObjectAttr
section
variable {W : Wd} {K : Frag} {C C' : Ctx} {B : Base} {ρ ρ' : Rho} {σ σ' : St} {s s' : Shared} {Kk : KA} {X : KX} {k n : Nat} {c : Addr} {ats : List (Str × AV)} {name : Str} {a : AV}
theorem Rep.swapEnv (R : Rep W C B ρ σ s) (hl : C'.env.locals = C.env.locals) (hs : C'.env.scope = C.env.scope) (hf : ∀ b, frAddr C'.A b ↔ frAddr C.A b) (hh : C'.A.handled = C.A.handled) (hc : C'.hcls = C.hcls) (hcl : C'.hclean = C.hclean) (hnc : ∀ sl ∈ σ.vars, ∀ k, sl ≠ VS.cell k) : Rep W C' B ρ σ s := by
  have ho : ownA C' ρ = ownA C ρ := by unfold ownA; rw [hl]
  exact
    { top := R.top, keep := fun b o e => (R.keep b o e).weak (hf b).mpr, nodup := ho ▸ R.nodup, fresh := ho ▸ R.fresh
      frame := by
        refine el_1_2 R.frame fun m hm hsl => ?_
        refine ⟨m, hl ▸ hm, fun i x kd hi sl h => ?_⟩
        rw [hs] at hi
        have := hsl i x kd hi sl h
        cases sl with
        | non => trivial
        | v a => exact this
        | cell k => exact absurd rfl (hnc _ (List.mem_of_getElem? h) k)
      live := ho ▸ R.live, len := R.len, objs := R.objs, gkeep := R.gkeep, gnew := R.gnew, gnod := R.gnod
      frs := fun b f => R.frs b ((hf b).mp f), hand := by rw [hh, hc, hcl]; exact R.hand, bare := R.bare, os := R.os }
structure FnS (K : Frag) (f cc cda D f2 : Addr) (x : Str) (body : List Stmt) (sc : Scope) (main : Str) : Prop where
  isf : fnIn K f = true
  body : (fdOf K f).body = .stmts body
  scope : (fdOf K f).scope = sc
  glob : (fdOf K f).globals = mainGlobals
  bi : (fdOf K f).builtins = builtinsNs
  clo : (fdOf K f).closure = [(("__class__" : Str), cc)]
  code : codeIn K (fdOf K f).code (fdOf K f).qualname = true
  cod : (fdOf K f).code = .ref cda
  par : ∃ ar, (((fdOf K f).params.posonlyargs ++ (fdOf K f).params.args).head?) = some ar ∧ ar.arg = x
  file : ∃ ccl cdd vs ccs tf, K.lookup cda = some ⟨ccl, cdd, .fields vs, ccs⟩ ∧ vs[2]? = some (.str main tf)
  cell : ∃ cl cld csl, K.lookup cc = some ⟨cl, cld, .cell (some (.ref D)), csl⟩
  sup : nsIn K mainGlobals "super" = some none
  opq : nsIn K cStatics "thirdparty.any" = some none
  init : typeIn K (.ref f2) = some (.type "function")
  fn2 : fnIn K f2 = true
noncomputable def supOK (sc : Scope) (x : Str) : Bool := scOK sc && (sc.names.all fun p => p.2 != .cell) && sc.names.lookup ("super" : Str) == some .globalImplicit && sc.names.lookup ("__class__" : Str) == some .free && sc.names.lookup x == some .local
theorem fnIn_at {K : Frag} {f : Addr} (h : fnIn K f = true) : ∃ c d sl, K.lookup f = some ⟨c, d, .func (fdOf K f), sl⟩ := by
  unfold fnIn at h
  split at h
  · rename_i c d fd sl q; exact ⟨c, d, sl, by unfold fdOf; rw [q]⟩
  · cases h
theorem bindL_one {kindOf : Str → Option NameKind} {x : Str} {v : Value} (hk : kindOf x = some .local) : (bindL kindOf [(x, v)] fun _ => none) = fun y => [(x, v)].reverse.lookup y := by
  funext y
  show bindL kindOf [] (if kindOf x = some .local then _ else _) y = _
  rw [if_pos hk]
  show (if y = x then some _ else none) = _
  rw [show [(x, v)].reverse = [(x, v)] from rfl, List.lookup_cons]
  by_cases q : y = x
  · rw [if_pos q, show (y == x) = true from by simpa using q]
  · rw [if_neg q, show (y == x) = false from by simpa using q]; rfl
theorem mkSlots_nocell {b : List (Str × AV)} {l : List (Str × NameKind)} : ∀ {q : Nat}, (∀ p ∈ l, p.2 ≠ .cell) → ∀ sl ∈ mkSlots b l q, ∀ j, sl ≠ VS.cell j := by
  induction l with
  | nil => intro q _ sl h; cases h
  | cons p r ih =>
    intro q hp sl h j
    obtain ⟨y, kd⟩ := p
    cases kd with
    | cell => exact absurd rfl (hp _ (.head _))
    | «local» =>
      rcases List.mem_cons.mp h with e | h
      · rw [e]; split <;> simp
      · exact ih (fun p hp' => hp p (.tail _ hp')) sl h j
    | _ =>
      rcases List.mem_cons.mp h with e | h
      · rw [e]; simp
      · exact ih (fun p hp' => hp p (.tail _ hp')) sl h j
theorem mkCells_none {b : List (Str × AV)} {l : List (Str × NameKind)} (n : Nat) (h : ∀ p ∈ l, p.2 ≠ .cell) : mkCells b l = [] := by
  have := mkCells_length (binds := b) l n
  rw [cellsOf_none _ _ h] at this
  exact List.eq_nil_of_length_eq_zero this
theorem frAddr_eq {A : Around} {e₁ e₂ : Env} {b : Addr} (he : e₁.frame = e₂.frame) (hf : frAddr (A.deeper e₁) b) : frAddr (A.deeper e₂) b := by
  refine el_2_3 hf fun l e q1 q2 q3 => ?_
  have q1' : A.frames.map (e₁ :: ·) = some l := q1
  cases q : A.frames with
  | none => rw [q] at q1'; cases q1'
  | some l₀ =>
    rw [q] at q1'; cases q1'
    rcases List.mem_cons.mp q2 with rfl | q2
    · exact ⟨e₂ :: l₀, e₂, by show A.frames.map _ = _; rw [q]; rfl, .head _, he ▸ q3⟩
    · exact ⟨e₂ :: l₀, e, by show A.frames.map _ = _; rw [q]; rfl, .tail _ q2, q3⟩
theorem clsIn_data {K : Frag} {h : Heap} {D : Addr} {cd : ClassData} (X : K.In h) (hD : clsIn K D = some cd) : ∃ o, h.get? D = some o ∧ o.data = .cls cd := by
  unfold clsIn at hD
  split at hD
  · rename_i c d cd' sl ho
    cases hD
    exact ⟨_, X _ _ ho, rfl⟩
  · cases hD
theorem typeIn_fn {K : Frag} {h : Heap} {f : Addr} (X : K.In h) (ht : typeIn K (.ref f) = some (.type "function")) : ∃ o, h.get? f = some o ∧ o.cls = .type "function" := by
  have ht' : (K.lookup f).map (·.cls) = some (.type "function") := ht
  cases z : K.lookup f with
  | none => rw [z] at ht'; cases ht'
  | some o => rw [z] at ht'; exact ⟨o, X _ _ z, Option.some.inj ht'⟩
theorem fnIn_data {K : Frag} {h : Heap} {f : Addr} (X : K.In h) (hf : fnIn K f = true) : ∃ o fd, h.get? f = some o ∧ o.data = .func fd := by
  unfold fnIn at hf
  split at hf
  · rename_i q; exact ⟨_, _, X _ _ q, rfl⟩
  · cases hf
theorem eval_init {ap cp : Pos} (hnl : (ap.endLine == cp.line) = true) (o : Expr) (env : Env) : eval (.Call (.Attribute o "__init__" ap) [] [] cp) env = (do
      let ov ← attributeBase o "__init__" env (eval o env)
      standAt ap.atName
      let (f, first) ← holding [ov] (getMethod ov "__init__" (do return (← importBound o env).getD true))
      callWith cp f first (backTo cp (starEach [] env)) []) := by
  have hpos : methodCallPos true o env ap cp = pure cp := by unfold methodCallPos; simp [hnl]
  rw [arm_eval_Call]
  unfold methodCall
  have : (backToKw cp (keywordEach [] env)) = [] := rfl
  rw [this, show methodCallForm (([] : List Expr).length + ([] : List Keyword).length) (backTo cp (starEach [] env)) [] = true from rfl]
  simp only [hpos, pure_bind]
  rfl
theorem JCallA_super {A : Around} {f cc cda D f2 : Addr} {x : Str} {doc sup : Stmt} {rest : List Stmt} {sc : Scope} {main : Str} {p0 p1 ap cp ep dp : Pos} {dk : Nat} {ds : Str} {cdD cdC : ClassData} (T : Tops W K) (F : FnS K f cc cda D f2 x (doc :: sup :: rest) sc main) (hs : supOK sc x = true)
    (hdoc : doc = .Expr (.Constant (.str ds) dk dp) dp) (hsup : sup = .Expr (.Call (.Attribute (.Call (.Name "super" p0) [] [] p1) "__init__" ap) [] [] cp) ep) (hnl : (ap.endLine == cp.line) = true)
    (hD : clsIn K D = some cdD) (hC : clsIn K c = some cdC) (hsub : mroIn K c (.ref D) = some true) (hm : ks_superIn K c D "__init__" = some (some (.ref f2))) (hmain : W.prog.main.file = main) (htop : (W.prog.main.scope.names.lookup ("super" : Str)).isSome = false)
    (hFr : FrsC C) (hL : Like A C.A) (hA : AOK A (n + 1)) (hb : ∀ S v, peek K S (bindArgs (fdOf K f) ⟨[v], []⟩) = some [(x, v)]) (ho : σ.objs[k]? = some (.inst c ats))
    (h : ∀ C' : Ctx, Liv C' sc n → C'.A.handled = C.A.handled → C'.hcls = C.hcls → C'.hclean = C.hclean → C'.low = σ.objs.length → Wf σ.objs →
      JCallA W C' C'.A (.ref f2) [.obj k] [] [] (fun _ σ' => JSs W C' rest (RetK Kk σ.vars σ.objs.length) (RetX X σ.vars σ.objs.length) σ') (RetX X σ.vars σ.objs.length) ⟨mkSlots [(x, .obj k)] sc.names σ.objs.length, σ.objs⟩) : JCallA W C A (.ref f) [.obj k] [] [] Kk X σ := fun B ρ s vs us R d1 d2 => by
  subst hdoc; subst hsup
  unfold supOK at hs
  simp only [Bool.and_eq_true, beq_iff_eq] at hs
  refine el_0_2 hs fun hO459 hs5 => ?_; refine el_0_2 hO459 fun hO30 hs4 => ?_; obtain ⟨⟨hs1, hs2⟩, hs3⟩ := hO30
  refine el_0_4 (scOK_all hs1) fun hk hco hgen hnd => ?_
  have hcell : ∀ p ∈ sc.names, p.2 ≠ .cell := fun p hp => by have := List.all_eq_true.mp hs2 p hp; simpa using this
  obtain rfl := d2.iNil
  cases d1 with
  | @cons _ v _ _ dv r =>
  cases r
  have dv' := dv
  cases dv with
  | @obj _ own hown =>
  refine el_3_5 ((R.objs k own _ hown ho).instAt) fun dx es nn hx h1 h2 he I => ?_
  have X₀ := T.X.keeps R.top
  refine el_3_1 (fnIn_at F.isf) fun c0 d0 sl hlk => ?_
  have hcode : s.heap.CodeRec (fdOf K f).code (fdOf K f).qualname := codeRec_of X₀ F.code
  have hlim : s.heap.NoLimit := T.lim.keeps R.top
  refine ks_codeAny_call_defAt hA.room (X₀ _ _ hlk) rfl hlim hcode F.body (kp_binds X₀ (fun S => hb S _)) (by rw [F.scope]; exact hcell) (fun y hy => by rw [List.mem_singleton.mp hy, F.scope]; exact hs5) (fun h₀ hns hkp => ?_) (by rw [F.scope]; exact hco) (by rw [F.scope]; exact hgen) (by rw [F.scope]; exact hk)
  have hc0 : cellsOf (s.heap.objs.size + 1) (fdOf K f).scope.names = [] := by rw [F.scope]; exact cellsOf_none _ _ hcell
  have hcells : (callEnvC (fdOf K f) s.heap.objs.size f).cells = [] := by
    show cellsFrom _ _ [] = []
    rw [cellsFrom_eq, hc0]; rfl
  have hns' : h₀.Ns s.heap.objs.size (bindL (callEnvC (fdOf K f) s.heap.objs.size f).kindOf [(x, .ref own.a)] fun _ => none) := by
    have := bindL_one (v := .ref own.a) (kindOf := (callEnvC (fdOf K f) s.heap.objs.size f).kindOf) (x := x) (by show (fdOf K f).scope.names.lookup x = _; rw [F.scope]; exact hs5)
    rw [this]; exact hns
  have xC : InCallC s (callEnvC (fdOf K f) s.heap.objs.size f).locals (bindL (callEnvC (fdOf K f) s.heap.objs.size f).kindOf [(x, .ref own.a)] fun _ => none) (callEnvC (fdOf K f) s.heap.objs.size f).cells (bindC (callEnvC (fdOf K f) s.heap.objs.size f).kindOf [(x, .ref own.a)] fun _ => none) { s with heap := h₀, toks := s.toks + [(x, Value.ref own.a)].length } := by
    rw [hcells]
    exact ⟨⟨⟨_, _, rfl⟩, hns', hkp, Nat.le_refl _⟩, fun y c e => (by simp at e), .nil, fun y c e => (by simp at e)⟩
  refine el_0_2 (R.enter (ab := [(x, .obj k)]) hL (by rw [F.scope]; exact hnd) (List.pairwise_singleton _ _) (show DenB ρ s.heap [(x, AV.obj k)] [(x, .ref own.a)] from ⟨rfl, dv', trivial⟩) xC) fun R1 E1 => ?_
  have hcv := mkSlots_nocell (b := [(x, AV.obj k)]) (q := ρ.length) hcell
  rw [hc0] at R1 E1
  simp only [List.map_nil, List.append_nil] at R1 E1
  rw [F.scope] at R1
  have emk : mkCells [(x, AV.obj k)] sc.names = [] := mkCells_none (s.heap.objs.size + 1) hcell
  rw [emk, List.append_nil] at R1
  have R2 := R1.swapEnv (C' := bodyCtx C A (callEnv (fdOf K f) s.heap.objs.size f) ρ.length) rfl rfl (fun b => ⟨frAddr_eq rfl, frAddr_eq rfl⟩) rfl rfl rfl hcv
  have hF' : FrsC (bodyCtx C A (callEnv (fdOf K f) s.heap.objs.size f) ρ.length) := by
    refine el_1_1 hFr fun L hL0 => ?_
    have hL' : FrsA A C.env L := by
      refine el_2_2 hL0 fun env' l q1 r => ?_
      exact ⟨env', l, hL.frames.trans q1, r⟩
    exact ⟨s.heap.objs.size, hL'.deeper (by show (fdOf K f).scope.kind = _; rw [F.scope]; exact hk) rfl⟩
  have liv : Liv (bodyCtx C A (callEnv (fdOf K f) s.heap.objs.size f) ρ.length) sc n := ⟨F.scope, by show (fdOf K f).scope.kind = _; rw [F.scope]; exact hk, F.glob, F.bi, by show (fdOf K f).scope.isCoroutine = _; rw [F.scope]; exact hco, hF', hA.deeper _⟩
  have hh := h _ liv hL.handled rfl rfl R.len R.wf
  rw [← R.len] at hh
  have etake : ρ.take ρ.length = ρ := List.take_length
  refine ks_wpAt_mono (Q := PostF W (bodyCtx C A (callEnv (fdOf K f) s.heap.objs.size f) ρ.length) (baseOf (rhoAs ρ) ρ s) ρ { s with heap := h₀, toks := s.toks + [(x, Value.ref own.a)].length } (RetK Kk σ.vars ρ.length)) (E := PostX W (bodyCtx C A (callEnv (fdOf K f) s.heap.objs.size f) ρ.length) (baseOf (rhoAs ρ) ρ s) ρ { s with heap := h₀, toks := s.toks + [(x, Value.ref own.a)].length } (RetX X σ.vars ρ.length)) ?_ (fun fl s2 q => (R.doneF hL rfl E1 q).elim (fun q => by rw [q.1]; exact q.2) fun q => el_1_2 q fun v e q => by rw [e]; exact q) fun e s2 q => R.doneX hL rfl hF' E1 q fun _ x => x
  have hint : interactive (callEnv (fdOf K f) s.heap.objs.size f) = false := by unfold interactive; rw [show (callEnv (fdOf K f) s.heap.objs.size f).scope = (fdOf K f).scope from rfl, F.scope, hk]; rfl
  refine ks_wpAt_execs_cons (ks_wpAt_Expr_any (wpAt_of_wpAny (fun _ _ _ => ?_)) hint rfl)
  refine el_1_2 F.par fun ar har hax => ?_
  refine el_5_2 F.file fun ccl cdd vs ccs tf hfile hvs => ?_
  refine el_3_1 F.cell fun cl cld csl hcellk => ?_
  have X₁ : K.In h₀ := X₀.keeps hkp
  refine el_1_1 T.g fun mg hmg => ?_
  refine el_1_2 T.b fun mb hmb hmb2 => ?_
  have hlocx : (callEnv (fdOf K f) s.heap.objs.size f).kindOf ar.arg = some .local := by show (fdOf K f).scope.names.lookup ar.arg = _; rw [F.scope, hax]; exact hs5
  have hksx : (callEnv (fdOf K f) s.heap.objs.size f).kindOf "super" = some .globalImplicit := by show (fdOf K f).scope.names.lookup _ = _; rw [F.scope]; exact hs3
  have hkcx : (callEnv (fdOf K f) s.heap.objs.size f).kindOf "__class__" = some .free := by show (fdOf K f).scope.names.lookup _ = _; rw [F.scope]; exact hs4
  have hkx : (callEnv (fdOf K f) s.heap.objs.size f).scope.kind = .function := by show (fdOf K f).scope.kind = _; rw [F.scope]; exact hk
  refine el_1_2 (clsIn_data X₁ hD) fun oD hD1 hD2 => ?_
  have keep1 : ∀ b o, s.heap.get? b = some o → h₀.get? b = some o := hkp
  refine ks_wpAt_execs_cons (ks_wpAt_Expr_any (ks_wpAt_MethodCall (ks_wpAt_super_base hksx hkcx (by decide) rfl (X₁ _ _ hlk) rfl har F.cod (X₁ _ _ hfile) rfl hvs (by rw [hmain]; simp) htop ?_) (eval_init hnl _ _)) hint rfl)
  refine ks_loadName_global hkx hksx (loadGlobal_builtin (mg := mg) (mb := mb) (by rw [show (callEnv (fdOf K f) s.heap.objs.size f).globals = mainGlobals from F.glob]; exact (hmg.keeps R.top).keeps keep1) (mg_none_of T.X hmg F.sup) (by rw [show (callEnv (fdOf K f) s.heap.objs.size f).builtins = builtinsNs from F.bi]; exact (hmb.keeps R.top).keeps keep1) ((hmb2 _ (by decide +kernel)).trans (by kernel_rfl)) ⟨rfl, ?_⟩)
  refine wpAny_loadName_free hkx hkcx (c := cc) (by show List.lookup _ (fdOf K f).closure = _; rw [F.clo]; rfl) ⟨_, X₁ _ _ hcellk, rfl⟩ ?_
  refine wpAny_loadName_local hkx hlocx (v := .ref own.a) hns (by rw [hax]; show List.lookup x [(x, Value.ref own.a)] = _; rw [List.lookup_cons]; simp) ?_
  refine ks_wpAny_isType_cls hD1 hD2 ⟨rfl, ?_⟩
  refine ks_wpAny_call_super hD1 hD2 (keep1 _ _ I.at_) I.cls (fun c e => ?_) (looks_mroIn X₁ hsub) (fun h' e k' => ?_)
  · have := I.no
    unfold notCls at this
    rw [e] at this
    exact Bool.noConfusion this
  have X₂ : K.In h' := X₁.keeps k'
  refine el_1_2 (typeIn_fn X₂ F.init) fun ofd hfo2 hft2 => ?_
  have hm' := hm
  unfold ks_superIn at hm'
  rw [hC] at hm'
  refine ks_wpAny_getMethod_super e (looks_opaque X₂ F.opq) (l₀ := cdC.mro) (fun A Q E s k q => wpAny_bind ((looks_clsIn X₂ hC) A _ E s k (wpAny_pure q))) rfl X₂ hm' hfo2 hft2 (ks_ne X₀ I hC) (by decide) ?_
  have kp3 : ∀ b o, h₀.get? b = some o → (h'.push (methodObj (.ref f2) (.ref own.a))).get? b = some o := fun b o e => Heap.get?_push_of_some _ (k' b o e)
  have R3 := R2.grow (s' := { s with heap := h'.push (methodObj (.ref f2) (.ref own.a)), toks := s.toks + [(x, Value.ref own.a)].length + 1 + 1 }) kp3
  have E3 : Ext ρ { s with heap := h₀, toks := s.toks + [(x, Value.ref own.a)].length } ρ { s with heap := h'.push (methodObj (.ref f2) (.ref own.a)), toks := s.toks + [(x, Value.ref own.a)].length + 1 + 1 } := ⟨RhoLe.refl ρ, .ofExt kp3⟩
  refine el_2_2 (fnIn_data T.X F.fn2) fun fo fd2 hfo hfd => ?_
  refine callWith_of (P := fun h => h.get? f2 = some fo ∧ h.get? h'.objs.size = some (methodObj (.ref f2) (.ref own.a))) rfl (fun h hp => ?_) (evalArgs_plainAll (es := []) (kws := []) (env := C.env) rfl ?_)
  · refine ⟨.boundFrame, .inr (.inr rfl), ?_⟩
    unfold keeperOf
    refine (Looks.ld hp.2).andThen ?_
    dsimp only
    rw [if_neg (by decide)]
    refine (Looks.ld hp.1).andThen ?_
    rw [hfd]
    exact .now
  · refine wpAny_pure (wpAny_pure ⟨⟨R3.top _ _ hfo, Heap.get?_push_at rfl rfl⟩, ?_⟩)
    refine wpAny_call (method_call (Heap.get?_push_at rfl rfl) (codeAny_mono (hh _ ρ _ [.ref own.a] [] R3 (.cons (.obj hown) .nil) .nil) fun r s' hr => ?_))
    rcases r with q | q
    · exact hr.ext E3
    · cases q <;> first | exact hr.elim | skip
      refine hr.el fun ρ3 a σ3 e3 R4 d4 k4 => ?_
      have ecut := Ext.lowcut ρ.length (E3.trans e3)
      rw [etake] at ecut
      refine wpAt_of_wpAny (wpAny_mono (k4 _ _ _ R4) (fun fl s5 q => ?_) fun _ _ q => ?_)
      · exact PostF.ext ecut q
      · exact PostX.ext ecut q
end
end
section
open PySem.SeqAt PySem.Builtin
theorem wpAny_operate_own {M : Model} {A : Around} {E : Value → Shared → Prop} {s : Shared} {l : List Value} {t : Sem Value} {Q : Value → Shared → Prop} (h : wpAny M A t Q E s) : wpAny M A (operate l t) Q E s := fun Γ p hΓ => by
  simp only [Sem.wp_operate]
  exact h Γ p hΓ
theorem lit_size (b : Array UInt8) : (Bytes.literal b).length ≤ 4 * b.size + 3 := by
  unfold Bytes.literal
  dsimp only
  have : ∀ (f : Nat → Array Nat) (l : List UInt8) (acc : Array Nat), (∀ c, (f c).size ≤ 4) → (l.foldl (fun acc c => acc ++ f c.toNat) acc).size ≤ acc.size + 4 * l.length := by
    intro f l
    induction l with
    | nil => intro acc _; simp
    | cons c r ih =>
      intro acc hf
      rw [List.foldl_cons]
      have h1 := ih (acc ++ f c.toNat) hf
      have h2 := hf c.toNat
      rw [Array.size_append] at h1
      rw [List.length_cons]
      omega
  show (Array.push _ _).size ≤ _
  rw [Array.size_push, ← Array.foldl_toList]
  have h := this (fun c => if (c == (if false = true then 39 else if (b.contains 39 && !b.contains 34) = true then 34 else 39) || c == 92) = true then #[92, c]
    else if (c == 9) = true then #[92, 116] else if (c == 10) = true then #[92, 110] else if (c == 13) = true then #[92, 114]
    else if (decide (c < 32) || decide (c ≥ 127)) = true then #[92, 120, if c / 16 < 10 then 48 + c / 16 else 87 + c / 16, if c % 16 < 10 then 48 + c % 16 else 87 + c % 16] else #[c]) b.toList #[98, if (b.contains 39 && !b.contains 34) = true then 34 else 39] (fun c => by
      repeat' split
      all_goals simp)
  have e : (#[98, if (b.contains 39 && !b.contains 34) = true then 34 else 39] : Array Nat).size = 2 := rfl
  rw [e] at h
  have e2 : b.toList.length = b.size := rfl
  rw [e2] at h
  exact Nat.le_trans (Nat.succ_le_succ h) (by omega)
theorem gives_bytes_repr (b : Array UInt8) (t : Tok) (hz : b.size ≤ 1000000) : Gives (Builtin.«bytes.__repr__» ⟨[.bytes b t], []⟩) (.str (Bytes.literal b)) := by
  have hn : Bytes.tooLong (4 * b.size + 3 + 0) = false := by
    unfold Bytes.tooLong
    rw [sizeLine_eq]
    simp; omega
  refine .of_eq ?_
  show ((if (Bytes.tooLong (4 * b.size + 3 + 0) && Bytes.tooLong (Bytes.literalLength b false + 0)) = true then unsupported "str:memory" >>= fun _ => pure (Bytes.literal b) else pure (Bytes.literal b)) >>= fun x => retStr x) = _
  rw [hn]
  rfl
theorem args_bytes_repr (a : Value) : argsOk "bytes.__repr__" ⟨[a], []⟩ := by
  unfold argsOk; rw [signature?_of (id := "bytes.__repr__") (n := ['_', '_', 'r', 'p', 'e', 'r', '_', '_']) (o := ['s', 'e', 't', 'y', 'b']) (by kernel_rfl) FB.owner_bytes]; kernel_rfl
theorem slot_bytes_repr : Slot "bytes" "__repr__" "bytes.__repr__" :=
  .of (owner := "bytes") (n := "__repr__") (by rw [typeLookup_type, builtinLookup_eq_fast]; kernel_rfl) (by decide +kernel) (by decide +kernel) (by decide +kernel)
    (by first | exact .inl (by decide +kernel) | exact .inr (by decide +kernel)) (by rw [isSubtype_type]; kernel_rfl)
theorem entry_bytes_repr : entryFor table "bytes.__repr__" = some Builtin.«bytes.__repr__» := entryFor_of_tree (by kernel_rfl)
section
variable {W : Wd} {K₀ : Frag} {C : Ctx} {B : Base} {ρ ρ' : Rho} {σ σ' : St} {s s' : Shared} {K : KA} {X : KX}
theorem J_FmtRepr {e : Expr} {p : Pos} (h : J W C e (fun a σ₁ => ∃ l, a = .byt l ∧ l.length ≤ 1000000 ∧ K (.str (Bytes.literal l.toArray)) σ₁) X σ) : J W C (.FormattedValue e 114 none p) K X σ := fun B ρ s R => by
  refine wpAny_FormattedValue_repr (wpAny_mono (h B ρ s R) (fun v s1 hP => hP.el fun ρ1 a σ1 e1 R1 d1 hQ0 => ?_) fun _ _ x => x)
  refine el_1_3 hQ0 fun l ea hz k => ?_
  subst ea
  refine el_1_1 d1.iByt fun _ hE474 => ?_; subst hE474
  have hz2 : (Bytes.literal l.toArray).length ≤ sizeLine := by
    have := lit_size l.toArray
    rw [List.size_toArray] at this
    rw [sizeLine_eq]; omega
  refine wpAny_pyReprObj_gives (typeIs_bytes s1 _ _) slot_bytes_repr entry_bytes_repr (args_bytes_repr _) (gives_bytes_repr _ _ (by simpa using hz)) ?_ rfl hz2
  refine formatField_str (s := { s1 with toks := s1.toks + 1 }) (fun t' tk => ?_) hz2
  exact ⟨ρ1, .str _, σ1, e1.trans ⟨.refl _, .refl _⟩, R1.grow fun _ _ e => e, .str _ _, k⟩
noncomputable def JFs (W : Wd) (C : Ctx) : List Expr → Str → KA → KX → St → Prop
  | [], acc, K, X, σ => acc.length ≤ sizeLine ∧ K (.str acc) σ
  | e :: es, acc, K, X, σ => J W C e (fun a σ₁ => ∃ y, a = .str y ∧ (acc ++ y).length ≤ sizeLine ∧ JFs W C es (acc ++ y) K X σ₁) X σ
theorem JFs_run {es : List Expr} : ∀ {acc : Str} {K : KA} {X : KX} {σ : St} {B : Base} {ρ : Rho} {s : Shared}, JFs W C es acc K X σ → Rep W C B ρ σ s → wpAny (model W.prog W.w) C.A (joinParts acc (evalEach es C.env)) (PostA W C B ρ s K) (PostX W C B ρ s X) s := by
  induction es with
  | nil => intro acc K X σ B ρ s h R; exact joinParts_nil ⟨ρ, .str acc, σ, ⟨.refl _, .refl _⟩, R.grow fun _ _ e => e, .str _ _, h.2⟩ h.1
  | cons e es ih =>
    intro acc K X σ B ρ s h R
    show wpAny _ _ (joinParts acc (eval e C.env :: evalEach es C.env)) _ _ s
    refine joinParts_cons (wpAny_mono (h B ρ s R) (fun v s1 hP => hP.el fun ρ1 a σ1 e1 R1 d1 hQ3 => ?_) fun _ _ x => x)
    refine el_1_3 hQ3 fun y ea hz k => ?_
    subst ea
    refine el_1_1 d1.iStr fun _ hv => ?_; subst hv
    exact ⟨hz, wpAny_mono (ih k R1) (fun _ _ x => x.ext e1) fun _ _ x => x.ext e1⟩
theorem J_JoinedStr {a b : Expr} {es : List Expr} {p : Pos} (h : JFs W C (a :: b :: es) Str.empty K X σ) : J W C (.JoinedStr (a :: b :: es) p) K X σ := fun B ρ s R => JoinedStr_many (JFs_run h R)
theorem JS_Assert {t : Expr} {m : Option Expr} {p : Pos} {Kf : KF} (h : JB W C t (fun b σ₁ => b = true ∧ Kf .next σ₁) X σ) : JS W C (.Assert t m p) Kf X σ := fun B ρ s R =>
  wpAny_Assert_holds (wpAny_mono (h B ρ s R) (fun b s1 hP => hP.el fun ρ1 σ1 e1 R1 hQ4 => by refine el_0_2 hQ4 fun hb k => ?_; exact ⟨hb, ρ1, .next, σ1, e1.low _, R1, trivial, k⟩) fun _ _ x => x.low _)
theorem JC_range {b : Int} (h : K (.obj σ.objs.length) { σ with objs := σ.objs ++ [.rng 0 b 1] }) : JCallV W C (.type "range") [.int b] [] [] K X σ := fun B ρ s vs us R d1 d2 => by
  cases d1 with
  | cons d r =>
    cases r; obtain rfl := d2.iNil; refine el_1_1 d.iInt fun _ hE478 => ?_; subst hE478
    refine call_range_1 ?_
    obtain ⟨R1, e1⟩ := R.addObj (own := ⟨s.heap.objs.size, [], []⟩) (o' := .rng 0 b 1) (h' := s.heap.push { cls := .type "range", data := .fields #[.int 0 s.toks, .int b _, .int 1 (s.toks + 1)] }) rfl (fun b x e => Heap.get?_push_of_some _ e)
      (fun a ha => by rw [List.mem_singleton.mp ha]; exact ⟨by
        cases q : s.heap.get? s.heap.objs.size with
        | none => rfl
        | some o' => exact absurd (Heap.lt_size q) (Nat.lt_irrefl _), _, Heap.get?_push_size _ rfl⟩) (List.pairwise_singleton _ _) (fun hz => ⟨_, _, _, IsRange.new ..⟩) (s.toks + 1 + 1)
    refine ⟨_, .obj σ.objs.length, _, e1, R1, ?_, h⟩
    rw [← R.len]
    exact .obj (o := ⟨s.heap.objs.size, [], []⟩) (by simp)
theorem JC_range3 {a b c : Int} (hc : c ≠ 0) (hp : Builtin.divisionGoesByPylong (b - a) c = false) (h : K (.obj σ.objs.length) { σ with objs := σ.objs ++ [.rng a b c] }) : JCallV W C (.type "range") [.int a, .int b, .int c] [] [] K X σ := fun B ρ s vs us R d1 d2 => by
  cases d1 with
  | cons d r =>
    cases r with
    | cons d' r => cases r with
      | cons d'' r =>
        cases r; obtain rfl := d2.iNil; refine el_1_1 d.iInt fun _ hE479 => ?_; subst hE479; refine el_1_1 d'.iInt fun _ hE480 => ?_; subst hE480; cases d''
        refine call_range_3 hc ?_ (.inl hp)
        obtain ⟨R1, e1⟩ := R.addObj (own := ⟨s.heap.objs.size, [], []⟩) (o' := .rng a b c) (h' := s.heap.push { cls := .type "range", data := .fields #[.int a _, .int b _, .int c _] }) rfl (fun b x e => Heap.get?_push_of_some _ e)
          (fun a ha => by rw [List.mem_singleton.mp ha]; exact ⟨by
            cases q : s.heap.get? s.heap.objs.size with
            | none => rfl
            | some o' => exact absurd (Heap.lt_size q) (Nat.lt_irrefl _), _, Heap.get?_push_size _ rfl⟩) (List.pairwise_singleton _ _) (fun hz => ⟨_, _, _, IsRange.new ..⟩) s.toks
        refine ⟨_, .obj σ.objs.length, _, e1, R1, ?_, h⟩
        rw [← R.len]
        exact .obj (o := ⟨s.heap.objs.size, [], []⟩) (by simp)
theorem Op2_bool_ne {a b : Bool} (h : K (.bool (a != b)) σ) : Op2 W C (compareOp .NotEq) (.bool a) (.bool b) K X σ := fun B ρ s v u R d1 d2 => by
  obtain rfl := d1.iBool; obtain rfl := d2.iBool
  exact RcNeAt.bool_bool a b _ _ _ _ (.now (a := .bool (a != b)) R (.bool _) h)
theorem Op2_neTup {l l' : List AV} {r : Bool} (hu : C.A.units < 9800) (e : EqL 49 l l' r) (h : K (.bool (!r)) σ) : Op2 W C (compareOp .NotEq) (.tu l) (.tu l') K X σ := fun B ρ s v u R d1 d2 => by
  cases d1 with
  | @tup _ _ vs t hn q d =>
    cases d2 with
    | @tup _ _ vs' t' hn' q' d' =>
      have t1 : s.heap.IsTuple t vs.toArray := q
      have t2 : s.heap.IsTuple t' vs'.toArray := q'
      refine el_1_2 (EqL.at e (A := C.A.in1) d d') fun f h1 h2 => ?_
      have h3 := RcNeAt.tuples (A := C.A) (e := f) t1 t2 (by unfold cLine; omega) (fun j g1 g2 => by
        have := h1 j (by simpa using g1) (by simpa using g2)
        simpa using this)
      rw [List.size_toArray, List.size_toArray, ← h2] at h3
      exact h3 _ _ _ _ (.now (a := .bool _) R (.bool _) h)
theorem JB_Compare2 {l m r : Expr} {o1 o2 : CmpOp} {p : Pos} {Kb : Bool → St → Prop} (hm : behindInMarks o2 r = false)
    (h : J W C l (fun a σ₁ => J W C m (fun b σ₂ => Op2 W C (compareOp o1) a b (fun c σ₃ => OpT W C c (fun t σ₄ => (t = true → J W C r (fun d σ₅ => Op2 W C (compareOp o2) b d (fun e σ₆ => OpT W C e Kb X σ₆) X σ₅) X σ₄) ∧ (t = false → Kb false σ₄)) X σ₃) X σ₂) X σ₁) X σ) :
    JB W C (.Compare l [o1, o2] [m, r] p) Kb X σ := fun B ρ s R => by
  rw [arm_isTrue_Compare]
  refine wpAny_bind (wpAny_mono (h B ρ s R) (fun v s1 h1 => ?_) fun _ _ x => x)
  refine h1.el fun ρ1 a σ1 e1 R1 d1 k1 => ?_
  show wpAny _ _ (testChain p v [o1, o2] [eval m C.env, markedBehindIn o2 r (eval r C.env)]) _ _ s1
  rw [markedBehindIn_of_false hm]
  unfold testChain
  refine wpAny_bind (wpAny_holding (wpAny_mono (k1 B ρ1 s1 R1) (fun u s2 h2 => ?_) fun _ _ x => x.ext e1))
  refine h2.el fun ρ2 b σ2 e2 R2 d2 k2 => ?_
  refine wpAny_bind (wpAny_standAt (wpAny_bind (wpAny_holding (wpAny_mono (k2 B ρ2 s2 v u R2 (d1.ext e2) d2) (fun c s3 h3 => ?_) fun _ _ x => x.ext (e1.trans e2)))))
  refine h3.el fun ρ3 c' σ3 e3 R3 d3 k3 => ?_
  have e13 := (e1.trans e2).trans e3
  refine wpAny_bind (wpAny_release (wpAny_bind (wpAny_holding (wpAny_mono (k3 B ρ3 s3 c R3 d3) (fun t s4 h4 => ?_) fun _ _ x => x.ext e13))))
  refine h4.el fun ρ4 σ4 e4 R4 k4 => ?_
  have e14 := e13.trans e4
  cases t with
  | false => exact wpAny_pure ⟨ρ4, σ4, e14, R4, k4.2 rfl⟩
  | true =>
    unfold testChain
    refine wpAny_bind (wpAny_holding (wpAny_mono (k4.1 rfl B ρ4 s4 R4) (fun w s5 h5 => ?_) fun _ _ x => x.ext e14))
    refine h5.el fun ρ5 d' σ5 e5 R5 d5 k5 => ?_
    refine wpAny_bind (wpAny_standAt (wpAny_bind (wpAny_operate_own (wpAny_mono (k5 B ρ5 s5 u w R5 (((d2.ext e3).ext e4).ext e5) d5) (fun z s6 h6 => ?_) fun _ _ x => x.ext (e14.trans e5)))))
    refine h6.el fun ρ6 e' σ6 e6 R6 d6 k6 => ?_
    exact wpAny_holding (wpAny_mono (k6 B ρ6 s6 z R6 d6) (fun _ _ x => x.ext ((e14.trans e5).trans e6)) fun _ _ x => x.ext ((e14.trans e5).trans e6))
end
theorem BindJ.k1 {K : Frag} {f : Addr} {x y z n : Str} {a b c : AV} {cv : Value} (hc : ∀ ρ h, DenA ρ h c cv) (e : ∀ S v u, peek K S (bindArgs (fdOf K f) ⟨[v], [(n, u)]⟩) = some [(x, v), (y, u), (z, cv)]) : BindJ K f [a] [n] [b] (List.zip [x, y, z] [a, b, c]) := fun ρ h vs us d1 d2 => by
  cases d1 with
  | cons da r =>
    cases r
    cases d2 with
    | cons db r => cases r; exact ⟨_, fun S => e S _ _, rfl, da, rfl, db, rfl, hc _ _, trivial⟩
theorem BindJ.k2 {K : Frag} {f : Addr} {x y z n m : Str} {a b c : AV} (e : ∀ S v u w, peek K S (bindArgs (fdOf K f) ⟨[v], [(n, u), (m, w)]⟩) = some [(x, v), (y, w), (z, u)]) : BindJ K f [a] [n, m] [b, c] (List.zip [x, y, z] [a, c, b]) := fun ρ h vs us d1 d2 => by
  cases d1 with
  | cons da r =>
    cases r
    cases d2 with
    | cons db r => cases r with
      | cons dc r => cases r; exact ⟨_, fun S => e S _ _ _, rfl, da, rfl, dc, rfl, db, trivial⟩
end
section
open PySem.SeqAt PySem.Builtin
section
variable {W : Wd} {K : Frag} {C : Ctx} {σ : St} {sc : Scope} {n : Nat} {X : KX} {Kk : KA}
structure Glb (K : Frag) (x : Str) (v : Value) : Prop where
  ns : nsIn K mainGlobals x = some (some v)
  keep : keepIn K v = true
structure Bui (K : Frag) (x : Str) (v : Value) : Prop where
  ns : nsIn K mainGlobals x = some none
  boot : bootBuiltins x = some v
  keep : ∀ W, Keeper1 W v
  name : (x == ("__name__" : Str)) = false
theorem J_CallG {x : Str} {p pos : Pos} {fv : Value} {es : List Expr} {ks : List Keyword} (T : Tops W K) (L : Liv C sc n) (hl : scGlb sc x = true) (G : Glb K x fv) (hs : es.all notStar = true) (hk : allNamed ks = true)
    (h : JEs W C es (fun as σ₂ => JKs W C ks (fun bs σ₃ => JCallV W C fv as (kwNames ks) bs Kk X σ₃) X σ₂) X σ) : J W C (.Call (.Name x p) es ks pos) Kk X σ :=
  J_Call callForm_name hs hk (keeper_K T.X G.keep) (J_glb T L hl G.ns ⟨rfl, h⟩)
theorem J_CallB {x : Str} {p pos : Pos} {fv : Value} {es : List Expr} {ks : List Keyword} (T : Tops W K) (L : Liv C sc n) (hl : scGlb sc x = true) (G : Bui K x fv) (hs : es.all notStar = true) (hk : allNamed ks = true)
    (h : JEs W C es (fun as σ₂ => JKs W C ks (fun bs σ₃ => JCallV W C fv as (kwNames ks) bs Kk X σ₃) X σ₂) X σ) : J W C (.Call (.Name x p) es ks pos) Kk X σ :=
  J_Call callForm_name hs hk (G.keep W) (J_bui T L hl G.ns G.boot G.name ⟨rfl, h⟩)
theorem J_buiB {x : Str} {p : Pos} {v : Value} (T : Tops W K) (L : Liv C sc n) (hl : scGlb sc x = true) (G : Bui K x v) (h : Kk (.con v) σ) : J W C (.Name x p) Kk X σ := J_bui T L hl G.ns G.boot G.name h
theorem J_glbA {x : Str} {p : Pos} {v : Value} {a : AV} (T : Tops W K) (L : Liv C sc n) (hl : scGlb sc x = true) (e : nsIn K mainGlobals x = some (some v)) (hd : ∀ ρ h, DenA ρ h a v) (h : Kk a σ) : J W C (.Name x p) Kk X σ := fun B ρ s R =>
  wpAny_mono (J_glb (Kk := fun a' σ' => a' = .con v ∧ Kk a σ') T L hl e ⟨rfl, h⟩ B ρ s R) (fun v' s' hP => hP.el fun ρ' a' σ' e R' d hQ0 => by refine el_0_2 hQ0 fun ea k => ?_; subst ea; cases d; exact ⟨ρ', a, σ', e, R', hd _ _, k⟩) fun _ _ x => x
theorem JEs_nil {Kl : KL} (h : Kl [] σ) : JEs W C [] Kl X σ := h
theorem JEs_cons {Kl : KL} {e : Expr} {r : List Expr} (h : J W C e (fun a σ₁ => JEs W C r (fun as σ₂ => Kl (a :: as) σ₂) X σ₁) X σ) : JEs W C (e :: r) Kl X σ := h
theorem JKs_nil {Kl : KL} (h : Kl [] σ) : JKs W C [] Kl X σ := h
theorem JKs_cons {Kl : KL} {nm : Option Str} {e : Expr} {q : Pos} {r : List Keyword} (h : J W C e (fun a σ₁ => JKs W C r (fun as σ₂ => Kl (a :: as) σ₂) X σ₁) X σ) : JKs W C (⟨nm, e, q⟩ :: r) Kl X σ := h
theorem JFs_nil {acc : Str} (hz : acc.length ≤ sizeLine) (h : Kk (.str acc) σ) : JFs W C [] acc Kk X σ := ⟨hz, h⟩
theorem JFs_cons {acc : Str} {e : Expr} {es : List Expr} (h : J W C e (fun a σ₁ => ∃ y, a = .str y ∧ (acc ++ y).length ≤ sizeLine ∧ JFs W C es (acc ++ y) Kk X σ₁) X σ) : JFs W C (e :: es) acc Kk X σ := h
theorem JO_some {e : Expr} (h : J W C e Kk X σ) : JO W C (some e) Kk X σ := h
theorem JO_none (h : Kk .non σ) : JO W C none Kk X σ := h
theorem AsgL_nil {Ks : St → Prop} (h : Ks σ) : AsgL W C [] [] Ks X σ := h
theorem AsgL_cons {e : Expr} {es : List Expr} {a : AV} {l : List AV} {Ks : St → Prop} (h : AsgJ W C e a (fun σ₁ => AsgL W C es l Ks X σ₁) X σ) : AsgL W C (e :: es) (a :: l) Ks X σ := h
theorem JTests_nil {Kb : Bool → St → Prop} (h : Kb true σ) : JTests W C [] Kb X σ := h
end
noncomputable def relabS (cs sc : Scope) : Scope := { cs with names := cs.names.map fun (n, k) => if (k == .free && sc.kind == .function && sc.names.lookup n == some .cell) then (n, .cell) else (n, k) }
theorem Liv.comp {C : Ctx} {sc cs : Scope} {n m : Nat} {D : Addr} (L : Liv C sc n) (hk : (cs.kind == .function) = true) (hc : cs.isCoroutine = false) : Liv (C.comp cs D m) (relabS cs sc) n where
  scope := by obtain rfl := L.scope; rfl
  kind := by show cs.kind = _; simpa using hk
  glob := L.glob
  bi := L.bi
  co := hc
  frs := L.frs
  ok := L.ok
noncomputable def freeB (sc : Scope) (vars : List VS) (cs : Scope) : Bool := cs.names.all fun p => p.2 != .free || ((sc.names[scIdx sc p.1]?.map (·.1)) == some p.1 && (match vars[scIdx sc p.1]? with | some (.cell _) => true | _ => false))
theorem FreeOK.of {C : Ctx} {σ : St} {sc cs : Scope} {n : Nat} (L : Liv C sc n) (h : freeB sc σ.vars cs = true) : FreeOK C σ cs := fun x hx => by
  have := List.all_eq_true.mp h _ hx
  simp only [bne_self_eq_false, Bool.false_or, Bool.and_eq_true, beq_iff_eq] at this
  refine el_0_2 this fun h1 h2 => ?_
  refine el_1_2 (Option.map_eq_some_iff.mp h1) fun hO484 q1 q2 => ?_; obtain ⟨y, kd⟩ := hO484
  cases q2
  split at h2
  · rename_i k q
    exact ⟨scIdx sc y, kd, k, by rw [L.scope]; exact q1, q⟩
  · cases h2
theorem CompTurns.go {W : Wd} {C : Ctx} {sc cs : Scope} {n m : Nat} {D : Addr} {e : Expr} {d k : Nat} {acc : Value} {g : Comprehension} {vals : List AV} {endX : Option (Value × Bool)} {ok : Nat → St → Prop} {step : Nat → St → St} {Ks : St → Prop} {X : KX} {σ : St} (L : Liv C sc n) (hk : (cs.kind == .function) = true) (hc : cs.isCoroutine = false)
    (h : ∀ C2 : Ctx, Liv C2 (relabS cs sc) n → C2.A = C.A → C2.hcls = C.hcls → C2.hclean = C.hclean → C2.low = m → CompTurns W C2 e d k acc g vals endX ok step Ks X σ) : CompTurns W (C.comp cs D m) e d k acc g vals endX ok step Ks X σ := h _ (L.comp hk hc) rfl rfl rfl rfl
theorem CompTurns.lowGo {W : Wd} {C : Ctx} {sc : Scope} {n m : Nat} {e : Expr} {d k : Nat} {acc : Value} {g : Comprehension} {vals : List AV} {endX : Option (Value × Bool)} {ok : Nat → St → Prop} {step : Nat → St → St} {Ks : St → Prop} {X : KX} {σ : St} (L : Liv C sc n)
    (h : ∀ C2 : Ctx, Liv C2 sc n → C2.A = C.A → C2.hcls = C.hcls → C2.hclean = C.hclean → C2.low = m → CompTurns W C2 e d k acc g vals endX ok step Ks X σ) : CompTurns W (C.lowTo m) e d k acc g vals endX ok step Ks X σ := h _ (L.low m) rfl rfl rfl rfl
theorem br_t {b : Bool} {P Q : Prop} (h : b = true) (p : P) : (b = true → P) ∧ (b = false → Q) := ⟨fun _ => p, fun e => by rw [h] at e; cases e⟩
theorem br_f {b : Bool} {P Q : Prop} (h : b = false) (p : Q) : (b = true → P) ∧ (b = false → Q) := ⟨fun e => (by rw [h] at e; cases e), fun _ => p⟩
theorem st0 {α : Type} {pre r : List α} {o : α} : (pre ++ o :: r)[pre.length]? = some o := by simp
theorem st1 {α : Type} {pre r : List α} {o1 o : α} : (pre ++ o1 :: o :: r)[pre.length + 1]? = some o := by simp
theorem st2 {α : Type} {pre r : List α} {o1 o2 o : α} : (pre ++ o1 :: o2 :: o :: r)[pre.length + 2]? = some o := by simp
theorem st3 {α : Type} {pre r : List α} {o1 o2 o3 o : α} : (pre ++ o1 :: o2 :: o3 :: o :: r)[pre.length + 3]? = some o := by simp
theorem set0 {α : Type} {pre r : List α} {o o' : α} : (pre ++ o :: r).set pre.length o' = pre ++ o' :: r := by simp
theorem set1 {α : Type} {pre r : List α} {o1 o o' : α} : (pre ++ o1 :: o :: r).set (pre.length + 1) o' = pre ++ o1 :: o' :: r := by simp
theorem set2 {α : Type} {pre r : List α} {o1 o2 o o' : α} : (pre ++ o1 :: o2 :: o :: r).set (pre.length + 2) o' = pre ++ o1 :: o2 :: o' :: r := by simp
theorem set3 {α : Type} {pre r : List α} {o1 o2 o3 o o' : α} : (pre ++ o1 :: o2 :: o3 :: o :: r).set (pre.length + 3) o' = pre ++ o1 :: o2 :: o3 :: o' :: r := by simp
theorem app_get {α : Type} {l r : List α} {k : Nat} {o : α} (h : l[k]? = some o) : (l ++ r)[k]? = some o := by rw [List.getElem?_append_left (List.getElem?_eq_some_iff.mp h).1]; exact h
theorem Set_cel {W : Wd} {C : Ctx} {σ : St} {sc : Scope} {n : Nat} {X : KX} {x : Str} {a : AV} {i k : Nat} {a0 : Option AV} {Ks : St → Prop} (L : Liv C sc n) (hl : scLoc sc x .cell = true) (hi : scIdx sc x = i) (hv : σ.vars[i]? = some (.cell k)) (ho : σ.objs[k]? = some (.cell a0)) (h : Ks { σ with objs := σ.objs.set k (.cell (some a)) }) : SetN W C x a Ks X σ := by
  subst hi; obtain rfl := L.scope; exact SetN_cell L.kind (Loc.of hl).1 hv ho h
end
section
open PySem.SeqAt PySem.Builtin
section
variable {W : Wd} {K : Frag} {C : Ctx} {B : Base} {ρ ρ' : Rho} {σ σ' : St} {s s' : Shared} {Kk : KA} {X : KX} {k n : Nat} {c : Addr} {ats : List (Str × AV)} {name : Str} {a : AV} {sc : Scope}
theorem JSs_wf {l : List Stmt} {Kf : KF} (h : Wf σ.objs → JSs W C l Kf X σ) : JSs W C l Kf X σ := fun B ρ s R => h R.wf B ρ s R
theorem J_end {e : Expr} (h : J W C e (fun a σ₁ => Wf σ₁.objs → a.lt σ₁.objs.length = true → Kk a σ₁) X σ) : J W C e Kk X σ := fun B ρ s R =>
  wpAny_mono (h B ρ s R) (fun v s1 hP => hP.el fun ρ1 a σ1 e1 R1 d1 k => ⟨ρ1, a, σ1, e1, R1, d1, k R1.wf (by rw [← R1.len]; exact d1.lt)⟩) fun _ _ x => x
theorem renF_range (N : Nat) : ∀ i, i < N → renF (List.range N) N i = i := fun i h => by
  unfold renF
  rw [List.getD_eq_getElem?_getD, List.getElem?_range h]; rfl
theorem Tell.all {n : Nat} {objs : List AObj} (hn : n ≤ objs.length) (hwf : Wf objs) : Tell n objs (List.range objs.length) objs where
  nd := List.nodup_range
  lt := fun j h => List.mem_range.mp h
  len := by simp
  fix := fun k h => by rw [List.getElem?_range (by omega)]
  ok := fun i j o h1 h2 => by
    have hi : i < objs.length := (List.getElem?_eq_some_iff.mp h2).1
    rw [List.getElem?_range hi] at h1
    cases h1
    refine .inr ?_
    rw [AObj.ren_of_lt (renF_range _) (hwf o (List.mem_of_getElem? h2))]
    exact h2
theorem Ret_all {vars v' : List VS} {objs : List AObj} (hn : n ≤ objs.length) (hwf : Wf objs) (ha : a.lt objs.length = true) (h : Kk a ⟨vars, objs⟩) : RetK Kk vars n (.ret a) ⟨v', objs⟩ :=
  ⟨_, a, _, Tell.all hn hwf, (AV.ren_of_lt (renF_range _) ha).symm, h⟩
theorem Nxt_all {vars v' : List VS} {objs : List AObj} (hn : n ≤ objs.length) (hwf : Wf objs) (h : Kk .non ⟨vars, objs⟩) : RetK Kk vars n .next ⟨v', objs⟩ := ⟨_, _, Tell.all hn hwf, h⟩
theorem JSs_nilW {Kf : KF} (h : Wf σ.objs → Kf .next σ) : JSs W C [] Kf X σ := JSs_wf fun w => JSs_nil (h w)
theorem JS_ReturnW {e : Expr} {p : Pos} {Kf : KF} (h : J W C e (fun a σ₁ => Wf σ₁.objs → a.lt σ₁.objs.length = true → Kf (.ret a) σ₁) X σ) : JS W C (.Return (some e) p) Kf X σ := JS_Return (J_end h)
theorem OpG_base {x dx : Addr} {od : Obj} {v : Value} {b : AV} (T : Tops W K) (CK : ClsK K c) (hx : K.lookup x = some { cls := .ref c, dict := some dx, data := .plain }) (hd : K.lookup dx = some od) (hl : lookIn name od = some (some v)) (hn : findIn K (.ref c) name = some none)
    (hh : handedIn v = true) (hb : ∀ ρ h, DenA ρ h b v) (h : Kk b σ) : OpG W C name (.con (.ref x)) Kk X σ := fun B ρ s u R d => by
  obtain rfl := d.iCon
  have X₀ := T.X.keeps R.top
  have I : InstAt s.heap x { cls := .ref c, dict := some dx, data := .plain } c (some od) := ⟨X₀ _ _ hx, rfl, rfl, X₀ _ _ hd⟩
  refine el_1_2 (any_some CK.hasd) fun cd hc hd' => ?_
  refine get_value X₀ I CK.ga (v := v) ?_ hh (.tok (a := b) R (hb _ _) h)
  unfold findObj
  rw [hc, Option.bind_some, hn, Option.bind_some]
  unfold PySem.W.ownOf
  rw [hd', if_pos rfl]
  simp [hl]
theorem JS_AssignT {elts : List Expr} {kk : Nat} {tp p : Pos} {e : Expr} {Kf : KF} (hs : swapsWithSole [.Tuple elts kk tp] e p.line C.env = pure false) (hw : swappedStores [.Tuple elts kk tp] e C.env = pure none)
    (h : J W C e (fun a σ₁ => AsgJ W C (.Tuple elts kk tp) a (fun σ₂ => Kf .next σ₂) X σ₁) X σ) : JS W C (.Assign [.Tuple elts kk tp] e p) Kf X σ := fun B ρ s R => by
  refine Assign_Tuple (wpAny_mono (h B ρ s R) (fun v s1 hP => hP.el fun ρ1 a σ1 e1 R1 d1 k1 => ?_) fun _ _ x => x.low _) hs hw
  exact wpAny_mono (k1 B ρ1 s1 v R1 d1) (fun _ s2 hP => hP.el fun ρ2 σ2 e2 R2 k2 => ⟨ρ2, .next, σ2, (e1.trans e2).low _, R2, trivial, k2⟩) fun _ _ x => (x.ext e1).low _
theorem JAll_or_val {x y : Expr} {bx by' : Bool} {Kb : Bool → St → Prop} (hx : ∀ Kb : Bool → St → Prop, Kb bx σ → JB W C x Kb X σ) (hy : bx = false → ∀ Kb : Bool → St → Prop, Kb by' σ → JB W C y Kb X σ) (h : Kb (bx || by') σ) : JAll W C .Or [x, y] Kb X σ := by
  refine JAll_or (hx _ ?_)
  cases bx with
  | true => exact br_t rfl h
  | false =>
    refine br_f rfl (JAll_or (hy rfl _ ?_))
    cases by' with
    | true => exact br_t rfl h
    | false => exact br_f rfl (JAll_or_nil h)
theorem noI_bytes_add : typeLookup (.type "bytes") (dunderI "add") = pure none := by rw [typeLookup_type, builtinLookup_eq_fast]; kernel_rfl
theorem Op2_ibadd {l r : List UInt8} (hz : l.length + r.length ≤ 16777216) (h : Kk (.byt (l ++ r)) σ) : Op2 W C (inplaceOp .Add) (.byt l) (.byt r) Kk X σ := fun B ρ s v u R d1 d2 => by
  refine el_1_1 d1.iByt fun _ hE489 => ?_; subst hE489; refine el_1_1 d2.iByt fun _ hE490 => ?_; subst hE490
  rename_i t u
  have hq : ∀ t' k, PostA W C B ρ s Kk (.bytes (l.toArray ++ r.toArray) t') { s with toks := k } := fun t' k => by
    rw [List.append_toArray]; exact .tok (a := .byt (l ++ r)) R (.byt _ _) h
  refine iconcat_gives (typeIs_bytes s _ _) (typeIs_bytes s _ _) noI_bytes_add KBy.noFill_bytes_add KBy.seq_bytes_add FB.slot_bytes_add FB.entry_bytes_add (FB.args_bytes_add_2 _ _) (KBy.gives_bytes_add (KBy.tooLong_not (by simpa using hz))) ?_
  by_cases hb : l.toArray.isEmpty = true
  · rw [if_pos hb]
    have e : l.toArray = #[] := Array.isEmpty_iff.1 hb
    have h' := hq u s.toks
    rw [e, Array.empty_append] at h'
    exact h'
  · rw [if_neg hb]
    by_cases hc : r.toArray.isEmpty = true
    · rw [if_pos hc]
      have e : r.toArray = #[] := Array.isEmpty_iff.1 hc
      have h' := hq t s.toks
      rw [e, Array.append_empty] at h'
      exact h'
    · rw [if_neg hc]
      exact ⟨by rw [Array.size_append, sizeLine_eq]; simpa using hz, hq s.toks (s.toks + 1)⟩
theorem JS_low {st : Stmt} {Kf : KF} {m : Nat} (L : Liv C sc n) (hm : C.low ≤ m) (h : ∀ C2 : Ctx, Liv C2 sc n → C2.A = C.A → C2.hcls = C.hcls → C2.hclean = C.hclean → C2.low = m → JS W C2 st Kf X σ) : JS W C st Kf X σ := fun B ρ s R => by
  have ec : ∀ {ρ' : Rho} {s' : Shared}, Ext (ρ.take m) s ρ' s' → Ext (ρ.take C.low) s ρ' s' := fun {ρ' s'} e => by
    have := e.low C.low
    rwa [List.take_take, Nat.min_eq_left hm] at this
  refine wpAny_mono (h _ (L.low m) rfl rfl rfl rfl B ρ s R.lowTo) (fun f s' q => ?_) fun v s' q => ?_
  · refine q.el fun ρ' a σ' e R' d k => ?_
    exact ⟨ρ', a, σ', ec e, R'.ofLow, d, k⟩
  · refine q.el fun ρ' cls cl σ' e' ev e R' F k => ?_
    exact ⟨ρ', cls, cl, σ', e', ev, ec e, R'.ofLow, (by cases F; constructor <;> assumption), k⟩
theorem ints_cut {ρ : Rho} {h : Heap} : ∀ {vs : List Value} {ns : List Int}, IntsAre vs ns → DenL ρ h (ns.map AV.int) vs
  | _, _, .nil => .nil
  | _, _, .cons i t r => .cons (.int i t) (ints_cut r)
theorem OpSl_listB {value slice : Expr} {x : Addr} {vs : List Value} {ns : List Int} {a b : AV} {lo hi : Option Int} (hl₀ : W.h1.IsList x vs.toArray) (hi₀ : IntsAre vs ns) (ha : PartA a lo) (hb : PartA b hi) (hz : ns.length ≤ 16777216) (h : Kk (.obj σ.objs.length) { σ with objs := σ.objs ++ [.list (cutL (ns.map AV.int) lo hi)] }) : OpSl W C value slice (.con (.ref x)) a b Kk X σ := fun B ρ s v lv uv i R d1 d2 d3 hi' => by
  obtain rfl := d1.iCon
  have hl : s.heap.IsList x vs.toArray := by
    refine el_1_2 hl₀ fun o ho r => ?_
    exact ⟨o, R.top _ _ ho, r⟩
  have hd : DenL ρ s.heap (ns.map AV.int) vs := ints_cut hi₀
  refine tail_J ⟨"list", _, list_getitem_lookup, hl.typeIs, wpAny_getItem_list_slice hl hi' (ha.isPart d2) (hb.isPart d3) .none (by simp) ?_ (by rw [sizeLine_eq, List.size_toArray, hd.length]; simpa using hz)⟩
  have hd2 : DenL ρ s.heap (cutL (ns.map AV.int) lo hi) (cutL vs lo hi) := by
    unfold cutL
    rw [hd.length]
    exact (hd.drop _).takeN _
  obtain ⟨R1, e1, d4⟩ := R.newList (tk := s.toks) hd2 (o := { cls := .type "list", data := .seq (slicePick vs.toArray lo hi none) }) (by
    rw [slicePick_plain]; unfold cutL; simp)
  exact ⟨_, _, _, e1, R1, d4, h⟩
end
end
section
section
variable {W : Wd} {C : Ctx} {B : Base} {s : Shared} {b : Bool}
noncomputable def PostT (W : Wd) (b : Bool) (s : Shared) (r : Result) (s' : Shared) : Prop := r = .ok (.ret (.bool b)) ∧ (∀ b o, s.heap.get? b = some o → s'.heap.get? b = some o) ∧ s'.os = W.os ∧ AllBare s'.gens
theorem frAddr_first {A : Around} (hfr : A.frames = some []) {env : Env} {b : Addr} (h : frAddr (A.deeper env) b) : env.frame = some b := by
  refine el_2_3 h fun l e h1 h2 h3 => ?_
  have h1' : A.frames.map (env :: ·) = some l := h1
  rw [hfr] at h1'
  cases h1'
  cases h2 with
  | head => exact h3
  | tail _ q => cases q
theorem PostT.of {A : Around} {fd : FuncData} {f : Addr} {ρ : Rho} {σ : St} {s2 : Shared} {v : Value} {b : Bool} (hfr : A.frames = some [])
    (R2 : Rep W (bodyCtx C A (callEnvC fd s.heap.objs.size f) 0) (baseOf (rhoAs []) [] s) ρ σ s2) (d : DenA ρ s2.heap (.bool b) v) : PostT W b s (.ok (.ret v)) s2 :=
  ⟨by obtain rfl := d.iBool; rfl, fun b o e => (R2.keep b o (baseOf_h e (by simp [rhoAs]))).strict fun q => by
    have hb : (callEnvC fd s.heap.objs.size f).frame = some b := frAddr_first hfr q
    have hlt := Heap.lt_size e
    cases hb; exact absurd hlt (Nat.lt_irrefl _), R2.os, R2.bare⟩
theorem call_text_top {A : Around} {f : Addr} {fd : FuncData} {body : List Stmt} (FF : FnFacts W f fd body) {args : Args} {binds : List (Str × Value)} {ab : List (Str × AV)} (R : Rep W C B [] ⟨[], []⟩ s) (hA : Like A C.A) (hfr : A.frames = some [])
    (hb : BindsTo s fd args binds) (hd : DenB [] s.heap ab binds) (hkeys : (ab.map (·.1)).Nodup) (hkinds : ∀ y ∈ ab.map (·.1), fd.scope.names.lookup y = some .local ∨ fd.scope.names.lookup y = some .cell) (hroom : A.depth < recursionLimit)
    (h : ∀ L, FrsC (bodyCtx C A (callEnvC fd L f) 0) → JSs W (bodyCtx C A (callEnvC fd L f) 0) body (RetK (fun a _ => a = .bool b) [] 0) (RetX noX [] 0) ⟨mkSlots ab fd.scope.names 0, mkCells ab fd.scope.names⟩) :
    codeAny (model W.prog W.w) A (.call (.ref f) args) (PostT W b s) s := by
  refine el_1_2 FF.at_ fun fo ho hfd => ?_
  have hcode : s.heap.CodeRec fd.code fd.qualname := by
    refine el_4_4 FF.code fun c o vs t e1 e2 e3 e4 => ?_
    exact ⟨c, o, vs, t, e1, R.top _ _ e2, e3, e4⟩
  have hlim : s.heap.NoLimit := FF.lim.keeps R.top
  refine codeAny_call_function hroom (R.top _ _ ho) hfd FF.co FF.gen FF.body hcode ?_
  refine hb _ _ _ _ ?_
  rw [FF.clo]
  refine wpAny_newFunctionEnv_cells FF.kind (fun y hy => ?_) fun env he s' x => ?_
  · have hm : y.1 ∈ ab.map (·.1) := by rw [← hd.keys]; exact List.mem_map_of_mem hy
    rcases hkinds _ hm with q | q
    · exact .inl q
    · refine .inr ⟨q, ?_⟩
      rw [cellsFrom_eq, List.append_nil]
      have hmem := cellsOf_of_mem fd.scope.names (s.heap.objs.size + 1) (mem_of_lookup q)
      refine el_1_1 hmem fun c hc => ?_
      rw [lookup_of_mem (by rw [List.map_reverse]; exact (List.reverse_perm _).nodup_iff.mpr (FF.nd.sublist (cellsOf_keys _ _))) (List.mem_reverse.mpr hc)]
      rfl
  · subst he
    refine ⟨hlim.keeps x.toInCall.keep, codeAny_func ?_⟩
    refine el_0_2 (R.enter hA FF.nd hkeys hd x) fun R1 E1 => ?_
    have hF' : FrsC (bodyCtx C A (callEnvC fd s.heap.objs.size f) 0) :=
      ⟨s.heap.objs.size, callEnvC fd s.heap.objs.size f, [], by show A.frames.map _ = _; rw [hfr]; rfl, rfl, rfl, fun x hx => by
        cases hx with
        | head => exact ⟨by rw [show (callEnvC fd s.heap.objs.size f).scope = fd.scope from rfl, FF.kind]; decide, _, rfl⟩
        | tail _ q => cases q⟩
    refine wpAny_mono (h _ hF' _ _ s' R1) (fun fl s2 hP => hP.el fun ρ2 a σ2 E2 R2 d2 k2 => ?_) fun e s2 hP => hP.el fun ρ2 cls cl σ2 e' ee E2 R2 F2 k2 => ?_
    · cases a with
      | next =>
        cases fl <;> first | exact d2.elim | skip
        refine el_2_2 k2 fun π objs' t k => ?_
        cases k
      | brk => exact k2.elim
      | cont => exact k2.elim
      | ret a =>
        cases fl with
        | ret v =>
          refine el_3_3 k2 fun π a' objs' t ea k => ?_
          subst k
          subst ea
          exact PostT.of hfr R2 d2
        | _ => exact d2.elim
    · refine el_2_2 k2 fun π objs' t k => ?_
      exact k.elim
variable {K : Frag} {n : Nat}
theorem call_top {A : Around} {f : Addr} {body : List Stmt} {sc' : Scope} {pn : List Str} {vals : List AV} {vs : List Value} (T : Tops W K) (F : FnK K f body sc') (hs : scOK sc' = true) (R : Rep W C B [] ⟨[], []⟩ s) (hL : Like A C.A) (hfr : A.frames = some []) (hA : AOK A (n + 1)) (hb : BindJ K f vals [] [] (pn.zip vals))
    (hlen : pn.length = vals.length) (hkeys : decide pn.Nodup = true) (hkinds : (pn.all fun y => sc'.names.lookup y == some .local || sc'.names.lookup y == some .cell) = true) (hd : DenL [] s.heap vals vs)
    (h : ∀ C' : Ctx, Liv C' sc' n → C'.A.handled = C.A.handled → C'.hcls = C.hcls → C'.hclean = C.hclean → C'.low = 0 →
      JSs W C' body (RetK (fun a _ => a = .bool b) [] 0) (RetX noX [] 0) ⟨mkSlots (pn.zip vals) sc'.names 0, mkCells (pn.zip vals) sc'.names⟩) : wpAny (model W.prog W.w) A (call (.ref f) vs []) (fun v s' => PostT W b s (.ok (.ret v)) s') (fun _ _ => False) s := by
  refine el_1_2 (hb [] s.heap vs [] hd .nil) fun binds hb1 hb2 => ?_
  have FF := F.facts T hs
  refine wpAny_call (codeAny_mono (call_text_top (b := b) FF R hL hfr (kp_binds (T.X.keeps R.top) hb1) hb2 (by rw [List.map_fst_zip (Nat.le_of_eq hlen)]; exact of_decide_eq_true hkeys) (fun y hy => ?_) hA.room fun L hF' => ?_) fun r s' hr => ?_)
  · rw [List.map_fst_zip (Nat.le_of_eq hlen)] at hy
    have := List.all_eq_true.mp hkinds y hy
    rw [F.scope]
    rcases (Bool.or_eq_true _ _).mp this with q | q
    · exact .inl (by simpa using q)
    · exact .inr (by simpa using q)
  · rw [F.scope]
    exact h (bodyCtx C A (callEnvC (fdOf K f) L f) 0) ⟨F.scope, by show (fdOf K f).scope.kind = _; rw [F.scope]; exact (scOK_all hs).1, F.glob, F.bi, by show (fdOf K f).scope.isCoroutine = _; rw [F.scope]; exact (scOK_all hs).2.1, hF', hA.deeper _⟩ hL.handled rfl rfl rfl
  · refine el_0_2 hr fun hE493 q => ?_; subst hE493
    exact ⟨rfl, q⟩
end
end
section
open PySem.Builtin
theorem find_at {pre mid rest : List UInt8} {c : UInt8} (h : c ∉ mid) : Bytes.find? (pre ++ mid ++ c :: rest).toArray [c].toArray pre.length (pre ++ mid ++ c :: rest).length = some (pre.length + mid.length) := by
  unfold Bytes.find?
  have key : ∀ i, (((pre ++ mid ++ c :: rest).toArray.extract i (i + [c].toArray.size) == [c].toArray) = true) ↔ (pre ++ mid ++ c :: rest)[i]? = some c := by
    intro i
    rw [List.extract_toArray, beq_iff_eq]
    simp only [List.size_toArray, List.length_cons, List.length_nil, Nat.zero_add, List.extract_eq_take_drop, Nat.add_sub_cancel_left]
    generalize pre ++ mid ++ c :: rest = b
    rw [List.getElem?_eq_some_iff]
    constructor
    · intro e
      have e' : (b.drop i).take 1 = [c] := by simpa using e
      by_cases q : i < b.length
      · refine ⟨q, ?_⟩
        rw [List.drop_eq_getElem_cons q] at e'
        have e2 : b[i] :: List.take 0 (List.drop (i + 1) b) = [c] := e'
        exact (List.cons.inj e2).1
      · rw [List.drop_eq_nil_of_le (Nat.le_of_not_lt q)] at e'; cases e'
    · rintro ⟨q, e⟩
      rw [List.drop_eq_getElem_cons q]
      simp [e]
  rw [List.find?_map]
  have : List.find? ((fun i => (pre ++ mid ++ c :: rest).toArray.extract i (i + [c].toArray.size) == [c].toArray) ∘ fun x => x + pre.length) (List.range ((pre ++ mid ++ c :: rest).length + 1 - (pre.length + [c].toArray.size))) = some mid.length := by
    rw [List.find?_range_eq_some]
    refine ⟨?_, ?_, ?_⟩
    · rw [Function.comp_apply, key]
      simp [Nat.add_comm]
    · rw [List.mem_range]; simp
    · intro j hj
      rw [Bool.not_eq_true', ← Bool.not_eq_true, Function.comp_apply, key]
      intro e
      rw [List.append_assoc, List.getElem?_append_right (Nat.le_add_left _ _), Nat.add_sub_cancel, List.getElem?_append_left hj] at e
      exact h (List.mem_of_getElem? e)
  rw [this]
  simp [Nat.add_comm]
theorem findB_at {b pre mid rest : List UInt8} {c : UInt8} {i : Int} {n : Nat} (hb : b = pre ++ mid ++ c :: rest) (h : c ∉ mid) (hi : i = pre.length) (hn : n = pre.length + mid.length) : findB b [c] i = some n := by
  subst hb hi hn
  unfold findB
  have hw : Bytes.window (pre ++ mid ++ c :: rest).length (some (pre.length : Int)) none = ((pre.length : Int), ((pre ++ mid ++ c :: rest).length : Int)) := by
    unfold Bytes.window
    simp only [Option.getD_some, Option.getD_none]
    rw [if_neg (by omega), if_neg (by omega)]
    simp
  rw [hw]
  dsimp only
  rw [if_neg (by simp; omega)]
  simp only [Option.bind_some, Int.toNat_natCast]
  exact find_at h
theorem cut_at {b pre mid rest : List UInt8} {i j : Int} (hb : b = pre ++ mid ++ rest) (hi : i = pre.length) (hj : j = pre.length + mid.length) : cutL b (some i) (some j) = mid := by
  subst hb hi hj
  unfold cutL clipAt
  simp only [Option.elim_some]
  rw [if_neg (by omega), if_neg (by omega)]
  have e1 : (max 0 (min (pre.length : Int) ((pre ++ mid ++ rest).length : Nat))).toNat = pre.length := by simp only [List.length_append]; omega
  have e2 : (max 0 (min ((pre.length : Int) + mid.length) ((pre ++ mid ++ rest).length : Nat))).toNat = pre.length + mid.length := by simp only [List.length_append]; omega
  rw [e1, e2, List.append_assoc, List.drop_left, Nat.add_sub_cancel_left, List.take_left]
theorem OpSl_bytesE {W : Wd} {C : Ctx} {K : KA} {X : KX} {σ : St} {value slice : Expr} {l r : List UInt8} {a b : AV} {lo hi : Option Int} (ha : PartA a lo) (hb : PartA b hi) (hz : l.length ≤ 16777216) (hr : cutL l lo hi = r) (h : K (.byt r) σ) : OpSl W C value slice (.byt l) a b K X σ := OpSl_bytes ha hb hz (hr.symm ▸ h)
structure Ent where
  fig : List UInt8
  name : List UInt8
  sha : List UInt8
noncomputable def Ent.text (e : Ent) : List UInt8 := e.fig ++ 32 :: e.name ++ 0 :: e.sha
structure Ent.OK (e : Ent) : Prop where
  oct : octal e.fig = true
  figs : e.fig.length ≤ 20
  free : (0 : UInt8) ∉ e.name
  names : e.name.length ≤ 20
  sha : e.sha.length = 20
noncomputable def textOf (l : List Ent) : List UInt8 := l.flatMap Ent.text
theorem Ent.OK.noSpace {e : Ent} (h : e.OK) : (32 : UInt8) ∉ e.fig := fun m => by
  have := h.oct
  unfold octal at this
  rw [Bool.and_eq_true] at this
  have := List.all_eq_true.mp this.2 _ m
  revert this; decide
theorem text_len {e : Ent} (h : e.OK) : e.text.length = e.fig.length + e.name.length + 22 := by
  unfold Ent.text; simp only [List.length_append, List.length_cons, h.sha]; omega
theorem text_at {l : List Ent} {i : Nat} {e : Ent} (h : l[i]? = some e) : textOf l = textOf (l.take i) ++ e.text ++ textOf (l.drop (i + 1)) := by
  refine el_1_1 (List.getElem?_eq_some_iff.mp h) fun q hE496 => ?_; subst hE496
  have e : l = l.take i ++ l[i] :: l.drop (i + 1) := by rw [← List.drop_eq_getElem_cons q, List.take_append_drop]
  refine (congrArg textOf e).trans ?_
  unfold textOf
  rw [List.flatMap_append, List.flatMap_cons, List.append_assoc]
theorem text_step {l : List Ent} {i : Nat} {e : Ent} (h : l[i]? = some e) : (textOf (l.take (i + 1))).length = (textOf (l.take i)).length + e.text.length := by
  rw [List.take_add_one, h]
  unfold textOf
  simp
theorem text_bound {l : List Ent} (h : ∀ e ∈ l, e.OK) : (textOf l).length ≤ 62 * l.length := by
  induction l with
  | nil => exact Nat.zero_le _
  | cons e r ih =>
    have h1 := ih fun x hx => h x (.tail _ hx)
    have h2 := h e (.head _)
    have h3 := text_len h2
    have := h2.figs
    have := h2.names
    have e1 : textOf (e :: r) = e.text ++ textOf r := rfl
    rw [e1, List.length_append, List.length_cons]
    omega
end
local macro_rules | `(tactic| walk_at "stn") => `(tactic| simp only [List.append_assoc, List.cons_append, List.nil_append, List.length_append, List.length_cons, List.length_nil, Nat.zero_add, Nat.add_assoc, Nat.reduceAdd, st0, st1, st2, st3, set0, set1, set2, set3, List.set_cons_succ, List.set_cons_zero])
local macro_rules | `(tactic| walk_at "sto") => `(tactic| first | exact rfl | assumption | exact st0 | exact st1 | exact st2 | exact st3 | exact app_get (by assumption) | (walk_at "stn"; try rfl))
local macro_rules | `(tactic| walk_at "jE") => `(tactic| first
  | with_reducible refine J_int ?_ | with_reducible refine J_byt ?_ | with_reducible refine J_str ?_ | with_reducible refine J_bool ?_ | with_reducible refine J_non ?_
  | ((with_reducible refine' J_loc ?k0 ?k1 ?k2 ?k3 ?k4); (case k0 => assumption); (case k1 => decide +kernel); (case k2 => conv => lhs; whnf); (case k3 => exact rfl))
  | ((with_reducible refine' J_cel ?k0 ?k1 ?k2 ?k3 ?k5 ?k4); (case k0 => assumption); (case k1 => decide +kernel); (case k2 => conv => lhs; whnf); (case k3 => exact rfl); (case k5 => walk_at "sto"))
  | with_reducible refine J_BinOp ?_ | ((with_reducible refine J_Compare1 ?_ ?_); rfl) | with_reducible refine J_UnaryOp ?_
  | with_reducible refine JEs_nil ?_ | with_reducible refine JEs_cons ?_ | with_reducible refine JKs_nil ?_ | with_reducible refine JKs_cons ?_ | with_reducible refine JTests_nil ?_ | with_reducible refine JO_some ?_ | with_reducible refine JO_none ?_
  | ((with_reducible refine JB_Compare1 ?_ ?_); rfl) | with_reducible refine JB_not ?_ | with_reducible refine JB_BoolOp ?_
  | ((with_reducible refine J_List ?_ ?_); rfl) | ((with_reducible refine J_Tuple ?_ ?_); rfl))
local macro_rules | `(tactic| walk_at "jO") => `(tactic| first
  | with_reducible refine Op2_add ?_ | with_reducible refine Op2_sub ?_ | ((with_reducible refine Op2_mul ?_ ?_); first | exact .of_left (by decide) | exact .of_right (by decide))
  | ((with_reducible refine Op2_mod ?_ ?_); decide) | ((with_reducible refine Op2_floordiv ?_ ?_ ?_); decide; decide)
  | with_reducible refine Op2_eq ?_ | with_reducible refine Op2_ne ?_ | with_reducible refine Op2_lt ?_ | with_reducible refine Op2_le ?_ | with_reducible refine Op2_gt ?_ | with_reducible refine Op2_ge ?_
  | with_reducible refine Op2_band ?_ | with_reducible refine Op2_bor ?_ | with_reducible refine OpT_bool ?_)
local macro_rules | `(tactic| walk_at "jS") => `(tactic| first
  | with_reducible refine JSs_cons ?_ | ((with_reducible refine JS_Assign ?_ ?_); rfl) | with_reducible refine JS_If ?_
  | ((with_reducible refine JS_Expr ?_ ?_ ?_); (exact Liv.inter ‹_›); rfl)
  | with_reducible refine AsgJ_name ?_ | with_reducible refine AsgL_nil ?_ | with_reducible refine AsgL_cons ?_ | ((with_reducible refine' Set_loc ?k0 ?k1 ?k2 ?k3); (case k0 => assumption); (case k1 => decide +kernel); (case k2 => conv => lhs; whnf); (try simp only [List.set_cons_succ, List.set_cons_zero]))
  | ((with_reducible refine' Set_cel ?k0 ?k1 ?k2 ?k3 ?k5 ?k4); (case k0 => assumption); (case k1 => decide +kernel); (case k2 => conv => lhs; whnf); (case k3 => exact rfl); (case k5 => walk_at "sto"); walk_at "stn"))
local macro_rules | `(tactic| walk_at "jn") => `(tactic| first | walk_at "jE" | walk_at "jO" | walk_at "jS" | dsimp only)
local macro_rules | `(tactic| walk_at "js") => `(tactic| first | with_reducible refine JSs_nil ?_ | with_reducible refine JS_Return ?_ | walk_at "jE" | walk_at "jO" | walk_at "jS" | dsimp only)
section
noncomputable abbrev pb : List Stmt := PySem.Challenge.pw_ji0038_05.main.body
structure Def1 (K : Frag) (i : Nat) (x a : Str) (f : Addr) : Prop where
  fn : FnK K f (fnAt pb i).1 (fnAt pb i).2
  glb : Glb K x (.ref f)
  bind : ∀ S v, peek K S (bindArgs (fdOf K f) ⟨[v], []⟩) = some [(a, v)]
structure Def2 (K : Frag) (i : Nat) (x a b : Str) (f : Addr) : Prop where
  fn : FnK K f (fnAt pb i).1 (fnAt pb i).2
  glb : Glb K x (.ref f)
  bind : ∀ S v u, peek K S (bindArgs (fdOf K f) ⟨[v, u], []⟩) = some [(a, v), (b, u)]
structure Def0 (K : Frag) (i : Nat) (x : Str) (f : Addr) : Prop where
  fn : FnK K f (fnAt pb i).1 (fnAt pb i).2
  glb : Glb K x (.ref f)
  bind : ∀ S, peek K S (bindArgs (fdOf K f) ⟨[], []⟩) = some []
structure Buis (K : Frag) : Prop where
  len : Bui K "len" (.builtin "len")
  bytes : Bui K "bytes" (.type "bytes")
  range : Bui K "range" (.type "range")
  int : Bui K "int" (.type "int")
  isinstance : Bui K "isinstance" (.builtin "isinstance")
  ValueError : Bui K "ValueError" (.type "ValueError")
  TypeError : Bui K "TypeError" (.type "TypeError")
section
variable {W : Wd} {K : Frag} {C : Ctx} {A : Around} {σ : St} {X : KX} {Kk : KA} {f : Addr} {n : Nat}
theorem ObjectID_spec {a : AV} (T : Tops W K) (D : Def1 K 18 "ObjectID" "octets" f) (hFr : FrsC C) (hL : Like A C.A) (hA : AOK A (n + 1)) (hs : a.lt σ.objs.length = true) (h : Kk a σ) : JCallA W C A (.ref f) [a] [] [] Kk X σ := by
  refine JCallA_text (n := n) T D.fn (by decide +kernel) hFr hL hA (BindJ.p1 D.bind) rfl (by decide +kernel) (by decide +kernel) fun C' L eh ec1 ec2 elow hwf => ?_
  rw [show mkSlots (List.zip [("octets" : Str)] [a]) (fnAt pb 18).2.names σ.objs.length = [.v a] from rfl, show mkCells (List.zip [("octets" : Str)] [a]) (fnAt pb 18).2.names = [] from rfl, List.append_nil]
  show JSs W C' (_ :: _) _ _ _
  repeat walk_at "js"
  exact Ret_same hwf hs h
theorem S_IFMT_spec {i : Int} (T : Tops W K) (D : Def1 K 13 "S_IFMT" "mode" f) (hFr : FrsC C) (hL : Like A C.A) (hA : AOK A (n + 1)) (h : Kk (.int (Builtin.bitAnd i 61440)) σ) : JCallA W C A (.ref f) [.int i] [] [] Kk X σ := by
  refine JCallA_text (n := n) T D.fn (by decide +kernel) hFr hL hA (BindJ.p1 D.bind) rfl (by decide +kernel) (by decide +kernel) fun C' L eh ec1 ec2 elow hwf => ?_
  rw [show mkSlots (List.zip [("mode" : Str)] [AV.int i]) (fnAt pb 13).2.names σ.objs.length = [.v (.int i)] from rfl, show mkCells (List.zip [("mode" : Str)] [AV.int i]) (fnAt pb 13).2.names = [] from rfl, List.append_nil]
  show JSs W C' (_ :: _) _ _ _
  repeat walk_at "js"
  exact Ret_same hwf rfl h
theorem S_ISDIR_spec {i : Int} {f' : Addr} (T : Tops W K) (D : Def1 K 14 "S_ISDIR" "mode" f) (D' : Def1 K 13 "S_IFMT" "mode" f') (hd : nsIn K mainGlobals "S_IFDIR" = some (some (.int 16384 d))) (hFr : FrsC C) (hL : Like A C.A) (hA : AOK A (n + 1 + 1)) (h : Kk (.bool (Builtin.bitAnd i 61440 == 16384)) σ) : JCallA W C A (.ref f) [.int i] [] [] Kk X σ := by
  refine JCallA_text (n := n + 1) T D.fn (by decide +kernel) hFr hL hA (BindJ.p1 D.bind) rfl (by decide +kernel) (by decide +kernel) fun C' L eh ec1 ec2 elow hwf => ?_
  rw [show mkSlots (List.zip [("mode" : Str)] [AV.int i]) (fnAt pb 14).2.names σ.objs.length = [.v (.int i), .non, .non] from rfl, show mkCells (List.zip [("mode" : Str)] [AV.int i]) (fnAt pb 14).2.names = [] from rfl, List.append_nil]
  show JSs W C' (_ :: _) _ _ _
  repeat walk_at "js"
  refine J_CallG T L (by decide +kernel) D'.glb rfl rfl ?_
  repeat walk_at "js"
  refine (S_IFMT_spec T D' L.frs (.refl _) L.ok ?_).v
  repeat walk_at "js"
  refine J_glbA T L (by decide +kernel) hd (fun _ _ => DenA.int _ _) ?_
  repeat walk_at "js"
  exact Ret_same hwf rfl h
noncomputable def digs : List UInt8 := [48, 49, 50, 51, 52, 53, 54, 55, 56, 57, 97, 98, 99, 100, 101, 102]
noncomputable def hexI (l : List UInt8) : List Int := l.flatMap fun c => [(((digs.getD ((c.toNat : Int).fdiv 16).toNat 0).toNat : Nat) : Int), (((digs.getD (Builtin.bitAnd (c.toNat : Int) 15).toNat 0).toNat : Nat) : Int)]
noncomputable def hexL (l : List UInt8) : List UInt8 := octs (hexI l)
theorem hex_idx : ∀ n : Fin 256, 0 ≤ ((n.val : Int)).fdiv 16 ∧ ((n.val : Int)).fdiv 16 < 16 ∧ 0 ≤ Builtin.bitAnd (n.val : Int) 15 ∧ Builtin.bitAnd (n.val : Int) 15 < 16 := by decide +kernel
theorem hexI_len (l : List UInt8) : (hexI l).length = 2 * l.length := by
  induction l with
  | nil => rfl
  | cons c r ih => show (_ :: _ :: hexI r).length = _; simp only [List.length_cons, ih]; omega
theorem hexI_step {l : List UInt8} {i : Nat} {c : UInt8} (h : l[i]? = some c) : hexI (l.take (i + 1)) = hexI (l.take i) ++ hexI [c] := by
  unfold hexI
  rw [List.take_add_one, h]
  simp [List.flatMap_append]
theorem hexI_range (l : List UInt8) : ∀ n ∈ hexI l, 0 ≤ n ∧ n < 256 := by
  intro n hn
  unfold hexI at hn
  refine el_1_2 (List.mem_flatMap.mp hn) fun c _ hc => ?_
  have : ∀ u : UInt8, 0 ≤ ((u.toNat : Nat) : Int) ∧ ((u.toNat : Nat) : Int) < 256 := fun u => ⟨Int.natCast_nonneg _, by have := u.toNat_lt; omega⟩
  rcases List.mem_cons.mp hc with rfl | hc
  · exact this _
  · rw [List.mem_singleton.mp hc]; exact this _
theorem toInts_int : ∀ is : List Int, toInts (is.map AV.int) = some is
  | [] => rfl
  | i :: r => by show (toInts (r.map AV.int)).map _ = _; rw [toInts_int r]; rfl
theorem half_at {c : UInt8} {j : Nat} {a : AV} (h : [AV.int ((c.toNat : Int).fdiv (2 ^ Int.toNat 4)), AV.int (Builtin.bitAnd (c.toNat : Int) 15)][j]? = some a) :
    ∃ v : Int, a = .int v ∧ 0 ≤ v ∧ v < 16 ∧ (hexI [c]).take (j + 1) = (hexI [c]).take j ++ [(((digs.getD v.toNat 0).toNat : Nat) : Int)] := by
  refine el_0_4 (hex_idx ⟨c.toNat, c.toNat_lt⟩) fun h1 h2 h3 h4 => ?_
  cases j with
  | zero => cases h; exact ⟨_, rfl, h1, h2, rfl⟩
  | succ j => cases j with
    | zero => cases h; exact ⟨_, rfl, h3, h4, rfl⟩
    | succ j => simp at h
theorem hexlify_spec {l : List UInt8} (T : Tops W K) (D : Def1 K 15 "hexlify" "octets" f) (U : Buis K) (hFr : FrsC C) (hL : Like A C.A) (hA : AOK A (n + 1)) (hh : C.A.handled = none) (hcl : C.hclean = true) (hz : l.length ≤ 4000) (h : Kk (.byt (hexL l)) σ) : JCallA W C A (.ref f) [.byt l] [] [] Kk X σ := by
  refine JCallA_text (n := n) T D.fn (by decide +kernel) hFr hL hA (BindJ.p1 D.bind) rfl (by decide +kernel) (by decide +kernel) fun C' L eh ec1 ec2 elow hwf => ?_
  rw [show mkSlots (List.zip [("octets" : Str)] [AV.byt l]) (fnAt pb 15).2.names σ.objs.length = [.v (.byt l), .cell σ.objs.length, .non] from rfl, show mkCells (List.zip [("octets" : Str)] [AV.byt l]) (fnAt pb 15).2.names = [.cell none] from rfl]
  show JSs W C' (_ :: _) _ _ _
  repeat walk_at "js"
  refine J_CallB T L (by decide +kernel) U.bytes rfl rfl ?_
  refine JEs_cons ?_
  refine listComp_J (by decide +kernel) (by rw [L.scope]; decide +kernel) rfl (fun _ => rfl) L.frs (FreeOK.of L rfl) ?_
  repeat walk_at "js"
  refine ⟨FreeOK.of L rfl, _, _, none, _, _, _, rfl, Iters_bytes, fun _ => eh.trans hh, fun acc D => ?_⟩
  refine CompTurns.go L rfl rfl fun C2 L2 eA _ ec elow2 => ?_
  refine ⟨fun i τ => ∃ o hf, τ = ⟨[.non, o, hf, .cell σ.objs.length], σ.objs ++ [.cell (some (.byt digs)), .list ((hexI (l.take i)).map .int)]⟩, fun _ _ _ => trivial, fun i a τ ha ⟨o, hf, hτ⟩ => ?_, ⟨_, _, by rw [L.scope]; walk_at "stn"; rfl⟩, fun _ τ ⟨o, hf, hτ⟩ => ?_, fun _ _ h => nomatch h⟩
  · subst hτ
    rw [List.getElem?_map] at ha
    refine el_1_2 (Option.map_eq_some_iff.mp ha) fun c hc hE507 => ?_; subst hE507
    repeat walk_at "js"
    refine ⟨fun _ => ?_, fun h => nomatch h⟩
    refine RunU_inner rfl rfl rfl L2.frs (fun _ => rfl) ?_
    repeat walk_at "js"
    refine Op2_shr (Int.natCast_nonneg _) (by decide) ?_
    repeat walk_at "js"
    refine ⟨by simp, by walk_at "stn"; omega, _, _, _, _, Iters_tuple, ⟨ec.trans (ec2.trans hcl), rfl⟩, CompTurns.lowGo L2 fun C3 L3 eA3 _ ec3 elow3 => ?_⟩
    refine ⟨fun j τ => ∃ o hf, τ = ⟨[.non, o, hf, .cell σ.objs.length], σ.objs ++ [.cell (some (.byt digs)), .list ((hexI (l.take i) ++ (hexI [c]).take j).map .int)]⟩, fun _ _ _ => trivial, fun j a τ hj hQ2 => ?_, ⟨_, _, by rw [List.take_zero, List.append_nil]⟩, fun _ τ hQ3 => ?_, fun _ _ h => nomatch h⟩
    · refine el_2_1 hQ2 fun o hf hτ => ?_
      subst hτ
      repeat walk_at "js"
      refine ⟨fun _ => ?_, fun h => nomatch h⟩
      refine RunU_append rfl ?_
      refine el_1_4 (half_at hj) fun v hE508 hv0 hv1 hv2 => ?_; subst hE508
      refine J_Subscript ?_
      repeat walk_at "js"
      refine OpS_bytes (by decide) hv0 hv1 ?_
      refine ⟨_, by walk_at "stn"; rfl, ?_, _, .inl rfl, o, .v (.int v), ?_⟩
      · rw [List.length_map, List.length_append, hexI_len, List.length_take, List.length_take, hexI_len]; simp only [List.length_cons, List.length_nil]; omega
      · walk_at "stn"
        rw [hv2]
        simp only [List.map_append, List.map_cons, List.map_nil, List.append_assoc]
    · refine el_2_1 hQ3 fun o hf hτ => ?_
      subst hτ
      exact ⟨_, .inl rfl, o, hf, by rw [hexI_step hc]; rfl⟩
  · subst hτ
    rw [List.length_map, List.take_length]
    repeat walk_at "js"
    refine JC_bytes (eh.trans hh) (by walk_at "sto") (toInts_int _) (hexI_range l) (by rw [hexI_len]; omega) ?_
    repeat walk_at "js"
    exact Ret_drop hwf rfl h
noncomputable def digV (c : Int) : Int := if 48 ≤ c ∧ c ≤ 57 then c - 48 else if 65 ≤ c ∧ c ≤ 70 then c - 55 else c - 87
theorem digit_spec {c : Int} (T : Tops W K) (D : Def1 K 16 "_digit" "octet" f) (hFr : FrsC C) (hL : Like A C.A) (hA : AOK A (n + 1)) (hc : (48 ≤ c ∧ c ≤ 57) ∨ (97 ≤ c ∧ c ≤ 102)) (h : Kk (.int (digV c)) σ) : JCallA W C A (.ref f) [.int c] [] [] Kk X σ := by
  refine JCallA_text (n := n) T D.fn (by decide +kernel) hFr hL hA (BindJ.p1 D.bind) rfl (by decide +kernel) (by decide +kernel) fun C' L eh ec1 ec2 elow hwf => ?_
  rw [show mkSlots (List.zip [("octet" : Str)] [AV.int c]) (fnAt pb 16).2.names σ.objs.length = [.v (.int c), .non] from rfl, show mkCells (List.zip [("octet" : Str)] [AV.int c]) (fnAt pb 16).2.names = [] from rfl, List.append_nil]
  show JSs W C' (_ :: _) _ _ _
  repeat walk_at "js"
  refine JB_Compare2 rfl ?_
  repeat walk_at "js"
  rcases hc with ⟨h1, h2⟩ | ⟨h1, h2⟩
  · refine br_t (decide_eq_true h1) ?_
    repeat walk_at "js"
    refine br_t (decide_eq_true h2) ?_
    repeat walk_at "js"
    exact Ret_same hwf rfl (by unfold digV at h; rwa [if_pos ⟨h1, h2⟩] at h)
  · refine br_t (decide_eq_true (by omega)) ?_
    repeat walk_at "js"
    refine br_f (decide_eq_false (by omega)) ?_
    repeat walk_at "js"
    refine JB_Compare2 rfl ?_
    repeat walk_at "js"
    refine br_t (decide_eq_true (by omega)) ?_
    repeat walk_at "js"
    refine br_f (decide_eq_false (by omega)) ?_
    repeat walk_at "js"
    refine JB_Compare2 rfl ?_
    repeat walk_at "js"
    refine br_t (decide_eq_true h1) ?_
    repeat walk_at "js"
    refine br_t (decide_eq_true h2) ?_
    repeat walk_at "js"
    exact Ret_same hwf rfl (by unfold digV at h; rwa [if_neg (by omega), if_neg (by omega)] at h)
noncomputable def isHex (c : UInt8) : Bool := (48 ≤ c && c ≤ 57) || (97 ≤ c && c ≤ 102)
theorem rngVals_get {a b c : Int} {i : Nat} {x : AV} (h : (rngVals a b c)[i]? = some x) : x = .int (a + i * c) ∧ (i : Int) < Builtin.Range.rangeSize a b c := by
  unfold rngVals at h
  rw [List.getElem?_map] at h
  refine el_1_2 (Option.map_eq_some_iff.mp h) fun j h1 h2 => ?_
  refine el_1_1 (List.getElem?_eq_some_iff.mp h1) fun h3 h4 => ?_
  rw [List.length_range] at h3
  rw [List.getElem_range] at h4
  subst h4
  exact ⟨h2.symm, by omega⟩
theorem rng2_small {b : Int} (h0 : 0 ≤ b) (hb : b ≤ 100000000) : Builtin.Range.small 0 b 2 = true := by
  unfold Builtin.Range.small Builtin.Range.rangeSize
  simp only [Builtin.Range.rangeFitsLong, Bool.and_eq_true, Bool.or_eq_true, decide_eq_true_eq, beq_iff_eq, show (2 : Int) > 0 by decide, if_true]
  split <;> omega
theorem rng2_size {b : Int} (h : 0 ≤ b) : Builtin.Range.rangeSize 0 b 2 = (b + 1) / 2 := by
  unfold Builtin.Range.rangeSize
  simp only [show (2 : Int) > 0 by decide, if_true]
  split <;> omega
theorem isHex_at {l : List UInt8} (hx : l.all isHex = true) {i : Nat} (hi : i < l.length) : (48 ≤ (((l.getD i 0).toNat : Nat) : Int) ∧ (((l.getD i 0).toNat : Nat) : Int) ≤ 57) ∨ (97 ≤ (((l.getD i 0).toNat : Nat) : Int) ∧ (((l.getD i 0).toNat : Nat) : Int) ≤ 102) := by
  have h1 : l.getD i 0 = l[i] := by rw [List.getD_eq_getElem?_getD, List.getElem?_eq_getElem hi]; rfl
  have h2 := List.all_eq_true.mp hx _ (List.getElem_mem hi)
  rw [h1]
  unfold isHex at h2
  simp only [Bool.or_eq_true, Bool.and_eq_true, decide_eq_true_eq, UInt8.le_iff_toNat_le] at h2
  have e1 : (48 : UInt8).toNat = 48 := rfl
  have e2 : (57 : UInt8).toNat = 57 := rfl
  have e3 : (97 : UInt8).toNat = 97 := rfl
  have e4 : (102 : UInt8).toNat = 102 := rfl
  rw [e1, e2, e3, e4] at h2
  omega
theorem digV_range {c : Int} (hc : (48 ≤ c ∧ c ≤ 57) ∨ (97 ≤ c ∧ c ≤ 102)) : 0 ≤ digV c ∧ digV c < 16 := by
  unfold digV
  split
  · omega
  · split <;> omega
theorem unhexlify_spec {l : List UInt8} {g : Addr} (T : Tops W K) (D : Def1 K 17 "unhexlify" "text" f) (G : Def1 K 16 "_digit" "octet" g) (U : Buis K) (hFr : FrsC C) (hL : Like A C.A) (hA : AOK A (n + 1 + 1)) (hh : C.A.handled = none) (hcl : C.hclean = true) (hz : l.length ≤ 8000) (he : l.length % 2 = 0) (hx : l.all isHex = true) (h : ∀ b, Kk (.byt b) σ) : JCallA W C A (.ref f) [.byt l] [] [] Kk X σ := by
  refine JCallA_text (n := n + 1) T D.fn (by decide +kernel) hFr hL hA (BindJ.p1 D.bind) rfl (by decide +kernel) (by decide +kernel) fun C' L eh ec1 ec2 elow hwf => ?_
  rw [show mkSlots (List.zip [("text" : Str)] [AV.byt l]) (fnAt pb 17).2.names σ.objs.length = [.cell σ.objs.length, .non, .non, .non, .non] from rfl, show mkCells (List.zip [("text" : Str)] [AV.byt l]) (fnAt pb 17).2.names = [.cell (some (.byt l))] from rfl]
  show JSs W C' (_ :: _) _ _ _
  repeat walk_at "js"
  refine JB_value ?_ (fun _ _ => rfl)
  repeat walk_at "js"
  refine J_CallB T L (by decide +kernel) U.len rfl rfl ?_
  repeat walk_at "js"
  refine JC_len_byt (by omega) ?_
  repeat walk_at "js"
  refine OpT_int (br_f ?_ ?_)
  · rw [Int.fmod_eq_emod_of_nonneg _ (by decide)]
    have : ((l.length : Int) % 2) = 0 := by omega
    rw [this]; rfl
  repeat walk_at "js"
  refine J_CallB T L (by decide +kernel) U.bytes rfl rfl ?_
  refine JEs_cons ?_
  refine listComp_J (by decide +kernel) (by rw [L.scope]; decide +kernel) rfl (fun _ => rfl) L.frs (FreeOK.of L rfl) ?_
  refine J_CallB T L (by decide +kernel) U.range rfl rfl ?_
  repeat walk_at "js"
  refine J_CallB T L (by decide +kernel) U.len rfl rfl ?_
  repeat walk_at "js"
  refine JC_len_byt (by omega) ?_
  repeat walk_at "js"
  refine JC_range3 (by decide) (PyProof.noPylong_of_log2 (by decide +kernel)) ?_
  repeat walk_at "js"
  refine ⟨FreeOK.of L rfl, _, _, none, _, _, _, rfl, Iters_range (by walk_at "sto") ?_, fun _ => eh.trans hh, fun acc D => ?_⟩
  · exact rng2_small (Int.natCast_nonneg _) (by omega)
  refine CompTurns.go L rfl rfl fun C2 L2 eA _ ec elow2 => ?_
  refine ⟨fun i τ => ∃ o is, τ = ⟨[.non, o, .non, .cell σ.objs.length], σ.objs ++ [.cell (some (.byt l)), .rng 0 l.length 2, .list (is.map AV.int)]⟩ ∧ is.length ≤ i ∧ ∀ n ∈ is, 0 ≤ n ∧ n < 256, fun _ _ _ => trivial, fun i a τ ha ⟨o, is, hτ, hlen, hr⟩ => ?_, ⟨.non, [], by rw [L.scope]; walk_at "stn"; rfl, Nat.zero_le _, fun _ h => nomatch h⟩, fun _ τ ⟨o, is, hτ, hlen, hr⟩ => ?_, fun _ _ h => nomatch h⟩
  · subst hτ
    refine el_0_2 (rngVals_get ha) fun hE509 hi => ?_; subst hE509
    rw [rng2_size (Int.natCast_nonneg _)] at hi
    have hi1 : 2 * i + 1 < l.length := by omega
    have d1 := isHex_at hx (i := 2 * i) (by omega)
    have d2 := isHex_at hx (i := 2 * i + 1) (by omega)
    have t1 : ((0 : Int) + i * 2).toNat = 2 * i := by omega
    have t2 : ((0 : Int) + i * 2 + 1).toNat = 2 * i + 1 := by omega
    repeat walk_at "js"
    refine ⟨fun _ => ?_, fun h => nomatch h⟩
    refine RunU_append rfl ?_
    repeat walk_at "js"
    refine J_CallG T L2 (by decide +kernel) G.glb rfl rfl ?_
    repeat walk_at "js"
    refine J_Subscript ?_
    repeat walk_at "js"
    refine OpS_bytes (by omega) (by omega) (by omega) ?_
    rw [t1]
    repeat walk_at "js"
    refine (digit_spec T G L2.frs (.refl _) L2.ok d1 ?_).v
    repeat walk_at "js"
    refine J_CallG T L2 (by decide +kernel) G.glb rfl rfl ?_
    repeat walk_at "js"
    refine J_Subscript ?_
    repeat walk_at "js"
    refine OpS_bytes (by omega) (by omega) (by omega) ?_
    rw [t2]
    repeat walk_at "js"
    refine (digit_spec T G L2.frs (.refl _) L2.ok d2 ?_).v
    repeat walk_at "js"
    have r1 := digV_range d1
    have r2 := digV_range d2
    generalize hv : digV _ * 16 + digV _ = v
    have hv2 : 0 ≤ v ∧ v < 256 := by omega
    refine ⟨_, by walk_at "sto", ?_, _, .inl rfl, .v (.int (0 + i * 2)), is ++ [v], ?_, ?_, ?_⟩
    · rw [List.length_map]; omega
    · walk_at "stn"; simp only [List.map_append, List.map_cons, List.map_nil]
    · rw [List.length_append]; simp only [List.length_cons, List.length_nil]; omega
    · intro n hn
      rcases List.mem_append.mp hn with q | q
      · exact hr n q
      · rw [List.mem_singleton.mp q]; exact hv2
  · subst hτ
    repeat walk_at "js"
    refine JC_bytes (eh.trans hh) (by walk_at "sto") (toInts_int _) hr ?_ ?_
    · have : (rngVals 0 (↑l.length) 2).length = (Builtin.Range.rangeSize 0 l.length 2).toNat := by unfold rngVals; simp
      rw [this, rng2_size (Int.natCast_nonneg _)] at hlen
      omega
    repeat walk_at "js"
    exact Ret_drop hwf rfl (h _)
theorem hexL_len (l : List UInt8) : (hexL l).length = 2 * l.length := by unfold hexL octs; rw [List.length_map, hexI_len]
structure Hexs (K : Frag) (hexlify digit unhexlify objectID rawID shaToHex valid check : Addr) : Prop where
  hexlify : Def1 K 15 "hexlify" "octets" hexlify
  digit : Def1 K 16 "_digit" "octet" digit
  unhexlify : Def1 K 17 "unhexlify" "text" unhexlify
  objectID : Def1 K 18 "ObjectID" "octets" objectID
  rawID : Def1 K 19 "RawObjectID" "octets" rawID
  shaToHex : Def1 K 28 "sha_to_hex" "sha" shaToHex
  valid : Def1 K 30 "valid_hexsha" "hex" valid
  check : Def2 K 31 "check_hexsha" "hex" "error_msg" check
variable {a1 a2 a3 a4 a5 a6 a7 a8 : Addr}
theorem RawObjectID_spec {a : AV} (T : Tops W K) (D : Def1 K 19 "RawObjectID" "octets" f) (hFr : FrsC C) (hL : Like A C.A) (hA : AOK A (n + 1)) (hs : a.lt σ.objs.length = true) (h : Kk a σ) : JCallA W C A (.ref f) [a] [] [] Kk X σ := by
  refine JCallA_text (n := n) T D.fn (by decide +kernel) hFr hL hA (BindJ.p1 D.bind) rfl (by decide +kernel) (by decide +kernel) fun C' L eh ec1 ec2 elow hwf => ?_
  rw [show mkSlots (List.zip [("octets" : Str)] [a]) (fnAt pb 19).2.names σ.objs.length = [.v a] from rfl, show mkCells (List.zip [("octets" : Str)] [a]) (fnAt pb 19).2.names = [] from rfl, List.append_nil]
  show JSs W C' (_ :: _) _ _ _
  repeat walk_at "js"
  exact Ret_same hwf hs h
theorem sha_to_hex_spec {l : List UInt8} (T : Tops W K) (H : Hexs K a1 a2 a3 a4 a5 a6 a7 a8) (U : Buis K) (hFr : FrsC C) (hL : Like A C.A) (hA : AOK A (n + 1 + 1)) (hh : C.A.handled = none) (hcl : C.hclean = true) (hz : l.length = 20) (h : Kk (.byt (hexL l)) σ) : JCallA W C A (.ref a6) [.byt l] [] [] Kk X σ := by
  refine JCallA_text (n := n + 1) T H.shaToHex.fn (by decide +kernel) hFr hL hA (BindJ.p1 H.shaToHex.bind) rfl (by decide +kernel) (by decide +kernel) fun C' L eh ec1 ec2 elow hwf => ?_
  rw [show mkSlots (List.zip [("sha" : Str)] [AV.byt l]) (fnAt pb 28).2.names σ.objs.length = [.v (.byt l), .non, .non, .non, .non, .non] from rfl, show mkCells (List.zip [("sha" : Str)] [AV.byt l]) (fnAt pb 28).2.names = [] from rfl, List.append_nil]
  show JSs W C' (_ :: _) _ _ _
  repeat walk_at "js"
  refine J_CallG T L (by decide +kernel) H.hexlify.glb rfl rfl ?_
  repeat walk_at "js"
  refine (hexlify_spec T H.hexlify U L.frs (.refl _) L.ok (eh.trans hh) (ec2.trans hcl) (by omega) ?_).v
  repeat walk_at "js"
  refine J_CallB T L (by decide +kernel) U.len rfl rfl ?_
  repeat walk_at "js"
  refine JC_len_byt (by rw [hexL_len]; omega) ?_
  repeat walk_at "js"
  refine ⟨by decide, Op2_notInT_int (is := [40, 64]) rfl ?_⟩
  rw [hexL_len, hz]
  repeat walk_at "js"
  refine br_f rfl ?_
  repeat walk_at "js"
  refine J_CallG T L (by decide +kernel) H.objectID.glb rfl rfl ?_
  repeat walk_at "js"
  refine (ObjectID_spec T H.objectID L.frs (.refl _) L.ok rfl ?_).v
  repeat walk_at "js"
  exact Ret_same hwf rfl h
theorem valid_hexsha_spec {l : List UInt8} (T : Tops W K) (H : Hexs K a1 a2 a3 a4 a5 a6 a7 a8) (U : Buis K) (hFr : FrsC C) (hL : Like A C.A) (hA : AOK A (n + 1 + 1 + 1)) (hh : C.A.handled = none) (hcl : C.hclean = true) (hz : l.length = 40) (hx : l.all isHex = true) (h : Kk (.bool true) σ) : JCallA W C A (.ref a7) [.byt l] [] [] Kk X σ := by
  refine JCallA_text (n := n + 1 + 1) T H.valid.fn (by decide +kernel) hFr hL hA (BindJ.p1 H.valid.bind) rfl (by decide +kernel) (by decide +kernel) fun C' L eh ec1 ec2 elow hwf => ?_
  rw [show mkSlots (List.zip [("hex" : Str)] [AV.byt l]) (fnAt pb 30).2.names σ.objs.length = [.v (.byt l), .non, .non, .non, .non] from rfl, show mkCells (List.zip [("hex" : Str)] [AV.byt l]) (fnAt pb 30).2.names = [] from rfl, List.append_nil]
  show JSs W C' (_ :: _) _ _ _
  repeat walk_at "js"
  refine J_CallB T L (by decide +kernel) U.len rfl rfl ?_
  repeat walk_at "js"
  refine JC_len_byt (by omega) ?_
  repeat walk_at "js"
  refine ⟨by decide, Op2_notInT_int (is := [40, 64]) rfl ?_⟩
  rw [hz]
  repeat walk_at "js"
  refine br_f rfl ?_
  repeat walk_at "js"
  refine JS_Try L.frs ?_
  repeat walk_at "js"
  refine J_CallG T L (by decide +kernel) H.unhexlify.glb rfl rfl ?_
  repeat walk_at "js"
  refine (unhexlify_spec T H.unhexlify H.digit U L.frs (.refl _) L.ok (eh.trans hh) (ec2.trans hcl) (by omega) (by omega) hx fun b => ?_).v
  repeat walk_at "js"
  exact Ret_same hwf rfl h
theorem check_hexsha_spec {l : List UInt8} {m : Str} (T : Tops W K) (H : Hexs K a1 a2 a3 a4 a5 a6 a7 a8) (U : Buis K) (hFr : FrsC C) (hL : Like A C.A) (hA : AOK A (n + 1 + 1 + 1 + 1)) (hh : C.A.handled = none) (hcl : C.hclean = true) (hz : l.length = 40) (hx : l.all isHex = true) (h : Kk .non σ) : JCallA W C A (.ref a8) [.byt l, .str m] [] [] Kk X σ := by
  refine JCallA_text (n := n + 1 + 1 + 1) T H.check.fn (by decide +kernel) hFr hL hA (BindJ.p2 H.check.bind) rfl (by decide +kernel) (by decide +kernel) fun C' L eh ec1 ec2 elow hwf => ?_
  rw [show mkSlots (List.zip [("hex" : Str), ("error_msg" : Str)] [AV.byt l, .str m]) (fnAt pb 31).2.names σ.objs.length = [.v (.byt l), .v (.str m), .non, .non] from rfl, show mkCells (List.zip [("hex" : Str), ("error_msg" : Str)] [AV.byt l, .str m]) (fnAt pb 31).2.names = [] from rfl, List.append_nil]
  show JSs W C' (_ :: _) _ _ _
  repeat walk_at "js"
  refine JB_value ?_ (fun _ _ => rfl)
  refine J_CallG T L (by decide +kernel) H.valid.glb rfl rfl ?_
  repeat walk_at "js"
  refine (valid_hexsha_spec T H U L.frs (.refl _) L.ok (eh.trans hh) (ec2.trans hcl) hz hx ?_).v
  repeat walk_at "js"
  refine br_f rfl ?_
  repeat walk_at "js"
  exact Nxt_same hwf h
end
end
section
structure OFE (W : Wd) (K : Frag) (c : Addr) : Prop where
  exc : IsExc W (.ref c)
  ns : nsIn K mainGlobals "ObjectFormatException" = some (some (.ref c))
  stop : ∀ h, (∀ b o, W.h1.get? b = some o → h.get? b = some o) → Looks (model W.prog W.w) h (isSubtype (.ref c) (.type "StopIteration")) false
noncomputable def Ent.row (e : Ent) : AV := .tu [.byt e.name, .int (modeOf e.fig), .byt (hexL e.sha)]
noncomputable def parseVars (t : List UInt8) (strict : Bool) : List VS := [.v (.byt t), .v (.int 20), .v (.bool strict), .non, .non, .non, .non, .non, .non, .non, .non, .non, .non, .non, .non, .non, .non, .non, .non]
section
variable {W : Wd} {K : Frag} {C : Ctx} {A : Around} {σ : St} {X : KX} {Kk : KA} {f c : Addr} {n k m : Nat} {es : List Ent} {strict : Bool} {endX : Option (Value × Bool)} {a1 a2 a3 a4 a5 a6 a7 a8 : Addr}
theorem GK.nxt {g : Nat} {vals : List AV} {cd : Code} {fs : List Frame} {Kf : PySem.Flow → Sem PySem.Fin} (h : GJ W A g endX vals n cd fs (Kf .next) C σ) : GK W A g endX vals n cd fs Kf C .next σ := h
theorem GJ.toLoop {g n' : Nat} {sc : Scope} {vals : List AV} {cd : Code} {env : Env} {test : Expr} {b o : List Stmt} {k' : Result → Sem PySem.Fin} {g' : Bool} {lv : List Value} {p : Pos} (hg : GenC A C) (he : env = C.env) (G : GLiv A (genCtx A env (.whileLoop test b o env) [.ret k' none g' lv cd p []]) env (.whileLoop test b o env) [.ret k' none g' lv cd p []] sc n')
    (h : ∀ C2, C2.env = C.env → GLiv A C2 C2.env (.whileLoop test b o C2.env) [.ret k' none g' lv cd p []] sc n' → GJ W A g endX vals n (.whileLoop test b o C2.env) [.ret k' none g' lv cd p []] ((model W.prog W.w).den (.whileLoop test b o C2.env)) C2 σ) : GJ W A g endX vals n (.whileLoop test b o env) [.ret k' none g' lv cd p []] ((model W.prog W.w).den (.whileLoop test b o env)) C σ := GJ.like hg G.gen he (h _ he G)
theorem GJ.whileInd {g : Nat} {vals : List AV} {cd : Code} {fs : List Frame} {tm : Sem PySem.Fin} {P : Nat → Nat → St → Prop} (step : ∀ t n σ, P t n σ → (∀ t' n' σ', t' < t → P t' n' σ' → GJ W A g endX vals n' cd fs tm C σ') → GJ W A g endX vals n cd fs tm C σ) {t n : Nat} {σ : St} (h : P t n σ) : GJ W A g endX vals n cd fs tm C σ := by
  induction t using Nat.strongRecOn generalizing n σ with
  | ind t ih => exact step t n σ h fun t' n' σ' hl h' => ih t' hl h'
theorem type_bytes_startswith : typeOf (.builtin "bytes.startswith") = pure (.type "method_descriptor") := by show builtinType _ = _; rw [builtinType_eq_fast]; kernel_rfl
theorem J_fstr2 {x : Str} {e : Expr} {k1 : Nat} {p1 p2 p : Pos} (hx : x.length ≤ 1000) (h : J W C e (fun a σ₁ => ∃ l, a = .byt l ∧ l.length ≤ 1000000 ∧ ∀ y, Kk (.str y) σ₁) X σ) : J W C (.JoinedStr [.Constant (.str x) k1 p1, .FormattedValue e 114 none p2] p) Kk X σ := by
  have e1 : (Str.empty ++ x).length = x.length := by rw [strLen_append]; exact Nat.zero_add _
  refine J_JoinedStr (JFs_cons (J_str ⟨x, rfl, by rw [e1, sizeLine_eq]; omega, JFs_cons (J_FmtRepr ?_)⟩))
  intro B ρ s R
  refine wpAny_mono (h B ρ s R) (fun v s1 hP => hP.el fun ρ1 a σ1 q1 R1 d1 ⟨l, ea, hz, k⟩ => ⟨ρ1, a, σ1, q1, R1, d1, l, ea, hz, _, rfl, ?_, JFs_nil ?_ (k _)⟩) fun _ _ x => x
  all_goals
    have := lit_size l.toArray
    rw [List.size_toArray] at this
    rw [strLen_append, e1, sizeLine_eq]
    omega
theorem JAll_and_val {x y : Expr} {bx by' : Bool} {Kb : Bool → St → Prop} (hx : ∀ Kb : Bool → St → Prop, Kb bx σ → JB W C x Kb X σ) (hy : bx = true → ∀ Kb : Bool → St → Prop, Kb by' σ → JB W C y Kb X σ) (h : Kb (bx && by') σ) : JAll W C .And [x, y] Kb X σ := by
  refine JAll_and (hx _ ?_)
  cases bx with
  | false => exact br_f rfl h
  | true =>
    refine br_t rfl (JAll_and (hy rfl _ ?_))
    cases by' with
    | false => exact br_f rfl h
    | true => exact br_t rfl (JAll_and_nil h)
theorem parse_iters (T : Tops W K) (F : FnK K f (fnAt pb 42).1 (fnAt pb 42).2) (H : Hexs K a1 a2 a3 a4 a5 a6 a7 a8) (U : Buis K) (O : OFE W K c) (hF : FrsC C) (hh : C.A.handled = none) (hA : AOK C.A (n + 1 + 1 + 1))
    (ho : σ.objs[k]? = some (.gen f (fdOf K f) (fnAt pb 42).1 (parseVars (textOf es) strict))) (hok : ∀ e ∈ es, e.OK) (hsz : es.length ≤ 1000) (hm : m ≤ es.length) (hg : ∀ i < m, ∀ e, es[i]? = some e → (strict && preOf e.fig [48]) = false)
    (hx : (endX = none ∧ m = es.length) ∨ (endX = some (.ref c, true) ∧ ∃ e, es[m]? = some e ∧ (strict && preOf e.fig [48]) = true)) :
    Iters W C (fun C' => C'.A = C.A ∧ C'.hclean = true ∧ k < C'.low) (fun i σ' => σ'.objs[k]? = some (.sem (GenI W C.A ((es.take m).map Ent.row) endX (((es.take m).map Ent.row).length - i)))) (fun i σ' => { σ' with objs := σ'.objs.set k (if i < ((es.take m).map Ent.row).length then .sem (GenI W C.A ((es.take m).map Ent.row) endX (((es.take m).map Ent.row).length - (i + 1))) else .junk) })
      (.obj k) ((es.take m).map Ent.row) endX σ { σ with objs := σ.objs.set k (.sem (GenI W C.A ((es.take m).map Ent.row) endX ((es.take m).map Ent.row).length)) } := by
  refine el_0_5 (gnOK_all (sc := (fnAt pb 42).2) (by decide +kernel)) fun hk hco hgen hnd hcell => ?_
  have gf : ∀ L, GLiv C.A (genCtx C.A (callEnvC (fdOf K f) L f) (.func (fnAt pb 42).1 (callEnvC (fdOf K f) L f)) []) (callEnvC (fdOf K f) L f) (.func (fnAt pb 42).1 (callEnvC (fdOf K f) L f)) [] (fnAt pb 42).2 (n + 1 + 1) := fun L =>
    gliv_func hF hh hA (by rw [F.scope]; exact hk) (by rw [F.scope]; exact hco) F.glob F.bi F.scope
  refine Iters_gen ho (fun sl h => ?_) T.lim hA.room (fun c' cl e h hk => ?_) (fun L => (gf L).gen) (fun L g => ?_)
  · unfold parseVars at h
    simp only [List.mem_cons, List.not_mem_nil, or_false] at h
    rcases h with h | h | h | h | h | h | h | h | h | h | h | h | h | h | h | h | h | h | h <;> subst h <;> rfl
  · rcases hx with ⟨hx, _⟩ | ⟨hx, _⟩ <;> rw [hx] at e <;> cases e
    exact O.stop h hk
  · have G := gf L
    have LL := G.liv
    refine GJ.func ?_
    have gl : ∀ (test : Expr) (b o : List Stmt) (k' : Result → Sem PySem.Fin) (g' : Bool) (lv : List Value) (p : Pos), GLiv C.A (genCtx C.A (callEnvC (fdOf K f) L f) (.whileLoop test b o (callEnvC (fdOf K f) L f)) [.ret k' none g' lv (.func (fnAt pb 42).1 (callEnvC (fdOf K f) L f)) p []]) (callEnvC (fdOf K f) L f) (.whileLoop test b o (callEnvC (fdOf K f) L f)) [.ret k' none g' lv (.func (fnAt pb 42).1 (callEnvC (fdOf K f) L f)) p []] (fnAt pb 42).2 (n + 1 + 1) := fun test b o k' g' lv p =>
      gliv_loop hF hh hA (by rw [F.scope]; exact hk) (by rw [F.scope]; exact hco) F.glob F.bi F.scope
    generalize hC : genCtx C.A (callEnvC (fdOf K f) L f) (.func (fnAt pb 42).1 (callEnvC (fdOf K f) L f)) [] = C1 at G LL ⊢
    generalize (callEnvC (fdOf K f) L f) = env at *
    obtain rfl := G.env
    show GJ _ _ _ _ _ _ _ _ ((execs (_ :: _) _).wrap _ _ _ _) _ _
    refine GJ.cons ?_
    refine GJ.stmt G.hA ?_
    repeat walk_at "js"
    refine GK.nxt ?_
    dsimp only
    refine GJ.cons (GJ.stmt G.hA ?_)
    unfold parseVars
    repeat walk_at "js"
    refine GK.nxt ?_
    dsimp only
    refine GJ.cons (GJ.stmt G.hA ?_)
    repeat walk_at "js"
    refine J_CallB T LL (by decide +kernel) U.len rfl rfl ?_
    repeat walk_at "js"
    refine JC_len_byt (by have := text_bound hok; omega) ?_
    repeat walk_at "js"
    refine GK.nxt ?_
    dsimp only
    refine GJ.cons (GJ.While fun p => ?_)
    refine GJ.toLoop G.gen rfl (gl _ _ _ _ _ _ _) fun C2 e2 G2 => ?_
    have L2 := G2.liv
    have hvl : ((es.take m).map Ent.row).length = m := by rw [List.length_map, List.length_take]; omega
    rw [hvl]
    refine GJ.whileInd (P := fun t j σ => j = t ∧ j ≤ m ∧ ∃ (cnt : Int) (v6 v7 v8 v10 v11 v12 v13 : VS), cnt = (textOf (es.take (m - j))).length ∧ σ = ⟨[.v (.byt (textOf es)), .v (.int 20), .v (.bool strict), .v (.int cnt), .v (.int ((textOf es).length : Nat)), v6, v7, v8, .non, v10, v11, v12, v13, .non, .non, .non, .non, .non, .non], []⟩) (fun t j τ ⟨ht, hj, cnt, v6, v7, v8, v10, v11, v12, v13, hcnt, hτ⟩ ih => ?_) (t := m) ⟨rfl, Nat.le_refl _, 0, .non, .non, .non, .non, .non, .non, .non, by rw [Nat.sub_self]; rfl, rfl⟩
    subst ht hτ hcnt
    refine GJ.loop G2.hA ?_
    repeat walk_at "js"
    by_cases hdone : m - j = es.length
    · have hj0 : j = 0 := by omega
      have hme : m = es.length := by omega
      subst hj0
      have hxn : endX = none := by
        rcases hx with ⟨h, _⟩ | ⟨_, e, h, _⟩
        · exact h
        · rw [hme, List.getElem?_eq_none (Nat.le_refl _)] at h; cases h
      refine br_f (decide_eq_false ?_) ?_
      · rw [hdone, List.take_length]; omega
      refine GJ.left ?_
      refine GJ.like G2.gen G.gen e2.symm ?_
      exact GJ.end hxn
    · have hi : m - j < es.length := by omega
      have hel : es[m - j]? = some es[m - j] := List.getElem?_eq_getElem hi
      have hte := text_at hel
      have hst := text_step hel
      have heo := hok _ (List.getElem_mem hi)
      generalize es[m - j] = e at *
      have htl := text_len heo
      generalize hpre : textOf (es.take (m - j)) = pre at *
      generalize hpost : textOf (es.drop (m - j + 1)) = post at *
      have hbound := text_bound hok
      generalize textOf es = t at *
      have hlen : t.length = pre.length + (e.fig.length + e.name.length + 22) + post.length := by rw [hte, List.length_append, List.length_append, htl]
      have hfl : e.fig.length ≤ 20 := heo.figs
      have hnl : e.name.length ≤ 20 := heo.names
      unfold Ent.text at hte
      have f1 : t = pre ++ e.fig ++ 32 :: (e.name ++ 0 :: e.sha ++ post) := by rw [hte]; simp
      have f2 : t = pre ++ e.fig ++ (32 :: (e.name ++ 0 :: e.sha ++ post)) := f1
      have f3 : t = (pre ++ e.fig) ++ (32 :: e.name) ++ 0 :: (e.sha ++ post) := by rw [hte]; simp
      have f4 : t = (pre ++ e.fig ++ [32]) ++ e.name ++ (0 :: e.sha ++ post) := by rw [hte]; simp
      have f5 : t = (pre ++ e.fig ++ [32] ++ e.name ++ [0]) ++ e.sha ++ post := by rw [hte]; simp
      refine br_t (decide_eq_true (by omega)) ?_
      refine GJ.cons (GJ.stmt G2.hA ?_)
      repeat walk_at "js"
      refine J_Method (fun _ => rfl) rfl rfl rfl rfl ?_
      repeat walk_at "js"
      refine ⟨_, _, GetM_byt slot_bytes_index type_bytes_index, keeper_builtin _, ?_⟩
      repeat walk_at "js"
      refine JC_index (findB_at f1 heo.noSpace rfl rfl) ?_
      repeat walk_at "js"
      refine GK.nxt ?_
      dsimp only
      refine GJ.cons (GJ.stmt G2.hA ?_)
      repeat walk_at "js"
      refine J_SubSlice ?_
      repeat walk_at "js"
      refine OpSl_bytesE (.int _) (.int _) (by omega) (cut_at f2 rfl (by omega)) ?_
      repeat walk_at "js"
      refine GK.nxt ?_
      dsimp only
      refine GJ.cons (GJ.stmt G2.hA ?_)
      repeat walk_at "js"
      refine JAll_and_val (bx := strict) (by' := preOf e.fig [48]) (fun Kb hKb => ?_) (fun _ Kb hKb => ?_) ?_
      · refine JB_value ?_ (fun _ _ => rfl)
        repeat walk_at "js"
        exact hKb
      · refine JB_value ?_ (fun _ _ => rfl)
        refine J_Method (fun _ => rfl) rfl rfl rfl rfl ?_
        repeat walk_at "js"
        refine ⟨_, _, GetM_byt FB.slot_bytes_startswith type_bytes_startswith, keeper_builtin _, ?_⟩
        repeat walk_at "js"
        refine JC_startswith ?_
        repeat walk_at "js"
        exact hKb
      cases hc : (strict && preOf e.fig [48]) with
      | true =>
        refine br_t rfl ?_
        have hj0 : j = 0 := by
          rcases Nat.eq_zero_or_pos j with h | h
          · exact h
          · have := hg (m - j) (by omega) e hel
            rw [hc] at this; cases this
        subst hj0
        have hxs : endX = some (.ref c, true) := by
          rcases hx with ⟨_, h⟩ | ⟨h, _⟩
          · omega
          · exact h
        repeat walk_at "js"
        refine JS_Raise G2.clean O.exc ?_
        refine JX_Call O.exc callForm_name rfl ?_
        refine J_glb T L2 (by decide +kernel) O.ns ⟨rfl, ?_⟩
        repeat walk_at "js"
        refine J_fstr2 (by decide) ?_
        repeat walk_at "js"
        refine ⟨_, rfl, by omega, fun y => ?_⟩
        repeat walk_at "js"
        refine ⟨by simp, fun cl hcl => ?_⟩
        have : cl = true := hcl (G2.free)
        subst this
        have ew : whH C2.env = whH C1.env := by rw [e2]
        rw [ew]
        exact GE.loop G2.hA G.hA G2.gen G.gen e2.symm e2 L2.frs LL.frs (GE.end G.hA rfl LL.frs hxs)
      | false =>
        refine br_f rfl ?_
        repeat walk_at "js"
        refine GK.nxt ?_
        dsimp only
        refine GJ.cons (GJ.stmt G2.hA (JS_Try L2.frs ?_))
        repeat walk_at "js"
        refine J_CallB T L2 (by decide +kernel) U.int rfl rfl ?_
        repeat walk_at "js"
        refine JC_int8 (by omega) heo.oct ?_
        repeat walk_at "js"
        refine GK.nxt ?_
        dsimp only
        refine GJ.cons (GJ.stmt G2.hA ?_)
        repeat walk_at "js"
        refine J_Method (fun _ => rfl) rfl rfl rfl rfl ?_
        repeat walk_at "js"
        refine ⟨_, _, GetM_byt slot_bytes_index type_bytes_index, keeper_builtin _, ?_⟩
        repeat walk_at "js"
        refine JC_index (findB_at f3 ?_ (by simp) rfl) ?_
        · intro q
          rcases List.mem_cons.mp q with q | q
          · cases q
          · exact heo.free q
        repeat walk_at "js"
        refine GK.nxt ?_
        dsimp only
        refine GJ.cons (GJ.stmt G2.hA ?_)
        repeat walk_at "js"
        refine J_SubSlice ?_
        repeat walk_at "js"
        refine OpSl_bytesE (.int _) (.int _) (by omega) (cut_at f4 (by simp; omega) (by simp; omega)) ?_
        repeat walk_at "js"
        refine GK.nxt ?_
        dsimp only
        refine GJ.cons (GJ.stmt G2.hA ?_)
        repeat walk_at "js"
        refine Op2_is rfl ?_
        repeat walk_at "js"
        refine br_f rfl ?_
        repeat walk_at "js"
        refine GK.nxt ?_
        dsimp only
        refine GJ.cons (GJ.stmt G2.hA ?_)
        repeat walk_at "js"
        refine GK.nxt ?_
        dsimp only
        refine GJ.cons (GJ.stmt G2.hA ?_)
        repeat walk_at "js"
        refine br_f (decide_eq_false (by simp; omega)) ?_
        repeat walk_at "js"
        refine GK.nxt ?_
        dsimp only
        refine GJ.cons (GJ.stmt G2.hA ?_)
        repeat walk_at "js"
        refine J_SubSlice ?_
        repeat walk_at "js"
        refine OpSl_bytesE (.int _) (.int _) (by omega) (cut_at f5 (by simp; omega) (by have := heo.sha; simp; omega)) ?_
        repeat walk_at "js"
        refine GK.nxt ?_
        dsimp only
        refine GJ.cons (GJ.stmt G2.hA ?_)
        repeat walk_at "js"
        refine J_CallB T L2 (by decide +kernel) U.len rfl rfl ?_
        repeat walk_at "js"
        refine JC_len_byt (by have := heo.sha; omega) ?_
        repeat walk_at "js"
        refine br_f (by rw [heo.sha]; rfl) ?_
        repeat walk_at "js"
        refine GK.nxt ?_
        dsimp only
        refine GJ.cons (GJ.stmt G2.hA ?_)
        repeat walk_at "js"
        refine J_CallG T L2 (by decide +kernel) H.shaToHex.glb rfl rfl ?_
        repeat walk_at "js"
        refine J_CallG T L2 (by decide +kernel) H.rawID.glb rfl rfl ?_
        repeat walk_at "js"
        refine (RawObjectID_spec T H.rawID L2.frs (.refl _) L2.ok rfl ?_).v
        repeat walk_at "js"
        refine (sha_to_hex_spec T H U L2.frs (.refl _) L2.ok G2.free G2.clean heo.sha ?_).v
        repeat walk_at "js"
        refine GK.nxt ?_
        dsimp only
        refine GJ.cons ?_
        have hj1 : j ≠ 0 := by
          intro h0
          subst h0
          rcases hx with ⟨_, h⟩ | ⟨_, e', h1, h2⟩
          · exact hdone (by omega)
          · rw [Nat.sub_zero] at hel
            rw [hel] at h1; cases h1
            rw [hc] at h2; cases h2
        refine el_1_1 (Nat.exists_eq_succ_of_ne_zero hj1) fun j hE512 => ?_; subst hE512
        refine GJ.yld (a := e.row) G2.hA rfl rfl rfl L2.co L2.inter ?_ rfl ?_
        · rw [hvl, List.getElem?_map, List.getElem?_take_of_lt (by omega)]
          rw [show m - (j + 1) = m - j.succ from rfl, hel]; rfl
        repeat walk_at "js"
        refine ⟨by simp, rfl, ?_⟩
        refine GJ.again rfl (ih j j _ (Nat.lt_succ_self _) ⟨rfl, by omega, _, _, _, _, _, _, _, _, ?_, rfl⟩)
        rw [show m - (j + 1) + 1 = m - j from by omega, htl] at hst
        rw [hst]
        simp; omega
end
end
section
set_option maxHeartbeats 2000000
structure Met1 (K : Frag) (c : Addr) (ci mi : Nat) (x a : Str) (f : Addr) : Prop where
  fn : FnK K f (fnAt (clsAt pb ci) mi).1 (fnAt (clsAt pb ci) mi).2
  keep : keepIn K (.ref f) = true
  find : findIn K (.ref c) x = some (some (.ref f))
  typ : typeIn K (.ref f) = some (.type "function")
  fnin : fnIn K f = true
  isfn : isFn K (.ref f) = true
  bind : ∀ S v, peek K S (bindArgs (fdOf K f) ⟨[v], []⟩) = some [(a, v)]
structure Met2 (K : Frag) (c : Addr) (ci mi : Nat) (x a b : Str) (f : Addr) : Prop where
  fn : FnK K f (fnAt (clsAt pb ci) mi).1 (fnAt (clsAt pb ci) mi).2
  keep : keepIn K (.ref f) = true
  find : findIn K (.ref c) x = some (some (.ref f))
  typ : typeIn K (.ref f) = some (.type "function")
  fnin : fnIn K f = true
  isfn : isFn K (.ref f) = true
  bind : ∀ S v u, peek K S (bindArgs (fdOf K f) ⟨[v, u], []⟩) = some [(a, v), (b, u)]
structure AttrK (K : Frag) (c : Addr) (x : Str) : Prop where
  find : findIn K (.ref c) x = some none
  taker : takerIn K c x = some none
theorem getSet {α : Type} {l : List α} {k : Nat} {o o' : α} (h : l[k]? = some o) : (l.set k o')[k]? = some o' := List.getElem?_set_self (List.getElem?_eq_some_iff.mp h).1
noncomputable def initAts (sha1 : Addr) : List (Str × AV) := putN "object_format" (.con (.ref sha1)) (putN "_needs_serialization" (.bool true) (putN "_chunked_text" .non (putN "_sha" .non [])))
structure AttrsK (K : Frag) (c : Addr) : Prop where
  cls : ClsK K c
  sha : AttrK K c "_sha"
  chunked : AttrK K c "_chunked_text"
  needs : AttrK K c "_needs_serialization"
  fmt : AttrK K c "object_format"
  entries : AttrK K c "_entries"
section
variable {W : Wd} {K : Frag} {C : Ctx} {A : Around} {σ : St} {X : KX} {Kk : KA} {f tree sha1 : Addr} {n k : Nat}
theorem shaInit_spec (T : Tops W K) (D : FnK K f (fnAt (clsAt pb 37) 1).1 (fnAt (clsAt pb 37) 1).2) (hb : ∀ S v, peek K S (bindArgs (fdOf K f) ⟨[v], []⟩) = some [(("self" : Str), v)]) (Y : AttrsK K tree) (hg : nsIn K mainGlobals "DEFAULT_OBJECT_FORMAT" = some (some (.ref sha1)))
    (hFr : FrsC C) (hL : Like A C.A) (hA : AOK A (n + 1)) (ho : σ.objs[k]? = some (.inst tree [])) (h : Kk .non { σ with objs := σ.objs.set k (.inst tree (initAts sha1)) }) : JCallA W C A (.ref f) [.obj k] [] [] Kk X σ := by
  refine JCallA_text (n := n) T D (by decide +kernel) hFr hL hA (BindJ.p1 hb) rfl (by decide +kernel) (by decide +kernel) fun C' L eh ec1 ec2 elow hwf => ?_
  rw [show mkSlots (List.zip [("self" : Str)] [AV.obj k]) (fnAt (clsAt pb 37) 1).2.names σ.objs.length = [.v (.obj k), .non] from rfl, show mkCells (List.zip [("self" : Str)] [AV.obj k]) (fnAt (clsAt pb 37) 1).2.names = [] from rfl, List.append_nil]
  show JSs W C' (_ :: _) _ _ _
  repeat walk_at "jn"
  refine JS_AssignAttr T rfl ?_
  repeat walk_at "jn"
  refine ⟨k, tree, _, rfl, Y.cls, ho, Y.sha.taker, by decide, ?_⟩
  repeat walk_at "jn"
  refine JS_AssignAttr T rfl ?_
  repeat walk_at "jn"
  refine ⟨k, tree, _, rfl, Y.cls, getSet ho, Y.chunked.taker, by decide, ?_⟩
  rw [List.set_set]
  repeat walk_at "jn"
  refine JS_AssignAttr T rfl ?_
  repeat walk_at "jn"
  refine ⟨k, tree, _, rfl, Y.cls, getSet ho, Y.needs.taker, by decide, ?_⟩
  rw [List.set_set]
  repeat walk_at "jn"
  refine JS_AssignAttr T rfl ?_
  refine J_glb T L (by decide +kernel) hg ?_
  repeat walk_at "jn"
  refine ⟨k, tree, _, rfl, Y.cls, getSet ho, Y.fmt.taker, by decide, ?_⟩
  rw [List.set_set]
  repeat walk_at "jn"
  exact JSs_nilW fun w => Nxt_all (by simp) w h
noncomputable def treeAts (sha1 : Addr) (d : Nat) : List (Str × AV) := putN "_entries" (.obj d) (initAts sha1)
structure MakeK (W : Wd) (K : Frag) (tree shafile init shaInit cc cda sha1 : Addr) (main : Str) (cd1 cd2 : ClassData) : Prop where
  sup : FnS K init cc cda tree shaInit "self" (fnAt (clsAt pb 47) 3).1 (fnAt (clsAt pb 47) 3).2 main
  cls : clsIn K tree = some cd1
  mro : mroIn K tree (.ref tree) = some true
  nxt : ks_superIn K tree tree "__init__" = some (some (.ref shaInit))
  file : W.prog.main.file = main
  top : (W.prog.main.scope.names.lookup ("super" : Str)).isSome = false
  bind : ∀ S v, peek K S (bindArgs (fdOf K init) ⟨[v], []⟩) = some [(("self" : Str), v)]
  sha : FnK K shaInit (fnAt (clsAt pb 37) 1).1 (fnAt (clsAt pb 37) 1).2
  shaBind : ∀ S v, peek K S (bindArgs (fdOf K shaInit) ⟨[v], []⟩) = some [(("self" : Str), v)]
  fmt : nsIn K mainGlobals "DEFAULT_OBJECT_FORMAT" = some (some (.ref sha1))
  makes : makesIn K tree = true
  find : findIn K (.ref tree) "__init__" = some (some (.ref init))
  typ : typeIn K (.ref init) = some (.type "function")
variable {shafile init shaInit cc cda : Addr} {main : Str} {cd1 cd2 : ClassData}
theorem treeInit_spec (T : Tops W K) (M : MakeK W K tree shafile init shaInit cc cda sha1 main cd1 cd2) (Y : AttrsK K tree) (hFr : FrsC C) (hL : Like A C.A) (hA : AOK A (n + 1 + 1)) (ho : σ.objs[k]? = some (.inst tree []))
    (h : Kk .non { σ with objs := σ.objs.set k (.inst tree (treeAts sha1 σ.objs.length)) ++ [.dict [] 0] }) : JCallA W C A (.ref init) [.obj k] [] [] Kk X σ := by
  have hk := (List.getElem?_eq_some_iff.mp ho).1
  refine JCallA_super (n := n + 1) T M.sup (by decide +kernel) rfl rfl rfl M.cls M.cls M.mro M.nxt M.file M.top hFr hL hA M.bind ho fun C' L eh ec1 ec2 elow hwf => ?_
  rw [show mkSlots [(("self" : Str), AV.obj k)] (fnAt (clsAt pb 47) 3).2.names σ.objs.length = [.v (.obj k), .non, .non] from rfl]
  refine shaInit_spec T M.sha M.shaBind Y M.fmt L.frs (.refl _) L.ok ho ?_
  repeat walk_at "jn"
  refine JS_AssignAttr T rfl (J_DictNil T ?_)
  repeat walk_at "jn"
  refine ⟨k, tree, _, rfl, Y.cls, by rw [List.getElem?_append_left (by simpa using hk)]; exact getSet ho, Y.entries.taker, Nat.le_of_ble_eq_true rfl, ?_⟩
  refine JSs_nilW fun w => Nxt_all (by simp) w ?_
  rw [List.set_append_left _ _ (by simpa using hk), List.set_set, List.length_set]
  exact h
noncomputable def atsOf (ch : AV) (nd : Bool) (en : AV) (sha1 : Addr) : List (Str × AV) := [("_sha", .non), ("_chunked_text", ch), ("_needs_serialization", .bool nd), ("object_format", .con (.ref sha1)), ("_entries", en)]
theorem treeAts_eq {d : Nat} : treeAts sha1 d = atsOf .non true (.obj d) sha1 := rfl
structure FmtK (K : Frag) (sha1 : Addr) : Prop where
  ex : ∃ fc dx od tk, ClsK K fc ∧ K.lookup sha1 = some { cls := .ref fc, dict := some dx, data := .plain } ∧ K.lookup dx = some od ∧ lookIn "oid_length" od = some (some (.int 20 tk)) ∧ findIn K (.ref fc) "oid_length" = some none
structure ParseK (K : Frag) (p : Addr) : Prop where
  fn : FnK K p (fnAt pb 42).1 (fnAt pb 42).2
  glb : Glb K "parse_tree" (.ref p)
  bind1 : ∀ S v u, peek K S (bindArgs (fdOf K p) ⟨[v], [(("sha_len" : Str), u)]⟩) = some [(("text" : Str), v), (("sha_len" : Str), u), (("strict" : Str), .bool false)]
  bind2 : ∀ S v u w, peek K S (bindArgs (fdOf K p) ⟨[v], [(("strict" : Str), u), (("sha_len" : Str), w)]⟩) = some [(("text" : Str), v), (("sha_len" : Str), w), (("strict" : Str), u)]
noncomputable def Ent.val (e : Ent) : AV := .tu [.int (modeOf e.fig), .byt (hexL e.sha)]
noncomputable def entriesOf (es : List Ent) : List (List UInt8 × AV) := es.foldl (fun d e => storedA d e.name e.val) []
theorem entriesOf_step {es : List Ent} {i : Nat} {e : Ent} (h : es[i]? = some e) : entriesOf (es.take (i + 1)) = storedA (entriesOf (es.take i)) e.name e.val := by
  unfold entriesOf
  rw [List.take_add_one, h]
  simp [List.foldl_append]
theorem storedA_len (d : List (List UInt8 × AV)) (k : List UInt8) (a : AV) : (storedA d k a).length ≤ d.length + 1 := by
  unfold storedA
  split <;> simp
theorem entriesOf_len (es : List Ent) : (entriesOf es).length ≤ es.length := by
  have : ∀ (l : List Ent) (d : List (List UInt8 × AV)), (l.foldl (fun d e => storedA d e.name e.val) d).length ≤ d.length + l.length := by
    intro l
    induction l with
    | nil => intro d; exact Nat.le_add_right _ _
    | cons e r ih =>
      intro d
      have h1 := ih (storedA d e.name e.val)
      have h2 := storedA_len d e.name e.val
      rw [List.foldl_cons, List.length_cons]
      omega
  have := this es []
  rw [List.length_nil, Nat.zero_add] at this
  exact this
theorem OpG_fmt {x : Nat} (T : Tops W K) (Z : FmtK K sha1) (h : Kk (.int 20) σ) : OpG W C "oid_length" (.con (.ref sha1)) Kk X σ := by
  refine el_4_5 Z.ex fun fc dx od tk h1 h2 h3 h4 h5 => ?_
  exact OpG_base T h1 h2 h3 h4 h5 rfl (fun _ _ => DenA.int _ _) h
variable {p c l : Addr} {es : List Ent} {ch : AV} {nd : Bool} {en : AV} {a1 a2 a3 a4 a5 a6 a7 a8 : Addr}
theorem deser_spec {l : Nat} (T : Tops W K) (Y : AttrsK K tree) (Z : FmtK K sha1) (P : ParseK K p) (H : Hexs K a1 a2 a3 a4 a5 a6 a7 a8) (U : Buis K) (O : OFE W K c) (D : Met2 K tree 47 12 "_deserialize" "self" "chunks" f)
    (hFr : FrsC C) (hL : Like A C.A) (hA : AOK A (n + 1 + 1 + 1 + 1)) (hh : C.A.handled = none) (hcl : C.hclean = true) (ho : σ.objs[k]? = some (.inst tree (atsOf ch nd en sha1))) (hl : σ.objs[l]? = some (.list [.byt (textOf es)])) (hok : ∀ e ∈ es, e.OK) (hsz : es.length ≤ 1000)
    (h : Kk .non { σ with objs := σ.objs.set k (.inst tree (atsOf ch nd (.obj (σ.objs.length + 1)) sha1)) ++ [.junk, .dict (entriesOf es) 0] }) : JCallA W C A (.ref f) [.obj k, .obj l] [] [] Kk X σ := by
  have hk := (List.getElem?_eq_some_iff.mp ho).1
  have hb := text_bound hok
  refine JCallA_text (n := n + 1 + 1 + 1) T D.fn (by decide +kernel) hFr hL hA (BindJ.p2 D.bind) rfl (by decide +kernel) (by decide +kernel) fun C' L eh ec1 ec2 elow hwf => ?_
  rw [show mkSlots (List.zip [("self" : Str), ("chunks" : Str)] [AV.obj k, .obj l]) (fnAt (clsAt pb 47) 12).2.names σ.objs.length = [.v (.obj k), .v (.obj l), .non, .non, .non, .non, .non] from rfl, show mkCells (List.zip [("self" : Str), ("chunks" : Str)] [AV.obj k, .obj l]) (fnAt (clsAt pb 47) 12).2.names = [] from rfl, List.append_nil]
  show JSs W C' (_ :: _) _ _ _
  repeat walk_at "jn"
  refine JS_Try L.frs ?_
  repeat walk_at "jn"
  refine J_CallG T L (by decide +kernel) P.glb rfl rfl ?_
  repeat walk_at "jn"
  refine J_Method (fun _ => rfl) rfl rfl rfl rfl ?_
  repeat walk_at "jn"
  refine ⟨_, _, GetM_byt slot_bytes_join type_bytes_join, keeper_builtin _, ?_⟩
  repeat walk_at "jn"
  refine JC_join hl rfl (by show (textOf es ++ []).length ≤ _; rw [List.append_nil]; omega) ?_
  rw [show joinL [] [textOf es] = textOf es from List.append_nil _]
  repeat walk_at "jn"
  refine J_Attr (fun _ _ => rfl) (J_Attr (fun _ _ => rfl) ?_)
  repeat walk_at "jn"
  refine OpG_own T Y.cls ho Y.fmt.find rfl rfl ?_
  refine OpG_fmt (x := 0) T Z ?_
  repeat walk_at "jn"
  refine JCallV_gen T P.fn (by decide +kernel) (L.ok.less (by omega)) (BindJ.k1 (x := "text") (y := "sha_len") (z := "strict") (c := .bool false) (fun _ _ => .bool _) P.bind1) rfl (by decide +kernel) (by decide +kernel) ?_
  repeat walk_at "jn"
  refine JSs_nil ?_
  dsimp only
  refine JSs_nil ?_
  repeat walk_at "jn"
  refine JS_AssignAttr T rfl ?_
  refine dictComp_J T (by decide +kernel) (by rw [L.scope]; decide +kernel) rfl (fun _ => rfl) L.frs (FreeOK.of L rfl) ?_
  repeat walk_at "jn"
  have hes : es.take es.length = es := List.take_length
  have hP := parse_iters (σ := ⟨[VS.v (.obj k), .v (.obj l), .v (.obj σ.objs.length), .non, .non, .non, .non], σ.objs ++ [.gen p (fdOf K p) (fnAt pb 42).1 (parseVars (textOf es) false)]⟩) (k := σ.objs.length) (m := es.length) (strict := false) (endX := none) T P.fn H U O L.frs (eh.trans hh) L.ok (by simp) hok hsz (Nat.le_refl _) (fun _ _ _ _ => rfl) (.inl ⟨rfl, rfl⟩)
  rw [hes] at hP
  refine ⟨FreeOK.of L rfl, _, _, none, _, _, _, rfl, hP, fun D => ⟨rfl, ec2.trans hcl, ?_⟩, fun acc D => ?_⟩
  · show _ < List.length _ + 1
    simp; omega
  refine CompTurns.go L rfl rfl fun C2 L2 eA _ ec elow2 => ?_
  have hrl : (es.map Ent.row).length = es.length := List.length_map ..
  rw [hrl]
  clear hP
  refine ⟨fun i τ => ∃ v1 v2 v3, τ = ⟨[.non, v1, v2, v3, .non], σ.objs ++ [.sem (GenI W C'.A (es.map Ent.row) none (es.length - i)), .dict (entriesOf (es.take i)) 0]⟩, fun i τ ⟨_, _, _, e⟩ => ?_, fun i a τ ha ⟨v1, v2, v3, hτ⟩ => ?_, ⟨.non, .non, .non, by rw [L.scope]; walk_at "stn"; rfl⟩, fun _ τ ⟨v1, v2, v3, hτ⟩ => ?_, fun _ _ h => nomatch h⟩
  · subst e; exact st0
  · subst hτ
    rw [List.getElem?_map] at ha
    refine el_1_2 (Option.map_eq_some_iff.mp ha) fun e he hE516 => ?_; subst hE516
    have hi : i < es.length := (List.getElem?_eq_some_iff.mp he).1
    dsimp only
    rw [if_pos hi, set0]
    unfold Ent.row
    refine AsgJ_tuple (ec.trans (ec2.trans hcl)) rfl rfl ?_
    repeat walk_at "jn"
    refine ⟨fun _ => ?_, fun h => nomatch h⟩
    refine RunU_store rfl ?_
    repeat walk_at "jn"
    refine J_CallG T L2 (by decide +kernel) H.objectID.glb rfl rfl ?_
    repeat walk_at "jn"
    refine (ObjectID_spec T H.objectID L2.frs (.refl _) L2.ok rfl ?_).v
    repeat walk_at "jn"
    have hle := entriesOf_len (es.take i)
    have htl : (es.take i).length ≤ es.length := by simp; omega
    refine ⟨by simp, _, entriesOf (es.take i), rfl, by walk_at "stn", by omega, _, .inl rfl, .v (.byt e.name), .v (.int (modeOf e.fig)), .v (.byt (hexL e.sha)), ?_⟩
    rw [entriesOf_step he, Nat.sub_add_eq]
    walk_at "stn"
    rfl
  · subst hτ
    rw [hrl]
    dsimp only
    rw [if_neg (Nat.lt_irrefl _), set0, hes]
    repeat walk_at "jn"
    have hk2 : ∀ r : List AObj, (σ.objs ++ r)[k]? = some (.inst tree (atsOf ch nd en sha1)) := fun r => by rw [List.getElem?_append_left hk]; exact ho
    refine ⟨k, tree, atsOf ch nd en sha1, rfl, Y.cls, by walk_at "stn"; exact hk2 _, Y.entries.taker, Nat.le_of_ble_eq_true rfl, ?_⟩
    refine JSs_nilW fun w => Nxt_all (by simp) w ?_
    walk_at "stn"
    rw [List.set_append_left _ _ hk]
    exact h
end
end
section
set_option maxHeartbeats 2000000
section
variable {W : Wd} {K : Frag} {C : Ctx} {A : Around} {σ : St} {X : KX} {Kk : KA} {f tree sha1 : Addr} {n k l : Nat} {p c : Addr} {es : List Ent} {ch : AV} {nd : Bool} {en : AV} {a1 a2 a3 a4 a5 a6 a7 a8 : Addr}
structure ReadK (W : Wd) (K : Frag) (tree sha1 p c : Addr) (a1 a2 a3 a4 a5 a6 a7 a8 deser chunks rawStr : Addr) : Prop where
  top : Tops W K
  ats : AttrsK K tree
  fmt : FmtK K sha1
  parse : ParseK K p
  hexs : Hexs K a1 a2 a3 a4 a5 a6 a7 a8
  bui : Buis K
  ofe : OFE W K c
  deser : Met2 K tree 47 12 "_deserialize" "self" "chunks" deser
  chunks : Met2 K tree 37 5 "set_raw_chunks" "self" "chunks" chunks
  rawStr : Met2 K tree 37 4 "set_raw_string" "self" "text" rawStr
variable {deser chunks rawStr : Addr}
theorem rawChunks_spec (Z : ReadK W K tree sha1 p c a1 a2 a3 a4 a5 a6 a7 a8 deser chunks rawStr) (hFr : FrsC C) (hL : Like A C.A) (hA : AOK A (n + 1 + 1 + 1 + 1 + 1)) (hh : C.A.handled = none) (hcl : C.hclean = true) (ho : σ.objs[k]? = some (.inst tree (atsOf ch nd en sha1))) (hl : σ.objs[l]? = some (.list [.byt (textOf es)])) (hok : ∀ e ∈ es, e.OK) (hsz : es.length ≤ 1000)
    (h : Kk .non { σ with objs := σ.objs.set k (.inst tree (atsOf (.obj l) false (.obj (σ.objs.length + 1)) sha1)) ++ [.junk, .dict (entriesOf es) 0] }) : JCallA W C A (.ref chunks) [.obj k, .obj l] [] [] Kk X σ := by
  have T := Z.top
  have Y := Z.ats
  have hk := (List.getElem?_eq_some_iff.mp ho).1
  have hkl : k ≠ l := fun e => by rw [e, hl] at ho; cases ho
  refine JCallA_text (n := n + 1 + 1 + 1 + 1) T Z.chunks.fn (by decide +kernel) hFr hL hA (BindJ.p2 Z.chunks.bind) rfl (by decide +kernel) (by decide +kernel) fun C' L eh ec1 ec2 elow hwf => ?_
  rw [show mkSlots (List.zip [("self" : Str), ("chunks" : Str)] [AV.obj k, .obj l]) (fnAt (clsAt pb 37) 5).2.names σ.objs.length = [.v (.obj k), .v (.obj l)] from rfl, show mkCells (List.zip [("self" : Str), ("chunks" : Str)] [AV.obj k, .obj l]) (fnAt (clsAt pb 37) 5).2.names = [] from rfl, List.append_nil]
  show JSs W C' (_ :: _) _ _ _
  repeat walk_at "jn"
  refine JS_AssignAttr T rfl ?_
  repeat walk_at "jn"
  refine ⟨k, tree, atsOf ch nd en sha1, rfl, Y.cls, ho, Y.chunked.taker, Nat.le_of_ble_eq_true rfl, ?_⟩
  rw [show putN "_chunked_text" (.obj l) (atsOf ch nd en sha1) = atsOf (.obj l) nd en sha1 from rfl]
  repeat walk_at "jn"
  refine JS_AssignAttr T rfl ?_
  repeat walk_at "jn"
  refine ⟨k, tree, atsOf (.obj l) nd en sha1, rfl, Y.cls, getSet ho, Y.sha.taker, Nat.le_of_ble_eq_true rfl, ?_⟩
  rw [show putN "_sha" .non (atsOf (.obj l) nd en sha1) = atsOf (.obj l) nd en sha1 from rfl, List.set_set]
  repeat walk_at "jn"
  refine J_Method (fun _ => rfl) rfl rfl rfl rfl ?_
  repeat walk_at "jn"
  refine ⟨_, _, GetM_inst T Y.cls (getSet ho) Z.deser.find Z.deser.typ rfl, keeper_K T.X Z.deser.keep, ?_⟩
  repeat walk_at "jn"
  refine (deser_spec (es := es) (ch := .obj l) (nd := nd) (en := en) T Y Z.fmt Z.parse Z.hexs Z.bui Z.ofe Z.deser L.frs (.refl _) L.ok (eh.trans hh) (ec2.trans hcl) (getSet ho) (by rw [List.getElem?_set_ne hkl]; exact hl) hok hsz ?_).v
  rw [List.set_set, List.length_set]
  repeat walk_at "jn"
  refine JS_AssignAttr T rfl ?_
  repeat walk_at "jn"
  refine ⟨k, tree, atsOf (.obj l) nd (.obj (σ.objs.length + 1)) sha1, rfl, Y.cls, by rw [List.getElem?_append_left (by simpa using hk)]; exact getSet ho, Y.needs.taker, Nat.le_of_ble_eq_true rfl, ?_⟩
  rw [show putN "_needs_serialization" (.bool false) (atsOf (.obj l) nd (.obj (σ.objs.length + 1)) sha1) = atsOf (.obj l) false (.obj (σ.objs.length + 1)) sha1 from rfl, List.set_append_left _ _ (by simpa using hk), List.set_set]
  exact JSs_nilW fun w => Nxt_all (by simp) w h
theorem rawStr_spec (Z : ReadK W K tree sha1 p c a1 a2 a3 a4 a5 a6 a7 a8 deser chunks rawStr) (hFr : FrsC C) (hL : Like A C.A) (hA : AOK A (n + 1 + 1 + 1 + 1 + 1 + 1)) (hh : C.A.handled = none) (hcl : C.hclean = true) (ho : σ.objs[k]? = some (.inst tree (atsOf ch nd en sha1))) (hok : ∀ e ∈ es, e.OK) (hsz : es.length ≤ 1000)
    (h : Kk .non { σ with objs := σ.objs.set k (.inst tree (atsOf (.obj σ.objs.length) false (.obj (σ.objs.length + 2)) sha1)) ++ [.list [.byt (textOf es)], .junk, .dict (entriesOf es) 0] }) : JCallA W C A (.ref rawStr) [.obj k, .byt (textOf es)] [] [] Kk X σ := by
  have T := Z.top
  have Y := Z.ats
  have hk := (List.getElem?_eq_some_iff.mp ho).1
  refine JCallA_text (n := n + 1 + 1 + 1 + 1 + 1) T Z.rawStr.fn (by decide +kernel) hFr hL hA (BindJ.p2 Z.rawStr.bind) rfl (by decide +kernel) (by decide +kernel) fun C' L eh ec1 ec2 elow hwf => ?_
  rw [show mkSlots (List.zip [("self" : Str), ("text" : Str)] [AV.obj k, .byt (textOf es)]) (fnAt (clsAt pb 37) 4).2.names σ.objs.length = [.v (.obj k), .v (.byt (textOf es)), .non, .non, .non] from rfl, show mkCells (List.zip [("self" : Str), ("text" : Str)] [AV.obj k, .byt (textOf es)]) (fnAt (clsAt pb 37) 4).2.names = [] from rfl, List.append_nil]
  show JSs W C' (_ :: _) _ _ _
  repeat walk_at "jn"
  refine JB_value ?_ (fun _ _ => rfl)
  refine J_CallB T L (by decide +kernel) Z.bui.isinstance rfl rfl ?_
  repeat walk_at "jn"
  refine J_buiB T L (by decide +kernel) Z.bui.bytes ?_
  repeat walk_at "jn"
  refine JC_isinst ?_
  repeat walk_at "jn"
  refine br_f rfl (JSs_nil ?_)
  repeat walk_at "jn"
  refine J_Method (fun _ => rfl) rfl rfl rfl rfl ?_
  repeat walk_at "jn"
  refine ⟨_, _, GetM_inst T Y.cls ho Z.chunks.find Z.chunks.typ rfl, keeper_K T.X Z.chunks.keep, ?_⟩
  repeat walk_at "jn"
  refine ⟨by simp, ?_⟩
  repeat walk_at "jn"
  refine (rawChunks_spec (es := es) (ch := ch) (nd := nd) (en := en) Z L.frs (.refl _) L.ok (eh.trans hh) (ec2.trans hcl) (by rw [List.getElem?_append_left hk]; exact ho) st0 hok hsz ?_).v
  repeat walk_at "jn"
  refine JSs_nilW fun w => Nxt_all (by simp; omega) w ?_
  rw [List.set_append_left _ _ hk, List.length_append]
  simp only [List.length_cons, List.length_nil, List.append_assoc, List.cons_append, List.nil_append]
  exact h
variable {shafile init shaInit cc cda fromStr : Addr} {main : Str} {cd1 cd2 : ClassData}
theorem fromStr_spec (Z : ReadK W K tree sha1 p c a1 a2 a3 a4 a5 a6 a7 a8 deser chunks rawStr) (M : MakeK W K tree shafile init shaInit cc cda sha1 main cd1 cd2) (F : FnK K fromStr (fnAt (clsAt pb 37) 6).1 (fnAt (clsAt pb 37) 6).2) (hb : ∀ S v u, peek K S (bindArgs (fdOf K fromStr) ⟨[v, u], []⟩) = some [(("cls" : Str), v), (("string" : Str), u)]) (hkp : keepIn K (.ref tree) = true)
    (hFr : FrsC C) (hL : Like A C.A) (hA : AOK A (n + 1 + 1 + 1 + 1 + 1 + 1 + 1)) (hh : C.A.handled = none) (hcl : C.hclean = true) (hok : ∀ e ∈ es, e.OK) (hsz : es.length ≤ 1000)
    (h : Kk (.obj σ.objs.length) { σ with objs := σ.objs ++ [.inst tree (atsOf (.obj (σ.objs.length + 2)) false (.obj (σ.objs.length + 4)) sha1), .dict [] 0, .list [.byt (textOf es)], .junk, .dict (entriesOf es) 0] }) : JCallA W C A (.ref fromStr) [.con (.ref tree), .byt (textOf es)] [] [] Kk X σ := by
  have T := Z.top
  have Y := Z.ats
  refine JCallA_text (n := n + 1 + 1 + 1 + 1 + 1 + 1) T F (by decide +kernel) hFr hL hA (BindJ.p2 hb) rfl (by decide +kernel) (by decide +kernel) fun C' L eh ec1 ec2 elow hwf => ?_
  rw [show mkSlots (List.zip [("cls" : Str), ("string" : Str)] [AV.con (.ref tree), .byt (textOf es)]) (fnAt (clsAt pb 37) 6).2.names σ.objs.length = [.v (.con (.ref tree)), .v (.byt (textOf es)), .non] from rfl, show mkCells (List.zip [("cls" : Str), ("string" : Str)] [AV.con (.ref tree), .byt (textOf es)]) (fnAt (clsAt pb 37) 6).2.names = [] from rfl, List.append_nil]
  show JSs W C' (_ :: _) _ _ _
  repeat walk_at "jn"
  refine J_Call callForm_name rfl rfl (keeper_K T.X hkp) ?_
  repeat walk_at "jn"
  refine ⟨rfl, ?_⟩
  repeat walk_at "jn"
  refine (JC_make T M.makes M.find M.typ fun A' hN => treeInit_spec (n := n + 1 + 1) T M Y L.frs hN.like ((hN.ok L.ok).less (by omega)) st0 ⟨rfl, ?_⟩).v
  rw [treeAts_eq]
  walk_at "stn"
  repeat walk_at "jn"
  refine J_Method (fun _ => rfl) rfl rfl rfl rfl ?_
  repeat walk_at "jn"
  refine ⟨_, _, GetM_inst T Y.cls st0 Z.rawStr.find Z.rawStr.typ rfl, keeper_K T.X Z.rawStr.keep, ?_⟩
  repeat walk_at "jn"
  refine (rawStr_spec (es := es) (ch := .non) (nd := true) (en := .obj (σ.objs.length + 1)) Z L.frs (.refl _) L.ok (eh.trans hh) (ec2.trans hcl) st0 hok hsz ?_).v
  walk_at "stn"
  repeat walk_at "jn"
  refine JS_ReturnW ?_
  repeat walk_at "jn"
  intro w1 w2
  exact Ret_all (by simp) w1 w2 h
end
end
section
set_option maxHeartbeats 2000000
section
variable {W : Wd} {K : Frag} {C : Ctx} {A : Around} {σ : St} {X : KX} {Kk : KA} {f tree sha1 : Addr} {n k l : Nat} {es : List Ent} {en : AV} {kvs : List (List UInt8 × AV)} {x : List UInt8}
structure UseK (K : Frag) (tree rawChunks rawString lenM inM getM : Addr) : Prop where
  rawChunks : Met1 K tree 37 2 "as_raw_chunks" "self" rawChunks
  rawString : Met1 K tree 37 3 "as_raw_string" "self" rawString
  lenM : Met1 K tree 47 8 "__len__" "self" lenM
  inM : Met2 K tree 47 4 "__contains__" "self" "name" inM
  getM : Met2 K tree 47 5 "__getitem__" "self" "name" getM
variable {rawChunks rawString lenM inM getM : Addr}
theorem asChunks_spec (T : Tops W K) (Y : AttrsK K tree) (Z : UseK K tree rawChunks rawString lenM inM getM) (hFr : FrsC C) (hL : Like A C.A) (hA : AOK A (n + 1)) (ho : σ.objs[k]? = some (.inst tree (atsOf (.obj l) false en sha1))) (h : Kk (.obj l) σ) : JCallA W C A (.ref rawChunks) [.obj k] [] [] Kk X σ := by
  refine JCallA_text (n := n) T Z.rawChunks.fn (by decide +kernel) hFr hL hA (BindJ.p1 Z.rawChunks.bind) rfl (by decide +kernel) (by decide +kernel) fun C' L eh ec1 ec2 elow hwf => ?_
  rw [show mkSlots (List.zip [("self" : Str)] [AV.obj k]) (fnAt (clsAt pb 37) 2).2.names σ.objs.length = [.v (.obj k)] from rfl, show mkCells (List.zip [("self" : Str)] [AV.obj k]) (fnAt (clsAt pb 37) 2).2.names = [] from rfl, List.append_nil]
  show JSs W C' (_ :: _) _ _ _
  repeat walk_at "jn"
  refine JB_value (J_Attr (fun _ _ => rfl) ?_) (fun _ _ => rfl)
  repeat walk_at "jn"
  refine OpG_own T Y.cls ho Y.needs.find rfl rfl ?_
  repeat walk_at "jn"
  refine br_f rfl (JSs_nil ?_)
  repeat walk_at "jn"
  refine JS_Assert ?_
  repeat walk_at "jn"
  refine J_Attr (fun _ _ => rfl) ?_
  repeat walk_at "jn"
  refine OpG_own T Y.cls ho Y.chunked.find rfl rfl ?_
  repeat walk_at "jn"
  refine Op2_isNot rfl ?_
  repeat walk_at "jn"
  refine ⟨rfl, ?_⟩
  repeat walk_at "jn"
  refine JS_ReturnW (J_Attr (fun _ _ => rfl) ?_)
  repeat walk_at "jn"
  refine OpG_own T Y.cls ho Y.chunked.find rfl rfl ?_
  intro w1 w2
  exact Ret_all (Nat.le_refl _) w1 w2 h
theorem asString_spec (T : Tops W K) (Y : AttrsK K tree) (Z : UseK K tree rawChunks rawString lenM inM getM) (hFr : FrsC C) (hL : Like A C.A) (hA : AOK A (n + 1 + 1)) (ho : σ.objs[k]? = some (.inst tree (atsOf (.obj l) false en sha1))) (hl : σ.objs[l]? = some (.list [.byt x])) (hx : x.length ≤ 100000) (h : Kk (.byt x) σ) : JCallA W C A (.ref rawString) [.obj k] [] [] Kk X σ := by
  refine JCallA_text (n := n + 1) T Z.rawString.fn (by decide +kernel) hFr hL hA (BindJ.p1 Z.rawString.bind) rfl (by decide +kernel) (by decide +kernel) fun C' L eh ec1 ec2 elow hwf => ?_
  rw [show mkSlots (List.zip [("self" : Str)] [AV.obj k]) (fnAt (clsAt pb 37) 3).2.names σ.objs.length = [.v (.obj k)] from rfl, show mkCells (List.zip [("self" : Str)] [AV.obj k]) (fnAt (clsAt pb 37) 3).2.names = [] from rfl, List.append_nil]
  show JSs W C' (_ :: _) _ _ _
  repeat walk_at "jn"
  refine JS_Return ?_
  refine J_Method (fun _ => rfl) rfl rfl rfl rfl ?_
  repeat walk_at "jn"
  refine ⟨_, _, GetM_byt slot_bytes_join type_bytes_join, keeper_builtin _, ?_⟩
  repeat walk_at "jn"
  refine J_Method (fun _ => rfl) rfl rfl rfl rfl ?_
  repeat walk_at "jn"
  refine ⟨_, _, GetM_inst T Y.cls ho Z.rawChunks.find Z.rawChunks.typ rfl, keeper_K T.X Z.rawChunks.keep, ?_⟩
  repeat walk_at "jn"
  refine JCallA.v (asChunks_spec T Y Z L.frs (.refl _) L.ok ho ?_)
  repeat walk_at "jn"
  refine JC_join hl rfl (by show (x ++ []).length ≤ _; rw [List.append_nil]; omega) ?_
  rw [show joinL [] [x] = x from List.append_nil _]
  exact Ret_same hwf rfl h
theorem len_spec {j : Nat} (T : Tops W K) (Y : AttrsK K tree) (U : Buis K) (Z : UseK K tree rawChunks rawString lenM inM getM) (hFr : FrsC C) (hL : Like A C.A) (hA : AOK A (n + 1)) (ho : σ.objs[k]? = some (.inst tree (atsOf (.obj l) false (.obj j) sha1))) (hd : σ.objs[j]? = some (.dict kvs 0)) (hz : kvs.length ≤ 10000) (h : Kk (.int kvs.length) σ) : JCallA W C A (.ref lenM) [.obj k] [] [] Kk X σ := by
  refine JCallA_text (n := n) T Z.lenM.fn (by decide +kernel) hFr hL hA (BindJ.p1 Z.lenM.bind) rfl (by decide +kernel) (by decide +kernel) fun C' L eh ec1 ec2 elow hwf => ?_
  rw [show mkSlots (List.zip [("self" : Str)] [AV.obj k]) (fnAt (clsAt pb 47) 8).2.names σ.objs.length = [.v (.obj k), .non] from rfl, show mkCells (List.zip [("self" : Str)] [AV.obj k]) (fnAt (clsAt pb 47) 8).2.names = [] from rfl, List.append_nil]
  show JSs W C' (_ :: _) _ _ _
  repeat walk_at "jn"
  refine JS_Return ?_
  refine J_CallB T L (by decide +kernel) U.len rfl rfl ?_
  repeat walk_at "jn"
  refine J_Attr (fun _ _ => rfl) ?_
  repeat walk_at "jn"
  refine OpG_own T Y.cls ho Y.entries.find rfl rfl ?_
  repeat walk_at "jn"
  refine JC_len_dict hd (by omega) ?_
  exact Ret_same hwf rfl h
theorem in_spec {j : Nat} (T : Tops W K) (Y : AttrsK K tree) (Z : UseK K tree rawChunks rawString lenM inM getM) (hFr : FrsC C) (hL : Like A C.A) (hA : AOK A (n + 1)) (ho : σ.objs[k]? = some (.inst tree (atsOf (.obj l) false (.obj j) sha1))) (hd : σ.objs[j]? = some (.dict kvs 0)) (h : Kk (.bool (valA kvs x).isSome) σ) : JCallA W C A (.ref inM) [.obj k, .byt x] [] [] Kk X σ := by
  refine JCallA_text (n := n) T Z.inM.fn (by decide +kernel) hFr hL hA (BindJ.p2 Z.inM.bind) rfl (by decide +kernel) (by decide +kernel) fun C' L eh ec1 ec2 elow hwf => ?_
  rw [show mkSlots (List.zip [("self" : Str), ("name" : Str)] [AV.obj k, .byt x]) (fnAt (clsAt pb 47) 4).2.names σ.objs.length = [.v (.obj k), .v (.byt x)] from rfl, show mkCells (List.zip [("self" : Str), ("name" : Str)] [AV.obj k, .byt x]) (fnAt (clsAt pb 47) 4).2.names = [] from rfl, List.append_nil]
  show JSs W C' (_ :: _) _ _ _
  repeat walk_at "jn"
  refine JS_Return ?_
  repeat walk_at "jn"
  refine J_Attr (fun _ _ => rfl) ?_
  repeat walk_at "jn"
  refine OpG_own T Y.cls ho Y.entries.find rfl rfl ?_
  repeat walk_at "jn"
  refine Op2_in_dict hd ?_
  exact Ret_same hwf rfl h
theorem get_spec {j : Nat} {a : AV} (T : Tops W K) (Y : AttrsK K tree) (Z : UseK K tree rawChunks rawString lenM inM getM) (hFr : FrsC C) (hL : Like A C.A) (hA : AOK A (n + 1)) (ho : σ.objs[k]? = some (.inst tree (atsOf (.obj l) false (.obj j) sha1))) (hd : σ.objs[j]? = some (.dict kvs 0)) (hv : valA kvs x = some a) (h : Kk a σ) : JCallA W C A (.ref getM) [.obj k, .byt x] [] [] Kk X σ := by
  refine JCallA_text (n := n) T Z.getM.fn (by decide +kernel) hFr hL hA (BindJ.p2 Z.getM.bind) rfl (by decide +kernel) (by decide +kernel) fun C' L eh ec1 ec2 elow hwf => ?_
  rw [show mkSlots (List.zip [("self" : Str), ("name" : Str)] [AV.obj k, .byt x]) (fnAt (clsAt pb 47) 5).2.names σ.objs.length = [.v (.obj k), .v (.byt x)] from rfl, show mkCells (List.zip [("self" : Str), ("name" : Str)] [AV.obj k, .byt x]) (fnAt (clsAt pb 47) 5).2.names = [] from rfl, List.append_nil]
  show JSs W C' (_ :: _) _ _ _
  repeat walk_at "jn"
  refine JS_ReturnW ?_
  refine J_Subscript (J_Attr (fun _ _ => rfl) ?_)
  repeat walk_at "jn"
  refine OpG_own T Y.cls ho Y.entries.find rfl rfl ?_
  repeat walk_at "jn"
  refine OpS_dict hd hv ?_
  intro w1 w2
  exact Ret_all (Nat.le_refl _) w1 w2 h
end
end
section
set_option maxHeartbeats 2000000
noncomputable def isDirB (m : Int) : Bool := Builtin.bitAnd m 61440 == 16384
noncomputable def keyOf (e : Ent) : List UInt8 := if isDirB (modeOf e.fig) then e.name ++ [47] else e.name
noncomputable def okModes : List Int := [Builtin.bitOr 32768 493, Builtin.bitOr 32768 420, 40960, 16384, 57344, Builtin.bitOr 32768 436]
noncomputable def nameBad (n : List UInt8) : Bool := subOf [47] n || [[], [46], [46, 46], [46, 103, 105, 116]].contains n
noncomputable def lastBad (last : Option Ent) (e : Ent) : Bool := match last with
  | none => false
  | some l => Builtin.Bytes.order (keyOf l) (keyOf e) == .gt || e.name == l.name
noncomputable def rowBad (last : Option Ent) (e : Ent) : Bool := preOf e.fig [48] || (nameBad e.name || (!okModes.contains (modeOf e.fig) || lastBad last e))
noncomputable def sound : Option Ent → List Ent → Bool
  | _, [] => true
  | last, e :: r => !rowBad last e && sound (some e) r
noncomputable def lastOf (last : Option Ent) : List Ent → Option Ent
  | [] => last
  | e :: r => lastOf (some e) r
theorem sound_append : ∀ (a b : List Ent) (last : Option Ent), sound last (a ++ b) = (sound last a && sound (lastOf last a) b)
  | [], b, last => by simp [sound, lastOf]
  | e :: r, b, last => by
    show (!rowBad last e && sound (some e) (r ++ b)) = _
    rw [sound_append r b (some e), ← Bool.and_assoc]
    rfl
theorem lastOf_append : ∀ (a b : List Ent) (last : Option Ent), lastOf last (a ++ b) = lastOf (lastOf last a) b
  | [], b, last => rfl
  | e :: r, b, last => lastOf_append r b (some e)
theorem take_step {es : List Ent} {i : Nat} {e : Ent} (h : es[i]? = some e) : es.take (i + 1) = es.take i ++ [e] := by rw [List.take_add_one, h]; rfl
theorem sound_step {es : List Ent} {i : Nat} {e : Ent} (h : es[i]? = some e) (s : sound none (es.take i) = true) : sound none (es.take (i + 1)) = !rowBad (lastOf none (es.take i)) e := by
  rw [take_step h, sound_append, s, Bool.true_and]
  show (!rowBad _ e && true) = _
  rw [Bool.and_true]
theorem sound_bad {es : List Ent} {i : Nat} {e : Ent} (h : es[i]? = some e) (s : sound none (es.take i) = true) (b : rowBad (lastOf none (es.take i)) e = true) : sound none es = false := by
  refine el_1_1 (List.getElem?_eq_some_iff.mp h) fun q hE527 => ?_; subst hE527
  have e : es = es.take i ++ es[i] :: es.drop (i + 1) := by rw [← List.drop_eq_getElem_cons q, List.take_append_drop]
  rw [e, sound_append, s, Bool.true_and]
  show (!rowBad _ _ && _) = false
  rw [b]; rfl
theorem lastOf_step {es : List Ent} {i : Nat} {e : Ent} (h : es[i]? = some e) : lastOf none (es.take (i + 1)) = some e := by
  rw [take_step h, lastOf_append]; rfl
theorem lastOf_mem : ∀ (l : List Ent) (last : Option Ent) {e : Ent}, lastOf last l = some e → e ∈ l ∨ last = some e
  | [], last, e, h => .inr h
  | x :: r, last, e, h => by
    rcases lastOf_mem r (some x) h with q | q
    · exact .inl (.tail _ q)
    · cases q; exact .inl (.head _)
noncomputable def Ent.entry (e : Ent) : AV := .tu [.byt e.name, .tu [.int (modeOf e.fig), .byt (hexL e.sha)]]
noncomputable def lastAV : Option Ent → AV
  | none => .non
  | some e => e.entry
theorem hexL_hex (l : List UInt8) : (hexL l).all isHex = true := by
  rw [List.all_eq_true]
  intro x hx
  unfold hexL octs at hx
  refine el_1_2 (List.mem_map.mp hx) fun n hn hE528 => ?_; subst hE528
  unfold hexI at hn
  refine el_1_2 (List.mem_flatMap.mp hn) fun c _ hc => ?_
  have key : ∀ k : Nat, isHex ((digs.getD k 0).toNat : Int).toNat.toUInt8 = true ∨ 16 ≤ k := by
    intro k
    by_cases h : 16 ≤ k
    · exact .inr h
    · refine .inl ?_
      have : ∀ k : Fin 16, isHex ((digs.getD k.val 0).toNat : Int).toNat.toUInt8 = true := by decide +kernel
      exact this ⟨k, by omega⟩
  refine el_0_4 (hex_idx ⟨c.toNat, c.toNat_lt⟩) fun h1 h2 h3 h4 => ?_
  dsimp only at h1 h2 h3 h4
  rcases List.mem_cons.mp hc with rfl | hc
  · rcases key ((c.toNat : Int).fdiv 16).toNat with h | h
    · exact h
    · omega
  · rw [List.mem_singleton.mp hc]
    rcases key (Builtin.bitAnd (c.toNat : Int) 15).toNat with h | h
    · exact h
    · omega
section
variable {W : Wd} {K : Frag} {C : Ctx} {A : Around} {σ : St} {X : KX} {Kk : KA} {f g g' tree sha1 : Addr} {n k l : Nat} {es : List Ent} {d : Tok}
theorem keyEntry_spec {e : Ent} (T : Tops W K) (D : Def1 K 45 "key_entry" "entry" f) (D1 : Def1 K 14 "S_ISDIR" "mode" g) (D2 : Def1 K 13 "S_IFMT" "mode" g') (hd : nsIn K mainGlobals "S_IFDIR" = some (some (.int 16384 d))) (hFr : FrsC C) (hL : Like A C.A) (hA : AOK A (n + 1 + 1 + 1)) (hcl : C.hclean = true) (hz : e.name.length ≤ 1000) (h : Kk (.byt (keyOf e)) σ) : JCallA W C A (.ref f) [e.entry] [] [] Kk X σ := by
  refine JCallA_text (n := n + 1 + 1) T D.fn (by decide +kernel) hFr hL hA (BindJ.p1 D.bind) rfl (by decide +kernel) (by decide +kernel) fun C' L eh ec1 ec2 elow hwf => ?_
  rw [show mkSlots (List.zip [("entry" : Str)] [e.entry]) (fnAt pb 45).2.names σ.objs.length = [.v e.entry, .non, .non, .non, .non] from rfl, show mkCells (List.zip [("entry" : Str)] [e.entry]) (fnAt pb 45).2.names = [] from rfl, List.append_nil]
  show JSs W C' (_ :: _) _ _ _
  repeat walk_at "jn"
  refine JS_AssignT rfl rfl ?_
  repeat walk_at "jn"
  unfold Ent.entry
  refine AsgJ_tuple (ec2.trans hcl) rfl rfl ?_
  repeat walk_at "jn"
  refine AsgJ_tuple (ec2.trans hcl) rfl rfl ?_
  repeat walk_at "jn"
  refine JB_value ?_ (fun _ _ => rfl)
  refine J_CallG T L (by decide +kernel) D1.glb rfl rfl ?_
  repeat walk_at "jn"
  refine JCallA.v (S_ISDIR_spec T D1 D2 hd L.frs (.refl _) L.ok ?_)
  repeat walk_at "jn"
  unfold keyOf isDirB at h
  cases hb : (Builtin.bitAnd (modeOf e.fig) 61440 == 16384) with
  | true =>
    rw [hb, if_pos rfl] at h
    refine br_t rfl ?_
    repeat walk_at "jn"
    refine JS_AugAssign (Get_loc L (by decide +kernel) (i := 1) (by decide +kernel) rfl ?_)
    repeat walk_at "jn"
    refine Op2_ibadd (l := e.name) (r := [47]) (by simp; omega) ?_
    repeat walk_at "js"
    exact Ret_same hwf rfl h
  | false =>
    rw [hb, if_neg (by decide)] at h
    refine br_f rfl ?_
    refine JSs_nil ?_
    repeat walk_at "js"
    exact Ret_same hwf rfl h
structure ChkK (K : Frag) (tree chk keyE isDir ifmt : Addr) : Prop where
  chk : Met1 K tree 47 13 "check" "self" chk
  keyE : Def1 K 45 "key_entry" "entry" keyE
  isDir : Def1 K 14 "S_ISDIR" "mode" isDir
  ifmt : Def1 K 13 "S_IFMT" "mode" ifmt
  dir : ∃ d, nsIn K mainGlobals "S_IFDIR" = some (some (.int 16384 d))
  reg : ∃ d, nsIn K mainGlobals "S_IFREG" = some (some (.int 32768 d))
  lnk : ∃ d, nsIn K mainGlobals "S_IFLNK" = some (some (.int 40960 d))
  gitlink : ∃ d, nsIn K mainGlobals "S_IFGITLINK" = some (some (.int 57344 d))
variable {p c : Addr} {a1 a2 a3 a4 a5 a6 a7 a8 deser chunks rawStr rawChunks rawString lenM inM getM chk keyE isDir ifmt : Addr} {en : AV}
theorem check_spec (Z : ReadK W K tree sha1 p c a1 a2 a3 a4 a5 a6 a7 a8 deser chunks rawStr) (Z2 : UseK K tree rawChunks rawString lenM inM getM) (Z3 : ChkK K tree chk keyE isDir ifmt) (hFr : FrsC C) (hL : Like A C.A) (hA : AOK A (n + 1 + 1 + 1 + 1 + 1 + 1)) (hh : C.A.handled = none) (hcl : C.hclean = true)
    (ho : σ.objs[k]? = some (.inst tree (atsOf (.obj l) false en sha1))) (hl : σ.objs[l]? = some (.list [.byt (textOf es)])) (hok : ∀ e ∈ es, e.OK) (hsz : es.length ≤ 1000)
    (h1 : sound none es = true → Kk .non σ) (h2 : sound none es = false → X (.ref c) true σ) : JCallA W C A (.ref chk) [.obj k] [] [] Kk X σ := by
  have T := Z.top
  have Y := Z.ats
  have H := Z.hexs
  have U := Z.bui
  have hk := (List.getElem?_eq_some_iff.mp ho).1
  have hb := text_bound hok
  refine JCallA_text (n := n + 1 + 1 + 1 + 1 + 1) T Z3.chk.fn (by decide +kernel) hFr hL hA (BindJ.p1 Z3.chk.bind) rfl (by decide +kernel) (by decide +kernel) fun C' L eh ec1 ec2 elow hwf => ?_
  rw [show mkSlots (List.zip [("self" : Str)] [AV.obj k]) (fnAt (clsAt pb 47) 13).2.names σ.objs.length = [.v (.obj k), .non, .non, .non, .non, .non, .non, .non, .non, .non, .non, .non, .non, .non, .non, .non] from rfl, show mkCells (List.zip [("self" : Str)] [AV.obj k]) (fnAt (clsAt pb 47) 13).2.names = [] from rfl, List.append_nil]
  have fr' : C'.A.handled = none := eh.trans hh
  have cl' : C'.hclean = true := ec2.trans hcl
  show JSs W C' (_ :: _) _ _ _
  repeat walk_at "jn"
  refine J_Method (fun _ => rfl) rfl rfl rfl rfl ?_
  repeat walk_at "jn"
  refine ⟨_, _, GetM_inst T Y.cls ho Z2.rawChunks.find Z2.rawChunks.typ rfl, keeper_K T.X Z2.rawChunks.keep, ?_⟩
  repeat walk_at "jn"
  refine JCallA.v (asChunks_spec T Y Z2 L.frs (.refl _) L.ok ho ?_)
  repeat walk_at "jn"
  refine JS_Assert ?_
  repeat walk_at "jn"
  refine J_Attr (fun _ _ => rfl) ?_
  repeat walk_at "jn"
  refine OpG_own T Y.cls ho Y.chunked.find rfl rfl ?_
  repeat walk_at "jn"
  refine Op2_isNot rfl ?_
  repeat walk_at "jn"
  refine ⟨rfl, ?_⟩
  refine el_1_1 Z3.dir fun d1 hdir => ?_
  refine el_1_1 Z3.reg fun d2 hreg => ?_
  refine el_1_1 Z3.lnk fun d3 hlnk => ?_
  refine el_1_1 Z3.gitlink fun d4 hgit => ?_
  repeat walk_at "jn"
  refine J_glbA T L (by decide +kernel) hreg (fun _ _ => DenA.int _ _) ?_
  repeat walk_at "jn"
  refine J_glbA T L (by decide +kernel) hreg (fun _ _ => DenA.int _ _) ?_
  repeat walk_at "jn"
  refine J_glbA T L (by decide +kernel) hlnk (fun _ _ => DenA.int _ _) ?_
  repeat walk_at "jn"
  refine J_glbA T L (by decide +kernel) hdir (fun _ _ => DenA.int _ _) ?_
  repeat walk_at "jn"
  refine J_glbA T L (by decide +kernel) hgit (fun _ _ => DenA.int _ _) ?_
  repeat walk_at "jn"
  refine J_glbA T L (by decide +kernel) hreg (fun _ _ => DenA.int _ _) ?_
  repeat walk_at "jn"
  refine ⟨by simp, ?_⟩
  repeat walk_at "jn"
  refine JS_low (m := σ.objs.length + 1) L (by omega) fun C3 L eA _ ec3 elow3 => ?_
  replace fr' : C3.A.handled = none := by rw [eA]; exact fr'
  replace cl' : C3.hclean = true := ec3.trans cl'
  refine JS_For (fun _ => rfl) L.frs ?_
  refine J_CallG T L (by decide +kernel) Z.parse.glb rfl rfl ?_
  repeat walk_at "jn"
  refine J_Method (fun _ => rfl) rfl rfl rfl rfl ?_
  repeat walk_at "jn"
  refine ⟨_, _, GetM_byt slot_bytes_join type_bytes_join, keeper_builtin _, ?_⟩
  repeat walk_at "jn"
  refine J_Attr (fun _ _ => rfl) ?_
  repeat walk_at "jn"
  refine OpG_own T Y.cls ho Y.chunked.find rfl rfl ?_
  repeat walk_at "jn"
  refine JC_join hl rfl (by show (textOf es ++ []).length ≤ _; rw [List.append_nil]; omega) ?_
  rw [show joinL [] [textOf es] = textOf es from List.append_nil _]
  repeat walk_at "jn"
  refine J_Attr (fun _ _ => rfl) (J_Attr (fun _ _ => rfl) ?_)
  repeat walk_at "jn"
  refine OpG_own T Y.cls ho Y.fmt.find rfl rfl ?_
  refine OpG_fmt (x := 0) T Z.fmt ?_
  repeat walk_at "jn"
  refine JCallV_gen T Z.parse.fn (by decide +kernel) (L.ok.less (by omega)) (BindJ.k2 (x := "text") (y := "sha_len") (z := "strict") Z.parse.bind2) rfl (by decide +kernel) (by decide +kernel) ?_
  generalize hmod : AV.tu _ = modes
  obtain ⟨m, endX, hm, hg, hx⟩ : ∃ (m : Nat) (endX : Option (Value × Bool)), m ≤ es.length ∧ (∀ i < m, ∀ e, es[i]? = some e → (true && preOf e.fig [48]) = false) ∧ ((endX = none ∧ m = es.length) ∨ (endX = some (.ref c, true) ∧ ∃ e, es[m]? = some e ∧ (true && preOf e.fig [48]) = true)) := by
    refine ⟨es.findIdx (fun e => preOf e.fig [48]), if es.findIdx (fun e => preOf e.fig [48]) < es.length then some (.ref c, true) else none, List.findIdx_le_length, fun i hi e he => ?_, ?_⟩
    · have := List.not_of_lt_findIdx hi
      rw [Bool.true_and]
      refine el_1_1 (List.getElem?_eq_some_iff.mp he) fun q hE529 => ?_; subst hE529
      simpa using this
    · by_cases q : es.findIdx (fun e => preOf e.fig [48]) < es.length
      · rw [if_pos q]
        exact .inr ⟨rfl, _, List.getElem?_eq_getElem q, by rw [Bool.true_and]; exact List.findIdx_getElem (p := fun e : Ent => preOf e.fig [48])⟩
      · rw [if_neg q]
        exact .inl ⟨rfl, Nat.le_antisymm List.findIdx_le_length (Nat.le_of_not_lt q)⟩
  have hP := parse_iters (n := n + 1 + 1) (σ := ⟨[VS.v (.obj k), .v .non, .v modes, .non, .non, .non, .non, .non, .non, .non, .non, .non, .non, .non, .non, .non], σ.objs ++ [.gen p (fdOf K p) (fnAt pb 42).1 (parseVars (textOf es) true)]⟩) (k := σ.objs.length) (m := m) (strict := true) (endX := endX) T Z.parse.fn H U Z.ofe L.frs fr' L.ok (by simp) hok hsz hm hg hx
  have hvl : ((es.take m).map Ent.row).length = m := by rw [List.length_map, List.length_take]; omega
  rw [hvl] at hP
  refine ForJ_itX hP ⟨rfl, cl', ?_⟩ L.frs (fun i τ => (∃ vn vm vs ve, τ = ⟨[.v (.obj k), .v (lastAV (lastOf none (es.take i))), .v modes, vn, vm, vs, ve, .non, .non, .non, .non, .non, .non, .non, .non, .non], σ.objs ++ [.sem (GenI W C3.A ((es.take m).map Ent.row) endX (m - i))]⟩) ∧ sound none (es.take i) = true) (fun i τ hQ0 => ?_) (fun i a τ ha hQ1 => ?_) (fun he τ hQ2 => ?_) (fun c' cl he τ hQ3 => ?_) ⟨⟨.non, .non, .non, .non, ?_⟩, rfl⟩
  · rw [elow3]; omega
  · refine el_0_2 hQ0 fun hO39 _ => ?_; obtain ⟨_, _, _, _, e⟩ := hO39
    subst e; exact st0
  · refine el_0_2 hQ1 fun hO40 hs => ?_; obtain ⟨vn, vm, vs, ve, hτ⟩ := hO40
    subst hτ
    rw [List.getElem?_map] at ha
    refine el_1_2 (Option.map_eq_some_iff.mp ha) fun e he0 hE530 => ?_; subst hE530
    have hi : i < m := by
      have := (List.getElem?_eq_some_iff.mp he0).1
      rw [List.length_take] at this; omega
    have he : es[i]? = some e := by rwa [List.getElem?_take_of_lt hi] at he0
    have heo := hok e (List.mem_of_getElem? he)
    have hpre : preOf e.fig [48] = false := by have := hg i hi e he; rwa [Bool.true_and] at this
    have bad : rowBad (lastOf none (es.take i)) e = true → ∀ v' ext cl, (C3.A.handled = none → cl = true) → RetX X σ.vars σ.objs.length (.ref c) cl ⟨v', σ.objs ++ ext⟩ := fun hb v' ext cl hc => by
      have := hc fr'
      subst this
      exact X_drop hwf (h2 (sound_bad he hs hb))
    have hlm : ∀ x, lastOf none (es.take i) = some x → x.name.length ≤ 20 := fun x hx' => by
      rcases lastOf_mem _ _ hx' with q | q
      · exact (hok x (List.mem_of_mem_take q)).names
      · cases q
    have hstep := sound_step he hs
    have hnext := lastOf_step he
    dsimp only
    rw [if_pos hi, set0]
    generalize GenI W C3.A ((es.take m).map Ent.row) endX (m - (i + 1)) = gi
    generalize lastOf none (es.take i) = lo at *
    subst hmod
    unfold Ent.row
    refine AsgJ_tuple cl' rfl rfl ?_
    repeat walk_at "jn"
    refine J_CallG T L (by decide +kernel) H.check.glb rfl rfl ?_
    repeat walk_at "jn"
    refine J_fstr2 (by decide) ?_
    repeat walk_at "jn"
    refine ⟨_, rfl, by rw [hexL_len, heo.sha]; omega, fun y => ?_⟩
    repeat walk_at "jn"
    refine JCallA.v (check_hexsha_spec T H U L.frs (.refl _) L.ok fr' cl' (by rw [hexL_len, heo.sha]) (hexL_hex _) ?_)
    repeat walk_at "jn"
    refine JAll_or_val (bx := subOf [47] e.name) (by' := [[], [46], [46, 46], [46, 103, 105, 116]].contains e.name) (fun Kb hKb => ?_) (fun _ Kb hKb => ?_) ?_
    · repeat walk_at "jn"
      refine Op2_in_bytes fr' ?_
      repeat walk_at "jn"
      exact hKb
    · repeat walk_at "jn"
      refine ⟨by simp, Op2_inT_byt (xs := [[], [46], [46, 46], [46, 103, 105, 116]]) rfl ?_⟩
      repeat walk_at "jn"
      exact hKb
    have hnb : nameBad e.name = (subOf [47] e.name || [[], [46], [46, 46], [46, 103, 105, 116]].contains e.name) := rfl
    rw [← hnb]
    cases hn : nameBad e.name with
    | true =>
      refine br_t rfl ?_
      repeat walk_at "jn"
      refine JS_Raise cl' Z.ofe.exc ?_
      refine JX_Call Z.ofe.exc callForm_name rfl ?_
      refine J_glb T L (by decide +kernel) Z.ofe.ns ⟨rfl, ?_⟩
      repeat walk_at "jn"
      exact ⟨by simp, fun cl hc => bad (by unfold rowBad; rw [hn, hpre]; rfl) _ _ cl hc⟩
    | false =>
    refine br_f rfl (JSs_nil ?_)
    repeat walk_at "jn"
    refine Op2_notInT_int (is := okModes) rfl ?_
    repeat walk_at "jn"
    cases hmd : okModes.contains (modeOf e.fig) with
    | false =>
      refine br_t rfl ?_
      repeat walk_at "jn"
      refine JS_Raise cl' Z.ofe.exc ?_
      refine JX_Call Z.ofe.exc callForm_name rfl ?_
      refine J_glb T L (by decide +kernel) Z.ofe.ns ⟨rfl, ?_⟩
      repeat walk_at "jn"
      exact ⟨by simp, fun cl hc => bad (by unfold rowBad; rw [hn, hpre, hmd]; rfl) _ _ cl hc⟩
    | true =>
    refine br_f rfl (JSs_nil ?_)
    repeat walk_at "jn"
    refine J_CallG T L (by decide +kernel) H.objectID.glb rfl rfl ?_
    repeat walk_at "jn"
    refine JCallA.v (ObjectID_spec T H.objectID L.frs (.refl _) L.ok rfl ?_)
    repeat walk_at "jn"
    refine ⟨by simp, ?_⟩
    repeat walk_at "jn"
    refine ⟨by simp, ?_⟩
    repeat walk_at "jn"
    refine JB_value ?_ (fun _ _ => rfl)
    repeat walk_at "jn"
    have done : ∀ vn vm vs ve, lastBad lo e = false → JSs W C3 [] (LoopK C3 (fun τ => (∃ vn vm vs ve, τ = ⟨[.v (.obj k), .v (lastAV (lastOf none (es.take (i + 1)))), .v (.tu [.int (Builtin.bitOr 32768 493), .int (Builtin.bitOr 32768 420), .int 40960, .int 16384, .int 57344, .int (Builtin.bitOr 32768 436)]), vn, vm, vs, ve, .non, .non, .non, .non, .non, .non, .non, .non, .non], σ.objs ++ [.sem gi]⟩) ∧ sound none (es.take (i + 1)) = true) (fun f σ₁ => match f with
        | .next => JSs W C' [] (RetK Kk σ.vars σ.objs.length) (RetX X σ.vars σ.objs.length) σ₁
        | f => RetK Kk σ.vars σ.objs.length f σ₁)) (RetX X σ.vars σ.objs.length) ⟨[.v (.obj k), .v e.entry, .v (.tu [.int (Builtin.bitOr 32768 493), .int (Builtin.bitOr 32768 420), .int 40960, .int 16384, .int 57344, .int (Builtin.bitOr 32768 436)]), vn, vm, vs, ve, .non, .non, .non, .non, .non, .non, .non, .non, .non], σ.objs ++ [.sem gi]⟩ := fun vn vm vs ve hlb => by
      refine JSs_nil ⟨_, .inl rfl, ⟨vn, vm, vs, ve, by rw [hnext]; rfl⟩, ?_⟩
      rw [hstep]
      unfold rowBad
      rw [hn, hpre, hmd, hlb]; rfl
    cases lo with
    | none =>
      refine OpT_non ?_
      refine br_f rfl (JSs_nil ?_)
      repeat walk_at "jn"
      exact done _ _ _ _ rfl
    | some le =>
      have hle := hlm le rfl
      refine OpT_tup (l := [.byt le.name, .tu [.int (modeOf le.fig), .byt (hexL le.sha)]]) (by simp) ?_
      refine br_t rfl ?_
      repeat walk_at "jn"
      refine J_CallG T L (by decide +kernel) Z3.keyE.glb rfl rfl ?_
      repeat walk_at "jn"
      refine JCallA.v (keyEntry_spec (e := le) T Z3.keyE Z3.isDir Z3.ifmt hdir L.frs (.refl _) L.ok cl' (by omega) ?_)
      repeat walk_at "jn"
      refine J_CallG T L (by decide +kernel) Z3.keyE.glb rfl rfl ?_
      repeat walk_at "jn"
      refine JCallA.v (keyEntry_spec (e := e) T Z3.keyE Z3.isDir Z3.ifmt hdir L.frs (.refl _) L.ok cl' (by have := heo.names; omega) ?_)
      repeat walk_at "jn"
      refine Op2_bgt ?_
      repeat walk_at "jn"
      cases hgt : (Builtin.Bytes.order (keyOf le) (keyOf e) == .gt) with
      | true =>
        refine br_t rfl ?_
        repeat walk_at "jn"
        refine JS_Raise cl' Z.ofe.exc ?_
        refine JX_Call Z.ofe.exc callForm_name rfl ?_
        refine J_glb T L (by decide +kernel) Z.ofe.ns ⟨rfl, ?_⟩
        repeat walk_at "jn"
        exact ⟨by simp, fun cl hc => bad (by unfold rowBad lastBad; rw [hn, hpre, hmd]; dsimp only; rw [hgt]; rfl) _ _ cl hc⟩
      | false =>
      refine br_f rfl (JSs_nil ?_)
      repeat walk_at "jn"
      refine J_Subscript ?_
      repeat walk_at "jn"
      refine OpS_tuple (l := [.byt le.name, .tu [.int (modeOf le.fig), .byt (hexL le.sha)]]) (i := 0) (by decide) (by decide) rfl ?_
      refine Op2_beq ?_
      repeat walk_at "jn"
      cases heq : (e.name == le.name) with
      | true =>
        refine br_t rfl ?_
        repeat walk_at "jn"
        refine JS_Raise cl' Z.ofe.exc ?_
        refine JX_Call Z.ofe.exc callForm_name rfl ?_
        refine J_glb T L (by decide +kernel) Z.ofe.ns ⟨rfl, ?_⟩
        repeat walk_at "jn"
        refine J_fstr2 (by decide) ?_
        repeat walk_at "jn"
        refine ⟨_, rfl, by have := heo.names; omega, fun y => ?_⟩
        repeat walk_at "jn"
        exact ⟨by simp, fun cl hc => bad (by unfold rowBad lastBad; rw [hn, hpre, hmd]; dsimp only; rw [hgt, heq]; rfl) _ _ cl hc⟩
      | false =>
      refine br_f rfl (JSs_nil ?_)
      dsimp only
      refine JSs_nil ?_
      repeat walk_at "jn"
      exact done _ _ _ _ (by unfold lastBad; dsimp only; rw [hgt, heq]; rfl)
  · refine el_0_2 hQ2 fun hO41 hs => ?_; obtain ⟨vn, vm, vs, ve, hτ⟩ := hO41
    subst hτ
    rw [hvl] at hs ⊢
    have hme : m = es.length := by
      rcases hx with ⟨_, h⟩ | ⟨h, _⟩
      · exact h
      · rw [he] at h; cases h
    subst hme
    rw [List.take_length] at hs
    dsimp only
    rw [set0]
    exact JSs_nil (JSs_nil (Nxt_drop hwf (h1 hs)))
  · refine el_0_2 hQ3 fun hO42 hs => ?_; obtain ⟨vn, vm, vs, ve, hτ⟩ := hO42
    subst hτ
    rw [hvl] at hs ⊢
    rcases hx with ⟨h, _⟩ | ⟨h, e, he1, he2⟩
    · rw [he] at h; cases h
    · rw [he] at h; cases h
      dsimp only
      rw [set0]
      refine X_drop hwf (h2 (sound_bad he1 hs ?_))
      unfold rowBad
      rw [Bool.true_and] at he2
      rw [he2]; rfl
  · walk_at "stn"
    rfl
end
end
section
set_option maxHeartbeats 2000000
noncomputable def figT : List (List UInt8) := [[49, 48, 48, 54, 52, 52], [48, 49, 48, 48, 54, 52, 52], [52, 48, 48, 48, 48], [48, 52, 48, 48, 48, 48], [49, 48, 48, 55, 53, 53], [49, 50, 48, 48, 48, 48], [49, 54, 48, 48, 48, 48], [49, 48, 48, 54, 54, 52], [49, 48, 48, 54, 48, 48], [48, 48, 49, 48, 48, 55, 53, 53], [52, 48, 55, 53, 53], [49, 50, 48, 55, 55, 55]]
noncomputable def nameT : List (List UInt8) := [[97], [46], [46, 46], [46, 103, 105, 116], [], [97, 47, 98], [97, 46, 98], [98], [255], [47, 97]]
noncomputable def okFigs : List (List UInt8) := [[49, 48, 48, 54, 52, 52], [49, 48, 48, 55, 53, 53], [49, 50, 48, 48, 48, 48], [52, 48, 48, 48, 48], [49, 54, 48, 48, 48, 48], [49, 48, 48, 54, 54, 52]]
noncomputable def badNames : List (List UInt8) := [[], [46], [46, 46], [46, 103, 105, 116], [97, 47, 98], [47, 97]]
noncomputable def lkey (e : Ent) : List UInt8 := if e.fig == [52, 48, 48, 48, 48] then e.name ++ [47] else e.name
noncomputable def llast (last : Option Ent) (e : Ent) : Bool := match last with
  | none => false
  | some l => Builtin.Bytes.order (lkey l) (lkey e) == .gt || l.name == e.name
noncomputable def lbad (last : Option Ent) (e : Ent) : Bool := !okFigs.contains e.fig || (badNames.contains e.name || llast last e)
noncomputable def lsound : Option Ent → List Ent → Bool
  | _, [] => true
  | last, e :: r => !lbad last e && lsound (some e) r
theorem lsound_append : ∀ (a b : List Ent) (last : Option Ent), lsound last (a ++ b) = (lsound last a && lsound (lastOf last a) b)
  | [], b, last => by simp [lsound, lastOf]
  | e :: r, b, last => by
    show (!lbad last e && lsound (some e) (r ++ b)) = _
    rw [lsound_append r b (some e), ← Bool.and_assoc]
    rfl
theorem lsound_step {es : List Ent} {i : Nat} {e : Ent} (h : es[i]? = some e) (s : lsound none (es.take i) = true) : lsound none (es.take (i + 1)) = !lbad (lastOf none (es.take i)) e := by
  rw [take_step h, lsound_append, s, Bool.true_and]
  show (!lbad _ e && true) = _
  rw [Bool.and_true]
theorem lsound_bad {es : List Ent} {i : Nat} {e : Ent} (h : es[i]? = some e) (s : lsound none (es.take i) = true) (b : lbad (lastOf none (es.take i)) e = true) : lsound none es = false := by
  refine el_1_1 (List.getElem?_eq_some_iff.mp h) fun q hE540 => ?_; subst hE540
  have e : es = es.take i ++ es[i] :: es.drop (i + 1) := by rw [← List.drop_eq_getElem_cons q, List.take_append_drop]
  rw [e, lsound_append, s, Bool.true_and]
  show (!lbad _ _ && _) = false
  rw [b]; rfl
noncomputable def Ent.rowAV (e : Ent) : AV := .tu [.byt e.fig, .byt e.name, .byt e.sha]
noncomputable def llastAV : Option Ent → AV
  | none => .non
  | some e => .tu [.byt (lkey e), .byt e.name]
section
variable {W : Wd} {K : Frag} {C : Ctx} {A : Around} {σ : St} {X : KX} {Kk : KA} {f : Addr} {n r : Nat} {es : List Ent}
theorem J_IfExp_val {t a b : Expr} {p : Pos} {bt : Bool} {va vb r : AV} (ht : ∀ Kb : Bool → St → Prop, Kb bt σ → JB W C t Kb X σ) (ha : bt = true → ∀ K' : KA, K' va σ → J W C a K' X σ) (hb : bt = false → ∀ K' : KA, K' vb σ → J W C b K' X σ) (hr : (if bt = true then va else vb) = r) (h : Kk r σ) : J W C (.IfExp t a b p) Kk X σ := by
  subst hr
  refine J_IfExp (ht _ ?_)
  cases bt with
  | true => exact br_t rfl (ha rfl _ h)
  | false => exact br_f rfl (hb rfl _ h)
theorem figures_spec (T : Tops W K) (D : Def0 K 55 "_law_figures" f) (hFr : FrsC C) (hL : Like A C.A) (hA : AOK A (n + 1)) (h : Kk (.obj σ.objs.length) { σ with objs := σ.objs ++ [.list (figT.map .byt)] }) : JCallA W C A (.ref f) [] [] [] Kk X σ := by
  refine JCallA_text (n := n) T D.fn (by decide +kernel) hFr hL hA (BindJ.p0 D.bind) rfl (by decide +kernel) (by decide +kernel) fun C' L eh ec1 ec2 elow hwf => ?_
  rw [show mkSlots (List.zip [] []) (fnAt pb 55).2.names σ.objs.length = [] from rfl, show mkCells (List.zip [] []) (fnAt pb 55).2.names = [] from rfl, List.append_nil]
  show JSs W C' (_ :: _) _ _ _
  repeat walk_at "jn"
  refine JS_ReturnW ?_
  repeat walk_at "jn"
  refine ⟨by simp, fun w1 w2 => Ret_all (by simp) w1 w2 h⟩
theorem names_spec (T : Tops W K) (D : Def0 K 56 "_law_names" f) (hFr : FrsC C) (hL : Like A C.A) (hA : AOK A (n + 1)) (h : Kk (.obj σ.objs.length) { σ with objs := σ.objs ++ [.list (nameT.map .byt)] }) : JCallA W C A (.ref f) [] [] [] Kk X σ := by
  refine JCallA_text (n := n) T D.fn (by decide +kernel) hFr hL hA (BindJ.p0 D.bind) rfl (by decide +kernel) (by decide +kernel) fun C' L eh ec1 ec2 elow hwf => ?_
  rw [show mkSlots (List.zip [] []) (fnAt pb 56).2.names σ.objs.length = [] from rfl, show mkCells (List.zip [] []) (fnAt pb 56).2.names = [] from rfl, List.append_nil]
  show JSs W C' (_ :: _) _ _ _
  repeat walk_at "jn"
  refine JS_ReturnW ?_
  repeat walk_at "jn"
  refine ⟨by simp, fun w1 w2 => Ret_all (by simp) w1 w2 h⟩
theorem modeOf_take {l : List UInt8} {i : Nat} {c : UInt8} (h : l[i]? = some c) : modeOf (l.take (i + 1)) = 8 * modeOf (l.take i) + (c.toNat : Int) - 48 := by
  unfold modeOf
  rw [List.take_add_one, h]
  simp [List.foldl_append]
theorem mode_spec {l : List UInt8} (T : Tops W K) (D : Def1 K 57 "_law_mode" "figures" f) (hFr : FrsC C) (hL : Like A C.A) (hA : AOK A (n + 1)) (hh : C.A.handled = none) (h : Kk (.int (modeOf l)) σ) : JCallA W C A (.ref f) [.byt l] [] [] Kk X σ := by
  refine JCallA_text (n := n) T D.fn (by decide +kernel) hFr hL hA (BindJ.p1 D.bind) rfl (by decide +kernel) (by decide +kernel) fun C' L eh ec1 ec2 elow hwf => ?_
  rw [show mkSlots (List.zip [("figures" : Str)] [AV.byt l]) (fnAt pb 57).2.names σ.objs.length = [.v (.byt l), .non, .non] from rfl, show mkCells (List.zip [("figures" : Str)] [AV.byt l]) (fnAt pb 57).2.names = [] from rfl, List.append_nil]
  show JSs W C' (_ :: _) _ _ _
  repeat walk_at "jn"
  refine JS_For (fun _ => rfl) L.frs ?_
  repeat walk_at "jn"
  refine ForJ_bytes (eh.trans hh) L.frs (fun i τ => ∃ v, τ = ⟨[.v (.byt l), .v (.int (modeOf (l.take i))), v], σ.objs⟩) (fun i c τ hc hτ => ?_) (fun τ hτ => ?_) ⟨_, rfl⟩
  · refine el_1_1 hτ fun v hE541 => ?_; subst hE541
    repeat walk_at "js"
    exact ⟨_, .inl rfl, _, by rw [modeOf_take hc]⟩
  · refine el_1_1 hτ fun v hE542 => ?_; subst hE542
    repeat walk_at "js"
    exact Ret_same hwf rfl (by rw [List.take_length]; exact h)
theorem sound_spec (T : Tops W K) (D : Def1 K 58 "_law_sound" "rows" f) (hFr : FrsC C) (hL : Like A C.A) (hA : AOK A (n + 1)) (hcl : C.hclean = true) (ho : σ.objs[r]? = some (.list (es.map Ent.rowAV))) (hsm : ∀ e ∈ es, e.name.length ≤ 1000) (h : Kk (.bool (lsound none es)) σ) : JCallA W C A (.ref f) [.obj r] [] [] Kk X σ := by
  have hr := (List.getElem?_eq_some_iff.mp ho).1
  refine JCallA_text (n := n) T D.fn (by decide +kernel) hFr hL hA (BindJ.p1 D.bind) rfl (by decide +kernel) (by decide +kernel) fun C' L eh ec1 ec2 elow hwf => ?_
  rw [show mkSlots (List.zip [("rows" : Str)] [AV.obj r]) (fnAt pb 58).2.names σ.objs.length = [.v (.obj r), .non, .non, .non, .non, .non] from rfl, show mkCells (List.zip [("rows" : Str)] [AV.obj r]) (fnAt pb 58).2.names = [] from rfl, List.append_nil]
  show JSs W C' (_ :: _) _ _ _
  repeat walk_at "jn"
  refine JS_For (fun _ => rfl) L.frs ?_
  repeat walk_at "jn"
  refine ForJ_it (Iters_list ho) ⟨ec2.trans hcl, by rw [elow]; exact hr⟩ L.frs (fun i τ => (∃ v2 v3 v4 v5 ext, τ = ⟨[.v (.obj r), .v (llastAV (lastOf none (es.take i))), v2, v3, v4, v5], σ.objs ++ ext⟩) ∧ lsound none (es.take i) = true) (fun i τ ⟨⟨_, _, _, _, _, e⟩, _⟩ => ?_) (fun i a τ ha ⟨⟨v2, v3, v4, v5, ext, hτ⟩, hs⟩ => ?_) (fun τ ⟨⟨v2, v3, v4, v5, ext, hτ⟩, hs⟩ => ?_) ⟨⟨.non, .non, .non, .non, [], by rw [List.append_nil]; rfl⟩, rfl⟩
  · subst e; rw [List.getElem?_append_left hr]; exact ho
  · subst hτ
    rw [List.getElem?_map] at ha
    refine el_1_2 (Option.map_eq_some_iff.mp ha) fun e he hE543 => ?_; subst hE543
    have bad : lbad (lastOf none (es.take i)) e = true → ∀ v' ext, RetK Kk σ.vars σ.objs.length (.ret (.bool false)) ⟨v', σ.objs ++ ext⟩ := fun hb v' ext => Ret_drop hwf rfl (by rw [lsound_bad he hs hb] at h; exact h)
    have hstep := lsound_step he hs
    have hnext := lastOf_step he
    have hz := hsm e (List.mem_of_getElem? he)
    generalize lastOf none (es.take i) = lo at *
    unfold Ent.rowAV
    refine AsgJ_tuple (ec2.trans hcl) rfl rfl ?_
    repeat walk_at "jn"
    refine ⟨by simp, ?_⟩
    refine Op2_notInL_byt (xs := okFigs) (l := okFigs.map .byt) (by exact st0) rfl ?_
    repeat walk_at "jn"
    cases hf : okFigs.contains e.fig with
    | false =>
      refine br_t rfl ?_
      repeat walk_at "js"
      walk_at "stn"
      exact bad (by unfold lbad; rw [hf]; rfl) _ _
    | true =>
    refine br_f rfl (JSs_nil ?_)
    repeat walk_at "jn"
    refine ⟨by simp, ?_⟩
    refine Op2_inL_byt (xs := badNames) (l := badNames.map .byt) (by exact st0) rfl ?_
    repeat walk_at "jn"
    cases hn : badNames.contains e.name with
    | true =>
      refine br_t rfl ?_
      repeat walk_at "js"
      walk_at "stn"
      exact bad (by unfold lbad; rw [hf, hn]; rfl) _ _
    | false =>
    refine br_f rfl (JSs_nil ?_)
    repeat walk_at "jn"
    refine J_IfExp_val (bt := e.fig == [52, 48, 48, 48, 48]) (va := .byt (e.name ++ [47])) (vb := .byt e.name) (r := .byt (lkey e)) (fun Kb hKb => ?_) (fun _ K' hK' => ?_) (fun _ K' hK' => ?_) (by unfold lkey; split <;> rfl) ?_
    · repeat walk_at "jn"
      refine Op2_beq ?_
      repeat walk_at "jn"
      exact hKb
    · repeat walk_at "jn"
      refine Op2_badd (l := e.name) (r := [47]) (by simp; omega) ?_
      exact hK'
    · repeat walk_at "jn"
      exact hK'
    repeat walk_at "jn"
    have done : ∀ v2 v3 v4 v5 ext, llast lo e = false → JSs W C' [] (LoopK C' (fun τ => (∃ v2 v3 v4 v5 ext, τ = ⟨[.v (.obj r), .v (llastAV (lastOf none (es.take (i + 1)))), v2, v3, v4, v5], σ.objs ++ ext⟩) ∧ lsound none (es.take (i + 1)) = true) (fun f σ₁ => match f with
        | .next => JSs W C' [Stmt.Return (some (Expr.Constant (Const.bool true) 0 { line := 887, col := 11, endLine := 887, endCol := 15 })) { line := 887, col := 4, endLine := 887, endCol := 15 }] (RetK Kk σ.vars σ.objs.length) (RetX X σ.vars σ.objs.length) σ₁
        | f => RetK Kk σ.vars σ.objs.length f σ₁)) (RetX X σ.vars σ.objs.length) ⟨[.v (.obj r), .v (.tu [.byt (lkey e), .byt e.name]), v2, v3, v4, v5], σ.objs ++ ext⟩ := fun v2 v3 v4 v5 ext hlb => by
      refine JSs_nil ⟨_, .inl rfl, ⟨v2, v3, v4, v5, ext, by rw [hnext]; rfl⟩, ?_⟩
      rw [hstep]
      unfold lbad
      rw [hf, hn, hlb]; rfl
    cases lo with
    | none =>
      refine JAll_and_val (bx := false) (by' := false) (fun Kb hKb => ?_) (fun h => nomatch h) ?_
      · repeat walk_at "jn"
        refine Op2_isNot (r := true) rfl ?_
        repeat walk_at "jn"
        exact hKb
      refine br_f rfl (JSs_nil ?_)
      repeat walk_at "jn"
      refine ⟨by simp, ?_⟩
      repeat walk_at "jn"
      walk_at "stn"
      exact done _ _ _ _ _ rfl
    | some le =>
      refine JAll_and_val (bx := true) (by' := Builtin.Bytes.order (lkey le) (lkey e) == .gt || le.name == e.name) (fun Kb hKb => ?_) (fun _ Kb hKb => ?_) ?_
      · repeat walk_at "jn"
        refine Op2_isNot (r := false) rfl ?_
        repeat walk_at "jn"
        exact hKb
      · refine JB_BoolOp (JAll_or_val (bx := Builtin.Bytes.order (lkey le) (lkey e) == .gt) (by' := le.name == e.name) (fun Kb hKb => ?_) (fun _ Kb hKb => ?_) hKb)
        · repeat walk_at "jn"
          refine J_Subscript ?_
          repeat walk_at "jn"
          refine OpS_tuple (l := [.byt (lkey le), .byt le.name]) (i := 0) (by decide) (by decide) rfl ?_
          repeat walk_at "jn"
          refine Op2_bgt ?_
          repeat walk_at "jn"
          exact hKb
        · repeat walk_at "jn"
          refine J_Subscript ?_
          repeat walk_at "jn"
          refine OpS_tuple (l := [.byt (lkey le), .byt le.name]) (i := 1) (by decide) (by decide) rfl ?_
          repeat walk_at "jn"
          refine Op2_beq ?_
          repeat walk_at "jn"
          exact hKb
      cases hl : (Builtin.Bytes.order (lkey le) (lkey e) == .gt || le.name == e.name) with
      | true =>
        refine br_t rfl ?_
        repeat walk_at "js"
        walk_at "stn"
        exact bad (by unfold lbad llast; rw [hf, hn]; dsimp only; rw [hl]; rfl) _ _
      | false =>
      refine br_f rfl (JSs_nil ?_)
      repeat walk_at "jn"
      refine ⟨by simp, ?_⟩
      repeat walk_at "jn"
      walk_at "stn"
      exact done _ _ _ _ _ hl
  · subst hτ
    rw [List.length_map, List.take_length] at hs
    repeat walk_at "js"
    exact Ret_drop hwf rfl (by rw [hs] at h; exact h)
end
end
section
set_option maxHeartbeats 4000000
noncomputable def shaOf (n : Int) : List UInt8 := octs ((List.range 20).map fun (k : Nat) => (n.fdiv 240 + 11 * (0 + (k : Int) * 1)).fmod 256)
noncomputable def figOf (n : Int) : List UInt8 := if ((n.fdiv 120).fmod 2 == 1) = true then ([[49, 48, 48, 54, 52, 52], [52, 48, 48, 48, 48]] : List (List UInt8)).getD (n.fmod 2).toNat [] else figT.getD (n.fmod 12).toNat []
noncomputable def nameOf (n : Int) : List UInt8 := nameT.getD ((n.fdiv 12).fmod 10).toNat []
noncomputable def entOf (n : Int) : Ent := ⟨figOf n, nameOf n, shaOf n⟩
theorem fmod_lt {n : Int} {k : Nat} (hk : 0 < k) : 0 ≤ n.fmod k ∧ n.fmod k < k := by
  rw [Int.fmod_eq_emod_of_nonneg _ (by omega)]
  exact ⟨Int.emod_nonneg _ (by omega), Int.emod_lt_of_pos _ (by omega)⟩
theorem tab_get {T : List (List UInt8)} {i : Nat} (h : i < T.length) : (T.map AV.byt)[i]? = some (.byt (T.getD i [])) := by
  rw [List.getElem?_map, List.getElem?_eq_getElem h, List.getD_eq_getElem?_getD, List.getElem?_eq_getElem h]; rfl
theorem fmod_nat {n : Int} {k : Nat} (hk : 0 < k) : (n.fmod k).toNat < k := by have := fmod_lt (n := n) hk; omega
theorem figOf_mem (n : Int) : figOf n ∈ figT ∨ figOf n ∈ ([[49, 48, 48, 54, 52, 52], [52, 48, 48, 48, 48]] : List (List UInt8)) := by
  unfold figOf
  split
  · exact .inr (by
      have h := fmod_lt (n := n) (k := 2) (by decide)
      rw [List.getD_eq_getElem?_getD, List.getElem?_eq_getElem (fmod_nat (k := 2) (by decide))]
      exact List.getElem_mem _)
  · exact .inl (by
      have h := fmod_lt (n := n) (k := 12) (by decide)
      rw [List.getD_eq_getElem?_getD, List.getElem?_eq_getElem (fmod_nat (k := 12) (by decide))]
      exact List.getElem_mem _)
theorem nameOf_mem (n : Int) : nameOf n ∈ nameT := by
  unfold nameOf
  have h := fmod_lt (n := n.fdiv 12) (k := 10) (by decide)
  rw [List.getD_eq_getElem?_getD, List.getElem?_eq_getElem (fmod_nat (k := 10) (by decide))]
  exact List.getElem_mem _
theorem figOf_in (n : Int) : figOf n ∈ figT := by
  rcases figOf_mem n with h | h
  · exact h
  · have : ∀ x ∈ ([[49, 48, 48, 54, 52, 52], [52, 48, 48, 48, 48]] : List (List UInt8)), x ∈ figT := by decide
    exact this _ h
theorem entOf_ok (n : Int) : (entOf n).OK where
  oct := by
    have : ∀ x ∈ figT, octal x = true := by decide
    exact this _ (figOf_in n)
  figs := by
    have : ∀ x ∈ figT, x.length ≤ 20 := by decide
    exact this _ (figOf_in n)
  free := by
    have : ∀ x ∈ nameT, (0 : UInt8) ∉ x := by decide
    exact this _ (nameOf_mem n)
  names := by
    have : ∀ x ∈ nameT, x.length ≤ 20 := by decide
    exact this _ (nameOf_mem n)
  sha := by show (octs _).length = 20; unfold octs; simp
theorem toByts_byt : ∀ xs : List (List UInt8), toByts (xs.map AV.byt) = some xs
  | [] => rfl
  | x :: r => by show (toByts (r.map AV.byt)).map _ = _; rw [toByts_byt r]; rfl
theorem joinL_nil : ∀ xs : List (List UInt8), joinL [] xs = xs.flatten
  | [] => rfl
  | x :: r => by
    show x ++ (r.map ([] ++ ·)).flatten = x ++ r.flatten
    congr 2
    simp
theorem join_text (es : List Ent) : joinL [] (es.map Ent.text) = textOf es := by rw [joinL_nil]; unfold textOf; rw [List.flatMap_def]
theorem ent_text (e : Ent) : e.fig ++ [32] ++ e.name ++ [0] ++ e.sha = e.text := by unfold Ent.text; simp
noncomputable def sigL (l : List UInt8) : List (List UInt8) := l.flatMap fun c => [[digs.getD ((c.toNat : Int).fdiv 16).toNat 0], [digs.getD ((c.toNat : Int).fmod 16).toNat 0]]
theorem and_mod : ∀ n : Fin 256, Builtin.bitAnd (n.val : Int) 15 = (n.val : Int).fmod 16 := by decide +kernel
theorem u8_back (d : UInt8) : ((d.toNat : Nat) : Int).toNat.toUInt8 = d := by
  rw [Int.toNat_natCast]
  exact UInt8.ofNat_toNat
theorem sig_join (l : List UInt8) : joinL [] (sigL l) = hexL l := by
  rw [joinL_nil]
  induction l with
  | nil => rfl
  | cons c r ih =>
    have h := and_mod ⟨c.toNat, c.toNat_lt⟩
    dsimp only at h
    have e1 : sigL (c :: r) = [digs.getD ((c.toNat : Int).fdiv 16).toNat 0] :: [digs.getD ((c.toNat : Int).fmod 16).toNat 0] :: sigL r := rfl
    have e2 : hexL (c :: r) = ((((digs.getD ((c.toNat : Int).fdiv 16).toNat 0).toNat : Nat) : Int).toNat.toUInt8) :: ((((digs.getD (Builtin.bitAnd (c.toNat : Int) 15).toNat 0).toNat : Nat) : Int).toNat.toUInt8) :: hexL r := rfl
    rw [e1, e2, u8_back, u8_back, h, List.flatten_cons, List.flatten_cons, ih]
    rfl
theorem sigL_step {l : List UInt8} {i : Nat} {c : UInt8} (h : l[i]? = some c) : sigL (l.take (i + 1)) = sigL (l.take i) ++ sigL [c] := by
  unfold sigL
  rw [List.take_add_one, h]
  simp [List.flatMap_append]
theorem sigL_len (l : List UInt8) : (sigL l).length = 2 * l.length := by
  induction l with
  | nil => rfl
  | cons c r ih => show (_ :: _ :: sigL r).length = _; simp only [List.length_cons, ih]; omega
theorem cut_one {v : Int} (h0 : 0 ≤ v) (h1 : v < 16) : cutL digs (some v) (some (v + 1)) = [digs.getD v.toNat 0] := by
  refine el_1_1 (Int.eq_ofNat_of_zero_le h0) fun k hE583 => ?_; subst hE583
  have hk : k < 16 := by omega
  have : ∀ k : Fin 16, cutL digs (some (k.val : Int)) (some ((k.val : Int) + 1)) = [digs.getD k.val 0] := by decide +kernel
  exact this ⟨k, hk⟩
theorem half_sig {c : UInt8} {j : Nat} {a : AV} (h : [AV.int ((c.toNat : Int).fdiv 16), AV.int ((c.toNat : Int).fmod 16)][j]? = some a) :
    ∃ v : Int, a = .int v ∧ 0 ≤ v ∧ v < 16 ∧ (sigL [c]).take (j + 1) = (sigL [c]).take j ++ [[digs.getD v.toNat 0]] := by
  refine el_0_4 (hex_idx ⟨c.toNat, c.toNat_lt⟩) fun h1 h2 h3 h4 => ?_
  have h5 := fmod_lt (n := (c.toNat : Int)) (k := 16) (by decide)
  cases j with
  | zero => cases h; exact ⟨_, rfl, h1, h2, rfl⟩
  | succ j => cases j with
    | zero => cases h; exact ⟨_, rfl, h5.1, h5.2, rfl⟩
    | succ j => simp at h
theorem st4 {α : Type} {pre r : List α} {o1 o2 o3 o4 o : α} : (pre ++ o1 :: o2 :: o3 :: o4 :: o :: r)[pre.length + 4]? = some o := by simp
theorem st5 {α : Type} {pre r : List α} {o1 o2 o3 o4 o5 o : α} : (pre ++ o1 :: o2 :: o3 :: o4 :: o5 :: o :: r)[pre.length + 5]? = some o := by simp
theorem set5 {α : Type} {pre r : List α} {o1 o2 o3 o4 o5 o o' : α} : (pre ++ o1 :: o2 :: o3 :: o4 :: o5 :: o :: r).set (pre.length + 5) o' = pre ++ o1 :: o2 :: o3 :: o4 :: o5 :: o' :: r := by simp
theorem Op1_notb {W : Wd} {C : Ctx} {K : KA} {X : KX} {σ : St} {b : Bool} (h : K (.bool (!b)) σ) : Op1 W C (unaryOp .Not) (.bool b) K X σ := fun B ρ s v R d1 => by
  obtain rfl := d1.iBool; exact not_of (wpAny_truthy_bool (.now (a := .bool _) R (.bool _) h))
theorem stored_vals {d : List (List UInt8 × AV)} {k : List UInt8} {a : AV} {P : AV → Prop} (h : ∀ p ∈ d, P p.2) (ha : P a) : ∀ p ∈ storedA d k a, P p.2 := by
  intro p hp
  unfold storedA at hp
  split at hp
  · refine el_1_2 (List.mem_map.mp hp) fun q hq hE584 => ?_; subst hE584
    split
    · exact ha
    · exact h q hq
  · rcases List.mem_append.mp hp with q | q
    · exact h p q
    · rw [List.mem_singleton.mp q]; exact ha
theorem entries_vals (es : List Ent) : ∀ p ∈ entriesOf es, ∃ (m : Int) (h : List UInt8), p.2 = .tu [.int m, .byt h] := by
  unfold entriesOf
  have : ∀ (l : List Ent) (d : List (List UInt8 × AV)), (∀ p ∈ d, ∃ (m : Int) (h : List UInt8), p.2 = .tu [.int m, .byt h]) → ∀ p ∈ l.foldl (fun d e => storedA d e.name e.val) d, ∃ (m : Int) (h : List UInt8), p.2 = .tu [.int m, .byt h] := by
    intro l
    induction l with
    | nil => intro d hd; exact hd
    | cons e r ih => intro d hd; exact ih _ (stored_vals (P := fun a => ∃ (m : Int) (h : List UInt8), a = .tu [.int m, .byt h]) hd ⟨_, _, rfl⟩)
  exact this es [] (fun _ h => nomatch h)
theorem valA_mem {d : List (List UInt8 × AV)} {k : List UInt8} {a : AV} (h : valA d k = some a) : ∃ p ∈ d, p.2 = a := by
  unfold valA at h
  refine el_1_2 (Option.map_eq_some_iff.mp h) fun p hp hE585 => ?_; subst hE585
  exact ⟨p, List.mem_of_find?_eq_some hp, rfl⟩
theorem fig_law : ∀ x ∈ figT, (preOf x [48] || !okModes.contains (modeOf x)) = !okFigs.contains x := by decide +kernel
theorem dir_law : ∀ x ∈ figT, okFigs.contains x = true → isDirB (modeOf x) = (x == [52, 48, 48, 48, 48]) := by decide +kernel
theorem name_law : ∀ x ∈ nameT, nameBad x = badNames.contains x := by decide +kernel
theorem key_law (n : Int) (h : okFigs.contains (figOf n) = true) : keyOf (entOf n) = lkey (entOf n) := by
  show (if isDirB (modeOf (figOf n)) then _ else _) = _
  rw [dir_law _ (figOf_in n) h]
  rfl
theorem row_law (last : Option Int) (hl : ∀ l, last = some l → okFigs.contains (figOf l) = true) (n : Int) : rowBad (last.map entOf) (entOf n) = lbad (last.map entOf) (entOf n) := by
  have h1 := fig_law _ (figOf_in n)
  have h2 := name_law _ (nameOf_mem n)
  have h3 : okFigs.contains (figOf n) = true → lastBad (last.map entOf) (entOf n) = llast (last.map entOf) (entOf n) := fun h => by
    cases last with
    | none => rfl
    | some l =>
      show (_ || _) = (_ || _)
      rw [key_law _ h, key_law _ (hl l rfl), Bool.beq_comm (a := (entOf n).name)]
  unfold rowBad lbad
  rw [show (entOf n).fig = figOf n from rfl, show (entOf n).name = nameOf n from rfl, h2]
  cases hf : okFigs.contains (figOf n)
  · rw [hf] at h1
    cases hp : preOf (figOf n) [48] <;> rw [hp] at h1
    · rw [show (!okModes.contains (modeOf (figOf n))) = true from h1]; cases badNames.contains (nameOf n) <;> rfl
    · rfl
  · rw [h3 hf]
    rw [hf] at h1
    refine el_0_2 (Bool.or_eq_false_iff.mp h1) fun e1 e2 => ?_
    rw [e1, e2]
    rfl
theorem sound_lsound' : ∀ (ms : List Int) (last : Option Int), (∀ l, last = some l → okFigs.contains (figOf l) = true) → sound (last.map entOf) (ms.map entOf) = lsound (last.map entOf) (ms.map entOf)
  | [], last, _ => by cases last <;> rfl
  | n :: r, last, hl => by
    show (!_ && _) = (!_ && _)
    rw [row_law last hl]
    cases hb : lbad (last.map entOf) (entOf n)
    · have hf : okFigs.contains (figOf n) = true := by
        have := (Bool.or_eq_false_iff.mp hb).1
        cases hc : okFigs.contains (figOf n)
        · rw [show okFigs.contains (entOf n).fig = false from hc] at this; cases this
        · rfl
      exact congrArg _ (sound_lsound' r (some n) (fun l h => by cases h; exact hf))
    · rfl
theorem sound_lsound (ms : List Int) : sound none (ms.map entOf) = lsound none (ms.map entOf) := sound_lsound' ms none (fun _ h => nomatch h)
structure LawK (K : Frag) (law figs names mode soundL : Addr) : Prop where
  law : Def1 K 59 "law" "script" law
  figs : Def0 K 55 "_law_figures" figs
  names : Def0 K 56 "_law_names" names
  mode : Def1 K 57 "_law_mode" "figures" mode
  sound : Def1 K 58 "_law_sound" "rows" soundL
structure FromK (K : Frag) (tree fromStr : Addr) : Prop where
  fn : FnK K fromStr (fnAt (clsAt pb 37) 6).1 (fnAt (clsAt pb 37) 6).2
  bind : ∀ S v u, peek K S (bindArgs (fdOf K fromStr) ⟨[v, u], []⟩) = some [(("cls" : Str), v), (("string" : Str), u)]
  keep : keepIn K (.ref tree) = true
  fnin : fnIn K fromStr = true
  get : specialIn K (.ref tree) "__getattribute__" = some (some (.builtin "type.__getattribute__"))
  ex : ∃ mc p obj rest, readsIn K tree mc = true ∧ findCls K (.ref tree) mc "from_string" = some (.get (.builtin "classmethod.__get__") (.ref p) obj (.ref tree)) ∧ recIn K p "classmethod" = some (.ref fromStr :: rest)
  ns : nsIn K mainGlobals "Tree" = some (some (.ref tree))
section
variable {tree sha1 p c a1 a2 a3 a4 a5 a6 a7 a8 deser chunks rawStr shafile init shaInit cc cda fromStr rawChunks rawString lenM inM getM chk keyE isDir ifmt : Addr} {main : Str} {cd1 cd2 : ClassData}
variable {W : Wd} {K : Frag} {C : Ctx} {A : Around} {σ : St} {X : KX} {Kk : KA} {law figs names mode soundL script : Addr} {n : Nat} {ns : List Int} {vs : List Value}
noncomputable def σ0 : St := ⟨[], []⟩
noncomputable def KkT : KA := fun a _ => a = .bool true
noncomputable def scr : Addr := 917
noncomputable def treeA : Addr := 610
theorem law_body (Z : ReadK W K treeA sha1 p c a1 a2 a3 a4 a5 a6 a7 a8 deser chunks rawStr) (M : MakeK W K treeA shafile init shaInit cc cda sha1 main cd1 cd2) (Fs : FromK K treeA fromStr) (Z2 : UseK K treeA rawChunks rawString lenM inM getM) (Z3 : ChkK K treeA chk keyE isDir ifmt) (Z4 : LawK K law figs names mode soundL) (hm : ExcM W (.ref c) (.con (.ref c)) true) (hs : W.h1.IsList scr vs.toArray) (hi : IntsAre vs ns) (hz : ns.length ≤ 16777216)
    {C' : Ctx} (L : Liv C' (fnAt pb 59).2 (n + 1 + 1 + 1 + 1 + 1 + 1 + 1)) (fr' : C'.A.handled = none) (cl' : C'.hclean = true) (elow : C'.low = σ0.objs.length) (hwf : Wf σ0.objs)
    : JSs W C' (fnAt pb 59).1 (RetK KkT σ0.vars σ0.objs.length) (RetX noX σ0.vars σ0.objs.length) ⟨mkSlots (List.zip [("script" : Str)] [AV.con (.ref scr)]) (fnAt pb 59).2.names σ0.objs.length, σ0.objs ++ mkCells (List.zip [("script" : Str)] [AV.con (.ref scr)]) (fnAt pb 59).2.names⟩ := by
  have h : ∀ σ', KkT (.bool true) σ' := fun _ => rfl
  have T := Z.top
  have U := Z.bui
  rw [show mkSlots (List.zip [("script" : Str)] [AV.con (.ref scr)]) (fnAt pb 59).2.names σ0.objs.length = [.v (.con (.ref scr)), .non, .cell σ0.objs.length, .non, .non, .non, .non, .non, .non, .non, .non, .non, .non, .non, .non, .non, .non, .non, .non] from rfl, show mkCells (List.zip [("script" : Str)] [AV.con (.ref scr)]) (fnAt pb 59).2.names = [.cell none] from rfl]
  show JSs W C' (_ :: _) _ _ _
  repeat walk_at "jn"
  refine ⟨by simp, ?_⟩
  repeat walk_at "jn"
  refine JS_low (m := σ0.objs.length + 3) L (by omega) fun C3 L3 eA _ ec3 elow3 => ?_
  have fr3 : C3.A.handled = none := by rw [eA]; exact fr'
  have cl3 : C3.hclean = true := ec3.trans cl'
  refine JS_For (fun _ => rfl) L3.frs ?_
  refine J_SubSlice ?_
  repeat walk_at "jn"
  refine OpSl_listB hs hi .non (.int 4) hz ?_
  walk_at "stn"
  generalize hq : cutL (ns.map AV.int) none (some 4) = q
  obtain ⟨ms, hms, hml⟩ : ∃ ms : List Int, q = ms.map AV.int ∧ ms.length ≤ 4 := by
    refine ⟨cutL ns none (some 4), by rw [← hq, cutL_map], ?_⟩
    unfold cutL clipAt
    simp only [Option.elim_none, Option.elim_some, List.length_take, List.length_drop]
    omega
  subst hms
  clear hq
  refine ForJ_it (Iters_list st2) ⟨cl3, by rw [elow3]; omega⟩ L3.frs (fun i τ => ∃ x v3 v4 v5 ext, τ = ⟨[.v (.con (.ref scr)), .v (.obj (σ0.objs.length + 1)), .cell σ0.objs.length, v3, v4, v5, .non, .non, .non, .non, .non, .non, .non, .non, .non, .non, .non, .non, .non], σ0.objs ++ .cell x :: .list ((ms.take i).map fun m => (entOf m).rowAV) :: .list (ms.map AV.int) :: ext⟩) (fun i τ hQ0 => by refine el_5_1 hQ0 fun _ _ _ _ _ e => ?_; subst e; exact st2) (fun i a τ ha hQ1 => ?_) (fun τ hQ2 => ?_) ⟨none, .non, .non, .non, [], rfl⟩
  · refine el_5_1 hQ1 fun x v3 v4 v5 ext hτ => ?_
    subst hτ
    rw [List.getElem?_map] at ha
    refine el_1_2 (Option.map_eq_some_iff.mp ha) fun n0 hn0 hE586 => ?_; subst hE586
    repeat walk_at "jn"
    generalize hbase : σ0.objs ++ _ :: _ = base
    have hcell : base[σ0.objs.length]? = some (.cell (some (.int n0))) := by rw [← hbase]; exact st0
    refine J_CallB T L3 (by decide +kernel) U.bytes rfl rfl ?_
    refine JEs_cons ?_
    refine listComp_J (by decide +kernel) (by rw [L3.scope]; decide +kernel) rfl (fun _ => rfl) L3.frs (FreeOK.of L3 rfl) ?_
    refine J_CallB T L3 (by decide +kernel) U.range rfl rfl ?_
    repeat walk_at "jn"
    refine JC_range ?_
    repeat walk_at "jn"
    refine ⟨FreeOK.of L3 rfl, _, _, none, _, _, _, rfl, Iters_range (by exact st0) (by decide +kernel), fun _ => fr3, fun acc D => ?_⟩
    refine CompTurns.go L3 rfl rfl fun C2 L2 eA2 _ ec4 elow2 => ?_
    refine ⟨fun j τ => ∃ o, τ = ⟨[.non, o, .cell σ0.objs.length], base ++ [.rng 0 20 1, .list (((List.range j).map fun (k : Nat) => (n0.fdiv 240 + 11 * (0 + (k : Int) * 1)).fmod 256).map AV.int)]⟩, fun _ _ _ => trivial, fun j a τ ha ⟨o, hτ⟩ => ?_, ⟨.non, by rw [L3.scope]; walk_at "stn"; rfl⟩, fun _ τ ⟨o, hτ⟩ => ?_, fun _ _ h => nomatch h⟩
    · subst hτ
      refine el_0_2 (rngVals_get ha) fun hE587 hj => ?_; subst hE587
      repeat walk_at "jn"
      refine ⟨fun _ => ?_, fun h => nomatch h⟩
      refine RunU_append rfl ?_
      repeat walk_at "jn"
      have hj2 : j < 20 := by have : Builtin.Range.rangeSize 0 20 1 = 20 := by decide +kernel
                              rw [this] at hj; omega
      refine ⟨_, by walk_at "stn"; rfl, by simp; omega, _, .inl rfl, .v (.int (0 + j * 1)), ?_⟩
      walk_at "stn"
      rw [List.range_succ]
      simp only [List.map_append, List.map_cons, List.map_nil]
    · subst hτ
      rw [show (rngVals 0 20 1).length = 20 from by decide +kernel]
      repeat walk_at "jn"
      refine JC_bytes fr3 (is := (List.range 20).map fun (k : Nat) => (n0.fdiv 240 + 11 * (0 + (k : Int) * 1)).fmod 256) (by walk_at "stn") (toInts_int _) (fun z hz => ?_) (by simp) ?_
      · refine el_1_2 (List.mem_map.mp hz) fun k _ hE588 => ?_; subst hE588
        exact fmod_lt (k := 256) (by decide)
      rw [show octs ((List.range 20).map fun (k : Nat) => (n0.fdiv 240 + 11 * (0 + (k : Int) * 1)).fmod 256) = shaOf n0 from rfl]
      obtain ⟨ext2, hE⟩ : ∃ e2, base ++ [AObj.rng 0 20 1, AObj.list (((List.range 20).map fun (k : Nat) => (n0.fdiv 240 + 11 * (0 + (k : Int) * 1)).fmod 256).map AV.int)] = σ0.objs ++ .cell (some (.int n0)) :: .list ((ms.take i).map fun m => (entOf m).rowAV) :: .list (ms.map AV.int) :: e2 := ⟨_, by rw [← hbase]; walk_at "stn"; rfl⟩
      rw [hE]
      clear hE
      repeat walk_at "jn"
      refine J_Subscript ?_
      refine J_CallG T L3 (by decide +kernel) Z4.figs.glb rfl rfl ?_
      repeat walk_at "jn"
      refine JCallA.v (figures_spec T Z4.figs L3.frs (.refl _) L3.ok ?_)
      repeat walk_at "jn"
      refine OpS_list st0 (fmod_lt (k := 12) (by decide)).1 (Int.lt_trans (fmod_lt (n := n0) (k := 12) (by decide)).2 (by decide)) (tab_get (T := figT) (fmod_nat (k := 12) (by decide))) ?_
      repeat walk_at "jn"
      cases hb : ((n0.fdiv 120).fmod 2 == 1)
      case' false =>
        refine br_f rfl (JSs_nil ?_)
        have hfig : figT.getD (n0.fmod 12).toNat [] = figOf n0 := by unfold figOf; rw [hb]; rfl
      case' true =>
        refine br_t rfl ?_
        have hfig : ([[49, 48, 48, 54, 52, 52], [52, 48, 48, 48, 48]] : List (List UInt8)).getD (n0.fmod 2).toNat [] = figOf n0 := by unfold figOf; rw [hb]; rfl
        repeat walk_at "jn"
        refine J_Subscript ?_
        repeat walk_at "jn"
        refine ⟨by simp, ?_⟩
        repeat walk_at "jn"
        refine OpS_list st0 (fmod_lt (k := 2) (by decide)).1 (Int.lt_trans (fmod_lt (n := n0) (k := 2) (by decide)).2 (by decide)) (tab_get (T := [[49, 48, 48, 54, 52, 52], [52, 48, 48, 48, 48]]) (fmod_nat (k := 2) (by decide))) ?_
        repeat walk_at "jn"
        refine JSs_nil ?_
      all_goals
        rw [hfig]
        walk_at "stn"
        repeat walk_at "jn"
        refine J_Method (fun _ => rfl) rfl rfl rfl rfl ?_
        repeat walk_at "jn"
        refine ⟨_, _, GetM_append st1, keeper_builtin _, ?_⟩
        repeat walk_at "jn"
        refine J_Subscript ?_
        refine J_CallG T L3 (by decide +kernel) Z4.names.glb rfl rfl ?_
        repeat walk_at "jn"
        refine JCallA.v (names_spec T Z4.names L3.frs (.refl _) L3.ok ?_)
        repeat walk_at "jn"
        refine OpS_list st0 (fmod_lt (k := 10) (by decide)).1 (Int.lt_trans (fmod_lt (n := n0.fdiv 12) (k := 10) (by decide)).2 (by decide)) (tab_get (T := nameT) (fmod_nat (k := 10) (by decide))) ?_
        repeat walk_at "jn"
        refine ⟨by simp, ?_⟩
        repeat walk_at "jn"
        refine JC_append (app_get st1) (by simp; omega) ?_
        repeat walk_at "jn"
        refine JSs_nil ?_
        refine ⟨_, .inl rfl, ?_⟩
        have hrow : (ms.take (i + 1)).map (fun m => (entOf m).rowAV) = (ms.take i).map (fun m => (entOf m).rowAV) ++ [(entOf n0).rowAV] := by rw [List.take_add_one, hn0]; simp
        rw [hrow]
        walk_at "stn"
        exact ⟨_, _, _, _, _, rfl⟩
  · refine el_5_1 hQ2 fun x v3 v4 v5 ext hτ => ?_
    subst hτ
    rw [List.length_map, List.take_length, show (ms.map fun m => (entOf m).rowAV) = (ms.map entOf).map Ent.rowAV from by rw [List.map_map]; rfl]
    generalize hes : ms.map entOf = es
    generalize AObj.list (ms.map AV.int) :: ext = ext
    have hel : es.length ≤ 4 := by rw [← hes, List.length_map]; exact hml
    have hok : ∀ e ∈ es, e.OK := fun e he => by
      rw [← hes] at he
      refine el_1_2 (List.mem_map.mp he) fun m _ hE589 => ?_; subst hE589
      exact entOf_ok m
    refine JSs_nil ?_
    repeat walk_at "jn"
    refine J_Method (fun _ => rfl) rfl rfl rfl rfl ?_
    repeat walk_at "jn"
    refine ⟨_, _, GetM_byt slot_bytes_join type_bytes_join, keeper_builtin _, ?_⟩
    refine JEs_cons ?_
    refine listComp_J (by decide +kernel) (by rw [L.scope]; decide +kernel) rfl (fun _ => rfl) L.frs (FreeOK.of L rfl) ?_
    repeat walk_at "jn"
    generalize hbase : σ0.objs ++ _ :: _ = base
    have hrows : base[σ0.objs.length + 1]? = some (.list (es.map Ent.rowAV)) := by rw [← hbase]; exact st1
    have hlt := (List.getElem?_eq_some_iff.mp hrows).1
    refine ⟨FreeOK.of L rfl, _, _, none, _, _, _, rfl, Iters_list hrows, fun D => ⟨cl', by show _ < base.length + 1; omega⟩, fun acc D => ?_⟩
    refine CompTurns.go L rfl rfl fun C2 L2 eA2 _ ec4 elow2 => ?_
    refine ⟨fun j τ => ∃ v1 v2 v3, τ = ⟨[.non, v1, v2, v3], base ++ [.list ((es.take j).map fun e => .byt e.text)]⟩, fun j τ hQ5 => by refine el_3_1 hQ5 fun _ _ _ e => ?_; subst e; exact app_get hrows, fun j a τ ha ⟨v1, v2, v3, hτ⟩ => ?_, ⟨.non, .non, .non, by rw [L.scope]; walk_at "stn"; rfl⟩, fun _ τ ⟨v1, v2, v3, hτ⟩ => ?_, fun _ _ h => nomatch h⟩
    · subst hτ
      rw [List.getElem?_map] at ha
      refine el_1_2 (Option.map_eq_some_iff.mp ha) fun e he hE590 => ?_; subst hE590
      have heo := hok e (List.mem_of_getElem? he)
      have := heo.figs
      have := heo.names
      have := heo.sha
      unfold Ent.rowAV
      refine AsgJ_tuple (ec4.trans cl') rfl rfl ?_
      repeat walk_at "jn"
      refine ⟨fun _ => ?_, fun h => nomatch h⟩
      refine RunU_append rfl ?_
      repeat walk_at "jn"
      refine Op2_badd (l := e.fig) (r := [32]) (by simp; omega) ?_
      repeat walk_at "jn"
      refine Op2_badd (l := e.fig ++ [32]) (r := e.name) (by simp; omega) ?_
      repeat walk_at "jn"
      refine Op2_badd (l := e.fig ++ [32] ++ e.name) (r := [0]) (by simp; omega) ?_
      repeat walk_at "jn"
      refine Op2_badd (l := e.fig ++ [32] ++ e.name ++ [0]) (r := e.sha) (by simp; omega) ?_
      rw [ent_text]
      refine ⟨_, st0, by simp; omega, _, .inl rfl, ?_⟩
      rw [take_step he]
      walk_at "stn"
      simp only [List.map_append, List.map_cons, List.map_nil]
      exact ⟨_, _, _, rfl⟩
    · subst hτ
      rw [List.length_map, List.take_length]
      repeat walk_at "jn"
      have hb := text_bound hok
      refine JC_join (l := es.map fun e => .byt e.text) (xs := es.map Ent.text) st0 (by rw [← toByts_byt, List.map_map]; rfl) (by rw [join_text]; omega) ?_
      rw [join_text]
      repeat walk_at "jn"
      refine el_4_3 Fs.ex fun mc pc ob rs hr1 hr2 hr3 => ?_
      refine J_ClsMethod T (fun _ => rfl) rfl rfl rfl rfl Fs.fnin Fs.get hr1 hr2 hr3 ?_
      refine J_glb T L (by decide +kernel) Fs.ns ⟨rfl, ?_⟩
      repeat walk_at "jn"
      refine ⟨st0, ?_⟩
      repeat walk_at "jn"
      refine fromStr_spec Z M Fs.fn Fs.bind Fs.keep L.frs (.refl _) L.ok fr' cl' hok (by omega) ?_
      generalize hb2 : base ++ _ ++ [AObj.sem _] = base2
      have hrows2 : base2[σ0.objs.length + 1]? = some (.list (es.map Ent.rowAV)) := by rw [← hb2]; exact app_get (app_get hrows)
      clear hb2
      repeat walk_at "jn"
      refine J_DictNil T ?_
      repeat walk_at "jn"
      walk_at "stn"
      refine JS_low (m := σ0.objs.length + 2) L (by omega) fun C4 L4 eA4 _ ec5 elow4 => ?_
      have fr4 : C4.A.handled = none := by rw [eA4]; exact fr'
      have cl4 : C4.hclean = true := ec5.trans cl'
      refine JS_For (fun _ => rfl) L4.frs ?_
      repeat walk_at "jn"
      refine ForJ_it (Iters_list (app_get hrows2)) ⟨cl4, by rw [elow4]; omega⟩ L4.frs (fun i τ => ∃ w3 w4 w5 w9 ext, τ = ⟨[.v (.con (.ref scr)), .v (.obj (σ0.objs.length + 1)), .cell σ0.objs.length, w3, w4, w5, .v (.byt (textOf es)), .v (.obj base2.length), .v (.obj (base2.length + 5)), w9, .non, .non, .non, .non, .non, .non, .non, .non, .non], base2 ++ .inst treeA (atsOf (.obj (base2.length + 2)) false (.obj (base2.length + 4)) sha1) :: .dict [] 0 :: .list [.byt (textOf es)] :: .junk :: .dict (entriesOf es) 0 :: .dict (entriesOf (es.take i)) 0 :: ext⟩) (fun i τ hQ8 => by refine el_5_1 hQ8 fun _ _ _ _ _ e => ?_; subst e; exact app_get hrows2) (fun i a τ ha hQ9 => ?_) (fun τ hQ10 => ?_) ⟨_, _, _, _, _, rfl⟩
      · refine el_5_1 hQ9 fun w3 w4 w5 w9 ext hτ => ?_
        subst hτ
        rw [List.getElem?_map] at ha
        refine el_1_2 (Option.map_eq_some_iff.mp ha) fun e he hE591 => ?_; subst hE591
        have heo := hok e (List.mem_of_getElem? he)
        have hsl := heo.sha
        unfold Ent.rowAV
        refine AsgJ_tuple cl4 rfl rfl ?_
        repeat walk_at "jn"
        refine J_Method (fun _ => rfl) rfl rfl rfl rfl ?_
        repeat walk_at "jn"
        refine ⟨_, _, GetM_byt slot_bytes_join type_bytes_join, keeper_builtin _, ?_⟩
        refine JEs_cons ?_
        refine listComp_J (by decide +kernel) (by rw [L4.scope]; decide +kernel) rfl (fun _ => rfl) L4.frs (FreeOK.of L4 rfl) ?_
        repeat walk_at "jn"
        generalize hb3 : base2 ++ _ :: _ = base3
        refine ⟨FreeOK.of L4 rfl, _, _, none, _, _, _, rfl, Iters_bytes, fun D => fr4, fun acc D => ?_⟩
        refine CompTurns.go L4 rfl rfl fun C5 L5 eA5 _ ec6 elow5 => ?_
        refine ⟨fun j τ => ∃ v1 v2, τ = ⟨[.non, v1, v2], base3 ++ [.list ((sigL (e.sha.take j)).map AV.byt)]⟩, fun _ _ _ => trivial, fun j a τ ha ⟨v1, v2, hτ⟩ => ?_, ⟨.non, .non, by rw [L4.scope]; walk_at "stn"; rfl⟩, fun _ τ ⟨v1, v2, hτ⟩ => ?_, fun _ _ h => nomatch h⟩
        · subst hτ
          rw [List.getElem?_map] at ha
          refine el_1_2 (Option.map_eq_some_iff.mp ha) fun c hc hE592 => ?_; subst hE592
          repeat walk_at "jn"
          refine ⟨fun _ => ?_, fun h => nomatch h⟩
          refine RunU_inner rfl rfl rfl L5.frs (fun _ => rfl) ?_
          repeat walk_at "jn"
          refine ⟨by simp, by walk_at "stn"; omega, _, _, _, _, Iters_tuple, ⟨ec6.trans cl4, rfl⟩, CompTurns.lowGo L5 fun C6 L6 eA6 _ ec7 elow6 => ?_⟩
          refine ⟨fun m τ => ∃ o hf, τ = ⟨[.non, o, hf], base3 ++ [.list ((sigL (e.sha.take j) ++ (sigL [c]).take m).map AV.byt)]⟩, fun _ _ _ => trivial, fun m a τ hm hQ13 => ?_, ⟨_, _, by rw [List.take_zero, List.append_nil]⟩, fun _ τ hQ14 => ?_, fun _ _ h => nomatch h⟩
          · refine el_2_1 hQ13 fun o hf hτ => ?_
            subst hτ
            repeat walk_at "jn"
            refine ⟨fun _ => ?_, fun h => nomatch h⟩
            refine RunU_append rfl ?_
            refine el_1_4 (half_sig hm) fun v hE593 hv0 hv1 hv2 => ?_; subst hE593
            refine J_SubSlice ?_
            repeat walk_at "jn"
            refine OpSl_bytesE (.int _) (.int _) (by decide) (cut_one hv0 hv1) ?_
            refine ⟨_, st0, ?_, _, .inl rfl, ?_⟩
            · rw [List.length_map, List.length_append, sigL_len, List.length_take, List.length_take, sigL_len]; simp only [List.length_cons, List.length_nil]; omega
            · walk_at "stn"
              rw [hv2]
              simp only [List.map_append, List.map_cons, List.map_nil, List.append_assoc]
              exact ⟨_, _, rfl⟩
          · refine el_2_1 hQ14 fun o hf hτ => ?_
            subst hτ
            refine ⟨_, .inl rfl, ?_⟩
            rw [sigL_step hc]
            exact ⟨o, hf, rfl⟩
        · subst hτ
          rw [List.length_map, List.take_length]
          repeat walk_at "jn"
          refine JC_join (l := (sigL e.sha).map AV.byt) (xs := sigL e.sha) st0 (toByts_byt _) (by rw [sig_join, hexL_len]; omega) ?_
          rw [sig_join]
          subst hb3
          walk_at "stn"
          repeat walk_at "jn"
          refine JS_AssignSub rfl ?_
          repeat walk_at "jn"
          refine J_CallG T L4 (by decide +kernel) Z4.mode.glb rfl rfl ?_
          repeat walk_at "jn"
          refine JCallA.v (mode_spec T Z4.mode L4.frs (.refl _) L4.ok fr4 ?_)
          repeat walk_at "jn"
          refine ⟨by simp, ?_⟩
          repeat walk_at "jn"
          have hle := entriesOf_len (es.take i)
          have htl : (es.take i).length ≤ es.length := by simp; omega
          refine OpI_dict st5 (by omega) ?_
          repeat walk_at "jn"
          refine JSs_nil ⟨_, .inl rfl, ?_⟩
          rw [entriesOf_step he]
          dsimp only
          rw [set5]
          exact ⟨_, _, _, _, _, rfl⟩
      · refine el_5_1 hQ10 fun w3 w4 w5 w9 ext hτ => ?_
        subst hτ
        rw [List.length_map, List.take_length]
        refine JSs_nil ?_
        repeat walk_at "jn"
        have hb := text_bound hok
        have hen := entriesOf_len es
        refine JAll_or_val (bx := false) (by' := false) (fun Kb hKb => ?_) (fun _ Kb hKb => ?_) ?_
        · repeat walk_at "jn"
          refine J_Method (fun _ => rfl) rfl rfl rfl rfl ?_
          repeat walk_at "jn"
          refine ⟨_, _, GetM_inst T Z.ats.cls st0 Z2.rawString.find Z2.rawString.typ rfl, keeper_K T.X Z2.rawString.keep, ?_⟩
          repeat walk_at "jn"
          refine JCallA.v (asString_spec (x := textOf es) T Z.ats Z2 L.frs (.refl _) L.ok st0 st2 (by omega) ?_)
          repeat walk_at "jn"
          refine Op2_bne ?_
          rw [bne_self_eq_false]
          repeat walk_at "jn"
          exact hKb
        · repeat walk_at "jn"
          refine J_CallB T L (by decide +kernel) U.len rfl rfl ?_
          repeat walk_at "jn"
          refine JC_len_inst T st0 Z2.lenM.find Z2.lenM.isfn fun A' hN => len_spec (n := 0) T Z.ats U Z2 L.frs hN.like ((hN.ok L.ok).less (by omega)) st0 st4 (by omega) ⟨_, rfl, by omega, ?_⟩
          repeat walk_at "jn"
          refine J_CallB T L (by decide +kernel) U.len rfl rfl ?_
          repeat walk_at "jn"
          refine JC_len_dict st5 (by omega) ?_
          repeat walk_at "jn"
          rw [bne_self_eq_false]
          repeat walk_at "jn"
          exact hKb
        refine br_f rfl (JSs_nil ?_)
        repeat walk_at "jn"
        generalize hO : base2 ++ _ :: _ = O
        have q0 : O[base2.length]? = some (.inst treeA (atsOf (.obj (base2.length + 2)) false (.obj (base2.length + 4)) sha1)) := by rw [← hO]; exact st0
        have q2 : O[base2.length + 2]? = some (.list [.byt (textOf es)]) := by rw [← hO]; exact st2
        have q4 : O[base2.length + 4]? = some (.dict (entriesOf es) 0) := by rw [← hO]; exact st4
        have q5 : O[base2.length + 5]? = some (.dict (entriesOf es) 0) := by rw [← hO]; exact st5
        have qr : O[σ0.objs.length + 1]? = some (.list (es.map Ent.rowAV)) := by rw [← hO]; exact app_get hrows2
        have qlt := (List.getElem?_eq_some_iff.mp qr).1
        refine JS_low (m := O.length + 1) L (by omega) fun C4 L4 eA4 _ ec5 elow4 => ?_
        have fr4 : C4.A.handled = none := by rw [eA4]; exact fr'
        have cl4 : C4.hclean = true := ec5.trans cl'
        refine JS_For (fun _ => rfl) L4.frs ?_
        refine J_CallG T L4 (by decide +kernel) Z4.names.glb rfl rfl ?_
        repeat walk_at "jn"
        refine JCallA.v (names_spec T Z4.names L4.frs (.refl _) L4.ok ?_)
        repeat walk_at "jn"
        refine ForJ_it (Iters_list st0) ⟨cl4, by rw [elow4]; omega⟩ L4.frs (fun i τ => ∃ w5 w9, τ = ⟨[.v (.con (.ref scr)), .v (.obj (σ0.objs.length + 1)), .cell σ0.objs.length, w3, w4, w5, .v (.byt (textOf es)), .v (.obj base2.length), .v (.obj (base2.length + 5)), w9, .non, .non, .non, .non, .non, .non, .non, .non, .non], O ++ [.list (nameT.map .byt)]⟩) (fun i τ hQ15 => by refine el_2_1 hQ15 fun _ _ e => ?_; subst e; exact st0) (fun i a τ ha hQ16 => ?_) (fun τ hQ17 => ?_) ⟨_, _, rfl⟩
        · refine el_2_1 hQ16 fun u5 u9 hτ => ?_
          subst hτ
          rw [List.getElem?_map] at ha
          refine el_1_2 (Option.map_eq_some_iff.mp ha) fun x hx hE594 => ?_; subst hE594
          repeat walk_at "jn"
          refine JAll_or_val (bx := false) (by' := false) (fun Kb hKb => ?_) (fun _ Kb hKb => ?_) ?_
          · repeat walk_at "jn"
            refine Op2_in_inst T (app_get q0) Z2.inM.find Z2.inM.isfn (in_spec (x := x) T Z.ats Z2 L4.frs (.refl _) L4.ok (app_get q0) (app_get q4) ⟨_, rfl, ?_⟩)
            repeat walk_at "jn"
            refine Op2_in_dict (app_get q5) ?_
            repeat walk_at "jn"
            refine Op2_bool_ne ?_
            rw [bne_self_eq_false]
            repeat walk_at "jn"
            exact hKb
          · refine JB_BoolOp (JAll_and_val (bx := (valA (entriesOf es) x).isSome) (by' := false) (fun Kb hKb => ?_) (fun hsome Kb hKb => ?_) (by rw [Bool.and_false]; exact hKb))
            · repeat walk_at "jn"
              refine Op2_in_dict (app_get q5) ?_
              repeat walk_at "jn"
              exact hKb
            · refine el_1_1 (Option.isSome_iff_exists.mp hsome) fun a hva => ?_
              refine el_1_2 (valA_mem hva) fun pp hpm hE595 => ?_; subst hE595
              refine el_2_1 (entries_vals es pp hpm) fun m hh2 hpv => ?_
              rw [hpv] at hva
              repeat walk_at "jn"
              refine J_Subscript ?_
              repeat walk_at "jn"
              refine OpS_inst T (app_get q0) Z2.getM.find Z2.getM.fnin Z2.getM.isfn (fun _ _ => rfl) fun A' hN => get_spec (n := 0) T Z.ats Z2 L4.frs hN.like ((hN.ok L4.ok).less (by omega)) (app_get q0) (app_get q4) hva ?_
              repeat walk_at "jn"
              refine J_Subscript ?_
              repeat walk_at "jn"
              refine OpS_dict (app_get q5) hva ?_
              refine Op2_neTup (by have := L4.ok.2; omega) (.cons (.int _ _ _) (.cons (.byt _ _ _) (.nil _))) ?_
              rw [beq_self_eq_true, beq_self_eq_true]
              repeat walk_at "jn"
              exact hKb
          refine br_f rfl (JSs_nil ?_)
          refine JSs_nil ⟨_, .inl rfl, ?_⟩
          exact ⟨_, _, rfl⟩
        · refine el_2_1 hQ17 fun u5 u9 hτ => ?_
          subst hτ
          refine JSs_nil ?_
          repeat walk_at "jn"
          refine JS_Try L.frs ?_
          repeat walk_at "jn"
          refine J_Method (fun _ => rfl) rfl rfl rfl rfl ?_
          repeat walk_at "jn"
          refine ⟨_, _, GetM_inst T Z.ats.cls (app_get q0) Z3.chk.find Z3.chk.typ rfl, keeper_K T.X Z3.chk.keep, ?_⟩
          repeat walk_at "jn"
          have hsl : sound none es = lsound none es := by rw [← hes]; exact sound_lsound ms
          refine JCallA.v (check_spec Z Z2 Z3 L.frs (.refl _) L.ok fr' cl' (app_get q0) (app_get q2) hok (by omega) (fun hs1 => ?_) (fun hs1 => ?_))
          · refine JSs_nil (JSs_nil ?_)
            repeat walk_at "jn"
            refine JS_ReturnW ?_
            refine J_CallG T L (by decide +kernel) Z4.sound.glb rfl rfl ?_
            repeat walk_at "jn"
            refine JCallA.v (sound_spec (n := 0) T Z4.sound L.frs (.refl _) (L.ok.less (by omega)) cl' (app_get qr) (fun e he => by have := (hok e he).names; omega) ?_)
            repeat walk_at "jn"
            rw [← hsl, hs1]
            exact fun w' l' => Ret_all (by simp; omega) w' l' (h _)
          · refine ⟨by simp, fun e0 => ?_⟩
            have LH := L.hand e0 (.ref c) true
            refine J_glb T LH (by decide +kernel) Z.ofe.ns ?_
            refine ⟨true, hm, (fun h => nomatch h), fun _ => ?_⟩
            show JSs W _ (_ :: _) _ _ _
            refine JSs_cons ?_
            refine JS_ReturnW ?_
            refine J_UnaryOp ?_
            refine J_CallG T LH (by decide +kernel) Z4.sound.glb rfl rfl ?_
            repeat walk_at "jn"
            refine JCallA.v (sound_spec (σ := ⟨_, O ++ _⟩) (n := 0) T Z4.sound LH.frs (.refl _) (LH.ok.less (by omega)) rfl (app_get qr) (fun e he => by have := (hok e he).names; omega) ?_)
            repeat walk_at "jn"
            refine Op1_notb ?_
            repeat walk_at "jn"
            rw [← hsl, hs1]
            exact fun w' l' => Ret_all (by simp; omega) w' l' (h _)
end
end
section
open MineH
noncomputable abbrev kK (P : Params) : Frag := kK0 P
variable (w : World)
theorem fnk_hexlify : FnK (kK w.params) 139 (fnAt pb 15).1 (fnAt pb 15).2 := ⟨by kernel_rfl, by kernel_rfl, by kernel_rfl, by kernel_rfl, by kernel_rfl, by kernel_rfl, by kernel_rfl⟩
theorem glb_hexlify : Glb (kK w.params) "hexlify" (.ref 139) := ⟨by kernel_rfl, by kernel_rfl⟩
theorem def_hexlify : Def1 (kK w.params) 15 "hexlify" "octets" 139 := ⟨fnk_hexlify w, glb_hexlify w, fun _ _ => by kernel_rfl⟩
theorem fnk_digit : FnK (kK w.params) 146 (fnAt pb 16).1 (fnAt pb 16).2 := ⟨by kernel_rfl, by kernel_rfl, by kernel_rfl, by kernel_rfl, by kernel_rfl, by kernel_rfl, by kernel_rfl⟩
theorem glb_digit : Glb (kK w.params) "_digit" (.ref 146) := ⟨by kernel_rfl, by kernel_rfl⟩
theorem def_digit : Def1 (kK w.params) 16 "_digit" "octet" 146 := ⟨fnk_digit w, glb_digit w, fun _ _ => by kernel_rfl⟩
theorem fnk_unhexlify : FnK (kK w.params) 151 (fnAt pb 17).1 (fnAt pb 17).2 := ⟨by kernel_rfl, by kernel_rfl, by kernel_rfl, by kernel_rfl, by kernel_rfl, by kernel_rfl, by kernel_rfl⟩
theorem glb_unhexlify : Glb (kK w.params) "unhexlify" (.ref 151) := ⟨by kernel_rfl, by kernel_rfl⟩
theorem def_unhexlify : Def1 (kK w.params) 17 "unhexlify" "text" 151 := ⟨fnk_unhexlify w, glb_unhexlify w, fun _ _ => by kernel_rfl⟩
theorem fnk_ObjectID : FnK (kK w.params) 158 (fnAt pb 18).1 (fnAt pb 18).2 := ⟨by kernel_rfl, by kernel_rfl, by kernel_rfl, by kernel_rfl, by kernel_rfl, by kernel_rfl, by kernel_rfl⟩
theorem glb_ObjectID : Glb (kK w.params) "ObjectID" (.ref 158) := ⟨by kernel_rfl, by kernel_rfl⟩
theorem def_ObjectID : Def1 (kK w.params) 18 "ObjectID" "octets" 158 := ⟨fnk_ObjectID w, glb_ObjectID w, fun _ _ => by kernel_rfl⟩
theorem fnk_RawObjectID : FnK (kK w.params) 165 (fnAt pb 19).1 (fnAt pb 19).2 := ⟨by kernel_rfl, by kernel_rfl, by kernel_rfl, by kernel_rfl, by kernel_rfl, by kernel_rfl, by kernel_rfl⟩
theorem glb_RawObjectID : Glb (kK w.params) "RawObjectID" (.ref 165) := ⟨by kernel_rfl, by kernel_rfl⟩
theorem def_RawObjectID : Def1 (kK w.params) 19 "RawObjectID" "octets" 165 := ⟨fnk_RawObjectID w, glb_RawObjectID w, fun _ _ => by kernel_rfl⟩
theorem fnk_sha_to_hex : FnK (kK w.params) 172 (fnAt pb 28).1 (fnAt pb 28).2 := ⟨by kernel_rfl, by kernel_rfl, by kernel_rfl, by kernel_rfl, by kernel_rfl, by kernel_rfl, by kernel_rfl⟩
theorem glb_sha_to_hex : Glb (kK w.params) "sha_to_hex" (.ref 172) := ⟨by kernel_rfl, by kernel_rfl⟩
theorem def_sha_to_hex : Def1 (kK w.params) 28 "sha_to_hex" "sha" 172 := ⟨fnk_sha_to_hex w, glb_sha_to_hex w, fun _ _ => by kernel_rfl⟩
theorem fnk_valid : FnK (kK w.params) 186 (fnAt pb 30).1 (fnAt pb 30).2 := ⟨by kernel_rfl, by kernel_rfl, by kernel_rfl, by kernel_rfl, by kernel_rfl, by kernel_rfl, by kernel_rfl⟩
theorem glb_valid : Glb (kK w.params) "valid_hexsha" (.ref 186) := ⟨by kernel_rfl, by kernel_rfl⟩
theorem def_valid : Def1 (kK w.params) 30 "valid_hexsha" "hex" 186 := ⟨fnk_valid w, glb_valid w, fun _ _ => by kernel_rfl⟩
theorem fnk_check_hexsha : FnK (kK w.params) 193 (fnAt pb 31).1 (fnAt pb 31).2 := ⟨by kernel_rfl, by kernel_rfl, by kernel_rfl, by kernel_rfl, by kernel_rfl, by kernel_rfl, by kernel_rfl⟩
theorem glb_check_hexsha : Glb (kK w.params) "check_hexsha" (.ref 193) := ⟨by kernel_rfl, by kernel_rfl⟩
theorem def_check_hexsha : Def2 (kK w.params) 31 "check_hexsha" "hex" "error_msg" 193 := ⟨fnk_check_hexsha w, glb_check_hexsha w, fun _ _ _ => by kernel_rfl⟩
theorem hexs : Hexs (kK w.params) 139 146 151 158 165 172 186 193 := ⟨def_hexlify w, def_digit w, def_unhexlify w, def_ObjectID w, def_RawObjectID w, def_sha_to_hex w, def_valid w, def_check_hexsha w⟩
theorem bui_len : Bui (kK w.params) "len" (.builtin "len") := ⟨by kernel_rfl, by kernel_rfl, fun _ => keeper_builtin _, by kernel_rfl⟩
theorem bui_isinstance : Bui (kK w.params) "isinstance" (.builtin "isinstance") := ⟨by kernel_rfl, by kernel_rfl, fun _ => keeper_builtin _, by kernel_rfl⟩
theorem bui_bytes : Bui (kK w.params) "bytes" (.type "bytes") := ⟨by kernel_rfl, by kernel_rfl, fun _ => keeper_type _, by kernel_rfl⟩
theorem bui_range : Bui (kK w.params) "range" (.type "range") := ⟨by kernel_rfl, by kernel_rfl, fun _ => keeper_type _, by kernel_rfl⟩
theorem bui_int : Bui (kK w.params) "int" (.type "int") := ⟨by kernel_rfl, by kernel_rfl, fun _ => keeper_type _, by kernel_rfl⟩
theorem bui_ValueError : Bui (kK w.params) "ValueError" (.type "ValueError") := ⟨by kernel_rfl, by kernel_rfl, fun _ => keeper_type _, by kernel_rfl⟩
theorem bui_TypeError : Bui (kK w.params) "TypeError" (.type "TypeError") := ⟨by kernel_rfl, by kernel_rfl, fun _ => keeper_type _, by kernel_rfl⟩
theorem buis : Buis (kK w.params) := ⟨bui_len w, bui_bytes w, bui_range w, bui_int w, bui_isinstance w, bui_ValueError w, bui_TypeError w⟩
theorem fnk_law : FnK (kK w.params) 916 (fnAt pb 59).1 (fnAt pb 59).2 := ⟨by kernel_rfl, by kernel_rfl, by kernel_rfl, by kernel_rfl, by kernel_rfl, by kernel_rfl, by kernel_rfl⟩
theorem glb_law : Glb (kK w.params) "law" (.ref 916) := ⟨by kernel_rfl, by kernel_rfl⟩
theorem def_law : Def1 (kK w.params) 59 "law" "script" 916 := ⟨fnk_law w, glb_law w, fun _ _ => by kernel_rfl⟩
theorem fnk_figs : FnK (kK w.params) 890 (fnAt pb 55).1 (fnAt pb 55).2 := ⟨by kernel_rfl, by kernel_rfl, by kernel_rfl, by kernel_rfl, by kernel_rfl, by kernel_rfl, by kernel_rfl⟩
theorem glb_figs : Glb (kK w.params) "_law_figures" (.ref 890) := ⟨by kernel_rfl, by kernel_rfl⟩
theorem def_figs : Def0 (kK w.params) 55 "_law_figures"  890 := ⟨fnk_figs w, glb_figs w, fun _ => by kernel_rfl⟩
theorem fnk_names : FnK (kK w.params) 897 (fnAt pb 56).1 (fnAt pb 56).2 := ⟨by kernel_rfl, by kernel_rfl, by kernel_rfl, by kernel_rfl, by kernel_rfl, by kernel_rfl, by kernel_rfl⟩
theorem glb_names : Glb (kK w.params) "_law_names" (.ref 897) := ⟨by kernel_rfl, by kernel_rfl⟩
theorem def_names : Def0 (kK w.params) 56 "_law_names"  897 := ⟨fnk_names w, glb_names w, fun _ => by kernel_rfl⟩
theorem fnk_mode : FnK (kK w.params) 904 (fnAt pb 57).1 (fnAt pb 57).2 := ⟨by kernel_rfl, by kernel_rfl, by kernel_rfl, by kernel_rfl, by kernel_rfl, by kernel_rfl, by kernel_rfl⟩
theorem glb_mode : Glb (kK w.params) "_law_mode" (.ref 904) := ⟨by kernel_rfl, by kernel_rfl⟩
theorem def_mode : Def1 (kK w.params) 57 "_law_mode" "figures" 904 := ⟨fnk_mode w, glb_mode w, fun _ _ => by kernel_rfl⟩
theorem fnk_sound : FnK (kK w.params) 911 (fnAt pb 58).1 (fnAt pb 58).2 := ⟨by kernel_rfl, by kernel_rfl, by kernel_rfl, by kernel_rfl, by kernel_rfl, by kernel_rfl, by kernel_rfl⟩
theorem glb_sound : Glb (kK w.params) "_law_sound" (.ref 911) := ⟨by kernel_rfl, by kernel_rfl⟩
theorem def_sound : Def1 (kK w.params) 58 "_law_sound" "rows" 911 := ⟨fnk_sound w, glb_sound w, fun _ _ => by kernel_rfl⟩
theorem lawk : LawK (kK w.params) 916 890 897 904 911 := ⟨def_law w, def_figs w, def_names w, def_mode w, def_sound w⟩
theorem fnk_m_deser : FnK (kK w.params) 593 (fnAt (clsAt pb 47) 12).1 (fnAt (clsAt pb 47) 12).2 := ⟨by kernel_rfl, by kernel_rfl, by kernel_rfl, by kernel_rfl, by kernel_rfl, by kernel_rfl, by kernel_rfl⟩
theorem met_deser : Met2 (kK w.params) 610 47 12 "_deserialize" "self" "chunks" 593 := ⟨fnk_m_deser w, by kernel_rfl, by kernel_rfl, by kernel_rfl, by kernel_rfl, by kernel_rfl, fun _ _ _ => by kernel_rfl⟩
theorem fnk_m_chunks : FnK (kK w.params) 270 (fnAt (clsAt pb 37) 5).1 (fnAt (clsAt pb 37) 5).2 := ⟨by kernel_rfl, by kernel_rfl, by kernel_rfl, by kernel_rfl, by kernel_rfl, by kernel_rfl, by kernel_rfl⟩
theorem met_chunks : Met2 (kK w.params) 610 37 5 "set_raw_chunks" "self" "chunks" 270 := ⟨fnk_m_chunks w, by kernel_rfl, by kernel_rfl, by kernel_rfl, by kernel_rfl, by kernel_rfl, fun _ _ _ => by kernel_rfl⟩
theorem fnk_m_rawstr : FnK (kK w.params) 263 (fnAt (clsAt pb 37) 4).1 (fnAt (clsAt pb 37) 4).2 := ⟨by kernel_rfl, by kernel_rfl, by kernel_rfl, by kernel_rfl, by kernel_rfl, by kernel_rfl, by kernel_rfl⟩
theorem met_rawstr : Met2 (kK w.params) 610 37 4 "set_raw_string" "self" "text" 263 := ⟨fnk_m_rawstr w, by kernel_rfl, by kernel_rfl, by kernel_rfl, by kernel_rfl, by kernel_rfl, fun _ _ _ => by kernel_rfl⟩
theorem fnk_m_aschunks : FnK (kK w.params) 249 (fnAt (clsAt pb 37) 2).1 (fnAt (clsAt pb 37) 2).2 := ⟨by kernel_rfl, by kernel_rfl, by kernel_rfl, by kernel_rfl, by kernel_rfl, by kernel_rfl, by kernel_rfl⟩
theorem met_aschunks : Met1 (kK w.params) 610 37 2 "as_raw_chunks" "self" 249 := ⟨fnk_m_aschunks w, by kernel_rfl, by kernel_rfl, by kernel_rfl, by kernel_rfl, by kernel_rfl, fun _ _ => by kernel_rfl⟩
theorem fnk_m_asstring : FnK (kK w.params) 256 (fnAt (clsAt pb 37) 3).1 (fnAt (clsAt pb 37) 3).2 := ⟨by kernel_rfl, by kernel_rfl, by kernel_rfl, by kernel_rfl, by kernel_rfl, by kernel_rfl, by kernel_rfl⟩
theorem met_asstring : Met1 (kK w.params) 610 37 3 "as_raw_string" "self" 256 := ⟨fnk_m_asstring w, by kernel_rfl, by kernel_rfl, by kernel_rfl, by kernel_rfl, by kernel_rfl, fun _ _ => by kernel_rfl⟩
theorem fnk_m_len : FnK (kK w.params) 566 (fnAt (clsAt pb 47) 8).1 (fnAt (clsAt pb 47) 8).2 := ⟨by kernel_rfl, by kernel_rfl, by kernel_rfl, by kernel_rfl, by kernel_rfl, by kernel_rfl, by kernel_rfl⟩
theorem met_len : Met1 (kK w.params) 610 47 8 "__len__" "self" 566 := ⟨fnk_m_len w, by kernel_rfl, by kernel_rfl, by kernel_rfl, by kernel_rfl, by kernel_rfl, fun _ _ => by kernel_rfl⟩
theorem fnk_m_in : FnK (kK w.params) 538 (fnAt (clsAt pb 47) 4).1 (fnAt (clsAt pb 47) 4).2 := ⟨by kernel_rfl, by kernel_rfl, by kernel_rfl, by kernel_rfl, by kernel_rfl, by kernel_rfl, by kernel_rfl⟩
theorem met_in : Met2 (kK w.params) 610 47 4 "__contains__" "self" "name" 538 := ⟨fnk_m_in w, by kernel_rfl, by kernel_rfl, by kernel_rfl, by kernel_rfl, by kernel_rfl, fun _ _ _ => by kernel_rfl⟩
theorem fnk_m_get : FnK (kK w.params) 545 (fnAt (clsAt pb 47) 5).1 (fnAt (clsAt pb 47) 5).2 := ⟨by kernel_rfl, by kernel_rfl, by kernel_rfl, by kernel_rfl, by kernel_rfl, by kernel_rfl, by kernel_rfl⟩
theorem met_get : Met2 (kK w.params) 610 47 5 "__getitem__" "self" "name" 545 := ⟨fnk_m_get w, by kernel_rfl, by kernel_rfl, by kernel_rfl, by kernel_rfl, by kernel_rfl, fun _ _ _ => by kernel_rfl⟩
theorem fnk_m_check : FnK (kK w.params) 600 (fnAt (clsAt pb 47) 13).1 (fnAt (clsAt pb 47) 13).2 := ⟨by kernel_rfl, by kernel_rfl, by kernel_rfl, by kernel_rfl, by kernel_rfl, by kernel_rfl, by kernel_rfl⟩
theorem met_check : Met1 (kK w.params) 610 47 13 "check" "self" 600 := ⟨fnk_m_check w, by kernel_rfl, by kernel_rfl, by kernel_rfl, by kernel_rfl, by kernel_rfl, fun _ _ => by kernel_rfl⟩
theorem usek : UseK (kK w.params) 610 249 256 566 538 545 := ⟨met_aschunks w, met_asstring w, met_len w, met_in w, met_get w⟩
theorem fnk_key_entry : FnK (kK w.params) 508 (fnAt pb 45).1 (fnAt pb 45).2 := ⟨by kernel_rfl, by kernel_rfl, by kernel_rfl, by kernel_rfl, by kernel_rfl, by kernel_rfl, by kernel_rfl⟩
theorem glb_key_entry : Glb (kK w.params) "key_entry" (.ref 508) := ⟨by kernel_rfl, by kernel_rfl⟩
theorem def_key_entry : Def1 (kK w.params) 45 "key_entry" "entry" 508 := ⟨fnk_key_entry w, glb_key_entry w, fun _ _ => by kernel_rfl⟩
theorem fnk_isdir : FnK (kK w.params) 134 (fnAt pb 14).1 (fnAt pb 14).2 := ⟨by kernel_rfl, by kernel_rfl, by kernel_rfl, by kernel_rfl, by kernel_rfl, by kernel_rfl, by kernel_rfl⟩
theorem glb_isdir : Glb (kK w.params) "S_ISDIR" (.ref 134) := ⟨by kernel_rfl, by kernel_rfl⟩
theorem def_isdir : Def1 (kK w.params) 14 "S_ISDIR" "mode" 134 := ⟨fnk_isdir w, glb_isdir w, fun _ _ => by kernel_rfl⟩
theorem fnk_ifmt : FnK (kK w.params) 127 (fnAt pb 13).1 (fnAt pb 13).2 := ⟨by kernel_rfl, by kernel_rfl, by kernel_rfl, by kernel_rfl, by kernel_rfl, by kernel_rfl, by kernel_rfl⟩
theorem glb_ifmt : Glb (kK w.params) "S_IFMT" (.ref 127) := ⟨by kernel_rfl, by kernel_rfl⟩
theorem def_ifmt : Def1 (kK w.params) 13 "S_IFMT" "mode" 127 := ⟨fnk_ifmt w, glb_ifmt w, fun _ _ => by kernel_rfl⟩
theorem chkk : ChkK (kK w.params) 610 600 508 134 127 := ⟨met_check w, def_key_entry w, def_isdir w, def_ifmt w, ⟨368, by kernel_rfl⟩, ⟨370, by kernel_rfl⟩, ⟨372, by kernel_rfl⟩, ⟨433, by kernel_rfl⟩⟩
theorem fnk_parse : FnK (kK w.params) 487 (fnAt pb 42).1 (fnAt pb 42).2 := ⟨by kernel_rfl, by kernel_rfl, by kernel_rfl, by kernel_rfl, by kernel_rfl, by kernel_rfl, by kernel_rfl⟩
theorem glb_parse : Glb (kK w.params) "parse_tree" (.ref 487) := ⟨by kernel_rfl, by kernel_rfl⟩
theorem parsek : ParseK (kK w.params) 487 := ⟨fnk_parse w, glb_parse w, fun _ _ _ => by kernel_rfl, fun _ _ _ _ => by kernel_rfl⟩
end
section
open MineH
variable (w : World)
theorem at_sha : AttrK (kK w.params) 610 "_sha" := ⟨by kernel_rfl, by kernel_rfl⟩
theorem at_chunked : AttrK (kK w.params) 610 "_chunked_text" := ⟨by kernel_rfl, by kernel_rfl⟩
theorem at_needs : AttrK (kK w.params) 610 "_needs_serialization" := ⟨by kernel_rfl, by kernel_rfl⟩
theorem at_fmt : AttrK (kK w.params) 610 "object_format" := ⟨by kernel_rfl, by kernel_rfl⟩
theorem at_entries : AttrK (kK w.params) 610 "_entries" := ⟨by kernel_rfl, by kernel_rfl⟩
theorem from_ns : nsIn (kK w.params) mainGlobals "Tree" = some (some (.ref 610)) := by kernel_rfl
theorem from_get : specialIn (kK w.params) (.ref 610) "__getattribute__" = some (some (.builtin "type.__getattribute__")) := by kernel_rfl
theorem from_keep : keepIn (kK w.params) (.ref 610) = true := by kernel_rfl
theorem ofe_ns : nsIn (kK w.params) mainGlobals "ObjectFormatException" = some (some (.ref 44)) := by kernel_rfl
theorem mk_mro : mroIn (kK w.params) 610 (.ref 610) = some true := by kernel_rfl
theorem mk_nxt : ks_superIn (kK w.params) 610 610 "__init__" = some (some (.ref 242)) := by kernel_rfl
theorem mk_bind (S : Setting) (v : Value) : peek (kK w.params) S (bindArgs (fdOf (kK w.params) 531) ⟨[v], []⟩) = some [(("self" : Str), v)] := by kernel_rfl
theorem mk_sha : FnK (kK w.params) 242 (fnAt (clsAt pb 37) 1).1 (fnAt (clsAt pb 37) 1).2 := ⟨by kernel_rfl, by kernel_rfl, by kernel_rfl, by kernel_rfl, by kernel_rfl, by kernel_rfl, by kernel_rfl⟩
theorem mk_shaBind (S : Setting) (v : Value) : peek (kK w.params) S (bindArgs (fdOf (kK w.params) 242) ⟨[v], []⟩) = some [(("self" : Str), v)] := by kernel_rfl
theorem mk_fmt : nsIn (kK w.params) mainGlobals "DEFAULT_OBJECT_FORMAT" = some (some (.ref 76)) := by kernel_rfl
theorem mk_makes : makesIn (kK w.params) 610 = true := by kernel_rfl
theorem mk_find : findIn (kK w.params) (.ref 610) "__init__" = some (some (.ref 531)) := by kernel_rfl
theorem mk_typ : typeIn (kK w.params) (.ref 531) = some (.type "function") := by kernel_rfl
theorem clsk : ClsK (kK w.params) 610 := ⟨by kernel_rfl, by kernel_rfl, by kernel_rfl, by kernel_rfl, by kernel_rfl⟩
theorem attrsk : AttrsK (kK w.params) 610 := ⟨clsk w, at_sha w, at_chunked w, at_needs w, at_fmt w, at_entries w⟩
theorem fnk_from : FnK (kK w.params) 277 (fnAt (clsAt pb 37) 6).1 (fnAt (clsAt pb 37) 6).2 := ⟨by kernel_rfl, by kernel_rfl, by kernel_rfl, by kernel_rfl, by kernel_rfl, by kernel_rfl, by kernel_rfl⟩
theorem fromk : FromK (kK w.params) 610 277 := ⟨fnk_from w, fun _ _ _ => by kernel_rfl, from_keep w, by kernel_rfl, from_get w, ⟨.type "type", 279, .none, [.bool false], by kernel_rfl, by kernel_rfl, by kernel_rfl⟩, from_ns w⟩
theorem fcls : ClsK (kK w.params) 70 := ⟨by kernel_rfl, by kernel_rfl, by kernel_rfl, by kernel_rfl, by kernel_rfl⟩
theorem fmtk : FmtK (kK w.params) 76 := ⟨70, 75, o75 w.params, 288, fcls w, by kernel_rfl, by kernel_rfl, by kernel_rfl, by kernel_rfl⟩
end
section
open MineH
variable (w : World)
noncomputable def cdT : ClassData := match (kK w.params).lookup 610 with
  | some ⟨_, _, .cls d, _⟩ => d
  | _ => default
theorem mk_cls : clsIn (kK w.params) 610 = some (cdT w) := by kernel_rfl
theorem mk_cell : (kK w.params).lookup 519 = some ⟨.type "cell", .none, .cell (some (.ref 610)), #[]⟩ := by kernel_rfl
theorem mk_sup : nsIn (kK w.params) mainGlobals "super" = some none := by kernel_rfl
theorem mk_opq : nsIn (kK w.params) cStatics "thirdparty.any" = some none := by kernel_rfl
theorem mk_init : typeIn (kK w.params) (.ref 242) = some (.type "function") := by kernel_rfl
theorem mk_code : (kK w.params).lookup 530 = some (o530 w.params) := by kernel_rfl
theorem mk_sc : (fdOf (kK w.params) 531).scope = (fnAt (clsAt pb 47) 3).2 := by kernel_rfl
theorem fns : FnS (kK w.params) 531 519 530 610 242 "self" (fnAt (clsAt pb 47) 3).1 (fnAt (clsAt pb 47) 3).2 "/claim/cut.py" where
  isf := by kernel_rfl
  body := by kernel_rfl
  scope := mk_sc w
  glob := by kernel_rfl
  bi := by kernel_rfl
  clo := by kernel_rfl
  code := by kernel_rfl
  cod := by kernel_rfl
  par := ⟨((fdOf (kK w.params) 531).params.posonlyargs ++ (fdOf (kK w.params) 531).params.args).headD default, by kernel_rfl, by kernel_rfl⟩
  file := ⟨_, _, _, _, 972, mk_code w, by kernel_rfl⟩
  cell := ⟨_, _, _, mk_cell w⟩
  sup := mk_sup w
  opq := mk_opq w
  init := mk_init w
  fn2 := by kernel_rfl
end
section
open MineH
variable {W : Wd} (w : World)
theorem makek (h1 : W.prog.main = PySem.Challenge.pw_ji0038_05.main) : MakeK W (kK w.params) 610 311 531 242 519 530 76 "/claim/cut.py" (cdT w) (cdT w) where
  sup := fns w
  cls := mk_cls w
  mro := mk_mro w
  nxt := mk_nxt w
  file := by rw [h1]; kernel_rfl
  top := by rw [h1]; kernel_rfl
  bind := mk_bind w
  sha := mk_sha w
  shaBind := mk_shaBind w
  fmt := mk_fmt w
  makes := mk_makes w
  find := mk_find w
  typ := mk_typ w
end
section
open MineH
variable {W : Wd} (w : World)
theorem excM44 (h44 : W.h1.get? 44 = some (o44 w.params)) : ExcM W (.ref 44) (.con (.ref 44)) true := fun A C B ρ σ s e oe v Q E R he hc hd hq => by
  cases hd
  exact wpAny_excMatches_sub_self (R.top 44 _ h44) he hc (by decide +kernel) hq
theorem ofe_stop (hp : W.prog = PySem.Challenge.pw_ji0038_05) (hw : W.w = w) (X : (kK w.params).In W.h1) (h : Heap) (k : ∀ b o, W.h1.get? b = some o → h.get? b = some o) : Looks (model W.prog W.w) h (isSubtype (.ref 44) (.type "StopIteration")) false :=
  Looks.of_peek (X.keeps k) (by rw [hw]; exact (by kernel_rfl : peek (kK w.params) ⟨W.prog, w.params⟩ (isSubtype (.ref 44) (.type "StopIteration")) = some false))
theorem ofe_base (hw : W.w = w) (X : (kK w.params).In W.h1) : Looks (model W.prog W.w) W.h1 (isSubtype (.ref 44) (.type "BaseException")) true :=
  Looks.of_peek X (by rw [hw]; exact (by kernel_rfl : peek (kK w.params) ⟨W.prog, w.params⟩ (isSubtype (.ref 44) (.type "BaseException")) = some true))
theorem ofe_meta (hw : W.w = w) (X : (kK w.params).In W.h1) : Looks (model W.prog W.w) W.h1 (typeOf (.ref 44)) (.type "type") :=
  Looks.of_peek X (by rw [hw]; exact (by kernel_rfl : peek (kK w.params) ⟨W.prog, w.params⟩ (typeOf (.ref 44)) = some (.type "type")))
theorem ofe_keep (X : (kK w.params).In W.h1) : Keeper1 W (.ref 44) := keeper_K X (by kernel_rfl)
end
section
open MineH
set_option maxHeartbeats 4000000
variable {W : Wd} (w : World)
noncomputable def strKeys (es : Array DictEntry) : Bool := es.toList.all fun e => match e.key with | .str .. => true | _ => false
theorem strKeys_of {es : Array DictEntry} (h : strKeys es = true) : StrKeys es := fun e he => by
  have := List.all_eq_true.mp h e (by simpa using he)
  split at this
  · exact ⟨_, _, by assumption⟩
  · cases this
noncomputable def strDict : Option Obj → Bool
  | some ⟨_, _, .dict es _, _⟩ => strKeys es
  | _ => false
theorem ns_of {K : Frag} {h : Heap} {a : Addr} (X : K.In h) (e : strDict (K.lookup a) = true) : ∃ m, h.Ns a m ∧ ∀ x : Str, nsIn K a x = some none → m x = none := by
  cases q : K.lookup a with
  | none => rw [q] at e; cases e
  | some o =>
    rw [q] at e
    obtain ⟨c, d, dt, sl⟩ := o
    cases dt with
    | dict es ep =>
      refine ⟨nsFind es, ⟨_, es, ep, X _ _ q, rfl, strKeys_of e, fun _ => rfl⟩, fun x hx => ?_⟩
      unfold nsIn at hx
      rw [q] at hx
      cases hf : es.toList.find? (·.key.isStr x) with
      | some e => simp only [hf] at hx; cases hx
      | none => unfold nsFind findBy; rw [← Array.find?_toList, hf]; rfl
    | _ => cases e
theorem ofe_make (X : (kK w.params).In W.h1) (A : Around) (s : Shared) (vs : List Value) (Q : Value → Shared → Prop) (E : Value → Shared → Prop) (k : ∀ b o, W.h1.get? b = some o → s.heap.get? b = some o) (hl : vs.length ≤ 100)
    (h : ∀ h' e, Heap.MadeExcOf s.heap h' e (.ref 44) vs → Q (.ref e) { s with heap := h' }) : wpAny (model W.prog W.w) A (call (.ref 44) vs []) Q E s := by
  obtain ⟨hp, g, d, t, os⟩ := s
  have X' : (kK w.params).In hp := X.keeps k
  obtain ⟨mN, hN, hNn⟩ := ns_of (a := 43) X' (by kernel_rfl)
  obtain ⟨mM, hM, hMn⟩ := ns_of (a := 30) X' (by kernel_rfl)
  have h44 : hp.get? 44 = some (o44 w.params) := X' 44 _ (by kernel_rfl)
  have h31 : hp.get? 31 = some (o31 w.params) := X' 31 _ (by kernel_rfl)
  exact wpAny_call_exc_subT (nm := "ObjectFormatException") (bm := [.ref 31, .type "Exception", .type "BaseException", .type "object"]) PySem.F.excBase_Exception (.own h31 hM (hMn _ (by kernel_rfl)) .base) h44 hN (hNn _ (by kernel_rfl)) h (Nat.le_trans hl (by rw [sizeLine_eq]; omega))
theorem ofe_exc (hp : W.prog = PySem.Challenge.pw_ji0038_05) (hw : W.w = w) (X : (kK w.params).In W.h1) : IsExc W (.ref 44) :=
  ⟨ofe_make w X, ofe_base w hw X, ofe_meta w hw X, ofe_keep w X⟩
theorem ofe (hp : W.prog = PySem.Challenge.pw_ji0038_05) (hw : W.w = w) (X : (kK w.params).In W.h1) : OFE W (kK w.params) 44 :=
  ⟨ofe_exc w hp hw X, ofe_ns w, ofe_stop w hp hw X⟩
end
section
open MineH PySem.W.X
set_option maxHeartbeats 4000000
section
variable {W : Wd} (w : World)
theorem readk (hp : W.prog = PySem.Challenge.pw_ji0038_05) (hw : W.w = w) (T : Tops W (kK w.params)) : ReadK W (kK w.params) 610 76 487 44 139 146 151 158 165 172 186 193 593 270 263 :=
  ⟨T, attrsk w, fmtk w, parsek w, hexs w, buis w, ofe w hp hw T.X, met_deser w, met_chunks w, met_rawstr w⟩
theorem law_top {C : Ctx} {B : Base} {s : Shared} {ns : List Int} {vs : List Value} (hp : W.prog = PySem.Challenge.pw_ji0038_05) (hw : W.w = w) (T : Tops W (kK w.params)) (R : Rep W C B [] ⟨[], []⟩ s) (eA : C.A = callerA) (ec : C.hclean = true)
    (hs : W.h1.IsList scr vs.toArray) (hi : IntsAre vs ns) (hz : ns.length ≤ 16777216) : wpAny (model W.prog W.w) callerA (call (.ref 916) [.ref scr] []) (fun v s' => PostT W true s (.ok (.ret v)) s') (fun _ _ => False) s := by
  refine call_top (n := 8) T (lawk w).law.fn (by decide +kernel) R (by rw [eA]; exact .refl _) rfl ⟨by decide +kernel, by decide +kernel⟩ (BindJ.p1 (lawk w).law.bind) rfl (by decide +kernel) (by decide +kernel) (.cons (.con _) .nil) fun C' L eh ec1 ec2 elow => ?_
  have h44 : W.h1.get? 44 = some (o44 w.params) := T.X 44 _ (by kernel_rfl)
  exact law_body (n := 1) (readk w hp hw T) (makek w (by rw [hp])) (fromk w) (usek w) (chkk w) (lawk w) (excM44 w h44) hs hi hz L (by rw [eh, eA]; rfl) (ec2.trans ec) elow (fun _ h => nomatch h)
end
end
section
open MineH PySem.W.X
set_option maxHeartbeats 4000000
theorem kK_318 (P : Params) : (kK P).lookup 318 = none := by kernel_rfl
theorem kK_in {P : Params} {h : Heap} (X : (keptK P).In h) : (kK P).In (hideAll h [318]) := fun a o e => by
  by_cases ha : a = 318
  · subst ha; rw [kK_318] at e; cases e
  · exact hideAll_get _ (X a o (by unfold keptK; rw [List.lookup_append, show (kK0 P).lookup a = some o from e]; rfl)) (by simpa using ha)
theorem hide_ns {h : Heap} {a : Addr} {m : Str → Option Value} (ha : a ≠ 318) (n : h.Ns a m) : (hideAll h [318]).Ns a m :=
  let ⟨o, es, ep, e, r⟩ := n
  ⟨o, es, ep, hideAll_get _ e (by simpa using ha), r⟩
noncomputable def ctxT : Ctx := ⟨callerA, callEnvC default 318 916, 0, .none, true⟩
theorem repT {w : World} {s : Shared} {p : Program} (hn : ∃ m, s.heap.Ns 318 m) (hb : AllBare s.gens) : Rep ⟨p, w, hideAll s.heap [318], s.os⟩ ctxT ⟨⟨#[], {}⟩, fun _ => none⟩ [] ⟨[], []⟩ s where
  top b o e := of_hideAll _ e
  keep b o e := by cases e
  nodup := List.pairwise_singleton _ _
  fresh a ha := by
    cases ha with
    | head => exact ⟨rfl, hideAll_none _ (.head _)⟩
    | tail _ q => cases q
  frame := let ⟨m, q⟩ := hn; ⟨m, q, fun i x kd _ sl e => by cases e⟩
  live a ha := by
    cases ha with
    | head => exact let ⟨m, o, _, _, q, _⟩ := hn; ⟨o, q⟩
    | tail _ q => cases q
  len := rfl
  objs k own o e := by cases e
  gkeep i x e := by cases e
  gnew o ho := by cases ho
  gnod i j o₁ o₂ g e := by cases e
  frs b f := by
    obtain ⟨l, env, h1, h2, _⟩ := f
    cases h1; cases h2
  hand v e := by cases e
  bare := hb
  os := rfl
theorem fin : PySem.Challenge.rw_ji0038_05.Holds := by
  refine hz_law ?_
  intro w s₀ s₁ mg mb G y fa o pm cd doc dV kV ho hd hcd hD hmg hg args vals as L hpre hlay hrd hwl hlo
  obtain ⟨ZA, ZI, ZN, ZT⟩ := z_facts (K := keptK) (fun P => by rfl) y
  have KX : (keptK w.params).In s₁.heap := InK.keeps w s₀.heap s₁.heap ZI L.keeps
  refine Ground.open G ?_
  intro T B D TE TW
  wrow_args hpre hlay hrd hwl hlo
  obtain ⟨hat, hsz⟩ := script_at L
  rw [ZN] at hat hsz
  subst hat
  rename_i ns _ _ _ _ _ _ _ vs _ hR hI _ hc _ hL _ _
  have eg : mg lawRec.name = some (.ref 916) := mg_of KX T.g (by kernel_rfl)
  rw [eg] at hmg
  cases hmg
  have hb : AllBare s₁.gens := AllBare.of_eq hg
  obtain ⟨m318, n318, _⟩ := ns_of (a := 318) KX (by kernel_rfl)
  have TT : Tops ⟨PySem.Challenge.pw_ji0038_05, w, hideAll s₁.heap [318], s₁.os⟩ (kK w.params) :=
    ⟨kK_in KX, ⟨mg, hide_ns (by decide) T.g⟩, ⟨mb, hide_ns (by decide) T.b, T.builtins⟩, let ⟨mc, q, e⟩ := T.nolimit; ⟨mc, hide_ns (by decide) q, e⟩⟩
  have hL' : (hideAll s₁.heap [318]).IsList 917 vs.toArray := let ⟨o, e, r⟩ := hL; ⟨o, hideAll_get _ e (by decide), r⟩
  refine wpAny_mono (law_top (W := ⟨PySem.Challenge.pw_ji0038_05, w, hideAll s₁.heap [318], s₁.os⟩) w rfl rfl TT (repT ⟨m318, n318⟩ hb) rfl rfl hL' hI (by omega)) (fun v s' h => ?_) fun _ _ x => x.elim
  obtain ⟨e, hk, hos, hb'⟩ := h
  cases e
  exact ⟨.inl ⟨_, .bool true, [], rfl, raisesW_false (fun _ h => nomatch h), .bool true, by kernel_rfl, unshared_nil⟩, .of_keep hk, hos, hb'⟩
end
end Mine
theorem PySem.Challenge.cw_ji0038_05_holds : PySem.Challenge.rw_ji0038_05.Holds :=
  Mine.fin
