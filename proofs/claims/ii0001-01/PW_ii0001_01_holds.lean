import PyProof.Rows.All
import Wide.All
import OpenK.AllK
import Wide.FinOn
import PyProof.SetScanFacts
import PySem.Challenge.RW_ii0001_01
set_option Elab.async false
set_option maxRecDepth 100000
set_option linter.all false
section
open PySem PySem.W PyProof.Rows
namespace Mine
noncomputable section
noncomputable abbrev pw : Program := PySem.Challenge.pw_ii0001_01
noncomputable def nthS : List Stmt → Nat → Stmt
  | [], _ => .Pass default
  | s :: _, 0 => s
  | _ :: r, n + 1 => nthS r n
noncomputable def clsBody : Stmt → List Stmt
  | .ClassDef _ _ _ b .. => b
  | _ => []
noncomputable def clsScope : Stmt → Scope
  | .ClassDef _ _ _ _ _ _ s .. => s
  | _ => default
noncomputable def fnAt (i j : Nat) : Stmt := match nthS pw.main.body i with
  | .ClassDef _ _ _ b .. => nthS b j
  | s => s
noncomputable def fParams : Stmt → Arguments
  | .FunctionDef _ a .. => a
  | _ => { posonlyargs := [], args := [], vararg := none, kwonlyargs := [], kw_defaults := [], kwarg := none, defaults := [] }
noncomputable def fBody : Stmt → List Stmt
  | .FunctionDef _ _ b .. => b
  | _ => []
noncomputable def fScope : Stmt → Scope
  | .FunctionDef _ _ _ _ _ _ s .. => s
  | _ => default
variable (P : Params)
noncomputable abbrev kD (P : Params) (s : Str) (t : Tok) (v : Value) : DictEntry := ⟨PyData.keyHash P s, .str s t, v⟩
noncomputable abbrev qD (l : List DictEntry) (n : Nat) : Obj := ⟨.type "dict", none, .dict l.toArray n, [].toArray⟩
noncomputable abbrev qR (l : List DictEntry) (n : Nat) : Obj := ⟨.type "frame", none, .dict l.toArray n, [].toArray⟩
noncomputable abbrev qT (l : List Value) : Obj := ⟨.type "tuple", none, .seq l.toArray 0, [].toArray⟩
noncomputable abbrev qC (l : List Value) : Obj := ⟨.type "code", none, .fields l.toArray, [].toArray⟩
noncomputable abbrev qN (l : List Value) : Obj := ⟨.none, none, .fields l.toArray, [].toArray⟩
noncomputable abbrev qB (l : List Value) : Obj := ⟨.type "builtin_function_or_method", none, .fields l.toArray, [].toArray⟩
noncomputable abbrev qG (n q : Str) (s : Stmt) : Obj := ⟨.none, none, .func { name := n, qualname := q, params := fParams s, body := .stmts (fBody s), scope := fScope s, globals := 0, closure := [], defaults := .none, kwdefaults := .none, doc := .none, pyModule := .none, annotations := none, code := .none, closureTuple := .none, builtins := 0 }, [].toArray⟩
noncomputable abbrev qF (n q : Str) (s : Stmt) (m c : Value) : Obj := ⟨.type "function", none, .func { name := n, qualname := q, params := fParams s, body := .stmts (fBody s), scope := fScope s, globals := 3, closure := [], defaults := .none, kwdefaults := .none, doc := .none, pyModule := m, annotations := none, code := c, closureTuple := .none, builtins := 0 }, [].toArray⟩
noncomputable def o0 : Obj := boot_o_0 P
noncomputable def o1 : Obj := boot_o_1 P
noncomputable def o2 : Obj := ⟨.none, none, (.dict [kD P "type.__subclasses__.Exception.0" 1582 (.int 539 0), kD P "type.__subclasses__.Exception.n" 1583 (.int 3 0), kD P "type.__subclasses__.Exception.1" 1602 (.int 552 0), kD P "type.__subclasses__.Exception.2" 1622 (.int 565 0)].toArray 4), [].toArray⟩
noncomputable def o3 : Obj := qD [kD P "__name__" 165 (.str "law_ii0001_01" 1626), kD P "__doc__" 166 .none, kD P "__package__" 167 .none, kD P "__loader__" 168 (.builtin "__main__.__loader__#opaque"), kD P "__spec__" 169 .none, kD P "__annotations__" 170 (.ref 6), kD P "__builtins__" 171 (.ref 4), kD P "__file__" 173 (.str "/claim/cut.py" 172), kD P "__cached__" 174 .none, kD P "_wall" 193 (.ref 21), kD P "BaseStemmer" 426 (.ref 199), kD P "Among" 461 (.ref 220), kD P "PorterStemmer" 1565 (.ref 527), kD P "lab0" 1585 (.ref 539), kD P "lab1" 1605 (.ref 552), kD P "lab2" 1625 (.ref 565), kD P "_law_letters" 1629 (.str "abcdefghijklmnopqrstuvwxyz" 1628), kD P "_law_ends" 1635 (.ref 575), kD P "_law_second" 1676 (.ref 596), kD P "_law_third" 1691 (.ref 604), kD P "_law_fourth" 1711 (.ref 605), kD P "_law_vowel" 1718 (.ref 612), kD P "_law_past" 1727 (.ref 619), kD P "_law_region" 1736 (.ref 626), kD P "_law_end" 1746 (.ref 633), kD P "_law_short" 1756 (.ref 640), kD P "_law_rows" 1762 (.ref 645), kD P "_law_stem" 1768 (.ref 650), kD P "law" 1778 (.ref 657)] 29
noncomputable def o4 : Obj := boot_o_4 P
noncomputable def o5 : Obj := boot_o_5 P
noncomputable def o6 : Obj := boot_o_6 P
noncomputable def o7 : Obj := boot_o_7 P
noncomputable def o8 : Obj := boot_o_8 P
noncomputable def o9 : Obj := boot_o_9 P
noncomputable def o10 : Obj := boot_o_10 P
noncomputable def o11 (P : Params) : Obj := qT []
noncomputable def o12 (P : Params) : Obj := qN [.int 1 0, .int 0 0, .ref 20, .int 5 0, .int 0 0, .ref 27, .int 171 0, .int 0 0, .ref 209, .int 178 0, .int 0 0, .ref 230, .int 497 0, .int 0 0, .ref 535, .int 499 0, .int 0 0, .ref 548, .int 501 0, .int 0 0, .ref 561, .int 505 0, .int 0 0, .ref 574, .int 510 0, .int 0 0, .ref 611, .int 512 0, .int 0 0, .ref 618, .int 516 0, .int 0 0, .ref 625, .int 519 0, .int 0 0, .ref 632, .int 525 0, .int 0 0, .ref 639, .int 530 0, .int 0 0, .ref 644, .int 535 0, .int 0 0, .ref 649, .int 581 0, .int 0 0, .ref 656]
noncomputable def o13 (P : Params) : Obj := qC [.str "<module>" 182, .str "<module>" 183, .str "/claim/cut.py" 184, .int 1 0, .int 0 0, .int 0 0, .int 0 0, .int 0 0, .ref 11, .bool false, .int 181 0, .ref 12, .none, .none, .none, .none, .int 185 0, .int 1 0, .str "/claim/cut.py" 186]
noncomputable def o14 (P : Params) : Obj := ⟨(.type "frame"), none, .plain, [(some (.ref 13)), (some (.ref 3)), (some (.ref 3)), none, (some (.str "__main__" 164)), none, (some (.ref 0))].toArray⟩
noncomputable def o15 : Obj := o11 P
noncomputable def o16 (P : Params) : Obj := qN []
noncomputable def o17 (P : Params) : Obj := qT [.str "k" 190]
noncomputable def o18 : Obj := o11 P
noncomputable def o19 (P : Params) : Obj := qG "_wall" "_wall" (fnAt 0 0)
noncomputable def o20 (P : Params) : Obj := qC [.str "_wall" 187, .str "_wall" 188, .str "/claim/cut.py" 189, .int 1 0, .int 1 0, .int 0 0, .int 0 0, .int 3 0, .ref 15, .bool true, .int 181 0, .ref 16, .none, .ref 17, .ref 18, .ref 19, .int 191 0, .int 1 0, .str "/claim/cut.py" 192]
noncomputable def o21 (P : Params) : Obj := qF "_wall" "_wall" (fnAt 0 0) (.str "__main__" 164) (.ref 20)
noncomputable def o22 : Obj := o11 P
noncomputable def o23 (P : Params) : Obj := qB [.builtin "type.__prepare__", .type "type"]
noncomputable def o24 : Obj := qD [kD P "__module__" 203 (.str "snowballstemmer.basestemmer" 194), kD P "__qualname__" 205 (.str "BaseStemmer" 204), kD P "__firstlineno__" 207 (.int 5 206), kD P "__init__" 214 (.ref 35), kD P "set_current" 222 (.ref 42), kD P "get_current" 229 (.ref 49), kD P "copy_from" 237 (.ref 56), kD P "in_grouping" 245 (.ref 63), kD P "go_in_grouping" 253 (.ref 70), kD P "in_grouping_b" 261 (.ref 77), kD P "go_in_grouping_b" 269 (.ref 84), kD P "out_grouping" 277 (.ref 91), kD P "go_out_grouping" 285 (.ref 98), kD P "out_grouping_b" 293 (.ref 105), kD P "go_out_grouping_b" 301 (.ref 112), kD P "eq_s" 309 (.ref 119), kD P "eq_s_b" 317 (.ref 126), kD P "find_among" 325 (.ref 133), kD P "find_among_b" 345 (.ref 140), kD P "replace_s" 356 (.ref 147), kD P "slice_from" 364 (.ref 154), kD P "slice_del" 371 (.ref 161), kD P "insert" 382 (.ref 168), kD P "slice_to" 389 (.ref 175), kD P "assign_to" 396 (.ref 182), kD P "stemWord" 404 (.ref 189), kD P "stemWords" 412 (.ref 196), kD P "__static_attributes__" 419 (.ref 197)] 28
noncomputable def o25 : Obj := o11 P
noncomputable def o26 (P : Params) : Obj := qN [.int 7 0, .int 4 0, .ref 34, .int 10 0, .int 4 0, .ref 41, .int 18 0, .int 4 0, .ref 48, .int 21 0, .int 4 0, .ref 55, .int 24 0, .int 4 0, .ref 62, .int 32 0, .int 4 0, .ref 69, .int 39 0, .int 4 0, .ref 76, .int 47 0, .int 4 0, .ref 83, .int 50 0, .int 4 0, .ref 90, .int 53 0, .int 4 0, .ref 97, .int 60 0, .int 4 0, .ref 104, .int 68 0, .int 4 0, .ref 111, .int 75 0, .int 4 0, .ref 118, .int 78 0, .int 4 0, .ref 125, .int 81 0, .int 4 0, .ref 132, .int 84 0, .int 4 0, .ref 139, .int 129 0, .int 4 0, .ref 146, .int 139 0, .int 4 0, .ref 153, .int 147 0, .int 4 0, .ref 160, .int 150 0, .int 4 0, .ref 167, .int 157 0, .int 4 0, .ref 174, .int 160 0, .int 4 0, .ref 181, .int 163 0, .int 4 0, .ref 188, .int 168 0, .int 4 0, .ref 195]
noncomputable def o27 (P : Params) : Obj := qC [.str "BaseStemmer" 198, .str "BaseStemmer" 199, .str "/claim/cut.py" 200, .int 5 0, .int 0 0, .int 0 0, .int 0 0, .int 0 0, .ref 25, .bool false, .int 181 0, .ref 26, .none, .none, .none, .none, .int 201 0, .int 5 0, .str "/claim/cut.py" 202]
noncomputable def o28 (P : Params) : Obj := ⟨(.type "frame"), none, .plain, [(some (.ref 27)), (some (.ref 3)), (some (.ref 24)), none, (some (.str "snowballstemmer.basestemmer" 194)), none, (some (.ref 0))].toArray⟩
noncomputable def o29 : Obj := o11 P
noncomputable def o30 : Obj := o16 P
noncomputable def o31 (P : Params) : Obj := qT [.str "self" 211]
noncomputable def o32 : Obj := o11 P
noncomputable def o33 (P : Params) : Obj := qG "__init__" "BaseStemmer.__init__" (fnAt 2 0)
noncomputable def o34 (P : Params) : Obj := qC [.str "__init__" 208, .str "BaseStemmer.__init__" 209, .str "/claim/cut.py" 210, .int 7 0, .int 1 0, .int 0 0, .int 0 0, .int 3 0, .ref 29, .bool true, .int 181 0, .ref 30, .none, .ref 31, .ref 32, .ref 33, .int 212 0, .int 7 0, .str "/claim/cut.py" 213]
noncomputable def o35 (P : Params) : Obj := qF "__init__" "BaseStemmer.__init__" (fnAt 2 0) (.str "snowballstemmer.basestemmer" 194) (.ref 34)
noncomputable def o36 : Obj := o11 P
noncomputable def o37 : Obj := o16 P
noncomputable def o38 (P : Params) : Obj := qT [.str "self" 218, .str "value" 219]
noncomputable def o39 : Obj := o11 P
noncomputable def o40 (P : Params) : Obj := qG "set_current" "BaseStemmer.set_current" (fnAt 2 1)
noncomputable def o41 (P : Params) : Obj := qC [.str "set_current" 215, .str "BaseStemmer.set_current" 216, .str "/claim/cut.py" 217, .int 10 0, .int 2 0, .int 0 0, .int 0 0, .int 3 0, .ref 36, .bool true, .int 181 0, .ref 37, .none, .ref 38, .ref 39, .ref 40, .int 220 0, .int 10 0, .str "/claim/cut.py" 221]
noncomputable def o42 (P : Params) : Obj := qF "set_current" "BaseStemmer.set_current" (fnAt 2 1) (.str "snowballstemmer.basestemmer" 194) (.ref 41)
noncomputable def o43 : Obj := o11 P
noncomputable def o44 : Obj := o16 P
noncomputable def o45 (P : Params) : Obj := qT [.str "self" 226]
noncomputable def o46 : Obj := o11 P
noncomputable def o47 (P : Params) : Obj := qG "get_current" "BaseStemmer.get_current" (fnAt 2 2)
noncomputable def o48 (P : Params) : Obj := qC [.str "get_current" 223, .str "BaseStemmer.get_current" 224, .str "/claim/cut.py" 225, .int 18 0, .int 1 0, .int 0 0, .int 0 0, .int 3 0, .ref 43, .bool true, .int 181 0, .ref 44, .none, .ref 45, .ref 46, .ref 47, .int 227 0, .int 18 0, .str "/claim/cut.py" 228]
noncomputable def o49 (P : Params) : Obj := qF "get_current" "BaseStemmer.get_current" (fnAt 2 2) (.str "snowballstemmer.basestemmer" 194) (.ref 48)
noncomputable def o50 : Obj := o11 P
noncomputable def o51 : Obj := o16 P
noncomputable def o52 (P : Params) : Obj := qT [.str "self" 233, .str "other" 234]
noncomputable def o53 : Obj := o11 P
noncomputable def o54 (P : Params) : Obj := qG "copy_from" "BaseStemmer.copy_from" (fnAt 2 3)
noncomputable def o55 (P : Params) : Obj := qC [.str "copy_from" 230, .str "BaseStemmer.copy_from" 231, .str "/claim/cut.py" 232, .int 21 0, .int 2 0, .int 0 0, .int 0 0, .int 3 0, .ref 50, .bool true, .int 181 0, .ref 51, .none, .ref 52, .ref 53, .ref 54, .int 235 0, .int 21 0, .str "/claim/cut.py" 236]
noncomputable def o56 (P : Params) : Obj := qF "copy_from" "BaseStemmer.copy_from" (fnAt 2 3) (.str "snowballstemmer.basestemmer" 194) (.ref 55)
noncomputable def o57 : Obj := o11 P
noncomputable def o58 : Obj := o16 P
noncomputable def o59 (P : Params) : Obj := qT [.str "self" 241, .str "s" 242]
noncomputable def o60 : Obj := o11 P
noncomputable def o61 (P : Params) : Obj := qG "in_grouping" "BaseStemmer.in_grouping" (fnAt 2 4)
noncomputable def o62 (P : Params) : Obj := qC [.str "in_grouping" 238, .str "BaseStemmer.in_grouping" 239, .str "/claim/cut.py" 240, .int 24 0, .int 2 0, .int 0 0, .int 0 0, .int 3 0, .ref 57, .bool true, .int 181 0, .ref 58, .none, .ref 59, .ref 60, .ref 61, .int 243 0, .int 24 0, .str "/claim/cut.py" 244]
noncomputable def o63 (P : Params) : Obj := qF "in_grouping" "BaseStemmer.in_grouping" (fnAt 2 4) (.str "snowballstemmer.basestemmer" 194) (.ref 62)
noncomputable def o64 : Obj := o11 P
noncomputable def o65 : Obj := o16 P
noncomputable def o66 (P : Params) : Obj := qT [.str "self" 249, .str "s" 250]
noncomputable def o67 : Obj := o11 P
noncomputable def o68 (P : Params) : Obj := qG "go_in_grouping" "BaseStemmer.go_in_grouping" (fnAt 2 5)
noncomputable def o69 (P : Params) : Obj := qC [.str "go_in_grouping" 246, .str "BaseStemmer.go_in_grouping" 247, .str "/claim/cut.py" 248, .int 32 0, .int 2 0, .int 0 0, .int 0 0, .int 3 0, .ref 64, .bool true, .int 181 0, .ref 65, .none, .ref 66, .ref 67, .ref 68, .int 251 0, .int 32 0, .str "/claim/cut.py" 252]
noncomputable def o70 (P : Params) : Obj := qF "go_in_grouping" "BaseStemmer.go_in_grouping" (fnAt 2 5) (.str "snowballstemmer.basestemmer" 194) (.ref 69)
noncomputable def o71 : Obj := o11 P
noncomputable def o72 : Obj := o16 P
noncomputable def o73 (P : Params) : Obj := qT [.str "self" 257, .str "s" 258]
noncomputable def o74 : Obj := o11 P
noncomputable def o75 (P : Params) : Obj := qG "in_grouping_b" "BaseStemmer.in_grouping_b" (fnAt 2 6)
noncomputable def o76 (P : Params) : Obj := qC [.str "in_grouping_b" 254, .str "BaseStemmer.in_grouping_b" 255, .str "/claim/cut.py" 256, .int 39 0, .int 2 0, .int 0 0, .int 0 0, .int 3 0, .ref 71, .bool true, .int 181 0, .ref 72, .none, .ref 73, .ref 74, .ref 75, .int 259 0, .int 39 0, .str "/claim/cut.py" 260]
noncomputable def o77 (P : Params) : Obj := qF "in_grouping_b" "BaseStemmer.in_grouping_b" (fnAt 2 6) (.str "snowballstemmer.basestemmer" 194) (.ref 76)
noncomputable def o78 : Obj := o11 P
noncomputable def o79 : Obj := o16 P
noncomputable def o80 (P : Params) : Obj := qT [.str "self" 265, .str "s" 266]
noncomputable def o81 : Obj := o11 P
noncomputable def o82 (P : Params) : Obj := qG "go_in_grouping_b" "BaseStemmer.go_in_grouping_b" (fnAt 2 7)
noncomputable def o83 (P : Params) : Obj := qC [.str "go_in_grouping_b" 262, .str "BaseStemmer.go_in_grouping_b" 263, .str "/claim/cut.py" 264, .int 47 0, .int 2 0, .int 0 0, .int 0 0, .int 3 0, .ref 78, .bool true, .int 181 0, .ref 79, .none, .ref 80, .ref 81, .ref 82, .int 267 0, .int 47 0, .str "/claim/cut.py" 268]
noncomputable def o84 (P : Params) : Obj := qF "go_in_grouping_b" "BaseStemmer.go_in_grouping_b" (fnAt 2 7) (.str "snowballstemmer.basestemmer" 194) (.ref 83)
noncomputable def o85 : Obj := o11 P
noncomputable def o86 : Obj := o16 P
noncomputable def o87 (P : Params) : Obj := qT [.str "self" 273, .str "s" 274]
noncomputable def o88 : Obj := o11 P
noncomputable def o89 (P : Params) : Obj := qG "out_grouping" "BaseStemmer.out_grouping" (fnAt 2 8)
noncomputable def o90 (P : Params) : Obj := qC [.str "out_grouping" 270, .str "BaseStemmer.out_grouping" 271, .str "/claim/cut.py" 272, .int 50 0, .int 2 0, .int 0 0, .int 0 0, .int 3 0, .ref 85, .bool true, .int 181 0, .ref 86, .none, .ref 87, .ref 88, .ref 89, .int 275 0, .int 50 0, .str "/claim/cut.py" 276]
noncomputable def o91 (P : Params) : Obj := qF "out_grouping" "BaseStemmer.out_grouping" (fnAt 2 8) (.str "snowballstemmer.basestemmer" 194) (.ref 90)
noncomputable def o92 : Obj := o11 P
noncomputable def o93 : Obj := o16 P
noncomputable def o94 (P : Params) : Obj := qT [.str "self" 281, .str "s" 282]
noncomputable def o95 : Obj := o11 P
noncomputable def o96 (P : Params) : Obj := qG "go_out_grouping" "BaseStemmer.go_out_grouping" (fnAt 2 9)
noncomputable def o97 (P : Params) : Obj := qC [.str "go_out_grouping" 278, .str "BaseStemmer.go_out_grouping" 279, .str "/claim/cut.py" 280, .int 53 0, .int 2 0, .int 0 0, .int 0 0, .int 3 0, .ref 92, .bool true, .int 181 0, .ref 93, .none, .ref 94, .ref 95, .ref 96, .int 283 0, .int 53 0, .str "/claim/cut.py" 284]
noncomputable def o98 (P : Params) : Obj := qF "go_out_grouping" "BaseStemmer.go_out_grouping" (fnAt 2 9) (.str "snowballstemmer.basestemmer" 194) (.ref 97)
noncomputable def o99 : Obj := o11 P
noncomputable def o100 : Obj := o16 P
noncomputable def o101 (P : Params) : Obj := qT [.str "self" 289, .str "s" 290]
noncomputable def o102 : Obj := o11 P
noncomputable def o103 (P : Params) : Obj := qG "out_grouping_b" "BaseStemmer.out_grouping_b" (fnAt 2 10)
noncomputable def o104 (P : Params) : Obj := qC [.str "out_grouping_b" 286, .str "BaseStemmer.out_grouping_b" 287, .str "/claim/cut.py" 288, .int 60 0, .int 2 0, .int 0 0, .int 0 0, .int 3 0, .ref 99, .bool true, .int 181 0, .ref 100, .none, .ref 101, .ref 102, .ref 103, .int 291 0, .int 60 0, .str "/claim/cut.py" 292]
noncomputable def o105 (P : Params) : Obj := qF "out_grouping_b" "BaseStemmer.out_grouping_b" (fnAt 2 10) (.str "snowballstemmer.basestemmer" 194) (.ref 104)
noncomputable def o106 : Obj := o11 P
noncomputable def o107 : Obj := o16 P
noncomputable def o108 (P : Params) : Obj := qT [.str "self" 297, .str "s" 298]
noncomputable def o109 : Obj := o11 P
noncomputable def o110 (P : Params) : Obj := qG "go_out_grouping_b" "BaseStemmer.go_out_grouping_b" (fnAt 2 11)
noncomputable def o111 (P : Params) : Obj := qC [.str "go_out_grouping_b" 294, .str "BaseStemmer.go_out_grouping_b" 295, .str "/claim/cut.py" 296, .int 68 0, .int 2 0, .int 0 0, .int 0 0, .int 3 0, .ref 106, .bool true, .int 181 0, .ref 107, .none, .ref 108, .ref 109, .ref 110, .int 299 0, .int 68 0, .str "/claim/cut.py" 300]
noncomputable def o112 (P : Params) : Obj := qF "go_out_grouping_b" "BaseStemmer.go_out_grouping_b" (fnAt 2 11) (.str "snowballstemmer.basestemmer" 194) (.ref 111)
noncomputable def o113 : Obj := o11 P
noncomputable def o114 : Obj := o16 P
noncomputable def o115 (P : Params) : Obj := qT [.str "self" 305, .str "s" 306]
noncomputable def o116 : Obj := o11 P
noncomputable def o117 (P : Params) : Obj := qG "eq_s" "BaseStemmer.eq_s" (fnAt 2 12)
noncomputable def o118 (P : Params) : Obj := qC [.str "eq_s" 302, .str "BaseStemmer.eq_s" 303, .str "/claim/cut.py" 304, .int 75 0, .int 2 0, .int 0 0, .int 0 0, .int 3 0, .ref 113, .bool true, .int 181 0, .ref 114, .none, .ref 115, .ref 116, .ref 117, .int 307 0, .int 75 0, .str "/claim/cut.py" 308]
noncomputable def o119 (P : Params) : Obj := qF "eq_s" "BaseStemmer.eq_s" (fnAt 2 12) (.str "snowballstemmer.basestemmer" 194) (.ref 118)
noncomputable def o120 : Obj := o11 P
noncomputable def o121 : Obj := o16 P
noncomputable def o122 (P : Params) : Obj := qT [.str "self" 313, .str "s" 314]
noncomputable def o123 : Obj := o11 P
noncomputable def o124 (P : Params) : Obj := qG "eq_s_b" "BaseStemmer.eq_s_b" (fnAt 2 13)
noncomputable def o125 (P : Params) : Obj := qC [.str "eq_s_b" 310, .str "BaseStemmer.eq_s_b" 311, .str "/claim/cut.py" 312, .int 78 0, .int 2 0, .int 0 0, .int 0 0, .int 3 0, .ref 120, .bool true, .int 181 0, .ref 121, .none, .ref 122, .ref 123, .ref 124, .int 315 0, .int 78 0, .str "/claim/cut.py" 316]
noncomputable def o126 (P : Params) : Obj := qF "eq_s_b" "BaseStemmer.eq_s_b" (fnAt 2 13) (.str "snowballstemmer.basestemmer" 194) (.ref 125)
noncomputable def o127 : Obj := o11 P
noncomputable def o128 : Obj := o16 P
noncomputable def o129 (P : Params) : Obj := qT [.str "self" 321, .str "v" 322]
noncomputable def o130 : Obj := o11 P
noncomputable def o131 (P : Params) : Obj := qG "find_among" "BaseStemmer.find_among" (fnAt 2 14)
noncomputable def o132 (P : Params) : Obj := qC [.str "find_among" 318, .str "BaseStemmer.find_among" 319, .str "/claim/cut.py" 320, .int 81 0, .int 2 0, .int 0 0, .int 0 0, .int 3 0, .ref 127, .bool true, .int 181 0, .ref 128, .none, .ref 129, .ref 130, .ref 131, .int 323 0, .int 81 0, .str "/claim/cut.py" 324]
noncomputable def o133 (P : Params) : Obj := qF "find_among" "BaseStemmer.find_among" (fnAt 2 14) (.str "snowballstemmer.basestemmer" 194) (.ref 132)
noncomputable def o134 : Obj := o11 P
noncomputable def o135 : Obj := o16 P
noncomputable def o136 (P : Params) : Obj := qT [.str "self" 329, .str "v" 330, .str "i" 331, .str "j" 332, .str "c" 333, .str "lb" 334, .str "common_i" 335, .str "common_j" 336, .str "first_key_inspected" 337, .str "k" 338, .str "diff" 339, .str "common" 340, .str "w" 341, .str "i2" 342]
noncomputable def o137 : Obj := o11 P
noncomputable def o138 (P : Params) : Obj := qG "find_among_b" "BaseStemmer.find_among_b" (fnAt 2 15)
noncomputable def o139 (P : Params) : Obj := qC [.str "find_among_b" 326, .str "BaseStemmer.find_among_b" 327, .str "/claim/cut.py" 328, .int 84 0, .int 2 0, .int 0 0, .int 0 0, .int 3 0, .ref 134, .bool true, .int 181 0, .ref 135, .none, .ref 136, .ref 137, .ref 138, .int 343 0, .int 84 0, .str "/claim/cut.py" 344]
noncomputable def o140 (P : Params) : Obj := qF "find_among_b" "BaseStemmer.find_among_b" (fnAt 2 15) (.str "snowballstemmer.basestemmer" 194) (.ref 139)
noncomputable def o141 : Obj := o11 P
noncomputable def o142 : Obj := o16 P
noncomputable def o143 (P : Params) : Obj := qT [.str "self" 349, .str "c_bra" 350, .str "c_ket" 351, .str "s" 352, .str "adjustment" 353]
noncomputable def o144 : Obj := o11 P
noncomputable def o145 (P : Params) : Obj := qG "replace_s" "BaseStemmer.replace_s" (fnAt 2 16)
noncomputable def o146 (P : Params) : Obj := qC [.str "replace_s" 346, .str "BaseStemmer.replace_s" 347, .str "/claim/cut.py" 348, .int 129 0, .int 4 0, .int 0 0, .int 0 0, .int 3 0, .ref 141, .bool true, .int 181 0, .ref 142, .none, .ref 143, .ref 144, .ref 145, .int 354 0, .int 129 0, .str "/claim/cut.py" 355]
noncomputable def o147 (P : Params) : Obj := qF "replace_s" "BaseStemmer.replace_s" (fnAt 2 16) (.str "snowballstemmer.basestemmer" 194) (.ref 146)
noncomputable def o148 : Obj := o11 P
noncomputable def o149 : Obj := o16 P
noncomputable def o150 (P : Params) : Obj := qT [.str "self" 360, .str "s" 361]
noncomputable def o151 : Obj := o11 P
noncomputable def o152 (P : Params) : Obj := qG "slice_from" "BaseStemmer.slice_from" (fnAt 2 17)
noncomputable def o153 (P : Params) : Obj := qC [.str "slice_from" 357, .str "BaseStemmer.slice_from" 358, .str "/claim/cut.py" 359, .int 139 0, .int 2 0, .int 0 0, .int 0 0, .int 3 0, .ref 148, .bool true, .int 181 0, .ref 149, .none, .ref 150, .ref 151, .ref 152, .int 362 0, .int 139 0, .str "/claim/cut.py" 363]
noncomputable def o154 (P : Params) : Obj := qF "slice_from" "BaseStemmer.slice_from" (fnAt 2 17) (.str "snowballstemmer.basestemmer" 194) (.ref 153)
noncomputable def o155 : Obj := o11 P
noncomputable def o156 : Obj := o16 P
noncomputable def o157 (P : Params) : Obj := qT [.str "self" 368]
noncomputable def o158 : Obj := o11 P
noncomputable def o159 (P : Params) : Obj := qG "slice_del" "BaseStemmer.slice_del" (fnAt 2 18)
noncomputable def o160 (P : Params) : Obj := qC [.str "slice_del" 365, .str "BaseStemmer.slice_del" 366, .str "/claim/cut.py" 367, .int 147 0, .int 1 0, .int 0 0, .int 0 0, .int 3 0, .ref 155, .bool true, .int 181 0, .ref 156, .none, .ref 157, .ref 158, .ref 159, .int 369 0, .int 147 0, .str "/claim/cut.py" 370]
noncomputable def o161 (P : Params) : Obj := qF "slice_del" "BaseStemmer.slice_del" (fnAt 2 18) (.str "snowballstemmer.basestemmer" 194) (.ref 160)
noncomputable def o162 : Obj := o11 P
noncomputable def o163 : Obj := o16 P
noncomputable def o164 (P : Params) : Obj := qT [.str "self" 375, .str "c_bra" 376, .str "c_ket" 377, .str "s" 378, .str "adjustment" 379]
noncomputable def o165 : Obj := o11 P
noncomputable def o166 (P : Params) : Obj := qG "insert" "BaseStemmer.insert" (fnAt 2 19)
noncomputable def o167 (P : Params) : Obj := qC [.str "insert" 372, .str "BaseStemmer.insert" 373, .str "/claim/cut.py" 374, .int 150 0, .int 4 0, .int 0 0, .int 0 0, .int 3 0, .ref 162, .bool true, .int 181 0, .ref 163, .none, .ref 164, .ref 165, .ref 166, .int 380 0, .int 150 0, .str "/claim/cut.py" 381]
noncomputable def o168 (P : Params) : Obj := qF "insert" "BaseStemmer.insert" (fnAt 2 19) (.str "snowballstemmer.basestemmer" 194) (.ref 167)
noncomputable def o169 : Obj := o11 P
noncomputable def o170 : Obj := o16 P
noncomputable def o171 (P : Params) : Obj := qT [.str "self" 386]
noncomputable def o172 : Obj := o11 P
noncomputable def o173 (P : Params) : Obj := qG "slice_to" "BaseStemmer.slice_to" (fnAt 2 20)
noncomputable def o174 (P : Params) : Obj := qC [.str "slice_to" 383, .str "BaseStemmer.slice_to" 384, .str "/claim/cut.py" 385, .int 157 0, .int 1 0, .int 0 0, .int 0 0, .int 3 0, .ref 169, .bool true, .int 181 0, .ref 170, .none, .ref 171, .ref 172, .ref 173, .int 387 0, .int 157 0, .str "/claim/cut.py" 388]
noncomputable def o175 (P : Params) : Obj := qF "slice_to" "BaseStemmer.slice_to" (fnAt 2 20) (.str "snowballstemmer.basestemmer" 194) (.ref 174)
noncomputable def o176 : Obj := o11 P
noncomputable def o177 : Obj := o16 P
noncomputable def o178 (P : Params) : Obj := qT [.str "self" 393]
noncomputable def o179 : Obj := o11 P
noncomputable def o180 (P : Params) : Obj := qG "assign_to" "BaseStemmer.assign_to" (fnAt 2 21)
noncomputable def o181 (P : Params) : Obj := qC [.str "assign_to" 390, .str "BaseStemmer.assign_to" 391, .str "/claim/cut.py" 392, .int 160 0, .int 1 0, .int 0 0, .int 0 0, .int 3 0, .ref 176, .bool true, .int 181 0, .ref 177, .none, .ref 178, .ref 179, .ref 180, .int 394 0, .int 160 0, .str "/claim/cut.py" 395]
noncomputable def o182 (P : Params) : Obj := qF "assign_to" "BaseStemmer.assign_to" (fnAt 2 21) (.str "snowballstemmer.basestemmer" 194) (.ref 181)
noncomputable def o183 : Obj := o11 P
noncomputable def o184 : Obj := o16 P
noncomputable def o185 (P : Params) : Obj := qT [.str "self" 400, .str "word" 401]
noncomputable def o186 : Obj := o11 P
noncomputable def o187 (P : Params) : Obj := qG "stemWord" "BaseStemmer.stemWord" (fnAt 2 22)
noncomputable def o188 (P : Params) : Obj := qC [.str "stemWord" 397, .str "BaseStemmer.stemWord" 398, .str "/claim/cut.py" 399, .int 163 0, .int 2 0, .int 0 0, .int 0 0, .int 3 0, .ref 183, .bool true, .int 181 0, .ref 184, .none, .ref 185, .ref 186, .ref 187, .int 402 0, .int 163 0, .str "/claim/cut.py" 403]
noncomputable def o189 (P : Params) : Obj := qF "stemWord" "BaseStemmer.stemWord" (fnAt 2 22) (.str "snowballstemmer.basestemmer" 194) (.ref 188)
noncomputable def o190 : Obj := o11 P
noncomputable def o191 : Obj := o16 P
noncomputable def o192 (P : Params) : Obj := qT [.str "self" 408, .str "words" 409]
noncomputable def o193 : Obj := o11 P
noncomputable def o194 (P : Params) : Obj := qG "stemWords" "BaseStemmer.stemWords" (fnAt 2 23)
noncomputable def o195 (P : Params) : Obj := qC [.str "stemWords" 405, .str "BaseStemmer.stemWords" 406, .str "/claim/cut.py" 407, .int 168 0, .int 2 0, .int 0 0, .int 0 0, .int 3 0, .ref 190, .bool true, .int 181 0, .ref 191, .none, .ref 192, .ref 193, .ref 194, .int 410 0, .int 168 0, .str "/claim/cut.py" 411]
noncomputable def o196 (P : Params) : Obj := qF "stemWords" "BaseStemmer.stemWords" (fnAt 2 23) (.str "snowballstemmer.basestemmer" 194) (.ref 195)
noncomputable def o197 (P : Params) : Obj := qT [.str "bra" 413, .str "current" 414, .str "cursor" 415, .str "ket" 416, .str "limit" 417, .str "limit_backward" 418]
noncomputable def o198 : Obj := qD [kD P "__module__" 203 (.str "snowballstemmer.basestemmer" 194), kD P "__firstlineno__" 207 (.int 5 206), kD P "__init__" 214 (.ref 35), kD P "set_current" 222 (.ref 42), kD P "get_current" 229 (.ref 49), kD P "copy_from" 237 (.ref 56), kD P "in_grouping" 245 (.ref 63), kD P "go_in_grouping" 253 (.ref 70), kD P "in_grouping_b" 261 (.ref 77), kD P "go_in_grouping_b" 269 (.ref 84), kD P "out_grouping" 277 (.ref 91), kD P "go_out_grouping" 285 (.ref 98), kD P "out_grouping_b" 293 (.ref 105), kD P "go_out_grouping_b" 301 (.ref 112), kD P "eq_s" 309 (.ref 119), kD P "eq_s_b" 317 (.ref 126), kD P "find_among" 325 (.ref 133), kD P "find_among_b" 345 (.ref 140), kD P "replace_s" 356 (.ref 147), kD P "slice_from" 364 (.ref 154), kD P "slice_del" 371 (.ref 161), kD P "insert" 382 (.ref 168), kD P "slice_to" 389 (.ref 175), kD P "assign_to" 396 (.ref 182), kD P "stemWord" 404 (.ref 189), kD P "stemWords" 412 (.ref 196), kD P "__static_attributes__" 419 (.ref 197), kD P "__dict__" 421 (.ref 200), kD P "__weakref__" 423 (.ref 201), kD P "__doc__" 424 .none] 4
noncomputable def o199 (P : Params) : Obj := ⟨(.type "type"), none, (.cls { name := "BaseStemmer", bases := [.type "object"], mro := [.ref 199, .type "object"], ns := 198, qualname := "BaseStemmer", hasDict := true, slotNames := [], subclasses := [.ref 527], abstract := false, collection := none, hasDel := false }), [none, none, (some (.str "BaseStemmer" 196)), (some (.str "BaseStemmer" 204)), (some (.builtin "object.__new__")), (some (.bool true))].toArray⟩
noncomputable def o200 (P : Params) : Obj := ⟨(.type "getset_descriptor"), none, (.fields [.str "__dict__" 420, .ref 199, .builtin "function.__dict__", .builtin "function.__dict__#set"].toArray), [].toArray⟩
noncomputable def o201 (P : Params) : Obj := ⟨(.type "getset_descriptor"), none, (.fields [.str "__weakref__" 422, .ref 199, .builtin "ExceptionGroup.__weakref__", .none].toArray), [].toArray⟩
noncomputable def o202 (P : Params) : Obj := ⟨(.type "super"), none, (.fields [.ref 199, .ref 199, .ref 199].toArray), [].toArray⟩
noncomputable def o203 (P : Params) : Obj := qB [.builtin "object.__init_subclass__", .ref 199]
noncomputable def o204 : Obj := o11 P
noncomputable def o205 : Obj := o23 P
noncomputable def o206 : Obj := qD [kD P "__module__" 436 (.str "snowballstemmer.among" 427), kD P "__qualname__" 438 (.str "Among" 437), kD P "__firstlineno__" 440 (.int 171 439), kD P "__init__" 450 (.ref 217), kD P "__static_attributes__" 454 (.ref 218)] 5
noncomputable def o207 : Obj := o11 P
noncomputable def o208 (P : Params) : Obj := qN [.int 173 0, .int 4 0, .ref 216]
noncomputable def o209 (P : Params) : Obj := qC [.str "Among" 431, .str "Among" 432, .str "/claim/cut.py" 433, .int 171 0, .int 0 0, .int 0 0, .int 0 0, .int 0 0, .ref 207, .bool false, .int 181 0, .ref 208, .none, .none, .none, .none, .int 434 0, .int 171 0, .str "/claim/cut.py" 435]
noncomputable def o210 (P : Params) : Obj := ⟨(.type "frame"), none, .plain, [(some (.ref 209)), (some (.ref 3)), (some (.ref 206)), none, (some (.str "snowballstemmer.among" 427)), none, (some (.ref 0))].toArray⟩
noncomputable def o211 : Obj := o11 P
noncomputable def o212 : Obj := o16 P
noncomputable def o213 (P : Params) : Obj := qT [.str "self" 444, .str "s" 445, .str "substring_i" 446, .str "result" 447]
noncomputable def o214 : Obj := o11 P
noncomputable def o215 (P : Params) : Obj := qG "__init__" "Among.__init__" (fnAt 4 0)
noncomputable def o216 (P : Params) : Obj := qC [.str "__init__" 441, .str "Among.__init__" 442, .str "/claim/cut.py" 443, .int 173 0, .int 4 0, .int 0 0, .int 0 0, .int 3 0, .ref 211, .bool true, .int 181 0, .ref 212, .none, .ref 213, .ref 214, .ref 215, .int 448 0, .int 173 0, .str "/claim/cut.py" 449]
noncomputable def o217 (P : Params) : Obj := qF "__init__" "Among.__init__" (fnAt 4 0) (.str "snowballstemmer.among" 427) (.ref 216)
noncomputable def o218 (P : Params) : Obj := qT [.str "result" 451, .str "s" 452, .str "substring_i" 453]
noncomputable def o219 : Obj := qD [kD P "__module__" 436 (.str "snowballstemmer.among" 427), kD P "__firstlineno__" 440 (.int 171 439), kD P "__init__" 450 (.ref 217), kD P "__static_attributes__" 454 (.ref 218), kD P "__dict__" 456 (.ref 221), kD P "__weakref__" 458 (.ref 222), kD P "__doc__" 459 .none] 4
noncomputable def o220 (P : Params) : Obj := ⟨(.type "type"), none, (.cls { name := "Among", bases := [.type "object"], mro := [.ref 220, .type "object"], ns := 219, qualname := "Among", hasDict := true, slotNames := [], subclasses := [], abstract := false, collection := none, hasDel := false }), [none, none, (some (.str "Among" 429)), (some (.str "Among" 437)), (some (.builtin "object.__new__")), (some (.bool true))].toArray⟩
noncomputable def o221 (P : Params) : Obj := ⟨(.type "getset_descriptor"), none, (.fields [.str "__dict__" 455, .ref 220, .builtin "function.__dict__", .builtin "function.__dict__#set"].toArray), [].toArray⟩
noncomputable def o222 (P : Params) : Obj := ⟨(.type "getset_descriptor"), none, (.fields [.str "__weakref__" 457, .ref 220, .builtin "ExceptionGroup.__weakref__", .none].toArray), [].toArray⟩
noncomputable def o223 (P : Params) : Obj := ⟨(.type "super"), none, (.fields [.ref 220, .ref 220, .ref 220].toArray), [].toArray⟩
noncomputable def o224 (P : Params) : Obj := qB [.builtin "object.__init_subclass__", .ref 220]
noncomputable def o225 (P : Params) : Obj := qT [.ref 199]
noncomputable def o226 : Obj := o23 P
noncomputable def o227 : Obj := qD [kD P "__module__" 471 (.str "snowballstemmer.porter_stemmer" 462), kD P "__qualname__" 473 (.str "PorterStemmer" 472), kD P "__firstlineno__" 475 (.int 178 474), kD P "g_v" 488 (.ref 232), kD P "g_v_WXY" 507 (.ref 233), kD P "I_p2" 509 (.int 0 508), kD P "I_p1" 511 (.int 0 510), kD P "r_shortv" 518 (.ref 240), kD P "r_R1" 525 (.ref 247), kD P "r_R2" 532 (.ref 254), kD P "r_Step_1a" 540 (.ref 261), kD P "r_Step_1b" 552 (.ref 268), kD P "r_Step_1c" 559 (.ref 275), kD P "r_Step_2" 567 (.ref 282), kD P "r_Step_3" 575 (.ref 289), kD P "r_Step_4" 583 (.ref 296), kD P "r_Step_5a" 591 (.ref 303), kD P "r_Step_5b" 598 (.ref 310), kD P "_stem" 622 (.ref 317), kD P "a_0" 677 (.ref 330), kD P "as_0" 681 (.ref 331), kD P "a_1" 852 (.ref 371), kD P "a_2" 894 (.ref 381), kD P "a_3" 1173 (.ref 442), kD P "as_3" 1187 (.ref 443), kD P "a_4" 1286 (.ref 465), kD P "as_4" 1290 (.ref 466), kD P "a_5" 1555 (.ref 524), kD P "__static_attributes__" 1562 (.ref 525)] 29
noncomputable def o228 : Obj := o11 P
noncomputable def o229 (P : Params) : Obj := qN [.int 184 0, .int 4 0, .ref 239, .int 191 0, .int 4 0, .ref 246, .int 194 0, .int 4 0, .ref 253, .int 197 0, .int 4 0, .ref 260, .int 207 0, .int 4 0, .ref 267, .int 250 0, .int 4 0, .ref 274, .int 271 0, .int 4 0, .ref 281, .int 282 0, .int 4 0, .ref 288, .int 293 0, .int 4 0, .ref 295, .int 319 0, .int 4 0, .ref 302, .int 346 0, .int 4 0, .ref 309, .int 360 0, .int 4 0, .ref 316]
noncomputable def o230 (P : Params) : Obj := qC [.str "PorterStemmer" 466, .str "PorterStemmer" 467, .str "/claim/cut.py" 468, .int 178 0, .int 0 0, .int 0 0, .int 0 0, .int 0 0, .ref 228, .bool false, .int 181 0, .ref 229, .none, .none, .none, .none, .int 469 0, .int 178 0, .str "/claim/cut.py" 470]
noncomputable def o231 (P : Params) : Obj := ⟨(.type "frame"), none, .plain, [(some (.ref 230)), (some (.ref 3)), (some (.ref 227)), none, (some (.str "snowballstemmer.porter_stemmer" 462)), none, (some (.ref 0))].toArray⟩
noncomputable def o234 : Obj := o11 P
noncomputable def o235 : Obj := o16 P
noncomputable def o236 (P : Params) : Obj := qT [.str "self" 515]
noncomputable def o237 : Obj := o11 P
noncomputable def o238 (P : Params) : Obj := qG "r_shortv" "PorterStemmer.r_shortv" (fnAt 6 4)
noncomputable def o239 (P : Params) : Obj := qC [.str "r_shortv" 512, .str "PorterStemmer.r_shortv" 513, .str "/claim/cut.py" 514, .int 184 0, .int 1 0, .int 0 0, .int 0 0, .int 3 0, .ref 234, .bool true, .int 181 0, .ref 235, .none, .ref 236, .ref 237, .ref 238, .int 516 0, .int 184 0, .str "/claim/cut.py" 517]
noncomputable def o240 (P : Params) : Obj := qF "r_shortv" "PorterStemmer.r_shortv" (fnAt 6 4) (.str "snowballstemmer.porter_stemmer" 462) (.ref 239)
noncomputable def o241 : Obj := o11 P
noncomputable def o242 : Obj := o16 P
noncomputable def o243 (P : Params) : Obj := qT [.str "self" 522]
noncomputable def o244 : Obj := o11 P
noncomputable def o245 (P : Params) : Obj := qG "r_R1" "PorterStemmer.r_R1" (fnAt 6 5)
noncomputable def o246 (P : Params) : Obj := qC [.str "r_R1" 519, .str "PorterStemmer.r_R1" 520, .str "/claim/cut.py" 521, .int 191 0, .int 1 0, .int 0 0, .int 0 0, .int 3 0, .ref 241, .bool true, .int 181 0, .ref 242, .none, .ref 243, .ref 244, .ref 245, .int 523 0, .int 191 0, .str "/claim/cut.py" 524]
noncomputable def o247 (P : Params) : Obj := qF "r_R1" "PorterStemmer.r_R1" (fnAt 6 5) (.str "snowballstemmer.porter_stemmer" 462) (.ref 246)
noncomputable def o248 : Obj := o11 P
noncomputable def o249 : Obj := o16 P
noncomputable def o250 (P : Params) : Obj := qT [.str "self" 529]
noncomputable def o251 : Obj := o11 P
noncomputable def o252 (P : Params) : Obj := qG "r_R2" "PorterStemmer.r_R2" (fnAt 6 6)
noncomputable def o253 (P : Params) : Obj := qC [.str "r_R2" 526, .str "PorterStemmer.r_R2" 527, .str "/claim/cut.py" 528, .int 194 0, .int 1 0, .int 0 0, .int 0 0, .int 3 0, .ref 248, .bool true, .int 181 0, .ref 249, .none, .ref 250, .ref 251, .ref 252, .int 530 0, .int 194 0, .str "/claim/cut.py" 531]
noncomputable def o254 (P : Params) : Obj := qF "r_R2" "PorterStemmer.r_R2" (fnAt 6 6) (.str "snowballstemmer.porter_stemmer" 462) (.ref 253)
noncomputable def o255 : Obj := o11 P
noncomputable def o256 : Obj := o16 P
noncomputable def o257 (P : Params) : Obj := qT [.str "self" 536, .str "among_var" 537]
noncomputable def o258 : Obj := o11 P
noncomputable def o259 (P : Params) : Obj := qG "r_Step_1a" "PorterStemmer.r_Step_1a" (fnAt 6 7)
noncomputable def o260 (P : Params) : Obj := qC [.str "r_Step_1a" 533, .str "PorterStemmer.r_Step_1a" 534, .str "/claim/cut.py" 535, .int 197 0, .int 1 0, .int 0 0, .int 0 0, .int 3 0, .ref 255, .bool true, .int 181 0, .ref 256, .none, .ref 257, .ref 258, .ref 259, .int 538 0, .int 197 0, .str "/claim/cut.py" 539]
noncomputable def o261 (P : Params) : Obj := qF "r_Step_1a" "PorterStemmer.r_Step_1a" (fnAt 6 7) (.str "snowballstemmer.porter_stemmer" 462) (.ref 260)
noncomputable def o262 : Obj := o11 P
noncomputable def o263 : Obj := o16 P
noncomputable def o264 (P : Params) : Obj := qT [.str "self" 544, .str "among_var" 545, .str "v_1" 546, .str "v_2" 547, .str "c" 548, .str "v_3" 549]
noncomputable def o265 : Obj := o11 P
noncomputable def o266 (P : Params) : Obj := qG "r_Step_1b" "PorterStemmer.r_Step_1b" (fnAt 6 8)
noncomputable def o267 (P : Params) : Obj := qC [.str "r_Step_1b" 541, .str "PorterStemmer.r_Step_1b" 542, .str "/claim/cut.py" 543, .int 207 0, .int 1 0, .int 0 0, .int 0 0, .int 3 0, .ref 262, .bool true, .int 181 0, .ref 263, .none, .ref 264, .ref 265, .ref 266, .int 550 0, .int 207 0, .str "/claim/cut.py" 551]
noncomputable def o268 (P : Params) : Obj := qF "r_Step_1b" "PorterStemmer.r_Step_1b" (fnAt 6 8) (.str "snowballstemmer.porter_stemmer" 462) (.ref 267)
noncomputable def o269 : Obj := o11 P
noncomputable def o270 : Obj := o16 P
noncomputable def o271 (P : Params) : Obj := qT [.str "self" 556]
noncomputable def o272 : Obj := o11 P
noncomputable def o273 (P : Params) : Obj := qG "r_Step_1c" "PorterStemmer.r_Step_1c" (fnAt 6 9)
noncomputable def o274 (P : Params) : Obj := qC [.str "r_Step_1c" 553, .str "PorterStemmer.r_Step_1c" 554, .str "/claim/cut.py" 555, .int 250 0, .int 1 0, .int 0 0, .int 0 0, .int 3 0, .ref 269, .bool true, .int 181 0, .ref 270, .none, .ref 271, .ref 272, .ref 273, .int 557 0, .int 250 0, .str "/claim/cut.py" 558]
noncomputable def o275 (P : Params) : Obj := qF "r_Step_1c" "PorterStemmer.r_Step_1c" (fnAt 6 9) (.str "snowballstemmer.porter_stemmer" 462) (.ref 274)
noncomputable def o276 : Obj := o11 P
noncomputable def o277 : Obj := o16 P
noncomputable def o278 (P : Params) : Obj := qT [.str "self" 563, .str "among_var" 564]
noncomputable def o279 : Obj := o11 P
noncomputable def o280 (P : Params) : Obj := qG "r_Step_2" "PorterStemmer.r_Step_2" (fnAt 6 10)
noncomputable def o281 (P : Params) : Obj := qC [.str "r_Step_2" 560, .str "PorterStemmer.r_Step_2" 561, .str "/claim/cut.py" 562, .int 271 0, .int 1 0, .int 0 0, .int 0 0, .int 3 0, .ref 276, .bool true, .int 181 0, .ref 277, .none, .ref 278, .ref 279, .ref 280, .int 565 0, .int 271 0, .str "/claim/cut.py" 566]
noncomputable def o282 (P : Params) : Obj := qF "r_Step_2" "PorterStemmer.r_Step_2" (fnAt 6 10) (.str "snowballstemmer.porter_stemmer" 462) (.ref 281)
noncomputable def o283 : Obj := o11 P
noncomputable def o284 : Obj := o16 P
noncomputable def o285 (P : Params) : Obj := qT [.str "self" 571, .str "among_var" 572]
noncomputable def o286 : Obj := o11 P
noncomputable def o287 (P : Params) : Obj := qG "r_Step_3" "PorterStemmer.r_Step_3" (fnAt 6 11)
noncomputable def o288 (P : Params) : Obj := qC [.str "r_Step_3" 568, .str "PorterStemmer.r_Step_3" 569, .str "/claim/cut.py" 570, .int 282 0, .int 1 0, .int 0 0, .int 0 0, .int 3 0, .ref 283, .bool true, .int 181 0, .ref 284, .none, .ref 285, .ref 286, .ref 287, .int 573 0, .int 282 0, .str "/claim/cut.py" 574]
noncomputable def o289 (P : Params) : Obj := qF "r_Step_3" "PorterStemmer.r_Step_3" (fnAt 6 11) (.str "snowballstemmer.porter_stemmer" 462) (.ref 288)
noncomputable def o290 : Obj := o11 P
noncomputable def o291 : Obj := o16 P
noncomputable def o292 (P : Params) : Obj := qT [.str "self" 579, .str "among_var" 580]
noncomputable def o293 : Obj := o11 P
noncomputable def o294 (P : Params) : Obj := qG "r_Step_4" "PorterStemmer.r_Step_4" (fnAt 6 12)
noncomputable def o295 (P : Params) : Obj := qC [.str "r_Step_4" 576, .str "PorterStemmer.r_Step_4" 577, .str "/claim/cut.py" 578, .int 293 0, .int 1 0, .int 0 0, .int 0 0, .int 3 0, .ref 290, .bool true, .int 181 0, .ref 291, .none, .ref 292, .ref 293, .ref 294, .int 581 0, .int 293 0, .str "/claim/cut.py" 582]
noncomputable def o296 (P : Params) : Obj := qF "r_Step_4" "PorterStemmer.r_Step_4" (fnAt 6 12) (.str "snowballstemmer.porter_stemmer" 462) (.ref 295)
noncomputable def o297 : Obj := o11 P
noncomputable def o298 : Obj := o16 P
noncomputable def o299 (P : Params) : Obj := qT [.str "self" 587, .str "v_1" 588]
noncomputable def o300 : Obj := o11 P
noncomputable def o301 (P : Params) : Obj := qG "r_Step_5a" "PorterStemmer.r_Step_5a" (fnAt 6 13)
noncomputable def o302 (P : Params) : Obj := qC [.str "r_Step_5a" 584, .str "PorterStemmer.r_Step_5a" 585, .str "/claim/cut.py" 586, .int 319 0, .int 1 0, .int 0 0, .int 0 0, .int 3 0, .ref 297, .bool true, .int 181 0, .ref 298, .none, .ref 299, .ref 300, .ref 301, .int 589 0, .int 319 0, .str "/claim/cut.py" 590]
noncomputable def o303 (P : Params) : Obj := qF "r_Step_5a" "PorterStemmer.r_Step_5a" (fnAt 6 13) (.str "snowballstemmer.porter_stemmer" 462) (.ref 302)
noncomputable def o304 : Obj := o11 P
noncomputable def o305 : Obj := o16 P
noncomputable def o306 (P : Params) : Obj := qT [.str "self" 595]
noncomputable def o307 : Obj := o11 P
noncomputable def o308 (P : Params) : Obj := qG "r_Step_5b" "PorterStemmer.r_Step_5b" (fnAt 6 14)
noncomputable def o309 (P : Params) : Obj := qC [.str "r_Step_5b" 592, .str "PorterStemmer.r_Step_5b" 593, .str "/claim/cut.py" 594, .int 346 0, .int 1 0, .int 0 0, .int 0 0, .int 3 0, .ref 304, .bool true, .int 181 0, .ref 305, .none, .ref 306, .ref 307, .ref 308, .int 596 0, .int 346 0, .str "/claim/cut.py" 597]
noncomputable def o310 (P : Params) : Obj := qF "r_Step_5b" "PorterStemmer.r_Step_5b" (fnAt 6 14) (.str "snowballstemmer.porter_stemmer" 462) (.ref 309)
noncomputable def o311 : Obj := o11 P
noncomputable def o312 : Obj := o16 P
noncomputable def o313 (P : Params) : Obj := qT [.str "self" 602, .str "B_Y_found" 603, .str "v_1" 604, .str "v_2" 605, .str "v_3" 606, .str "v_4" 607, .str "v_5" 608, .str "v_6" 609, .str "v_7" 610, .str "v_8" 611, .str "v_9" 612, .str "v_10" 613, .str "v_11" 614, .str "v_12" 615, .str "v_13" 616, .str "v_14" 617, .str "v_15" 618, .str "v_16" 619]
noncomputable def o314 : Obj := o11 P
noncomputable def o315 (P : Params) : Obj := qG "_stem" "PorterStemmer._stem" (fnAt 6 15)
noncomputable def o316 (P : Params) : Obj := qC [.str "_stem" 599, .str "PorterStemmer._stem" 600, .str "/claim/cut.py" 601, .int 360 0, .int 1 0, .int 0 0, .int 0 0, .int 3 0, .ref 311, .bool true, .int 181 0, .ref 312, .none, .ref 313, .ref 314, .ref 315, .int 620 0, .int 360 0, .str "/claim/cut.py" 621]
noncomputable def o317 (P : Params) : Obj := qF "_stem" "PorterStemmer._stem" (fnAt 6 15) (.str "snowballstemmer.porter_stemmer" 462) (.ref 316)
noncomputable def o318 : Obj := qD [kD P "s" 632 (.str "s" 623), kD P "substring_i" 634 (.int (-1) 625), kD P "result" 636 (.int 3 626)] 3
noncomputable def o319 (P : Params) : Obj := ⟨(.ref 220), (some 318), .plain, [].toArray⟩
noncomputable def o320 : Obj := qR [kD P "self" 627 (.ref 319), kD P "s" 628 (.str "s" 623), kD P "substring_i" 629 (.int (-1) 625), kD P "result" 630 (.int 3 626)] 4
noncomputable def o321 : Obj := qD [kD P "s" 645 (.str "ies" 637), kD P "substring_i" 647 (.int 0 638), kD P "result" 649 (.int 2 639)] 3
noncomputable def o322 (P : Params) : Obj := ⟨(.ref 220), (some 321), .plain, [].toArray⟩
noncomputable def o323 : Obj := qR [kD P "self" 640 (.ref 322), kD P "s" 641 (.str "ies" 637), kD P "substring_i" 642 (.int 0 638), kD P "result" 643 (.int 2 639)] 4
noncomputable def o324 : Obj := qD [kD P "s" 658 (.str "sses" 650), kD P "substring_i" 660 (.int 0 651), kD P "result" 662 (.int 1 652)] 3
noncomputable def o325 (P : Params) : Obj := ⟨(.ref 220), (some 324), .plain, [].toArray⟩
noncomputable def o326 : Obj := qR [kD P "self" 653 (.ref 325), kD P "s" 654 (.str "sses" 650), kD P "substring_i" 655 (.int 0 651), kD P "result" 656 (.int 1 652)] 4
noncomputable def o327 : Obj := qD [kD P "s" 672 (.str "ss" 663), kD P "substring_i" 674 (.int 0 664), kD P "result" 676 (.int (-1) 666)] 3
noncomputable def o328 (P : Params) : Obj := ⟨(.ref 220), (some 327), .plain, [].toArray⟩
noncomputable def o329 : Obj := qR [kD P "self" 667 (.ref 328), kD P "s" 668 (.str "ss" 663), kD P "substring_i" 669 (.int 0 664), kD P "result" 670 (.int (-1) 666)] 4
noncomputable def o330 (P : Params) : Obj := ⟨(.type "list"), none, (.seq [.ref 319, .ref 322, .ref 325, .ref 328].toArray 0), [].toArray⟩
noncomputable def o331 (P : Params) : Obj := qT [.str "ss" 678, .str "i" 679, .str "" 680]
noncomputable def o332 : Obj := qD [kD P "s" 691 (.str "" 682), kD P "substring_i" 693 (.int (-1) 684), kD P "result" 695 (.int 3 685)] 3
noncomputable def o333 (P : Params) : Obj := ⟨(.ref 220), (some 332), .plain, [].toArray⟩
noncomputable def o334 : Obj := qR [kD P "self" 686 (.ref 333), kD P "s" 687 (.str "" 682), kD P "substring_i" 688 (.int (-1) 684), kD P "result" 689 (.int 3 685)] 4
noncomputable def o335 : Obj := qD [kD P "s" 704 (.str "bb" 696), kD P "substring_i" 706 (.int 0 697), kD P "result" 708 (.int 2 698)] 3
noncomputable def o336 (P : Params) : Obj := ⟨(.ref 220), (some 335), .plain, [].toArray⟩
noncomputable def o337 : Obj := qR [kD P "self" 699 (.ref 336), kD P "s" 700 (.str "bb" 696), kD P "substring_i" 701 (.int 0 697), kD P "result" 702 (.int 2 698)] 4
noncomputable def o338 : Obj := qD [kD P "s" 717 (.str "dd" 709), kD P "substring_i" 719 (.int 0 710), kD P "result" 721 (.int 2 711)] 3
noncomputable def o339 (P : Params) : Obj := ⟨(.ref 220), (some 338), .plain, [].toArray⟩
noncomputable def o340 : Obj := qR [kD P "self" 712 (.ref 339), kD P "s" 713 (.str "dd" 709), kD P "substring_i" 714 (.int 0 710), kD P "result" 715 (.int 2 711)] 4
noncomputable def o341 : Obj := qD [kD P "s" 730 (.str "ff" 722), kD P "substring_i" 732 (.int 0 723), kD P "result" 734 (.int 2 724)] 3
noncomputable def o342 (P : Params) : Obj := ⟨(.ref 220), (some 341), .plain, [].toArray⟩
noncomputable def o343 : Obj := qR [kD P "self" 725 (.ref 342), kD P "s" 726 (.str "ff" 722), kD P "substring_i" 727 (.int 0 723), kD P "result" 728 (.int 2 724)] 4
noncomputable def o344 : Obj := qD [kD P "s" 743 (.str "gg" 735), kD P "substring_i" 745 (.int 0 736), kD P "result" 747 (.int 2 737)] 3
noncomputable def o345 (P : Params) : Obj := ⟨(.ref 220), (some 344), .plain, [].toArray⟩
noncomputable def o346 : Obj := qR [kD P "self" 738 (.ref 345), kD P "s" 739 (.str "gg" 735), kD P "substring_i" 740 (.int 0 736), kD P "result" 741 (.int 2 737)] 4
noncomputable def o347 : Obj := qD [kD P "s" 756 (.str "bl" 748), kD P "substring_i" 758 (.int 0 749), kD P "result" 760 (.int 1 750)] 3
noncomputable def o348 (P : Params) : Obj := ⟨(.ref 220), (some 347), .plain, [].toArray⟩
noncomputable def o349 : Obj := qR [kD P "self" 751 (.ref 348), kD P "s" 752 (.str "bl" 748), kD P "substring_i" 753 (.int 0 749), kD P "result" 754 (.int 1 750)] 4
noncomputable def o350 : Obj := qD [kD P "s" 769 (.str "mm" 761), kD P "substring_i" 771 (.int 0 762), kD P "result" 773 (.int 2 763)] 3
noncomputable def o351 (P : Params) : Obj := ⟨(.ref 220), (some 350), .plain, [].toArray⟩
noncomputable def o352 : Obj := qR [kD P "self" 764 (.ref 351), kD P "s" 765 (.str "mm" 761), kD P "substring_i" 766 (.int 0 762), kD P "result" 767 (.int 2 763)] 4
noncomputable def o353 : Obj := qD [kD P "s" 782 (.str "nn" 774), kD P "substring_i" 784 (.int 0 775), kD P "result" 786 (.int 2 776)] 3
noncomputable def o354 (P : Params) : Obj := ⟨(.ref 220), (some 353), .plain, [].toArray⟩
noncomputable def o355 : Obj := qR [kD P "self" 777 (.ref 354), kD P "s" 778 (.str "nn" 774), kD P "substring_i" 779 (.int 0 775), kD P "result" 780 (.int 2 776)] 4
noncomputable def o356 : Obj := qD [kD P "s" 795 (.str "pp" 787), kD P "substring_i" 797 (.int 0 788), kD P "result" 799 (.int 2 789)] 3
noncomputable def o357 (P : Params) : Obj := ⟨(.ref 220), (some 356), .plain, [].toArray⟩
noncomputable def o358 : Obj := qR [kD P "self" 790 (.ref 357), kD P "s" 791 (.str "pp" 787), kD P "substring_i" 792 (.int 0 788), kD P "result" 793 (.int 2 789)] 4
noncomputable def o359 : Obj := qD [kD P "s" 808 (.str "rr" 800), kD P "substring_i" 810 (.int 0 801), kD P "result" 812 (.int 2 802)] 3
noncomputable def o360 (P : Params) : Obj := ⟨(.ref 220), (some 359), .plain, [].toArray⟩
noncomputable def o361 : Obj := qR [kD P "self" 803 (.ref 360), kD P "s" 804 (.str "rr" 800), kD P "substring_i" 805 (.int 0 801), kD P "result" 806 (.int 2 802)] 4
noncomputable def o362 : Obj := qD [kD P "s" 821 (.str "at" 813), kD P "substring_i" 823 (.int 0 814), kD P "result" 825 (.int 1 815)] 3
noncomputable def o363 (P : Params) : Obj := ⟨(.ref 220), (some 362), .plain, [].toArray⟩
noncomputable def o364 : Obj := qR [kD P "self" 816 (.ref 363), kD P "s" 817 (.str "at" 813), kD P "substring_i" 818 (.int 0 814), kD P "result" 819 (.int 1 815)] 4
noncomputable def o365 : Obj := qD [kD P "s" 834 (.str "tt" 826), kD P "substring_i" 836 (.int 0 827), kD P "result" 838 (.int 2 828)] 3
noncomputable def o366 (P : Params) : Obj := ⟨(.ref 220), (some 365), .plain, [].toArray⟩
noncomputable def o367 : Obj := qR [kD P "self" 829 (.ref 366), kD P "s" 830 (.str "tt" 826), kD P "substring_i" 831 (.int 0 827), kD P "result" 832 (.int 2 828)] 4
noncomputable def o368 : Obj := qD [kD P "s" 847 (.str "iz" 839), kD P "substring_i" 849 (.int 0 840), kD P "result" 851 (.int 1 841)] 3
noncomputable def o369 (P : Params) : Obj := ⟨(.ref 220), (some 368), .plain, [].toArray⟩
noncomputable def o370 : Obj := qR [kD P "self" 842 (.ref 369), kD P "s" 843 (.str "iz" 839), kD P "substring_i" 844 (.int 0 840), kD P "result" 845 (.int 1 841)] 4
noncomputable def o371 (P : Params) : Obj := ⟨(.type "list"), none, (.seq [.ref 333, .ref 336, .ref 339, .ref 342, .ref 345, .ref 348, .ref 351, .ref 354, .ref 357, .ref 360, .ref 363, .ref 366, .ref 369].toArray 0), [].toArray⟩
noncomputable def o372 : Obj := qD [kD P "s" 862 (.str "ed" 853), kD P "substring_i" 864 (.int (-1) 855), kD P "result" 866 (.int 2 856)] 3
noncomputable def o373 (P : Params) : Obj := ⟨(.ref 220), (some 372), .plain, [].toArray⟩
noncomputable def o374 : Obj := qR [kD P "self" 857 (.ref 373), kD P "s" 858 (.str "ed" 853), kD P "substring_i" 859 (.int (-1) 855), kD P "result" 860 (.int 2 856)] 4
noncomputable def o375 : Obj := qD [kD P "s" 875 (.str "eed" 867), kD P "substring_i" 877 (.int 0 868), kD P "result" 879 (.int 1 869)] 3
noncomputable def o376 (P : Params) : Obj := ⟨(.ref 220), (some 375), .plain, [].toArray⟩
noncomputable def o377 : Obj := qR [kD P "self" 870 (.ref 376), kD P "s" 871 (.str "eed" 867), kD P "substring_i" 872 (.int 0 868), kD P "result" 873 (.int 1 869)] 4
noncomputable def o378 : Obj := qD [kD P "s" 889 (.str "ing" 880), kD P "substring_i" 891 (.int (-1) 882), kD P "result" 893 (.int 2 883)] 3
noncomputable def o379 (P : Params) : Obj := ⟨(.ref 220), (some 378), .plain, [].toArray⟩
noncomputable def o380 : Obj := qR [kD P "self" 884 (.ref 379), kD P "s" 885 (.str "ing" 880), kD P "substring_i" 886 (.int (-1) 882), kD P "result" 887 (.int 2 883)] 4
noncomputable def o381 (P : Params) : Obj := ⟨(.type "list"), none, (.seq [.ref 373, .ref 376, .ref 379].toArray 0), [].toArray⟩
noncomputable def o382 : Obj := qD [kD P "s" 904 (.str "anci" 895), kD P "substring_i" 906 (.int (-1) 897), kD P "result" 908 (.int 3 898)] 3
noncomputable def o383 (P : Params) : Obj := ⟨(.ref 220), (some 382), .plain, [].toArray⟩
noncomputable def o384 : Obj := qR [kD P "self" 899 (.ref 383), kD P "s" 900 (.str "anci" 895), kD P "substring_i" 901 (.int (-1) 897), kD P "result" 902 (.int 3 898)] 4
noncomputable def o385 : Obj := qD [kD P "s" 918 (.str "enci" 909), kD P "substring_i" 920 (.int (-1) 911), kD P "result" 922 (.int 2 912)] 3
noncomputable def o386 (P : Params) : Obj := ⟨(.ref 220), (some 385), .plain, [].toArray⟩
noncomputable def o387 : Obj := qR [kD P "self" 913 (.ref 386), kD P "s" 914 (.str "enci" 909), kD P "substring_i" 915 (.int (-1) 911), kD P "result" 916 (.int 2 912)] 4
noncomputable def o388 : Obj := qD [kD P "s" 932 (.str "abli" 923), kD P "substring_i" 934 (.int (-1) 925), kD P "result" 936 (.int 4 926)] 3
noncomputable def o389 (P : Params) : Obj := ⟨(.ref 220), (some 388), .plain, [].toArray⟩
noncomputable def o390 : Obj := qR [kD P "self" 927 (.ref 389), kD P "s" 928 (.str "abli" 923), kD P "substring_i" 929 (.int (-1) 925), kD P "result" 930 (.int 4 926)] 4
noncomputable def o391 : Obj := qD [kD P "s" 946 (.str "eli" 937), kD P "substring_i" 948 (.int (-1) 939), kD P "result" 950 (.int 6 940)] 3
noncomputable def o392 (P : Params) : Obj := ⟨(.ref 220), (some 391), .plain, [].toArray⟩
noncomputable def o393 : Obj := qR [kD P "self" 941 (.ref 392), kD P "s" 942 (.str "eli" 937), kD P "substring_i" 943 (.int (-1) 939), kD P "result" 944 (.int 6 940)] 4
noncomputable def o394 : Obj := qD [kD P "s" 960 (.str "alli" 951), kD P "substring_i" 962 (.int (-1) 953), kD P "result" 964 (.int 9 954)] 3
noncomputable def o395 (P : Params) : Obj := ⟨(.ref 220), (some 394), .plain, [].toArray⟩
noncomputable def o396 : Obj := qR [kD P "self" 955 (.ref 395), kD P "s" 956 (.str "alli" 951), kD P "substring_i" 957 (.int (-1) 953), kD P "result" 958 (.int 9 954)] 4
noncomputable def o397 : Obj := qD [kD P "s" 974 (.str "ousli" 965), kD P "substring_i" 976 (.int (-1) 967), kD P "result" 978 (.int 11 968)] 3
noncomputable def o398 (P : Params) : Obj := ⟨(.ref 220), (some 397), .plain, [].toArray⟩
noncomputable def o399 : Obj := qR [kD P "self" 969 (.ref 398), kD P "s" 970 (.str "ousli" 965), kD P "substring_i" 971 (.int (-1) 967), kD P "result" 972 (.int 11 968)] 4
noncomputable def o400 : Obj := qD [kD P "s" 988 (.str "entli" 979), kD P "substring_i" 990 (.int (-1) 981), kD P "result" 992 (.int 5 982)] 3
noncomputable def o401 (P : Params) : Obj := ⟨(.ref 220), (some 400), .plain, [].toArray⟩
noncomputable def o402 : Obj := qR [kD P "self" 983 (.ref 401), kD P "s" 984 (.str "entli" 979), kD P "substring_i" 985 (.int (-1) 981), kD P "result" 986 (.int 5 982)] 4
noncomputable def o403 : Obj := qD [kD P "s" 1002 (.str "aliti" 993), kD P "substring_i" 1004 (.int (-1) 995), kD P "result" 1006 (.int 9 996)] 3
noncomputable def o404 (P : Params) : Obj := ⟨(.ref 220), (some 403), .plain, [].toArray⟩
noncomputable def o405 : Obj := qR [kD P "self" 997 (.ref 404), kD P "s" 998 (.str "aliti" 993), kD P "substring_i" 999 (.int (-1) 995), kD P "result" 1000 (.int 9 996)] 4
noncomputable def o406 : Obj := qD [kD P "s" 1016 (.str "biliti" 1007), kD P "substring_i" 1018 (.int (-1) 1009), kD P "result" 1020 (.int 13 1010)] 3
noncomputable def o407 (P : Params) : Obj := ⟨(.ref 220), (some 406), .plain, [].toArray⟩
noncomputable def o408 : Obj := qR [kD P "self" 1011 (.ref 407), kD P "s" 1012 (.str "biliti" 1007), kD P "substring_i" 1013 (.int (-1) 1009), kD P "result" 1014 (.int 13 1010)] 4
noncomputable def o409 : Obj := qD [kD P "s" 1030 (.str "iviti" 1021), kD P "substring_i" 1032 (.int (-1) 1023), kD P "result" 1034 (.int 12 1024)] 3
noncomputable def o410 (P : Params) : Obj := ⟨(.ref 220), (some 409), .plain, [].toArray⟩
noncomputable def o411 : Obj := qR [kD P "self" 1025 (.ref 410), kD P "s" 1026 (.str "iviti" 1021), kD P "substring_i" 1027 (.int (-1) 1023), kD P "result" 1028 (.int 12 1024)] 4
noncomputable def o412 : Obj := qD [kD P "s" 1044 (.str "tional" 1035), kD P "substring_i" 1046 (.int (-1) 1037), kD P "result" 1048 (.int 1 1038)] 3
noncomputable def o413 (P : Params) : Obj := ⟨(.ref 220), (some 412), .plain, [].toArray⟩
noncomputable def o414 : Obj := qR [kD P "self" 1039 (.ref 413), kD P "s" 1040 (.str "tional" 1035), kD P "substring_i" 1041 (.int (-1) 1037), kD P "result" 1042 (.int 1 1038)] 4
noncomputable def o415 : Obj := qD [kD P "s" 1057 (.str "ational" 1049), kD P "substring_i" 1059 (.int 10 1050), kD P "result" 1061 (.int 8 1051)] 3
noncomputable def o416 (P : Params) : Obj := ⟨(.ref 220), (some 415), .plain, [].toArray⟩
noncomputable def o417 : Obj := qR [kD P "self" 1052 (.ref 416), kD P "s" 1053 (.str "ational" 1049), kD P "substring_i" 1054 (.int 10 1050), kD P "result" 1055 (.int 8 1051)] 4
noncomputable def o418 : Obj := qD [kD P "s" 1071 (.str "alism" 1062), kD P "substring_i" 1073 (.int (-1) 1064), kD P "result" 1075 (.int 9 1065)] 3
noncomputable def o419 (P : Params) : Obj := ⟨(.ref 220), (some 418), .plain, [].toArray⟩
noncomputable def o420 : Obj := qR [kD P "self" 1066 (.ref 419), kD P "s" 1067 (.str "alism" 1062), kD P "substring_i" 1068 (.int (-1) 1064), kD P "result" 1069 (.int 9 1065)] 4
noncomputable def o421 : Obj := qD [kD P "s" 1085 (.str "ation" 1076), kD P "substring_i" 1087 (.int (-1) 1078), kD P "result" 1089 (.int 8 1079)] 3
noncomputable def o422 (P : Params) : Obj := ⟨(.ref 220), (some 421), .plain, [].toArray⟩
noncomputable def o423 : Obj := qR [kD P "self" 1080 (.ref 422), kD P "s" 1081 (.str "ation" 1076), kD P "substring_i" 1082 (.int (-1) 1078), kD P "result" 1083 (.int 8 1079)] 4
noncomputable def o424 : Obj := qD [kD P "s" 1098 (.str "ization" 1090), kD P "substring_i" 1100 (.int 13 1091), kD P "result" 1102 (.int 7 1092)] 3
noncomputable def o425 (P : Params) : Obj := ⟨(.ref 220), (some 424), .plain, [].toArray⟩
noncomputable def o426 : Obj := qR [kD P "self" 1093 (.ref 425), kD P "s" 1094 (.str "ization" 1090), kD P "substring_i" 1095 (.int 13 1091), kD P "result" 1096 (.int 7 1092)] 4
noncomputable def o427 : Obj := qD [kD P "s" 1112 (.str "izer" 1103), kD P "substring_i" 1114 (.int (-1) 1105), kD P "result" 1116 (.int 7 1106)] 3
noncomputable def o428 (P : Params) : Obj := ⟨(.ref 220), (some 427), .plain, [].toArray⟩
noncomputable def o429 : Obj := qR [kD P "self" 1107 (.ref 428), kD P "s" 1108 (.str "izer" 1103), kD P "substring_i" 1109 (.int (-1) 1105), kD P "result" 1110 (.int 7 1106)] 4
noncomputable def o430 : Obj := qD [kD P "s" 1126 (.str "ator" 1117), kD P "substring_i" 1128 (.int (-1) 1119), kD P "result" 1130 (.int 8 1120)] 3
noncomputable def o431 (P : Params) : Obj := ⟨(.ref 220), (some 430), .plain, [].toArray⟩
noncomputable def o432 : Obj := qR [kD P "self" 1121 (.ref 431), kD P "s" 1122 (.str "ator" 1117), kD P "substring_i" 1123 (.int (-1) 1119), kD P "result" 1124 (.int 8 1120)] 4
noncomputable def o433 : Obj := qD [kD P "s" 1140 (.str "iveness" 1131), kD P "substring_i" 1142 (.int (-1) 1133), kD P "result" 1144 (.int 12 1134)] 3
noncomputable def o434 (P : Params) : Obj := ⟨(.ref 220), (some 433), .plain, [].toArray⟩
noncomputable def o435 : Obj := qR [kD P "self" 1135 (.ref 434), kD P "s" 1136 (.str "iveness" 1131), kD P "substring_i" 1137 (.int (-1) 1133), kD P "result" 1138 (.int 12 1134)] 4
noncomputable def o436 : Obj := qD [kD P "s" 1154 (.str "fulness" 1145), kD P "substring_i" 1156 (.int (-1) 1147), kD P "result" 1158 (.int 10 1148)] 3
noncomputable def o437 (P : Params) : Obj := ⟨(.ref 220), (some 436), .plain, [].toArray⟩
noncomputable def o438 : Obj := qR [kD P "self" 1149 (.ref 437), kD P "s" 1150 (.str "fulness" 1145), kD P "substring_i" 1151 (.int (-1) 1147), kD P "result" 1152 (.int 10 1148)] 4
noncomputable def o439 : Obj := qD [kD P "s" 1168 (.str "ousness" 1159), kD P "substring_i" 1170 (.int (-1) 1161), kD P "result" 1172 (.int 11 1162)] 3
noncomputable def o440 (P : Params) : Obj := ⟨(.ref 220), (some 439), .plain, [].toArray⟩
noncomputable def o441 : Obj := qR [kD P "self" 1163 (.ref 440), kD P "s" 1164 (.str "ousness" 1159), kD P "substring_i" 1165 (.int (-1) 1161), kD P "result" 1166 (.int 11 1162)] 4
noncomputable def o442 (P : Params) : Obj := ⟨(.type "list"), none, (.seq [.ref 383, .ref 386, .ref 389, .ref 392, .ref 395, .ref 398, .ref 401, .ref 404, .ref 407, .ref 410, .ref 413, .ref 416, .ref 419, .ref 422, .ref 425, .ref 428, .ref 431, .ref 434, .ref 437, .ref 440].toArray 0), [].toArray⟩
noncomputable def o443 (P : Params) : Obj := qT [.str "tion" 1174, .str "ence" 1175, .str "ance" 1176, .str "able" 1177, .str "ent" 1178, .str "e" 1179, .str "ize" 1180, .str "ate" 1181, .str "al" 1182, .str "ful" 1183, .str "ous" 1184, .str "ive" 1185, .str "ble" 1186]
noncomputable def o444 : Obj := qD [kD P "s" 1197 (.str "icate" 1188), kD P "substring_i" 1199 (.int (-1) 1190), kD P "result" 1201 (.int 2 1191)] 3
noncomputable def o445 (P : Params) : Obj := ⟨(.ref 220), (some 444), .plain, [].toArray⟩
noncomputable def o446 : Obj := qR [kD P "self" 1192 (.ref 445), kD P "s" 1193 (.str "icate" 1188), kD P "substring_i" 1194 (.int (-1) 1190), kD P "result" 1195 (.int 2 1191)] 4
noncomputable def o447 : Obj := qD [kD P "s" 1211 (.str "ative" 1202), kD P "substring_i" 1213 (.int (-1) 1204), kD P "result" 1215 (.int 3 1205)] 3
noncomputable def o448 (P : Params) : Obj := ⟨(.ref 220), (some 447), .plain, [].toArray⟩
noncomputable def o449 : Obj := qR [kD P "self" 1206 (.ref 448), kD P "s" 1207 (.str "ative" 1202), kD P "substring_i" 1208 (.int (-1) 1204), kD P "result" 1209 (.int 3 1205)] 4
noncomputable def o450 : Obj := qD [kD P "s" 1225 (.str "alize" 1216), kD P "substring_i" 1227 (.int (-1) 1218), kD P "result" 1229 (.int 1 1219)] 3
noncomputable def o451 (P : Params) : Obj := ⟨(.ref 220), (some 450), .plain, [].toArray⟩
noncomputable def o452 : Obj := qR [kD P "self" 1220 (.ref 451), kD P "s" 1221 (.str "alize" 1216), kD P "substring_i" 1222 (.int (-1) 1218), kD P "result" 1223 (.int 1 1219)] 4
noncomputable def o453 : Obj := qD [kD P "s" 1239 (.str "iciti" 1230), kD P "substring_i" 1241 (.int (-1) 1232), kD P "result" 1243 (.int 2 1233)] 3
noncomputable def o454 (P : Params) : Obj := ⟨(.ref 220), (some 453), .plain, [].toArray⟩
noncomputable def o455 : Obj := qR [kD P "self" 1234 (.ref 454), kD P "s" 1235 (.str "iciti" 1230), kD P "substring_i" 1236 (.int (-1) 1232), kD P "result" 1237 (.int 2 1233)] 4
noncomputable def o456 : Obj := qD [kD P "s" 1253 (.str "ical" 1244), kD P "substring_i" 1255 (.int (-1) 1246), kD P "result" 1257 (.int 2 1247)] 3
noncomputable def o457 (P : Params) : Obj := ⟨(.ref 220), (some 456), .plain, [].toArray⟩
noncomputable def o458 : Obj := qR [kD P "self" 1248 (.ref 457), kD P "s" 1249 (.str "ical" 1244), kD P "substring_i" 1250 (.int (-1) 1246), kD P "result" 1251 (.int 2 1247)] 4
noncomputable def o459 : Obj := qD [kD P "s" 1267 (.str "ful" 1258), kD P "substring_i" 1269 (.int (-1) 1260), kD P "result" 1271 (.int 3 1261)] 3
noncomputable def o460 (P : Params) : Obj := ⟨(.ref 220), (some 459), .plain, [].toArray⟩
noncomputable def o461 : Obj := qR [kD P "self" 1262 (.ref 460), kD P "s" 1263 (.str "ful" 1258), kD P "substring_i" 1264 (.int (-1) 1260), kD P "result" 1265 (.int 3 1261)] 4
noncomputable def o462 : Obj := qD [kD P "s" 1281 (.str "ness" 1272), kD P "substring_i" 1283 (.int (-1) 1274), kD P "result" 1285 (.int 3 1275)] 3
noncomputable def o463 (P : Params) : Obj := ⟨(.ref 220), (some 462), .plain, [].toArray⟩
noncomputable def o464 : Obj := qR [kD P "self" 1276 (.ref 463), kD P "s" 1277 (.str "ness" 1272), kD P "substring_i" 1278 (.int (-1) 1274), kD P "result" 1279 (.int 3 1275)] 4
noncomputable def o465 (P : Params) : Obj := ⟨(.type "list"), none, (.seq [.ref 445, .ref 448, .ref 451, .ref 454, .ref 457, .ref 460, .ref 463].toArray 0), [].toArray⟩
noncomputable def o466 (P : Params) : Obj := qT [.str "al" 1287, .str "ic" 1288, .str "" 1289]
noncomputable def o467 : Obj := qD [kD P "s" 1300 (.str "ic" 1291), kD P "substring_i" 1302 (.int (-1) 1293), kD P "result" 1304 (.int 1 1294)] 3
noncomputable def o468 (P : Params) : Obj := ⟨(.ref 220), (some 467), .plain, [].toArray⟩
noncomputable def o469 : Obj := qR [kD P "self" 1295 (.ref 468), kD P "s" 1296 (.str "ic" 1291), kD P "substring_i" 1297 (.int (-1) 1293), kD P "result" 1298 (.int 1 1294)] 4
noncomputable def o470 : Obj := qD [kD P "s" 1314 (.str "ance" 1305), kD P "substring_i" 1316 (.int (-1) 1307), kD P "result" 1318 (.int 1 1308)] 3
noncomputable def o471 (P : Params) : Obj := ⟨(.ref 220), (some 470), .plain, [].toArray⟩
noncomputable def o472 : Obj := qR [kD P "self" 1309 (.ref 471), kD P "s" 1310 (.str "ance" 1305), kD P "substring_i" 1311 (.int (-1) 1307), kD P "result" 1312 (.int 1 1308)] 4
noncomputable def o473 : Obj := qD [kD P "s" 1328 (.str "ence" 1319), kD P "substring_i" 1330 (.int (-1) 1321), kD P "result" 1332 (.int 1 1322)] 3
noncomputable def o474 (P : Params) : Obj := ⟨(.ref 220), (some 473), .plain, [].toArray⟩
noncomputable def o475 : Obj := qR [kD P "self" 1323 (.ref 474), kD P "s" 1324 (.str "ence" 1319), kD P "substring_i" 1325 (.int (-1) 1321), kD P "result" 1326 (.int 1 1322)] 4
noncomputable def o476 : Obj := qD [kD P "s" 1342 (.str "able" 1333), kD P "substring_i" 1344 (.int (-1) 1335), kD P "result" 1346 (.int 1 1336)] 3
noncomputable def o477 (P : Params) : Obj := ⟨(.ref 220), (some 476), .plain, [].toArray⟩
noncomputable def o478 : Obj := qR [kD P "self" 1337 (.ref 477), kD P "s" 1338 (.str "able" 1333), kD P "substring_i" 1339 (.int (-1) 1335), kD P "result" 1340 (.int 1 1336)] 4
noncomputable def o479 : Obj := qD [kD P "s" 1356 (.str "ible" 1347), kD P "substring_i" 1358 (.int (-1) 1349), kD P "result" 1360 (.int 1 1350)] 3
noncomputable def o480 (P : Params) : Obj := ⟨(.ref 220), (some 479), .plain, [].toArray⟩
noncomputable def o481 : Obj := qR [kD P "self" 1351 (.ref 480), kD P "s" 1352 (.str "ible" 1347), kD P "substring_i" 1353 (.int (-1) 1349), kD P "result" 1354 (.int 1 1350)] 4
noncomputable def o482 : Obj := qD [kD P "s" 1370 (.str "ate" 1361), kD P "substring_i" 1372 (.int (-1) 1363), kD P "result" 1374 (.int 1 1364)] 3
noncomputable def o483 (P : Params) : Obj := ⟨(.ref 220), (some 482), .plain, [].toArray⟩
noncomputable def o484 : Obj := qR [kD P "self" 1365 (.ref 483), kD P "s" 1366 (.str "ate" 1361), kD P "substring_i" 1367 (.int (-1) 1363), kD P "result" 1368 (.int 1 1364)] 4
noncomputable def o485 : Obj := qD [kD P "s" 1384 (.str "ive" 1375), kD P "substring_i" 1386 (.int (-1) 1377), kD P "result" 1388 (.int 1 1378)] 3
noncomputable def o486 (P : Params) : Obj := ⟨(.ref 220), (some 485), .plain, [].toArray⟩
noncomputable def o487 : Obj := qR [kD P "self" 1379 (.ref 486), kD P "s" 1380 (.str "ive" 1375), kD P "substring_i" 1381 (.int (-1) 1377), kD P "result" 1382 (.int 1 1378)] 4
noncomputable def o488 : Obj := qD [kD P "s" 1398 (.str "ize" 1389), kD P "substring_i" 1400 (.int (-1) 1391), kD P "result" 1402 (.int 1 1392)] 3
noncomputable def o489 (P : Params) : Obj := ⟨(.ref 220), (some 488), .plain, [].toArray⟩
noncomputable def o490 : Obj := qR [kD P "self" 1393 (.ref 489), kD P "s" 1394 (.str "ize" 1389), kD P "substring_i" 1395 (.int (-1) 1391), kD P "result" 1396 (.int 1 1392)] 4
noncomputable def o491 : Obj := qD [kD P "s" 1412 (.str "iti" 1403), kD P "substring_i" 1414 (.int (-1) 1405), kD P "result" 1416 (.int 1 1406)] 3
noncomputable def o492 (P : Params) : Obj := ⟨(.ref 220), (some 491), .plain, [].toArray⟩
noncomputable def o493 : Obj := qR [kD P "self" 1407 (.ref 492), kD P "s" 1408 (.str "iti" 1403), kD P "substring_i" 1409 (.int (-1) 1405), kD P "result" 1410 (.int 1 1406)] 4
noncomputable def o494 : Obj := qD [kD P "s" 1426 (.str "al" 1417), kD P "substring_i" 1428 (.int (-1) 1419), kD P "result" 1430 (.int 1 1420)] 3
noncomputable def o495 (P : Params) : Obj := ⟨(.ref 220), (some 494), .plain, [].toArray⟩
noncomputable def o496 : Obj := qR [kD P "self" 1421 (.ref 495), kD P "s" 1422 (.str "al" 1417), kD P "substring_i" 1423 (.int (-1) 1419), kD P "result" 1424 (.int 1 1420)] 4
noncomputable def o497 : Obj := qD [kD P "s" 1440 (.str "ism" 1431), kD P "substring_i" 1442 (.int (-1) 1433), kD P "result" 1444 (.int 1 1434)] 3
noncomputable def o498 (P : Params) : Obj := ⟨(.ref 220), (some 497), .plain, [].toArray⟩
noncomputable def o499 : Obj := qR [kD P "self" 1435 (.ref 498), kD P "s" 1436 (.str "ism" 1431), kD P "substring_i" 1437 (.int (-1) 1433), kD P "result" 1438 (.int 1 1434)] 4
noncomputable def o500 : Obj := qD [kD P "s" 1454 (.str "ion" 1445), kD P "substring_i" 1456 (.int (-1) 1447), kD P "result" 1458 (.int 2 1448)] 3
noncomputable def o501 (P : Params) : Obj := ⟨(.ref 220), (some 500), .plain, [].toArray⟩
noncomputable def o502 : Obj := qR [kD P "self" 1449 (.ref 501), kD P "s" 1450 (.str "ion" 1445), kD P "substring_i" 1451 (.int (-1) 1447), kD P "result" 1452 (.int 2 1448)] 4
noncomputable def o503 : Obj := qD [kD P "s" 1468 (.str "er" 1459), kD P "substring_i" 1470 (.int (-1) 1461), kD P "result" 1472 (.int 1 1462)] 3
noncomputable def o504 (P : Params) : Obj := ⟨(.ref 220), (some 503), .plain, [].toArray⟩
noncomputable def o505 : Obj := qR [kD P "self" 1463 (.ref 504), kD P "s" 1464 (.str "er" 1459), kD P "substring_i" 1465 (.int (-1) 1461), kD P "result" 1466 (.int 1 1462)] 4
noncomputable def o506 : Obj := qD [kD P "s" 1482 (.str "ous" 1473), kD P "substring_i" 1484 (.int (-1) 1475), kD P "result" 1486 (.int 1 1476)] 3
noncomputable def o507 (P : Params) : Obj := ⟨(.ref 220), (some 506), .plain, [].toArray⟩
noncomputable def o508 : Obj := qR [kD P "self" 1477 (.ref 507), kD P "s" 1478 (.str "ous" 1473), kD P "substring_i" 1479 (.int (-1) 1475), kD P "result" 1480 (.int 1 1476)] 4
noncomputable def o509 : Obj := qD [kD P "s" 1496 (.str "ant" 1487), kD P "substring_i" 1498 (.int (-1) 1489), kD P "result" 1500 (.int 1 1490)] 3
noncomputable def o510 (P : Params) : Obj := ⟨(.ref 220), (some 509), .plain, [].toArray⟩
noncomputable def o511 : Obj := qR [kD P "self" 1491 (.ref 510), kD P "s" 1492 (.str "ant" 1487), kD P "substring_i" 1493 (.int (-1) 1489), kD P "result" 1494 (.int 1 1490)] 4
noncomputable def o512 : Obj := qD [kD P "s" 1510 (.str "ent" 1501), kD P "substring_i" 1512 (.int (-1) 1503), kD P "result" 1514 (.int 1 1504)] 3
noncomputable def o513 (P : Params) : Obj := ⟨(.ref 220), (some 512), .plain, [].toArray⟩
noncomputable def o514 : Obj := qR [kD P "self" 1505 (.ref 513), kD P "s" 1506 (.str "ent" 1501), kD P "substring_i" 1507 (.int (-1) 1503), kD P "result" 1508 (.int 1 1504)] 4
noncomputable def o515 : Obj := qD [kD P "s" 1523 (.str "ment" 1515), kD P "substring_i" 1525 (.int 15 1516), kD P "result" 1527 (.int 1 1517)] 3
noncomputable def o516 (P : Params) : Obj := ⟨(.ref 220), (some 515), .plain, [].toArray⟩
noncomputable def o517 : Obj := qR [kD P "self" 1518 (.ref 516), kD P "s" 1519 (.str "ment" 1515), kD P "substring_i" 1520 (.int 15 1516), kD P "result" 1521 (.int 1 1517)] 4
noncomputable def o518 : Obj := qD [kD P "s" 1536 (.str "ement" 1528), kD P "substring_i" 1538 (.int 16 1529), kD P "result" 1540 (.int 1 1530)] 3
noncomputable def o519 (P : Params) : Obj := ⟨(.ref 220), (some 518), .plain, [].toArray⟩
noncomputable def o520 : Obj := qR [kD P "self" 1531 (.ref 519), kD P "s" 1532 (.str "ement" 1528), kD P "substring_i" 1533 (.int 16 1529), kD P "result" 1534 (.int 1 1530)] 4
noncomputable def o521 : Obj := qD [kD P "s" 1550 (.str "ou" 1541), kD P "substring_i" 1552 (.int (-1) 1543), kD P "result" 1554 (.int 1 1544)] 3
noncomputable def o522 (P : Params) : Obj := ⟨(.ref 220), (some 521), .plain, [].toArray⟩
noncomputable def o523 : Obj := qR [kD P "self" 1545 (.ref 522), kD P "s" 1546 (.str "ou" 1541), kD P "substring_i" 1547 (.int (-1) 1543), kD P "result" 1548 (.int 1 1544)] 4
noncomputable def o524 (P : Params) : Obj := ⟨(.type "list"), none, (.seq [.ref 468, .ref 471, .ref 474, .ref 477, .ref 480, .ref 483, .ref 486, .ref 489, .ref 492, .ref 495, .ref 498, .ref 501, .ref 504, .ref 507, .ref 510, .ref 513, .ref 516, .ref 519, .ref 522].toArray 0), [].toArray⟩
noncomputable def o525 (P : Params) : Obj := qT [.str "I_p1" 1556, .str "I_p2" 1557, .str "bra" 1558, .str "cursor" 1559, .str "ket" 1560, .str "limit_backward" 1561]
noncomputable def o526 : Obj := qD [kD P "__module__" 471 (.str "snowballstemmer.porter_stemmer" 462), kD P "__firstlineno__" 475 (.int 178 474), kD P "g_v" 488 (.ref 232), kD P "g_v_WXY" 507 (.ref 233), kD P "I_p2" 509 (.int 0 508), kD P "I_p1" 511 (.int 0 510), kD P "r_shortv" 518 (.ref 240), kD P "r_R1" 525 (.ref 247), kD P "r_R2" 532 (.ref 254), kD P "r_Step_1a" 540 (.ref 261), kD P "r_Step_1b" 552 (.ref 268), kD P "r_Step_1c" 559 (.ref 275), kD P "r_Step_2" 567 (.ref 282), kD P "r_Step_3" 575 (.ref 289), kD P "r_Step_4" 583 (.ref 296), kD P "r_Step_5a" 591 (.ref 303), kD P "r_Step_5b" 598 (.ref 310), kD P "_stem" 622 (.ref 317), kD P "a_0" 677 (.ref 330), kD P "as_0" 681 (.ref 331), kD P "a_1" 852 (.ref 371), kD P "a_2" 894 (.ref 381), kD P "a_3" 1173 (.ref 442), kD P "as_3" 1187 (.ref 443), kD P "a_4" 1286 (.ref 465), kD P "as_4" 1290 (.ref 466), kD P "a_5" 1555 (.ref 524), kD P "__static_attributes__" 1562 (.ref 525), kD P "__doc__" 1563 .none] 2
noncomputable def o527 (P : Params) : Obj := ⟨(.type "type"), none, (.cls { name := "PorterStemmer", bases := [.ref 199], mro := [.ref 527, .ref 199, .type "object"], ns := 526, qualname := "PorterStemmer", hasDict := true, slotNames := [], subclasses := [], abstract := false, collection := none, hasDel := false }), [(some (.ref 225)), none, (some (.str "PorterStemmer" 464)), (some (.str "PorterStemmer" 472)), (some (.builtin "object.__new__")), (some (.bool true))].toArray⟩
noncomputable def o528 (P : Params) : Obj := ⟨(.type "super"), none, (.fields [.ref 527, .ref 527, .ref 527].toArray), [].toArray⟩
noncomputable def o529 (P : Params) : Obj := qB [.builtin "object.__init_subclass__", .ref 527]
noncomputable def o530 (P : Params) : Obj := qT [.type "Exception"]
noncomputable def o531 : Obj := o23 P
noncomputable def o532 : Obj := qD [kD P "__module__" 1573 (.str "snowballstemmer.porter_stemmer" 462), kD P "__qualname__" 1575 (.str "lab0" 1574), kD P "__firstlineno__" 1577 (.int 497 1576), kD P "__static_attributes__" 1578 (.ref 537)] 4
noncomputable def o533 : Obj := o11 P
noncomputable def o534 : Obj := o16 P
noncomputable def o535 (P : Params) : Obj := qC [.str "lab0" 1568, .str "lab0" 1569, .str "/claim/cut.py" 1570, .int 497 0, .int 0 0, .int 0 0, .int 0 0, .int 0 0, .ref 533, .bool false, .int 181 0, .ref 534, .none, .none, .none, .none, .int 1571 0, .int 497 0, .str "/claim/cut.py" 1572]
noncomputable def o536 (P : Params) : Obj := ⟨(.type "frame"), none, .plain, [(some (.ref 535)), (some (.ref 3)), (some (.ref 532)), none, (some (.str "snowballstemmer.porter_stemmer" 462)), none, (some (.ref 0))].toArray⟩
noncomputable def o537 : Obj := o11 P
noncomputable def o538 : Obj := qD [kD P "__module__" 1573 (.str "snowballstemmer.porter_stemmer" 462), kD P "__firstlineno__" 1577 (.int 497 1576), kD P "__static_attributes__" 1578 (.ref 537), kD P "__weakref__" 1580 (.ref 540), kD P "__doc__" 1581 .none] 3
noncomputable def o539 (P : Params) : Obj := ⟨(.type "type"), none, (.cls { name := "lab0", bases := [.type "Exception"], mro := [.ref 539, .type "Exception", .type "BaseException", .type "object"], ns := 538, qualname := "lab0", hasDict := true, slotNames := [], subclasses := [], abstract := false, collection := none, hasDel := false }), [(some (.ref 530)), none, (some (.str "lab0" 1566)), (some (.str "lab0" 1574)), (some (.builtin "Exception.__new__")), (some (.bool true))].toArray⟩
noncomputable def o540 (P : Params) : Obj := ⟨(.type "getset_descriptor"), none, (.fields [.str "__weakref__" 1579, .ref 539, .builtin "ExceptionGroup.__weakref__", .none].toArray), [].toArray⟩
noncomputable def o541 (P : Params) : Obj := ⟨(.type "super"), none, (.fields [.ref 539, .ref 539, .ref 539].toArray), [].toArray⟩
noncomputable def o542 (P : Params) : Obj := qB [.builtin "object.__init_subclass__", .ref 539]
noncomputable def o543 : Obj := o530 P
noncomputable def o544 : Obj := o23 P
noncomputable def o545 : Obj := qD [kD P "__module__" 1593 (.str "snowballstemmer.porter_stemmer" 462), kD P "__qualname__" 1595 (.str "lab1" 1594), kD P "__firstlineno__" 1597 (.int 499 1596), kD P "__static_attributes__" 1598 (.ref 550)] 4
noncomputable def o546 : Obj := o11 P
noncomputable def o547 : Obj := o16 P
noncomputable def o548 (P : Params) : Obj := qC [.str "lab1" 1588, .str "lab1" 1589, .str "/claim/cut.py" 1590, .int 499 0, .int 0 0, .int 0 0, .int 0 0, .int 0 0, .ref 546, .bool false, .int 181 0, .ref 547, .none, .none, .none, .none, .int 1591 0, .int 499 0, .str "/claim/cut.py" 1592]
noncomputable def o549 (P : Params) : Obj := ⟨(.type "frame"), none, .plain, [(some (.ref 548)), (some (.ref 3)), (some (.ref 545)), none, (some (.str "snowballstemmer.porter_stemmer" 462)), none, (some (.ref 0))].toArray⟩
noncomputable def o550 : Obj := o11 P
noncomputable def o551 : Obj := qD [kD P "__module__" 1593 (.str "snowballstemmer.porter_stemmer" 462), kD P "__firstlineno__" 1597 (.int 499 1596), kD P "__static_attributes__" 1598 (.ref 550), kD P "__weakref__" 1600 (.ref 553), kD P "__doc__" 1601 .none] 3
noncomputable def o552 (P : Params) : Obj := ⟨(.type "type"), none, (.cls { name := "lab1", bases := [.type "Exception"], mro := [.ref 552, .type "Exception", .type "BaseException", .type "object"], ns := 551, qualname := "lab1", hasDict := true, slotNames := [], subclasses := [], abstract := false, collection := none, hasDel := false }), [(some (.ref 543)), none, (some (.str "lab1" 1586)), (some (.str "lab1" 1594)), (some (.builtin "Exception.__new__")), (some (.bool true))].toArray⟩
noncomputable def o553 (P : Params) : Obj := ⟨(.type "getset_descriptor"), none, (.fields [.str "__weakref__" 1599, .ref 552, .builtin "ExceptionGroup.__weakref__", .none].toArray), [].toArray⟩
noncomputable def o554 (P : Params) : Obj := ⟨(.type "super"), none, (.fields [.ref 552, .ref 552, .ref 552].toArray), [].toArray⟩
noncomputable def o555 (P : Params) : Obj := qB [.builtin "object.__init_subclass__", .ref 552]
noncomputable def o556 : Obj := o530 P
noncomputable def o557 : Obj := o23 P
noncomputable def o558 : Obj := qD [kD P "__module__" 1613 (.str "snowballstemmer.porter_stemmer" 462), kD P "__qualname__" 1615 (.str "lab2" 1614), kD P "__firstlineno__" 1617 (.int 501 1616), kD P "__static_attributes__" 1618 (.ref 563)] 4
noncomputable def o559 : Obj := o11 P
noncomputable def o560 : Obj := o16 P
noncomputable def o561 (P : Params) : Obj := qC [.str "lab2" 1608, .str "lab2" 1609, .str "/claim/cut.py" 1610, .int 501 0, .int 0 0, .int 0 0, .int 0 0, .int 0 0, .ref 559, .bool false, .int 181 0, .ref 560, .none, .none, .none, .none, .int 1611 0, .int 501 0, .str "/claim/cut.py" 1612]
noncomputable def o562 (P : Params) : Obj := ⟨(.type "frame"), none, .plain, [(some (.ref 561)), (some (.ref 3)), (some (.ref 558)), none, (some (.str "snowballstemmer.porter_stemmer" 462)), none, (some (.ref 0))].toArray⟩
noncomputable def o563 : Obj := o11 P
noncomputable def o564 : Obj := qD [kD P "__module__" 1613 (.str "snowballstemmer.porter_stemmer" 462), kD P "__firstlineno__" 1617 (.int 501 1616), kD P "__static_attributes__" 1618 (.ref 563), kD P "__weakref__" 1620 (.ref 566), kD P "__doc__" 1621 .none] 3
noncomputable def o565 (P : Params) : Obj := ⟨(.type "type"), none, (.cls { name := "lab2", bases := [.type "Exception"], mro := [.ref 565, .type "Exception", .type "BaseException", .type "object"], ns := 564, qualname := "lab2", hasDict := true, slotNames := [], subclasses := [], abstract := false, collection := none, hasDel := false }), [(some (.ref 556)), none, (some (.str "lab2" 1606)), (some (.str "lab2" 1614)), (some (.builtin "Exception.__new__")), (some (.bool true))].toArray⟩
noncomputable def o566 (P : Params) : Obj := ⟨(.type "getset_descriptor"), none, (.fields [.str "__weakref__" 1619, .ref 565, .builtin "ExceptionGroup.__weakref__", .none].toArray), [].toArray⟩
noncomputable def o567 (P : Params) : Obj := ⟨(.type "super"), none, (.fields [.ref 565, .ref 565, .ref 565].toArray), [].toArray⟩
noncomputable def o568 (P : Params) : Obj := qB [.builtin "object.__init_subclass__", .ref 565]
noncomputable def o569 : Obj := o11 P
noncomputable def o570 : Obj := o16 P
noncomputable def o571 : Obj := o11 P
noncomputable def o572 : Obj := o11 P
noncomputable def o573 (P : Params) : Obj := qG "_law_ends" "_law_ends" (fnAt 12 0)
noncomputable def o574 (P : Params) : Obj := qC [.str "_law_ends" 1630, .str "_law_ends" 1631, .str "/claim/cut.py" 1632, .int 505 0, .int 0 0, .int 0 0, .int 0 0, .int 3 0, .ref 569, .bool true, .int 181 0, .ref 570, .none, .ref 571, .ref 572, .ref 573, .int 1633 0, .int 505 0, .str "/claim/cut.py" 1634]
noncomputable def o575 (P : Params) : Obj := qF "_law_ends" "_law_ends" (fnAt 12 0) (.str "law_ii0001_01" 1626) (.ref 574)
noncomputable def o576 (P : Params) : Obj := qT [.str "tional" 1636, .str "tion" 1637]
noncomputable def o577 (P : Params) : Obj := qT [.str "enci" 1638, .str "ence" 1639]
noncomputable def o578 (P : Params) : Obj := qT [.str "anci" 1640, .str "ance" 1641]
noncomputable def o579 (P : Params) : Obj := qT [.str "abli" 1642, .str "able" 1643]
noncomputable def o580 (P : Params) : Obj := qT [.str "entli" 1644, .str "ent" 1645]
noncomputable def o581 (P : Params) : Obj := qT [.str "eli" 1646, .str "e" 1647]
noncomputable def o582 (P : Params) : Obj := qT [.str "izer" 1648, .str "ize" 1649]
noncomputable def o583 (P : Params) : Obj := qT [.str "ization" 1650, .str "ize" 1651]
noncomputable def o584 (P : Params) : Obj := qT [.str "ational" 1652, .str "ate" 1653]
noncomputable def o585 (P : Params) : Obj := qT [.str "ation" 1654, .str "ate" 1655]
noncomputable def o586 (P : Params) : Obj := qT [.str "ator" 1656, .str "ate" 1657]
noncomputable def o587 (P : Params) : Obj := qT [.str "alism" 1658, .str "al" 1659]
noncomputable def o588 (P : Params) : Obj := qT [.str "aliti" 1660, .str "al" 1661]
noncomputable def o589 (P : Params) : Obj := qT [.str "alli" 1662, .str "al" 1663]
noncomputable def o590 (P : Params) : Obj := qT [.str "fulness" 1664, .str "ful" 1665]
noncomputable def o591 (P : Params) : Obj := qT [.str "ousli" 1666, .str "ous" 1667]
noncomputable def o592 (P : Params) : Obj := qT [.str "ousness" 1668, .str "ous" 1669]
noncomputable def o593 (P : Params) : Obj := qT [.str "iveness" 1670, .str "ive" 1671]
noncomputable def o594 (P : Params) : Obj := qT [.str "iviti" 1672, .str "ive" 1673]
noncomputable def o595 (P : Params) : Obj := qT [.str "biliti" 1674, .str "ble" 1675]
noncomputable def o596 (P : Params) : Obj := ⟨(.type "list"), none, (.seq [.ref 576, .ref 577, .ref 578, .ref 579, .ref 580, .ref 581, .ref 582, .ref 583, .ref 584, .ref 585, .ref 586, .ref 587, .ref 588, .ref 589, .ref 590, .ref 591, .ref 592, .ref 593, .ref 594, .ref 595].toArray 0), [].toArray⟩
noncomputable def o597 (P : Params) : Obj := qT [.str "icate" 1677, .str "ic" 1678]
noncomputable def o598 (P : Params) : Obj := qT [.str "ative" 1679, .str "" 1680]
noncomputable def o599 (P : Params) : Obj := qT [.str "alize" 1681, .str "al" 1682]
noncomputable def o600 (P : Params) : Obj := qT [.str "iciti" 1683, .str "ic" 1684]
noncomputable def o601 (P : Params) : Obj := qT [.str "ical" 1685, .str "ic" 1686]
noncomputable def o602 (P : Params) : Obj := qT [.str "ful" 1687, .str "" 1688]
noncomputable def o603 (P : Params) : Obj := qT [.str "ness" 1689, .str "" 1690]
noncomputable def o604 (P : Params) : Obj := ⟨(.type "list"), none, (.seq [.ref 597, .ref 598, .ref 599, .ref 600, .ref 601, .ref 602, .ref 603].toArray 0), [].toArray⟩
noncomputable def o605 (P : Params) : Obj := ⟨(.type "list"), none, (.seq [.str "al" 1692, .str "ance" 1693, .str "ence" 1694, .str "er" 1695, .str "ic" 1696, .str "able" 1697, .str "ible" 1698, .str "ant" 1699, .str "ement" 1700, .str "ment" 1701, .str "ent" 1702, .str "ou" 1703, .str "ism" 1704, .str "ate" 1705, .str "iti" 1706, .str "ous" 1707, .str "ive" 1708, .str "ize" 1709, .str "ion" 1710].toArray 0), [].toArray⟩
noncomputable def o606 : Obj := o11 P
noncomputable def o607 : Obj := o16 P
noncomputable def o608 (P : Params) : Obj := qT [.str "sign" 1715]
noncomputable def o609 : Obj := o11 P
noncomputable def o610 (P : Params) : Obj := qG "_law_vowel" "_law_vowel" (fnAt 16 0)
noncomputable def o611 (P : Params) : Obj := qC [.str "_law_vowel" 1712, .str "_law_vowel" 1713, .str "/claim/cut.py" 1714, .int 510 0, .int 1 0, .int 0 0, .int 0 0, .int 3 0, .ref 606, .bool true, .int 181 0, .ref 607, .none, .ref 608, .ref 609, .ref 610, .int 1716 0, .int 510 0, .str "/claim/cut.py" 1717]
noncomputable def o612 (P : Params) : Obj := qF "_law_vowel" "_law_vowel" (fnAt 16 0) (.str "law_ii0001_01" 1626) (.ref 611)
noncomputable def o613 : Obj := o11 P
noncomputable def o614 : Obj := o16 P
noncomputable def o615 (P : Params) : Obj := qT [.str "word" 1722, .str "place" 1723, .str "vowel" 1724]
noncomputable def o616 : Obj := o11 P
noncomputable def o617 (P : Params) : Obj := qG "_law_past" "_law_past" (fnAt 17 0)
noncomputable def o618 (P : Params) : Obj := qC [.str "_law_past" 1719, .str "_law_past" 1720, .str "/claim/cut.py" 1721, .int 512 0, .int 3 0, .int 0 0, .int 0 0, .int 3 0, .ref 613, .bool true, .int 181 0, .ref 614, .none, .ref 615, .ref 616, .ref 617, .int 1725 0, .int 512 0, .str "/claim/cut.py" 1726]
noncomputable def o619 (P : Params) : Obj := qF "_law_past" "_law_past" (fnAt 17 0) (.str "law_ii0001_01" 1626) (.ref 618)
noncomputable def o620 : Obj := o11 P
noncomputable def o621 : Obj := o16 P
noncomputable def o622 (P : Params) : Obj := qT [.str "word" 1731, .str "place" 1732, .str "first" 1733]
noncomputable def o623 : Obj := o11 P
noncomputable def o624 (P : Params) : Obj := qG "_law_region" "_law_region" (fnAt 18 0)
noncomputable def o625 (P : Params) : Obj := qC [.str "_law_region" 1728, .str "_law_region" 1729, .str "/claim/cut.py" 1730, .int 516 0, .int 2 0, .int 0 0, .int 0 0, .int 3 0, .ref 620, .bool true, .int 181 0, .ref 621, .none, .ref 622, .ref 623, .ref 624, .int 1734 0, .int 516 0, .str "/claim/cut.py" 1735]
noncomputable def o626 (P : Params) : Obj := qF "_law_region" "_law_region" (fnAt 18 0) (.str "law_ii0001_01" 1626) (.ref 625)
noncomputable def o627 : Obj := o11 P
noncomputable def o628 : Obj := o16 P
noncomputable def o629 (P : Params) : Obj := qT [.str "word" 1740, .str "ends" 1741, .str "found" 1742, .str "end" 1743]
noncomputable def o630 : Obj := o11 P
noncomputable def o631 (P : Params) : Obj := qG "_law_end" "_law_end" (fnAt 19 0)
noncomputable def o632 (P : Params) : Obj := qC [.str "_law_end" 1737, .str "_law_end" 1738, .str "/claim/cut.py" 1739, .int 519 0, .int 2 0, .int 0 0, .int 0 0, .int 3 0, .ref 627, .bool true, .int 181 0, .ref 628, .none, .ref 629, .ref 630, .ref 631, .int 1744 0, .int 519 0, .str "/claim/cut.py" 1745]
noncomputable def o633 (P : Params) : Obj := qF "_law_end" "_law_end" (fnAt 19 0) (.str "law_ii0001_01" 1626) (.ref 632)
noncomputable def o634 : Obj := o11 P
noncomputable def o635 : Obj := o16 P
noncomputable def o636 (P : Params) : Obj := qT [.str "word" 1750, .str "a" 1751, .str "b" 1752, .str "c" 1753]
noncomputable def o637 : Obj := o11 P
noncomputable def o638 (P : Params) : Obj := qG "_law_short" "_law_short" (fnAt 20 0)
noncomputable def o639 (P : Params) : Obj := qC [.str "_law_short" 1747, .str "_law_short" 1748, .str "/claim/cut.py" 1749, .int 525 0, .int 1 0, .int 0 0, .int 0 0, .int 3 0, .ref 634, .bool true, .int 181 0, .ref 635, .none, .ref 636, .ref 637, .ref 638, .int 1754 0, .int 525 0, .str "/claim/cut.py" 1755]
noncomputable def o640 (P : Params) : Obj := qF "_law_short" "_law_short" (fnAt 20 0) (.str "law_ii0001_01" 1626) (.ref 639)
noncomputable def o641 : Obj := o11 P
noncomputable def o642 : Obj := o16 P
noncomputable def o643 (P : Params) : Obj := qG "_law_rows" "_law_rows" (fnAt 21 0)
noncomputable def o644 (P : Params) : Obj := qC [.str "_law_rows" 1757, .str "_law_rows" 1758, .str "/claim/cut.py" 1759, .int 530 0, .int 3 0, .int 0 0, .int 0 0, .int 3 0, .ref 641, .bool true, .int 181 0, .ref 642, .none, .none, .none, .ref 643, .int 1760 0, .int 530 0, .str "/claim/cut.py" 1761]
noncomputable def o645 (P : Params) : Obj := qF "_law_rows" "_law_rows" (fnAt 21 0) (.str "law_ii0001_01" 1626) (.ref 644)
noncomputable def o646 : Obj := o11 P
noncomputable def o647 : Obj := o16 P
noncomputable def o648 (P : Params) : Obj := qG "_law_stem" "_law_stem" (fnAt 22 0)
noncomputable def o649 (P : Params) : Obj := qC [.str "_law_stem" 1763, .str "_law_stem" 1764, .str "/claim/cut.py" 1765, .int 535 0, .int 1 0, .int 0 0, .int 0 0, .int 3 0, .ref 646, .bool true, .int 181 0, .ref 647, .none, .none, .none, .ref 648, .int 1766 0, .int 535 0, .str "/claim/cut.py" 1767]
noncomputable def o650 (P : Params) : Obj := qF "_law_stem" "_law_stem" (fnAt 22 0) (.str "law_ii0001_01" 1626) (.ref 649)
noncomputable def o651 : Obj := o11 P
noncomputable def o652 : Obj := o16 P
noncomputable def o653 (P : Params) : Obj := qT [.str "script" 1772, .str "word" 1773, .str "number" 1774, .str "k" 1775]
noncomputable def o654 : Obj := o11 P
noncomputable def o655 (P : Params) : Obj := qG "law" "law" (fnAt 23 0)
noncomputable def o656 (P : Params) : Obj := qC [.str "law" 1769, .str "law" 1770, .str "/claim/cut.py" 1771, .int 581 0, .int 1 0, .int 0 0, .int 0 0, .int 3 0, .ref 651, .bool true, .int 181 0, .ref 652, .none, .ref 653, .ref 654, .ref 655, .int 1776 0, .int 581 0, .str "/claim/cut.py" 1777]
noncomputable def o657 (P : Params) : Obj := qF "law" "law" (fnAt 23 0) (.str "law_ii0001_01" 1626) (.ref 656)
noncomputable def tr (P : Params) (g v : Obj) : BT := (.node (o0 P) (.node (o1 P) (.node (o3 P) (.node (o7 P) (.node (o15 P) (.node (o31 P) (.node (o63 P) (.node (o127 P) (.node (o255 P) (.node (o511 P) .nil .nil) .nil) (.node (o383 P) (.node (o639 P) .nil .nil) .nil)) (.node (o191 P) (.node (o319 P) (.node (o575 P) .nil .nil) .nil) (.node (o447 P) .nil .nil))) (.node (o95 P) (.node (o159 P) (.node (o287 P) (.node (o543 P) .nil .nil) .nil) (.node (o415 P) .nil .nil)) (.node (o223 P) (.node (o351 P) (.node (o607 P) .nil .nil) .nil) (.node (o479 P) .nil .nil)))) (.node (o47 P) (.node (o79 P) (.node (o143 P) (.node (o271 P) (.node (o527 P) .nil .nil) .nil) (.node (o399 P) (.node (o655 P) .nil .nil) .nil)) (.node (o207 P) (.node (o335 P) (.node (o591 P) .nil .nil) .nil) (.node (o463 P) .nil .nil))) (.node (o111 P) (.node (o175 P) (.node (o303 P) (.node (o559 P) .nil .nil) .nil) (.node (o431 P) .nil .nil)) (.node (o239 P) (.node (o367 P) (.node (o623 P) .nil .nil) .nil) (.node (o495 P) .nil .nil))))) (.node (o23 P) (.node (o39 P) (.node (o71 P) (.node (o135 P) (.node (o263 P) (.node (o519 P) .nil .nil) .nil) (.node (o391 P) (.node (o647 P) .nil .nil) .nil)) (.node (o199 P) (.node (o327 P) (.node (o583 P) .nil .nil) .nil) (.node (o455 P) .nil .nil))) (.node (o103 P) (.node (o167 P) (.node (o295 P) (.node (o551 P) .nil .nil) .nil) (.node (o423 P) .nil .nil)) (.node (o231 P) (.node (o359 P) (.node (o615 P) .nil .nil) .nil) (.node (o487 P) .nil .nil)))) (.node (o55 P) (.node (o87 P) (.node (o151 P) (.node (o279 P) (.node (o535 P) .nil .nil) .nil) (.node (o407 P) .nil .nil)) (.node (o215 P) (.node (o343 P) (.node (o599 P) .nil .nil) .nil) (.node (o471 P) .nil .nil))) (.node (o119 P) (.node (o183 P) (.node (o311 P) (.node (o567 P) .nil .nil) .nil) (.node (o439 P) .nil .nil)) (.node (o247 P) (.node (o375 P) (.node (o631 P) .nil .nil) .nil) (.node (o503 P) .nil .nil)))))) (.node (o11 P) (.node (o19 P) (.node (o35 P) (.node (o67 P) (.node (o131 P) (.node (o259 P) (.node (o515 P) .nil .nil) .nil) (.node (o387 P) (.node (o643 P) .nil .nil) .nil)) (.node (o195 P) (.node (o323 P) (.node (o579 P) .nil .nil) .nil) (.node (o451 P) .nil .nil))) (.node (o99 P) (.node (o163 P) (.node (o291 P) (.node (o547 P) .nil .nil) .nil) (.node (o419 P) .nil .nil)) (.node (o227 P) (.node (o355 P) (.node (o611 P) .nil .nil) .nil) (.node (o483 P) .nil .nil)))) (.node (o51 P) (.node (o83 P) (.node (o147 P) (.node (o275 P) (.node (o531 P) .nil .nil) .nil) (.node (o403 P) .nil .nil)) (.node (o211 P) (.node (o339 P) (.node (o595 P) .nil .nil) .nil) (.node (o467 P) .nil .nil))) (.node (o115 P) (.node (o179 P) (.node (o307 P) (.node (o563 P) .nil .nil) .nil) (.node (o435 P) .nil .nil)) (.node (o243 P) (.node (o371 P) (.node (o627 P) .nil .nil) .nil) (.node (o499 P) .nil .nil))))) (.node (o27 P) (.node (o43 P) (.node (o75 P) (.node (o139 P) (.node (o267 P) (.node (o523 P) .nil .nil) .nil) (.node (o395 P) (.node (o651 P) .nil .nil) .nil)) (.node (o203 P) (.node (o331 P) (.node (o587 P) .nil .nil) .nil) (.node (o459 P) .nil .nil))) (.node (o107 P) (.node (o171 P) (.node (o299 P) (.node (o555 P) .nil .nil) .nil) (.node (o427 P) .nil .nil)) (.node (o235 P) (.node (o363 P) (.node (o619 P) .nil .nil) .nil) (.node (o491 P) .nil .nil)))) (.node (o59 P) (.node (o91 P) (.node (o155 P) (.node (o283 P) (.node (o539 P) .nil .nil) .nil) (.node (o411 P) .nil .nil)) (.node (o219 P) (.node (o347 P) (.node (o603 P) .nil .nil) .nil) (.node (o475 P) .nil .nil))) (.node (o123 P) (.node (o187 P) (.node (o315 P) (.node (o571 P) .nil .nil) .nil) (.node (o443 P) .nil .nil)) (.node (o251 P) (.node (o379 P) (.node (o635 P) .nil .nil) .nil) (.node (o507 P) .nil .nil))))))) (.node (o5 P) (.node (o9 P) (.node (o17 P) (.node (o33 P) (.node (o65 P) (.node (o129 P) (.node (o257 P) (.node (o513 P) .nil .nil) .nil) (.node (o385 P) (.node (o641 P) .nil .nil) .nil)) (.node (o193 P) (.node (o321 P) (.node (o577 P) .nil .nil) .nil) (.node (o449 P) .nil .nil))) (.node (o97 P) (.node (o161 P) (.node (o289 P) (.node (o545 P) .nil .nil) .nil) (.node (o417 P) .nil .nil)) (.node (o225 P) (.node (o353 P) (.node (o609 P) .nil .nil) .nil) (.node (o481 P) .nil .nil)))) (.node (o49 P) (.node (o81 P) (.node (o145 P) (.node (o273 P) (.node (o529 P) .nil .nil) .nil) (.node (o401 P) (.node (o657 P) .nil .nil) .nil)) (.node (o209 P) (.node (o337 P) (.node (o593 P) .nil .nil) .nil) (.node (o465 P) .nil .nil))) (.node (o113 P) (.node (o177 P) (.node (o305 P) (.node (o561 P) .nil .nil) .nil) (.node (o433 P) .nil .nil)) (.node (o241 P) (.node (o369 P) (.node (o625 P) .nil .nil) .nil) (.node (o497 P) .nil .nil))))) (.node (o25 P) (.node (o41 P) (.node (o73 P) (.node (o137 P) (.node (o265 P) (.node (o521 P) .nil .nil) .nil) (.node (o393 P) (.node (o649 P) .nil .nil) .nil)) (.node (o201 P) (.node (o329 P) (.node (o585 P) .nil .nil) .nil) (.node (o457 P) .nil .nil))) (.node (o105 P) (.node (o169 P) (.node (o297 P) (.node (o553 P) .nil .nil) .nil) (.node (o425 P) .nil .nil)) (.node v (.node (o361 P) (.node (o617 P) .nil .nil) .nil) (.node (o489 P) .nil .nil)))) (.node (o57 P) (.node (o89 P) (.node (o153 P) (.node (o281 P) (.node (o537 P) .nil .nil) .nil) (.node (o409 P) .nil .nil)) (.node (o217 P) (.node (o345 P) (.node (o601 P) .nil .nil) .nil) (.node (o473 P) .nil .nil))) (.node (o121 P) (.node (o185 P) (.node (o313 P) (.node (o569 P) .nil .nil) .nil) (.node (o441 P) .nil .nil)) (.node (o249 P) (.node (o377 P) (.node (o633 P) .nil .nil) .nil) (.node (o505 P) .nil .nil)))))) (.node (o13 P) (.node (o21 P) (.node (o37 P) (.node (o69 P) (.node (o133 P) (.node (o261 P) (.node (o517 P) .nil .nil) .nil) (.node (o389 P) (.node (o645 P) .nil .nil) .nil)) (.node (o197 P) (.node (o325 P) (.node (o581 P) .nil .nil) .nil) (.node (o453 P) .nil .nil))) (.node (o101 P) (.node (o165 P) (.node (o293 P) (.node (o549 P) .nil .nil) .nil) (.node (o421 P) .nil .nil)) (.node (o229 P) (.node (o357 P) (.node (o613 P) .nil .nil) .nil) (.node (o485 P) .nil .nil)))) (.node (o53 P) (.node (o85 P) (.node (o149 P) (.node (o277 P) (.node (o533 P) .nil .nil) .nil) (.node (o405 P) .nil .nil)) (.node (o213 P) (.node (o341 P) (.node (o597 P) .nil .nil) .nil) (.node (o469 P) .nil .nil))) (.node (o117 P) (.node (o181 P) (.node (o309 P) (.node (o565 P) .nil .nil) .nil) (.node (o437 P) .nil .nil)) (.node (o245 P) (.node (o373 P) (.node (o629 P) .nil .nil) .nil) (.node (o501 P) .nil .nil))))) (.node (o29 P) (.node (o45 P) (.node (o77 P) (.node (o141 P) (.node (o269 P) (.node (o525 P) .nil .nil) .nil) (.node (o397 P) (.node (o653 P) .nil .nil) .nil)) (.node (o205 P) (.node (o333 P) (.node (o589 P) .nil .nil) .nil) (.node (o461 P) .nil .nil))) (.node (o109 P) (.node (o173 P) (.node (o301 P) (.node (o557 P) .nil .nil) .nil) (.node (o429 P) .nil .nil)) (.node (o237 P) (.node (o365 P) (.node (o621 P) .nil .nil) .nil) (.node (o493 P) .nil .nil)))) (.node (o61 P) (.node (o93 P) (.node (o157 P) (.node (o285 P) (.node (o541 P) .nil .nil) .nil) (.node (o413 P) .nil .nil)) (.node (o221 P) (.node (o349 P) (.node (o605 P) .nil .nil) .nil) (.node (o477 P) .nil .nil))) (.node (o125 P) (.node (o189 P) (.node (o317 P) (.node (o573 P) .nil .nil) .nil) (.node (o445 P) .nil .nil)) (.node (o253 P) (.node (o381 P) (.node (o637 P) .nil .nil) .nil) (.node (o509 P) .nil .nil)))))))) (.node (o2 P) (.node (o4 P) (.node (o8 P) (.node (o16 P) (.node (o32 P) (.node (o64 P) (.node (o128 P) (.node (o256 P) (.node (o512 P) .nil .nil) .nil) (.node (o384 P) (.node (o640 P) .nil .nil) .nil)) (.node (o192 P) (.node (o320 P) (.node (o576 P) .nil .nil) .nil) (.node (o448 P) .nil .nil))) (.node (o96 P) (.node (o160 P) (.node (o288 P) (.node (o544 P) .nil .nil) .nil) (.node (o416 P) .nil .nil)) (.node (o224 P) (.node (o352 P) (.node (o608 P) .nil .nil) .nil) (.node (o480 P) .nil .nil)))) (.node (o48 P) (.node (o80 P) (.node (o144 P) (.node (o272 P) (.node (o528 P) .nil .nil) .nil) (.node (o400 P) (.node (o656 P) .nil .nil) .nil)) (.node (o208 P) (.node (o336 P) (.node (o592 P) .nil .nil) .nil) (.node (o464 P) .nil .nil))) (.node (o112 P) (.node (o176 P) (.node (o304 P) (.node (o560 P) .nil .nil) .nil) (.node (o432 P) .nil .nil)) (.node (o240 P) (.node (o368 P) (.node (o624 P) .nil .nil) .nil) (.node (o496 P) .nil .nil))))) (.node (o24 P) (.node (o40 P) (.node (o72 P) (.node (o136 P) (.node (o264 P) (.node (o520 P) .nil .nil) .nil) (.node (o392 P) (.node (o648 P) .nil .nil) .nil)) (.node (o200 P) (.node (o328 P) (.node (o584 P) .nil .nil) .nil) (.node (o456 P) .nil .nil))) (.node (o104 P) (.node (o168 P) (.node (o296 P) (.node (o552 P) .nil .nil) .nil) (.node (o424 P) .nil .nil)) (.node g (.node (o360 P) (.node (o616 P) .nil .nil) .nil) (.node (o488 P) .nil .nil)))) (.node (o56 P) (.node (o88 P) (.node (o152 P) (.node (o280 P) (.node (o536 P) .nil .nil) .nil) (.node (o408 P) .nil .nil)) (.node (o216 P) (.node (o344 P) (.node (o600 P) .nil .nil) .nil) (.node (o472 P) .nil .nil))) (.node (o120 P) (.node (o184 P) (.node (o312 P) (.node (o568 P) .nil .nil) .nil) (.node (o440 P) .nil .nil)) (.node (o248 P) (.node (o376 P) (.node (o632 P) .nil .nil) .nil) (.node (o504 P) .nil .nil)))))) (.node (o12 P) (.node (o20 P) (.node (o36 P) (.node (o68 P) (.node (o132 P) (.node (o260 P) (.node (o516 P) .nil .nil) .nil) (.node (o388 P) (.node (o644 P) .nil .nil) .nil)) (.node (o196 P) (.node (o324 P) (.node (o580 P) .nil .nil) .nil) (.node (o452 P) .nil .nil))) (.node (o100 P) (.node (o164 P) (.node (o292 P) (.node (o548 P) .nil .nil) .nil) (.node (o420 P) .nil .nil)) (.node (o228 P) (.node (o356 P) (.node (o612 P) .nil .nil) .nil) (.node (o484 P) .nil .nil)))) (.node (o52 P) (.node (o84 P) (.node (o148 P) (.node (o276 P) (.node (o532 P) .nil .nil) .nil) (.node (o404 P) .nil .nil)) (.node (o212 P) (.node (o340 P) (.node (o596 P) .nil .nil) .nil) (.node (o468 P) .nil .nil))) (.node (o116 P) (.node (o180 P) (.node (o308 P) (.node (o564 P) .nil .nil) .nil) (.node (o436 P) .nil .nil)) (.node (o244 P) (.node (o372 P) (.node (o628 P) .nil .nil) .nil) (.node (o500 P) .nil .nil))))) (.node (o28 P) (.node (o44 P) (.node (o76 P) (.node (o140 P) (.node (o268 P) (.node (o524 P) .nil .nil) .nil) (.node (o396 P) (.node (o652 P) .nil .nil) .nil)) (.node (o204 P) (.node (o332 P) (.node (o588 P) .nil .nil) .nil) (.node (o460 P) .nil .nil))) (.node (o108 P) (.node (o172 P) (.node (o300 P) (.node (o556 P) .nil .nil) .nil) (.node (o428 P) .nil .nil)) (.node (o236 P) (.node (o364 P) (.node (o620 P) .nil .nil) .nil) (.node (o492 P) .nil .nil)))) (.node (o60 P) (.node (o92 P) (.node (o156 P) (.node (o284 P) (.node (o540 P) .nil .nil) .nil) (.node (o412 P) .nil .nil)) (.node (o220 P) (.node (o348 P) (.node (o604 P) .nil .nil) .nil) (.node (o476 P) .nil .nil))) (.node (o124 P) (.node (o188 P) (.node (o316 P) (.node (o572 P) .nil .nil) .nil) (.node (o444 P) .nil .nil)) (.node (o252 P) (.node (o380 P) (.node (o636 P) .nil .nil) .nil) (.node (o508 P) .nil .nil))))))) (.node (o6 P) (.node (o10 P) (.node (o18 P) (.node (o34 P) (.node (o66 P) (.node (o130 P) (.node (o258 P) (.node (o514 P) .nil .nil) .nil) (.node (o386 P) (.node (o642 P) .nil .nil) .nil)) (.node (o194 P) (.node (o322 P) (.node (o578 P) .nil .nil) .nil) (.node (o450 P) .nil .nil))) (.node (o98 P) (.node (o162 P) (.node (o290 P) (.node (o546 P) .nil .nil) .nil) (.node (o418 P) .nil .nil)) (.node (o226 P) (.node (o354 P) (.node (o610 P) .nil .nil) .nil) (.node (o482 P) .nil .nil)))) (.node (o50 P) (.node (o82 P) (.node (o146 P) (.node (o274 P) (.node (o530 P) .nil .nil) .nil) (.node (o402 P) .nil .nil)) (.node (o210 P) (.node (o338 P) (.node (o594 P) .nil .nil) .nil) (.node (o466 P) .nil .nil))) (.node (o114 P) (.node (o178 P) (.node (o306 P) (.node (o562 P) .nil .nil) .nil) (.node (o434 P) .nil .nil)) (.node (o242 P) (.node (o370 P) (.node (o626 P) .nil .nil) .nil) (.node (o498 P) .nil .nil))))) (.node (o26 P) (.node (o42 P) (.node (o74 P) (.node (o138 P) (.node (o266 P) (.node (o522 P) .nil .nil) .nil) (.node (o394 P) (.node (o650 P) .nil .nil) .nil)) (.node (o202 P) (.node (o330 P) (.node (o586 P) .nil .nil) .nil) (.node (o458 P) .nil .nil))) (.node (o106 P) (.node (o170 P) (.node (o298 P) (.node (o554 P) .nil .nil) .nil) (.node (o426 P) .nil .nil)) (.node (o234 P) (.node (o362 P) (.node (o618 P) .nil .nil) .nil) (.node (o490 P) .nil .nil)))) (.node (o58 P) (.node (o90 P) (.node (o154 P) (.node (o282 P) (.node (o538 P) .nil .nil) .nil) (.node (o410 P) .nil .nil)) (.node (o218 P) (.node (o346 P) (.node (o602 P) .nil .nil) .nil) (.node (o474 P) .nil .nil))) (.node (o122 P) (.node (o186 P) (.node (o314 P) (.node (o570 P) .nil .nil) .nil) (.node (o442 P) .nil .nil)) (.node (o250 P) (.node (o378 P) (.node (o634 P) .nil .nil) .nil) (.node (o506 P) .nil .nil)))))) (.node (o14 P) (.node (o22 P) (.node (o38 P) (.node (o70 P) (.node (o134 P) (.node (o262 P) (.node (o518 P) .nil .nil) .nil) (.node (o390 P) (.node (o646 P) .nil .nil) .nil)) (.node (o198 P) (.node (o326 P) (.node (o582 P) .nil .nil) .nil) (.node (o454 P) .nil .nil))) (.node (o102 P) (.node (o166 P) (.node (o294 P) (.node (o550 P) .nil .nil) .nil) (.node (o422 P) .nil .nil)) (.node (o230 P) (.node (o358 P) (.node (o614 P) .nil .nil) .nil) (.node (o486 P) .nil .nil)))) (.node (o54 P) (.node (o86 P) (.node (o150 P) (.node (o278 P) (.node (o534 P) .nil .nil) .nil) (.node (o406 P) .nil .nil)) (.node (o214 P) (.node (o342 P) (.node (o598 P) .nil .nil) .nil) (.node (o470 P) .nil .nil))) (.node (o118 P) (.node (o182 P) (.node (o310 P) (.node (o566 P) .nil .nil) .nil) (.node (o438 P) .nil .nil)) (.node (o246 P) (.node (o374 P) (.node (o630 P) .nil .nil) .nil) (.node (o502 P) .nil .nil))))) (.node (o30 P) (.node (o46 P) (.node (o78 P) (.node (o142 P) (.node (o270 P) (.node (o526 P) .nil .nil) .nil) (.node (o398 P) (.node (o654 P) .nil .nil) .nil)) (.node (o206 P) (.node (o334 P) (.node (o590 P) .nil .nil) .nil) (.node (o462 P) .nil .nil))) (.node (o110 P) (.node (o174 P) (.node (o302 P) (.node (o558 P) .nil .nil) .nil) (.node (o430 P) .nil .nil)) (.node (o238 P) (.node (o366 P) (.node (o622 P) .nil .nil) .nil) (.node (o494 P) .nil .nil)))) (.node (o62 P) (.node (o94 P) (.node (o158 P) (.node (o286 P) (.node (o542 P) .nil .nil) .nil) (.node (o414 P) .nil .nil)) (.node (o222 P) (.node (o350 P) (.node (o606 P) .nil .nil) .nil) (.node (o478 P) .nil .nil))) (.node (o126 P) (.node (o190 P) (.node (o318 P) (.node (o574 P) .nil .nil) .nil) (.node (o446 P) .nil .nil)) (.node (o254 P) (.node (o382 P) (.node (o638 P) .nil .nil) .nil) (.node (o510 P) .nil .nil)))))))))
end
end Mine
end
section
open PySem PySem.W PyProof.Rows
namespace Mine
noncomputable section
noncomputable def env0 : Env := { scope := pw.main.scope, locals := mainNs, globals := mainNs, cells := [], code := (.ref 13), frame := some 14 }
noncomputable def c0 : Code := .body (behindTheImports pw) env0
noncomputable def B0 : List Frame := [topFrame ⟨0, 0, 0, 0⟩]
noncomputable def ann0 : Option Value := (some (.ref 6))
noncomputable def st (w : World) (T : BT) (n toks : Nat) (os : OsState) : SharedT := ⟨T, n, (boot_heap w.params).life, #[], boot_drawn, toks, os⟩
noncomputable def go (w : World) (n : Nat) (s : SharedT) (t : Thread) : Option (SharedT × Thread) := PySem.W.Fast.tw10295753902157049106 PySem.W.Fast.tw14364793385576792824 pw w 11 ann0 0 n s t
noncomputable def goP (w : World) (n : Nat) (s : SharedT) (t : Thread) : Option (SharedT × Thread) := segGoT treeTable pw w 11 ann0 0 n s t
noncomputable def v0_2 (P : Params) : Obj := ⟨.none, none, (.dict [].toArray 0), [].toArray⟩
variable (P : Params)
noncomputable def v0_3 : Obj := qD [kD P "__name__" 165 (.str "__main__" 164), kD P "__doc__" 166 .none, kD P "__package__" 167 .none, kD P "__loader__" 168 (.builtin "__main__.__loader__#opaque"), kD P "__spec__" 169 .none, kD P "__annotations__" 170 (.ref 6), kD P "__builtins__" 171 (.ref 4), kD P "__file__" 173 (.str "/claim/cut.py" 172), kD P "__cached__" 174 .none] 9
noncomputable def v0_12 : Obj := o16 P
noncomputable def T0 (P : Params) (g v : Obj) : BT := ((((tr P g v).set 2 fun _ => v0_2 P).set 3 fun _ => v0_3 P).set 12 fun _ => v0_12 P)
noncomputable def S0 (w : World) (g v : Obj) (os : OsState) : SharedT := st w (T0 w.params g v) 15 187 os
noncomputable def t0 : Thread := restOf (pw.main.body.drop 0) env0 c0 ⟨0, 0, 0, 0⟩ B0
noncomputable def v1_2 : Obj := v0_2 P
noncomputable def v1_3 : Obj := qD [kD P "__name__" 165 (.str "__main__" 164), kD P "__doc__" 166 .none, kD P "__package__" 167 .none, kD P "__loader__" 168 (.builtin "__main__.__loader__#opaque"), kD P "__spec__" 169 .none, kD P "__annotations__" 170 (.ref 6), kD P "__builtins__" 171 (.ref 4), kD P "__file__" 173 (.str "/claim/cut.py" 172), kD P "__cached__" 174 .none, kD P "_wall" 193 (.ref 21)] 10
noncomputable def v1_12 (P : Params) : Obj := qN [.int 1 0, .int 0 0, .ref 20]
noncomputable def T1 (P : Params) (g v : Obj) : BT := ((((tr P g v).set 2 fun _ => v1_2 P).set 3 fun _ => v1_3 P).set 12 fun _ => v1_12 P)
noncomputable def S1 (w : World) (g v : Obj) (os : OsState) : SharedT := st w (T1 w.params g v) 22 194 os
noncomputable def t1 : Thread := restOf (pw.main.body.drop 1) env0 c0 ⟨1, 0, 3, 12⟩ B0
set_option maxHeartbeats 0 in
theorem pa1 (w : World) (g v : Obj) (os : OsState) : go w 29 (S0 w g v os) t0 = some (S1 w g v os, t1) := by kernel_rfl
noncomputable def v2_2 : Obj := v0_2 P
noncomputable def v2_3 : Obj := qD [kD P "__name__" 165 (.str "snowballstemmer.basestemmer" 194), kD P "__doc__" 166 .none, kD P "__package__" 167 .none, kD P "__loader__" 168 (.builtin "__main__.__loader__#opaque"), kD P "__spec__" 169 .none, kD P "__annotations__" 170 (.ref 6), kD P "__builtins__" 171 (.ref 4), kD P "__file__" 173 (.str "/claim/cut.py" 172), kD P "__cached__" 174 .none, kD P "_wall" 193 (.ref 21)] 10
noncomputable def v2_12 : Obj := v1_12 P
noncomputable def T2 (P : Params) (g v : Obj) : BT := ((((tr P g v).set 2 fun _ => v2_2 P).set 3 fun _ => v2_3 P).set 12 fun _ => v2_12 P)
noncomputable def S2 (w : World) (g v : Obj) (os : OsState) : SharedT := st w (T2 w.params g v) 22 196 os
noncomputable def t2 : Thread := restOf (pw.main.body.drop 2) env0 c0 ⟨4, 0, 4, 8⟩ B0
set_option maxHeartbeats 0 in
theorem pa2 (w : World) (g v : Obj) (os : OsState) : go w 9 (S1 w g v os) t1 = some (S2 w g v os, t2) := by kernel_rfl
noncomputable def v3_2 : Obj := v0_2 P
noncomputable def v3_3 : Obj := qD [kD P "__name__" 165 (.str "snowballstemmer.basestemmer" 194), kD P "__doc__" 166 .none, kD P "__package__" 167 .none, kD P "__loader__" 168 (.builtin "__main__.__loader__#opaque"), kD P "__spec__" 169 .none, kD P "__annotations__" 170 (.ref 6), kD P "__builtins__" 171 (.ref 4), kD P "__file__" 173 (.str "/claim/cut.py" 172), kD P "__cached__" 174 .none, kD P "_wall" 193 (.ref 21), kD P "BaseStemmer" 426 (.ref 199)] 11
noncomputable def v3_12 (P : Params) : Obj := qN [.int 1 0, .int 0 0, .ref 20, .int 5 0, .int 0 0, .ref 27]
noncomputable def v3_199 (P : Params) : Obj := ⟨(.type "type"), none, (.cls { name := "BaseStemmer", bases := [.type "object"], mro := [.ref 199, .type "object"], ns := 198, qualname := "BaseStemmer", hasDict := true, slotNames := [], subclasses := [], abstract := false, collection := none, hasDel := false }), [none, none, (some (.str "BaseStemmer" 196)), (some (.str "BaseStemmer" 204)), (some (.builtin "object.__new__")), (some (.bool true))].toArray⟩
noncomputable def T3 (P : Params) (g v : Obj) : BT := (((((tr P g v).set 2 fun _ => v3_2 P).set 3 fun _ => v3_3 P).set 12 fun _ => v3_12 P).set 199 fun _ => v3_199 P)
noncomputable def S3 (w : World) (g v : Obj) (os : OsState) : SharedT := st w (T3 w.params g v) 204 427 os
noncomputable def t3 : Thread := restOf (pw.main.body.drop 3) env0 c0 ⟨5, 0, 169, 16⟩ B0
set_option maxHeartbeats 0 in
theorem pa3 (w : World) (g v : Obj) (os : OsState) : go w 976 (S2 w g v os) t2 = some (S3 w g v os, t3) := by kernel_rfl
noncomputable def v4_2 : Obj := v0_2 P
noncomputable def v4_3 : Obj := qD [kD P "__name__" 165 (.str "snowballstemmer.among" 427), kD P "__doc__" 166 .none, kD P "__package__" 167 .none, kD P "__loader__" 168 (.builtin "__main__.__loader__#opaque"), kD P "__spec__" 169 .none, kD P "__annotations__" 170 (.ref 6), kD P "__builtins__" 171 (.ref 4), kD P "__file__" 173 (.str "/claim/cut.py" 172), kD P "__cached__" 174 .none, kD P "_wall" 193 (.ref 21), kD P "BaseStemmer" 426 (.ref 199)] 11
noncomputable def v4_12 : Obj := v3_12 P
noncomputable def v4_199 : Obj := v3_199 P
noncomputable def T4 (P : Params) (g v : Obj) : BT := (((((tr P g v).set 2 fun _ => v4_2 P).set 3 fun _ => v4_3 P).set 12 fun _ => v4_12 P).set 199 fun _ => v4_199 P)
noncomputable def S4 (w : World) (g v : Obj) (os : OsState) : SharedT := st w (T4 w.params g v) 204 429 os
noncomputable def t4 : Thread := restOf (pw.main.body.drop 4) env0 c0 ⟨170, 0, 170, 8⟩ B0
set_option maxHeartbeats 0 in
theorem pa4 (w : World) (g v : Obj) (os : OsState) : go w 9 (S3 w g v os) t3 = some (S4 w g v os, t4) := by kernel_rfl
noncomputable def v5_2 : Obj := v0_2 P
noncomputable def v5_3 : Obj := qD [kD P "__name__" 165 (.str "snowballstemmer.among" 427), kD P "__doc__" 166 .none, kD P "__package__" 167 .none, kD P "__loader__" 168 (.builtin "__main__.__loader__#opaque"), kD P "__spec__" 169 .none, kD P "__annotations__" 170 (.ref 6), kD P "__builtins__" 171 (.ref 4), kD P "__file__" 173 (.str "/claim/cut.py" 172), kD P "__cached__" 174 .none, kD P "_wall" 193 (.ref 21), kD P "BaseStemmer" 426 (.ref 199), kD P "Among" 461 (.ref 220)] 12
noncomputable def v5_12 (P : Params) : Obj := qN [.int 1 0, .int 0 0, .ref 20, .int 5 0, .int 0 0, .ref 27, .int 171 0, .int 0 0, .ref 209]
noncomputable def v5_199 : Obj := v3_199 P
noncomputable def T5 (P : Params) (g v : Obj) : BT := (((((tr P g v).set 2 fun _ => v5_2 P).set 3 fun _ => v5_3 P).set 12 fun _ => v5_12 P).set 199 fun _ => v5_199 P)
noncomputable def S5 (w : World) (g v : Obj) (os : OsState) : SharedT := st w (T5 w.params g v) 225 462 os
noncomputable def t5 : Thread := restOf (pw.main.body.drop 5) env0 c0 ⟨171, 0, 176, 28⟩ B0
set_option maxHeartbeats 0 in
theorem pa5 (w : World) (g v : Obj) (os : OsState) : go w 226 (S4 w g v os) t4 = some (S5 w g v os, t5) := by kernel_rfl
noncomputable def v6_2 : Obj := v0_2 P
noncomputable def v6_3 : Obj := qD [kD P "__name__" 165 (.str "snowballstemmer.porter_stemmer" 462), kD P "__doc__" 166 .none, kD P "__package__" 167 .none, kD P "__loader__" 168 (.builtin "__main__.__loader__#opaque"), kD P "__spec__" 169 .none, kD P "__annotations__" 170 (.ref 6), kD P "__builtins__" 171 (.ref 4), kD P "__file__" 173 (.str "/claim/cut.py" 172), kD P "__cached__" 174 .none, kD P "_wall" 193 (.ref 21), kD P "BaseStemmer" 426 (.ref 199), kD P "Among" 461 (.ref 220)] 12
noncomputable def v6_12 : Obj := v5_12 P
noncomputable def v6_199 : Obj := v3_199 P
noncomputable def T6 (P : Params) (g v : Obj) : BT := (((((tr P g v).set 2 fun _ => v6_2 P).set 3 fun _ => v6_3 P).set 12 fun _ => v6_12 P).set 199 fun _ => v6_199 P)
noncomputable def S6 (w : World) (g v : Obj) (os : OsState) : SharedT := st w (T6 w.params g v) 225 464 os
noncomputable def t6 : Thread := restOf (pw.main.body.drop 6) env0 c0 ⟨177, 0, 177, 8⟩ B0
set_option maxHeartbeats 0 in
theorem pa6 (w : World) (g v : Obj) (os : OsState) : go w 9 (S5 w g v os) t5 = some (S6 w g v os, t6) := by kernel_rfl
noncomputable def v7_2 : Obj := v0_2 P
noncomputable def v7_3 : Obj := qD [kD P "__name__" 165 (.str "snowballstemmer.porter_stemmer" 462), kD P "__doc__" 166 .none, kD P "__package__" 167 .none, kD P "__loader__" 168 (.builtin "__main__.__loader__#opaque"), kD P "__spec__" 169 .none, kD P "__annotations__" 170 (.ref 6), kD P "__builtins__" 171 (.ref 4), kD P "__file__" 173 (.str "/claim/cut.py" 172), kD P "__cached__" 174 .none, kD P "_wall" 193 (.ref 21), kD P "BaseStemmer" 426 (.ref 199), kD P "Among" 461 (.ref 220), kD P "PorterStemmer" 1565 (.ref 527)] 13
noncomputable def v7_12 (P : Params) : Obj := qN [.int 1 0, .int 0 0, .ref 20, .int 5 0, .int 0 0, .ref 27, .int 171 0, .int 0 0, .ref 209, .int 178 0, .int 0 0, .ref 230]
noncomputable def T7 (P : Params) (g v : Obj) : BT := ((((tr P g v).set 2 fun _ => v7_2 P).set 3 fun _ => v7_3 P).set 12 fun _ => v7_12 P)
noncomputable def S7 (w : World) (g v : Obj) (os : OsState) : SharedT := st w (T7 w.params g v) 530 1566 os
noncomputable def t7 : Thread := restOf (pw.main.body.drop 7) env0 c0 ⟨178, 0, 496, 412⟩ B0
noncomputable def v8_2 : Obj := ⟨.none, none, (.dict [kD P "type.__subclasses__.Exception.0" 1582 (.int 539 0), kD P "type.__subclasses__.Exception.n" 1583 (.int 1 0)].toArray 2), [].toArray⟩
noncomputable def v8_3 : Obj := qD [kD P "__name__" 165 (.str "snowballstemmer.porter_stemmer" 462), kD P "__doc__" 166 .none, kD P "__package__" 167 .none, kD P "__loader__" 168 (.builtin "__main__.__loader__#opaque"), kD P "__spec__" 169 .none, kD P "__annotations__" 170 (.ref 6), kD P "__builtins__" 171 (.ref 4), kD P "__file__" 173 (.str "/claim/cut.py" 172), kD P "__cached__" 174 .none, kD P "_wall" 193 (.ref 21), kD P "BaseStemmer" 426 (.ref 199), kD P "Among" 461 (.ref 220), kD P "PorterStemmer" 1565 (.ref 527), kD P "lab0" 1585 (.ref 539)] 14
noncomputable def v8_12 (P : Params) : Obj := qN [.int 1 0, .int 0 0, .ref 20, .int 5 0, .int 0 0, .ref 27, .int 171 0, .int 0 0, .ref 209, .int 178 0, .int 0 0, .ref 230, .int 497 0, .int 0 0, .ref 535]
noncomputable def T8 (P : Params) (g v : Obj) : BT := ((((tr P g v).set 2 fun _ => v8_2 P).set 3 fun _ => v8_3 P).set 12 fun _ => v8_12 P)
noncomputable def S8 (w : World) (g v : Obj) (os : OsState) : SharedT := st w (T8 w.params g v) 543 1586 os
noncomputable def t8 : Thread := restOf (pw.main.body.drop 8) env0 c0 ⟨497, 0, 498, 8⟩ B0
set_option maxHeartbeats 0 in
theorem pa8 (w : World) (g v : Obj) (os : OsState) : go w 196 (S7 w g v os) t7 = some (S8 w g v os, t8) := by kernel_rfl
noncomputable def v9_2 : Obj := ⟨.none, none, (.dict [kD P "type.__subclasses__.Exception.0" 1582 (.int 539 0), kD P "type.__subclasses__.Exception.n" 1583 (.int 2 0), kD P "type.__subclasses__.Exception.1" 1602 (.int 552 0)].toArray 3), [].toArray⟩
noncomputable def v9_3 : Obj := qD [kD P "__name__" 165 (.str "snowballstemmer.porter_stemmer" 462), kD P "__doc__" 166 .none, kD P "__package__" 167 .none, kD P "__loader__" 168 (.builtin "__main__.__loader__#opaque"), kD P "__spec__" 169 .none, kD P "__annotations__" 170 (.ref 6), kD P "__builtins__" 171 (.ref 4), kD P "__file__" 173 (.str "/claim/cut.py" 172), kD P "__cached__" 174 .none, kD P "_wall" 193 (.ref 21), kD P "BaseStemmer" 426 (.ref 199), kD P "Among" 461 (.ref 220), kD P "PorterStemmer" 1565 (.ref 527), kD P "lab0" 1585 (.ref 539), kD P "lab1" 1605 (.ref 552)] 15
noncomputable def v9_12 (P : Params) : Obj := qN [.int 1 0, .int 0 0, .ref 20, .int 5 0, .int 0 0, .ref 27, .int 171 0, .int 0 0, .ref 209, .int 178 0, .int 0 0, .ref 230, .int 497 0, .int 0 0, .ref 535, .int 499 0, .int 0 0, .ref 548]
noncomputable def T9 (P : Params) (g v : Obj) : BT := ((((tr P g v).set 2 fun _ => v9_2 P).set 3 fun _ => v9_3 P).set 12 fun _ => v9_12 P)
noncomputable def S9 (w : World) (g v : Obj) (os : OsState) : SharedT := st w (T9 w.params g v) 556 1606 os
noncomputable def t9 : Thread := restOf (pw.main.body.drop 9) env0 c0 ⟨499, 0, 500, 8⟩ B0
set_option maxHeartbeats 0 in
theorem pa9 (w : World) (g v : Obj) (os : OsState) : go w 196 (S8 w g v os) t8 = some (S9 w g v os, t9) := by kernel_rfl
noncomputable def v10_3 : Obj := qD [kD P "__name__" 165 (.str "snowballstemmer.porter_stemmer" 462), kD P "__doc__" 166 .none, kD P "__package__" 167 .none, kD P "__loader__" 168 (.builtin "__main__.__loader__#opaque"), kD P "__spec__" 169 .none, kD P "__annotations__" 170 (.ref 6), kD P "__builtins__" 171 (.ref 4), kD P "__file__" 173 (.str "/claim/cut.py" 172), kD P "__cached__" 174 .none, kD P "_wall" 193 (.ref 21), kD P "BaseStemmer" 426 (.ref 199), kD P "Among" 461 (.ref 220), kD P "PorterStemmer" 1565 (.ref 527), kD P "lab0" 1585 (.ref 539), kD P "lab1" 1605 (.ref 552), kD P "lab2" 1625 (.ref 565)] 16
noncomputable def v10_12 (P : Params) : Obj := qN [.int 1 0, .int 0 0, .ref 20, .int 5 0, .int 0 0, .ref 27, .int 171 0, .int 0 0, .ref 209, .int 178 0, .int 0 0, .ref 230, .int 497 0, .int 0 0, .ref 535, .int 499 0, .int 0 0, .ref 548, .int 501 0, .int 0 0, .ref 561]
noncomputable def T10 (P : Params) (g v : Obj) : BT := (((tr P g v).set 3 fun _ => v10_3 P).set 12 fun _ => v10_12 P)
noncomputable def S10 (w : World) (g v : Obj) (os : OsState) : SharedT := st w (T10 w.params g v) 569 1626 os
noncomputable def t10 : Thread := restOf (pw.main.body.drop 10) env0 c0 ⟨501, 0, 502, 8⟩ B0
set_option maxHeartbeats 0 in
theorem pa10 (w : World) (g v : Obj) (os : OsState) : go w 196 (S9 w g v os) t9 = some (S10 w g v os, t10) := by kernel_rfl
noncomputable def v11_3 : Obj := qD [kD P "__name__" 165 (.str "law_ii0001_01" 1626), kD P "__doc__" 166 .none, kD P "__package__" 167 .none, kD P "__loader__" 168 (.builtin "__main__.__loader__#opaque"), kD P "__spec__" 169 .none, kD P "__annotations__" 170 (.ref 6), kD P "__builtins__" 171 (.ref 4), kD P "__file__" 173 (.str "/claim/cut.py" 172), kD P "__cached__" 174 .none, kD P "_wall" 193 (.ref 21), kD P "BaseStemmer" 426 (.ref 199), kD P "Among" 461 (.ref 220), kD P "PorterStemmer" 1565 (.ref 527), kD P "lab0" 1585 (.ref 539), kD P "lab1" 1605 (.ref 552), kD P "lab2" 1625 (.ref 565)] 16
noncomputable def v11_12 : Obj := v10_12 P
noncomputable def T11 (P : Params) (g v : Obj) : BT := (((tr P g v).set 3 fun _ => v11_3 P).set 12 fun _ => v11_12 P)
noncomputable def S11 (w : World) (g v : Obj) (os : OsState) : SharedT := st w (T11 w.params g v) 569 1628 os
noncomputable def t11 : Thread := restOf (pw.main.body.drop 11) env0 c0 ⟨503, 0, 503, 8⟩ B0
set_option maxHeartbeats 0 in
theorem pa11 (w : World) (g v : Obj) (os : OsState) : go w 9 (S10 w g v os) t10 = some (S11 w g v os, t11) := by kernel_rfl
noncomputable def v12_3 : Obj := qD [kD P "__name__" 165 (.str "law_ii0001_01" 1626), kD P "__doc__" 166 .none, kD P "__package__" 167 .none, kD P "__loader__" 168 (.builtin "__main__.__loader__#opaque"), kD P "__spec__" 169 .none, kD P "__annotations__" 170 (.ref 6), kD P "__builtins__" 171 (.ref 4), kD P "__file__" 173 (.str "/claim/cut.py" 172), kD P "__cached__" 174 .none, kD P "_wall" 193 (.ref 21), kD P "BaseStemmer" 426 (.ref 199), kD P "Among" 461 (.ref 220), kD P "PorterStemmer" 1565 (.ref 527), kD P "lab0" 1585 (.ref 539), kD P "lab1" 1605 (.ref 552), kD P "lab2" 1625 (.ref 565), kD P "_law_letters" 1629 (.str "abcdefghijklmnopqrstuvwxyz" 1628)] 17
noncomputable def v12_12 : Obj := v10_12 P
noncomputable def T12 (P : Params) (g v : Obj) : BT := (((tr P g v).set 3 fun _ => v12_3 P).set 12 fun _ => v12_12 P)
noncomputable def S12 (w : World) (g v : Obj) (os : OsState) : SharedT := st w (T12 w.params g v) 569 1630 os
noncomputable def t12 : Thread := restOf (pw.main.body.drop 12) env0 c0 ⟨504, 0, 504, 12⟩ B0
set_option maxHeartbeats 0 in
theorem pa12 (w : World) (g v : Obj) (os : OsState) : go w 9 (S11 w g v os) t11 = some (S12 w g v os, t12) := by kernel_rfl
noncomputable def v13_3 : Obj := qD [kD P "__name__" 165 (.str "law_ii0001_01" 1626), kD P "__doc__" 166 .none, kD P "__package__" 167 .none, kD P "__loader__" 168 (.builtin "__main__.__loader__#opaque"), kD P "__spec__" 169 .none, kD P "__annotations__" 170 (.ref 6), kD P "__builtins__" 171 (.ref 4), kD P "__file__" 173 (.str "/claim/cut.py" 172), kD P "__cached__" 174 .none, kD P "_wall" 193 (.ref 21), kD P "BaseStemmer" 426 (.ref 199), kD P "Among" 461 (.ref 220), kD P "PorterStemmer" 1565 (.ref 527), kD P "lab0" 1585 (.ref 539), kD P "lab1" 1605 (.ref 552), kD P "lab2" 1625 (.ref 565), kD P "_law_letters" 1629 (.str "abcdefghijklmnopqrstuvwxyz" 1628), kD P "_law_ends" 1635 (.ref 575)] 18
noncomputable def v13_12 (P : Params) : Obj := qN [.int 1 0, .int 0 0, .ref 20, .int 5 0, .int 0 0, .ref 27, .int 171 0, .int 0 0, .ref 209, .int 178 0, .int 0 0, .ref 230, .int 497 0, .int 0 0, .ref 535, .int 499 0, .int 0 0, .ref 548, .int 501 0, .int 0 0, .ref 561, .int 505 0, .int 0 0, .ref 574]
noncomputable def T13 (P : Params) (g v : Obj) : BT := (((tr P g v).set 3 fun _ => v13_3 P).set 12 fun _ => v13_12 P)
noncomputable def S13 (w : World) (g v : Obj) (os : OsState) : SharedT := st w (T13 w.params g v) 576 1636 os
noncomputable def t13 : Thread := restOf (pw.main.body.drop 13) env0 c0 ⟨505, 0, 506, 238⟩ B0
set_option maxHeartbeats 0 in
theorem pa13 (w : World) (g v : Obj) (os : OsState) : go w 28 (S12 w g v os) t12 = some (S13 w g v os, t13) := by kernel_rfl
noncomputable def v14_3 : Obj := qD [kD P "__name__" 165 (.str "law_ii0001_01" 1626), kD P "__doc__" 166 .none, kD P "__package__" 167 .none, kD P "__loader__" 168 (.builtin "__main__.__loader__#opaque"), kD P "__spec__" 169 .none, kD P "__annotations__" 170 (.ref 6), kD P "__builtins__" 171 (.ref 4), kD P "__file__" 173 (.str "/claim/cut.py" 172), kD P "__cached__" 174 .none, kD P "_wall" 193 (.ref 21), kD P "BaseStemmer" 426 (.ref 199), kD P "Among" 461 (.ref 220), kD P "PorterStemmer" 1565 (.ref 527), kD P "lab0" 1585 (.ref 539), kD P "lab1" 1605 (.ref 552), kD P "lab2" 1625 (.ref 565), kD P "_law_letters" 1629 (.str "abcdefghijklmnopqrstuvwxyz" 1628), kD P "_law_ends" 1635 (.ref 575), kD P "_law_second" 1676 (.ref 596)] 19
noncomputable def v14_12 : Obj := v13_12 P
noncomputable def T14 (P : Params) (g v : Obj) : BT := (((tr P g v).set 3 fun _ => v14_3 P).set 12 fun _ => v14_12 P)
noncomputable def S14 (w : World) (g v : Obj) (os : OsState) : SharedT := st w (T14 w.params g v) 597 1677 os
noncomputable def t14 : Thread := restOf (pw.main.body.drop 14) env0 c0 ⟨507, 0, 507, 11⟩ B0
set_option maxHeartbeats 0 in
theorem pa14 (w : World) (g v : Obj) (os : OsState) : go w 90 (S13 w g v os) t13 = some (S14 w g v os, t14) := by kernel_rfl
noncomputable def v15_3 : Obj := qD [kD P "__name__" 165 (.str "law_ii0001_01" 1626), kD P "__doc__" 166 .none, kD P "__package__" 167 .none, kD P "__loader__" 168 (.builtin "__main__.__loader__#opaque"), kD P "__spec__" 169 .none, kD P "__annotations__" 170 (.ref 6), kD P "__builtins__" 171 (.ref 4), kD P "__file__" 173 (.str "/claim/cut.py" 172), kD P "__cached__" 174 .none, kD P "_wall" 193 (.ref 21), kD P "BaseStemmer" 426 (.ref 199), kD P "Among" 461 (.ref 220), kD P "PorterStemmer" 1565 (.ref 527), kD P "lab0" 1585 (.ref 539), kD P "lab1" 1605 (.ref 552), kD P "lab2" 1625 (.ref 565), kD P "_law_letters" 1629 (.str "abcdefghijklmnopqrstuvwxyz" 1628), kD P "_law_ends" 1635 (.ref 575), kD P "_law_second" 1676 (.ref 596), kD P "_law_third" 1691 (.ref 604)] 20
noncomputable def v15_12 : Obj := v13_12 P
noncomputable def T15 (P : Params) (g v : Obj) : BT := (((tr P g v).set 3 fun _ => v15_3 P).set 12 fun _ => v15_12 P)
noncomputable def S15 (w : World) (g v : Obj) (os : OsState) : SharedT := st w (T15 w.params g v) 605 1692 os
noncomputable def t15 : Thread := restOf (pw.main.body.drop 15) env0 c0 ⟨508, 0, 508, 10⟩ B0
set_option maxHeartbeats 0 in
theorem pa15 (w : World) (g v : Obj) (os : OsState) : go w 38 (S14 w g v os) t14 = some (S15 w g v os, t15) := by kernel_rfl
noncomputable def v16_3 : Obj := qD [kD P "__name__" 165 (.str "law_ii0001_01" 1626), kD P "__doc__" 166 .none, kD P "__package__" 167 .none, kD P "__loader__" 168 (.builtin "__main__.__loader__#opaque"), kD P "__spec__" 169 .none, kD P "__annotations__" 170 (.ref 6), kD P "__builtins__" 171 (.ref 4), kD P "__file__" 173 (.str "/claim/cut.py" 172), kD P "__cached__" 174 .none, kD P "_wall" 193 (.ref 21), kD P "BaseStemmer" 426 (.ref 199), kD P "Among" 461 (.ref 220), kD P "PorterStemmer" 1565 (.ref 527), kD P "lab0" 1585 (.ref 539), kD P "lab1" 1605 (.ref 552), kD P "lab2" 1625 (.ref 565), kD P "_law_letters" 1629 (.str "abcdefghijklmnopqrstuvwxyz" 1628), kD P "_law_ends" 1635 (.ref 575), kD P "_law_second" 1676 (.ref 596), kD P "_law_third" 1691 (.ref 604), kD P "_law_fourth" 1711 (.ref 605)] 21
noncomputable def v16_12 : Obj := v13_12 P
noncomputable def T16 (P : Params) (g v : Obj) : BT := (((tr P g v).set 3 fun _ => v16_3 P).set 12 fun _ => v16_12 P)
noncomputable def S16 (w : World) (g v : Obj) (os : OsState) : SharedT := st w (T16 w.params g v) 606 1712 os
noncomputable def t16 : Thread := restOf (pw.main.body.drop 16) env0 c0 ⟨509, 0, 509, 11⟩ B0
set_option maxHeartbeats 0 in
theorem pa16 (w : World) (g v : Obj) (os : OsState) : go w 29 (S15 w g v os) t15 = some (S16 w g v os, t16) := by kernel_rfl
noncomputable def v17_3 : Obj := qD [kD P "__name__" 165 (.str "law_ii0001_01" 1626), kD P "__doc__" 166 .none, kD P "__package__" 167 .none, kD P "__loader__" 168 (.builtin "__main__.__loader__#opaque"), kD P "__spec__" 169 .none, kD P "__annotations__" 170 (.ref 6), kD P "__builtins__" 171 (.ref 4), kD P "__file__" 173 (.str "/claim/cut.py" 172), kD P "__cached__" 174 .none, kD P "_wall" 193 (.ref 21), kD P "BaseStemmer" 426 (.ref 199), kD P "Among" 461 (.ref 220), kD P "PorterStemmer" 1565 (.ref 527), kD P "lab0" 1585 (.ref 539), kD P "lab1" 1605 (.ref 552), kD P "lab2" 1625 (.ref 565), kD P "_law_letters" 1629 (.str "abcdefghijklmnopqrstuvwxyz" 1628), kD P "_law_ends" 1635 (.ref 575), kD P "_law_second" 1676 (.ref 596), kD P "_law_third" 1691 (.ref 604), kD P "_law_fourth" 1711 (.ref 605), kD P "_law_vowel" 1718 (.ref 612)] 22
noncomputable def v17_12 (P : Params) : Obj := qN [.int 1 0, .int 0 0, .ref 20, .int 5 0, .int 0 0, .ref 27, .int 171 0, .int 0 0, .ref 209, .int 178 0, .int 0 0, .ref 230, .int 497 0, .int 0 0, .ref 535, .int 499 0, .int 0 0, .ref 548, .int 501 0, .int 0 0, .ref 561, .int 505 0, .int 0 0, .ref 574, .int 510 0, .int 0 0, .ref 611]
noncomputable def T17 (P : Params) (g v : Obj) : BT := (((tr P g v).set 3 fun _ => v17_3 P).set 12 fun _ => v17_12 P)
noncomputable def S17 (w : World) (g v : Obj) (os : OsState) : SharedT := st w (T17 w.params g v) 613 1719 os
noncomputable def t17 : Thread := restOf (pw.main.body.drop 17) env0 c0 ⟨510, 0, 511, 49⟩ B0
set_option maxHeartbeats 0 in
theorem pa17 (w : World) (g v : Obj) (os : OsState) : go w 29 (S16 w g v os) t16 = some (S17 w g v os, t17) := by kernel_rfl
noncomputable def v18_3 : Obj := qD [kD P "__name__" 165 (.str "law_ii0001_01" 1626), kD P "__doc__" 166 .none, kD P "__package__" 167 .none, kD P "__loader__" 168 (.builtin "__main__.__loader__#opaque"), kD P "__spec__" 169 .none, kD P "__annotations__" 170 (.ref 6), kD P "__builtins__" 171 (.ref 4), kD P "__file__" 173 (.str "/claim/cut.py" 172), kD P "__cached__" 174 .none, kD P "_wall" 193 (.ref 21), kD P "BaseStemmer" 426 (.ref 199), kD P "Among" 461 (.ref 220), kD P "PorterStemmer" 1565 (.ref 527), kD P "lab0" 1585 (.ref 539), kD P "lab1" 1605 (.ref 552), kD P "lab2" 1625 (.ref 565), kD P "_law_letters" 1629 (.str "abcdefghijklmnopqrstuvwxyz" 1628), kD P "_law_ends" 1635 (.ref 575), kD P "_law_second" 1676 (.ref 596), kD P "_law_third" 1691 (.ref 604), kD P "_law_fourth" 1711 (.ref 605), kD P "_law_vowel" 1718 (.ref 612), kD P "_law_past" 1727 (.ref 619)] 23
noncomputable def v18_12 (P : Params) : Obj := qN [.int 1 0, .int 0 0, .ref 20, .int 5 0, .int 0 0, .ref 27, .int 171 0, .int 0 0, .ref 209, .int 178 0, .int 0 0, .ref 230, .int 497 0, .int 0 0, .ref 535, .int 499 0, .int 0 0, .ref 548, .int 501 0, .int 0 0, .ref 561, .int 505 0, .int 0 0, .ref 574, .int 510 0, .int 0 0, .ref 611, .int 512 0, .int 0 0, .ref 618]
noncomputable def T18 (P : Params) (g v : Obj) : BT := (((tr P g v).set 3 fun _ => v18_3 P).set 12 fun _ => v18_12 P)
noncomputable def S18 (w : World) (g v : Obj) (os : OsState) : SharedT := st w (T18 w.params g v) 620 1728 os
noncomputable def t18 : Thread := restOf (pw.main.body.drop 18) env0 c0 ⟨512, 0, 515, 51⟩ B0
set_option maxHeartbeats 0 in
theorem pa18 (w : World) (g v : Obj) (os : OsState) : go w 31 (S17 w g v os) t17 = some (S18 w g v os, t18) := by kernel_rfl
noncomputable def v19_3 : Obj := qD [kD P "__name__" 165 (.str "law_ii0001_01" 1626), kD P "__doc__" 166 .none, kD P "__package__" 167 .none, kD P "__loader__" 168 (.builtin "__main__.__loader__#opaque"), kD P "__spec__" 169 .none, kD P "__annotations__" 170 (.ref 6), kD P "__builtins__" 171 (.ref 4), kD P "__file__" 173 (.str "/claim/cut.py" 172), kD P "__cached__" 174 .none, kD P "_wall" 193 (.ref 21), kD P "BaseStemmer" 426 (.ref 199), kD P "Among" 461 (.ref 220), kD P "PorterStemmer" 1565 (.ref 527), kD P "lab0" 1585 (.ref 539), kD P "lab1" 1605 (.ref 552), kD P "lab2" 1625 (.ref 565), kD P "_law_letters" 1629 (.str "abcdefghijklmnopqrstuvwxyz" 1628), kD P "_law_ends" 1635 (.ref 575), kD P "_law_second" 1676 (.ref 596), kD P "_law_third" 1691 (.ref 604), kD P "_law_fourth" 1711 (.ref 605), kD P "_law_vowel" 1718 (.ref 612), kD P "_law_past" 1727 (.ref 619), kD P "_law_region" 1736 (.ref 626)] 24
noncomputable def v19_12 (P : Params) : Obj := qN [.int 1 0, .int 0 0, .ref 20, .int 5 0, .int 0 0, .ref 27, .int 171 0, .int 0 0, .ref 209, .int 178 0, .int 0 0, .ref 230, .int 497 0, .int 0 0, .ref 535, .int 499 0, .int 0 0, .ref 548, .int 501 0, .int 0 0, .ref 561, .int 505 0, .int 0 0, .ref 574, .int 510 0, .int 0 0, .ref 611, .int 512 0, .int 0 0, .ref 618, .int 516 0, .int 0 0, .ref 625]
noncomputable def T19 (P : Params) (g v : Obj) : BT := (((tr P g v).set 3 fun _ => v19_3 P).set 12 fun _ => v19_12 P)
noncomputable def S19 (w : World) (g v : Obj) (os : OsState) : SharedT := st w (T19 w.params g v) 627 1737 os
noncomputable def t19 : Thread := restOf (pw.main.body.drop 19) env0 c0 ⟨516, 0, 518, 67⟩ B0
set_option maxHeartbeats 0 in
theorem pa19 (w : World) (g v : Obj) (os : OsState) : go w 31 (S18 w g v os) t18 = some (S19 w g v os, t19) := by kernel_rfl
noncomputable def v20_3 : Obj := qD [kD P "__name__" 165 (.str "law_ii0001_01" 1626), kD P "__doc__" 166 .none, kD P "__package__" 167 .none, kD P "__loader__" 168 (.builtin "__main__.__loader__#opaque"), kD P "__spec__" 169 .none, kD P "__annotations__" 170 (.ref 6), kD P "__builtins__" 171 (.ref 4), kD P "__file__" 173 (.str "/claim/cut.py" 172), kD P "__cached__" 174 .none, kD P "_wall" 193 (.ref 21), kD P "BaseStemmer" 426 (.ref 199), kD P "Among" 461 (.ref 220), kD P "PorterStemmer" 1565 (.ref 527), kD P "lab0" 1585 (.ref 539), kD P "lab1" 1605 (.ref 552), kD P "lab2" 1625 (.ref 565), kD P "_law_letters" 1629 (.str "abcdefghijklmnopqrstuvwxyz" 1628), kD P "_law_ends" 1635 (.ref 575), kD P "_law_second" 1676 (.ref 596), kD P "_law_third" 1691 (.ref 604), kD P "_law_fourth" 1711 (.ref 605), kD P "_law_vowel" 1718 (.ref 612), kD P "_law_past" 1727 (.ref 619), kD P "_law_region" 1736 (.ref 626), kD P "_law_end" 1746 (.ref 633)] 25
noncomputable def v20_12 (P : Params) : Obj := qN [.int 1 0, .int 0 0, .ref 20, .int 5 0, .int 0 0, .ref 27, .int 171 0, .int 0 0, .ref 209, .int 178 0, .int 0 0, .ref 230, .int 497 0, .int 0 0, .ref 535, .int 499 0, .int 0 0, .ref 548, .int 501 0, .int 0 0, .ref 561, .int 505 0, .int 0 0, .ref 574, .int 510 0, .int 0 0, .ref 611, .int 512 0, .int 0 0, .ref 618, .int 516 0, .int 0 0, .ref 625, .int 519 0, .int 0 0, .ref 632]
noncomputable def T20 (P : Params) (g v : Obj) : BT := (((tr P g v).set 3 fun _ => v20_3 P).set 12 fun _ => v20_12 P)
noncomputable def S20 (w : World) (g v : Obj) (os : OsState) : SharedT := st w (T20 w.params g v) 634 1747 os
noncomputable def t20 : Thread := restOf (pw.main.body.drop 20) env0 c0 ⟨519, 0, 524, 16⟩ B0
set_option maxHeartbeats 0 in
theorem pa20 (w : World) (g v : Obj) (os : OsState) : go w 32 (S19 w g v os) t19 = some (S20 w g v os, t20) := by kernel_rfl
noncomputable def v21_3 : Obj := qD [kD P "__name__" 165 (.str "law_ii0001_01" 1626), kD P "__doc__" 166 .none, kD P "__package__" 167 .none, kD P "__loader__" 168 (.builtin "__main__.__loader__#opaque"), kD P "__spec__" 169 .none, kD P "__annotations__" 170 (.ref 6), kD P "__builtins__" 171 (.ref 4), kD P "__file__" 173 (.str "/claim/cut.py" 172), kD P "__cached__" 174 .none, kD P "_wall" 193 (.ref 21), kD P "BaseStemmer" 426 (.ref 199), kD P "Among" 461 (.ref 220), kD P "PorterStemmer" 1565 (.ref 527), kD P "lab0" 1585 (.ref 539), kD P "lab1" 1605 (.ref 552), kD P "lab2" 1625 (.ref 565), kD P "_law_letters" 1629 (.str "abcdefghijklmnopqrstuvwxyz" 1628), kD P "_law_ends" 1635 (.ref 575), kD P "_law_second" 1676 (.ref 596), kD P "_law_third" 1691 (.ref 604), kD P "_law_fourth" 1711 (.ref 605), kD P "_law_vowel" 1718 (.ref 612), kD P "_law_past" 1727 (.ref 619), kD P "_law_region" 1736 (.ref 626), kD P "_law_end" 1746 (.ref 633), kD P "_law_short" 1756 (.ref 640)] 26
noncomputable def v21_12 (P : Params) : Obj := qN [.int 1 0, .int 0 0, .ref 20, .int 5 0, .int 0 0, .ref 27, .int 171 0, .int 0 0, .ref 209, .int 178 0, .int 0 0, .ref 230, .int 497 0, .int 0 0, .ref 535, .int 499 0, .int 0 0, .ref 548, .int 501 0, .int 0 0, .ref 561, .int 505 0, .int 0 0, .ref 574, .int 510 0, .int 0 0, .ref 611, .int 512 0, .int 0 0, .ref 618, .int 516 0, .int 0 0, .ref 625, .int 519 0, .int 0 0, .ref 632, .int 525 0, .int 0 0, .ref 639]
noncomputable def T21 (P : Params) (g v : Obj) : BT := (((tr P g v).set 3 fun _ => v21_3 P).set 12 fun _ => v21_12 P)
noncomputable def S21 (w : World) (g v : Obj) (os : OsState) : SharedT := st w (T21 w.params g v) 641 1757 os
noncomputable def t21 : Thread := restOf (pw.main.body.drop 21) env0 c0 ⟨525, 0, 529, 101⟩ B0
set_option maxHeartbeats 0 in
theorem pa21 (w : World) (g v : Obj) (os : OsState) : go w 32 (S20 w g v os) t20 = some (S21 w g v os, t21) := by kernel_rfl
noncomputable def v22_3 : Obj := qD [kD P "__name__" 165 (.str "law_ii0001_01" 1626), kD P "__doc__" 166 .none, kD P "__package__" 167 .none, kD P "__loader__" 168 (.builtin "__main__.__loader__#opaque"), kD P "__spec__" 169 .none, kD P "__annotations__" 170 (.ref 6), kD P "__builtins__" 171 (.ref 4), kD P "__file__" 173 (.str "/claim/cut.py" 172), kD P "__cached__" 174 .none, kD P "_wall" 193 (.ref 21), kD P "BaseStemmer" 426 (.ref 199), kD P "Among" 461 (.ref 220), kD P "PorterStemmer" 1565 (.ref 527), kD P "lab0" 1585 (.ref 539), kD P "lab1" 1605 (.ref 552), kD P "lab2" 1625 (.ref 565), kD P "_law_letters" 1629 (.str "abcdefghijklmnopqrstuvwxyz" 1628), kD P "_law_ends" 1635 (.ref 575), kD P "_law_second" 1676 (.ref 596), kD P "_law_third" 1691 (.ref 604), kD P "_law_fourth" 1711 (.ref 605), kD P "_law_vowel" 1718 (.ref 612), kD P "_law_past" 1727 (.ref 619), kD P "_law_region" 1736 (.ref 626), kD P "_law_end" 1746 (.ref 633), kD P "_law_short" 1756 (.ref 640), kD P "_law_rows" 1762 (.ref 645)] 27
noncomputable def v22_12 (P : Params) : Obj := qN [.int 1 0, .int 0 0, .ref 20, .int 5 0, .int 0 0, .ref 27, .int 171 0, .int 0 0, .ref 209, .int 178 0, .int 0 0, .ref 230, .int 497 0, .int 0 0, .ref 535, .int 499 0, .int 0 0, .ref 548, .int 501 0, .int 0 0, .ref 561, .int 505 0, .int 0 0, .ref 574, .int 510 0, .int 0 0, .ref 611, .int 512 0, .int 0 0, .ref 618, .int 516 0, .int 0 0, .ref 625, .int 519 0, .int 0 0, .ref 632, .int 525 0, .int 0 0, .ref 639, .int 530 0, .int 0 0, .ref 644]
noncomputable def T22 (P : Params) (g v : Obj) : BT := (((tr P g v).set 3 fun _ => v22_3 P).set 12 fun _ => v22_12 P)
noncomputable def S22 (w : World) (g v : Obj) (os : OsState) : SharedT := st w (T22 w.params g v) 646 1763 os
noncomputable def t22 : Thread := restOf (pw.main.body.drop 22) env0 c0 ⟨530, 0, 534, 89⟩ B0
set_option maxHeartbeats 0 in
theorem pa22 (w : World) (g v : Obj) (os : OsState) : go w 26 (S21 w g v os) t21 = some (S22 w g v os, t22) := by kernel_rfl
noncomputable def v23_3 : Obj := qD [kD P "__name__" 165 (.str "law_ii0001_01" 1626), kD P "__doc__" 166 .none, kD P "__package__" 167 .none, kD P "__loader__" 168 (.builtin "__main__.__loader__#opaque"), kD P "__spec__" 169 .none, kD P "__annotations__" 170 (.ref 6), kD P "__builtins__" 171 (.ref 4), kD P "__file__" 173 (.str "/claim/cut.py" 172), kD P "__cached__" 174 .none, kD P "_wall" 193 (.ref 21), kD P "BaseStemmer" 426 (.ref 199), kD P "Among" 461 (.ref 220), kD P "PorterStemmer" 1565 (.ref 527), kD P "lab0" 1585 (.ref 539), kD P "lab1" 1605 (.ref 552), kD P "lab2" 1625 (.ref 565), kD P "_law_letters" 1629 (.str "abcdefghijklmnopqrstuvwxyz" 1628), kD P "_law_ends" 1635 (.ref 575), kD P "_law_second" 1676 (.ref 596), kD P "_law_third" 1691 (.ref 604), kD P "_law_fourth" 1711 (.ref 605), kD P "_law_vowel" 1718 (.ref 612), kD P "_law_past" 1727 (.ref 619), kD P "_law_region" 1736 (.ref 626), kD P "_law_end" 1746 (.ref 633), kD P "_law_short" 1756 (.ref 640), kD P "_law_rows" 1762 (.ref 645), kD P "_law_stem" 1768 (.ref 650)] 28
noncomputable def v23_12 (P : Params) : Obj := qN [.int 1 0, .int 0 0, .ref 20, .int 5 0, .int 0 0, .ref 27, .int 171 0, .int 0 0, .ref 209, .int 178 0, .int 0 0, .ref 230, .int 497 0, .int 0 0, .ref 535, .int 499 0, .int 0 0, .ref 548, .int 501 0, .int 0 0, .ref 561, .int 505 0, .int 0 0, .ref 574, .int 510 0, .int 0 0, .ref 611, .int 512 0, .int 0 0, .ref 618, .int 516 0, .int 0 0, .ref 625, .int 519 0, .int 0 0, .ref 632, .int 525 0, .int 0 0, .ref 639, .int 530 0, .int 0 0, .ref 644, .int 535 0, .int 0 0, .ref 649]
noncomputable def T23 (P : Params) (g v : Obj) : BT := (((tr P g v).set 3 fun _ => v23_3 P).set 12 fun _ => v23_12 P)
noncomputable def S23 (w : World) (g v : Obj) (os : OsState) : SharedT := st w (T23 w.params g v) 651 1769 os
noncomputable def t23 : Thread := restOf (pw.main.body.drop 23) env0 c0 ⟨535, 0, 580, 78⟩ B0
set_option maxHeartbeats 0 in
theorem pa23 (w : World) (g v : Obj) (os : OsState) : go w 26 (S22 w g v os) t22 = some (S23 w g v os, t23) := by kernel_rfl
noncomputable def T24 (P : Params) (g v : Obj) : BT := (tr P g v)
noncomputable def S24 (w : World) (g v : Obj) (os : OsState) : SharedT := st w (T24 w.params g v) 658 1779 os
noncomputable def t24 : Thread := restOf (pw.main.body.drop 24) env0 c0 ⟨581, 0, 587, 60⟩ B0
set_option maxHeartbeats 0 in
theorem pa24 (w : World) (g v : Obj) (os : OsState) : go w 32 (S23 w g v os) t23 = some (S24 w g v os, t24) := by kernel_rfl
end
end Mine
end
section
open PySem PySem.W PyProof.Rows
namespace Mine
noncomputable section
noncomputable def cb : List Stmt := clsBody (nthS pw.main.body 6)
noncomputable def cenv : Env := { scope := clsScope (nthS pw.main.body 6), locals := 227, globals := 3, cells := [], qual := "PorterStemmer.", func := none, code := (.ref 230), frame := (some 231), builtins := 0 }
noncomputable def cC : Code := .body cb cenv
noncomputable abbrev tgo (w : World) (n : Nat) (s : Shared) (t : Thread) : Option (Shared × Thread) := topGo treeTable pw w 11 ann0 n s t
noncomputable def RT (w : World) {α : Type} (n : Nat) (m : Sem α) (s : Shared) (Q : α → Shared → Prop) : Prop :=
  ∃ a s', Q a s' ∧ ∀ (K : α → Sem Fin) (H : Value → Sem Fin) (gd : Bool → Bool) (lv : List Value → List Value) (p : Pos) (f : Frame) (B : List Frame),
    ∃ k p', k ≤ n ∧ tgo w k s ⟨m.wrap K H gd lv, cC, p, f :: B⟩ = some (s', ⟨K a, cC, p', f :: B⟩)
theorem tgo_add {w : World} : ∀ {n m : Nat} {s s' s'' : Shared} {t t' t'' : Thread}, tgo w n s t = some (s', t') → tgo w m s' t' = some (s'', t'') → tgo w (n + m) s t = some (s'', t'')
  | 0, m, s, s', s'', t, t', t'', h, k => by
    obtain ⟨rfl, rfl⟩ : s = s' ∧ t = t' := by simpa [tgo, topGo] using h
    rw [Nat.zero_add]; exact k
  | n + 1, m, s, s', s'', t, t', t'', h, k => by
    rw [show n + 1 + m = n + m + 1 by omega]
    unfold tgo topGo at h ⊢
    cases ht : through t with
    | true => rw [ht] at h; cases h
    | false =>
      rw [ht] at h
      cases hk : stepOk 11 ann0 t with
      | false => rw [hk] at h; cases h
      | true =>
        rw [hk] at h
        cases hs : step (denote treeTable) pw w s t with
        | halt o s₂ => rw [hs] at h; cases h
        | go s₂ t₂ => rw [hs] at h; exact tgo_add h k
section
variable {w : World} {α β : Type} {s : Shared}
theorem rt_pure {a : α} {Q : α → Shared → Prop} (h : Q a s) : RT w 0 (Pure.pure a : Sem α) s Q :=
  ⟨a, s, h, fun K H gd lv p f B => ⟨0, p, Nat.le_refl _, rfl⟩⟩
theorem rt_mono {n n' : Nat} {m : Sem α} {Q Q' : α → Shared → Prop} (h : RT w n m s Q) (hn : n ≤ n') (hQ : ∀ a s', Q a s' → Q' a s') : RT w n' m s Q' := by
  obtain ⟨a, s', q, r⟩ := h
  exact ⟨a, s', hQ _ _ q, fun K H gd lv p f B => let ⟨k, p', hk, e⟩ := r K H gd lv p f B; ⟨k, p', Nat.le_trans hk hn, e⟩⟩
theorem rt_le {n n' : Nat} {m : Sem α} {Q : α → Shared → Prop} (h : RT w n m s Q) (hn : n ≤ n') : RT w n' m s Q := rt_mono h hn fun _ _ q => q
theorem rt_bind {n n' : Nat} {m : Sem α} {f : α → Sem β} {Q : β → Shared → Prop} (h : RT w n m s (fun a s' => RT w n' (f a) s' Q)) : RT w (n + n') (m >>= f) s Q := by
  obtain ⟨a, s', ⟨b, s'', q, r'⟩, r⟩ := h
  refine ⟨b, s'', q, fun K H gd lv p fr B => ?_⟩
  have e : (m >>= f).wrap K H gd lv = m.wrap (fun a => (f a).wrap K H gd lv) H gd lv := by
    rw [Sem.bind_eq_wrap', Sem.wrap_wrap]; rfl
  rw [e]
  obtain ⟨k, p', hk, e1⟩ := r (fun a => (f a).wrap K H gd lv) H gd lv p fr B
  obtain ⟨k', p'', hk', e2⟩ := r' K H gd lv p' fr B
  exact ⟨k + k', p'', Nat.add_le_add hk hk', tgo_add e1 e2⟩
theorem rt_keep {n : Nat} {m : Sem α} {vs : List Value} {Q : α → Shared → Prop} (h : RT w n m s Q) : RT w n (m.keep vs) s Q := by
  obtain ⟨a, s', q, r⟩ := h
  refine ⟨a, s', q, fun K H gd lv p fr B => ?_⟩
  rw [Sem.keep_eq_wrap, Sem.wrap_wrap]
  exact r K H _ _ p fr B
theorem rt_holding {n : Nat} {m : Sem α} {vs : List Value} {Q : α → Shared → Prop} (h : RT w n m s Q) : RT w n (PySem.holding vs m) s Q := by
  unfold PySem.holding
  split
  · exact h
  · exact rt_keep h
theorem rt_load {a : Addr} {o : Obj} {Q : Obj → Shared → Prop} (ho : s.heap.get? a = some o) (h : Q o s) : RT w 1 (PySem.load a) s Q :=
  ⟨o, s, h, fun K H gd lv p f B => ⟨1, p, Nat.le_refl _, by
    obtain ⟨heap, gens, drawn, toks, os⟩ := s
    show (match step (denote treeTable) pw w ⟨heap, gens, drawn, toks, os⟩ ⟨.load a none fun x => K x, cC, p, f :: B⟩ with
        | .go s' t' => some (s', t')
        | .halt _ _ => none) = _
    simp only [step]
    rw [show heap.get? a = some o from ho]⟩⟩
theorem rt_update {a : Addr} {g : Obj → Obj} {o : Obj} {Q : Unit → Shared → Prop} (ho : s.heap.get? a = some o) (ha : Nat.ble 11 a = true) (h : Q () { s with heap := s.heap.update a g }) : RT w 1 (PySem.update a g) s Q :=
  ⟨(), _, h, fun K H gd lv p f B => ⟨1, p, Nat.le_refl _, by
    obtain ⟨heap, gens, drawn, toks, os⟩ := s
    have ok : stepOk 11 ann0 ⟨.update a none g fun x => K x, cC, p, f :: B⟩ = true := by
      show (Thread.calm ⟨.update a none g fun x => K x, cC, p, f :: B⟩ && (Nat.ble 11 a || a == mainNs || a == cStatics || ann0 == some (.ref a))) = true
      rw [ha]; rfl
    show (match stepOk 11 ann0 ⟨.update a none g fun x => K x, cC, p, f :: B⟩ with
        | false => none
        | true => match step (denote treeTable) pw w ⟨heap, gens, drawn, toks, os⟩ ⟨.update a none g fun x => K x, cC, p, f :: B⟩ with
          | .go s' t' => some (s', t')
          | .halt _ _ => none) = _
    rw [ok]
    simp only [step]
    rw [show heap.get? a = some o from ho]
    rfl⟩⟩
theorem rt_alloc {o : Obj} {Q : Addr → Shared → Prop} (h : Q s.heap.objs.size { s with heap := s.heap.push o }) : RT w 1 (PySem.alloc o) s Q :=
  ⟨_, _, h, fun K H gd lv p f B => ⟨1, p, Nat.le_refl _, rfl⟩⟩
theorem rt_rule {tag : String} {Q : Unit → Shared → Prop} (h : Q () s) : RT w 1 (PySem.rule tag) s Q :=
  ⟨_, _, h, fun K H gd lv p f B => ⟨1, p, Nat.le_refl _, rfl⟩⟩
theorem rt_standAt {q : Pos} {Q : Unit → Shared → Prop} (h : Q () s) : RT w 1 (PySem.standAt q) s Q :=
  ⟨_, _, h, fun K H gd lv p f B => ⟨1, q, Nat.le_refl _, rfl⟩⟩
theorem rt_ask {Q : Setting → Shared → Prop} (h : Q ⟨pw, w.params⟩ s) : RT w 1 (PySem.ask) s Q :=
  ⟨_, _, h, fun K H gd lv p f B => ⟨1, p, Nat.le_refl _, rfl⟩⟩
theorem rt_mkText {x : Str} {Q : Value → Shared → Prop} (h : Q (.str x s.toks) { s with toks := s.toks + 1 }) : RT w 1 (PySem.mkText x) s Q :=
  ⟨_, _, h, fun K H gd lv p f B => ⟨1, p, Nat.le_refl _, rfl⟩⟩
theorem hashAux (w : World) (b : Bool) {c : Nat} {t : Tok} (heap : Heap) (gens : Array GenState) (drawn : Drawn) (toks : Nat) (os : OsState) (K : Int → Sem Fin) (H : Value → Sem Fin) (gd : Bool → Bool) (lv : List Value → List Value) (p : Pos) (f : Frame) (B : List Frame) :
    tgo (w.withFollow "special-get-raises" b) 7 ⟨heap, gens, drawn, toks, os⟩ ⟨(PySem.pyHash (.str ⟨#[c]⟩ t)).wrap K H gd lv, cC, p, f :: B⟩ = some (⟨heap, gens, drawn, toks + 1, os⟩, ⟨K (reduceHash ((w.withFollow "special-get-raises" b).params.strHash #[c])), cC, p, f :: B⟩) := by
  cases b <;> kernel_rfl
theorem rt_pyHash {c : Nat} {t : Tok} {Q : Int → Shared → Prop} (h : Q (reduceHash (w.params.strHash #[c])) { s with toks := s.toks + 1 }) : RT w 7 (PySem.pyHash (.str ⟨#[c]⟩ t)) s Q :=
  ⟨_, _, h, fun K H gd lv p f B => ⟨7, p, Nat.le_refl _, by
    obtain ⟨heap, gens, drawn, toks, os⟩ := s
    have e := hashAux w (w.params.followText "special-get-raises") (c := c) (t := t) heap gens drawn toks os K H gd lv p f B
    rw [World.withFollow_self] at e
    exact e⟩⟩
structure ElemsAre (P : Params) (es : Array (Int × Value)) (xs : List Nat) : Prop where
  sound : ∀ e ∈ es.toList, ∃ c ∈ xs, ∃ t, e = (reduceHash (P.strHash #[c]), .str ⟨#[c]⟩ t)
  whole : ∀ c ∈ xs, ∃ t, (reduceHash (P.strHash #[c]), Value.str ⟨#[c]⟩ t) ∈ es.toList
  size : es.size = xs.length
theorem ElemsAre.perm {P : Params} {es es' : Array (Int × Value)} {xs : List Nat} (h : ElemsAre P es xs) (p : es'.toList.Perm es.toList) : ElemsAre P es' xs :=
  ⟨fun e he => h.sound e (p.mem_iff.mp he), fun c hc => let ⟨t, ht⟩ := h.whole c hc; ⟨t, p.mem_iff.mpr ht⟩, by rw [← Array.length_toList, p.length_eq, Array.length_toList, h.size]⟩
theorem ElemsAre.push {P : Params} {es : Array (Int × Value)} {xs : List Nat} {c : Nat} {t : Tok} (h : ElemsAre P es xs) : ElemsAre P (es.push (reduceHash (P.strHash #[c]), .str ⟨#[c]⟩ t)) (xs ++ [c]) := by
  refine ⟨fun e he => ?_, fun d hd => ?_, by rw [Array.size_push, h.size, List.length_append]; rfl⟩
  · rw [Array.toList_push] at he
    rcases List.mem_append.mp he with he | he
    · obtain ⟨c', h1, t', h2⟩ := h.sound e he
      exact ⟨c', List.mem_append_left _ h1, t', h2⟩
    · exact ⟨c, by simp, t, by simpa using he⟩
  · rw [Array.toList_push]
    rcases List.mem_append.mp hd with hd | hd
    · obtain ⟨t', h'⟩ := h.whole d hd
      exact ⟨t', List.mem_append_left _ h'⟩
    · obtain rfl : d = c := by simpa using hd
      exact ⟨t, by simp⟩
noncomputable def setO (es : Array (Int × Value)) (n : Nat) (tb : SetTable) : Obj := ⟨.type "set", none, .set es n tb, #[]⟩
theorem rt_setState {a : Addr} {es : Array (Int × Value)} {ep : Nat} {t : SetTable} {Q : (Array (Int × Value) × Nat × SetTable) → Shared → Prop}
    (ho : s.heap.get? a = some (setO es ep t)) (hf : t.fits es.size = true) (h : Q (es, ep, t) s) : RT w 1 (PySem.setState a) s Q := by
  unfold PySem.setState
  refine rt_le (rt_bind (n' := 0) (rt_load ho ?_)) (by omega)
  have hc : (t.place.size != es.size || decide (t.fill > t.mask)) = false := by
    simp only [SetTable.fits, Bool.and_eq_true, beq_iff_eq, decide_eq_true_eq] at hf
    simp [hf.1, Nat.not_lt.mpr hf.2]
  dsimp only [setO]
  rw [hc]
  simp only [Bool.false_eq_true, ↓reduceIte]
  exact rt_pure h
theorem ElemsAre.scan {P : Params} {es : Array (Int × Value)} {xs : List Nat} (h : ElemsAre P es xs) : es.all (fun e => e.2.scannable) = true := by
  rw [← Array.all_toList, List.all_eq_true]
  intro e he
  obtain ⟨c, _, t, rfl⟩ := h.sound e he
  rfl
theorem ElemsAre.keys {P : Params} {es : Array (Int × Value)} {xs : List Nat} (h : ElemsAre P es xs) : es.all (fun e => isExactStrKey e.2) = true := by
  rw [← Array.all_toList, List.all_eq_true]
  intro e he
  obtain ⟨c, _, t, rfl⟩ := h.sound e he
  rfl
theorem ElemsAre.absent {P : Params} {es : Array (Int × Value)} {xs : List Nat} (h : ElemsAre P es xs) {c : Nat} (hc : c ∉ xs) : es.findIdx? (fun e => e.2.isStr ⟨#[c]⟩) = none := by
  have : es.findIdx? (fun e => e.2.isStr ⟨#[c]⟩) = es.toList.findIdx? (fun e => e.2.isStr ⟨#[c]⟩) := by cases es; simp
  rw [this, List.findIdx?_eq_none_iff]
  intro e he
  obtain ⟨d, hd, t, rfl⟩ := h.sound e he
  show ((⟨#[d]⟩ : Str) == ⟨#[c]⟩) = false
  rw [beq_eq_false_iff_ne]
  intro q
  have : d = c := by simpa using q
  exact hc (this ▸ hd)
theorem heap_upd_get {h : Heap} {a : Addr} {es es' : Array (Int × Value)} {ep : Nat} {t t' : SetTable} (ho : h.get? a = some (setO es ep t)) :
    (h.update a (Obj.putSet es' t')).get? a = some (setO es' (ep + 1) t') := by
  have := Heap.get?_update_self (Obj.putSet es' t') ho (by rfl)
  exact this
theorem rt_storeSet {a : Addr} {es : Array (Int × Value)} {ep : Nat} {t : SetTable} {es' : Array (Int × Value)} {t' : SetTable} {Q : Unit → Shared → Prop}
    (ho : s.heap.get? a = some (setO es ep t)) (ha : Nat.ble 11 a = true) (hz : es'.size ≤ 100) (h : Q () { s with heap := s.heap.update a (Obj.putSet es' t') }) : RT w 2 (PySem.storeSet a es' t') s Q := by
  unfold PySem.storeSet
  refine rt_le (rt_bind (n' := 1) (rt_load ho ?_)) (by omega)
  dsimp only [setO]
  rw [if_neg (by rw [sizeLine_eq]; omega)]
  first | exact rt_update ho ha h | exact rt_le (rt_bind (n := 0) (n' := 1) (rt_pure (rt_update ho ha h))) (by omega)
theorem upd_upd {h : Heap} {a : Addr} {f g : Obj → Obj} : (h.update a f).update a g = h.update a (g ∘ f) := by
  obtain ⟨objs, l⟩ := h
  show Heap.mk _ _ = Heap.mk _ _
  congr 1
  apply Array.ext_getElem?
  intro i
  simp only [Array.getElem?_modify]
  by_cases e : a = i <;> simp [e]
theorem upd_const {h : Heap} {a : Addr} {o : Obj} {f : Obj → Obj} (ho : h.objs[a]? = some o) : h.update a f = h.update a (fun _ => f o) := by
  obtain ⟨objs, l⟩ := h
  show Heap.mk _ _ = Heap.mk _ _
  congr 1
  apply Array.ext_getElem?
  intro i
  simp only [Array.getElem?_modify]
  by_cases e : a = i
  · subst e; rw [show objs[a]? = some o from ho]; simp
  · simp [e]
theorem objs_of_get {h : Heap} {a : Addr} {o : Obj} (ho : h.get? a = some o) : h.objs[a]? = some o := by
  unfold Heap.get? at ho
  split at ho
  · cases ho
  · exact ho
noncomputable def withSet (h : Heap) (a : Addr) (es : Array (Int × Value)) (ep : Nat) (t : SetTable) : Heap := h.update a (fun _ => setO es ep t)
theorem withSet_put {h : Heap} {a : Addr} {es es' : Array (Int × Value)} {ep : Nat} {t t' : SetTable} (ho : h.get? a = some (setO es ep t)) : h.update a (Obj.putSet es' t') = withSet h a es' (ep + 1) t' := upd_const (objs_of_get ho)
theorem withSet_put2 {h : Heap} {a : Addr} {es es' : Array (Int × Value)} {ep : Nat} {t t' : SetTable} : (withSet h a es ep t).update a (Obj.putSet es' t') = withSet h a es' (ep + 1) t' := upd_upd
theorem withSet_get {h : Heap} {a : Addr} {o : Obj} {es : Array (Int × Value)} {ep : Nat} {t : SetTable} (ho : h.get? a = some o) : (withSet h a es ep t).get? a = some (setO es ep t) := Heap.get?_update_self _ ho rfl
theorem rt_addTail {g : Bool → Sem Unit} (hg : ∀ (b : Bool) (s₁ : Shared) (Q' : Unit → Shared → Prop), Q' () s₁ → RT w 1 (g b) s₁ Q')
    {a : Addr} {es es1 : Array (Int × Value)} {ep : Nat} {t t2 : SetTable} {xs : List Nat} (ho : s.heap.get? a = some (setO es ep t)) (ha : Nat.ble 11 a = true) (hel : ElemsAre w.params es1 xs) (hx : xs.length ≤ 100) (hf : t2.fits es1.size = true)
    {wasDummy : Bool} {R : Option Bool → Shared → Prop}
    (h : ∀ es2 ep2 t3, ElemsAre w.params es2 xs → t3.fits es2.size = true → R (some true) { s with heap := withSet s.heap a es2 ep2 t3 }) :
    RT w 5 (do
        PySem.storeSet a es1 t2
        if (!wasDummy && t2.tooFull) = true then do
            g (relayAll t2 es1 (SetTable.grown es1.size)).2.2
            PySem.storeSet a (relayAll t2 es1 (SetTable.grown es1.size)).1 (relayAll t2 es1 (SetTable.grown es1.size)).2.1
            pure (some true)
          else pure (some true)) s R := by
  refine rt_le (rt_bind (n := 2) (n' := 3) (rt_storeSet ho ha (by rw [hel.size]; exact hx) ?_)) (by omega)
  rw [withSet_put ho]
  split
  · have hp := relayAll_perm t2 es1 (SetTable.grown es1.size)
    have hfr := relayAll_fits t2 es1 (SetTable.grown es1.size)
    generalize relayAll t2 es1 (SetTable.grown es1.size) = Rl at hp hfr ⊢
    obtain ⟨es2, t3, gave⟩ := Rl
    dsimp only at hp hfr ⊢
    have hel2 := hel.perm hp
    refine rt_le (rt_bind (n := 1) (n' := 2) (hg _ _ _ ?_)) (by omega)
    refine rt_le (rt_bind (n := 2) (n' := 0) (rt_storeSet (withSet_get ho) ha (by rw [hel2.size]; exact hx) ?_)) (by omega)
    rw [withSet_put2]
    exact rt_pure (h _ _ _ hel2 hfr)
  · exact rt_le (rt_pure (h _ _ _ hel hf)) (by omega)
theorem rt_setAdd {a : Addr} {es : Array (Int × Value)} {ep : Nat} {t : SetTable} {xs : List Nat} {c : Nat} {tk : Tok} {R : Bool → Shared → Prop} (ho : s.heap.get? a = some (setO es ep t)) (ha : Nat.ble 11 a = true) (hel : ElemsAre w.params es xs) (hx : xs.length < 100)
    (hf : t.fits es.size = true) (hc : c ∉ xs)
    (h : ∀ b es2 ep2 t3, ElemsAre w.params es2 (xs ++ [c]) → t3.fits es2.size = true → R b { s with heap := withSet s.heap a es2 ep2 t3, toks := s.toks + 1 }) :
    RT w 20 (PySem.setAdd a (.str ⟨#[c]⟩ tk)) s R := by
  unfold PySem.setAdd
  refine rt_holding (rt_le (rt_bind (n := 7) (n' := 13) (rt_pyHash ?_)) (by omega))
  unfold setAddHashed setAddHashedIn
  refine rt_holding (rt_le (rt_bind (n := 1) (n' := 12) (rt_setState (s := { s with toks := s.toks + 1 }) ho hf ?_)) (by omega))
  dsimp only
  have hb : byScan (Value.str ⟨#[c]⟩ tk) es = true := by
    simp only [byScan, Value.scannable, Bool.true_and, Bool.and_eq_true, decide_eq_true_eq]
    exact ⟨by rw [hel.size]; show xs.length < 4096; omega, hel.scan⟩
  rw [hb]
  simp only [↓reduceIte]
  unfold setAddByScan
  refine rt_le (rt_bind (n := 11) (n' := 0) ?_) (by omega)
  refine rt_le (rt_bind (n := 1) (n' := 9) (rt_rule ?_)) (by omega)
  refine rt_le (rt_bind (n := 0) (n' := 9) ?_) (by omega)
  unfold setScan setScanStrs
  dsimp only
  rw [hel.keys, if_pos rfl, hel.absent hc]
  refine rt_pure ?_
  dsimp only
  have hgw : ∀ (b : Bool) (s₁ : Shared) (Q' : Unit → Shared → Prop), Q' () s₁ → RT w 1 (match b with | true => PySem.rule "set.scan.the-table-gave-way" | false => pure ()) s₁ Q' :=
    fun b s₁ Q' hq => by cases b <;> first | exact rt_rule hq | exact rt_le (rt_pure hq) (by omega)
  have hperm := layNew_perm t es (reduceHash (w.params.strHash #[c])) (.str ⟨#[c]⟩ tk)
  have hfits := layNew_fits t es (reduceHash (w.params.strHash #[c])) (.str ⟨#[c]⟩ tk)
  generalize layNew t es (reduceHash (w.params.strHash #[c])) (.str ⟨#[c]⟩ tk) = L at hperm hfits ⊢
  obtain ⟨es1, t1, wasDummy, gave⟩ := L
  dsimp only at hperm hfits ⊢
  have hel1 : ElemsAre w.params es1 (xs ++ [c]) := hel.push.perm hperm
  have hlen : (xs ++ [c]).length ≤ 100 := by rw [List.length_append]; show xs.length + 1 ≤ 100; omega
  refine rt_le (rt_bind (n := 1) (n' := 6) (hgw _ _ _ ?_)) (by omega)
  split
  · refine rt_le (rt_bind (n := 0) (n' := 6) ?_) (by omega)
    rw [hashByValue_scannable 8 rfl]
    refine rt_pure ?_
    refine rt_le (rt_addTail (s := { s with toks := s.toks + 1 }) ?_ ho ha hel1 hlen ?_ ?_) (by omega)
    · intro b s₁ Q' hq; cases b <;> first | exact rt_rule hq | exact rt_le (rt_pure hq) (by omega)
    · split
      · exact hfits
      · exact SetTable.fits_plain_off hfits
    · intro es2 ep2 t3 h2 h3; dsimp only; exact rt_pure (h _ _ _ _ h2 h3)
  · refine rt_le (rt_bind (n := 0) (n' := 6) (rt_pure ?_)) (by omega)
    simp only [↓reduceIte]
    refine rt_le (rt_addTail (s := { s with toks := s.toks + 1 }) ?_ ho ha hel1 hlen hfits ?_) (by omega)
    · intro b s₁ Q' hq; cases b <;> first | exact rt_rule hq | exact rt_le (rt_pure hq) (by omega)
    · intro es2 ep2 t3 h2 h3; dsimp only; exact rt_pure (h _ _ _ _ h2 h3)
theorem withSet2 {h : Heap} {a : Addr} {es es' : Array (Int × Value)} {ep ep' : Nat} {t t' : SetTable} : withSet (withSet h a es ep t) a es' ep' t' = withSet h a es' ep' t' := upd_upd
theorem withSet_self {h : Heap} {a : Addr} {es : Array (Int × Value)} {ep : Nat} {t : SetTable} (ho : h.get? a = some (setO es ep t)) : withSet h a es ep t = h := by
  have := objs_of_get ho
  obtain ⟨objs, l⟩ := h
  show Heap.mk _ _ = Heap.mk _ _
  congr 1
  apply Array.ext_getElem?
  intro i
  simp only [Array.getElem?_modify]
  by_cases e : a = i
  · subst e; rw [show objs[a]? = _ from this]; simp
  · simp [e]
theorem withSet_push {h : Heap} {o : Obj} {es : Array (Int × Value)} {ep : Nat} {t : SetTable} : withSet (h.push o) h.objs.size es ep t = h.push (setO es ep t) := by
  obtain ⟨objs, l⟩ := h
  show Heap.mk _ _ = Heap.mk _ _
  congr 1
  apply Array.ext_getElem?
  intro i
  simp only [Array.getElem?_modify, Array.getElem?_push]
  by_cases e : objs.size = i
  · subst e; simp
  · simp [e, Ne.symm e]
noncomputable def strsFrom : List Nat → Nat → List Value
  | [], _ => []
  | c :: r, t => .str ⟨#[c]⟩ t :: strsFrom r (t + 1)
noncomputable def constE (c : Nat × Pos) : Expr := .Constant (.str ⟨#[c.1]⟩) 0 c.2
theorem rt_evalAll {env : Env} {pos : Pos} : ∀ (l : List (Nat × Pos)) (s : Shared) (R : List Value → Shared → Prop), R (strsFrom (l.map (·.1)) s.toks) { s with toks := s.toks + l.length } →
    RT w (2 * l.length) (evalAll (l.map fun c => do let v ← eval (constE c) env; PySem.standAt pos; pure v)) s R
  | [], s, R, h => rt_pure h
  | c :: l, s, R, h => by
    rw [List.map_cons]
    show RT w _ ((PySem.mkText ⟨#[c.1]⟩ >>= fun v => PySem.standAt pos >>= fun _ => pure v) >>= fun v => PySem.holding [v] (evalAll (l.map fun c => do let v ← eval (constE c) env; PySem.standAt pos; pure v)) >>= fun r => pure (v :: r)) s R
    refine rt_le (rt_bind (n := 2) (n' := 2 * l.length) (rt_le (rt_bind (n := 1) (n' := 1) (rt_mkText (rt_le (rt_bind (n := 1) (n' := 0) (rt_standAt (rt_pure ?_))) (by omega)))) (by omega))) (by rw [List.length_cons]; omega)
    refine rt_le (rt_bind (n := 2 * l.length) (n' := 0) (rt_holding (rt_evalAll l _ _ (rt_pure ?_)))) (by omega)
    have e : s.toks + 1 + l.length = s.toks + (c :: l).length := by rw [List.length_cons]; omega
    dsimp only
    rw [e]
    exact h
theorem rt_for {f : Value → PUnit → Sem (ForInStep PUnit)} {a : Addr} (hf : ∀ (x : Value) (P : Shared → Prop) (s : Shared), RT w 20 (PySem.setAdd a x) s (fun _ s' => P s') → RT w 20 (f x PUnit.unit) s (fun st s' => st = .yield PUnit.unit ∧ P s')) (ha : Nat.ble 11 a = true) :
    ∀ (cs xs : List Nat) (tk : Nat) (s : Shared) (es : Array (Int × Value)) (ep : Nat) (t : SetTable) (R : Shared → Prop), s.heap.get? a = some (setO es ep t) → ElemsAre w.params es xs → (xs ++ cs).Nodup → (xs ++ cs).length ≤ 100 → t.fits es.size = true →
      (∀ es2 ep2 t3, ElemsAre w.params es2 (xs ++ cs) → t3.fits es2.size = true → R { s with heap := withSet s.heap a es2 ep2 t3, toks := s.toks + cs.length }) →
      RT w (20 * cs.length) (forIn (strsFrom cs tk) PUnit.unit f) s (fun _ s' => R s')
  | [], xs, tk, s, es, ep, t, R, ho, hel, hnd, hlen, hfit, h => by
    have := h es ep t (by rw [List.append_nil]; exact hel) hfit
    rw [withSet_self ho] at this
    exact rt_pure this
  | c :: cs, xs, tk, s, es, ep, t, R, ho, hel, hnd, hlen, hfit, h => by
    have e1 : xs ++ c :: cs = (xs ++ [c]) ++ cs := by simp
    have hc : c ∉ xs := fun q => by
      rw [List.nodup_append] at hnd
      exact hnd.2.2 c q c (List.mem_cons_self ..) rfl
    have hl : xs.length < 100 := by rw [List.length_append, List.length_cons] at hlen; omega
    rw [strsFrom, List.forIn_cons]
    have step : RT w 20 (PySem.setAdd a (.str ⟨#[c]⟩ tk)) s (fun _ s' => RT w (20 * cs.length) (forIn (strsFrom cs (tk + 1)) PUnit.unit f) s' (fun _ s'' => R s'')) := by
      refine rt_setAdd ho ha hel hl hfit hc fun b es2 ep2 t3 h2 h3 => ?_
      refine rt_for hf ha cs (xs ++ [c]) (tk + 1) _ es2 ep2 t3 R (withSet_get ho) h2 (e1 ▸ hnd) (e1 ▸ hlen) h3 fun es4 ep4 t4 h4 h5 => ?_
      have := h es4 ep4 t4 (e1 ▸ h4) h5
      dsimp only
      rw [withSet2, show s.toks + 1 + cs.length = s.toks + (c :: cs).length by rw [List.length_cons]; omega]
      exact this
    refine rt_le (rt_bind (n := 20) (n' := 20 * cs.length) (rt_mono (hf _ _ s step) (Nat.le_refl _) fun st s' q => ?_)) (by rw [List.length_cons]; omega)
    obtain ⟨rfl, q⟩ := q
    exact q
theorem rt_fieldsOf {a : Addr} {o : Obj} {vs : Array Value} {Q : Array Value → Shared → Prop} (ho : s.heap.get? a = some o) (hd : o.data = .fields vs) (h : Q vs s) : RT w 1 (fieldsOf (.ref a)) s Q := by
  simp only [fieldsOf]
  refine rt_le (rt_bind (n := 1) (n' := 0) (rt_load ho ?_)) (by omega)
  rw [hd]
  exact rt_pure h
theorem star_consts {env : Env} : ∀ l : List (Nat × Pos), starEach (l.map constE) env = l.map fun c => (false, eval (constE c) env)
  | [] => rfl
  | c :: l => by
    rw [List.map_cons, List.map_cons, ← star_consts l]
    rfl
theorem rt_inMain {o : Obj} {vs : Array Value} {Q : Bool → Shared → Prop} (ho : s.heap.get? 230 = some o) (hd : o.data = .fields vs) (h : ∀ b, Q b s) : RT w 2 (inMainModule cenv) s Q := by
  unfold inMainModule
  rw [show (cenv.code == Value.none) = false from rfl, if_neg Bool.false_ne_true]
  refine rt_le (rt_bind (n := 1) (n' := 1) (rt_fieldsOf ho hd ?_)) (by omega)
  split
  · exact rt_le (rt_bind (n := 1) (n' := 0) (rt_ask (rt_pure (h _)))) (by omega)
  · exact rt_le (rt_pure (h _)) (by omega)
theorem rt_setE {l : List (Nat × Pos)} {pos : Pos} {o : Obj} {vs : Array Value} {R : Value → Shared → Prop} (ho : s.heap.get? 230 = some o) (hd : o.data = .fields vs) (hroad : displayRoad 0 (l.map constE) = .unsure) (hlen : l.length ≤ 30) (hnd : (l.map (·.1)).Nodup) (ha : Nat.ble 11 s.heap.objs.size = true)
    (h : ∀ es ep t, ElemsAre w.params es (l.map (·.1)) → t.fits es.size = true → R (.ref s.heap.objs.size) { s with heap := s.heap.push (setO es ep t), toks := s.toks + l.length + l.length }) :
    RT w (100 + 30 * l.length) (eval (.Set (l.map constE) 0 pos) cenv) s R := by
  rw [arm_eval_Set]
  refine rt_le (rt_bind (n := 1) (n' := 90 + 30 * l.length) (rt_standAt ?_)) (by omega)
  refine rt_le (rt_bind (n := 2) (n' := 50 + 30 * l.length) (rt_inMain ho hd fun b => ?_)) (by omega)
  rw [star_consts, List.map_map, hroad]
  have hfi : ((l.map ((fun x : Bool × Sem Value => (x.1, do let v ← x.2; PySem.standAt pos; pure v)) ∘ fun c => (false, eval (constE c) cenv))).findIdx? (·.1)) = none := by
    rw [List.findIdx?_eq_none_iff]
    intro x hx
    obtain ⟨c, _, rfl⟩ := List.mem_map.mp hx
    rfl
  have hln : (l.map ((fun x : Bool × Sem Value => (x.1, do let v ← x.2; PySem.standAt pos; pure v)) ∘ fun c => (false, eval (constE c) cenv))).length = l.length := List.length_map ..
  have hmp : (l.map ((fun x : Bool × Sem Value => (x.1, do let v ← x.2; PySem.standAt pos; pure v)) ∘ fun c => (false, eval (constE c) cenv))).map (·.2) = l.map (fun c => do let v ← eval (constE c) cenv; PySem.standAt pos; pure v) := by
    rw [List.map_map]; rfl
  show RT w _ (setDisplay .unsure b (l.map ((fun x : Bool × Sem Value => (x.1, do let v ← x.2; PySem.standAt pos; pure v)) ∘ fun c => (false, eval (constE c) cenv)))) s R
  unfold setDisplay
  rw [show (DisplayRoad.unsure == DisplayRoad.constants) = false from rfl, if_neg Bool.false_ne_true]
  generalize l.map ((fun x : Bool × Sem Value => (x.1, do let v ← x.2; PySem.standAt pos; pure v)) ∘ fun c => (false, eval (constE c) cenv)) = L at hfi hln hmp ⊢
  have hn : (if L.length > 30 then 0 else (L.findIdx? (·.1)).getD L.length) = L.length := by
    rw [hfi, if_neg (by omega)]; rfl
  unfold newSet setsByText
  refine rt_le (rt_bind (n := 3) (n' := 40 + 30 * l.length) (rt_le (rt_bind (n := 1) (n' := 2) (rt_le (rt_bind (n := 1) (n' := 0) (rt_ask (rt_pure ?_))) (by omega))) (by omega))) (by omega)
  dsimp only
  simp only [newObj]
  rw [if_neg (show ¬ (#[] : Array (Int × Value)).size > sizeLine by rw [sizeLine_eq]; decide)]
  refine rt_le (rt_bind (n := 1) (n' := 0) (rt_alloc (rt_pure ?_))) (by omega)
  rw [hn, List.drop_length, List.take_length, hmp]
  dsimp only
  have h0 : (s.heap.push (setO #[] 0 (.fresh 0 0 (!(w.params.followText "set-order"))))).get? s.heap.objs.size = some (setO #[] 0 (.fresh 0 0 (!(w.params.followText "set-order")))) := Heap.get?_push_size _ rfl
  refine rt_le (rt_bind (n := 30 + 30 * l.length) (n' := 0) (rt_holding ?_)) (by omega)
  refine rt_le (rt_bind (n := 2 * l.length) (n' := 30 + 20 * l.length) (rt_evalAll l _ _ ?_)) (by omega)
  refine rt_le (rt_bind (n := 30 + 20 * l.length) (n' := 0) (rt_holding ?_)) (by omega)
  refine rt_le (rt_bind (n := 20 * l.length) (n' := 10) (rt_le (rt_for (a := s.heap.objs.size) (fun x P s hx => ?_) ha (l.map fun x : Nat × Pos => x.1) [] s.toks { s with heap := s.heap.push (setO #[] 0 (.fresh 0 0 (!(w.params.followText "set-order")))), toks := s.toks + l.length } #[] 0 _ _ h0 ⟨fun e he => by simp at he, fun c hc => by simp at hc, rfl⟩ (by rw [List.nil_append]; exact hnd) (by simpa using Nat.le_trans hlen (by omega)) rfl fun es2 ep2 t3 h2 h3 => ?_) (by rw [List.length_map]; omega))) (by omega)
  · refine rt_le (rt_bind (n := 20) (n' := 0) (rt_mono hx (Nat.le_refl _) fun b s' q => ?_)) (by omega)
    exact rt_pure ⟨rfl, q⟩
  · rw [if_pos (show (DisplayRoad.unsure == DisplayRoad.unsure) = true from rfl)]
    refine rt_le (rt_bind (n := 1) (n' := 5) (rt_rule ?_)) (by omega)
    unfold setUnled
    dsimp only
    rw [withSet_push]
    have h1 : (s.heap.push (setO es2 ep2 t3)).get? s.heap.objs.size = some (setO es2 ep2 t3) := Heap.get?_push_size _ rfl
    refine rt_le (rt_bind (n := 1) (n' := 2) (rt_setState h1 h3 ?_)) (by omega)
    refine rt_storeSet h1 ha (by rw [h2.size]; simpa using Nat.le_trans hlen (by omega)) ?_
    rw [withSet_put h1, withSet_push, List.forIn_nil]
    refine rt_pure (rt_pure ?_)
    rw [List.length_map]
    exact h _ _ _ h2 (by cases t3; exact h3)
end
end
end Mine
end
section
open PySem PySem.W PyProof.Rows
namespace Mine
noncomputable section
variable (P : Params)
noncomputable def vC0_2 : Obj := v0_2 P
noncomputable def vC0_3 : Obj := v6_3 P
noncomputable def vC0_12 : Obj := v7_12 P
noncomputable def vC0_199 : Obj := v3_199 P
noncomputable def vC0_227 : Obj := qD [kD P "__module__" 471 (.str "snowballstemmer.porter_stemmer" 462), kD P "__qualname__" 473 (.str "PorterStemmer" 472), kD P "__firstlineno__" 475 (.int 178 474)] 3
noncomputable def vC0_229 : Obj := o16 P
noncomputable def TC0 (P : Params) (g v : Obj) : BT := (((((((tr P g v).set 2 fun _ => vC0_2 P).set 3 fun _ => vC0_3 P).set 12 fun _ => vC0_12 P).set 199 fun _ => vC0_199 P).set 227 fun _ => vC0_227 P).set 229 fun _ => vC0_229 P)
noncomputable def SC0 (w : World) (g v : Obj) (os : OsState) : SharedT := st w (TC0 w.params g v) 232 476 os
noncomputable def clsT (w : World) (os : OsState) : Thread := match go w 64 (S6 w default default os) t6 with | some (_, t) => t | none => t6
noncomputable def clsF (w : World) (os : OsState) : Frame := match (clsT w os).stack with | f :: _ => f | [] => topFrame default
theorem pc_pre (w : World) (os : OsState) : go w 64 (S6 w default default os) t6 = some (SC0 w default default os, clsT w os) := by kernel_rfl
theorem pc_preT (w : World) (os : OsState) : clsT w os = ⟨PySem.W.Fast.tw11892475500146522536 PySem.W.Fast.tw14364793385576792824 cC, cC, ⟨178, 0, 496, 412⟩, clsF w os :: B0⟩ := by kernel_rfl
noncomputable def tC0 (w : World) (os : OsState) : Thread := restOf (cb.drop 0) cenv cC ⟨178, 0, 496, 412⟩ (clsF w os :: B0)
noncomputable def vC1_2 : Obj := v0_2 P
noncomputable def vC1_3 : Obj := v6_3 P
noncomputable def vC1_12 : Obj := v7_12 P
noncomputable def vC1_199 : Obj := v3_199 P
noncomputable def vC1_227 : Obj := qD [kD P "__module__" 471 (.str "snowballstemmer.porter_stemmer" 462), kD P "__qualname__" 473 (.str "PorterStemmer" 472), kD P "__firstlineno__" 475 (.int 178 474), kD P "g_v" 488 (.ref 232)] 4
noncomputable def vC1_229 : Obj := o16 P
noncomputable def TC1 (P : Params) (g v : Obj) : BT := (((((((tr P g v).set 2 fun _ => vC1_2 P).set 3 fun _ => vC1_3 P).set 12 fun _ => vC1_12 P).set 199 fun _ => vC1_199 P).set 227 fun _ => vC1_227 P).set 229 fun _ => vC1_229 P)
noncomputable def SC1 (w : World) (g v : Obj) (os : OsState) : SharedT := st w (TC1 w.params g v) 233 489 os
noncomputable def tC1 (w : World) (os : OsState) : Thread := restOf (cb.drop 1) cenv cC ⟨179, 4, 179, 7⟩ (clsF w os :: B0)
noncomputable def setL0 : List (Nat × Pos) := [(97, ⟨179, 11, 179, 14⟩), (101, ⟨179, 16, 179, 19⟩), (105, ⟨179, 21, 179, 24⟩), (111, ⟨179, 26, 179, 29⟩), (117, ⟨179, 31, 179, 34⟩), (121, ⟨179, 36, 179, 39⟩)]
theorem stmt0 : cb.drop 0 = Stmt.Assign [.Name "g_v" ⟨179, 4, 179, 7⟩] (.Set (setL0.map constE) 0 ⟨179, 10, 179, 40⟩) ⟨179, 4, 179, 40⟩ :: cb.drop 1 := by kernel_rfl
noncomputable def rest0 (v : Value) : Sem Flow := do standAt ⟨179, 4, 179, 7⟩; bindName cenv "g_v" v; pure .next
noncomputable def after0 : Flow → Sem Fin := fun f => match f with | .next => (execs (cb.drop 1) cenv).wrap doneF (leaveH cenv) id id | f => doneF f
theorem pcset0 (w : World) (es : Array (Int × Value)) (n : Nat) (tb : SetTable) (os : OsState) (q : Pos) : go w 8 (st w ((TC0 w.params default default).ins 232 (setO es n tb)) 233 488 os) ⟨(rest0 (.ref 232)).wrap after0 (leaveH cenv) id id, cC, q, clsF w os :: B0⟩ = some (SC1 w (setO es n tb) default os, tC1 w os) := by kernel_rfl
noncomputable def vC2_2 : Obj := v0_2 P
noncomputable def vC2_3 : Obj := v6_3 P
noncomputable def vC2_12 : Obj := v7_12 P
noncomputable def vC2_199 : Obj := v3_199 P
noncomputable def vC2_227 : Obj := qD [kD P "__module__" 471 (.str "snowballstemmer.porter_stemmer" 462), kD P "__qualname__" 473 (.str "PorterStemmer" 472), kD P "__firstlineno__" 475 (.int 178 474), kD P "g_v" 488 (.ref 232), kD P "g_v_WXY" 507 (.ref 233)] 5
noncomputable def vC2_229 : Obj := o16 P
noncomputable def TC2 (P : Params) (g v : Obj) : BT := (((((((tr P g v).set 2 fun _ => vC2_2 P).set 3 fun _ => vC2_3 P).set 12 fun _ => vC2_12 P).set 199 fun _ => vC2_199 P).set 227 fun _ => vC2_227 P).set 229 fun _ => vC2_229 P)
noncomputable def SC2 (w : World) (g v : Obj) (os : OsState) : SharedT := st w (TC2 w.params g v) 234 508 os
noncomputable def tC2 (w : World) (os : OsState) : Thread := restOf (cb.drop 2) cenv cC ⟨180, 4, 180, 11⟩ (clsF w os :: B0)
noncomputable def setL1 : List (Nat × Pos) := [(89, ⟨180, 15, 180, 18⟩), (97, ⟨180, 20, 180, 23⟩), (101, ⟨180, 25, 180, 28⟩), (105, ⟨180, 30, 180, 33⟩), (111, ⟨180, 35, 180, 38⟩), (117, ⟨180, 40, 180, 43⟩), (119, ⟨180, 45, 180, 48⟩), (120, ⟨180, 50, 180, 53⟩), (121, ⟨180, 55, 180, 58⟩)]
theorem stmt1 : cb.drop 1 = Stmt.Assign [.Name "g_v_WXY" ⟨180, 4, 180, 11⟩] (.Set (setL1.map constE) 0 ⟨180, 14, 180, 59⟩) ⟨180, 4, 180, 59⟩ :: cb.drop 2 := by kernel_rfl
noncomputable def rest1 (v : Value) : Sem Flow := do standAt ⟨180, 4, 180, 11⟩; bindName cenv "g_v_WXY" v; pure .next
noncomputable def after1 : Flow → Sem Fin := fun f => match f with | .next => (execs (cb.drop 2) cenv).wrap doneF (leaveH cenv) id id | f => doneF f
theorem pcset1 (w : World) (es : Array (Int × Value)) (n : Nat) (tb : SetTable) (es' : Array (Int × Value)) (n' : Nat) (tb' : SetTable) (os : OsState) (q : Pos) : go w 8 (st w ((TC1 w.params (setO es n tb) default).ins 233 (setO es' n' tb')) 234 507 os) ⟨(rest1 (.ref 233)).wrap after1 (leaveH cenv) id id, cC, q, clsF w os :: B0⟩ = some (SC2 w (setO es n tb) (setO es' n' tb') os, tC2 w os) := by kernel_rfl
noncomputable def vC3_2 : Obj := v0_2 P
noncomputable def vC3_3 : Obj := v6_3 P
noncomputable def vC3_12 : Obj := v7_12 P
noncomputable def vC3_199 : Obj := v3_199 P
noncomputable def vC3_227 : Obj := qD [kD P "__module__" 471 (.str "snowballstemmer.porter_stemmer" 462), kD P "__qualname__" 473 (.str "PorterStemmer" 472), kD P "__firstlineno__" 475 (.int 178 474), kD P "g_v" 488 (.ref 232), kD P "g_v_WXY" 507 (.ref 233), kD P "I_p2" 509 (.int 0 508)] 6
noncomputable def vC3_229 : Obj := o16 P
noncomputable def TC3 (P : Params) (g v : Obj) : BT := (((((((tr P g v).set 2 fun _ => vC3_2 P).set 3 fun _ => vC3_3 P).set 12 fun _ => vC3_12 P).set 199 fun _ => vC3_199 P).set 227 fun _ => vC3_227 P).set 229 fun _ => vC3_229 P)
noncomputable def SC3 (w : World) (g v : Obj) (os : OsState) : SharedT := st w (TC3 w.params g v) 234 510 os
noncomputable def tC3 (w : World) (os : OsState) : Thread := restOf (cb.drop 3) cenv cC ⟨181, 4, 181, 8⟩ (clsF w os :: B0)
set_option maxHeartbeats 0 in
theorem pc3 (w : World) (es : Array (Int × Value)) (n : Nat) (tb : SetTable) (es' : Array (Int × Value)) (n' : Nat) (tb' : SetTable) (os : OsState) : go w 10 (SC2 w (setO es n tb) (setO es' n' tb') os) (tC2 w os) = some (SC3 w (setO es n tb) (setO es' n' tb') os, tC3 w os) := by kernel_rfl
noncomputable def vC4_2 : Obj := v0_2 P
noncomputable def vC4_3 : Obj := v6_3 P
noncomputable def vC4_12 : Obj := v7_12 P
noncomputable def vC4_199 : Obj := v3_199 P
noncomputable def vC4_227 : Obj := qD [kD P "__module__" 471 (.str "snowballstemmer.porter_stemmer" 462), kD P "__qualname__" 473 (.str "PorterStemmer" 472), kD P "__firstlineno__" 475 (.int 178 474), kD P "g_v" 488 (.ref 232), kD P "g_v_WXY" 507 (.ref 233), kD P "I_p2" 509 (.int 0 508), kD P "I_p1" 511 (.int 0 510)] 7
noncomputable def vC4_229 : Obj := o16 P
noncomputable def TC4 (P : Params) (g v : Obj) : BT := (((((((tr P g v).set 2 fun _ => vC4_2 P).set 3 fun _ => vC4_3 P).set 12 fun _ => vC4_12 P).set 199 fun _ => vC4_199 P).set 227 fun _ => vC4_227 P).set 229 fun _ => vC4_229 P)
noncomputable def SC4 (w : World) (g v : Obj) (os : OsState) : SharedT := st w (TC4 w.params g v) 234 512 os
noncomputable def tC4 (w : World) (os : OsState) : Thread := restOf (cb.drop 4) cenv cC ⟨182, 4, 182, 8⟩ (clsF w os :: B0)
set_option maxHeartbeats 0 in
theorem pc4 (w : World) (es : Array (Int × Value)) (n : Nat) (tb : SetTable) (es' : Array (Int × Value)) (n' : Nat) (tb' : SetTable) (os : OsState) : go w 10 (SC3 w (setO es n tb) (setO es' n' tb') os) (tC3 w os) = some (SC4 w (setO es n tb) (setO es' n' tb') os, tC4 w os) := by kernel_rfl
noncomputable def vC5_2 : Obj := v0_2 P
noncomputable def vC5_3 : Obj := v6_3 P
noncomputable def vC5_12 : Obj := v7_12 P
noncomputable def vC5_199 : Obj := v3_199 P
noncomputable def vC5_227 : Obj := qD [kD P "__module__" 471 (.str "snowballstemmer.porter_stemmer" 462), kD P "__qualname__" 473 (.str "PorterStemmer" 472), kD P "__firstlineno__" 475 (.int 178 474), kD P "g_v" 488 (.ref 232), kD P "g_v_WXY" 507 (.ref 233), kD P "I_p2" 509 (.int 0 508), kD P "I_p1" 511 (.int 0 510), kD P "r_shortv" 518 (.ref 240)] 8
noncomputable def vC5_229 (P : Params) : Obj := qN [.int 184 0, .int 4 0, .ref 239]
noncomputable def TC5 (P : Params) (g v : Obj) : BT := (((((((tr P g v).set 2 fun _ => vC5_2 P).set 3 fun _ => vC5_3 P).set 12 fun _ => vC5_12 P).set 199 fun _ => vC5_199 P).set 227 fun _ => vC5_227 P).set 229 fun _ => vC5_229 P)
noncomputable def SC5 (w : World) (g v : Obj) (os : OsState) : SharedT := st w (TC5 w.params g v) 241 519 os
noncomputable def tC5 (w : World) (os : OsState) : Thread := restOf (cb.drop 5) cenv cC ⟨184, 4, 189, 53⟩ (clsF w os :: B0)
set_option maxHeartbeats 0 in
theorem pc5 (w : World) (es : Array (Int × Value)) (n : Nat) (tb : SetTable) (es' : Array (Int × Value)) (n' : Nat) (tb' : SetTable) (os : OsState) : go w 30 (SC4 w (setO es n tb) (setO es' n' tb') os) (tC4 w os) = some (SC5 w (setO es n tb) (setO es' n' tb') os, tC5 w os) := by kernel_rfl
noncomputable def vC6_2 : Obj := v0_2 P
noncomputable def vC6_3 : Obj := v6_3 P
noncomputable def vC6_12 : Obj := v7_12 P
noncomputable def vC6_199 : Obj := v3_199 P
noncomputable def vC6_227 : Obj := qD [kD P "__module__" 471 (.str "snowballstemmer.porter_stemmer" 462), kD P "__qualname__" 473 (.str "PorterStemmer" 472), kD P "__firstlineno__" 475 (.int 178 474), kD P "g_v" 488 (.ref 232), kD P "g_v_WXY" 507 (.ref 233), kD P "I_p2" 509 (.int 0 508), kD P "I_p1" 511 (.int 0 510), kD P "r_shortv" 518 (.ref 240), kD P "r_R1" 525 (.ref 247)] 9
noncomputable def vC6_229 (P : Params) : Obj := qN [.int 184 0, .int 4 0, .ref 239, .int 191 0, .int 4 0, .ref 246]
noncomputable def TC6 (P : Params) (g v : Obj) : BT := (((((((tr P g v).set 2 fun _ => vC6_2 P).set 3 fun _ => vC6_3 P).set 12 fun _ => vC6_12 P).set 199 fun _ => vC6_199 P).set 227 fun _ => vC6_227 P).set 229 fun _ => vC6_229 P)
noncomputable def SC6 (w : World) (g v : Obj) (os : OsState) : SharedT := st w (TC6 w.params g v) 248 526 os
noncomputable def tC6 (w : World) (os : OsState) : Thread := restOf (cb.drop 6) cenv cC ⟨191, 4, 192, 39⟩ (clsF w os :: B0)
set_option maxHeartbeats 0 in
theorem pc6 (w : World) (es : Array (Int × Value)) (n : Nat) (tb : SetTable) (es' : Array (Int × Value)) (n' : Nat) (tb' : SetTable) (os : OsState) : go w 30 (SC5 w (setO es n tb) (setO es' n' tb') os) (tC5 w os) = some (SC6 w (setO es n tb) (setO es' n' tb') os, tC6 w os) := by kernel_rfl
noncomputable def vC7_2 : Obj := v0_2 P
noncomputable def vC7_3 : Obj := v6_3 P
noncomputable def vC7_12 : Obj := v7_12 P
noncomputable def vC7_199 : Obj := v3_199 P
noncomputable def vC7_227 : Obj := qD [kD P "__module__" 471 (.str "snowballstemmer.porter_stemmer" 462), kD P "__qualname__" 473 (.str "PorterStemmer" 472), kD P "__firstlineno__" 475 (.int 178 474), kD P "g_v" 488 (.ref 232), kD P "g_v_WXY" 507 (.ref 233), kD P "I_p2" 509 (.int 0 508), kD P "I_p1" 511 (.int 0 510), kD P "r_shortv" 518 (.ref 240), kD P "r_R1" 525 (.ref 247), kD P "r_R2" 532 (.ref 254)] 10
noncomputable def vC7_229 (P : Params) : Obj := qN [.int 184 0, .int 4 0, .ref 239, .int 191 0, .int 4 0, .ref 246, .int 194 0, .int 4 0, .ref 253]
noncomputable def TC7 (P : Params) (g v : Obj) : BT := (((((((tr P g v).set 2 fun _ => vC7_2 P).set 3 fun _ => vC7_3 P).set 12 fun _ => vC7_12 P).set 199 fun _ => vC7_199 P).set 227 fun _ => vC7_227 P).set 229 fun _ => vC7_229 P)
noncomputable def SC7 (w : World) (g v : Obj) (os : OsState) : SharedT := st w (TC7 w.params g v) 255 533 os
noncomputable def tC7 (w : World) (os : OsState) : Thread := restOf (cb.drop 7) cenv cC ⟨194, 4, 195, 39⟩ (clsF w os :: B0)
set_option maxHeartbeats 0 in
theorem pc7 (w : World) (es : Array (Int × Value)) (n : Nat) (tb : SetTable) (es' : Array (Int × Value)) (n' : Nat) (tb' : SetTable) (os : OsState) : go w 30 (SC6 w (setO es n tb) (setO es' n' tb') os) (tC6 w os) = some (SC7 w (setO es n tb) (setO es' n' tb') os, tC7 w os) := by kernel_rfl
noncomputable def vC8_2 : Obj := v0_2 P
noncomputable def vC8_3 : Obj := v6_3 P
noncomputable def vC8_12 : Obj := v7_12 P
noncomputable def vC8_199 : Obj := v3_199 P
noncomputable def vC8_227 : Obj := qD [kD P "__module__" 471 (.str "snowballstemmer.porter_stemmer" 462), kD P "__qualname__" 473 (.str "PorterStemmer" 472), kD P "__firstlineno__" 475 (.int 178 474), kD P "g_v" 488 (.ref 232), kD P "g_v_WXY" 507 (.ref 233), kD P "I_p2" 509 (.int 0 508), kD P "I_p1" 511 (.int 0 510), kD P "r_shortv" 518 (.ref 240), kD P "r_R1" 525 (.ref 247), kD P "r_R2" 532 (.ref 254), kD P "r_Step_1a" 540 (.ref 261)] 11
noncomputable def vC8_229 (P : Params) : Obj := qN [.int 184 0, .int 4 0, .ref 239, .int 191 0, .int 4 0, .ref 246, .int 194 0, .int 4 0, .ref 253, .int 197 0, .int 4 0, .ref 260]
noncomputable def TC8 (P : Params) (g v : Obj) : BT := (((((((tr P g v).set 2 fun _ => vC8_2 P).set 3 fun _ => vC8_3 P).set 12 fun _ => vC8_12 P).set 199 fun _ => vC8_199 P).set 227 fun _ => vC8_227 P).set 229 fun _ => vC8_229 P)
noncomputable def SC8 (w : World) (g v : Obj) (os : OsState) : SharedT := st w (TC8 w.params g v) 262 541 os
noncomputable def tC8 (w : World) (os : OsState) : Thread := restOf (cb.drop 8) cenv cC ⟨197, 4, 205, 19⟩ (clsF w os :: B0)
set_option maxHeartbeats 0 in
theorem pc8 (w : World) (es : Array (Int × Value)) (n : Nat) (tb : SetTable) (es' : Array (Int × Value)) (n' : Nat) (tb' : SetTable) (os : OsState) : go w 31 (SC7 w (setO es n tb) (setO es' n' tb') os) (tC7 w os) = some (SC8 w (setO es n tb) (setO es' n' tb') os, tC8 w os) := by kernel_rfl
noncomputable def vC9_2 : Obj := v0_2 P
noncomputable def vC9_3 : Obj := v6_3 P
noncomputable def vC9_12 : Obj := v7_12 P
noncomputable def vC9_199 : Obj := v3_199 P
noncomputable def vC9_227 : Obj := qD [kD P "__module__" 471 (.str "snowballstemmer.porter_stemmer" 462), kD P "__qualname__" 473 (.str "PorterStemmer" 472), kD P "__firstlineno__" 475 (.int 178 474), kD P "g_v" 488 (.ref 232), kD P "g_v_WXY" 507 (.ref 233), kD P "I_p2" 509 (.int 0 508), kD P "I_p1" 511 (.int 0 510), kD P "r_shortv" 518 (.ref 240), kD P "r_R1" 525 (.ref 247), kD P "r_R2" 532 (.ref 254), kD P "r_Step_1a" 540 (.ref 261), kD P "r_Step_1b" 552 (.ref 268)] 12
noncomputable def vC9_229 (P : Params) : Obj := qN [.int 184 0, .int 4 0, .ref 239, .int 191 0, .int 4 0, .ref 246, .int 194 0, .int 4 0, .ref 253, .int 197 0, .int 4 0, .ref 260, .int 207 0, .int 4 0, .ref 267]
noncomputable def TC9 (P : Params) (g v : Obj) : BT := (((((((tr P g v).set 2 fun _ => vC9_2 P).set 3 fun _ => vC9_3 P).set 12 fun _ => vC9_12 P).set 199 fun _ => vC9_199 P).set 227 fun _ => vC9_227 P).set 229 fun _ => vC9_229 P)
noncomputable def SC9 (w : World) (g v : Obj) (os : OsState) : SharedT := st w (TC9 w.params g v) 269 553 os
noncomputable def tC9 (w : World) (os : OsState) : Thread := restOf (cb.drop 9) cenv cC ⟨207, 4, 248, 19⟩ (clsF w os :: B0)
set_option maxHeartbeats 0 in
theorem pc9 (w : World) (es : Array (Int × Value)) (n : Nat) (tb : SetTable) (es' : Array (Int × Value)) (n' : Nat) (tb' : SetTable) (os : OsState) : go w 35 (SC8 w (setO es n tb) (setO es' n' tb') os) (tC8 w os) = some (SC9 w (setO es n tb) (setO es' n' tb') os, tC9 w os) := by kernel_rfl
noncomputable def vC10_2 : Obj := v0_2 P
noncomputable def vC10_3 : Obj := v6_3 P
noncomputable def vC10_12 : Obj := v7_12 P
noncomputable def vC10_199 : Obj := v3_199 P
noncomputable def vC10_227 : Obj := qD [kD P "__module__" 471 (.str "snowballstemmer.porter_stemmer" 462), kD P "__qualname__" 473 (.str "PorterStemmer" 472), kD P "__firstlineno__" 475 (.int 178 474), kD P "g_v" 488 (.ref 232), kD P "g_v_WXY" 507 (.ref 233), kD P "I_p2" 509 (.int 0 508), kD P "I_p1" 511 (.int 0 510), kD P "r_shortv" 518 (.ref 240), kD P "r_R1" 525 (.ref 247), kD P "r_R2" 532 (.ref 254), kD P "r_Step_1a" 540 (.ref 261), kD P "r_Step_1b" 552 (.ref 268), kD P "r_Step_1c" 559 (.ref 275)] 13
noncomputable def vC10_229 (P : Params) : Obj := qN [.int 184 0, .int 4 0, .ref 239, .int 191 0, .int 4 0, .ref 246, .int 194 0, .int 4 0, .ref 253, .int 197 0, .int 4 0, .ref 260, .int 207 0, .int 4 0, .ref 267, .int 250 0, .int 4 0, .ref 274]
noncomputable def TC10 (P : Params) (g v : Obj) : BT := (((((((tr P g v).set 2 fun _ => vC10_2 P).set 3 fun _ => vC10_3 P).set 12 fun _ => vC10_12 P).set 199 fun _ => vC10_199 P).set 227 fun _ => vC10_227 P).set 229 fun _ => vC10_229 P)
noncomputable def SC10 (w : World) (g v : Obj) (os : OsState) : SharedT := st w (TC10 w.params g v) 276 560 os
noncomputable def tC10 (w : World) (os : OsState) : Thread := restOf (cb.drop 10) cenv cC ⟨250, 4, 269, 19⟩ (clsF w os :: B0)
set_option maxHeartbeats 0 in
theorem pc10 (w : World) (es : Array (Int × Value)) (n : Nat) (tb : SetTable) (es' : Array (Int × Value)) (n' : Nat) (tb' : SetTable) (os : OsState) : go w 30 (SC9 w (setO es n tb) (setO es' n' tb') os) (tC9 w os) = some (SC10 w (setO es n tb) (setO es' n' tb') os, tC10 w os) := by kernel_rfl
noncomputable def vC11_2 : Obj := v0_2 P
noncomputable def vC11_3 : Obj := v6_3 P
noncomputable def vC11_12 : Obj := v7_12 P
noncomputable def vC11_199 : Obj := v3_199 P
noncomputable def vC11_227 : Obj := qD [kD P "__module__" 471 (.str "snowballstemmer.porter_stemmer" 462), kD P "__qualname__" 473 (.str "PorterStemmer" 472), kD P "__firstlineno__" 475 (.int 178 474), kD P "g_v" 488 (.ref 232), kD P "g_v_WXY" 507 (.ref 233), kD P "I_p2" 509 (.int 0 508), kD P "I_p1" 511 (.int 0 510), kD P "r_shortv" 518 (.ref 240), kD P "r_R1" 525 (.ref 247), kD P "r_R2" 532 (.ref 254), kD P "r_Step_1a" 540 (.ref 261), kD P "r_Step_1b" 552 (.ref 268), kD P "r_Step_1c" 559 (.ref 275), kD P "r_Step_2" 567 (.ref 282)] 14
noncomputable def vC11_229 (P : Params) : Obj := qN [.int 184 0, .int 4 0, .ref 239, .int 191 0, .int 4 0, .ref 246, .int 194 0, .int 4 0, .ref 253, .int 197 0, .int 4 0, .ref 260, .int 207 0, .int 4 0, .ref 267, .int 250 0, .int 4 0, .ref 274, .int 271 0, .int 4 0, .ref 281]
noncomputable def TC11 (P : Params) (g v : Obj) : BT := (((((((tr P g v).set 2 fun _ => vC11_2 P).set 3 fun _ => vC11_3 P).set 12 fun _ => vC11_12 P).set 199 fun _ => vC11_199 P).set 227 fun _ => vC11_227 P).set 229 fun _ => vC11_229 P)
noncomputable def SC11 (w : World) (g v : Obj) (os : OsState) : SharedT := st w (TC11 w.params g v) 283 568 os
noncomputable def tC11 (w : World) (os : OsState) : Thread := restOf (cb.drop 11) cenv cC ⟨271, 4, 280, 19⟩ (clsF w os :: B0)
set_option maxHeartbeats 0 in
theorem pc11 (w : World) (es : Array (Int × Value)) (n : Nat) (tb : SetTable) (es' : Array (Int × Value)) (n' : Nat) (tb' : SetTable) (os : OsState) : go w 31 (SC10 w (setO es n tb) (setO es' n' tb') os) (tC10 w os) = some (SC11 w (setO es n tb) (setO es' n' tb') os, tC11 w os) := by kernel_rfl
noncomputable def vC12_2 : Obj := v0_2 P
noncomputable def vC12_3 : Obj := v6_3 P
noncomputable def vC12_12 : Obj := v7_12 P
noncomputable def vC12_199 : Obj := v3_199 P
noncomputable def vC12_227 : Obj := qD [kD P "__module__" 471 (.str "snowballstemmer.porter_stemmer" 462), kD P "__qualname__" 473 (.str "PorterStemmer" 472), kD P "__firstlineno__" 475 (.int 178 474), kD P "g_v" 488 (.ref 232), kD P "g_v_WXY" 507 (.ref 233), kD P "I_p2" 509 (.int 0 508), kD P "I_p1" 511 (.int 0 510), kD P "r_shortv" 518 (.ref 240), kD P "r_R1" 525 (.ref 247), kD P "r_R2" 532 (.ref 254), kD P "r_Step_1a" 540 (.ref 261), kD P "r_Step_1b" 552 (.ref 268), kD P "r_Step_1c" 559 (.ref 275), kD P "r_Step_2" 567 (.ref 282), kD P "r_Step_3" 575 (.ref 289)] 15
noncomputable def vC12_229 (P : Params) : Obj := qN [.int 184 0, .int 4 0, .ref 239, .int 191 0, .int 4 0, .ref 246, .int 194 0, .int 4 0, .ref 253, .int 197 0, .int 4 0, .ref 260, .int 207 0, .int 4 0, .ref 267, .int 250 0, .int 4 0, .ref 274, .int 271 0, .int 4 0, .ref 281, .int 282 0, .int 4 0, .ref 288]
noncomputable def TC12 (P : Params) (g v : Obj) : BT := (((((((tr P g v).set 2 fun _ => vC12_2 P).set 3 fun _ => vC12_3 P).set 12 fun _ => vC12_12 P).set 199 fun _ => vC12_199 P).set 227 fun _ => vC12_227 P).set 229 fun _ => vC12_229 P)
noncomputable def SC12 (w : World) (g v : Obj) (os : OsState) : SharedT := st w (TC12 w.params g v) 290 576 os
noncomputable def tC12 (w : World) (os : OsState) : Thread := restOf (cb.drop 12) cenv cC ⟨282, 4, 291, 19⟩ (clsF w os :: B0)
set_option maxHeartbeats 0 in
theorem pc12 (w : World) (es : Array (Int × Value)) (n : Nat) (tb : SetTable) (es' : Array (Int × Value)) (n' : Nat) (tb' : SetTable) (os : OsState) : go w 31 (SC11 w (setO es n tb) (setO es' n' tb') os) (tC11 w os) = some (SC12 w (setO es n tb) (setO es' n' tb') os, tC12 w os) := by kernel_rfl
noncomputable def vC13_2 : Obj := v0_2 P
noncomputable def vC13_3 : Obj := v6_3 P
noncomputable def vC13_12 : Obj := v7_12 P
noncomputable def vC13_199 : Obj := v3_199 P
noncomputable def vC13_227 : Obj := qD [kD P "__module__" 471 (.str "snowballstemmer.porter_stemmer" 462), kD P "__qualname__" 473 (.str "PorterStemmer" 472), kD P "__firstlineno__" 475 (.int 178 474), kD P "g_v" 488 (.ref 232), kD P "g_v_WXY" 507 (.ref 233), kD P "I_p2" 509 (.int 0 508), kD P "I_p1" 511 (.int 0 510), kD P "r_shortv" 518 (.ref 240), kD P "r_R1" 525 (.ref 247), kD P "r_R2" 532 (.ref 254), kD P "r_Step_1a" 540 (.ref 261), kD P "r_Step_1b" 552 (.ref 268), kD P "r_Step_1c" 559 (.ref 275), kD P "r_Step_2" 567 (.ref 282), kD P "r_Step_3" 575 (.ref 289), kD P "r_Step_4" 583 (.ref 296)] 16
noncomputable def vC13_229 (P : Params) : Obj := qN [.int 184 0, .int 4 0, .ref 239, .int 191 0, .int 4 0, .ref 246, .int 194 0, .int 4 0, .ref 253, .int 197 0, .int 4 0, .ref 260, .int 207 0, .int 4 0, .ref 267, .int 250 0, .int 4 0, .ref 274, .int 271 0, .int 4 0, .ref 281, .int 282 0, .int 4 0, .ref 288, .int 293 0, .int 4 0, .ref 295]
noncomputable def TC13 (P : Params) (g v : Obj) : BT := (((((((tr P g v).set 2 fun _ => vC13_2 P).set 3 fun _ => vC13_3 P).set 12 fun _ => vC13_12 P).set 199 fun _ => vC13_199 P).set 227 fun _ => vC13_227 P).set 229 fun _ => vC13_229 P)
noncomputable def SC13 (w : World) (g v : Obj) (os : OsState) : SharedT := st w (TC13 w.params g v) 297 584 os
noncomputable def tC13 (w : World) (os : OsState) : Thread := restOf (cb.drop 13) cenv cC ⟨293, 4, 317, 19⟩ (clsF w os :: B0)
set_option maxHeartbeats 0 in
theorem pc13 (w : World) (es : Array (Int × Value)) (n : Nat) (tb : SetTable) (es' : Array (Int × Value)) (n' : Nat) (tb' : SetTable) (os : OsState) : go w 31 (SC12 w (setO es n tb) (setO es' n' tb') os) (tC12 w os) = some (SC13 w (setO es n tb) (setO es' n' tb') os, tC13 w os) := by kernel_rfl
noncomputable def vC14_2 : Obj := v0_2 P
noncomputable def vC14_3 : Obj := v6_3 P
noncomputable def vC14_12 : Obj := v7_12 P
noncomputable def vC14_199 : Obj := v3_199 P
noncomputable def vC14_227 : Obj := qD [kD P "__module__" 471 (.str "snowballstemmer.porter_stemmer" 462), kD P "__qualname__" 473 (.str "PorterStemmer" 472), kD P "__firstlineno__" 475 (.int 178 474), kD P "g_v" 488 (.ref 232), kD P "g_v_WXY" 507 (.ref 233), kD P "I_p2" 509 (.int 0 508), kD P "I_p1" 511 (.int 0 510), kD P "r_shortv" 518 (.ref 240), kD P "r_R1" 525 (.ref 247), kD P "r_R2" 532 (.ref 254), kD P "r_Step_1a" 540 (.ref 261), kD P "r_Step_1b" 552 (.ref 268), kD P "r_Step_1c" 559 (.ref 275), kD P "r_Step_2" 567 (.ref 282), kD P "r_Step_3" 575 (.ref 289), kD P "r_Step_4" 583 (.ref 296), kD P "r_Step_5a" 591 (.ref 303)] 17
noncomputable def vC14_229 (P : Params) : Obj := qN [.int 184 0, .int 4 0, .ref 239, .int 191 0, .int 4 0, .ref 246, .int 194 0, .int 4 0, .ref 253, .int 197 0, .int 4 0, .ref 260, .int 207 0, .int 4 0, .ref 267, .int 250 0, .int 4 0, .ref 274, .int 271 0, .int 4 0, .ref 281, .int 282 0, .int 4 0, .ref 288, .int 293 0, .int 4 0, .ref 295, .int 319 0, .int 4 0, .ref 302]
noncomputable def TC14 (P : Params) (g v : Obj) : BT := (((((((tr P g v).set 2 fun _ => vC14_2 P).set 3 fun _ => vC14_3 P).set 12 fun _ => vC14_12 P).set 199 fun _ => vC14_199 P).set 227 fun _ => vC14_227 P).set 229 fun _ => vC14_229 P)
noncomputable def SC14 (w : World) (g v : Obj) (os : OsState) : SharedT := st w (TC14 w.params g v) 304 592 os
noncomputable def tC14 (w : World) (os : OsState) : Thread := restOf (cb.drop 14) cenv cC ⟨319, 4, 344, 19⟩ (clsF w os :: B0)
set_option maxHeartbeats 0 in
theorem pc14 (w : World) (es : Array (Int × Value)) (n : Nat) (tb : SetTable) (es' : Array (Int × Value)) (n' : Nat) (tb' : SetTable) (os : OsState) : go w 31 (SC13 w (setO es n tb) (setO es' n' tb') os) (tC13 w os) = some (SC14 w (setO es n tb) (setO es' n' tb') os, tC14 w os) := by kernel_rfl
noncomputable def vC15_2 : Obj := v0_2 P
noncomputable def vC15_3 : Obj := v6_3 P
noncomputable def vC15_12 : Obj := v7_12 P
noncomputable def vC15_199 : Obj := v3_199 P
noncomputable def vC15_227 : Obj := qD [kD P "__module__" 471 (.str "snowballstemmer.porter_stemmer" 462), kD P "__qualname__" 473 (.str "PorterStemmer" 472), kD P "__firstlineno__" 475 (.int 178 474), kD P "g_v" 488 (.ref 232), kD P "g_v_WXY" 507 (.ref 233), kD P "I_p2" 509 (.int 0 508), kD P "I_p1" 511 (.int 0 510), kD P "r_shortv" 518 (.ref 240), kD P "r_R1" 525 (.ref 247), kD P "r_R2" 532 (.ref 254), kD P "r_Step_1a" 540 (.ref 261), kD P "r_Step_1b" 552 (.ref 268), kD P "r_Step_1c" 559 (.ref 275), kD P "r_Step_2" 567 (.ref 282), kD P "r_Step_3" 575 (.ref 289), kD P "r_Step_4" 583 (.ref 296), kD P "r_Step_5a" 591 (.ref 303), kD P "r_Step_5b" 598 (.ref 310)] 18
noncomputable def vC15_229 (P : Params) : Obj := qN [.int 184 0, .int 4 0, .ref 239, .int 191 0, .int 4 0, .ref 246, .int 194 0, .int 4 0, .ref 253, .int 197 0, .int 4 0, .ref 260, .int 207 0, .int 4 0, .ref 267, .int 250 0, .int 4 0, .ref 274, .int 271 0, .int 4 0, .ref 281, .int 282 0, .int 4 0, .ref 288, .int 293 0, .int 4 0, .ref 295, .int 319 0, .int 4 0, .ref 302, .int 346 0, .int 4 0, .ref 309]
noncomputable def TC15 (P : Params) (g v : Obj) : BT := (((((((tr P g v).set 2 fun _ => vC15_2 P).set 3 fun _ => vC15_3 P).set 12 fun _ => vC15_12 P).set 199 fun _ => vC15_199 P).set 227 fun _ => vC15_227 P).set 229 fun _ => vC15_229 P)
noncomputable def SC15 (w : World) (g v : Obj) (os : OsState) : SharedT := st w (TC15 w.params g v) 311 599 os
noncomputable def tC15 (w : World) (os : OsState) : Thread := restOf (cb.drop 15) cenv cC ⟨346, 4, 358, 19⟩ (clsF w os :: B0)
set_option maxHeartbeats 0 in
theorem pc15 (w : World) (es : Array (Int × Value)) (n : Nat) (tb : SetTable) (es' : Array (Int × Value)) (n' : Nat) (tb' : SetTable) (os : OsState) : go w 30 (SC14 w (setO es n tb) (setO es' n' tb') os) (tC14 w os) = some (SC15 w (setO es n tb) (setO es' n' tb') os, tC15 w os) := by kernel_rfl
noncomputable def vC16_2 : Obj := v0_2 P
noncomputable def vC16_3 : Obj := v6_3 P
noncomputable def vC16_12 : Obj := v7_12 P
noncomputable def vC16_199 : Obj := v3_199 P
noncomputable def vC16_227 : Obj := qD [kD P "__module__" 471 (.str "snowballstemmer.porter_stemmer" 462), kD P "__qualname__" 473 (.str "PorterStemmer" 472), kD P "__firstlineno__" 475 (.int 178 474), kD P "g_v" 488 (.ref 232), kD P "g_v_WXY" 507 (.ref 233), kD P "I_p2" 509 (.int 0 508), kD P "I_p1" 511 (.int 0 510), kD P "r_shortv" 518 (.ref 240), kD P "r_R1" 525 (.ref 247), kD P "r_R2" 532 (.ref 254), kD P "r_Step_1a" 540 (.ref 261), kD P "r_Step_1b" 552 (.ref 268), kD P "r_Step_1c" 559 (.ref 275), kD P "r_Step_2" 567 (.ref 282), kD P "r_Step_3" 575 (.ref 289), kD P "r_Step_4" 583 (.ref 296), kD P "r_Step_5a" 591 (.ref 303), kD P "r_Step_5b" 598 (.ref 310), kD P "_stem" 622 (.ref 317)] 19
noncomputable def TC16 (P : Params) (g v : Obj) : BT := ((((((tr P g v).set 2 fun _ => vC16_2 P).set 3 fun _ => vC16_3 P).set 12 fun _ => vC16_12 P).set 199 fun _ => vC16_199 P).set 227 fun _ => vC16_227 P)
noncomputable def SC16 (w : World) (g v : Obj) (os : OsState) : SharedT := st w (TC16 w.params g v) 318 623 os
noncomputable def tC16 (w : World) (os : OsState) : Thread := restOf (cb.drop 16) cenv cC ⟨360, 4, 487, 19⟩ (clsF w os :: B0)
set_option maxHeartbeats 0 in
theorem pc16 (w : World) (es : Array (Int × Value)) (n : Nat) (tb : SetTable) (es' : Array (Int × Value)) (n' : Nat) (tb' : SetTable) (os : OsState) : go w 47 (SC15 w (setO es n tb) (setO es' n' tb') os) (tC15 w os) = some (SC16 w (setO es n tb) (setO es' n' tb') os, tC16 w os) := by kernel_rfl
noncomputable def vC17_2 : Obj := v0_2 P
noncomputable def vC17_3 : Obj := v6_3 P
noncomputable def vC17_12 : Obj := v7_12 P
noncomputable def vC17_199 : Obj := v3_199 P
noncomputable def vC17_227 : Obj := qD [kD P "__module__" 471 (.str "snowballstemmer.porter_stemmer" 462), kD P "__qualname__" 473 (.str "PorterStemmer" 472), kD P "__firstlineno__" 475 (.int 178 474), kD P "g_v" 488 (.ref 232), kD P "g_v_WXY" 507 (.ref 233), kD P "I_p2" 509 (.int 0 508), kD P "I_p1" 511 (.int 0 510), kD P "r_shortv" 518 (.ref 240), kD P "r_R1" 525 (.ref 247), kD P "r_R2" 532 (.ref 254), kD P "r_Step_1a" 540 (.ref 261), kD P "r_Step_1b" 552 (.ref 268), kD P "r_Step_1c" 559 (.ref 275), kD P "r_Step_2" 567 (.ref 282), kD P "r_Step_3" 575 (.ref 289), kD P "r_Step_4" 583 (.ref 296), kD P "r_Step_5a" 591 (.ref 303), kD P "r_Step_5b" 598 (.ref 310), kD P "_stem" 622 (.ref 317), kD P "a_0" 677 (.ref 330)] 20
noncomputable def TC17 (P : Params) (g v : Obj) : BT := ((((((tr P g v).set 2 fun _ => vC17_2 P).set 3 fun _ => vC17_3 P).set 12 fun _ => vC17_12 P).set 199 fun _ => vC17_199 P).set 227 fun _ => vC17_227 P)
noncomputable def SC17 (w : World) (g v : Obj) (os : OsState) : SharedT := st w (TC17 w.params g v) 331 678 os
noncomputable def tC17 (w : World) (os : OsState) : Thread := restOf (cb.drop 17) cenv cC ⟨488, 4, 488, 7⟩ (clsF w os :: B0)
set_option maxHeartbeats 0 in
theorem pc17 (w : World) (es : Array (Int × Value)) (n : Nat) (tb : SetTable) (es' : Array (Int × Value)) (n' : Nat) (tb' : SetTable) (os : OsState) : go w 681 (SC16 w (setO es n tb) (setO es' n' tb') os) (tC16 w os) = some (SC17 w (setO es n tb) (setO es' n' tb') os, tC17 w os) := by kernel_rfl
noncomputable def vC18_2 : Obj := v0_2 P
noncomputable def vC18_3 : Obj := v6_3 P
noncomputable def vC18_12 : Obj := v7_12 P
noncomputable def vC18_199 : Obj := v3_199 P
noncomputable def vC18_227 : Obj := qD [kD P "__module__" 471 (.str "snowballstemmer.porter_stemmer" 462), kD P "__qualname__" 473 (.str "PorterStemmer" 472), kD P "__firstlineno__" 475 (.int 178 474), kD P "g_v" 488 (.ref 232), kD P "g_v_WXY" 507 (.ref 233), kD P "I_p2" 509 (.int 0 508), kD P "I_p1" 511 (.int 0 510), kD P "r_shortv" 518 (.ref 240), kD P "r_R1" 525 (.ref 247), kD P "r_R2" 532 (.ref 254), kD P "r_Step_1a" 540 (.ref 261), kD P "r_Step_1b" 552 (.ref 268), kD P "r_Step_1c" 559 (.ref 275), kD P "r_Step_2" 567 (.ref 282), kD P "r_Step_3" 575 (.ref 289), kD P "r_Step_4" 583 (.ref 296), kD P "r_Step_5a" 591 (.ref 303), kD P "r_Step_5b" 598 (.ref 310), kD P "_stem" 622 (.ref 317), kD P "a_0" 677 (.ref 330), kD P "as_0" 681 (.ref 331)] 21
noncomputable def TC18 (P : Params) (g v : Obj) : BT := ((((((tr P g v).set 2 fun _ => vC18_2 P).set 3 fun _ => vC18_3 P).set 12 fun _ => vC18_12 P).set 199 fun _ => vC18_199 P).set 227 fun _ => vC18_227 P)
noncomputable def SC18 (w : World) (g v : Obj) (os : OsState) : SharedT := st w (TC18 w.params g v) 332 682 os
noncomputable def tC18 (w : World) (os : OsState) : Thread := restOf (cb.drop 18) cenv cC ⟨489, 4, 489, 8⟩ (clsF w os :: B0)
set_option maxHeartbeats 0 in
theorem pc18 (w : World) (es : Array (Int × Value)) (n : Nat) (tb : SetTable) (es' : Array (Int × Value)) (n' : Nat) (tb' : SetTable) (os : OsState) : go w 14 (SC17 w (setO es n tb) (setO es' n' tb') os) (tC17 w os) = some (SC18 w (setO es n tb) (setO es' n' tb') os, tC18 w os) := by kernel_rfl
noncomputable def vC19_2 : Obj := v0_2 P
noncomputable def vC19_3 : Obj := v6_3 P
noncomputable def vC19_12 : Obj := v7_12 P
noncomputable def vC19_199 : Obj := v3_199 P
noncomputable def vC19_227 : Obj := qD [kD P "__module__" 471 (.str "snowballstemmer.porter_stemmer" 462), kD P "__qualname__" 473 (.str "PorterStemmer" 472), kD P "__firstlineno__" 475 (.int 178 474), kD P "g_v" 488 (.ref 232), kD P "g_v_WXY" 507 (.ref 233), kD P "I_p2" 509 (.int 0 508), kD P "I_p1" 511 (.int 0 510), kD P "r_shortv" 518 (.ref 240), kD P "r_R1" 525 (.ref 247), kD P "r_R2" 532 (.ref 254), kD P "r_Step_1a" 540 (.ref 261), kD P "r_Step_1b" 552 (.ref 268), kD P "r_Step_1c" 559 (.ref 275), kD P "r_Step_2" 567 (.ref 282), kD P "r_Step_3" 575 (.ref 289), kD P "r_Step_4" 583 (.ref 296), kD P "r_Step_5a" 591 (.ref 303), kD P "r_Step_5b" 598 (.ref 310), kD P "_stem" 622 (.ref 317), kD P "a_0" 677 (.ref 330), kD P "as_0" 681 (.ref 331), kD P "a_1" 852 (.ref 371)] 22
noncomputable def TC19 (P : Params) (g v : Obj) : BT := ((((((tr P g v).set 2 fun _ => vC19_2 P).set 3 fun _ => vC19_3 P).set 12 fun _ => vC19_12 P).set 199 fun _ => vC19_199 P).set 227 fun _ => vC19_227 P)
noncomputable def SC19 (w : World) (g v : Obj) (os : OsState) : SharedT := st w (TC19 w.params g v) 372 853 os
noncomputable def tC19 (w : World) (os : OsState) : Thread := restOf (cb.drop 19) cenv cC ⟨490, 4, 490, 7⟩ (clsF w os :: B0)
set_option maxHeartbeats 0 in
theorem pc19 (w : World) (es : Array (Int × Value)) (n : Nat) (tb : SetTable) (es' : Array (Int × Value)) (n' : Nat) (tb' : SetTable) (os : OsState) : go w 2161 (SC18 w (setO es n tb) (setO es' n' tb') os) (tC18 w os) = some (SC19 w (setO es n tb) (setO es' n' tb') os, tC19 w os) := by kernel_rfl
noncomputable def vC20_2 : Obj := v0_2 P
noncomputable def vC20_3 : Obj := v6_3 P
noncomputable def vC20_12 : Obj := v7_12 P
noncomputable def vC20_199 : Obj := v3_199 P
noncomputable def vC20_227 : Obj := qD [kD P "__module__" 471 (.str "snowballstemmer.porter_stemmer" 462), kD P "__qualname__" 473 (.str "PorterStemmer" 472), kD P "__firstlineno__" 475 (.int 178 474), kD P "g_v" 488 (.ref 232), kD P "g_v_WXY" 507 (.ref 233), kD P "I_p2" 509 (.int 0 508), kD P "I_p1" 511 (.int 0 510), kD P "r_shortv" 518 (.ref 240), kD P "r_R1" 525 (.ref 247), kD P "r_R2" 532 (.ref 254), kD P "r_Step_1a" 540 (.ref 261), kD P "r_Step_1b" 552 (.ref 268), kD P "r_Step_1c" 559 (.ref 275), kD P "r_Step_2" 567 (.ref 282), kD P "r_Step_3" 575 (.ref 289), kD P "r_Step_4" 583 (.ref 296), kD P "r_Step_5a" 591 (.ref 303), kD P "r_Step_5b" 598 (.ref 310), kD P "_stem" 622 (.ref 317), kD P "a_0" 677 (.ref 330), kD P "as_0" 681 (.ref 331), kD P "a_1" 852 (.ref 371), kD P "a_2" 894 (.ref 381)] 23
noncomputable def TC20 (P : Params) (g v : Obj) : BT := ((((((tr P g v).set 2 fun _ => vC20_2 P).set 3 fun _ => vC20_3 P).set 12 fun _ => vC20_12 P).set 199 fun _ => vC20_199 P).set 227 fun _ => vC20_227 P)
noncomputable def SC20 (w : World) (g v : Obj) (os : OsState) : SharedT := st w (TC20 w.params g v) 382 895 os
noncomputable def tC20 (w : World) (os : OsState) : Thread := restOf (cb.drop 20) cenv cC ⟨491, 4, 491, 7⟩ (clsF w os :: B0)
set_option maxHeartbeats 0 in
theorem pc20 (w : World) (es : Array (Int × Value)) (n : Nat) (tb : SetTable) (es' : Array (Int × Value)) (n' : Nat) (tb' : SetTable) (os : OsState) : go w 516 (SC19 w (setO es n tb) (setO es' n' tb') os) (tC19 w os) = some (SC20 w (setO es n tb) (setO es' n' tb') os, tC20 w os) := by kernel_rfl
noncomputable def vC21_2 : Obj := v0_2 P
noncomputable def vC21_3 : Obj := v6_3 P
noncomputable def vC21_12 : Obj := v7_12 P
noncomputable def vC21_199 : Obj := v3_199 P
noncomputable def vC21_227 : Obj := qD [kD P "__module__" 471 (.str "snowballstemmer.porter_stemmer" 462), kD P "__qualname__" 473 (.str "PorterStemmer" 472), kD P "__firstlineno__" 475 (.int 178 474), kD P "g_v" 488 (.ref 232), kD P "g_v_WXY" 507 (.ref 233), kD P "I_p2" 509 (.int 0 508), kD P "I_p1" 511 (.int 0 510), kD P "r_shortv" 518 (.ref 240), kD P "r_R1" 525 (.ref 247), kD P "r_R2" 532 (.ref 254), kD P "r_Step_1a" 540 (.ref 261), kD P "r_Step_1b" 552 (.ref 268), kD P "r_Step_1c" 559 (.ref 275), kD P "r_Step_2" 567 (.ref 282), kD P "r_Step_3" 575 (.ref 289), kD P "r_Step_4" 583 (.ref 296), kD P "r_Step_5a" 591 (.ref 303), kD P "r_Step_5b" 598 (.ref 310), kD P "_stem" 622 (.ref 317), kD P "a_0" 677 (.ref 330), kD P "as_0" 681 (.ref 331), kD P "a_1" 852 (.ref 371), kD P "a_2" 894 (.ref 381), kD P "a_3" 1173 (.ref 442)] 24
noncomputable def TC21 (P : Params) (g v : Obj) : BT := ((((((tr P g v).set 2 fun _ => vC21_2 P).set 3 fun _ => vC21_3 P).set 12 fun _ => vC21_12 P).set 199 fun _ => vC21_199 P).set 227 fun _ => vC21_227 P)
noncomputable def SC21 (w : World) (g v : Obj) (os : OsState) : SharedT := st w (TC21 w.params g v) 443 1174 os
noncomputable def tC21 (w : World) (os : OsState) : Thread := restOf (cb.drop 21) cenv cC ⟨492, 4, 492, 7⟩ (clsF w os :: B0)
set_option maxHeartbeats 0 in
theorem pc21 (w : World) (es : Array (Int × Value)) (n : Nat) (tb : SetTable) (es' : Array (Int × Value)) (n' : Nat) (tb' : SetTable) (os : OsState) : go w 3401 (SC20 w (setO es n tb) (setO es' n' tb') os) (tC20 w os) = some (SC21 w (setO es n tb) (setO es' n' tb') os, tC21 w os) := by kernel_rfl
noncomputable def vC22_2 : Obj := v0_2 P
noncomputable def vC22_3 : Obj := v6_3 P
noncomputable def vC22_12 : Obj := v7_12 P
noncomputable def vC22_199 : Obj := v3_199 P
noncomputable def vC22_227 : Obj := qD [kD P "__module__" 471 (.str "snowballstemmer.porter_stemmer" 462), kD P "__qualname__" 473 (.str "PorterStemmer" 472), kD P "__firstlineno__" 475 (.int 178 474), kD P "g_v" 488 (.ref 232), kD P "g_v_WXY" 507 (.ref 233), kD P "I_p2" 509 (.int 0 508), kD P "I_p1" 511 (.int 0 510), kD P "r_shortv" 518 (.ref 240), kD P "r_R1" 525 (.ref 247), kD P "r_R2" 532 (.ref 254), kD P "r_Step_1a" 540 (.ref 261), kD P "r_Step_1b" 552 (.ref 268), kD P "r_Step_1c" 559 (.ref 275), kD P "r_Step_2" 567 (.ref 282), kD P "r_Step_3" 575 (.ref 289), kD P "r_Step_4" 583 (.ref 296), kD P "r_Step_5a" 591 (.ref 303), kD P "r_Step_5b" 598 (.ref 310), kD P "_stem" 622 (.ref 317), kD P "a_0" 677 (.ref 330), kD P "as_0" 681 (.ref 331), kD P "a_1" 852 (.ref 371), kD P "a_2" 894 (.ref 381), kD P "a_3" 1173 (.ref 442), kD P "as_3" 1187 (.ref 443)] 25
noncomputable def TC22 (P : Params) (g v : Obj) : BT := ((((((tr P g v).set 2 fun _ => vC22_2 P).set 3 fun _ => vC22_3 P).set 12 fun _ => vC22_12 P).set 199 fun _ => vC22_199 P).set 227 fun _ => vC22_227 P)
noncomputable def SC22 (w : World) (g v : Obj) (os : OsState) : SharedT := st w (TC22 w.params g v) 444 1188 os
noncomputable def tC22 (w : World) (os : OsState) : Thread := restOf (cb.drop 22) cenv cC ⟨493, 4, 493, 8⟩ (clsF w os :: B0)
set_option maxHeartbeats 0 in
theorem pc22 (w : World) (es : Array (Int × Value)) (n : Nat) (tb : SetTable) (es' : Array (Int × Value)) (n' : Nat) (tb' : SetTable) (os : OsState) : go w 24 (SC21 w (setO es n tb) (setO es' n' tb') os) (tC21 w os) = some (SC22 w (setO es n tb) (setO es' n' tb') os, tC22 w os) := by kernel_rfl
noncomputable def vC23_2 : Obj := v0_2 P
noncomputable def vC23_3 : Obj := v6_3 P
noncomputable def vC23_12 : Obj := v7_12 P
noncomputable def vC23_199 : Obj := v3_199 P
noncomputable def vC23_227 : Obj := qD [kD P "__module__" 471 (.str "snowballstemmer.porter_stemmer" 462), kD P "__qualname__" 473 (.str "PorterStemmer" 472), kD P "__firstlineno__" 475 (.int 178 474), kD P "g_v" 488 (.ref 232), kD P "g_v_WXY" 507 (.ref 233), kD P "I_p2" 509 (.int 0 508), kD P "I_p1" 511 (.int 0 510), kD P "r_shortv" 518 (.ref 240), kD P "r_R1" 525 (.ref 247), kD P "r_R2" 532 (.ref 254), kD P "r_Step_1a" 540 (.ref 261), kD P "r_Step_1b" 552 (.ref 268), kD P "r_Step_1c" 559 (.ref 275), kD P "r_Step_2" 567 (.ref 282), kD P "r_Step_3" 575 (.ref 289), kD P "r_Step_4" 583 (.ref 296), kD P "r_Step_5a" 591 (.ref 303), kD P "r_Step_5b" 598 (.ref 310), kD P "_stem" 622 (.ref 317), kD P "a_0" 677 (.ref 330), kD P "as_0" 681 (.ref 331), kD P "a_1" 852 (.ref 371), kD P "a_2" 894 (.ref 381), kD P "a_3" 1173 (.ref 442), kD P "as_3" 1187 (.ref 443), kD P "a_4" 1286 (.ref 465)] 26
noncomputable def TC23 (P : Params) (g v : Obj) : BT := ((((((tr P g v).set 2 fun _ => vC23_2 P).set 3 fun _ => vC23_3 P).set 12 fun _ => vC23_12 P).set 199 fun _ => vC23_199 P).set 227 fun _ => vC23_227 P)
noncomputable def SC23 (w : World) (g v : Obj) (os : OsState) : SharedT := st w (TC23 w.params g v) 466 1287 os
noncomputable def tC23 (w : World) (os : OsState) : Thread := restOf (cb.drop 23) cenv cC ⟨494, 4, 494, 7⟩ (clsF w os :: B0)
set_option maxHeartbeats 0 in
theorem pc23 (w : World) (es : Array (Int × Value)) (n : Nat) (tb : SetTable) (es' : Array (Int × Value)) (n' : Nat) (tb' : SetTable) (os : OsState) : go w 1201 (SC22 w (setO es n tb) (setO es' n' tb') os) (tC22 w os) = some (SC23 w (setO es n tb) (setO es' n' tb') os, tC23 w os) := by kernel_rfl
noncomputable def vC24_2 : Obj := v0_2 P
noncomputable def vC24_3 : Obj := v6_3 P
noncomputable def vC24_12 : Obj := v7_12 P
noncomputable def vC24_199 : Obj := v3_199 P
noncomputable def vC24_227 : Obj := qD [kD P "__module__" 471 (.str "snowballstemmer.porter_stemmer" 462), kD P "__qualname__" 473 (.str "PorterStemmer" 472), kD P "__firstlineno__" 475 (.int 178 474), kD P "g_v" 488 (.ref 232), kD P "g_v_WXY" 507 (.ref 233), kD P "I_p2" 509 (.int 0 508), kD P "I_p1" 511 (.int 0 510), kD P "r_shortv" 518 (.ref 240), kD P "r_R1" 525 (.ref 247), kD P "r_R2" 532 (.ref 254), kD P "r_Step_1a" 540 (.ref 261), kD P "r_Step_1b" 552 (.ref 268), kD P "r_Step_1c" 559 (.ref 275), kD P "r_Step_2" 567 (.ref 282), kD P "r_Step_3" 575 (.ref 289), kD P "r_Step_4" 583 (.ref 296), kD P "r_Step_5a" 591 (.ref 303), kD P "r_Step_5b" 598 (.ref 310), kD P "_stem" 622 (.ref 317), kD P "a_0" 677 (.ref 330), kD P "as_0" 681 (.ref 331), kD P "a_1" 852 (.ref 371), kD P "a_2" 894 (.ref 381), kD P "a_3" 1173 (.ref 442), kD P "as_3" 1187 (.ref 443), kD P "a_4" 1286 (.ref 465), kD P "as_4" 1290 (.ref 466)] 27
noncomputable def TC24 (P : Params) (g v : Obj) : BT := ((((((tr P g v).set 2 fun _ => vC24_2 P).set 3 fun _ => vC24_3 P).set 12 fun _ => vC24_12 P).set 199 fun _ => vC24_199 P).set 227 fun _ => vC24_227 P)
noncomputable def SC24 (w : World) (g v : Obj) (os : OsState) : SharedT := st w (TC24 w.params g v) 467 1291 os
noncomputable def tC24 (w : World) (os : OsState) : Thread := restOf (cb.drop 24) cenv cC ⟨495, 4, 495, 8⟩ (clsF w os :: B0)
set_option maxHeartbeats 0 in
theorem pc24 (w : World) (es : Array (Int × Value)) (n : Nat) (tb : SetTable) (es' : Array (Int × Value)) (n' : Nat) (tb' : SetTable) (os : OsState) : go w 14 (SC23 w (setO es n tb) (setO es' n' tb') os) (tC23 w os) = some (SC24 w (setO es n tb) (setO es' n' tb') os, tC24 w os) := by kernel_rfl
noncomputable def vC25_2 : Obj := v0_2 P
noncomputable def vC25_3 : Obj := v6_3 P
noncomputable def vC25_12 : Obj := v7_12 P
noncomputable def vC25_199 : Obj := v3_199 P
noncomputable def vC25_227 : Obj := qD [kD P "__module__" 471 (.str "snowballstemmer.porter_stemmer" 462), kD P "__qualname__" 473 (.str "PorterStemmer" 472), kD P "__firstlineno__" 475 (.int 178 474), kD P "g_v" 488 (.ref 232), kD P "g_v_WXY" 507 (.ref 233), kD P "I_p2" 509 (.int 0 508), kD P "I_p1" 511 (.int 0 510), kD P "r_shortv" 518 (.ref 240), kD P "r_R1" 525 (.ref 247), kD P "r_R2" 532 (.ref 254), kD P "r_Step_1a" 540 (.ref 261), kD P "r_Step_1b" 552 (.ref 268), kD P "r_Step_1c" 559 (.ref 275), kD P "r_Step_2" 567 (.ref 282), kD P "r_Step_3" 575 (.ref 289), kD P "r_Step_4" 583 (.ref 296), kD P "r_Step_5a" 591 (.ref 303), kD P "r_Step_5b" 598 (.ref 310), kD P "_stem" 622 (.ref 317), kD P "a_0" 677 (.ref 330), kD P "as_0" 681 (.ref 331), kD P "a_1" 852 (.ref 371), kD P "a_2" 894 (.ref 381), kD P "a_3" 1173 (.ref 442), kD P "as_3" 1187 (.ref 443), kD P "a_4" 1286 (.ref 465), kD P "as_4" 1290 (.ref 466), kD P "a_5" 1555 (.ref 524)] 28
noncomputable def TC25 (P : Params) (g v : Obj) : BT := ((((((tr P g v).set 2 fun _ => vC25_2 P).set 3 fun _ => vC25_3 P).set 12 fun _ => vC25_12 P).set 199 fun _ => vC25_199 P).set 227 fun _ => vC25_227 P)
noncomputable def SC25 (w : World) (g v : Obj) (os : OsState) : SharedT := st w (TC25 w.params g v) 525 1556 os
noncomputable def tC25 (w : World) (os : OsState) : Thread := restOf (cb.drop 25) cenv cC ⟨496, 4, 496, 7⟩ (clsF w os :: B0)
set_option maxHeartbeats 0 in
theorem pc25 (w : World) (es : Array (Int × Value)) (n : Nat) (tb : SetTable) (es' : Array (Int × Value)) (n' : Nat) (tb' : SetTable) (os : OsState) : go w 3231 (SC24 w (setO es n tb) (setO es' n' tb') os) (tC24 w os) = some (SC25 w (setO es n tb) (setO es' n' tb') os, tC25 w os) := by kernel_rfl
set_option maxHeartbeats 0 in
theorem pcEnd (w : World) (es : Array (Int × Value)) (n : Nat) (tb : SetTable) (es' : Array (Int × Value)) (n' : Nat) (tb' : SetTable) (os : OsState) : go w 177 (SC25 w (setO es n tb) (setO es' n' tb') os) (tC25 w os) = some (S7 w (setO es n tb) (setO es' n' tb') os, t7) := by kernel_rfl
end
end Mine
end
section
open PySem PySem.W PyProof.Rows
namespace Mine
noncomputable section
theorem topGo_of_segGo {w : World} : ∀ {n : Nat} {s s' : Shared} {t t' : Thread}, segGo treeTable pw w 11 ann0 0 n s t = some (s', t') → tgo w n s t = some (s', t')
  | 0, s, s', t, t', h => h
  | n + 1, s, s', t, t', h => by
    unfold segGo at h
    unfold tgo topGo
    have e : through t = (endAt 0 t).isSome := by
      obtain ⟨cur, code, pos, stack⟩ := t
      unfold through endAt
      cases stack with
      | nil => cases cur <;> first | rfl | (rename_i f; cases f <;> rfl)
      | cons a b => show (false && _) = _; rw [Bool.false_and]; rfl
    rw [e]
    cases he : endAt 0 t with
    | some f => rw [he] at h; cases h
    | none =>
      rw [he] at h
      cases hk : stepOk 11 ann0 t with
      | false => rw [hk] at h; cases h
      | true =>
        rw [hk] at h
        cases hs : step (denote treeTable) pw w s t with
        | halt o s₂ => rw [hs] at h; cases h
        | go s₂ t₂ => rw [hs] at h; exact topGo_of_segGo h
theorem tgo_of {w : World} {n : Nat} {s s' : SharedT} {t t' : Thread} (h : go w n s t = some (s', t')) : tgo w n s.abs t = some (s'.abs, t') := by
  refine topGo_of_segGo (segGo_of ?_)
  unfold go at h
  rw [← PySem.W.Fast.te10295753902157049106, ← PySem.W.Fast.te14364793385576792824] at h
  exact h
noncomputable def Within (w : World) (k : Nat) (s : Shared) (t : Thread) (s' : Shared) (t' : Thread) : Prop := ∃ n, n ≤ k ∧ tgo w n s t = some (s', t')
theorem Within.of {w : World} {n : Nat} {s s' : SharedT} {t t' : Thread} (h : go w n s t = some (s', t')) : Within w n s.abs t s'.abs t' := ⟨n, Nat.le_refl _, tgo_of h⟩
theorem Within.trans {w : World} {k k' : Nat} {s s' s'' : Shared} {t t' t'' : Thread} (h : Within w k s t s' t') (h' : Within w k' s' t' s'' t'') : Within w (k + k') s t s'' t'' := by
  obtain ⟨n, hn, e⟩ := h
  obtain ⟨m, hm, e'⟩ := h'
  exact ⟨n + m, Nat.add_le_add hn hm, tgo_add e e'⟩
theorem runs_set {w : World} {k : Nat} {x : Str} {px pa : Pos} {E : Expr} {rest : List Stmt} {p : Pos} {f : Frame} {B : List Frame} {s : Shared} {Q : Value → Shared → Prop}
    (hs : swapsWith E (some (.Name x px)) pa.line cenv = pure false) (h : RT w k (eval E cenv) s Q) :
    ∃ v s', Q v s' ∧ ∃ q, Within w (k + 1) s (restOf (Stmt.Assign [.Name x px] E pa :: rest) cenv cC p (f :: B)) s'
      ⟨(do standAt px; bindName cenv x v; pure Flow.next : Sem Flow).wrap (fun f => match f with | .next => (execs rest cenv).wrap doneF (leaveH cenv) id id | f => doneF f) (leaveH cenv) id id, cC, q, f :: B⟩ := by
  obtain ⟨v, s', hq, r⟩ := rt_bind (n := 1) (rt_standAt (q := pa) (Q := fun _ s' => RT w k (eval E cenv) s' Q) h)
  refine ⟨v, s', hq, ?_⟩
  obtain ⟨n, q, hn, e⟩ := r (fun v => (do standAt px; bindName cenv x v; pure Flow.next : Sem Flow).wrap (fun f => match f with | .next => (execs rest cenv).wrap doneF (leaveH cenv) id id | f => doneF f) (leaveH cenv) id id) (leaveH cenv) id id p f B
  refine ⟨q, n, by omega, ?_⟩
  rw [← e]
  unfold restOf
  rw [execs_cons_wrap, exec_Assign_Name cenv x px E pa hs]
  congr 2
  rw [Sem.bind_eq_wrap', Sem.wrap_wrap, Sem.bind_eq_wrap', Sem.wrap_wrap]
  refine Sem.wrap_congr _ _ _ (fun u => ?_) fun _ => rfl
  rfl
end
end Mine
end
section
open PySem PySem.W PyProof.Rows
namespace Mine
noncomputable section
noncomputable def fin (w : World) (es : Array (Int × Value)) (n : Nat) (tb : SetTable) (es' : Array (Int × Value)) (n' : Nat) (tb' : SetTable) (os : OsState) : Shared := (S24 w (setO es n tb) (setO es' n' tb') os).abs
noncomputable def qv : Program := { pw with main := { pw.main with body := [nthS pw.main.body 23] } }
noncomputable def looseN : List Str := ["_wall", "BaseStemmer", "Among", "PorterStemmer", "lab0", "lab1", "lab2", "_law_letters", "_law_ends", "_law_second", "_law_third", "_law_fourth", "_law_vowel", "_law_past", "_law_region", "_law_end", "_law_short", "_law_rows", "_law_stem"]
variable (w : World) (es : Array (Int × Value)) (n : Nat) (tb : SetTable) (es' : Array (Int × Value)) (n' : Nat) (tb' : SetTable) (os : OsState)
theorem lookA : staticsOk (importedModules pw.main.body) (boot_heap w.params) (fin w es n tb es' n' tb' os).heap = true := by kernel_rfl
theorem lookB : namesBound pw (fin w es n tb es' n' tb' os).heap = true := by kernel_rfl
theorem lookC : gensDone (fin w es n tb es' n' tb' os) = true := by kernel_rfl
theorem lookD : laidKept (boot_heap w.params) (fin w es n tb es' n' tb' os).heap = true := by kernel_rfl
theorem seen1 : (openSeen qv looseN (importedModules pw.main.body) (fun _ => true) true (fin w es n tb es' n' tb' os)).1 = (openGood qv looseN).1 := by kernel_rfl
theorem seen2 : (openSeen qv looseN (importedModules pw.main.body) (fun _ => true) true (fin w es n tb es' n' tb' os)).2.1 = (openGood qv looseN).2.1 := by kernel_rfl
theorem seen3 : (openSeen qv looseN (importedModules pw.main.body) (fun _ => true) true (fin w es n tb es' n' tb' os)).2.2.1 = (openGood qv looseN).2.2.1 := by kernel_rfl
theorem seen4 : (openSeen qv looseN (importedModules pw.main.body) (fun _ => true) true (fin w es n tb es' n' tb' os)).2.2.2 = (openGood qv looseN).2.2.2 := by kernel_rfl
theorem chainsQ : chainsOk qv = true := by decide +kernel
end
end Mine
end
section
open PySem PySem.W PyProof.Rows
namespace Mine
noncomputable section
noncomputable def Tpre (P : Params) (g v : Obj) : BT := ((tr P g v).set 2 fun _ => boot_o_2 P).set 3 fun _ => boot_o_3 P
theorem pre_abs (w : World) (os : OsState) : (st w (Tpre w.params default default) 11 boot_toks os).abs = ⟨boot_heap w.params, Array.mk [], boot_drawn, boot_toks, os⟩ := by kernel_rfl
theorem pre_run (w : World) (os : OsState) : go w 12 (st w (Tpre w.params default default) 11 boot_toks os) (topStub pw) = some (S0 w default default os, ⟨PySem.W.Fast.tw11892475500146522536 PySem.W.Fast.tw14364793385576792824 c0, c0, ⟨0, 0, 0, 0⟩, B0⟩) := by kernel_rfl
theorem t0_is : (⟨denote treeTable c0, c0, ⟨0, 0, 0, 0⟩, B0⟩ : Thread) = t0 := by
  unfold c0
  rw [body_wrap]
  kernel_rfl
theorem tC0_is (w : World) (os : OsState) : clsT w os = tC0 w os := by
  rw [pc_preT, ← PySem.W.Fast.te11892475500146522536, ← PySem.W.Fast.te14364793385576792824]
  unfold cC
  rw [body_wrap]
  kernel_rfl
noncomputable def tEnd : Thread := ⟨topAfter (.ok .next), .builtin "claim.caller" {}, ⟨0, 0, 0, 0⟩, []⟩
theorem fin_run (w : World) (g v : Obj) (os : OsState) : go w 1 (S24 w g v os) t24 = some (S24 w g v os, tEnd) := by kernel_rfl
theorem fin_through : through tEnd = true := by kernel_rfl
theorem swap0 : swapsWith (.Set (setL0.map constE) 0 ⟨179, 10, 179, 40⟩) (some (.Name "g_v" ⟨179, 4, 179, 7⟩)) (⟨179, 4, 179, 40⟩ : Pos).line cenv = pure false := by kernel_rfl
theorem swap1 : swapsWith (.Set (setL1.map constE) 0 ⟨180, 14, 180, 59⟩) (some (.Name "g_v_WXY" ⟨180, 4, 180, 11⟩)) (⟨180, 4, 180, 59⟩ : Pos).line cenv = pure false := by kernel_rfl
theorem road0 : displayRoad 0 (setL0.map constE) = .unsure := by kernel_rfl
theorem road1 : displayRoad 0 (setL1.map constE) = .unsure := by kernel_rfl
theorem nodup0 : (setL0.map (·.1)).Nodup := by decide +kernel
theorem nodup1 : (setL1.map (·.1)).Nodup := by decide +kernel
theorem code0 (w : World) (g v : Obj) (os : OsState) : (SC0 w g v os).abs.heap.get? 230 = some (o230 w.params) := by kernel_rfl
theorem code1 (w : World) (g v : Obj) (os : OsState) (es : Array (Int × Value)) (n : Nat) (tb : SetTable) : (SC1 w (setO es n tb) v os).abs.heap.get? 230 = some (o230 w.params) := by kernel_rfl
theorem ins0 (w : World) (os : OsState) (o : Obj) : ((st w ((TC0 w.params default default).ins 232 o) 233 488 os).abs) = { (SC0 w default default os).abs with heap := (SC0 w default default os).abs.heap.push o, toks := 488 } := by
  have e := absHeap_ins (t := TC0 w.params default default) (n := 232) (life := (boot_heap w.params).life) (o := o) (by kernel_rfl)
  show (⟨absHeap ((TC0 w.params default default).ins 232 o) (232 + 1) (boot_heap w.params).life, #[], boot_drawn, 488, os⟩ : Shared) = _
  rw [e]
  rfl
theorem ins1 (w : World) (os : OsState) (g o : Obj) : ((st w ((TC1 w.params g default).ins 233 o) 234 507 os).abs) = { (SC1 w g default os).abs with heap := (SC1 w g default os).abs.heap.push o, toks := 507 } := by
  have e := absHeap_ins (t := TC1 w.params g default) (n := 233) (life := (boot_heap w.params).life) (o := o) (by kernel_rfl)
  show (⟨absHeap ((TC1 w.params g default).ins 233 o) (233 + 1) (boot_heap w.params).life, #[], boot_drawn, 507, os⟩ : Shared) = _
  rw [e]
  rfl
noncomputable def vowelsG : List Nat := setL0.map (·.1)
noncomputable def vowelsW : List Nat := setL1.map (·.1)
theorem head_run (w : World) (os : OsState) : ∃ es n tb es' n' tb', ElemsAre w.params es vowelsG ∧ tb.fits es.size = true ∧ ElemsAre w.params es' vowelsW ∧ tb'.fits es'.size = true ∧
    Within w 20000 ⟨boot_heap w.params, Array.mk [], boot_drawn, boot_toks, os⟩ (topStub pw) (fin w es n tb es' n' tb' os) tEnd := by
  have h0 : Within w 12 ⟨boot_heap w.params, Array.mk [], boot_drawn, boot_toks, os⟩ (topStub pw) (S0 w default default os).abs t0 := by
    have := Within.of (pre_run w os)
    rw [pre_abs, ← PySem.W.Fast.te11892475500146522536, ← PySem.W.Fast.te14364793385576792824, t0_is] at this
    exact this
  have h1 := h0.trans (Within.of (pa1 w default default os))
  have h2 := h1.trans (Within.of (pa2 w default default os))
  have h3 := h2.trans (Within.of (pa3 w default default os))
  have h4 := h3.trans (Within.of (pa4 w default default os))
  have h5 := h4.trans (Within.of (pa5 w default default os))
  have h6 := h5.trans (Within.of (pa6 w default default os))
  have hc := h6.trans (Within.of (pc_pre w os))
  rw [tC0_is] at hc
  obtain ⟨v0, s0, hQ0, q0, hw0⟩ := runs_set (w := w) (rest := cb.drop 1) (p := ⟨178, 0, 496, 412⟩) (f := clsF w os) (B := B0) (Q := fun v s' => ∃ es ep t, ElemsAre w.params es vowelsG ∧ t.fits es.size = true ∧ v = .ref 232 ∧ s' = { (SC0 w default default os).abs with heap := (SC0 w default default os).abs.heap.push (setO es ep t), toks := 488 }) swap0
    (rt_setE (s := (SC0 w default default os).abs) (code0 w default default os) rfl road0 (by decide) nodup0 (by kernel_rfl) fun es ep t h1 h2 => ⟨es, ep, t, h1, h2, by kernel_rfl, rfl⟩)
  obtain ⟨es, n, tb, g1, g2, rfl, rfl⟩ := hQ0
  have ht0 : restOf (Stmt.Assign [.Name "g_v" ⟨179, 4, 179, 7⟩] (.Set (setL0.map constE) 0 ⟨179, 10, 179, 40⟩) ⟨179, 4, 179, 40⟩ :: cb.drop 1) cenv cC ⟨178, 0, 496, 412⟩ (clsF w os :: B0) = tC0 w os := by
    unfold tC0; rw [stmt0]
  rw [ht0] at hw0
  have hc0 := (hc.trans hw0).trans (by
    have := Within.of (pcset0 w es n tb os q0)
    rw [ins0] at this
    exact this)
  obtain ⟨v1, s1, hQ1, q1, hw1⟩ := runs_set (w := w) (rest := cb.drop 2) (p := ⟨179, 4, 179, 7⟩) (f := clsF w os) (B := B0) (Q := fun v s' => ∃ es' ep t, ElemsAre w.params es' vowelsW ∧ t.fits es'.size = true ∧ v = .ref 233 ∧ s' = { (SC1 w (setO es n tb) default os).abs with heap := (SC1 w (setO es n tb) default os).abs.heap.push (setO es' ep t), toks := 507 }) swap1
    (rt_setE (s := (SC1 w (setO es n tb) default os).abs) (code1 w default default os es n tb) rfl road1 (by decide) nodup1 (by kernel_rfl) fun es ep t h1 h2 => ⟨es, ep, t, h1, h2, by kernel_rfl, rfl⟩)
  obtain ⟨es', n', tb', g3, g4, rfl, rfl⟩ := hQ1
  have ht1 : restOf (Stmt.Assign [.Name "g_v_WXY" ⟨180, 4, 180, 11⟩] (.Set (setL1.map constE) 0 ⟨180, 14, 180, 59⟩) ⟨180, 4, 180, 59⟩ :: cb.drop 2) cenv cC ⟨179, 4, 179, 7⟩ (clsF w os :: B0) = tC1 w os := by
    unfold tC1; rw [stmt1]
  rw [ht1] at hw1
  have hc2 := (hc0.trans hw1).trans (by
    have := Within.of (pcset1 w es n tb es' n' tb' os q1)
    rw [ins1] at this
    exact this)
  have hc3 := hc2.trans (Within.of (pc3 w es n tb es' n' tb' os))
  have hc4 := hc3.trans (Within.of (pc4 w es n tb es' n' tb' os))
  have hc5 := hc4.trans (Within.of (pc5 w es n tb es' n' tb' os))
  have hc6 := hc5.trans (Within.of (pc6 w es n tb es' n' tb' os))
  have hc7 := hc6.trans (Within.of (pc7 w es n tb es' n' tb' os))
  have hc8 := hc7.trans (Within.of (pc8 w es n tb es' n' tb' os))
  have hc9 := hc8.trans (Within.of (pc9 w es n tb es' n' tb' os))
  have hc10 := hc9.trans (Within.of (pc10 w es n tb es' n' tb' os))
  have hc11 := hc10.trans (Within.of (pc11 w es n tb es' n' tb' os))
  have hc12 := hc11.trans (Within.of (pc12 w es n tb es' n' tb' os))
  have hc13 := hc12.trans (Within.of (pc13 w es n tb es' n' tb' os))
  have hc14 := hc13.trans (Within.of (pc14 w es n tb es' n' tb' os))
  have hc15 := hc14.trans (Within.of (pc15 w es n tb es' n' tb' os))
  have hc16 := hc15.trans (Within.of (pc16 w es n tb es' n' tb' os))
  have hc17 := hc16.trans (Within.of (pc17 w es n tb es' n' tb' os))
  have hc18 := hc17.trans (Within.of (pc18 w es n tb es' n' tb' os))
  have hc19 := hc18.trans (Within.of (pc19 w es n tb es' n' tb' os))
  have hc20 := hc19.trans (Within.of (pc20 w es n tb es' n' tb' os))
  have hc21 := hc20.trans (Within.of (pc21 w es n tb es' n' tb' os))
  have hc22 := hc21.trans (Within.of (pc22 w es n tb es' n' tb' os))
  have hc23 := hc22.trans (Within.of (pc23 w es n tb es' n' tb' os))
  have hc24 := hc23.trans (Within.of (pc24 w es n tb es' n' tb' os))
  have hc25 := hc24.trans (Within.of (pc25 w es n tb es' n' tb' os))
  have h7 := hc25.trans (Within.of (pcEnd w es n tb es' n' tb' os))
  have h8 := h7.trans (Within.of (pa8 w (setO es n tb) (setO es' n' tb') os))
  have h9 := h8.trans (Within.of (pa9 w (setO es n tb) (setO es' n' tb') os))
  have h10 := h9.trans (Within.of (pa10 w (setO es n tb) (setO es' n' tb') os))
  have h11 := h10.trans (Within.of (pa11 w (setO es n tb) (setO es' n' tb') os))
  have h12 := h11.trans (Within.of (pa12 w (setO es n tb) (setO es' n' tb') os))
  have h13 := h12.trans (Within.of (pa13 w (setO es n tb) (setO es' n' tb') os))
  have h14 := h13.trans (Within.of (pa14 w (setO es n tb) (setO es' n' tb') os))
  have h15 := h14.trans (Within.of (pa15 w (setO es n tb) (setO es' n' tb') os))
  have h16 := h15.trans (Within.of (pa16 w (setO es n tb) (setO es' n' tb') os))
  have h17 := h16.trans (Within.of (pa17 w (setO es n tb) (setO es' n' tb') os))
  have h18 := h17.trans (Within.of (pa18 w (setO es n tb) (setO es' n' tb') os))
  have h19 := h18.trans (Within.of (pa19 w (setO es n tb) (setO es' n' tb') os))
  have h20 := h19.trans (Within.of (pa20 w (setO es n tb) (setO es' n' tb') os))
  have h21 := h20.trans (Within.of (pa21 w (setO es n tb) (setO es' n' tb') os))
  have h22 := h21.trans (Within.of (pa22 w (setO es n tb) (setO es' n' tb') os))
  have h23 := h22.trans (Within.of (pa23 w (setO es n tb) (setO es' n' tb') os))
  have h24 := h23.trans (Within.of (pa24 w (setO es n tb) (setO es' n' tb') os))
  have h25 := h24.trans (Within.of (fin_run w (setO es n tb) (setO es' n' tb') os))
  refine ⟨es, n, tb, es', n', tb', g1, g2, g3, g4, ?_⟩
  obtain ⟨m, hm, e⟩ := h25
  exact ⟨m, Nat.le_trans hm (by decide), e⟩
noncomputable def Nfuel : Nat := 200000
theorem boot_opens : ∀ w : World, (fencedOpening treeTable pw w Nfuel).map (fun s => (s.heap, s.gens, s.drawn, s.toks)) = some (boot_heap w.params, Array.mk [], boot_drawn, boot_toks) :=
  boot_open (by kernel_rfl) (by decide) (fun s => by kernel_rfl)
theorem boot_size (w : World) : ((boot_heap w.params).isNs mainGlobals && (Array.mk [] : Array GenState).size == 0) = true := by kernel_rfl
theorem boot_n (w : World) : (boot_heap w.params).objs.size = 11 := by kernel_rfl
theorem boot_ann (w : World) : (boot_heap w.params).nsMap mainGlobals "__annotations__" = ann0 := by kernel_rfl
noncomputable def Left (w : World) (h : Heap) : Prop := ∃ es n tb es' n' tb', ElemsAre w.params es vowelsG ∧ tb.fits es.size = true ∧ ElemsAre w.params es' vowelsW ∧ tb'.fits es'.size = true ∧
  h = absHeap (T24 w.params (setO es n tb) (setO es' n' tb')) 658 (boot_heap w.params).life
theorem final_seen (w : World) (es : Array (Int × Value)) (n : Nat) (tb : SetTable) (es' : Array (Int × Value)) (n' : Nat) (tb' : SetTable) (os : OsState) : openSeen qv looseN (importedModules pw.main.body) (fun _ => true) true (fin w es n tb es' n' tb' os) = openGood qv looseN :=
  Prod.ext (seen1 w es n tb es' n' tb' os) (Prod.ext (seen2 w es n tb es' n' tb' os) (Prod.ext (seen3 w es n tb es' n' tb' os) (seen4 w es n tb es' n' tb' os)))
theorem topFrom_of {tb : String → Option Builtin} {p : Program} {w : World} {N n : Nat} {s₀ s₁ : Shared} {an : Option Value} (h0 : (s₀.heap.isNs mainGlobals && s₀.gens.size == 0) = true) (hn : s₀.heap.objs.size = n) (ha : s₀.heap.nsMap mainGlobals "__annotations__" = an)
    (r : topRun tb p w n an N s₀ (topStub p) = some s₁) (a : staticsOk (importedModules p.main.body) s₀.heap s₁.heap = true) (b : namesBound p s₁.heap = true) (c : gensDone s₁ = true) (d : laidKept s₀.heap s₁.heap = true) : topFrom tb p w N s₀ = some s₁ := by
  unfold topFrom
  rw [h0, hn, ha, r]
  show (match staticsOk _ _ _ && namesBound p _ && gensDone _ && laidKept _ _ with | true => _ | false => _) = _
  rw [a, b, c, d]
  rfl
theorem openEnds_of {tb : String → Option Builtin} {p : Program} {w : World} {N : Nat} {s₀ : Shared} {r : Option Shared} (e : fencedOpening tb p w N = some s₀) (h : topFrom tb p w N s₀ = r) : openEnds tb p w N = r := by
  unfold openEnds; rw [e]; exact h
theorem final_match (w : World) (es : Array (Int × Value)) (n : Nat) (tb : SetTable) (es' : Array (Int × Value)) (n' : Nat) (tb' : SetTable) (os : OsState)
    (e : fencedOpening treeTable pw w Nfuel = some ⟨boot_heap w.params, Array.mk [], boot_drawn, boot_toks, os⟩) (r2 : topRun treeTable pw w 11 ann0 Nfuel ⟨boot_heap w.params, Array.mk [], boot_drawn, boot_toks, os⟩ (topStub pw) = some (fin w es n tb es' n' tb' os)) : openEnds treeTable pw w Nfuel = some (fin w es n tb es' n' tb' os) :=
  openEnds_of e (topFrom_of (boot_size w) (boot_n w) (boot_ann w) r2 (lookA w es n tb es' n' tb' os) (lookB w es n tb es' n' tb' os) (lookC w es n tb es' n' tb' os) (lookD w es n tb es' n' tb' os))
theorem final_is (w : World) : ∃ s, openEnds treeTable pw w Nfuel = some s ∧ openSeen qv looseN (importedModules pw.main.body) (fun _ => true) true s = openGood qv looseN ∧ Left w s.heap := by
  obtain ⟨⟨h, gs, d, k, os⟩, e, e'⟩ := Option.map_eq_some_iff.mp (boot_opens w)
  obtain ⟨rfl, rfl, rfl, rfl⟩ : h = boot_heap w.params ∧ gs = Array.mk [] ∧ d = boot_drawn ∧ k = boot_toks := by simpa using e'
  obtain ⟨es, n, tb, es', n', tb', g1, g2, g3, g4, m, hm, r⟩ := head_run w os
  refine ⟨fin w es n tb es' n' tb' os, final_match w es n tb es' n' tb' os e ?_, final_seen w es n tb es' n' tb' os, es, n, tb, es', n', tb', g1, g2, g3, g4, rfl⟩
  have r1 : topRun treeTable pw w 11 ann0 1 (fin w es n tb es' n' tb' os) tEnd = some (fin w es n tb es' n' tb' os) := by
    unfold topRun; rw [fin_through]
  have r2 := topRun_mono (Nfuel - (m + 1)) _ _ _ _ (go_top r r1)
  rw [show m + 1 + (Nfuel - (m + 1)) = Nfuel by unfold Nfuel; omega] at r2
  exact r2
noncomputable def endHeap (w : World) : Heap := (Classical.choose (final_is w)).heap
theorem endHeap_left (w : World) : Left w (endHeap w) := (Classical.choose_spec (final_is w)).2.2
theorem leftO : LeftO pw qv looseN (fun _ => true) (fun s => s.heap) endHeap Nfuel := fun w => by
  have h := Classical.choose_spec (final_is w)
  rw [h.1]
  show some (_, _) = some (_, _)
  rw [h.2.1]
  rfl
end
end Mine
end
section
open PySem PySem.W PyProof.Rows
namespace Mine
noncomputable def YP (w : World) (h : Heap) : Prop := ∃ h₀, Left w h₀ ∧ ∀ b o, h₀.get? b = some o → h.get? b = some o
set_option maxHeartbeats 8000000 in
theorem law_said : PySem.Challenge.rw_ii0001_01.wellSaid = true := by
  unfold OpenLaw.wellSaid OpenRow.wellSaid OpenRow.partSaid looksOpen
  repeat' (with_reducible apply look_both)
  all_goals decide +kernel
set_option maxHeartbeats 8000000 in
theorem top_law (call : ∀ d kwd, defOf qv PySem.Challenge.rw_ii0001_01.row.name = some (d, kwd) → WalkO qv looseN (fun _ _ => True) YP PySem.Challenge.rw_ii0001_01.row.toRowW d kwd fun f vs => PySem.call f vs) : PySem.Challenge.rw_ii0001_01.Holds := by
  refine holds_law law_said fun said => ?_
  refine PySem.W.holds_open (q := qv) (loose := looseN) (Xt := fun _ => true) (XP := fun _ _ => True) (YP := YP) leftO (fun w s e => ?_) (fun w h h' => ?_) (fun _ _ => trivial) (fun _ _ _ _ _ => trivial) (by rfl) (by rfl) (by rfl) (fun s _ => recFacts_nil rfl) (by rfl) said (by decide +kernel) ⟨rfl, rfl, rfl, rfl, rfl, by decide +kernel⟩ ?hw ?hc
  · exact ⟨endHeap w, endHeap_left w, fun b o h => by rw [show s.heap = endHeap w from e]; exact h⟩
  · rintro ⟨h₀, l, k⟩ m
    exact ⟨h₀, l, fun b o e => m _ _ (k _ _ e)⟩
  case hw => w_witness2
  case hc => exact call _ _ (by rfl)
end Mine
end
section
open PySem PySem.W PyProof.Rows PySem.Calls
namespace Mine
noncomputable section
noncomputable def Kf (P : Params) : Frag := [(0, o0 P), (1, o1 P), (2, o2 P), (3, o3 P), (4, o4 P), (5, o5 P), (6, o6 P), (7, o7 P), (8, o8 P), (9, o9 P), (10, o10 P), (11, o11 P), (12, o12 P), (13, o13 P), (14, o14 P), (15, o15 P), (16, o16 P), (17, o17 P), (18, o18 P), (19, o19 P), (20, o20 P), (21, o21 P), (22, o22 P), (23, o23 P), (24, o24 P), (25, o25 P), (26, o26 P), (27, o27 P), (28, o28 P), (29, o29 P), (30, o30 P), (31, o31 P), (32, o32 P), (33, o33 P), (34, o34 P), (35, o35 P), (36, o36 P), (37, o37 P), (38, o38 P), (39, o39 P), (40, o40 P), (41, o41 P), (42, o42 P), (43, o43 P), (44, o44 P), (45, o45 P), (46, o46 P), (47, o47 P), (48, o48 P), (49, o49 P), (50, o50 P), (51, o51 P), (52, o52 P), (53, o53 P), (54, o54 P), (55, o55 P), (56, o56 P), (57, o57 P), (58, o58 P), (59, o59 P), (60, o60 P), (61, o61 P), (62, o62 P), (63, o63 P), (64, o64 P), (65, o65 P), (66, o66 P), (67, o67 P), (68, o68 P), (69, o69 P), (70, o70 P), (71, o71 P), (72, o72 P), (73, o73 P), (74, o74 P), (75, o75 P), (76, o76 P), (77, o77 P), (78, o78 P), (79, o79 P), (80, o80 P), (81, o81 P), (82, o82 P), (83, o83 P), (84, o84 P), (85, o85 P), (86, o86 P), (87, o87 P), (88, o88 P), (89, o89 P), (90, o90 P), (91, o91 P), (92, o92 P), (93, o93 P), (94, o94 P), (95, o95 P), (96, o96 P), (97, o97 P), (98, o98 P), (99, o99 P), (100, o100 P), (101, o101 P), (102, o102 P), (103, o103 P), (104, o104 P), (105, o105 P), (106, o106 P), (107, o107 P), (108, o108 P), (109, o109 P), (110, o110 P), (111, o111 P), (112, o112 P), (113, o113 P), (114, o114 P), (115, o115 P), (116, o116 P), (117, o117 P), (118, o118 P), (119, o119 P), (120, o120 P), (121, o121 P), (122, o122 P), (123, o123 P), (124, o124 P), (125, o125 P), (126, o126 P), (127, o127 P), (128, o128 P), (129, o129 P), (130, o130 P), (131, o131 P), (132, o132 P), (133, o133 P), (134, o134 P), (135, o135 P), (136, o136 P), (137, o137 P), (138, o138 P), (139, o139 P), (140, o140 P), (141, o141 P), (142, o142 P), (143, o143 P), (144, o144 P), (145, o145 P), (146, o146 P), (147, o147 P), (148, o148 P), (149, o149 P), (150, o150 P), (151, o151 P), (152, o152 P), (153, o153 P), (154, o154 P), (155, o155 P), (156, o156 P), (157, o157 P), (158, o158 P), (159, o159 P), (160, o160 P), (161, o161 P), (162, o162 P), (163, o163 P), (164, o164 P), (165, o165 P), (166, o166 P), (167, o167 P), (168, o168 P), (169, o169 P), (170, o170 P), (171, o171 P), (172, o172 P), (173, o173 P), (174, o174 P), (175, o175 P), (176, o176 P), (177, o177 P), (178, o178 P), (179, o179 P), (180, o180 P), (181, o181 P), (182, o182 P), (183, o183 P), (184, o184 P), (185, o185 P), (186, o186 P), (187, o187 P), (188, o188 P), (189, o189 P), (190, o190 P), (191, o191 P), (192, o192 P), (193, o193 P), (194, o194 P), (195, o195 P), (196, o196 P), (197, o197 P), (198, o198 P), (199, o199 P), (200, o200 P), (201, o201 P), (202, o202 P), (203, o203 P), (204, o204 P), (205, o205 P), (206, o206 P), (207, o207 P), (208, o208 P), (209, o209 P), (210, o210 P), (211, o211 P), (212, o212 P), (213, o213 P), (214, o214 P), (215, o215 P), (216, o216 P), (217, o217 P), (218, o218 P), (219, o219 P), (220, o220 P), (221, o221 P), (222, o222 P), (223, o223 P), (224, o224 P), (225, o225 P), (226, o226 P), (227, o227 P), (228, o228 P), (229, o229 P), (230, o230 P), (231, o231 P), (234, o234 P), (235, o235 P), (236, o236 P), (237, o237 P), (238, o238 P), (239, o239 P), (240, o240 P), (241, o241 P), (242, o242 P), (243, o243 P), (244, o244 P), (245, o245 P), (246, o246 P), (247, o247 P), (248, o248 P), (249, o249 P), (250, o250 P), (251, o251 P), (252, o252 P), (253, o253 P), (254, o254 P), (255, o255 P), (256, o256 P), (257, o257 P), (258, o258 P), (259, o259 P), (260, o260 P), (261, o261 P), (262, o262 P), (263, o263 P), (264, o264 P), (265, o265 P), (266, o266 P), (267, o267 P), (268, o268 P), (269, o269 P), (270, o270 P), (271, o271 P), (272, o272 P), (273, o273 P), (274, o274 P), (275, o275 P), (276, o276 P), (277, o277 P), (278, o278 P), (279, o279 P), (280, o280 P), (281, o281 P), (282, o282 P), (283, o283 P), (284, o284 P), (285, o285 P), (286, o286 P), (287, o287 P), (288, o288 P), (289, o289 P), (290, o290 P), (291, o291 P), (292, o292 P), (293, o293 P), (294, o294 P), (295, o295 P), (296, o296 P), (297, o297 P), (298, o298 P), (299, o299 P), (300, o300 P), (301, o301 P), (302, o302 P), (303, o303 P), (304, o304 P), (305, o305 P), (306, o306 P), (307, o307 P), (308, o308 P), (309, o309 P), (310, o310 P), (311, o311 P), (312, o312 P), (313, o313 P), (314, o314 P), (315, o315 P), (316, o316 P), (317, o317 P), (318, o318 P), (319, o319 P), (320, o320 P), (321, o321 P), (322, o322 P), (323, o323 P), (324, o324 P), (325, o325 P), (326, o326 P), (327, o327 P), (328, o328 P), (329, o329 P), (330, o330 P), (331, o331 P), (332, o332 P), (333, o333 P), (334, o334 P), (335, o335 P), (336, o336 P), (337, o337 P), (338, o338 P), (339, o339 P), (340, o340 P), (341, o341 P), (342, o342 P), (343, o343 P), (344, o344 P), (345, o345 P), (346, o346 P), (347, o347 P), (348, o348 P), (349, o349 P), (350, o350 P), (351, o351 P), (352, o352 P), (353, o353 P), (354, o354 P), (355, o355 P), (356, o356 P), (357, o357 P), (358, o358 P), (359, o359 P), (360, o360 P), (361, o361 P), (362, o362 P), (363, o363 P), (364, o364 P), (365, o365 P), (366, o366 P), (367, o367 P), (368, o368 P), (369, o369 P), (370, o370 P), (371, o371 P), (372, o372 P), (373, o373 P), (374, o374 P), (375, o375 P), (376, o376 P), (377, o377 P), (378, o378 P), (379, o379 P), (380, o380 P), (381, o381 P), (382, o382 P), (383, o383 P), (384, o384 P), (385, o385 P), (386, o386 P), (387, o387 P), (388, o388 P), (389, o389 P), (390, o390 P), (391, o391 P), (392, o392 P), (393, o393 P), (394, o394 P), (395, o395 P), (396, o396 P), (397, o397 P), (398, o398 P), (399, o399 P), (400, o400 P), (401, o401 P), (402, o402 P), (403, o403 P), (404, o404 P), (405, o405 P), (406, o406 P), (407, o407 P), (408, o408 P), (409, o409 P), (410, o410 P), (411, o411 P), (412, o412 P), (413, o413 P), (414, o414 P), (415, o415 P), (416, o416 P), (417, o417 P), (418, o418 P), (419, o419 P), (420, o420 P), (421, o421 P), (422, o422 P), (423, o423 P), (424, o424 P), (425, o425 P), (426, o426 P), (427, o427 P), (428, o428 P), (429, o429 P), (430, o430 P), (431, o431 P), (432, o432 P), (433, o433 P), (434, o434 P), (435, o435 P), (436, o436 P), (437, o437 P), (438, o438 P), (439, o439 P), (440, o440 P), (441, o441 P), (442, o442 P), (443, o443 P), (444, o444 P), (445, o445 P), (446, o446 P), (447, o447 P), (448, o448 P), (449, o449 P), (450, o450 P), (451, o451 P), (452, o452 P), (453, o453 P), (454, o454 P), (455, o455 P), (456, o456 P), (457, o457 P), (458, o458 P), (459, o459 P), (460, o460 P), (461, o461 P), (462, o462 P), (463, o463 P), (464, o464 P), (465, o465 P), (466, o466 P), (467, o467 P), (468, o468 P), (469, o469 P), (470, o470 P), (471, o471 P), (472, o472 P), (473, o473 P), (474, o474 P), (475, o475 P), (476, o476 P), (477, o477 P), (478, o478 P), (479, o479 P), (480, o480 P), (481, o481 P), (482, o482 P), (483, o483 P), (484, o484 P), (485, o485 P), (486, o486 P), (487, o487 P), (488, o488 P), (489, o489 P), (490, o490 P), (491, o491 P), (492, o492 P), (493, o493 P), (494, o494 P), (495, o495 P), (496, o496 P), (497, o497 P), (498, o498 P), (499, o499 P), (500, o500 P), (501, o501 P), (502, o502 P), (503, o503 P), (504, o504 P), (505, o505 P), (506, o506 P), (507, o507 P), (508, o508 P), (509, o509 P), (510, o510 P), (511, o511 P), (512, o512 P), (513, o513 P), (514, o514 P), (515, o515 P), (516, o516 P), (517, o517 P), (518, o518 P), (519, o519 P), (520, o520 P), (521, o521 P), (522, o522 P), (523, o523 P), (524, o524 P), (525, o525 P), (526, o526 P), (527, o527 P), (528, o528 P), (529, o529 P), (530, o530 P), (531, o531 P), (532, o532 P), (533, o533 P), (534, o534 P), (535, o535 P), (536, o536 P), (537, o537 P), (538, o538 P), (539, o539 P), (540, o540 P), (541, o541 P), (542, o542 P), (543, o543 P), (544, o544 P), (545, o545 P), (546, o546 P), (547, o547 P), (548, o548 P), (549, o549 P), (550, o550 P), (551, o551 P), (552, o552 P), (553, o553 P), (554, o554 P), (555, o555 P), (556, o556 P), (557, o557 P), (558, o558 P), (559, o559 P), (560, o560 P), (561, o561 P), (562, o562 P), (563, o563 P), (564, o564 P), (565, o565 P), (566, o566 P), (567, o567 P), (568, o568 P), (569, o569 P), (570, o570 P), (571, o571 P), (572, o572 P), (573, o573 P), (574, o574 P), (575, o575 P), (576, o576 P), (577, o577 P), (578, o578 P), (579, o579 P), (580, o580 P), (581, o581 P), (582, o582 P), (583, o583 P), (584, o584 P), (585, o585 P), (586, o586 P), (587, o587 P), (588, o588 P), (589, o589 P), (590, o590 P), (591, o591 P), (592, o592 P), (593, o593 P), (594, o594 P), (595, o595 P), (596, o596 P), (597, o597 P), (598, o598 P), (599, o599 P), (600, o600 P), (601, o601 P), (602, o602 P), (603, o603 P), (604, o604 P), (605, o605 P), (606, o606 P), (607, o607 P), (608, o608 P), (609, o609 P), (610, o610 P), (611, o611 P), (612, o612 P), (613, o613 P), (614, o614 P), (615, o615 P), (616, o616 P), (617, o617 P), (618, o618 P), (619, o619 P), (620, o620 P), (621, o621 P), (622, o622 P), (623, o623 P), (624, o624 P), (625, o625 P), (626, o626 P), (627, o627 P), (628, o628 P), (629, o629 P), (630, o630 P), (631, o631 P), (632, o632 P), (633, o633 P), (634, o634 P), (635, o635 P), (636, o636 P), (637, o637 P), (638, o638 P), (639, o639 P), (640, o640 P), (641, o641 P), (642, o642 P), (643, o643 P), (644, o644 P), (645, o645 P), (646, o646 P), (647, o647 P), (648, o648 P), (649, o649 P), (650, o650 P), (651, o651 P), (652, o652 P), (653, o653 P), (654, o654 P), (655, o655 P), (656, o656 P), (657, o657 P)]
noncomputable def Kas : List Addr := [0, 1, 2, 3, 4, 5, 6, 7, 8, 9, 10, 11, 12, 13, 14, 15, 16, 17, 18, 19, 20, 21, 22, 23, 24, 25, 26, 27, 28, 29, 30, 31, 32, 33, 34, 35, 36, 37, 38, 39, 40, 41, 42, 43, 44, 45, 46, 47, 48, 49, 50, 51, 52, 53, 54, 55, 56, 57, 58, 59, 60, 61, 62, 63, 64, 65, 66, 67, 68, 69, 70, 71, 72, 73, 74, 75, 76, 77, 78, 79, 80, 81, 82, 83, 84, 85, 86, 87, 88, 89, 90, 91, 92, 93, 94, 95, 96, 97, 98, 99, 100, 101, 102, 103, 104, 105, 106, 107, 108, 109, 110, 111, 112, 113, 114, 115, 116, 117, 118, 119, 120, 121, 122, 123, 124, 125, 126, 127, 128, 129, 130, 131, 132, 133, 134, 135, 136, 137, 138, 139, 140, 141, 142, 143, 144, 145, 146, 147, 148, 149, 150, 151, 152, 153, 154, 155, 156, 157, 158, 159, 160, 161, 162, 163, 164, 165, 166, 167, 168, 169, 170, 171, 172, 173, 174, 175, 176, 177, 178, 179, 180, 181, 182, 183, 184, 185, 186, 187, 188, 189, 190, 191, 192, 193, 194, 195, 196, 197, 198, 199, 200, 201, 202, 203, 204, 205, 206, 207, 208, 209, 210, 211, 212, 213, 214, 215, 216, 217, 218, 219, 220, 221, 222, 223, 224, 225, 226, 227, 228, 229, 230, 231, 234, 235, 236, 237, 238, 239, 240, 241, 242, 243, 244, 245, 246, 247, 248, 249, 250, 251, 252, 253, 254, 255, 256, 257, 258, 259, 260, 261, 262, 263, 264, 265, 266, 267, 268, 269, 270, 271, 272, 273, 274, 275, 276, 277, 278, 279, 280, 281, 282, 283, 284, 285, 286, 287, 288, 289, 290, 291, 292, 293, 294, 295, 296, 297, 298, 299, 300, 301, 302, 303, 304, 305, 306, 307, 308, 309, 310, 311, 312, 313, 314, 315, 316, 317, 318, 319, 320, 321, 322, 323, 324, 325, 326, 327, 328, 329, 330, 331, 332, 333, 334, 335, 336, 337, 338, 339, 340, 341, 342, 343, 344, 345, 346, 347, 348, 349, 350, 351, 352, 353, 354, 355, 356, 357, 358, 359, 360, 361, 362, 363, 364, 365, 366, 367, 368, 369, 370, 371, 372, 373, 374, 375, 376, 377, 378, 379, 380, 381, 382, 383, 384, 385, 386, 387, 388, 389, 390, 391, 392, 393, 394, 395, 396, 397, 398, 399, 400, 401, 402, 403, 404, 405, 406, 407, 408, 409, 410, 411, 412, 413, 414, 415, 416, 417, 418, 419, 420, 421, 422, 423, 424, 425, 426, 427, 428, 429, 430, 431, 432, 433, 434, 435, 436, 437, 438, 439, 440, 441, 442, 443, 444, 445, 446, 447, 448, 449, 450, 451, 452, 453, 454, 455, 456, 457, 458, 459, 460, 461, 462, 463, 464, 465, 466, 467, 468, 469, 470, 471, 472, 473, 474, 475, 476, 477, 478, 479, 480, 481, 482, 483, 484, 485, 486, 487, 488, 489, 490, 491, 492, 493, 494, 495, 496, 497, 498, 499, 500, 501, 502, 503, 504, 505, 506, 507, 508, 509, 510, 511, 512, 513, 514, 515, 516, 517, 518, 519, 520, 521, 522, 523, 524, 525, 526, 527, 528, 529, 530, 531, 532, 533, 534, 535, 536, 537, 538, 539, 540, 541, 542, 543, 544, 545, 546, 547, 548, 549, 550, 551, 552, 553, 554, 555, 556, 557, 558, 559, 560, 561, 562, 563, 564, 565, 566, 567, 568, 569, 570, 571, 572, 573, 574, 575, 576, 577, 578, 579, 580, 581, 582, 583, 584, 585, 586, 587, 588, 589, 590, 591, 592, 593, 594, 595, 596, 597, 598, 599, 600, 601, 602, 603, 604, 605, 606, 607, 608, 609, 610, 611, 612, 613, 614, 615, 616, 617, 618, 619, 620, 621, 622, 623, 624, 625, 626, 627, 628, 629, 630, 631, 632, 633, 634, 635, 636, 637, 638, 639, 640, 641, 642, 643, 644, 645, 646, 647, 648, 649, 650, 651, 652, 653, 654, 655, 656, 657]
theorem Kas_is (P : Params) : Kas = (Kf P).map (·.1) := by kernel_rfl
noncomputable def abget (t : BT) (n : Nat) (a : Nat) : Option Obj := match Nat.blt a n with
  | true => alive ((t.get a).getD default)
  | false => none
theorem abget_is (t : BT) (n : Nat) (life : Life) : (absHeap t n life).get? = abget t n := by
  funext a
  unfold Heap.get? abget
  rw [absHeap_at]
  by_cases h : a < n
  · rw [if_pos h, show Nat.blt a n = true from Nat.ble_eq_true_of_le h]
    generalize (t.get a).getD default = o
    obtain ⟨c, d, dt, sl⟩ := o
    cases dt <;> rfl
  · rw [if_neg h, show Nat.blt a n = false by
      cases q : Nat.blt a n with
      | false => rfl
      | true => exact absurd (Nat.le_of_ble_eq_true q) h]
theorem kIn_left {w : World} {h : Heap} (l : Left w h) : (Kf w.params).In h := by
  obtain ⟨es, n, tb, es', n', tb', _, _, _, _, rfl⟩ := l
  refine Frag.in_of (Kas_is w.params) ?_
  rw [abget_is]
  kernel_rfl
theorem sets_left {w : World} {h : Heap} (l : Left w h) : (∃ es n tb, ElemsAre w.params es vowelsG ∧ tb.fits es.size = true ∧ h.get? 232 = some (setO es n tb)) ∧ ∃ es n tb, ElemsAre w.params es vowelsW ∧ tb.fits es.size = true ∧ h.get? 233 = some (setO es n tb) := by
  obtain ⟨es, n, tb, es', n', tb', h1, h2, h3, h4, rfl⟩ := l
  refine ⟨⟨es, n, tb, h1, h2, ?_⟩, ⟨es', n', tb', h3, h4, ?_⟩⟩ <;> (rw [abget_is]; kernel_rfl)
end
end Mine
end
section
open PySem PySem.W PyProof.Rows PySem.Calls
namespace Mine
inductive AV where
  | none
  | bool (b : Bool)
  | int (i : Int)
  | str (x : List Nat)
  | lst (xs : List AV)
  | tup (xs : List AV)
  | self
  | am (s : List Nat) (sub res : Int)
  | sset (cs : List Nat)
noncomputable abbrev amongD (P : Params) (s : Str) (a b : Tok) (k1 k2 k3 : Tok) (t : Tok) (sub res : Int) : Obj :=
  dictOf [⟨PyData.keyHash P "s", .str "s" k1, .str s t⟩, ⟨PyData.keyHash P "substring_i", .str "substring_i" k2, .int sub a⟩, ⟨PyData.keyHash P "result", .str "result" k3, .int res b⟩] 3
mutual
inductive VR (P : Params) (x : Option (Addr × Addr)) (O : Addr → Obj → Prop) : Value → AV → Prop
  | none : VR P x O .none .none
  | bool (b : Bool) : VR P x O (.bool b) (.bool b)
  | int (i : Int) (t : Tok) : VR P x O (.int i t) (.int i)
  | str (s : Str) (t : Tok) : VR P x O (.str s t) (.str s.cps.toList)
  | lst {a : Addr} {vs : List Value} {n : Nat} {xs : List AV} : O a ⟨.type "list", .none, .seq vs.toArray n, #[]⟩ → VRs P x O vs xs → VR P x O (.ref a) (.lst xs)
  | tup {a : Addr} {vs : List Value} {n : Nat} {xs : List AV} : O a ⟨.type "tuple", .none, .seq vs.toArray n, #[]⟩ → VRs P x O vs xs → VR P x O (.ref a) (.tup xs)
  | self {a d : Addr} : x = some (a, d) → VR P x O (.ref a) .self
  | am {a d : Addr} {s : Str} {sub res : Int} {t1 t2 k1 k2 k3 t : Tok} : O a ⟨.ref 220, some d, .plain, #[]⟩ → O d (amongD P s t1 t2 k1 k2 k3 t sub res) → VR P x O (.ref a) (.am s.cps.toList sub res)
  | sset {a : Addr} {es : Array (Int × Value)} {n : Nat} {tb : SetTable} {cs : List Nat} : O a (setO es n tb) → ElemsAre P es cs → tb.fits es.size = true → VR P x O (.ref a) (.sset cs)
inductive VRs (P : Params) (x : Option (Addr × Addr)) (O : Addr → Obj → Prop) : List Value → List AV → Prop
  | nil : VRs P x O [] []
  | cons {v : Value} {vs : List Value} {a : AV} {as : List AV} : VR P x O v a → VRs P x O vs as → VRs P x O (v :: vs) (a :: as)
end
section
variable {P : Params} {x : Option (Addr × Addr)} {O O' : Addr → Obj → Prop}
theorem VR.int_inv {v : Value} {i : Int} (h : VR P x O v (.int i)) : ∃ t, v = .int i t := by cases h; exact ⟨_, rfl⟩
theorem VR.bool_inv {v : Value} {b : Bool} (h : VR P x O v (.bool b)) : v = .bool b := by cases h; rfl
theorem VR.none_inv {v : Value} (h : VR P x O v .none) : v = .none := by cases h; rfl
inductive StrX (v : Value) (l : List Nat) : Prop | mk (s : Str) (t : Tok) (e : v = .str s t) (e2 : s.cps.toList = l)
theorem VR.str_inv {v : Value} {l : List Nat} (h : VR P x O v (.str l)) : StrX v l := by cases h; exact ⟨_, _, rfl, rfl⟩
inductive SeqX (P : Params) (x : Option (Addr × Addr)) (O : Addr → Obj → Prop) (k : String) (v : Value) (xs : List AV) : Prop | mk (a : Addr) (vs : List Value) (n : Nat) (e : v = .ref a) (o : O a ⟨.type k, .none, .seq vs.toArray n, #[]⟩) (r : VRs P x O vs xs)
theorem VR.lst_inv {v : Value} {xs : List AV} (h : VR P x O v (.lst xs)) : SeqX P x O "list" v xs := by cases h with | lst o r => exact ⟨_, _, _, rfl, o, r⟩
theorem VR.tup_inv {v : Value} {xs : List AV} (h : VR P x O v (.tup xs)) : SeqX P x O "tuple" v xs := by cases h with | tup o r => exact ⟨_, _, _, rfl, o, r⟩
theorem VR.self_inv {v : Value} (h : VR P x O v .self) : ∃ a d, v = .ref a ∧ x = some (a, d) := by cases h with | self e => exact ⟨_, _, rfl, e⟩
inductive AmX (P : Params) (O : Addr → Obj → Prop) (v : Value) (l : List Nat) (sub res : Int) : Prop | mk (a d : Addr) (s : Str) (t1 t2 k1 k2 k3 t : Tok) (e : v = .ref a) (e2 : s.cps.toList = l) (o1 : O a ⟨.ref 220, some d, .plain, #[]⟩) (o2 : O d (amongD P s t1 t2 k1 k2 k3 t sub res))
theorem VR.am_inv {v : Value} {l : List Nat} {sub res : Int} (h : VR P x O v (.am l sub res)) : AmX P O v l sub res := by cases h with | am o1 o2 => exact ⟨_, _, _, _, _, _, _, _, _, rfl, rfl, o1, o2⟩
inductive SetX (P : Params) (O : Addr → Obj → Prop) (v : Value) (cs : List Nat) : Prop | mk (a : Addr) (es : Array (Int × Value)) (n : Nat) (tb : SetTable) (e : v = .ref a) (o : O a (setO es n tb)) (el : ElemsAre P es cs) (f : tb.fits es.size = true)
theorem VR.sset_inv {v : Value} {cs : List Nat} (h : VR P x O v (.sset cs)) : SetX P O v cs := by cases h with | sset o e f => exact ⟨_, _, _, _, rfl, o, e, f⟩
inductive ConsX (P : Params) (x : Option (Addr × Addr)) (O : Addr → Obj → Prop) (us : List Value) (a : AV) (as : List AV) : Prop | mk (v : Value) (vs : List Value) (e : us = v :: vs) (h : VR P x O v a) (r : VRs P x O vs as)
theorem VRs.cons_inv {us : List Value} {a : AV} {as : List AV} (h : VRs P x O us (a :: as)) : ConsX P x O us a as := by cases h with | cons a b => exact ⟨_, _, rfl, a, b⟩
theorem VRs.nil_inv {us : List Value} (h : VRs P x O us []) : us = [] := by cases h; rfl
inductive VO (P : Params) : Obj → Prop
  | lst (vs : List Value) (n : Nat) : VO P ⟨.type "list", .none, .seq vs.toArray n, #[]⟩
  | tup (vs : List Value) (n : Nat) : VO P ⟨.type "tuple", .none, .seq vs.toArray n, #[]⟩
  | am (d : Addr) : VO P ⟨.ref 220, some d, .plain, #[]⟩
  | amd (s : Str) (sub res : Int) (t1 t2 k1 k2 k3 t : Tok) : VO P (amongD P s t1 t2 k1 k2 k3 t sub res)
  | sset (es : Array (Int × Value)) (n : Nat) (tb : SetTable) : VO P (setO es n tb)
mutual
theorem VR.monoG (h : ∀ a o, VO P o → O a o → O' a o) : ∀ {v : Value} {a : AV}, VR P x O v a → VR P x O' v a
  | _, _, .none => .none
  | _, _, .bool b => .bool b
  | _, _, .int i t => .int i t
  | _, _, .str s t => .str s t
  | _, _, .lst o r => .lst (h _ _ (.lst _ _) o) (VRs.monoG h r)
  | _, _, .tup o r => .tup (h _ _ (.tup _ _) o) (VRs.monoG h r)
  | _, _, .self e => .self e
  | _, _, .am o1 o2 => .am (h _ _ (.am _) o1) (h _ _ (.amd ..) o2)
  | _, _, .sset o e f => .sset (h _ _ (.sset ..) o) e f
theorem VRs.monoG (h : ∀ a o, VO P o → O a o → O' a o) : ∀ {v : List Value} {a : List AV}, VRs P x O v a → VRs P x O' v a
  | _, _, .nil => .nil
  | _, _, .cons a b => .cons (VR.monoG h a) (VRs.monoG h b)
end
theorem VR.mono (h : ∀ a o, O a o → O' a o) {v : Value} {a : AV} (r : VR P x O v a) : VR P x O' v a := r.monoG fun a o _ => h a o
theorem VRs.mono (h : ∀ a o, O a o → O' a o) {v : List Value} {a : List AV} (r : VRs P x O v a) : VRs P x O' v a := r.monoG fun a o _ => h a o
theorem VRs.length : ∀ {v : List Value} {a : List AV}, VRs P x O v a → v.length = a.length
  | _, _, .nil => rfl
  | _, _, .cons _ b => by rw [List.length_cons, List.length_cons, VRs.length b]
theorem VRs.get : ∀ {v : List Value} {a : List AV} {i : Nat} {y : AV}, VRs P x O v a → a[i]? = some y → ∃ u, v[i]? = some u ∧ VR P x O u y
  | _, _, i, y, .nil, h => by simp at h
  | _, _, 0, y, .cons a b, h => by simp at h; subst h; exact ⟨_, rfl, a⟩
  | _, _, i + 1, y, .cons a b, h => by
    rw [List.getElem?_cons_succ] at h
    obtain ⟨u, h1, h2⟩ := VRs.get b h
    exact ⟨u, by rw [List.getElem?_cons_succ]; exact h1, h2⟩
theorem VRs.append : ∀ {v v' : List Value} {a a' : List AV}, VRs P x O v a → VRs P x O v' a' → VRs P x O (v ++ v') (a ++ a')
  | _, _, _, _, .nil, h => h
  | _, _, _, _, .cons a b, h => .cons a (VRs.append b h)
theorem VR.handed {v : Value} {a : AV} (h : VR P x O v a) : handedIn v = true := by
  cases h <;> rfl
end
structure St where
  fs : List AV
  ls : List (Option AV)
  cv : Option AV := Option.none
noncomputable def fieldNames : List Str := ["current", "cursor", "limit", "limit_backward", "bra", "ket", "I_p1", "I_p2"]
structure Cx where
  w : World
  A : Around
  name : Str
  scope : Scope
  L : Addr
  fa : Addr
  cd : Value
  outer : List Env
  b0 : Heap
  self : Option (Addr × Addr)
  names : List Str
  frs : List (Addr × Data)
  os : OsState
  mg : Str → Option Value
  mb : Str → Option Value
  mean : ExcName → Option Value
  cells : List (Str × Addr)
noncomputable abbrev Cx.env (c : Cx) : Env := envX c.name c.scope c.L c.fa c.cd c.cells
noncomputable abbrev Cx.M (c : Cx) : Model := model pw c.w
noncomputable abbrev Cx.K (c : Cx) : Frag := Kf c.w.params
noncomputable def FrsOk (b0 : Heap) : List Env → List (Addr × Data) → Prop
  | [], [] => True
  | e :: es, f :: fs => e.scope.kind ≠ .module ∧ e.frame = some f.1 ∧ (∃ es ep, f.2 = .dict es ep) ∧ b0.get? f.1 = none ∧ FrsOk b0 es fs
  | _, _ => False
structure Cx.Ok (c : Cx) : Prop where
  kind : c.scope.kind = .function
  X : c.K.In c.b0
  sets : (∃ es n tb, ElemsAre c.w.params es vowelsG ∧ tb.fits es.size = true ∧ c.b0.get? 232 = some (setO es n tb)) ∧ ∃ es n tb, ElemsAre c.w.params es vowelsW ∧ tb.fits es.size = true ∧ c.b0.get? 233 = some (setO es n tb)
  T : Top qv (looseW qv looseN) c.mean c.mg c.mb c.b0
  frames : c.A.frames = some (c.env :: c.outer)
  handled : c.A.handled = none
  depth : c.A.depth < 700
  units : c.A.units ≤ 3 * c.A.depth
  nodup : c.names.Nodup
  locs : ∀ y ∈ c.names, c.env.kindOf y = some .local ∧ (y == ("__debug__" : Str)) = false
  above : c.b0.objs.size ≤ c.L
  frsOk : FrsOk c.b0 c.outer c.frs
noncomputable def Cx.O (c : Cx) (led : List (Addr × Obj)) (a : Addr) (o : Obj) : Prop := (a, o) ∈ led ∨ c.b0.get? a = some o
noncomputable abbrev Cx.V (c : Cx) (led : List (Addr × Obj)) : Value → AV → Prop := VR c.w.params c.self (c.O led)
noncomputable abbrev Cx.Vs (c : Cx) (led : List (Addr × Obj)) : List Value → List AV → Prop := VRs c.w.params c.self (c.O led)
theorem Cx.Ok.unitsLt {c : Cx} (k : c.Ok) : c.A.units < cLine := by
  have h1 := k.units
  have h2 := k.depth
  show _ < 9900
  omega
inductive DictR (P : Params) (V : Value → AV → Prop) : List Str → List DictEntry → List AV → Prop
  | nil (ns : List Str) : DictR P V ns [] []
  | cons {n : Str} {ns : List Str} {t : Tok} {v : Value} {a : AV} {es : List DictEntry} {as : List AV} : V v a → DictR P V ns es as → DictR P V (n :: ns) (⟨PyData.keyHash P n, .str n t, v⟩ :: es) (a :: as)
noncomputable abbrev instO (dx : Addr) : Obj := ⟨.ref 527, some dx, .plain, #[]⟩
inductive SelfX (P : Params) (V : Value → AV → Prop) (x dx : Addr) (fs : List AV) (part led : List (Addr × Obj)) : Prop
  | mk (es : List DictEntry) (n : Nat) (e : part = [(dx, dictOf es n)]) (D : DictR P V fieldNames es fs) (m : (x, instO dx) ∈ led) (d : ∀ p ∈ led, p.1 ≠ dx)
noncomputable def Cx.SelfR (c : Cx) (fs : List AV) (part led : List (Addr × Obj)) : Prop := match c.self with
  | none => part = [] ∧ fs = []
  | some (x, dx) => SelfX c.w.params (c.V led) x dx fs part led
inductive LocX (ns : List Str) (V : Value → AV → Prop) (m : Str → Option Value) (i : Nat) (a : AV) : Prop
  | mk (y : Str) (v : Value) (n : ns[i]? = some y) (e : m y = some v) (h : V v a)
noncomputable def Cx.LocR (c : Cx) (led : List (Addr × Obj)) (m : Str → Option Value) (ls : List (Option AV)) : Prop :=
  ∀ (i : Nat) (a : AV), ls[i]? = some (some a) → LocX c.names (c.V led) m i a
inductive FoR (dx : Option Addr) : List (Addr × Data) → List (Addr × Obj) → Prop
  | nil : FoR dx [] []
  | cons {a : Addr} {d : Data} {o : Obj} {fr : List (Addr × Data)} {fo : List (Addr × Obj)} : o.data = d → some a ≠ dx → FoR dx fr fo → FoR dx ((a, d) :: fr) ((a, o) :: fo)
noncomputable def NF (o : Obj) : Prop := (∀ vs, o.data = .fields vs → vs.size ≤ 3 ∧ ∃ n, o.cls = .type n) ∧ ∀ es n, o.data ≠ .dict es n
noncomputable abbrev LeL (led led' : List (Addr × Obj)) : Prop := ∀ p ∈ led, p ∈ led'
inductive InvX (c : Cx) (fs : List AV) (ls : List (Option AV)) (led : List (Addr × Obj)) (h : Heap) : Prop
  | mk (m : Str → Option Value) (part fo : List (Addr × Obj)) (F : Fr c.b0 c.L h m) (N : News c.b0 c.L h (part ++ (led ++ fo))) (S : c.SelfR fs part led) (L : c.LocR led m ls) (f : FoR (c.self.map (·.2)) c.frs fo)
inductive CelX (cs : List (Str × Addr)) (V : Value → AV → Prop) (led : List (Addr × Obj)) (v : AV) : Prop
  | mk (n : Str) (a : Addr) (o : Obj) (u : Value) (h : cs = [(n, a)]) (m : (a, o) ∈ led) (d : o.data = .cell (some u)) (r : V u v)
structure Inv (c : Cx) (st : St) (led : List (Addr × Obj)) (s : Shared) : Prop where
  ex : InvX c st.fs st.ls led s.heap
  nf : ∀ p ∈ led, NF p.2
  cel : ∀ v, st.cv = some v → CelX c.cells (c.V led) led v
  gens : s.gens = #[]
  os : s.os = c.os
noncomputable abbrev EF := St → Option (AV × St)
noncomputable abbrev TF := St → Option (Bool × St)
inductive FL where
  | next | brk | cont | ret (v : AV) | exc (k : Addr)
noncomputable abbrev SF := St → Option (FL × St)
inductive PV (c : Cx) (led : List (Addr × Obj)) (v : AV) (st' : St) (v' : Value) (s' : Shared) : Prop
  | mk (led' : List (Addr × Obj)) (k : LeL led led') (V : c.V led' v' v) (I : Inv c st' led' s')
inductive PVs (c : Cx) (led : List (Addr × Obj)) (vs : List AV) (st' : St) (us : List Value) (s' : Shared) : Prop
  | mk (led' : List (Addr × Obj)) (k : LeL led led') (V : c.Vs led' us vs) (I : Inv c st' led' s')
inductive PB (c : Cx) (led : List (Addr × Obj)) (b : Bool) (st' : St) (b' : Bool) (s' : Shared) : Prop
  | mk (led' : List (Addr × Obj)) (k : LeL led led') (V : b' = b) (I : Inv c st' led' s')
noncomputable def RefE (c : Cx) (e : Expr) (f : EF) : Prop := ∀ st led s v st', Inv c st led s → f st = some (v, st') →
  wpAny c.M c.A (eval e c.env) (PV c led v st') (fun _ _ => False) s
noncomputable def RefT (c : Cx) (e : Expr) (f : TF) : Prop := ∀ st led s b st', Inv c st led s → f st = some (b, st') →
  wpAny c.M c.A (isTrue e c.env (eval e c.env)) (PB c led b st') (fun _ _ => False) s
noncomputable def ExcIn (c : Cx) (C : Addr) (e : Value) (s : Shared) : Prop := ∃ a a0, e = .ref a ∧ c.b0.get? a = none ∧
  ((∃ oe vs, s.heap.get? a = some oe ∧ oe.cls = .ref C ∧ oe.data = .fields vs ∧ vs[0]? = some a0 ∧ vs[1]? = some .none) ∨ s.heap.TracedAtW c.b0 a (.ref C) a0 (rawInt c.L))
noncomputable def FLR (c : Cx) (led : List (Addr × Obj)) : FL → Flow → Prop
  | .next, f => f = .next
  | .brk, f => f = .brk
  | .cont, f => f = .cont
  | .ret a, f => ∃ v, f = .ret v ∧ c.V led v a
  | .exc _, _ => False
noncomputable def ExR (c : Cx) (e : Value) (s : Shared) : FL → Prop
  | .exc C => ExcIn c C e s
  | _ => False
inductive PostQ (c : Cx) (led : List (Addr × Obj)) (r : FL) (st' : St) (f : Flow) (s' : Shared) : Prop
  | mk (led' : List (Addr × Obj)) (k : LeL led led') (R : FLR c led' r f) (I : Inv c st' led' s')
inductive PostE (c : Cx) (led : List (Addr × Obj)) (r : FL) (st' : St) (e : Value) (s' : Shared) : Prop
  | mk (led' : List (Addr × Obj)) (k : LeL led led') (R : ExR c e s' r) (I : Inv c st' led' s')
noncomputable def RefS (c : Cx) (t : Stmt) (f : SF) : Prop := ∀ st led s r st', Inv c st led s → f st = some (r, st') →
  wpAny c.M c.A (exec t c.env) (PostQ c led r st') (PostE c led r st') s
noncomputable def RefSs (c : Cx) (t : List Stmt) (f : SF) : Prop := ∀ st led s r st', Inv c st led s → f st = some (r, st') →
  wpAny c.M c.A (execs t c.env) (PostQ c led r st') (PostE c led r st') s
theorem O_mono {c : Cx} {led led' : List (Addr × Obj)} (h : ∀ p ∈ led, p ∈ led') : ∀ a o, c.O led a o → c.O led' a o := fun a o q => q.imp (h _) id
theorem Inv.with {c : Cx} {st : St} {led : List (Addr × Obj)} {s : Shared} (I : Inv c st led s) (tk : Nat) : Inv c st led { s with toks := tk } := ⟨I.ex, I.nf, I.cel, I.gens, I.os⟩
theorem Inv.heapO {c : Cx} {st : St} {led : List (Addr × Obj)} {s : Shared} (I : Inv c st led s) {a : Addr} {o : Obj} (h : c.O led a o) : s.heap.get? a = some o := by
  obtain ⟨m, part, fo, F, N, _⟩ := I.ex
  rcases h with h | h
  · exact (N (a, o) (List.mem_append_right _ (List.mem_append_left _ h))).1
  · exact F.keep _ _ h
theorem Inv.K {c : Cx} {st : St} {led : List (Addr × Obj)} {s : Shared} (I : Inv c st led s) (k : c.Ok) : c.K.In s.heap := by
  obtain ⟨m, part, fo, F, _⟩ := I.ex
  exact k.X.keeps F.keep
noncomputable def eK (a : AV) : EF := fun st => some (a, st)
noncomputable def eL (i : Nat) : EF := fun st => match st.ls[i]? with | some (some a) => some (a, st) | _ => none
theorem rE_str {c : Cx} (x : Str) (k : Nat) (pos : Pos) : RefE c (.Constant (.str x) k pos) (eK (.str x.cps.toList)) := by
  intro st led s v st' I h
  obtain ⟨rfl, rfl⟩ : _ = v ∧ st = st' := by simpa [eK] using h
  exact wpAny_Constant_str ⟨led, fun _ h => h, .str _ _, I.with _⟩
theorem rE_int {c : Cx} (i : Int) (k : Nat) (pos : Pos) : RefE c (.Constant (.int i) k pos) (eK (.int i)) := by
  intro st led s v st' I h
  obtain ⟨rfl, rfl⟩ : _ = v ∧ st = st' := by simpa [eK] using h
  exact wpAny_Constant_int ⟨led, fun _ h => h, .int _ _, I.with _⟩
theorem rE_bool {c : Cx} (b : Bool) (k : Nat) (pos : Pos) : RefE c (.Constant (.bool b) k pos) (eK (.bool b)) := by
  intro st led s v st' I h
  obtain ⟨rfl, rfl⟩ : _ = v ∧ st = st' := by simpa [eK] using h
  exact wpAny_Constant_bool ⟨led, fun _ h => h, .bool _, I⟩
theorem rE_none {c : Cx} (k : Nat) (pos : Pos) : RefE c (.Constant .none k pos) (eK .none) := by
  intro st led s v st' I h
  obtain ⟨rfl, rfl⟩ : _ = v ∧ st = st' := by simpa [eK] using h
  exact wpAny_Constant_none ⟨led, fun _ h => h, .none, I⟩
theorem rE_loc {c : Cx} (k : c.Ok) (i : Nat) {x : Str} {pos : Pos} (hx : c.names[i]? = some x) : RefE c (.Name x pos) (eL i) := by
  intro st led s v st' I h
  unfold eL at h
  split at h
  · rename_i a ha
    obtain ⟨rfl, rfl⟩ : a = v ∧ st = st' := by simpa using h
    obtain ⟨m, part, fo, F, N, hS, hL, hf⟩ := I.ex
    obtain ⟨y, u, h1, h2, h3⟩ := hL i a ha
    obtain rfl : x = y := Option.some.inj (hx.symm.trans h1)
    have hl := k.locs x (List.mem_of_getElem? hx)
    exact nameX_L F h2 ⟨led, fun _ h => h, h3, I⟩ k.kind hl.1 hl.2
  · cases h
noncomputable def eBin (g : AV → AV → Option AV) (a b : EF) : EF := fun st => (a st).bind fun p => (b p.2).bind fun q => (g p.1 q.1).map fun z => (z, q.2)
theorem bind2 {a b : EF} {g : AV → AV → Option AV} {st st' : St} {v : AV} (h : eBin g a b st = some (v, st')) :
    ∃ x y st1, a st = some (x, st1) ∧ b st1 = some (y, st') ∧ g x y = some v := by
  unfold eBin at h
  obtain ⟨⟨x, st1⟩, h1, h⟩ := Option.bind_eq_some_iff.mp h
  obtain ⟨⟨y, st2⟩, h2, h⟩ := Option.bind_eq_some_iff.mp h
  obtain ⟨z, h3, h⟩ := Option.map_eq_some_iff.mp h
  cases h
  exact ⟨x, y, st1, h1, h2, h3⟩
noncomputable def OpOk (c : Cx) (op : Value → Value → Sem Value) (g : AV → AV → Option AV) : Prop := ∀ x y z, g x y = some z → ∀ st led s u v, Inv c st led s → c.V led u x → c.V led v y →
  wpAny c.M c.A (op u v) (PV c led z st) (fun _ _ => False) s
theorem rE_bin {c : Cx} {op : Operator} {g : AV → AV → Option AV} {l r : Expr} {fl fr : EF} {pos : Pos} (ho : OpOk c (binaryOp op) g) (hl : RefE c l fl) (hr : RefE c r fr) : RefE c (.BinOp l op r pos) (eBin g fl fr) := by
  intro st led s v st' I h
  obtain ⟨x, y, st1, h1, h2, h3⟩ := bind2 h
  refine wpAny_BinOp (wpAny_mono (hl st led s x st1 I h1) ?_ fun _ _ e => e.elim)
  rintro u s1 ⟨led1, k1, V1, I1⟩
  refine wpAny_mono (hr st1 led1 s1 y st' I1 h2) ?_ fun _ _ e => e.elim
  rintro u2 s2 ⟨led2, k2, V2, I2⟩
  refine wpAny_mono (ho x y v h3 st' led2 s2 u u2 I2 (V1.mono (O_mono k2)) V2) ?_ fun _ _ e => e.elim
  rintro u3 s3 ⟨led3, k3, V3, I3⟩
  exact ⟨led3, fun p hp => k3 p (k2 p (k1 p hp)), V3, I3⟩
theorem rE_cmp {c : Cx} {op : CmpOp} {g : AV → AV → Option AV} {l r : Expr} {fl fr : EF} {pos : Pos} (ho : OpOk c (compareOp op) g) (hl : RefE c l fl) (hr : RefE c r fr)
    (hm : behindInMarks op r = false := by with_unfolding_all rfl) : RefE c (.Compare l [op] [r] pos) (eBin g fl fr) := by
  intro st led s v st' I h
  obtain ⟨x, y, st1, h1, h2, h3⟩ := bind2 h
  refine wpAny_Compare1 (wpAny_mono (hl st led s x st1 I h1) ?_ fun _ _ e => e.elim) hm
  rintro u s1 ⟨led1, k1, V1, I1⟩
  refine wpAny_mono (hr st1 led1 s1 y st' I1 h2) ?_ fun _ _ e => e.elim
  rintro u2 s2 ⟨led2, k2, V2, I2⟩
  refine wpAny_mono (ho x y v h3 st' led2 s2 u u2 I2 (V1.mono (O_mono k2)) V2) ?_ fun _ _ e => e.elim
  rintro u3 s3 ⟨led3, k3, V3, I3⟩
  exact ⟨led3, fun p hp => k3 p (k2 p (k1 p hp)), V3, I3⟩
noncomputable def tE (f : EF) : TF := fun st => match f st with | some (.bool b, st') => some (b, st') | _ => none
theorem tE_inv {f : EF} {st st' : St} {b : Bool} (h : tE f st = some (b, st')) : f st = some (.bool b, st') := by
  unfold tE at h
  split at h
  · rename_i h1; cases h; exact h1
  · cases h
theorem V_bool {c : Cx} {led : List (Addr × Obj)} {v : Value} {b : Bool} (h : c.V led v (.bool b)) : v = .bool b := by cases h; rfl
theorem rT_cmp {c : Cx} {op : CmpOp} {g : AV → AV → Option AV} {l r : Expr} {fl fr : EF} {pos : Pos} (ho : OpOk c (compareOp op) g) (hl : RefE c l fl) (hr : RefE c r fr)
    (hm : behindInMarks op r = false := by with_unfolding_all rfl) : RefT c (.Compare l [op] [r] pos) (tE (eBin g fl fr)) := by
  intro st led s v st' I h
  obtain ⟨x, y, st1, h1, h2, h3⟩ := bind2 (tE_inv h)
  refine wpAny_isTrue_Compare1 (wpAny_mono (hl st led s x st1 I h1) ?_ fun _ _ e => e.elim) hm
  rintro u s1 ⟨led1, k1, V1, I1⟩
  refine wpAny_mono (hr st1 led1 s1 y st' I1 h2) ?_ fun _ _ e => e.elim
  rintro u2 s2 ⟨led2, k2, V2, I2⟩
  refine wpAny_mono (ho x y _ h3 st' led2 s2 u u2 I2 (V1.mono (O_mono k2)) V2) ?_ fun _ _ e => e.elim
  rintro u3 s3 ⟨led3, k3, V3, I3⟩
  rw [V_bool V3]
  exact wpAny_truthy_bool ⟨led3, fun p hp => k3 p (k2 p (k1 p hp)), rfl, I3⟩
theorem rT_plain {c : Cx} {e : Expr} {f : EF} (h : RefE c e f) (hp : isTrue e c.env (eval e c.env) = (do let v ← eval e c.env; standAt e.pos; holding [v] (truthy v)) := by rfl) : RefT c e (tE f) := by
  intro st led s b st' I hb
  refine isTrue_plain (wpAny_mono (h st led s _ st' I (tE_inv hb)) ?_ fun _ _ e => e.elim) hp
  rintro u s1 ⟨led1, k1, V1, I1⟩
  rw [V_bool V1]
  exact wpAny_truthy_bool ⟨led1, k1, rfl, I1⟩
noncomputable def tNot (f : TF) : TF := fun st => (f st).map fun p => (!p.1, p.2)
theorem rT_not {c : Cx} {e : Expr} {f : TF} {pos : Pos} (h : RefT c e f) : RefT c (.UnaryOp .Not e pos) (tNot f) := by
  intro st led s b st' I hb
  unfold tNot at hb
  obtain ⟨⟨b1, st1⟩, h1, h2⟩ := Option.map_eq_some_iff.mp hb
  cases h2
  refine isTrue_not (wpAny_mono (h st led s _ st1 I h1) ?_ fun _ _ e => e.elim)
  rintro u s1 ⟨led1, k1, rfl, I1⟩
  exact ⟨led1, k1, rfl, I1⟩
end Mine
end
section
open PySem PySem.W PyProof.Rows PySem.Calls
namespace Mine
noncomputable def toS (x : List Nat) : Str := ⟨x.toArray⟩
theorem toS_of (s : Str) : toS s.cps.toList = s := by cases s; rfl
theorem str_eq_iff (x y : Str) : (x == y) = decide (x.cps.toList = y.cps.toList) := by
  rw [Bool.eq_iff_iff, beq_iff_eq, decide_eq_true_iff]
  constructor
  · rintro rfl; rfl
  · intro h
    rw [← toS_of x, ← toS_of y, h]
noncomputable def gAdd : AV → AV → Option AV
  | .int a, .int b => some (.int (a + b))
  | .str x, .str y => if x.length + y.length ≤ 1000 then some (.str (x ++ y)) else none
  | _, _ => none
noncomputable def gSub : AV → AV → Option AV
  | .int a, .int b => some (.int (a - b))
  | _, _ => none
noncomputable def gMod : AV → AV → Option AV
  | .int a, .int b => if b ≠ 0 then some (.int (a.fmod b)) else none
  | _, _ => none
noncomputable def gLt : AV → AV → Option AV
  | .int a, .int b => some (.bool (decide (a < b)))
  | _, _ => none
noncomputable def gLe : AV → AV → Option AV
  | .int a, .int b => some (.bool (decide (a ≤ b)))
  | _, _ => none
noncomputable def gGt : AV → AV → Option AV
  | .int a, .int b => some (.bool (decide (b < a)))
  | _, _ => none
noncomputable def gGe : AV → AV → Option AV
  | .int a, .int b => some (.bool (decide (b ≤ a)))
  | _, _ => none
noncomputable def gEq : AV → AV → Option AV
  | .int a, .int b => some (.bool (decide (a = b)))
  | .str a, .str b => some (.bool (decide (a = b)))
  | .bool a, .bool b => some (.bool (decide (a = b)))
  | .lst xs, .lst [] => some (.bool xs.isEmpty)
  | _, _ => none
noncomputable def gNe (x y : AV) : Option AV := match gEq x y with
  | some (.bool b) => some (.bool (!b))
  | _ => none
noncomputable def strsOf : List AV → Option (List (List Nat))
  | [] => some []
  | .str x :: r => (strsOf r).map (x :: ·)
  | _ => none
noncomputable def gIn : AV → AV → Option AV
  | .str x, .sset cs => if cs.length < 100 then some (.bool (cs.any fun c => decide (x = [c]))) else none
  | .str x, .lst ys => (strsOf ys).map fun zs => .bool (zs.any fun z => decide (z = x))
  | _, _ => none
noncomputable def gNotIn (x y : AV) : Option AV := match gIn x y with
  | some (.bool b) => some (.bool (!b))
  | _ => none
noncomputable def gIsNone : AV → AV → Option AV
  | .none, .none => some (.bool true)
  | .int _, .none => some (.bool false)
  | _, _ => none
theorem ii_inv {F : Int → Int → Option AV} {x y z : AV} (h : (match x, y with | .int a, .int b => F a b | _, _ => none) = some z) : ∃ a b, x = .int a ∧ y = .int b ∧ F a b = some z := by
  split at h
  · exact ⟨_, _, rfl, rfl, h⟩
  · cases h
section
variable {c : Cx}
theorem o_addI : OpOk c (binaryOp .Add) gAdd := by
  intro x y z h st led s u v I hu hv
  cases x <;> cases y <;> simp only [gAdd, Option.some.injEq, reduceCtorEq] at h
  · obtain ⟨_, rfl⟩ := hu.int_inv; obtain ⟨_, rfl⟩ := hv.int_inv; subst h
    exact add_int ⟨led, fun _ h => h, .int _ _, I.with _⟩
  · split at h
    · rename_i hl
      obtain ⟨x, t, rfl, rfl⟩ := hu.str_inv
      obtain ⟨y, t', rfl, rfl⟩ := hv.str_inv
      cases h
      refine add_str (fun t' tk => ⟨led, fun _ h => h, ?_, I.with _⟩) ?_
      · have : (x ++ y).cps.toList = x.cps.toList ++ y.cps.toList := by
          show (x.cps ++ y.cps).toList = _
          simp
        rw [← this]
        exact .str _ _
      · show x.cps.size + y.cps.size ≤ sizeLine
        rw [sizeLine_eq]
        simp only [Array.length_toList] at hl
        omega
    · cases h
theorem o_sub : OpOk c (binaryOp .Sub) gSub := by
  intro x y z h st led s u v I hu hv
  obtain ⟨a, b, rfl, rfl, h'⟩ := ii_inv (F := fun a b => some (.int (a - b))) h
  obtain ⟨_, rfl⟩ := hu.int_inv; obtain ⟨_, rfl⟩ := hv.int_inv; cases h'
  exact sub_int ⟨led, fun _ h => h, .int _ _, I.with _⟩
theorem o_mod : OpOk c (binaryOp .Mod) gMod := by
  intro x y z h st led s u v I hu hv
  obtain ⟨a, b, rfl, rfl, h'⟩ := ii_inv (F := fun a b => if b ≠ 0 then some (.int (a.fmod b)) else none) h
  split at h'
  · rename_i hb
    obtain ⟨_, rfl⟩ := hu.int_inv; obtain ⟨_, rfl⟩ := hv.int_inv; cases h'
    exact mod_int' hb ⟨led, fun _ h => h, .int _ _, I.with _⟩
  · cases h'
theorem o_lt : OpOk c (compareOp .Lt) gLt := by
  intro x y z h st led s u v I hu hv
  obtain ⟨a, b, rfl, rfl, h'⟩ := ii_inv (F := fun a b => some (.bool (decide (a < b)))) h
  obtain ⟨_, rfl⟩ := hu.int_inv; obtain ⟨_, rfl⟩ := hv.int_inv; cases h'
  exact lt_int ⟨led, fun _ h => h, .bool _, I⟩
theorem o_le : OpOk c (compareOp .LtE) gLe := by
  intro x y z h st led s u v I hu hv
  obtain ⟨a, b, rfl, rfl, h'⟩ := ii_inv (F := fun a b => some (.bool (decide (a ≤ b)))) h
  obtain ⟨_, rfl⟩ := hu.int_inv; obtain ⟨_, rfl⟩ := hv.int_inv; cases h'
  exact le_int ⟨led, fun _ h => h, .bool _, I⟩
theorem o_gt : OpOk c (compareOp .Gt) gGt := by
  intro x y z h st led s u v I hu hv
  obtain ⟨a, b, rfl, rfl, h'⟩ := ii_inv (F := fun a b => some (.bool (decide (b < a)))) h
  obtain ⟨_, rfl⟩ := hu.int_inv; obtain ⟨_, rfl⟩ := hv.int_inv; cases h'
  exact gt_int ⟨led, fun _ h => h, .bool _, I⟩
theorem o_ge : OpOk c (compareOp .GtE) gGe := by
  intro x y z h st led s u v I hu hv
  obtain ⟨a, b, rfl, rfl, h'⟩ := ii_inv (F := fun a b => some (.bool (decide (b ≤ a)))) h
  obtain ⟨_, rfl⟩ := hu.int_inv; obtain ⟨_, rfl⟩ := hv.int_inv; cases h'
  exact ge_int ⟨led, fun _ h => h, .bool _, I⟩
theorem isList_of {led : List (Addr × Obj)} {st : St} {s : Shared} {a : Addr} {vs : List Value} {n : Nat} (I : Inv c st led s) (h : c.O led a ⟨.type "list", .none, .seq vs.toArray n, #[]⟩) : s.heap.IsList a vs.toArray := ⟨_, I.heapO h, rfl, n, rfl⟩
theorem o_eq (k : c.Ok) : OpOk c (compareOp .Eq) gEq := by
  intro x y z h st led s u v I hu hv
  unfold gEq at h
  split at h <;> cases h
  · obtain ⟨_, rfl⟩ := hu.int_inv; obtain ⟨_, rfl⟩ := hv.int_inv
    refine eq_int ⟨led, fun _ h => h, ?_, I⟩
    rw [show (_ == _) = decide (_ = _) from Bool.beq_eq_decide_eq ..]
    exact .bool _
  · obtain ⟨x, t, rfl, rfl⟩ := hu.str_inv
    obtain ⟨y, t', rfl, rfl⟩ := hv.str_inv
    refine eq_str ⟨led, fun _ h => h, ?_, I⟩
    rw [str_eq_iff]; exact .bool _
  · obtain rfl := hu.bool_inv; obtain rfl := hv.bool_inv
    refine eq_bool ⟨led, fun _ h => h, ?_, I⟩
    rw [show (_ == _) = decide (_ = _) from Bool.beq_eq_decide_eq ..]
    exact .bool _
  · rename_i xs
    obtain ⟨_, _, _, rfl, o1, r1⟩ := hu.lst_inv
    obtain ⟨_, _, _, rfl, o2, r2⟩ := hv.lst_inv
    cases r2
    have l1 := isList_of I o1
    have l2 := isList_of I o2
    cases r1 with
    | nil => exact SeqAt.eq_listAt (e := fun _ => true) l1 l2 rfl k.unitsLt (fun j h1 => absurd h1 (Nat.not_lt_zero j)) ⟨led, fun _ h => h, .bool _, I⟩
    | cons _ _ => exact SeqAt.eq_list_lengthsAt l1 l2 (by simp) k.unitsLt ⟨led, fun _ h => h, .bool _, I⟩
theorem strsAre_of {led : List (Addr × Obj)} : ∀ {vs : List Value} {ys : List AV} {zs : List (List Nat)}, c.Vs led vs ys → strsOf ys = some zs → StrsAre vs (zs.map toS)
  | _, _, zs, .nil, h => by simp [strsOf] at h; subst h; exact .nil
  | _, _, zs, .cons a b, h => by
    cases a <;> simp only [strsOf, reduceCtorEq] at h
    obtain ⟨zs', h1, rfl⟩ := Option.map_eq_some_iff.mp h
    rw [List.map_cons, toS_of]
    exact .cons _ _ (strsAre_of b h1)
theorem any_toS (x : Str) : ∀ zs : List (List Nat), (zs.map toS).any (· == x) = zs.any fun z => decide (z = x.cps.toList)
  | [] => rfl
  | z :: zs => by
    rw [List.map_cons, List.any_cons, List.any_cons, any_toS x zs, str_eq_iff]
    rfl
theorem setOf_elems {P : Params} {h : Heap} {a : Addr} {es : Array (Int × Value)} {n : Nat} {tb : SetTable} {cs : List Nat} {w : World} (hP : P = w.params) (ho : h.get? a = some (setO es n tb)) (e : ElemsAre P es cs) (hf : tb.fits es.size = true) (hc : cs.length < 100) :
    h.SetOf (PySem.strKind pw w) a (fun x => cs.any fun d => decide (x.cps.toList = [d])) es.size := by
  subst hP
  refine ⟨_, es, n, tb, ho, ⟨rfl, rfl, rfl⟩, rfl, fun y hy => ?_, fun x => ?_, by rw [e.size]; show _ < 4096; omega, hf, rfl⟩
  · obtain ⟨d, hd, t, rfl⟩ := e.sound y hy
    exact ⟨⟨⟨#[d]⟩, strKind_is _ _ _ _, rfl⟩, rfl⟩
  · rw [List.any_eq_true]
    constructor
    · rintro ⟨d, hd, hx⟩
      obtain ⟨t, ht⟩ := e.whole d hd
      refine ⟨_, ht, ?_⟩
      have : x = ⟨#[d]⟩ := by
        rw [← toS_of x, of_decide_eq_true hx]; rfl
      rw [this]
      exact strKind_is _ _ _ _
    · rintro ⟨y, hy, hi⟩
      obtain ⟨d, hd, t, rfl⟩ := e.sound y hy
      refine ⟨d, hd, decide_eq_true ?_⟩
      have : x = ⟨#[d]⟩ := (PySem.strKind pw w).inj _ _ _ hi (strKind_is _ _ _ _)
      rw [this]
theorem gNe_inv {x y z : AV} (h : gNe x y = some z) : ∃ b, gEq x y = some (.bool b) ∧ z = .bool (!b) := by
  unfold gNe at h
  split at h
  · rename_i b hb; cases h; exact ⟨b, hb, rfl⟩
  · cases h
theorem o_ne (k : c.Ok) : OpOk c (compareOp .NotEq) gNe := by
  intro x y z h0 st led s u v I hu hv
  obtain ⟨b, h, rfl⟩ := gNe_inv h0
  clear h0
  unfold gEq at h
  split at h <;> cases h
  · obtain ⟨_, rfl⟩ := hu.int_inv; obtain ⟨_, rfl⟩ := hv.int_inv
    refine ne_int ⟨led, fun _ h => h, ?_, I⟩
    rw [show (_ != _) = !decide (_ = _) from congrArg (!·) (Bool.beq_eq_decide_eq ..)]
    exact .bool _
  · obtain ⟨x, t, rfl, rfl⟩ := hu.str_inv
    obtain ⟨y, t', rfl, rfl⟩ := hv.str_inv
    refine ne_str ⟨led, fun _ h => h, ?_, I⟩
    rw [show (x != y) = !(x == y) from rfl, str_eq_iff]; exact .bool _
  · obtain rfl := hu.bool_inv; obtain rfl := hv.bool_inv
    refine ne_bool ⟨led, fun _ h => h, ?_, I⟩
    rw [show (_ != _) = !decide (_ = _) from congrArg (!·) (Bool.beq_eq_decide_eq ..)]
    exact .bool _
  · rename_i xs
    obtain ⟨_, _, _, rfl, o1, r1⟩ := hu.lst_inv
    obtain ⟨_, _, _, rfl, o2, r2⟩ := hv.lst_inv
    cases r2
    have l1 := isList_of I o1
    have l2 := isList_of I o2
    have hU : c.A.units < cLine := k.unitsLt
    cases r1 with
    | nil => exact cmp_ofNotEq (SeqAt.RcNeAt.lists (e := fun _ => true) l1 l2 rfl hU (fun j h1 => absurd h1 (Nat.not_lt_zero j)) _ _ _ _ ⟨led, fun _ h => h, .bool _, I⟩)
    | cons _ _ => exact cmp_ofNotEq (SeqAt.RcNeAt.lists_lengths l1 l2 (by simp) hU _ _ _ _ ⟨led, fun _ h => h, .bool _, I⟩)
theorem gIn_cases {x y z : AV} (h : gIn x y = some z) : (∃ u cs, x = .str u ∧ y = .sset cs ∧ cs.length < 100 ∧ z = .bool (cs.any fun d => decide (u = [d]))) ∨ ∃ u ys zs, x = .str u ∧ y = .lst ys ∧ strsOf ys = some zs ∧ z = .bool (zs.any fun z => decide (z = u)) := by
  unfold gIn at h
  split at h
  · split at h
    · rename_i hl; cases h; exact .inl ⟨_, _, rfl, rfl, hl, rfl⟩
    · cases h
  · obtain ⟨zs, h1, h2⟩ := Option.map_eq_some_iff.mp h
    exact .inr ⟨_, _, zs, rfl, rfl, h1, h2.symm⟩
  · cases h
theorem o_in : OpOk c (compareOp .In) gIn := by
  intro x y z h st led s u v I hu hv
  rcases gIn_cases h with ⟨x, cs, rfl, rfl, hc, rfl⟩ | ⟨x, ys, zs, rfl, rfl, hz, rfl⟩
  · obtain ⟨x, t, rfl, rfl⟩ := hu.str_inv
    obtain ⟨_, _, _, _, rfl, o, e, f⟩ := hv.sset_inv
    refine wpAny_inSet_of (knd := PySem.strKind pw c.w) (strKind_is _ _ x t) rfl (setOf_elems rfl (I.heapO o) e f hc) ⟨led, fun _ h => h, .bool _, I.with _⟩
  · obtain ⟨x, t, rfl, rfl⟩ := hu.str_inv
    obtain ⟨_, _, _, rfl, o, r⟩ := hv.lst_inv
    refine in_list_strs (isList_of I o) (strsAre_of r hz) ⟨led, fun _ h => h, ?_, I⟩
    rw [any_toS]; exact .bool _
theorem gNotIn_inv {x y z : AV} (h : gNotIn x y = some z) : ∃ b, gIn x y = some (.bool b) ∧ z = .bool (!b) := by
  unfold gNotIn at h
  split at h
  · rename_i b hb; cases h; exact ⟨b, hb, rfl⟩
  · cases h
theorem o_notin : OpOk c (compareOp .NotIn) gNotIn := by
  intro x y z h0 st led s u v I hu hv
  obtain ⟨b, h, rfl⟩ := gNotIn_inv h0
  rcases gIn_cases h with ⟨x, cs, rfl, rfl, hc, hb⟩ | ⟨x, ys, zs, rfl, rfl, hz, hb⟩
  · cases hb
    obtain ⟨x, t, rfl, rfl⟩ := hu.str_inv
    obtain ⟨_, _, _, _, rfl, o, e, f⟩ := hv.sset_inv
    refine wpAny_notInSet_of (knd := PySem.strKind pw c.w) (strKind_is _ _ x t) rfl (setOf_elems rfl (I.heapO o) e f hc) ⟨led, fun _ h => h, .bool _, I.with _⟩
  · cases hb
    obtain ⟨x, t, rfl, rfl⟩ := hu.str_inv
    obtain ⟨_, _, _, rfl, o, r⟩ := hv.lst_inv
    refine notin_list_strs (isList_of I o) (strsAre_of r hz) ⟨led, fun _ h => h, ?_, I⟩
    rw [any_toS]; exact .bool _
theorem o_is : OpOk c (compareOp .Is) gIsNone := by
  intro x y z h st led s u v I hu hv
  unfold gIsNone at h
  split at h <;> cases h
  · obtain rfl := hu.none_inv; obtain rfl := hv.none_inv
    exact wpAny_is_self rfl ⟨led, fun _ h => h, .bool _, I⟩
  · obtain ⟨_, rfl⟩ := hu.int_inv; obtain rfl := hv.none_inv
    exact is_int_none ⟨led, fun _ h => h, .bool _, I⟩
noncomputable def gShr1 : AV → AV → Option AV
  | .int a, .int b => if b = 1 then some (.int (a / 2)) else none
  | _, _ => none
theorem o_shr : OpOk c (binaryOp .RShift) gShr1 := by
  intro x y z h st led s u v I hu hv
  obtain ⟨a, b, rfl, rfl, h'⟩ := ii_inv (F := fun a b => if b = 1 then some (.int (a / 2)) else none) h
  split at h'
  · rename_i hb
    subst hb
    obtain ⟨_, rfl⟩ := hu.int_inv; obtain ⟨_, rfl⟩ := hv.int_inv; cases h'
    refine rshift_int (by decide) ⟨led, fun _ h => h, ?_, I.with _⟩
    rw [show a.fdiv (2 ^ (1 : Int).toNat) = a / 2 from Int.fdiv_eq_ediv_of_nonneg a (by decide)]
    exact .int _ _
  · cases h'
end
end Mine
end
section
open PySem PySem.W PyProof.Rows PySem.Calls
namespace Mine
theorem ofString_ne {a b : Str} (h : (a == b) = false) : a ≠ b := fun e => by subst e; simp at h
structure FieldOk (P : Params) (nm : Str) : Prop where
  plain : plainGet (Kf P) 527 nm = true
  attr : ∃ a, findIn (Kf P) (.ref 527) nm = some a ∧ noGet (Kf P) a = true
  taker : takerIn (Kf P) 527 nm = some none
theorem hasDictP (P : Params) : hasDictIn (Kf P) 527 = true := by kernel_rfl
theorem plainP (P : Params) : plainOver (Kf P) 527 = true := by kernel_rfl
theorem setattrP (P : Params) : findIn (Kf P) (.ref 527) "__setattr__" = some (some (.builtin "object.__setattr__")) := by kernel_rfl
theorem field0 (P : Params) : FieldOk P "current" := ⟨by kernel_rfl, ⟨none, by kernel_rfl, by kernel_rfl⟩, by kernel_rfl⟩
theorem field1 (P : Params) : FieldOk P "cursor" := ⟨by kernel_rfl, ⟨none, by kernel_rfl, by kernel_rfl⟩, by kernel_rfl⟩
theorem field2 (P : Params) : FieldOk P "limit" := ⟨by kernel_rfl, ⟨none, by kernel_rfl, by kernel_rfl⟩, by kernel_rfl⟩
theorem field3 (P : Params) : FieldOk P "limit_backward" := ⟨by kernel_rfl, ⟨none, by kernel_rfl, by kernel_rfl⟩, by kernel_rfl⟩
theorem field4 (P : Params) : FieldOk P "bra" := ⟨by kernel_rfl, ⟨none, by kernel_rfl, by kernel_rfl⟩, by kernel_rfl⟩
theorem field5 (P : Params) : FieldOk P "ket" := ⟨by kernel_rfl, ⟨none, by kernel_rfl, by kernel_rfl⟩, by kernel_rfl⟩
theorem field6 (P : Params) : FieldOk P "I_p1" := ⟨by kernel_rfl, ⟨some (.int 0 510), by kernel_rfl, by kernel_rfl⟩, by kernel_rfl⟩
theorem field7 (P : Params) : FieldOk P "I_p2" := ⟨by kernel_rfl, ⟨some (.int 0 508), by kernel_rfl, by kernel_rfl⟩, by kernel_rfl⟩
theorem fieldsOk (P : Params) {i : Nat} {nm : Str} (h : fieldNames[i]? = some nm) : FieldOk P nm := by
  match i, h with
  | 0, h => cases h; exact field0 P
  | 1, h => cases h; exact field1 P
  | 2, h => cases h; exact field2 P
  | 3, h => cases h; exact field3 P
  | 4, h => cases h; exact field4 P
  | 5, h => cases h; exact field5 P
  | 6, h => cases h; exact field6 P
  | 7, h => cases h; exact field7 P
  | _ + 8, h => cases h
theorem fieldNames_nodup : fieldNames.Nodup := by decide +kernel
section
variable {P : Params} {V : Value → AV → Prop}
theorem dict_get : ∀ {ns : List Str} {es : List DictEntry} {fs : List AV} {i : Nat} {nm : Str} {a : AV}, DictR P V ns es fs → ns.Nodup → ns[i]? = some nm → fs[i]? = some a → ∃ v, getL nm es = some (some v) ∧ V v a
  | _, _, _, _, _, _, .nil ns, _, _, h => by simp at h
  | _, _, _, 0, nm, a, .cons (t := t) (v := v) (es := es) hv r, hn, h1, h2 => by
    simp at h1 h2
    subst h1 h2
    refine ⟨v, ?_, hv⟩
    unfold getL
    rw [List.find?_cons_of_pos (by show (_ == _) = true; exact beq_self_eq_true _)]
  | n :: ns, _, _, i + 1, nm, a, .cons (t := t) (v := v) (es := es) hv r, hn, h1, h2 => by
    rw [List.getElem?_cons_succ] at h1 h2
    obtain ⟨hn1, hn2⟩ := List.nodup_cons.mp hn
    obtain ⟨u, h3, h4⟩ := dict_get r hn2 h1 h2
    refine ⟨u, ?_, h4⟩
    have hne : ¬ ((n == nm) = true) := by
      rw [beq_iff_eq]
      rintro rfl
      exact hn1 (List.mem_of_getElem? h1)
    unfold getL at h3 ⊢
    rw [List.find?_cons_of_neg (by exact hne)]
    cases hf : es.find? (fun x => x.key.isStr nm) with
    | some e => rw [hf] at h3; exact h3
    | none =>
      rw [hf] at h3
      dsimp only at h3
      split at h3 <;> cases h3
theorem dict_noRef : ∀ {ns : List Str} {es : List DictEntry} {fs : List AV}, DictR P V ns es fs → es.any (·.refKey) = false
  | _, _, _, .nil _ => rfl
  | _, _, _, .cons _ r => by
    rw [List.any_cons, dict_noRef r]; rfl
theorem dict_isSome {ns : List Str} {es : List DictEntry} {fs : List AV} (d : DictR P V ns es fs) (nm : Str) : (getL nm es).isSome = true := by
  unfold getL
  split
  · rfl
  · rw [dict_noRef d]; rfl
theorem dict_put : ∀ {ns : List Str} {es : List DictEntry} {fs : List AV} {i : Nat} {nm : Str} {a : AV} {v : Value} {t : Tok}, DictR P V ns es fs → ns.Nodup → ns[i]? = some nm → i ≤ fs.length → V v a →
    DictR P V ns (putL nm (PyData.keyHash P nm) (.str nm t) v es) (if i < fs.length then fs.set i a else fs ++ [a])
  | ns, _, _, i, nm, a, v, t, .nil _, hn, h1, h2, hv => by
    have : i = 0 := by simpa using h2
    subst this
    cases ns with
    | nil => simp at h1
    | cons n ns =>
      simp at h1
      subst h1
      exact .cons hv (.nil _)
  | n :: ns, _, _, 0, nm, a, v, t, .cons (t := t') (v := v') (es := es) hv' r, hn, h1, h2, hv => by
    simp at h1
    subst h1
    have : putL n (PyData.keyHash P n) (.str n t) v (⟨PyData.keyHash P n, .str n t', v'⟩ :: es) = ⟨PyData.keyHash P n, .str n t', v⟩ :: es := if_pos (beq_self_eq_true n)
    rw [this, if_pos (by simp)]
    exact .cons hv r
  | n :: ns, _, _, i + 1, nm, a, v, t, .cons (t := t') (v := v') (es := es) (a := b') (as := as) hv' r, hn, h1, h2, hv => by
    rw [List.getElem?_cons_succ] at h1
    obtain ⟨hn1, hn2⟩ := List.nodup_cons.mp hn
    have hne : ¬ ((n == nm) = true) := by
      rw [beq_iff_eq]
      rintro rfl
      exact hn1 (List.mem_of_getElem? h1)
    have e : putL nm (PyData.keyHash P nm) (.str nm t) v (⟨PyData.keyHash P n, .str n t', v'⟩ :: es) = ⟨PyData.keyHash P n, .str n t', v'⟩ :: putL nm (PyData.keyHash P nm) (.str nm t) v es := if_neg hne
    rw [e]
    have ih := dict_put (t := t) r hn2 h1 (by simpa using h2) hv
    have e2 : (if i + 1 < (b' :: as).length then (b' :: as).set (i + 1) a else (b' :: as) ++ [a]) = b' :: (if i < as.length then as.set i a else as ++ [a]) := by
      simp only [List.length_cons, Nat.add_lt_add_iff_right]
      split <;> simp
    rw [e2]
    exact .cons hv' ih
theorem DictR.length : ∀ {ns : List Str} {es : List DictEntry} {fs : List AV}, DictR P V ns es fs → es.length = fs.length ∧ fs.length ≤ ns.length
  | _, _, _, .nil _ => ⟨rfl, Nat.zero_le _⟩
  | _, _, _, .cons _ r => by
    have := r.length
    exact ⟨by rw [List.length_cons, List.length_cons, this.1], by rw [List.length_cons, List.length_cons]; omega⟩
theorem DictR.mono {V' : Value → AV → Prop} (h : ∀ v a, V v a → V' v a) : ∀ {ns : List Str} {es : List DictEntry} {fs : List AV}, DictR P V ns es fs → DictR P V' ns es fs
  | _, _, _, .nil _ => .nil _
  | _, _, _, .cons a r => .cons (h _ _ a) (r.mono h)
end
noncomputable def isSelf (st : St) : Bool := match st.ls with
  | some .self :: _ => true
  | _ => false
noncomputable def eF (i : Nat) : EF := fun st => if isSelf st then (st.fs[i]?).map (·, st) else none
section
variable {c : Cx}
theorem self_of {st : St} (h : isSelf st = true) : st.ls[0]? = some (some .self) := by
  unfold isSelf at h
  split at h
  · rename_i q; rw [q]; rfl
  · cases h
theorem FoR.ne {dx : Addr} : ∀ {fr : List (Addr × Data)} {fo : List (Addr × Obj)}, FoR (some dx) fr fo → ∀ p ∈ fo, p.1 ≠ dx
  | _, _, .nil, _, h => nomatch h
  | _, _, .cons h1 h2 r, p, hp => by
    rcases List.mem_cons.mp hp with rfl | hp
    · exact fun e => h2 (congrArg some e)
    · exact r.ne p hp
theorem get_field {st : St} {led : List (Addr × Obj)} {s : Shared} (k : c.Ok) (I : Inv c st led s) {x dx : Addr} (hs : c.self = some (x, dx)) {i : Nat} {nm : Str} {a : AV} (hn : fieldNames[i]? = some nm) (ha : st.fs[i]? = some a) {Q : Value → Shared → Prop} {E : Value → Shared → Prop} {ex : Bool}
    (h : ∀ v, c.V led v a → Inv c st led { s with toks := s.toks + 1 } → Q v { s with toks := s.toks + 1 }) : wpAny c.M c.A (getAttr (.ref x) nm ex) Q E s := by
  obtain ⟨m, part, fo, F, N, hS, hL, hf⟩ := I.ex
  unfold Cx.SelfR at hS
  rw [hs] at hS
  obtain ⟨es, n, rfl, hd, hx, hap⟩ := hS
  obtain ⟨v, h1, h2⟩ := dict_get hd fieldNames_nodup hn ha
  have ok := fieldsOk c.w.params hn
  obtain ⟨at_, h3, h4⟩ := ok.attr
  have I1 : InstAt s.heap x (instO dx) 527 (some (dictOf es n)) := ⟨(N _ (List.mem_append_right _ (List.mem_append_left _ hx))).1, rfl, rfl, (N _ (List.mem_append_left _ (.head _))).1⟩
  exact get_own F k.X I1 ok.plain (hasDictP _) h3 h4 h1 h2.handed (h v h2 (I.with _))
theorem rE_fld (k : c.Ok) (i : Nat) {nm : Str} {xp pos : Pos} (hn : fieldNames[i]? = some nm) (h0 : c.names[0]? = some ("self" : Str)) : RefE c (.Attribute (.Name "self" xp) nm pos) (eF i) := by
  intro st led s v st' I h
  unfold eF at h
  split at h
  · rename_i hq
    obtain ⟨a, ha, h⟩ := Option.map_eq_some_iff.mp h
    cases h
    refine Attribute_Name_ (wpAny_mono (rE_loc k 0 h0 st led s .self st I (by unfold eL; rw [self_of hq])) ?_ fun _ _ e => e.elim)
    rintro u s1 ⟨led1, k1, V1, I1⟩
    obtain ⟨_, _, rfl, e⟩ := V1.self_inv
    exact get_field k I1 e hn ha fun v hv I2 => ⟨led1, k1, hv, I2⟩
  · cases h
noncomputable def setF (st : St) (i : Nat) (a : AV) : Option St := if i < st.fs.length then some { st with fs := st.fs.set i a } else if i = st.fs.length then some { st with fs := st.fs ++ [a] } else none
theorem set_field {st st' : St} {led : List (Addr × Obj)} {s : Shared} (k : c.Ok) (I : Inv c st led s) {x dx : Addr} (hs : c.self = some (x, dx)) {i : Nat} {nm : Str} {a : AV} {v : Value} (hn : fieldNames[i]? = some nm) (hv : c.V led v a) (hst : setF st i a = some st') {Q : Unit → Shared → Prop} {E : Value → Shared → Prop}
    (h : ∀ s', Inv c st' led s' → Q () s') : wpAny c.M c.A (setAttr (.ref x) nm v) Q E s := by
  obtain ⟨m, part, fo, F, N, hS, hL, hf⟩ := I.ex
  unfold Cx.SelfR at hS
  rw [hs] at hS
  obtain ⟨es, n, rfl, hd, hx, hap⟩ := hS
  have ok := fieldsOk c.w.params hn
  have I1 : InstAt s.heap x (instO dx) 527 (some (dictOf es n)) := ⟨(N _ (List.mem_append_right _ (List.mem_append_left _ hx))).1, rfl, rfl, (N _ (List.mem_append_left _ (.head _))).1⟩
  have hi : i ≤ st.fs.length ∧ st' = { st with fs := if i < st.fs.length then st.fs.set i a else st.fs ++ [a] } := by
    unfold setF at hst
    split at hst
    · rename_i hl; cases hst; exact ⟨Nat.le_of_lt hl, by rw [if_pos hl]⟩
    · rename_i hl
      split at hst
      · rename_i he; cases hst; exact ⟨Nat.le_of_eq he, by rw [if_neg hl]⟩
      · cases hst
  obtain ⟨hi, rfl⟩ := hi
  have hd' := dict_put (t := s.toks + 1) hd fieldNames_nodup hn hi hv
  have hne : ∀ p ∈ led ++ fo, p.1 ≠ dx := fun p hp => by
    rcases List.mem_append.mp hp with hp | hp
    · exact hap p hp
    · rw [hs] at hf; exact hf.ne p hp
  refine set_dict F k.X N I1 rfl (setattrP _) (plainP _) ok.taker (hasDictP _) (dict_isSome hd _) rfl (Upd.head hne) ?_ fun h' F' N' => ?_
  · have := hd'.length
    have l8 : fieldNames.length = 8 := rfl
    omega
  · refine h _ ⟨⟨m, [(dx, dictOf (putL nm (PyData.keyHash c.w.params nm) (.str nm (s.toks + 1)) v es) (putN nm es n))], fo, F', N', ?_, hL, hf⟩, I.nf, I.cel, I.gens, I.os⟩
    unfold Cx.SelfR
    rw [hs]
    exact ⟨_, _, rfl, hd', hx, hap⟩
end
end Mine
end
section
open PySem PySem.W PyProof.Rows PySem.Calls
namespace Mine
theorem FoR.get {dx : Option Addr} {fr : List (Addr × Data)} {fo : List (Addr × Obj)} (h : FoR dx fr fo) : ∀ p ∈ fo, (∃ q ∈ fr, q.1 = p.1 ∧ p.2.data = q.2) := by
  induction h with
  | nil => intro p hp; cases hp
  | cons h1 h2 r ih =>
    intro p hp
    rcases List.mem_cons.mp hp with rfl | hp
    · exact ⟨_, .head _, rfl, h1⟩
    · obtain ⟨q, hq, e⟩ := ih p hp
      exact ⟨q, .tail _ hq, e⟩
theorem frsDict {b0 : Heap} : ∀ {es : List Env} {frs : List (Addr × Data)}, FrsOk b0 es frs → ∀ f ∈ frs, ∃ es ep, f.2 = .dict es ep := by
  intro es
  induction es with
  | nil => intro frs h; cases frs with | nil => intro f hf; cases hf | cons _ _ => exact h.elim
  | cons _ _ ih => intro frs h; cases frs with
    | nil => exact h.elim
    | cons f frs =>
      intro g hg
      rcases List.mem_cons.mp hg with rfl | hg
      · exact h.2.2.1
      · exact ih h.2.2.2.2 g hg
theorem FoR.turn : ∀ {dx : Option Addr} {fr : List (Addr × Data)} {fo : List (Addr × Obj)} {h' : Heap}, FoR dx fr fo → (∀ p ∈ fo, ∃ sl, h'.get? p.1 = some { p.2 with slots := sl }) →
    ∃ fo', FoR dx fr fo' ∧ ∀ p ∈ fo', h'.get? p.1 = some p.2 ∧ ∃ q ∈ fo, q.1 = p.1
  | _, _, _, _, .nil, _ => ⟨[], .nil, fun _ h => nomatch h⟩
  | _, _, _, h', .cons (a := a) (o := o) (fo := fo) h1 h2 r, k => by
    obtain ⟨fo', r', k'⟩ := r.turn (h' := h') fun p hp => k p (.tail _ hp)
    obtain ⟨sl, e⟩ := k _ (.head _)
    refine ⟨(a, { o with slots := sl }) :: fo', .cons h1 h2 r', fun p hp => ?_⟩
    rcases List.mem_cons.mp hp with rfl | hp
    · exact ⟨e, _, .head _, rfl⟩
    · obtain ⟨z1, q, hq, z2⟩ := k' p hp
      exact ⟨z1, q, .tail _ hq, z2⟩
theorem frsFrames {b0 h : Heap} {dx : Option Addr} {frs : List (Addr × Data)} {fo : List (Addr × Obj)} (r : FoR dx frs fo) : ∀ {es : List Env}, FrsOk b0 es frs → (∀ p ∈ fo, h.get? p.1 = some p.2) → h.FunFrames b0 es := by
  induction r with
  | nil => intro es k _; cases es with | nil => trivial | cons _ _ => exact k.elim
  | cons h1 h2 r ih =>
    rename_i a d o fr fo
    intro es k g
    cases es with
    | nil => trivial
    | cons e es =>
      obtain ⟨k1, k2, ⟨es', ep, k3⟩, k4, k5⟩ := k
      refine ⟨k1, ⟨a, o, k2, k4, g _ (.head _), fun vs e => ?_⟩, ih k5 fun p hp => g p (.tail _ hp)⟩
      have : d = .dict es' ep := k3
      rw [h1, this] at e
      cases e
theorem frs_frame {b0 : Heap} : ∀ {es : List Env} {frs : List (Addr × Data)}, FrsOk b0 es frs → ∀ a ∈ es.filterMap (·.frame), (∃ f ∈ frs, f.1 = a ∧ ∃ es ep, f.2 = .dict es ep) ∧ b0.get? a = none
  | [], _, _, _, h => nomatch h
  | e :: es, [], k, _, _ => k.elim
  | e :: es, f :: frs, ⟨k1, k2, k3, k4, k5⟩, a, h => by
    rw [List.filterMap_cons, k2] at h
    rcases List.mem_cons.mp h with rfl | h
    · exact ⟨⟨f, .head _, rfl, k3⟩, k4⟩
    · obtain ⟨⟨g, hg, e⟩, e2⟩ := frs_frame k5 a h
      exact ⟨⟨g, .tail _ hg, e⟩, e2⟩
section
variable {c : Cx}
theorem L_none (k : c.Ok) : c.b0.get? c.L = none := Heap.get?_none_of_le k.above
theorem Cx.Ok.knd (k : c.Ok) : c.env.scope.kind ≠ .module := by
  show c.scope.kind ≠ _
  rw [k.kind]; decide
theorem funFrames_of {st : St} {led : List (Addr × Obj)} {s : Shared} (k : c.Ok) (I : Inv c st led s) : s.heap.FunFrames c.b0 (c.env :: c.outer) := by
  obtain ⟨m, part, fo, F, N, hS, hL, hf⟩ := I.ex
  obtain ⟨o, es, ep, ho, hd, _⟩ := F.ns
  refine ⟨k.knd, ⟨c.L, o, rfl, L_none k, ho, fun vs e => by rw [hd] at e; cases e⟩, frsFrames hf k.frsOk fun p hp => (N p (List.mem_append_right _ (List.mem_append_right _ hp))).1⟩
theorem Inv.noted {st : St} {led : List (Addr × Obj)} {s s' : Shared} {e : Addr} {oe : Obj} {vs : Array Value} {C : Addr} (k : c.Ok) (I : Inv c st led s) (he : s.heap.get? e = some oe) (hc : oe.cls = .ref C) (hd : oe.data = .fields vs) (hen : c.b0.get? e = none)
    (hB : (hideAll s.heap (e :: (c.env :: c.outer).filterMap (·.frame))).StaysIn s'.heap) (hsl : s.heap.UpToSlots s'.heap) (hg : s'.gens = s.gens) (hos : s'.os = s.os) : Inv c st led s' := by
  obtain ⟨m, part, fo, F, N, hS, hL, hf⟩ := I.ex
  obtain ⟨fo', r', k'⟩ := hf.turn (h' := s'.heap) fun p hp => by
    refine hsl _ _ (N p (List.mem_append_right _ (List.mem_append_right _ hp))).1 fun ws q => ?_
    obtain ⟨q', hq', e1, e2⟩ := hf.get p hp
    obtain ⟨es, ep, z⟩ := frsDict k.frsOk q' hq'
    rw [e2, z] at q
    cases q
  have nin : ∀ b o, s.heap.get? b = some o → b ≠ e → b ≠ c.L → (∀ f ∈ c.frs, f.1 ≠ b) → s'.heap.get? b = some o := fun b o ho h1 h2 h3 => by
    refine hB b o (hideAll_get _ ho fun hm => ?_)
    rcases List.mem_cons.mp hm with rfl | hm
    · exact h1 rfl
    · have hm' : b ∈ (c.env.frame.toList ++ c.outer.filterMap (·.frame)) := hm
      rcases List.mem_cons.mp hm' with rfl | hm'
      · exact h2 rfl
      · obtain ⟨⟨f, hf, e, _⟩, _⟩ := frs_frame k.frsOk b hm'
        exact h3 f hf e
  have frd : ∀ f ∈ c.frs, ∃ o, s.heap.get? f.1 = some o ∧ o.data = f.2 := by
    have : ∀ {dx : Option Addr} {fr : List (Addr × Data)} {fo : List (Addr × Obj)}, FoR dx fr fo → (∀ p ∈ fo, s.heap.get? p.1 = some p.2) → ∀ f ∈ fr, ∃ o, s.heap.get? f.1 = some o ∧ o.data = f.2 ∧ some f.1 ≠ dx := by
      intro dx fr fo r
      induction r with
      | nil => intro _ f hf; cases hf
      | cons h1 h2 r ih =>
        intro g f hf
        rcases List.mem_cons.mp hf with rfl | hf
        · exact ⟨_, g _ (.head _), h1, h2⟩
        · exact ih (fun p hp => g p (.tail _ hp)) f hf
    intro f hfm
    obtain ⟨o, h1, h2, _⟩ := this hf (fun p hp => (N p (List.mem_append_right _ (List.mem_append_right _ hp))).1) f hfm
    exact ⟨o, h1, h2⟩
  have frdx : ∀ f ∈ c.frs, some f.1 ≠ c.self.map (·.2) := by
    have : ∀ {dx : Option Addr} {fr : List (Addr × Data)} {fo : List (Addr × Obj)}, FoR dx fr fo → ∀ f ∈ fr, some f.1 ≠ dx := by
      intro dx fr fo r
      induction r with
      | nil => intro f hf; cases hf
      | cons h1 h2 r ih =>
        intro f hf
        rcases List.mem_cons.mp hf with rfl | hf
        · exact h2
        · exact ih f hf
    exact this hf
  have frdict : ∀ f ∈ c.frs, ∃ es ep, f.2 = .dict es ep := by
    exact frsDict k.frsOk
  have keep : ∀ b o, c.b0.get? b = some o → s'.heap.get? b = some o := fun b o q => by
    refine hB b o (hideAll_get _ (F.keep b o q) fun hm => ?_)
    rcases List.mem_cons.mp hm with rfl | hm
    · rw [hen] at q; cases q
    · have hm' : b ∈ (c.env.frame.toList ++ c.outer.filterMap (·.frame)) := hm
      rcases List.mem_cons.mp hm' with rfl | hm'
      · rw [L_none k] at q; cases q
      · rw [(frs_frame k.frsOk b hm').2] at q; cases q
  refine ⟨⟨m, part, fo', ⟨hsl.ns F.ns, keep, F.above⟩, fun p hp => ?_, hS, hL, r'⟩, I.nf, I.cel, hg.trans I.gens, hos.trans I.os⟩
  rcases List.mem_append.mp hp with hp | hp
  · have h0 := N p (List.mem_append_left _ hp)
    refine ⟨?_, h0.2⟩
    unfold Cx.SelfR at hS
    cases hs : c.self with
    | none => rw [hs] at hS; rw [hS.1] at hp; cases hp
    | some xd =>
      obtain ⟨x, dx⟩ := xd
      rw [hs] at hS
      obtain ⟨es, n, rfl, _⟩ := hS
      rcases List.mem_singleton.mp hp with rfl
      refine nin _ _ h0.1 (fun q => by rw [q, he] at h0; obtain ⟨h0, _⟩ := h0; cases h0; cases hd) h0.2.1 fun f hf' e => ?_
      have := frdx f hf'
      rw [hs, e] at this
      exact this rfl
  · rcases List.mem_append.mp hp with hp | hp
    · have h0 := N p (List.mem_append_right _ (List.mem_append_left _ hp))
      refine ⟨nin _ _ h0.1 (fun q => ?_) h0.2.1 fun f hf' e => ?_, h0.2⟩
      · rw [q, he] at h0
        obtain ⟨h0, _⟩ := h0
        obtain ⟨n, hn⟩ := ((I.nf p hp).1 _ ((congrArg Obj.data (Option.some.inj h0)).symm.trans hd)).2
        rw [← Option.some.inj h0, hc] at hn
        cases hn
      obtain ⟨o, e1, e2⟩ := frd f hf'
      obtain ⟨es, ep, e3⟩ := frdict f hf'
      rw [e, h0.1] at e1
      cases e1
      exact (I.nf p hp).2 _ _ (e2.trans e3)
    · obtain ⟨z1, q, hq, z2⟩ := k' p hp
      have h0 := N q (List.mem_append_right _ (List.mem_append_right _ hq))
      rw [z2] at h0
      exact ⟨z1, h0.2⟩
theorem Inv.kept {st : St} {led : List (Addr × Obj)} {s s' : Shared} (k : c.Ok) (I : Inv c st led s) (hB : c.b0.StaysIn s'.heap) (hsl : ∀ b o, s.heap.get? b = some o → (∀ vs, o.data = .fields vs → vs.size ≤ 3) → s'.heap.get? b = some o) (hg : s'.gens = s.gens) (hos : s'.os = s.os) : Inv c st led s' := by
  have FF := funFrames_of k I
  obtain ⟨m, part, fo, F, N, hS, hL, hf⟩ := I.ex
  have ns : s'.heap.Ns c.L m := by
    obtain ⟨o, es, ep, ho, hd, r⟩ := F.ns
    exact ⟨o, es, ep, hsl _ _ ho (fun vs q => by rw [hd] at q; cases q), hd, r⟩
  have frdict : ∀ f ∈ c.frs, ∃ es ep, f.2 = .dict es ep := by
    exact frsDict k.frsOk
  refine ⟨⟨m, part, fo, ⟨ns, hB, F.above⟩, fun p hp => ⟨hsl _ _ (N p hp).1 fun vs q => ?_, (N p hp).2⟩, hS, hL, hf⟩, I.nf, I.cel, hg.trans I.gens, hos.trans I.os⟩
  rcases List.mem_append.mp hp with hp | hp
  · unfold Cx.SelfR at hS
    cases hs : c.self with
    | none => rw [hs] at hS; rw [hS.1] at hp; cases hp
    | some xd =>
      obtain ⟨x, dx⟩ := xd
      rw [hs] at hS
      obtain ⟨es, n, rfl, _⟩ := hS
      rcases List.mem_singleton.mp hp with rfl
      cases q
  · rcases List.mem_append.mp hp with hp | hp
    · exact ((I.nf p hp).1 _ q).1
    · obtain ⟨f, hf', e1, e2⟩ := hf.get p hp
      obtain ⟨es, ep, e3⟩ := frdict f hf'
      rw [e2, e3] at q
      cases q
theorem L_note {st : St} {led : List (Addr × Obj)} {s : Shared} {C e a0} {Q : Unit → Shared → Prop} {E : Value → Shared → Prop} (k : c.Ok) (I : Inv c st led s) (hen : c.b0.get? e = none)
    (x : (∃ oe vs, s.heap.get? e = some oe ∧ oe.cls = .ref C ∧ oe.data = .fields vs ∧ vs[0]? = some a0 ∧ vs[1]? = some .none) ∨ s.heap.TracedAtW c.b0 e (.ref C) a0 (rawInt c.L))
    (h : ∀ s', Inv c st led s' → s'.heap.TracedAtW c.b0 e (.ref C) a0 (rawInt c.L) → Q () s') : wpAny c.M c.A (noteFrame (.ref e) c.env) Q E s := by
  rcases x with ⟨oe, vs, he, hc, hd, h0, h1⟩ | x
  · unfold noteFrame
    simp only [show c.env.frame = some c.L from rfl]
    refine wpAny_bind (wpAny_field he hd h1 ?_)
    rw [if_neg (by decide)]
    have FF := funFrames_of k I
    have hin : ∀ env ∈ (c.env :: c.outer), ∀ b, env.frame = some b → b ∈ e :: (c.env :: c.outer).filterMap (·.frame) := fun env he b hb => .tail _ (List.mem_filterMap.mpr ⟨env, he, hb⟩)
    refine wpAny_entryW (base := hideAll s.heap (e :: (c.env :: c.outer).filterMap (·.frame))) k.frames (funFrames_hide FF hin) rfl he (fun b o q => of_hideAll _ q) (hideAll_none _ (.head _)) hd (Array.getElem?_eq_some_iff.mp h1).1 h0 fun h' ⟨n1, n2, n3, n4⟩ => ?_
    have I' : Inv c st led { s with heap := h' } := I.noted k he hc hd hen n1 n4 rfl rfl
    refine h _ I' ?_
    obtain ⟨oe', vs', T, oT, ts, a1, a2, a3, a4, a5, a6, a7, a8, a9⟩ := n3
    rw [hc] at a2
    refine ⟨oe', vs', T, oT, ts, a1, a2, a3, a4, ?_, a6, a7, a8, a9⟩
    obtain ⟨m, part, fo, F, N, hS, hL, hf⟩ := I.ex
    have st0 : c.b0.StaysIn (hideAll s.heap (e :: (c.env :: c.outer).filterMap (·.frame))) := fun b o q => hideAll_get _ (F.keep b o q) fun hm => by
      rcases List.mem_cons.mp hm with rfl | hm
      · rw [hen] at q; cases q
      · rw [(FF.mem hm).1] at q; cases q
    exact fresh_of_stays st0 a5
  · exact wpAny_noteFrame_againW rfl x (h s I x)
theorem L_back {st : St} {led : List (Addr × Obj)} {s : Shared} {C e a0} {E : Value → Shared → Prop} (k : c.Ok) (I : Inv c st led s) (x : s.heap.TracedAtW c.b0 e (.ref C) a0 (rawInt c.L))
    (h : ∀ s', Inv c st led s' → s'.heap.TracedAtW c.b0 e (.ref C) a0 (rawInt c.L) → E (.ref e) s') : cameBackBy c.M c.A c.env E (.ref e) s := by
  obtain ⟨oe, vs, T, oT, ts, he, hcls, hd, h1, hnT, hTe, hT, hdT, h3⟩ := x
  have hsz3 : 3 < ts.size := (Array.getElem?_eq_some_iff.mp h3).1
  have other : ∀ b, b ≠ T → (s.heap.update T (Obj.mapFields (·.setIfInBounds 3 ((some c.L : Option Addr).elim Value.none fun f => rawInt f)))).get? b = s.heap.get? b :=
    fun b hb => Heap.get?_update_other _ _ (Ne.symm hb)
  have noRecord : ∀ b o, s.heap.get? b = some o → (∀ vs, o.data = .fields vs → vs.size ≤ 3) → b ≠ T := fun b o hb hnf q => by
    rw [q, hT] at hb; injection hb with hb; subst hb; have := hnf ts hdT; omega
  unfold cameBackBy
  refine wpAny_bind (wpAny_field he hd h1 ?_)
  rw [if_neg (show ¬ ((Value.ref T == Value.none) = true) from by simp)]
  unfold setFlight
  refine wpAny_bind (wpAny_field he hd h1 ?_)
  rw [if_pos (show (Value.ref T != Value.none) = true from by simp)]
  refine wpAny_setField hT hdT hsz3 (h _ (I.kept k (fun b o hbo => (other b fun q => by rw [q, hnT] at hbo; cases hbo).trans ?_) (fun b o hb hn => (other b (noRecord b o hb hn)).trans hb) rfl rfl) ?_)
  · obtain ⟨m, part, fo, F, _⟩ := I.ex
    exact F.keep b o hbo
  · exact ⟨oe, vs, T, _, _, (other e (Ne.symm hTe)).trans he, hcls, hd, h1, hnT, hTe, Heap.get?_update_self _ hT (Obj.isFreed_of_fields (Obj.data_mapFields hdT _)), Obj.data_mapFields hdT _, by first | (simp [hsz3]; done) | (simp [hsz3]; rfl)⟩
theorem L_land {st : St} {led : List (Addr × Obj)} {s : Shared} {C e a0 fl} {Q : Unit → Shared → Prop} {E : Value → Shared → Prop} {A : Around} (k : c.Ok) (I : Inv c st led s) (x : s.heap.TracedAtW c.b0 e (.ref C) a0 fl)
    (h : ∀ s', Inv c st led s' → s'.heap.TracedAtW c.b0 e (.ref C) a0 .none → Q () s') : wpAny c.M A (setFlight (.ref e) none) Q E s := by
  have FF := funFrames_of k I
  obtain ⟨oe, vs, T, oT, ts, he, hcls, hd, h1, hnT, hTe, hT, hdT, h3⟩ := x
  have hsz3 : 3 < ts.size := (Array.getElem?_eq_some_iff.mp h3).1
  have hin : ∀ env ∈ (c.env :: c.outer), ∀ b, env.frame = some b → b ∈ T :: (c.env :: c.outer).filterMap (·.frame) := fun env he b hb => .tail _ (List.mem_filterMap.mpr ⟨env, he, hb⟩)
  have keep : ∀ b o, c.b0.get? b = some o → s.heap.get? b = some o := by
    obtain ⟨m, part, fo, F, _⟩ := I.ex
    exact F.keep
  have st0 : c.b0.StaysIn (hideAll s.heap (T :: (c.env :: c.outer).filterMap (·.frame))) := fun b o q => hideAll_get _ (keep b o q) fun hm => by
    rcases List.mem_cons.mp hm with rfl | hm
    · rw [hnT] at q; cases q
    · rw [(FF.mem hm).1] at q; cases q
  refine wpAny_setFlight_noneW (base := hideAll s.heap (T :: (c.env :: c.outer).filterMap (·.frame))) (l := c.env :: c.outer) (fun b o q => of_hideAll _ q) (funFrames_hide FF hin) ⟨oe, vs, T, oT, ts, he, hcls, hd, h1, hideAll_none _ (.head _), hTe, hT, hdT, h3⟩ fun h' k1 k2 k3 k4 => h _ (I.kept k (fun b o q => k1 b o (st0 b o q)) (fun b o hb hn => ?_) rfl rfl) ?_
  · by_cases hm : b ∈ T :: (c.env :: c.outer).filterMap (·.frame)
    · rcases List.mem_cons.mp hm with rfl | hm
      · rw [hT] at hb; cases hb; have := hn _ hdT; omega
      · obtain ⟨_, o', ho', hnf⟩ := FF.mem hm
        rw [hb] at ho'; cases ho'
        exact k4 b o hb hnf
    · exact k1 b o (hideAll_get _ hb hm)
  · obtain ⟨oe', vs', T', oT', ts', a1, a2, a3, a4, a5, r⟩ := k3
    exact ⟨oe', vs', T', oT', ts', a1, a2, a3, a4, fresh_of_stays st0 a5, r⟩
theorem passes (k : c.Ok) {led : List (Addr × Obj)} {r : FL} {st : St} : PassesOwn c.M c.A c.env (PostE c led r st) := by
  rintro e s' ⟨led', k', hx, I⟩
  unfold ExR at hx
  split at hx
  · rename_i C
    obtain ⟨a, a0, rfl, hen, x⟩ := hx
    refine L_note k I hen x fun s1 I1 x1 => L_back k I1 x1 fun s2 I2 x2 => ⟨led', k', ⟨a, a0, rfl, hen, .inr x2⟩, I2⟩
  · exact hx.elim
end
end Mine
end
section
open PySem PySem.W PyProof.Rows PySem.Calls
namespace Mine
theorem Inv.keeps {c : Cx} {st : St} {led : List (Addr × Obj)} {s s' : Shared} (I : Inv c st led s) (hk : ∀ b o, s.heap.get? b = some o → s'.heap.get? b = some o) (hg : s'.gens = s.gens) (hos : s'.os = s.os) : Inv c st led s' := by
  obtain ⟨m, part, fo, F, N, hS, hL, hf⟩ := I.ex
  exact ⟨⟨m, part, fo, ⟨F.ns.keeps hk, fun b o q => hk _ _ (F.keep b o q), F.above⟩, fun p hp => ⟨hk _ _ (N p hp).1, (N p hp).2⟩, hS, hL, hf⟩, I.nf, I.cel, hg.trans I.gens, hos.trans I.os⟩
theorem LocR.mono {c : Cx} {led led' : List (Addr × Obj)} {m : Str → Option Value} {ls : List (Option AV)} (h : ∀ p ∈ led, p ∈ led') (L : c.LocR led m ls) : c.LocR led' m ls := fun i a q => by
  obtain ⟨y, v, h1, h2, h3⟩ := L i a q
  exact ⟨y, v, h1, h2, h3.mono (O_mono h)⟩
noncomputable def sNil : SF := fun st => some (.next, st)
noncomputable def sSeq (f g : SF) : SF := fun st => match f st with
  | some (.next, st') => g st'
  | r => r
noncomputable def setL (st : St) (i : Nat) (a : AV) : St := { st with ls := st.ls.set i (some a) }
noncomputable def sAssL (i : Nat) (e : EF) : SF := fun st => (e st).map fun p => (.next, setL p.2 i p.1)
noncomputable def sAssF (i : Nat) (e : EF) : SF := fun st => (e st).bind fun p => if isSelf p.2 then (setF p.2 i p.1).map fun z => (.next, z) else none
noncomputable def sAugF (g : AV → AV → Option AV) (i : Nat) (e : EF) : SF := fun st => if isSelf st then (st.fs[i]?).bind fun old => (e st).bind fun p => (g old p.1).bind fun z => (setF p.2 i z).map fun y => (.next, y) else none
noncomputable def sAugL (g : AV → AV → Option AV) (i : Nat) (e : EF) : SF := fun st => match st.ls[i]? with
  | some (some old) => (e st).bind fun p => (g old p.1).map fun z => (.next, setL p.2 i z)
  | _ => none
noncomputable def sIf (t : TF) (f g : SF) : SF := fun st => (t st).bind fun p => if p.1 then f p.2 else g p.2
noncomputable def sRet (e : EF) : SF := fun st => (e st).map fun p => (.ret p.1, p.2)
noncomputable def sExpr (e : EF) : SF := fun st => (e st).map fun p => (.next, p.2)
noncomputable def sBrk : SF := fun st => some (.brk, st)
noncomputable def sCont : SF := fun st => some (.cont, st)
noncomputable def sAssert (t : TF) : SF := fun st => (t st).bind fun p => if p.1 then some (.next, p.2) else none
noncomputable def sWhile : Nat → TF → SF → SF
  | 0, _, _ => fun _ => none
  | n + 1, t, f => fun st => (t st).bind fun p => if p.1 then (match f p.2 with
      | some (.next, st') => sWhile n t f st'
      | some (.cont, st') => sWhile n t f st'
      | some (.brk, st') => some (.next, st')
      | r => r) else some (.next, p.2)
noncomputable def sRaise (C : Addr) : SF := fun st => some (.exc C, st)
noncomputable def sTry (C : Addr) (f : SF) : SF := fun st => match f st with
  | some (.exc C', st') => if C' = C then some (.next, st') else none
  | r => r
noncomputable def gAddI : AV → AV → Option AV
  | .int a, .int b => some (.int (a + b))
  | _, _ => none
section
variable {c : Cx}
theorem rSs_nil : RefSs c [] sNil := by
  intro st led s r st' I h
  cases h
  exact wpAny_execs_nil ⟨led, fun _ h => h, rfl, I⟩
theorem PostQ.grow {led led1 : List (Addr × Obj)} {r : FL} {st' : St} {f : Flow} {s' : Shared} (k : ∀ p ∈ led, p ∈ led1) (h : PostQ c led1 r st' f s') : PostQ c led r st' f s' := by
  obtain ⟨led', k', h1, h2⟩ := h
  exact ⟨led', fun p hp => k' p (k p hp), h1, h2⟩
theorem PostE.grow {led led1 : List (Addr × Obj)} {r : FL} {st' : St} {f : Value} {s' : Shared} (k : ∀ p ∈ led, p ∈ led1) (h : PostE c led1 r st' f s') : PostE c led r st' f s' := by
  obtain ⟨led', k', h1, h2⟩ := h
  exact ⟨led', fun p hp => k' p (k p hp), h1, h2⟩
theorem rSs_cons {t : Stmt} {ts : List Stmt} {f g : SF} (hf : RefS c t f) (hg : RefSs c ts g) : RefSs c (t :: ts) (sSeq f g) := by
  intro st led s r st' I h
  unfold sSeq at h
  cases hq : f st with
  | none => rw [hq] at h; cases h
  | some p =>
    obtain ⟨r1, st1⟩ := p
    rw [hq] at h
    have key : (∀ f' s', PostQ c led r1 st1 f' s' → match f' with | .next => wpAny c.M c.A (execs ts c.env) (PostQ c led r st') (PostE c led r st') s' | f => PostQ c led r st' f s') →
        (∀ e s', PostE c led r1 st1 e s' → PostE c led r st' e s') → wpAny c.M c.A (execs (t :: ts) c.env) (PostQ c led r st') (PostE c led r st') s := fun h1 h2 =>
      wpAny_execs_cons (wpAny_mono (hf st led s r1 st1 I hq) h1 h2)
    cases r1 with
    | next =>
      refine key (fun f' s' hp => ?_) fun e s' hp => ?_
      · obtain ⟨led1, k1, rfl, I1⟩ := hp
        exact wpAny_mono (hg st1 led1 s' r st' I1 h) (fun _ _ x => x.grow k1) fun _ _ x => x.grow k1
      · obtain ⟨_, _, hx, _⟩ := hp; exact hx.elim
    | brk =>
      cases h
      refine key (fun f' s' hp => ?_) fun e s' hp => hp
      obtain ⟨led1, k1, rfl, I1⟩ := hp
      exact ⟨led1, k1, rfl, I1⟩
    | cont =>
      cases h
      refine key (fun f' s' hp => ?_) fun e s' hp => hp
      obtain ⟨led1, k1, rfl, I1⟩ := hp
      exact ⟨led1, k1, rfl, I1⟩
    | ret v =>
      cases h
      refine key (fun f' s' hp => ?_) fun e s' hp => hp
      obtain ⟨led1, k1, ⟨u, rfl, hv⟩, I1⟩ := hp
      exact ⟨led1, k1, ⟨u, rfl, hv⟩, I1⟩
    | exc C =>
      cases h
      refine key (fun f' s' hp => ?_) fun e s' hp => hp
      obtain ⟨led1, k1, hx, I1⟩ := hp
      exact hx.elim
theorem set_loc {st : St} {led : List (Addr × Obj)} {s : Shared} (k : c.Ok) (I : Inv c st led s) {i : Nat} {x : Str} {a : AV} {v : Value} (hx : c.names[i]? = some x) (hv : c.V led v a) {Q : Unit → Shared → Prop} {E : Value → Shared → Prop}
    (h : ∀ s', Inv c (setL st i a) led s' → Q () s') : wpAny c.M c.A (storeName c.env x v) Q E s := by
  obtain ⟨m, part, fo, F, N, hS, hL, hf⟩ := I.ex
  have hl := k.locs x (List.mem_of_getElem? hx)
  refine storeX_L F N (fun h' F' N' => h _ ⟨⟨_, part, fo, F', N', hS, ?_, hf⟩, I.nf, I.cel, I.gens, I.os⟩) k.kind hl.1
  intro j b hj
  unfold setL at hj
  dsimp only at hj
  rw [List.getElem?_set] at hj
  split at hj
  · rename_i hij
    subst hij
    split at hj
    · cases hj
      exact ⟨x, v, hx, if_pos rfl, hv⟩
    · cases hj
  · rename_i hij
    obtain ⟨y, u, h1, h2, h3⟩ := hL j b hj
    refine ⟨y, u, h1, ?_, h3⟩
    rw [if_neg]
    · exact h2
    · rintro rfl
      have hi : i < c.names.length := (List.getElem?_eq_some_iff.mp hx).1
      have hj' : j < c.names.length := (List.getElem?_eq_some_iff.mp h1).1
      have e1 := (List.getElem?_eq_some_iff.mp hx).2
      have e2 := (List.getElem?_eq_some_iff.mp h1).2
      have nd := List.pairwise_iff_getElem.mp k.nodup
      rcases Nat.lt_or_gt_of_ne hij with hlt | hlt
      · exact nd i j hi hj' hlt (e1.trans e2.symm)
      · exact nd j i hj' hi hlt (e2.trans e1.symm)
theorem rS_assL (k : c.Ok) (i : Nat) {x : Str} {e : Expr} {f : EF} {p' pos : Pos} (hx : c.names[i]? = some x) (he : RefE c e f)
    (hs : swapsWith e (some (.Name x p')) pos.line c.env = pure false := by rfl) : RefS c (.Assign [.Name x p'] e pos) (sAssL i f) := by
  intro st led s r st' I h
  unfold sAssL at h
  obtain ⟨⟨a, st1⟩, h1, h2⟩ := Option.map_eq_some_iff.mp h
  cases h2
  refine wpAny_Assign_Name (wpAny_mono (he st led s a st1 I h1) ?_ fun _ _ e => e.elim) hs
  rintro v s1 ⟨led1, k1, V1, I1⟩
  exact set_loc k I1 hx V1 fun s' I' => ⟨led1, k1, rfl, I'⟩
theorem load_self (k : c.Ok) {st : St} {led : List (Addr × Obj)} {s : Shared} {xp : Pos} (I : Inv c st led s) (hq : isSelf st = true) (h0 : c.names[0]? = some ("self" : Str)) {Q : Value → Shared → Prop} {E : Value → Shared → Prop}
    (h : ∀ x dx s', c.self = some (x, dx) → Inv c st led s' → Q (.ref x) s') : wpAny c.M c.A (eval (.Name "self" xp) c.env) Q E s := by
  obtain ⟨m, part, fo, F, N, hS, hL, hf⟩ := I.ex
  obtain ⟨y, u, h1, h2, h3⟩ := hL 0 .self (self_of hq)
  obtain rfl : ("self" : Str) = y := Option.some.inj (h0.symm.trans h1)
  obtain ⟨_, _, rfl, e⟩ := h3.self_inv
  have hl := k.locs "self" (List.mem_of_getElem? h0)
  exact nameX_L F h2 (h _ _ _ e I) k.kind hl.1 hl.2
theorem rS_assF (k : c.Ok) (i : Nat) {nm : Str} {e : Expr} {f : EF} {xp p' pos : Pos} (hn : fieldNames[i]? = some nm) (h0 : c.names[0]? = some ("self" : Str)) (he : RefE c e f)
    (hs : swapsWith e (some (.Attribute (.Name "self" xp) nm p')) pos.line c.env = pure false := by rfl) : RefS c (.Assign [.Attribute (.Name "self" xp) nm p'] e pos) (sAssF i f) := by
  intro st led s r st' I h
  unfold sAssF at h
  obtain ⟨⟨a, st1⟩, h1, h2⟩ := Option.bind_eq_some_iff.mp h
  dsimp only at h2
  split at h2
  · rename_i hq
    obtain ⟨st2, h3, h4⟩ := Option.map_eq_some_iff.mp h2
    cases h4
    refine plainObj_wpAny_Assign_Attribute (wpAny_mono (he st led s a st1 I h1) ?_ fun _ _ e => e.elim) hs
    rintro v s1 ⟨led1, k1, V1, I1⟩
    refine load_self k I1 hq h0 fun x dx s2 hsf I2 => ?_
    exact set_field k I2 hsf hn V1 h3 fun s' I' => ⟨led1, k1, rfl, I'⟩
  · cases h2
theorem rS_augF (k : c.Ok) (i : Nat) {nm : Str} {op : Operator} {g : AV → AV → Option AV} {e : Expr} {f : EF} {xp p' pos : Pos} (hn : fieldNames[i]? = some nm) (h0 : c.names[0]? = some ("self" : Str)) (ho : OpOk c (inplaceOp op) g) (he : RefE c e f) :
    RefS c (.AugAssign (.Attribute (.Name "self" xp) nm p') op e pos) (sAugF g i f) := by
  intro st led s r st' I h
  unfold sAugF at h
  split at h
  · rename_i hq
    obtain ⟨old, h1, h2⟩ := Option.bind_eq_some_iff.mp h
    obtain ⟨⟨a, st1⟩, h3, h4⟩ := Option.bind_eq_some_iff.mp h2
    obtain ⟨z, h5, h6⟩ := Option.bind_eq_some_iff.mp h4
    obtain ⟨st2, h7, h8⟩ := Option.map_eq_some_iff.mp h6
    cases h8
    refine wpAny_AugAssign_AttributeAny (load_self k I hq h0 fun x dx s2 hsf I2 => ?_)
    refine get_field k I2 hsf hn h1 fun v hv I3 => ?_
    refine wpAny_mono (he st led _ a st1 I3 h3) ?_ fun _ _ e => e.elim
    rintro u s3 ⟨led1, k1, V1, I4⟩
    refine wpAny_mono (ho old a z h5 _ _ _ _ _ I4 (hv.mono (O_mono k1)) V1) ?_ fun _ _ e => e.elim
    rintro w s4 ⟨led2, k2, V2, I5⟩
    exact set_field k I5 hsf hn V2 h7 fun s' I' => ⟨led2, fun p hp => k2 p (k1 p hp), rfl, I'⟩
  · cases h
theorem rS_augL (k : c.Ok) (i : Nat) {x : Str} {op : Operator} {g : AV → AV → Option AV} {e : Expr} {f : EF} {p' pos : Pos} (hx : c.names[i]? = some x) (ho : OpOk c (inplaceOp op) g) (he : RefE c e f) :
    RefS c (.AugAssign (.Name x p') op e pos) (sAugL g i f) := by
  intro st led s r st' I h
  unfold sAugL at h
  split at h
  · rename_i old hold
    obtain ⟨⟨a, st1⟩, h3, h4⟩ := Option.bind_eq_some_iff.mp h
    obtain ⟨z, h5, h6⟩ := Option.map_eq_some_iff.mp h4
    cases h6
    obtain ⟨m, part, fo, F, N, hS, hL, hf⟩ := I.ex
    obtain ⟨y, u, h1, h2, h3'⟩ := hL i old hold
    obtain rfl : x = y := Option.some.inj (hx.symm.trans h1)
    have hl := k.locs x (List.mem_of_getElem? hx)
    refine wpAny_AugAssign_Name (wpAny_loadName_local k.kind hl.1 F.ns h2 ?_)
    refine wpAny_mono (he st led _ a st1 I h3) ?_ fun _ _ e => e.elim
    rintro u s3 ⟨led1, k1, V1, I4⟩
    refine wpAny_mono (ho old a z h5 _ _ _ _ _ I4 (h3'.mono (O_mono k1)) V1) ?_ fun _ _ e => e.elim
    rintro w s4 ⟨led2, k2, V2, I5⟩
    exact set_loc k I5 hx V2 fun s' I' => ⟨led2, fun p hp => k2 p (k1 p hp), rfl, I'⟩
  · cases h
theorem i_add : OpOk c (inplaceOp .Add) gAddI := by
  unfold gAddI
  intro x y z h st led s u v I hu hv
  dsimp only at h
  split at h
  · cases h; obtain ⟨_, rfl⟩ := hu.int_inv; obtain ⟨_, rfl⟩ := hv.int_inv
    exact PyProof.Rows.iadd_int ⟨led, fun _ h => h, .int _ _, I.with _⟩
  · cases h
theorem i_sub : OpOk c (inplaceOp .Sub) gSub := by
  intro x y z h st led s u v I hu hv
  obtain ⟨a, b, rfl, rfl, h'⟩ := ii_inv (F := fun a b => some (.int (a - b))) h
  obtain ⟨_, rfl⟩ := hu.int_inv; obtain ⟨_, rfl⟩ := hv.int_inv; cases h'
  exact PyProof.Rows.isub_int ⟨led, fun _ h => h, .int _ _, I.with _⟩
theorem rS_if {t : Expr} {b1 b2 : List Stmt} {ft : TF} {f g : SF} {pos : Pos} (ht : RefT c t ft) (hf : RefSs c b1 f) (hg : RefSs c b2 g) : RefS c (.If t b1 b2 pos) (sIf ft f g) := by
  intro st led s r st' I h
  unfold sIf at h
  obtain ⟨⟨b, st1⟩, h1, h2⟩ := Option.bind_eq_some_iff.mp h
  refine wpAny_If (wpAny_mono (ht st led s b st1 I h1) ?_ fun _ _ e => e.elim)
  rintro b' s1 ⟨led1, k1, rfl, I1⟩
  cases b' with
  | true => exact wpAny_mono (hf st1 led1 s1 r st' I1 h2) (fun _ _ x => x.grow k1) fun _ _ x => x.grow k1
  | false => exact wpAny_mono (hg st1 led1 s1 r st' I1 h2) (fun _ _ x => x.grow k1) fun _ _ x => x.grow k1
theorem rS_ret {e : Expr} {f : EF} {pos : Pos} (he : RefE c e f) : RefS c (.Return (some e) pos) (sRet f) := by
  intro st led s r st' I h
  unfold sRet at h
  obtain ⟨⟨a, st1⟩, h1, h2⟩ := Option.map_eq_some_iff.mp h
  cases h2
  refine wpAny_Return_some (wpAny_mono (he st led s a st1 I h1) ?_ fun _ _ e => e.elim)
  rintro v s1 ⟨led1, k1, V1, I1⟩
  exact ⟨led1, k1, ⟨v, rfl, V1⟩, I1⟩
theorem rS_expr (k : c.Ok) {e : Expr} {f : EF} {pos : Pos} (he : RefE c e f) (hs : swapsWith e none pos.line c.env = pure false := by rfl) : RefS c (.Expr e pos) (sExpr f) := by
  intro st led s r st' I h
  unfold sExpr at h
  obtain ⟨⟨a, st1⟩, h1, h2⟩ := Option.map_eq_some_iff.mp h
  cases h2
  refine wpAny_Expr_any (wpAny_mono (he st led s a st1 I h1) ?_ fun _ _ e => e.elim) ?_ hs
  · rintro v s1 ⟨led1, k1, V1, I1⟩
    exact ⟨led1, k1, rfl, I1⟩
  · show interactive c.env = false
    unfold interactive
    rw [show c.env.scope.kind = .function from k.kind]
    rfl
theorem rS_brk {pos : Pos} : RefS c (.Break pos) sBrk := by
  intro st led s r st' I h
  cases h
  exact wpAny_Break ⟨led, fun _ h => h, rfl, I⟩
theorem rS_cont {pos : Pos} : RefS c (.Continue pos) sCont := by
  intro st led s r st' I h
  cases h
  exact wpAny_Continue ⟨led, fun _ h => h, rfl, I⟩
theorem rS_pass {pos : Pos} : RefS c (.Pass pos) sNil := by
  intro st led s r st' I h
  cases h
  exact wpAny_Pass ⟨led, fun _ h => h, rfl, I⟩
theorem rS_assert {t : Expr} {ft : TF} {msg : Option Expr} {pos : Pos} (ht : RefT c t ft) : RefS c (.Assert t msg pos) (sAssert ft) := by
  intro st led s r st' I h
  unfold sAssert at h
  obtain ⟨⟨b, st1⟩, h1, h2⟩ := Option.bind_eq_some_iff.mp h
  dsimp only at h2
  split at h2
  · rename_i hb
    cases h2
    refine wpAny_Assert_holds (wpAny_mono (ht st led s _ _ I h1) ?_ fun _ _ e => e.elim)
    rintro b' s1 ⟨led1, k1, rfl, I1⟩
    exact ⟨hb, led1, k1, rfl, I1⟩
  · cases h2
theorem rS_while (k : c.Ok) (n : Nat) {t : Expr} {b : List Stmt} {ft : TF} {f : SF} {pos : Pos} (ht : RefT c t ft) (hf : RefSs c b f) : RefS c (.While t b [] pos) (sWhile n ft f) := by
  intro st led s r st' I h
  refine wpAny_While (codeAny_whileLoop (fun m s₁ => ∃ st₁ led₁, (∀ p ∈ led, p ∈ led₁) ∧ Inv c st₁ led₁ s₁ ∧ sWhile m ft f st₁ = some (r, st')) ?_ n ⟨st, led, fun _ h => h, I, h⟩)
  clear h I
  rintro m s₁ ⟨st₁, led₁, k₁, I₁, h⟩
  cases m with
  | zero => cases h
  | succ m =>
    unfold sWhile at h
    obtain ⟨⟨b1, st2⟩, h1, h2⟩ := Option.bind_eq_some_iff.mp h
    refine wpAny_mono (ht st₁ led₁ s₁ b1 st2 I₁ h1) ?_ fun _ _ e => e.elim
    rintro b' s2 ⟨led2, k2, rfl, I2⟩
    have kk : ∀ p ∈ led, p ∈ led2 := fun p hp => k2 p (k₁ p hp)
    cases b' with
    | false =>
      cases h2
      rw [if_neg (by decide)]
      exact wpAny_execs_nil ⟨led2, kk, rfl, I2⟩
    | true =>
      rw [if_pos rfl]
      dsimp only at h2
      rw [if_pos rfl] at h2
      cases hq : f st2 with
      | none => rw [hq] at h2; cases h2
      | some p =>
        obtain ⟨r3, st3⟩ := p
        rw [hq] at h2
        cases r3 with
        | next =>
          refine wpAny_mono (hf st2 led2 s2 _ _ I2 hq) ?_ ?_
          · rintro fl s3 ⟨led3, k3, rfl, I3⟩
            exact ⟨m, Nat.lt_succ_self m, st3, led3, fun p hp => k3 p (kk p hp), I3, h2⟩
          · rintro e s3 ⟨_, _, hx, _⟩; exact hx.elim
        | cont =>
          refine wpAny_mono (hf st2 led2 s2 _ _ I2 hq) ?_ ?_
          · rintro fl s3 ⟨led3, k3, rfl, I3⟩
            exact ⟨m, Nat.lt_succ_self m, st3, led3, fun p hp => k3 p (kk p hp), I3, h2⟩
          · rintro e s3 ⟨_, _, hx, _⟩; exact hx.elim
        | brk =>
          cases h2
          refine wpAny_mono (hf st2 led2 s2 _ _ I2 hq) ?_ ?_
          · rintro fl s3 ⟨led3, k3, rfl, I3⟩
            exact ⟨led3, fun p hp => k3 p (kk p hp), rfl, I3⟩
          · rintro e s3 ⟨_, _, hx, _⟩; exact hx.elim
        | ret v =>
          cases h2
          refine wpAny_mono (hf st2 led2 s2 _ _ I2 hq) ?_ ?_
          · rintro fl s3 ⟨led3, k3, ⟨u, rfl, hv⟩, I3⟩
            exact ⟨led3, fun p hp => k3 p (kk p hp), ⟨u, rfl, hv⟩, I3⟩
          · rintro e s3 ⟨_, _, hx, _⟩; exact hx.elim
        | exc C =>
          cases h2
          refine wpAny_mono (hf st2 led2 s2 _ _ I2 hq) ?_ ?_
          · rintro fl s3 ⟨led3, k3, hx, I3⟩; exact hx.elim
          · intro e s3 hp
            exact passes k e s3 (hp.grow kk)
theorem rT_true {pos : Pos} {kd : Nat} : RefT c (.Constant (.bool true) kd pos) (fun st => some (true, st)) := by
  intro st led s b st' I h
  cases h
  refine isTrue_plain (wpAny_Constant_bool (wpAny_truthy_bool ⟨led, fun _ h => h, rfl, I⟩)) (by rfl)
theorem rS_raise (k : c.Ok) (C : Addr) {x : Str} {np cpos pos : Pos} (hg : nsIn c.K mainGlobals x = some (some (.ref C))) (he : excIn c.K C [.type "Exception", .type "BaseException", .type "object"] "Exception.__new__" = true)
    (hx : c.env.kindOf x = some .globalImplicit) (hcl : c.cells = []) (hd : (x == ("__debug__" : Str)) = false := by decide) : RefS c (.Raise (some (.Call (.Name x np) [] [] cpos)) none pos) (sRaise C) := by
  intro st led s r st' I h
  cases h
  obtain ⟨m, part, fo, F, N, hS, hL, hf⟩ := I.ex
  have henv : c.env = envOf c.name c.scope c.L c.fa c.cd := by
    show envX c.name c.scope c.L c.fa c.cd c.cells = _
    rw [hcl]; rfl
  rw [henv] at hx ⊢
  refine Raise_own0 F k.T.g (own_of_in k.X (topRead_of k.T) hg he) PySem.F.excBase_Exception k.handled (fun h' e hm => ?_) k.kind hx hd
  obtain ⟨t, ht, _, _⟩ := hm.there
  refine ⟨led, fun _ h => h, ⟨e, .ref t, rfl, ?_, .inl ⟨_, _, ht, rfl, rfl, rfl, rfl⟩⟩, I.keeps hm.keeps rfl rfl⟩
  cases q : c.b0.get? e with
  | none => rfl
  | some o => have := F.keep _ _ q; rw [hm.new] at this; cases this
theorem rS_try (k : c.Ok) (C : Addr) {b : List Stmt} {f : SF} {x : Str} {np pp hp pos : Pos} (hf : RefSs c b f) (hg : nsIn c.K mainGlobals x = some (some (.ref C))) (he : excIn c.K C [.type "Exception", .type "BaseException", .type "object"] "Exception.__new__" = true)
    (hx : c.env.kindOf x = some .globalImplicit) (hd : (x == ("__debug__" : Str)) = false := by decide) : RefS c (.Try b [.ExceptHandler (some (.Name x np)) none [.Pass pp] hp] [] [] pos) (sTry C f) := by
  intro st led s r st' I h
  unfold sTry at h
  cases hq : f st with
  | none => rw [hq] at h; cases h
  | some p =>
    obtain ⟨r1, st1⟩ := p
    rw [hq] at h
    refine wpAny_Try_except (wpAny_mono (hf st led s r1 st1 I hq) ?_ ?_)
    · rintro fl s1 ⟨led1, k1, hv, I1⟩
      cases r1 with
      | next => cases h; cases hv; exact wpAny_execs_nil ⟨led1, k1, rfl, I1⟩
      | brk => cases h; cases hv; exact ⟨led1, k1, rfl, I1⟩
      | cont => cases h; cases hv; exact ⟨led1, k1, rfl, I1⟩
      | ret v => cases h; obtain ⟨u, rfl, hv⟩ := hv; exact ⟨led1, k1, ⟨u, rfl, hv⟩, I1⟩
      | exc C => exact hv.elim
    · rintro e s1 ⟨led1, k1, hv, I1⟩
      cases r1 with
      | next => exact hv.elim
      | brk => exact hv.elim
      | cont => exact hv.elim
      | ret v => exact hv.elim
      | exc C' =>
        dsimp only at h
        split at h
        · rename_i hC
          subst hC
          cases h
          obtain ⟨a, a0, rfl, hen, xx⟩ := hv
          refine L_note k I1 hen xx fun s2 I2 x2 => L_land k I2 x2 fun s3 I3 x3 => ?_
          obtain ⟨m, part, fo, F, N, hS, hL, hfo⟩ := I3.ex
          refine wpAny_handleBy_cons (codeAny_handlers_test (nameX_K F k.X (topRead_of k.T) hg ?_ k.kind hx hd)) (by intro q; cases q)
          obtain ⟨ob, hob, hobc⟩ := x3.there
          obtain ⟨bm, N', nm, qn, bs, hdct, sn, sub, ab, col, dd, k0, k1', k2, k3, k5, mN, hCC, hN, hni, TL⟩ := ((own_of_in k.X (topRead_of k.T) hg he).keeps F.keep).obj
          obtain ⟨hh, gg, dd', tk, os'⟩ := s3
          refine wpAny_excMatches_sub_self hCC hob hobc (TL.hasType PySem.F.excBase_Exception.hasBase) (codeAny_handlers_suite ?_)
          refine L_land k I3 x3 fun s4 I4 x4 => ?_
          refine wpAny_execs_cons (wpAny_Pass (wpAny_execs_nil ?_))
          exact ⟨led1, k1, rfl, I4⟩
        · cases h
end
end Mine
end
section
open PySem PySem.W PyProof.Rows PySem.Calls
namespace Mine
structure Cd where
  w : World
  A : Around
  L : Addr
  outer : List Env
  b0 : Heap
  self : Option (Addr × Addr)
  frs : List (Addr × Data)
  os : OsState
  mg : Str → Option Value
  mb : Str → Option Value
  mean : ExcName → Option Value
  cells : List (Str × Addr) := []
structure Fn where
  a : Addr
  qual : Str
  fn : Stmt
  cdv : Addr
  names : List Str
  np : Nat
noncomputable abbrev Cd.cx (d : Cd) (F : Fn) : Cx := { w := d.w, A := d.A, name := F.qual, scope := fScope F.fn, L := d.L, fa := F.a, cd := .ref F.cdv, outer := d.outer, b0 := d.b0, self := d.self, names := F.names, frs := d.frs, os := d.os, mg := d.mg, mb := d.mb, mean := d.mean, cells := d.cells }
inductive FnX (F : Fn) (P : Params) : Prop
  | mk (name : Str) (dV kV doc pm : Value) (an : Option Addr) (ct oc : Value) (od : Option Addr) (osl : Array (Option Value)) (h1 : (Kf P).lookup F.a = some ⟨oc, od, .func (fnOf name F.qual (fParams F.fn) (fBody F.fn) (fScope F.fn) dV kV doc pm an (.ref F.cdv) ct), osl⟩)
    (h2 : ∀ vals : List Value, vals.length = F.np → bindArgs (fnOf name F.qual (fParams F.fn) (fBody F.fn) (fScope F.fn) dV kV doc pm an (.ref F.cdv) ct) ⟨vals, []⟩ = pure (F.names.zip vals))
structure Fn.Ok (F : Fn) : Prop where
  ex : ∀ P : Params, FnX F P
  code : ∀ P : Params, codeIn (Kf P) (.ref F.cdv) F.qual = true
  keep : ∀ P : Params, keepIn (Kf P) (.ref F.a) = true
  isfn : ∀ P : Params, isFn (Kf P) (.ref F.a) = true
  kind : (fScope F.fn).kind = .function
  co : (fScope F.fn).isCoroutine = false
  gen : (fScope F.fn).isGenerator = false
  cell : ∀ x ∈ (fScope F.fn).names, x.2 ≠ .cell
  loc : ∀ y ∈ F.names, (fScope F.fn).names.lookup y = some .local ∧ (y == ("__debug__" : Str)) = false
  nodup : F.names.Nodup
  few : F.np ≤ F.names.length
noncomputable def Fn.Spec (F : Fn) (D : Nat) (s : SF) : Prop := ∀ d : Cd, d.cells = [] → (d.cx F).Ok → d.A.depth < D → RefSs (d.cx F) (fBody F.fn) s
noncomputable def startSt (n : Nat) (fs args : List AV) : St := ⟨fs, args.map some ++ List.replicate (n - args.length) none, none⟩
noncomputable def callF (n : Nat) (s : SF) (fs args : List AV) : Option (AV × List AV) := match s (startSt n fs args) with
  | some (.ret v, st') => some (v, st'.fs)
  | some (.next, st') => some (.none, st'.fs)
  | _ => none
theorem lookup_zip : ∀ {ns : List Str} {vs : List Value} {i : Nat} {y : Str} {v : Value}, ns.Nodup → ns[i]? = some y → vs[i]? = some v → (ns.zip vs).reverse.lookup y = some v
  | [], _, i, _, _, _, h, _ => by simp at h
  | _ :: _, [], i, _, _, _, _, h => by simp at h
  | n :: ns, u :: vs, 0, y, v, hn, h1, h2 => by
    simp at h1 h2
    subst h1 h2
    rw [List.zip_cons_cons, List.reverse_cons, List.lookup_append]
    have : (ns.zip vs).reverse.lookup n = none := by
      rw [List.lookup_eq_none_iff]
      rintro ⟨m, w⟩ hm
      have := (List.of_mem_zip (List.mem_reverse.mp hm)).1
      simp only [bne_iff_ne, ne_eq]
      rintro rfl
      exact (List.nodup_cons.mp hn).1 this
    rw [this]
    show List.lookup n [(n, u)] = some u
    unfold List.lookup
    rw [beq_self_eq_true]
  | n :: ns, u :: vs, i + 1, y, v, hn, h1, h2 => by
    rw [List.getElem?_cons_succ] at h1 h2
    rw [List.zip_cons_cons, List.reverse_cons, List.lookup_append, lookup_zip (List.nodup_cons.mp hn).2 h1 h2]
    rfl
section
variable {c : Cx}
theorem code_fn {F : Fn} {D : Nat} {s : SF} (k : c.Ok) (ok : F.Ok) (spec : F.Spec D s) (hD : c.A.depth + 1 < D) (hd : c.A.depth < 699) {st : St} {led : List (Addr × Obj)} {sh : Shared} (I : Inv c st led sh) {vals : List Value} {args : List AV} (hv : c.Vs led vals args) (hl : args.length = F.np)
    {v : AV} {fs' : List AV} (h : callF F.names.length s st.fs args = some (v, fs')) :
    codeAny c.M c.A (.call (.ref F.a) ⟨vals, []⟩) (fun res s' => ∃ r, res = .ok (.ret r) ∧ PV c led v { st with fs := fs' } r s') sh := by
  obtain ⟨name, dV, kV, doc, pm, an, ct, oc, od, osl, hlook, hbind⟩ := ok.ex c.w.params
  obtain ⟨m, part, fo, Fm, N, hS, hL, hf⟩ := I.ex
  have X := k.X.keeps Fm.keep
  have hlen : vals.length = F.np := hv.length.trans hl
  have hloc : ∀ x ∈ F.names.zip vals, (fScope F.fn).names.lookup x.1 = some .local := fun x hx => (ok.loc x.1 (List.of_mem_zip hx).1).1
  refine (codeAny_call_def (fd := fnOf name F.qual (fParams F.fn) (fBody F.fn) (fScope F.fn) dV kV doc pm an (.ref F.cdv) ct) (body := fBody F.fn) (binds := F.names.zip vals) (Nat.lt_trans k.depth (by decide)) (X _ _ hlook) rfl (k.T.nolimit.keeps Fm.keep) (codeRec_of X (ok.code _)) rfl (.of_eq (hbind vals hlen)) ok.cell hloc (fun h₁ hns hk₁ => ?_) ok.co ok.gen ok.kind)
  obtain ⟨oL, es, ep, hoL, hdL, hkL, hfL⟩ := Fm.ns
  let d : Cd := { w := c.w, A := c.A.deeper (envOf F.qual (fScope F.fn) sh.heap.objs.size F.a (.ref F.cdv)), L := sh.heap.objs.size, outer := c.env :: c.outer, b0 := c.b0, self := c.self, frs := (c.L, .dict es ep) :: c.frs, os := c.os, mg := c.mg, mb := c.mb, mean := c.mean }
  have szb : c.b0.objs.size ≤ sh.heap.objs.size := Nat.le_trans k.above (Nat.le_of_lt Fm.ns.lt)
  have kc : (d.cx F).Ok := {
    kind := ok.kind
    X := k.X
    sets := k.sets
    T := k.T
    frames := by show (c.A.frames.map _) = _; rw [k.frames]; rfl
    handled := k.handled
    depth := by show c.A.depth + 1 < 700; omega
    units := by show c.A.units + 3 ≤ 3 * (c.A.depth + 1); have := k.units; omega
    nodup := ok.nodup
    locs := ok.loc
    above := szb
    frsOk := ⟨k.knd, rfl, ⟨es, ep, rfl⟩, L_none k, k.frsOk⟩ }
  have hne : ∀ p ∈ part ++ (led ++ fo), p.1 ≠ c.L := fun p hp => (N p hp).2.1
  have fodx : FoR (c.self.map (·.2)) ((c.L, .dict es ep) :: c.frs) ((c.L, oL) :: fo) := by
    refine .cons hdL ?_ hf
    unfold Cx.SelfR at hS
    cases hs : c.self with
    | none => intro e; cases e
    | some xd =>
      rw [hs] at hS
      obtain ⟨x, dx⟩ := xd
      obtain ⟨es', n, rfl, _⟩ := hS
      intro e
      exact hne _ (.head _) (Option.some.inj e).symm
  have I' : Inv (d.cx F) (startSt F.names.length st.fs args) led { sh with heap := h₁, toks := sh.toks + (F.names.zip vals).length } := by
    refine ⟨⟨_, part, (c.L, oL) :: fo, ⟨hns, fun b o e => hk₁ _ _ (Fm.keep b o e), szb⟩, fun p hp => ?_, hS, ?_, fodx⟩, I.nf, (fun v h => by cases h), I.gens, I.os⟩
    · have hp' : p = (c.L, oL) ∨ p ∈ part ++ (led ++ fo) := by
        rcases List.mem_append.mp hp with hp | hp
        · exact .inr (List.mem_append_left _ hp)
        · rcases List.mem_append.mp hp with hp | hp
          · exact .inr (List.mem_append_right _ (List.mem_append_left _ hp))
          · rcases List.mem_cons.mp hp with rfl | hp
            · exact .inl rfl
            · exact .inr (List.mem_append_right _ (List.mem_append_right _ hp))
      rcases hp' with rfl | hp'
      · exact ⟨hk₁ _ _ hoL, Nat.ne_of_lt (Heap.lt_size hoL), L_none k⟩
      · exact ⟨hk₁ _ _ (N p hp').1, Nat.ne_of_lt (Heap.lt_size (N p hp').1), (N p hp').2.2⟩
    · intro i a ha
      unfold startSt at ha
      dsimp only at ha
      rw [List.getElem?_append] at ha
      split at ha
      · rename_i hi
        rw [List.length_map] at hi
        rw [List.getElem?_map] at ha
        obtain ⟨a', ha', e⟩ := Option.map_eq_some_iff.mp ha
        cases e
        obtain ⟨u, hu, hV⟩ := hv.get ha'
        have hi' : i < F.names.length := Nat.lt_of_lt_of_le (hl ▸ hi) ok.few
        exact ⟨F.names[i], u, List.getElem?_eq_getElem hi', lookup_zip ok.nodup (List.getElem?_eq_getElem hi') hu, hV⟩
      · rw [List.getElem?_replicate] at ha
        split at ha <;> cases ha
  have run : ∀ r st1, s (startSt F.names.length st.fs args) = some (r, st1) → ∀ (Q : Flow → Shared → Prop) (E : Value → Shared → Prop), (∀ f s', PostQ (d.cx F) led r st1 f s' → Q f s') → (∀ e s', PostE (d.cx F) led r st1 e s' → E e s') →
      wpAny c.M (c.A.deeper (envOf F.qual (fScope F.fn) sh.heap.objs.size F.a (.ref F.cdv))) (execs (fBody F.fn) (envOf F.qual (fScope F.fn) sh.heap.objs.size F.a (.ref F.cdv))) Q E { sh with heap := h₁, toks := sh.toks + (F.names.zip vals).length } :=
    fun r st1 hr Q E hq he => wpAny_mono (spec d rfl kc hD _ led _ r st1 I' hr) hq he
  have back : ∀ st1 led' s' r, (∀ p ∈ led, p ∈ led') → Inv (d.cx F) st1 led' s' → (d.cx F).V led' r v → st1.fs = fs' → PV c led v { st with fs := fs' } r s' := by
    intro st1 led' s' r kk I1 V1 hfs
    obtain ⟨m', part', fo', F', N', S', L', f'⟩ := I1.ex
    cases f' with | cons hd1 hd2 rest =>
    rename_i o' fo''
    have hL' := N' (c.L, o') (List.mem_append_right _ (List.mem_append_right _ (.head _)))
    refine ⟨led', kk, V1, ⟨m, part', fo'', ⟨⟨o', es, ep, hL'.1, hd1, hkL, hfL⟩, F'.keep, k.above⟩, fun p hp => ?_, ?_, LocR.mono kk hL, rest⟩, I1.nf, (fun v h => ?_), I1.gens, I1.os⟩
    · have g : (s'.heap.get? p.1 = some p.2 ∧ p.1 ≠ d.L ∧ c.b0.get? p.1 = none) := by
        rcases List.mem_append.mp hp with hp | hp
        · exact N' p (List.mem_append_left _ hp)
        · rcases List.mem_append.mp hp with hp | hp
          · exact N' p (List.mem_append_right _ (List.mem_append_left _ hp))
          · exact N' p (List.mem_append_right _ (List.mem_append_right _ (.tail _ hp)))
      refine ⟨g.1, ?_, g.2.2⟩
      intro e
      rcases List.mem_append.mp hp with hp | hp
      · unfold Cx.SelfR at S'
        cases hs : c.self with
        | none =>
          rw [show (d.cx F).self = none from hs] at S'
          rw [S'.1] at hp; cases hp
        | some xd =>
          obtain ⟨x, dx⟩ := xd
          rw [show (d.cx F).self = some (x, dx) from hs] at S'
          obtain ⟨es', n', rfl, _⟩ := S'
          rcases List.mem_singleton.mp hp with rfl
          have h2 : some c.L ≠ c.self.map (·.2) := hd2
          rw [hs] at h2
          exact h2 (congrArg some (e.symm : c.L = dx))
      · rcases List.mem_append.mp hp with hp | hp
        · rw [e, hL'.1] at g
          obtain ⟨g1, _⟩ := g
          cases g1
          exact (I1.nf p hp).2 _ _ hd1
        · obtain ⟨q, hq, e1, _⟩ := rest.get p hp
          have : ∀ {dx : Option Addr} {fr : List (Addr × Data)} {fo : List (Addr × Obj)}, FoR dx fr fo → ∀ q ∈ fr, ∃ p ∈ fo, p.1 = q.1 := by
            intro dx fr fo r
            induction r with
            | nil => intro q hq; cases hq
            | cons h1 h2 r ih =>
              intro q hq
              rcases List.mem_cons.mp hq with rfl | hq
              · exact ⟨_, .head _, rfl⟩
              · obtain ⟨p, hp, e⟩ := ih q hq
                exact ⟨p, .tail _ hp, e⟩
          obtain ⟨p0, hp0, e0⟩ := this hf q hq
          exact hne p0 (List.mem_append_right _ (List.mem_append_right _ hp0)) (e0.trans (e1.trans e))
    · subst hfs
      exact S'
    · obtain ⟨n, a, o, u, z1, z2, z3, z4⟩ := I.cel v h
      exact ⟨n, a, o, u, z1, kk _ z2, z3, z4.mono (O_mono kk)⟩
  unfold callF at h
  split at h
  · rename_i v' st1 hr
    cases h
    refine run _ _ hr _ _ (fun f s' hp => ?_) fun e s' hp => ?_
    · obtain ⟨led', kk, ⟨u, rfl, hV⟩, I1⟩ := hp
      exact ⟨_, rfl, back st1 led' s' _ kk I1 hV rfl⟩
    · obtain ⟨_, _, hx, _⟩ := hp; exact hx.elim
  · rename_i st1 hr
    cases h
    refine run _ _ hr _ _ (fun f s' hp => ?_) fun e s' hp => ?_
    · obtain ⟨led', kk, rfl, I1⟩ := hp
      exact ⟨_, rfl, back st1 led' s' _ kk I1 .none rfl⟩
    · obtain ⟨_, _, hx, _⟩ := hp; exact hx.elim
  · cases h
theorem call_fn {F : Fn} {D : Nat} {s : SF} (k : c.Ok) (ok : F.Ok) (spec : F.Spec D s) (hD : c.A.depth + 1 < D) (hd : c.A.depth < 699) {st : St} {led : List (Addr × Obj)} {sh : Shared} (I : Inv c st led sh) {vals : List Value} {args : List AV} (hv : c.Vs led vals args) (hl : args.length = F.np)
    {v : AV} {fs' : List AV} (h : callF F.names.length s st.fs args = some (v, fs')) :
    wpAny c.M c.A (call (.ref F.a) vals) (PV c led v { st with fs := fs' }) (fun _ _ => False) sh := by
  refine wpAny_call (codeAny_mono (code_fn k ok spec hD hd I hv hl h) ?_)
  rintro r s' ⟨u, rfl, h⟩
  exact h
noncomputable def evs : List EF → St → Option (List AV × St)
  | [], st => some ([], st)
  | f :: fs, st => (f st).bind fun p => (evs fs p.2).map fun q => (p.1 :: q.1, q.2)
inductive RefEs (c : Cx) : List Expr → List EF → Prop
  | nil : RefEs c [] []
  | cons {e : Expr} {es : List Expr} {f : EF} {fs : List EF} : RefE c e f → (∀ rest : List Expr, starEach (e :: rest) c.env = (false, eval e c.env) :: starEach rest c.env) → RefEs c es fs → RefEs c (e :: es) (f :: fs)
theorem RefEs.plain : ∀ {es : List Expr} {fs : List EF} {pos : Pos}, RefEs c es fs → (backTo pos (starEach es c.env)).any (·.1) = false
  | _, _, _, .nil => rfl
  | _, _, pos, .cons (es := es) _ hs r => by
    rw [hs]
    show (false || (backTo pos (starEach es c.env)).any (·.1)) = false
    rw [r.plain]; rfl
theorem RefEs.run : ∀ {es : List Expr} {fs : List EF} {pos : Pos}, RefEs c es fs → ∀ {st led s vs st'}, Inv c st led s → evs fs st = some (vs, st') →
    wpAny c.M c.A (spliced (backTo pos (starEach es c.env))) (PVs c led vs st') (fun _ _ => False) s
  | _, _, pos, .nil, st, led, s, vs, st', I, h => by
    cases h
    exact spliced_none ⟨led, fun _ h => h, .nil, I⟩
  | _, _, pos, .cons he hs r, st, led, s, vs, st', I, h => by
    unfold evs at h
    obtain ⟨⟨a, st1⟩, h1, h2⟩ := Option.bind_eq_some_iff.mp h
    obtain ⟨⟨as, st2⟩, h3, h4⟩ := Option.map_eq_some_iff.mp h2
    cases h4
    refine spliced_more (wpAny_mono (he st led s a st1 I h1) ?_ fun _ _ e => e.elim) (hs _)
    rintro u s1 ⟨led1, k1, V1, I1⟩
    refine wpAny_mono (r.run I1 h3) ?_ fun _ _ e => e.elim
    rintro us s2 ⟨led2, k2, V2, I2⟩
    exact ⟨led2, fun p hp => k2 p (k1 p hp), .cons (V1.mono (O_mono k2)) V2, I2⟩
theorem callWith_fn {F : Fn} {D : Nat} {sf : SF} (k : c.Ok) (ok : F.Ok) (spec : F.Spec D sf) (hD : c.A.depth + 1 < D) (hd : c.A.depth < 699) {es : List Expr} {fs : List EF} (r : RefEs c es fs) {pos : Pos} {first : List Value} {fa : List AV}
    {st st1 : St} {led : List (Addr × Obj)} {s : Shared} {vs : List AV} (I : Inv c st led s) (hfa : c.Vs led first fa) (h1 : evs fs st = some (vs, st1)) (hl : (fa ++ vs).length = F.np) {v : AV} {fs' : List AV} (h : callF F.names.length sf st1.fs (fa ++ vs) = some (v, fs')) :
    wpAny c.M c.A (callWith pos (.ref F.a) first (backTo pos (starEach es c.env)) []) (PV c led v { st1 with fs := fs' }) (fun _ _ => False) s := by
  cases r with
  | nil =>
    cases h1
    refine callWith_K0 (I.K k) (ok.keep _) ?_
    exact call_fn k ok spec hD hd I (hfa.append .nil) hl h
  | cons he hs r =>
    refine callWith_K (K := c.K) (I.K k) (ok.keep _) (wpAny_mono ((RefEs.cons he hs r).run I h1) ?_ fun _ _ e => e.elim) (hs _) r.plain
    rintro us s1 ⟨led1, k1, V1, I1⟩
    refine ⟨I1.K k, wpAny_mono (call_fn k ok spec hD hd I1 ((hfa.mono (O_mono k1)).append V1) hl h) ?_ fun _ _ e => e.elim⟩
    rintro u s2 ⟨led2, k2, V2, I2⟩
    exact ⟨led2, fun p hp => k2 p (k1 p hp), V2, I2⟩
noncomputable def eMeth (n np : Nat) (sf : SF) (fs : List EF) : EF := fun st => if isSelf st then (evs fs st).bind fun p => if p.1.length + 1 = np then (callF n sf p.2.fs (.self :: p.1)).map fun q => (q.1, { p.2 with fs := q.2 }) else none else none
noncomputable def eCall (n np : Nat) (sf : SF) (fs : List EF) : EF := fun st => (evs fs st).bind fun p => if p.1.length = np then (callF n sf p.2.fs p.1).map fun q => (q.1, { p.2 with fs := q.2 }) else none
theorem dict_noKey {P : Params} {V : Value → AV → Prop} {nm : Str} : ∀ {ns : List Str} {es : List DictEntry} {fs : List AV}, DictR P V ns es fs → nm ∉ ns → getL nm es = some none
  | _, _, _, d, hn => by
    have hf : ∀ {ns : List Str} {es : List DictEntry} {fs : List AV}, DictR P V ns es fs → nm ∉ ns → es.find? (fun x => x.key.isStr nm) = none := by
      intro ns es fs d
      induction d with
      | nil => intro _; rfl
      | cons hv r ih =>
        intro hn
        rename_i n ns t v a es as
        have hne : ¬ ((n == nm) = true) := by
          rw [beq_iff_eq]
          rintro rfl
          exact hn (.head _)
        rw [List.find?_cons_of_neg (by exact hne)]
        exact ih fun h => hn (.tail _ h)
    unfold getL
    rw [hf d hn, dict_noRef d]
    rfl
theorem rE_meth {F : Fn} {D : Nat} {sf : SF} (k : c.Ok) (ok : F.Ok) (spec : F.Spec D sf) (hD : c.A.depth + 1 < D) (hd : c.A.depth < 699) {es : List Expr} {fs : List EF} (r : RefEs c es fs) {nm : Str} {xp ap pos : Pos} (h0 : c.names[0]? = some ("self" : Str))
    (hn : nm ∉ fieldNames) (hf : ∀ P : Params, findIn (Kf P) (.ref 527) nm = some (some (.ref F.a))) (hg : ∀ P : Params, plainGet (Kf P) 527 nm = true) {pl : Sem Bool}
    (he : eval (.Call (.Attribute (.Name "self" xp) nm ap) es [] pos) c.env = (do
      let ov ← eval (.Name "self" xp) c.env
      standAt ap.atName
      let (f, first) ← holding [ov] (getMethod ov nm pl)
      callWith pos f first (backTo pos (starEach es c.env)) []) := by rfl) : RefE c (.Call (.Attribute (.Name "self" xp) nm ap) es [] pos) (eMeth F.names.length F.np sf fs) := by
  intro st led s v st' I h
  unfold eMeth at h
  split at h
  · rename_i hq
    obtain ⟨⟨vs, st1⟩, h1, h2⟩ := Option.bind_eq_some_iff.mp h
    dsimp only at h2
    split at h2
    · rename_i hlen
      obtain ⟨⟨v', fs'⟩, h3, h4⟩ := Option.map_eq_some_iff.mp h2
      cases h4
      refine MethodCall_ (pl := pl) (load_self k I hq h0 fun x dx s2 hsf I2 => ?_) he
      obtain ⟨m, part, fo, Fm, N, hS, hL, hfo⟩ := I2.ex
      unfold Cx.SelfR at hS
      rw [hsf] at hS
      obtain ⟨es', n, rfl, hdd, hx, hap⟩ := hS
      have I1 : InstAt s2.heap x (instO dx) 527 (some (dictOf es' n)) := ⟨(N _ (List.mem_append_right _ (List.mem_append_left _ hx))).1, rfl, rfl, (N _ (List.mem_append_left _ (.head _))).1⟩
      refine method_inst Fm k.X I1 (hg _) (hf _) (ok.isfn _) (dict_noKey hdd hn) ?_
      exact callWith_fn k ok spec hD hd r (fa := [.self]) I2 (.cons (.self hsf) .nil) h1 (by rw [List.length_append, List.length_singleton, Nat.add_comm]; exact hlen) h3
    · cases h2
  · cases h
theorem rE_call {F : Fn} {D : Nat} {sf : SF} (k : c.Ok) (ok : F.Ok) (spec : F.Spec D sf) (hD : c.A.depth + 1 < D) (hd : c.A.depth < 699) {es : List Expr} {fs : List EF} (r : RefEs c es fs) {nm : Str} {xp pos : Pos}
    (hf : ∀ P : Params, nsIn (Kf P) mainGlobals nm = some (some (.ref F.a))) (hx : c.env.kindOf nm = some .globalImplicit) (hdb : (nm == ("__debug__" : Str)) = false := by decide) : RefE c (.Call (.Name nm xp) es [] pos) (eCall F.names.length F.np sf fs) := by
  intro st led s v st' I h
  unfold eCall at h
  obtain ⟨⟨vs, st1⟩, h1, h2⟩ := Option.bind_eq_some_iff.mp h
  dsimp only at h2
  split at h2
  · rename_i hlen
    obtain ⟨⟨v', fs'⟩, h3, h4⟩ := Option.map_eq_some_iff.mp h2
    cases h4
    obtain ⟨m, part, fo, Fm, N, hS, hL, hfo⟩ := I.ex
    refine wpAny_Call_NameR (nameX_K Fm k.X (topRead_of k.T) (hf _) ?_ k.kind hx hdb)
    exact callWith_fn k ok spec hD hd r (fa := []) I .nil h1 hlen h3
  · cases h2
end
end Mine
end
section
open PySem PySem.W PyProof.Rows PySem.Calls
namespace Mine
section
variable {c : Cx}
theorem Inv.pushed {st : St} {led : List (Addr × Obj)} {s : Shared} (k : c.Ok) (I : Inv c st led s) (o : Obj) (tk : Nat) (hn : NF o) (hf : o.isFreed = false) : Inv c st ((s.heap.objs.size, o) :: led) { s with heap := s.heap.push o, toks := tk } := by
  obtain ⟨m, part, fo, F, N, hS, hL, hfo⟩ := I.ex
  have hk : ∀ b o', s.heap.get? b = some o' → (s.heap.push o).get? b = some o' := fun b o' e => Heap.get?_push_of_some o e
  have hb : c.b0.get? s.heap.objs.size = none := Heap.get?_none_of_le (Nat.le_trans k.above (Nat.le_of_lt F.ns.lt))
  refine ⟨⟨m, part, fo, ⟨F.ns.keeps hk, fun b o' e => hk _ _ (F.keep b o' e), F.above⟩, fun p hp => ?_, ?_, LocR.mono (fun p hp => .tail _ hp) hL, hfo⟩, fun p hp => ?_, fun v h => ?_, I.gens, I.os⟩
  · have : p = (s.heap.objs.size, o) ∨ p ∈ part ++ (led ++ fo) := by
      rcases List.mem_append.mp hp with hp | hp
      · exact .inr (List.mem_append_left _ hp)
      · rcases List.mem_append.mp hp with hp | hp
        · rcases List.mem_cons.mp hp with rfl | hp
          · exact .inl rfl
          · exact .inr (List.mem_append_right _ (List.mem_append_left _ hp))
        · exact .inr (List.mem_append_right _ (List.mem_append_right _ hp))
    rcases this with rfl | h
    · exact ⟨Heap.get?_push_size s.heap hf, Nat.ne_of_gt F.ns.lt, hb⟩
    · exact ⟨hk _ _ (N p h).1, (N p h).2⟩
  · unfold Cx.SelfR at hS ⊢
    cases hs : c.self with
    | none => rw [hs] at hS; exact hS
    | some xd =>
      obtain ⟨x, dx⟩ := xd
      rw [hs] at hS
      obtain ⟨es, n, rfl, hd, hx, hap⟩ := hS
      refine ⟨es, n, rfl, hd.mono fun v a h => h.mono (O_mono fun p hp => .tail _ hp), .tail _ hx, fun p hp => ?_⟩
      rcases List.mem_cons.mp hp with rfl | hp
      · intro e
        have := Heap.lt_size (N (dx, _) (List.mem_append_left _ (.head _))).1
        exact absurd this (by rw [← e]; exact Nat.lt_irrefl _)
      · exact hap p hp
  · rcases List.mem_cons.mp hp with rfl | hp
    · exact hn
    · exact I.nf p hp
  · obtain ⟨n, a, o', u, z1, z2, z3, z4⟩ := I.cel v h
    exact ⟨n, a, o', u, z1, .tail _ z2, z3, z4.mono (O_mono fun p hp => .tail _ hp)⟩
noncomputable def gIdx : AV → AV → Option AV
  | .str x, .int i => if 0 ≤ i ∧ i < 1000 then (x[i.toNat]?).map fun d => .str [d] else none
  | .lst xs, .int i => if 0 ≤ i ∧ i < 1000 then xs[i.toNat]? else none
  | .tup xs, .int i => if 0 ≤ i ∧ i < 1000 then xs[i.toNat]? else none
  | _, _ => none
theorem seqIdx {i : Int} {n : Nat} (h0 : 0 ≤ i) (h : i.toNat < n) : seqIndex? i n = some i.toNat := by
  unfold seqIndex?
  have h1 : ¬ i < 0 := by omega
  have h2 : i < (n : Int) := by omega
  have h3 : ¬ (n : Int) ≤ i := by omega
  simp [h1, h2, h3, h0]
theorem rE_idx {v sl : Expr} {fv fs : EF} {pos : Pos} (hv : RefE c v fv) (hsl : RefE c sl fs) (hs : ∀ o i, subscripted sl false o i = operate [o, i] (getItem o i) := by intro _ _; with_unfolding_all rfl) : RefE c (.Subscript v sl pos) (eBin gIdx fv fs) := by
  intro st led s z st' I h
  obtain ⟨x, y, st1, h1, h2, h3⟩ := bind2 h
  refine Subscript_ (wpAny_mono (hv st led s x st1 I h1) ?_ fun _ _ e => e.elim)
  rintro u s1 ⟨led1, k1, V1, I1⟩
  refine wpAny_mono (hsl st1 led1 s1 y st' I1 h2) ?_ fun _ _ e => e.elim
  rintro u2 s2 ⟨led2, k2, V2, I2⟩
  have kk : ∀ p ∈ led, p ∈ led2 := fun p hp => k2 p (k1 p hp)
  have V1 := V1.mono (O_mono k2)
  unfold gIdx at h3
  split at h3
  · split at h3
    · rename_i hi
      obtain ⟨d, hd, h3⟩ := Option.map_eq_some_iff.mp h3
      cases h3
      obtain ⟨x, t, rfl, rfl⟩ := V1.str_inv
      obtain ⟨_, rfl⟩ := V2.int_inv
      have hlt : (_ : Int).toNat < x.cps.toList.length := (List.getElem?_eq_some_iff.mp hd).1
      refine tail_any (typeIs_str _ _ _) slot_str_getitem.lookup (getItem_str (c := d) ?_ ?_ ⟨led2, kk, ?_, I2.with _⟩) (hs _ _)
      · rw [Bool.or_eq_false_iff]; constructor <;> (apply decide_eq_false; omega)
      · rw [seqIdx hi.1 (by simpa [Str.length] using hlt)]
        show x.cps[_]? = some d
        rw [← Array.getElem?_toList]; exact hd
      · exact .str ⟨#[d]⟩ _
    · cases h3
  · split at h3
    · rename_i hi
      obtain ⟨_, _, _, rfl, o, r⟩ := V1.lst_inv
      obtain ⟨_, rfl⟩ := V2.int_inv
      obtain ⟨w, hw, hV⟩ := r.get h3
      exact tail_any (isList_of I2 o).typeIs slot_list_getitem.lookup (getItem_listL (isList_of I2 o) hi.1 (by omega) hw ⟨led2, kk, hV, I2⟩) (hs _ _)
    · cases h3
  · split at h3
    · rename_i hi
      obtain ⟨_, _, _, rfl, o, r⟩ := V1.tup_inv
      obtain ⟨_, rfl⟩ := V2.int_inv
      obtain ⟨w, hw, hV⟩ := r.get h3
      have it : IsTup s2.heap _ _ := ⟨_, I2.heapO o, rfl, _, rfl⟩
      exact item_tupleT it (by omega) (by omega) (seqIdx hi.1 (List.getElem?_eq_some_iff.mp hw).1) hw ⟨led2, kk, hV, I2⟩ (hs _ _)
    · cases h3
  · cases h3
noncomputable def eSliceSS (f g h : EF) : EF := fun st => (f st).bind fun p => (g p.2).bind fun q => (h q.2).bind fun r => match p.1, q.1, r.1 with
  | .str x, .int i, .int j => if 0 ≤ i ∧ i ≤ j ∧ j ≤ x.length ∧ x.length < 1000 then some (.str ((x.drop i.toNat).take (j - i).toNat), r.2) else none
  | _, _, _ => none
noncomputable def eSliceNS (f h : EF) : EF := fun st => (f st).bind fun p => (h p.2).bind fun r => match p.1, r.1 with
  | .str x, .int j => if 0 ≤ j ∧ j ≤ x.length ∧ x.length < 1000 then some (.str (x.take j.toNat), r.2) else none
  | _, _ => none
noncomputable def eSliceSN (f h : EF) : EF := fun st => (f st).bind fun p => (h p.2).bind fun r => match p.1, r.1 with
  | .str x, .int i => if 0 ≤ i ∧ i ≤ x.length ∧ x.length < 1000 then some (.str (x.drop i.toNat), r.2) else none
  | _, _ => none
theorem sz1000 {n : Nat} (h : n < 1000) : n ≤ sizeLine := by rw [sizeLine_eq]; omega
theorem rE_sliceSS {v lo hi : Expr} {fv fl fh : EF} {p pos : Pos} (hv : RefE c v fv) (hl : RefE c lo fl) (hh : RefE c hi fh)
    (ht : ∀ x t r, letTemporaryGo v (.str x t) r = pure () := by intro _ _ _; with_unfolding_all rfl) : RefE c (.Subscript v (.Slice (some lo) (some hi) none p) pos) (eSliceSS fv fl fh) := by
  intro st led s z st' I h
  unfold eSliceSS at h
  obtain ⟨⟨x, st1⟩, h1, h⟩ := Option.bind_eq_some_iff.mp h
  obtain ⟨⟨i, st2⟩, h2, h⟩ := Option.bind_eq_some_iff.mp h
  obtain ⟨⟨j, st3⟩, h3, h⟩ := Option.bind_eq_some_iff.mp h
  refine Subscript_ (wpAny_mono (hv st led s x st1 I h1) ?_ fun _ _ e => e.elim)
  rintro u s1 ⟨led1, k1, V1, I1⟩
  refine wpAny_Slice (wpAny_mono (hl st1 led1 s1 i st2 I1 h2) ?_ fun _ _ e => e.elim)
  rintro u2 s2 ⟨led2, k2, V2, I2⟩
  refine wpAny_mono (hh st2 led2 s2 j st3 I2 h3) ?_ fun _ _ e => e.elim
  rintro u3 s3 ⟨led3, k3, V3, I3⟩
  have V1 := (V1.mono (O_mono k2)).mono (O_mono k3)
  have V2 := V2.mono (O_mono k3)
  dsimp only at h
  split at h
  · split at h
    · rename_i hc
      cases h
      obtain ⟨x, t, rfl, rfl⟩ := V1.str_inv
      obtain ⟨_, rfl⟩ := V2.int_inv; obtain ⟨_, rfl⟩ := V3.int_inv
      obtain ⟨m, part, fo, F, N, hS, hL, hfo⟩ := I3.ex
      refine wpAny_pure (a := Value.none) ?_
      refine slice_strN_ss F N (fun h' t' tk F' N' => ⟨led3, fun p hp => k3 p (k2 p (k1 p hp)), ?_, ⟨⟨m, part, fo, F', N', hS, hL, hfo⟩, I3.nf, I3.cel, I3.gens, I3.os⟩⟩) (by with_unfolding_all rfl) (fun r => ht _ _ r) (sz1000 (by simpa [Str.length] using hc.2.2.2))
      rw [beq_iff_eq.mp (slice_closes (x := x) ⟨hc.1, hc.2.1, hc.2.2.1⟩)]
      exact .str ⟨_⟩ _
    · cases h
  · cases h
theorem rE_sliceNS {v hi : Expr} {fv fh : EF} {p pos : Pos} (hv : RefE c v fv) (hh : RefE c hi fh)
    (ht : ∀ x t r, letTemporaryGo v (.str x t) r = pure () := by intro _ _ _; with_unfolding_all rfl) : RefE c (.Subscript v (.Slice none (some hi) none p) pos) (eSliceNS fv fh) := by
  intro st led s z st' I h
  unfold eSliceNS at h
  obtain ⟨⟨x, st1⟩, h1, h⟩ := Option.bind_eq_some_iff.mp h
  obtain ⟨⟨j, st3⟩, h3, h⟩ := Option.bind_eq_some_iff.mp h
  refine Subscript_ (wpAny_mono (hv st led s x st1 I h1) ?_ fun _ _ e => e.elim)
  rintro u s1 ⟨led1, k1, V1, I1⟩
  refine wpAny_Slice (wpAny_pure (a := Value.none) (wpAny_mono (hh st1 led1 s1 j st3 I1 h3) ?_ fun _ _ e => e.elim))
  rintro u3 s3 ⟨led3, k3, V3, I3⟩
  have V1 := V1.mono (O_mono k3)
  dsimp only at h
  split at h
  · split at h
    · rename_i hc
      cases h
      obtain ⟨x, t, rfl, rfl⟩ := V1.str_inv
      obtain ⟨_, rfl⟩ := V3.int_inv
      obtain ⟨m, part, fo, F, N, hS, hL, hfo⟩ := I3.ex
      refine wpAny_pure (a := Value.none) ?_
      refine slice_strN_ns F N (fun h' t' tk F' N' => ⟨led3, fun p hp => k3 p (k1 p hp), ?_, ⟨⟨m, part, fo, F', N', hS, hL, hfo⟩, I3.nf, I3.cel, I3.gens, I3.os⟩⟩) (by with_unfolding_all rfl) (fun r => ht _ _ r) (sz1000 (by simpa [Str.length] using hc.2.2))
      rw [beq_iff_eq.mp (slice_closes_to (x := x) ⟨hc.1, hc.2.1⟩)]
      rw [Int.sub_zero, show (0 : Int).toNat = 0 from rfl, List.drop_zero]
      exact .str ⟨_⟩ _
    · cases h
  · cases h
theorem rE_sliceSN {v lo : Expr} {fv fh : EF} {p pos : Pos} (hv : RefE c v fv) (hh : RefE c lo fh)
    (ht : ∀ x t r, letTemporaryGo v (.str x t) r = pure () := by intro _ _ _; with_unfolding_all rfl) : RefE c (.Subscript v (.Slice (some lo) none none p) pos) (eSliceSN fv fh) := by
  intro st led s z st' I h
  unfold eSliceSN at h
  obtain ⟨⟨x, st1⟩, h1, h⟩ := Option.bind_eq_some_iff.mp h
  obtain ⟨⟨j, st3⟩, h3, h⟩ := Option.bind_eq_some_iff.mp h
  refine Subscript_ (wpAny_mono (hv st led s x st1 I h1) ?_ fun _ _ e => e.elim)
  rintro u s1 ⟨led1, k1, V1, I1⟩
  refine wpAny_Slice (wpAny_mono (hh st1 led1 s1 j st3 I1 h3) ?_ fun _ _ e => e.elim)
  rintro u3 s3 ⟨led3, k3, V3, I3⟩
  have V1 := V1.mono (O_mono k3)
  dsimp only at h
  split at h
  · split at h
    · rename_i hc
      cases h
      obtain ⟨x, t, rfl, rfl⟩ := V1.str_inv
      obtain ⟨_, rfl⟩ := V3.int_inv
      obtain ⟨m, part, fo, F, N, hS, hL, hfo⟩ := I3.ex
      refine wpAny_pure (a := Value.none) (wpAny_pure (a := Value.none) ?_)
      refine slice_strN_sn F N (fun h' t' tk F' N' => ⟨led3, fun p hp => k3 p (k1 p hp), ?_, ⟨⟨m, part, fo, F', N', hS, hL, hfo⟩, I3.nf, I3.cel, I3.gens, I3.os⟩⟩) (by with_unfolding_all rfl) (fun r => ht _ _ r) (sz1000 (by simpa [Str.length] using hc.2.2))
      rw [beq_iff_eq.mp (slice_closes_from (x := x) ⟨hc.1, hc.2.1⟩)]
      rw [List.take_of_length_le (by rw [List.length_drop]; omega)]
      exact .str ⟨_⟩ _
    · cases h
  · cases h
theorem rE_builtin {es : List Expr} {fs : List EF} {id : String} {nm : Str} {g : List AV → Option AV} {xp pos : Pos} (k : c.Ok) (r : RefEs c es fs) (he : es ≠ [])
    (hg : nsIn c.K mainGlobals nm = some none) (hb : bootBuiltins nm = some (.builtin id)) (hn : nm ≠ "__name__") (hx : c.env.kindOf nm = some .globalImplicit) (hdb : (nm == ("__debug__" : Str)) = false)
    (hc : ∀ st led s us vs z, Inv c st led s → c.Vs led us vs → g vs = some z → wpAny c.M c.A (call (.builtin id) us) (PV c led z st) (fun _ _ => False) s) :
    RefE c (.Call (.Name nm xp) es [] pos) (fun st => (evs fs st).bind fun p => (g p.1).map fun z => (z, p.2)) := by
  intro st led s v st' I h
  obtain ⟨⟨vs, st1⟩, h1, h2⟩ := Option.bind_eq_some_iff.mp h
  obtain ⟨z, h3, h4⟩ := Option.map_eq_some_iff.mp h2
  cases h4
  obtain ⟨m, part, fo, F, N, hS, hL, hfo⟩ := I.ex
  refine wpAny_Call_NameR (nameX_B F k.X (topRead_of k.T) hg hb hn ?_ k.kind hx hdb)
  cases r with
  | nil => exact absurd rfl he
  | cons hh hs r =>
    refine PyProof.Rows.callWith_builtin1 (wpAny_mono ((RefEs.cons hh hs r).run I h1) ?_ fun _ _ e => e.elim) (hs _) r.plain
    rintro us s1 ⟨led1, k1, V1, I1⟩
    refine wpAny_mono (hc _ _ _ _ _ _ I1 V1 h3) ?_ fun _ _ e => e.elim
    rintro u s2 ⟨led2, k2, V2, I2⟩
    exact ⟨led2, fun p hp => k2 p (k1 p hp), V2, I2⟩
noncomputable def gLen : List AV → Option AV
  | [.str x] => if x.length < 1000 then some (.int x.length) else none
  | [.lst x] => if x.length < 1000 then some (.int x.length) else none
  | _ => none
noncomputable def gMin : List AV → Option AV
  | [.int a, .int b] => some (.int (if b < a then b else a))
  | _ => none
noncomputable def gOrd : List AV → Option AV
  | [.str [d]] => some (.int d)
  | _ => none
noncomputable def eFun (g : List AV → Option AV) (fs : List EF) : EF := fun st => (evs fs st).bind fun p => (g p.1).map fun z => (z, p.2)
theorem rE_len {e : Expr} {f : EF} {xp pos : Pos} (k : c.Ok) (r : RefEs c [e] [f]) (hx : c.env.kindOf "len" = some .globalImplicit) (hg : nsIn c.K mainGlobals "len" = some none) : RefE c (.Call (.Name "len" xp) [e] [] pos) (eFun gLen [f]) := by
  refine rE_builtin k r (by simp) hg (id := "len") (by rfl) (by decide) hx (by decide) ?_
  intro st led s us vs z I V h
  unfold gLen at h
  split at h
  · split at h
    · rename_i hl
      cases h
      obtain ⟨_, _, rfl, a, b⟩ := V.cons_inv
      obtain rfl := b.nil_inv
      obtain ⟨x, t, rfl, rfl⟩ := a.str_inv
      have hx : x.length = x.cps.toList.length := by simp [Str.length]
      refine PyProof.Rows.len_str (by omega) ⟨led, fun _ h => h, ?_, I.with _⟩
      rw [hx]; exact .int _ _
    · cases h
  · split at h
    · rename_i hl
      cases h
      obtain ⟨_, _, rfl, a, b⟩ := V.cons_inv
      obtain rfl := b.nil_inv
      obtain ⟨_, _, _, rfl, o, r⟩ := a.lst_inv
      have hlen := r.length
      refine PyProof.Rows.len_list (isList_of I o) (by simp; omega) ⟨led, fun _ h => h, ?_, I.with _⟩
      rw [show (_ : Array Value).size = _ from List.size_toArray .., hlen]; exact .int _ _
    · cases h
  · cases h
theorem rE_min {e1 e2 : Expr} {f1 f2 : EF} {xp pos : Pos} (k : c.Ok) (r : RefEs c [e1, e2] [f1, f2]) (hx : c.env.kindOf "min" = some .globalImplicit) (hg : nsIn c.K mainGlobals "min" = some none) : RefE c (.Call (.Name "min" xp) [e1, e2] [] pos) (eFun gMin [f1, f2]) := by
  refine rE_builtin k r (by simp) hg (id := "min") (by rfl) (by decide) hx (by decide) ?_
  intro st led s us vs z I V h
  unfold gMin at h
  split at h
  · cases h
    obtain ⟨_, _, rfl, a, b⟩ := V.cons_inv
    obtain ⟨_, _, rfl, b1, b'⟩ := b.cons_inv
    obtain rfl := b'.nil_inv
    obtain ⟨_, rfl⟩ := a.int_inv; obtain ⟨_, rfl⟩ := b1.int_inv
    obtain ⟨m, part, fo, F, N, hS, hL, hfo⟩ := I.ex
    refine min_two_N k.handled F N fun h' tk F' N' => ⟨led, fun _ h => h, .int _ _, ⟨⟨m, part, fo, F', N', hS, hL, hfo⟩, I.nf, I.cel, I.gens, I.os⟩⟩
  · cases h
theorem rE_ord {e : Expr} {f : EF} {xp pos : Pos} (k : c.Ok) (r : RefEs c [e] [f]) (hx : c.env.kindOf "ord" = some .globalImplicit) (hg : nsIn c.K mainGlobals "ord" = some none) : RefE c (.Call (.Name "ord" xp) [e] [] pos) (eFun gOrd [f]) := by
  refine rE_builtin k r (by simp) hg (id := "ord") (by rfl) (by decide) hx (by decide) ?_
  intro st led s us vs z I V h
  unfold gOrd at h
  split at h
  · rename_i d
    cases h
    obtain ⟨_, _, rfl, a, b⟩ := V.cons_inv
    obtain rfl := b.nil_inv
    generalize hq : ([d] : List Nat) = y at a
    obtain ⟨x, t, rfl, rfl⟩ := a.str_inv
    have hx : x = toS [d] := by rw [hq, toS_of]
    subst hx
    refine ord_of_one (by rfl) ⟨led, fun _ h => h, .int _ _, I.with _⟩
  · cases h
noncomputable def eNeg (f : EF) : EF := fun st => match f st with | some (.int i, st') => some (.int (-i), st') | _ => none
theorem rE_neg {e : Expr} {f : EF} {pos : Pos} (h : RefE c e f) : RefE c (.UnaryOp .USub e pos) (eNeg f) := by
  intro st led s v st' I hv
  unfold eNeg at hv
  split at hv
  · rename_i i st1 h1
    cases hv
    refine wpAny_UnaryOp (wpAny_mono (h st led s _ _ I h1) ?_ fun _ _ e => e.elim)
    rintro u s1 ⟨led1, k1, V1, I1⟩
    obtain ⟨_, rfl⟩ := V1.int_inv
    exact PyProof.Rows.neg_int ⟨led1, k1, .int _ _, I1.with _⟩
  · cases hv
noncomputable def eT (f : TF) : EF := fun st => (f st).map fun p => (.bool p.1, p.2)
noncomputable def eNot (f : EF) : EF := fun st => match f st with | some (.bool b, st') => some (.bool (!b), st') | _ => none
theorem rE_not {e : Expr} {f : EF} {pos : Pos} (h : RefE c e f) : RefE c (.UnaryOp .Not e pos) (eNot f) := by
  intro st led s v st' I hv
  unfold eNot at hv
  split at hv
  · rename_i b st1 h1
    cases hv
    refine wpAny_UnaryOp (wpAny_mono (h st led s _ _ I h1) ?_ fun _ _ e => e.elim)
    rintro u s1 ⟨led1, k1, V1, I1⟩
    obtain rfl := V1.bool_inv
    exact not_of (wpAny_truthy_bool ⟨led1, k1, .bool _, I1⟩)
  · cases hv
noncomputable def eAnd (f g : EF) : EF := fun st => match f st with
  | some (.bool true, st') => g st'
  | some (.bool false, st') => some (.bool false, st')
  | _ => none
theorem rE_and1 {e : Expr} {f : EF} {op : BoolOp} {pos : Pos} (h : RefE c e f) : RefE c (.BoolOp op [e] pos) f := fun st led s v st' I hv => BoolOp_one (h st led s v st' I hv)
theorem rE_and {e1 e2 : Expr} {r : List Expr} {f g : EF} {pos : Pos} (hf : RefE c e1 f) (hg : RefE c (.BoolOp .And (e2 :: r) pos) g) : RefE c (.BoolOp .And (e1 :: e2 :: r) pos) (eAnd f g) := by
  intro st led s v st' I hv
  unfold eAnd at hv
  split at hv
  · rename_i st1 h1
    refine BoolOp_and (wpAny_mono (hf st led s _ _ I h1) ?_ fun _ _ e => e.elim)
    rintro u s1 ⟨led1, k1, V1, I1⟩
    obtain rfl := V1.bool_inv
    refine wpAny_truthy_bool ?_
    rw [if_pos rfl]
    refine wpAny_mono (hg st1 led1 s1 v st' I1 hv) ?_ fun _ _ e => e.elim
    rintro u s2 ⟨led2, k2, V2, I2⟩
    exact ⟨led2, fun p hp => k2 p (k1 p hp), V2, I2⟩
  · rename_i st1 h1
    cases hv
    refine BoolOp_and (wpAny_mono (hf st led s _ _ I h1) ?_ fun _ _ e => e.elim)
    rintro u s1 ⟨led1, k1, V1, I1⟩
    obtain rfl := V1.bool_inv
    refine wpAny_truthy_bool ?_
    rw [if_neg (by decide)]
    exact ⟨led1, k1, .bool _, I1⟩
  · cases hv
noncomputable def tAnd (f g : TF) : TF := fun st => (f st).bind fun p => if p.1 then g p.2 else some (false, p.2)
noncomputable def tOr (f g : TF) : TF := fun st => (f st).bind fun p => if p.1 then some (true, p.2) else g p.2
noncomputable def tK (b : Bool) : TF := fun st => some (b, st)
theorem rT_and0 {pos : Pos} : RefT c (.BoolOp .And [] pos) (tK true) := by
  intro st led s v st' I hv
  cases hv
  exact isTrue_and_nil ⟨led, fun _ h => h, rfl, I⟩
theorem rT_or0 {pos : Pos} : RefT c (.BoolOp .Or [] pos) (tK false) := by
  intro st led s v st' I hv
  cases hv
  exact isTrue_or_nil ⟨led, fun _ h => h, rfl, I⟩
theorem rT_and {e : Expr} {r : List Expr} {f g : TF} {pos : Pos} (hf : RefT c e f) (hg : RefT c (.BoolOp .And r pos) g) : RefT c (.BoolOp .And (e :: r) pos) (tAnd f g) := by
  intro st led s v st' I hv
  unfold tAnd at hv
  obtain ⟨⟨b, st1⟩, h1, h2⟩ := Option.bind_eq_some_iff.mp hv
  refine isTrue_and (wpAny_mono (hf st led s _ _ I h1) ?_ fun _ _ e => e.elim)
  rintro u s1 ⟨led1, k1, rfl, I1⟩
  cases u with
  | true =>
    rw [if_pos rfl]
    refine wpAny_mono (hg st1 led1 s1 v st' I1 h2) ?_ fun _ _ e => e.elim
    rintro u s2 ⟨led2, k2, V2, I2⟩
    exact ⟨led2, fun p hp => k2 p (k1 p hp), V2, I2⟩
  | false =>
    cases h2
    rw [if_neg (by decide)]
    exact ⟨led1, k1, rfl, I1⟩
theorem rT_or {e : Expr} {r : List Expr} {f g : TF} {pos : Pos} (hf : RefT c e f) (hg : RefT c (.BoolOp .Or r pos) g) : RefT c (.BoolOp .Or (e :: r) pos) (tOr f g) := by
  intro st led s v st' I hv
  unfold tOr at hv
  obtain ⟨⟨b, st1⟩, h1, h2⟩ := Option.bind_eq_some_iff.mp hv
  refine isTrue_or (wpAny_mono (hf st led s _ _ I h1) ?_ fun _ _ e => e.elim)
  rintro u s1 ⟨led1, k1, rfl, I1⟩
  cases u with
  | false =>
    rw [if_neg (by decide)]
    refine wpAny_mono (hg st1 led1 s1 v st' I1 h2) ?_ fun _ _ e => e.elim
    rintro u s2 ⟨led2, k2, V2, I2⟩
    exact ⟨led2, fun p hp => k2 p (k1 p hp), V2, I2⟩
  | true =>
    cases h2
    rw [if_pos rfl]
    exact ⟨led1, k1, rfl, I1⟩
noncomputable def eIf (t : TF) (f g : EF) : EF := fun st => (t st).bind fun p => if p.1 then f p.2 else g p.2
theorem rE_if {t a b : Expr} {ft : TF} {f g : EF} {pos : Pos} (ht : RefT c t ft) (hf : RefE c a f) (hg : RefE c b g) : RefE c (.IfExp t a b pos) (eIf ft f g) := by
  intro st led s v st' I h
  unfold eIf at h
  obtain ⟨⟨b, st1⟩, h1, h2⟩ := Option.bind_eq_some_iff.mp h
  refine wpAny_IfExp (wpAny_mono (ht st led s b st1 I h1) ?_ fun _ _ e => e.elim)
  rintro b' s1 ⟨led1, k1, rfl, I1⟩
  cases b' with
  | true =>
    rw [if_pos rfl]
    refine wpAny_mono (hf st1 led1 s1 v st' I1 h2) ?_ fun _ _ e => e.elim
    rintro u s2 ⟨led2, k2, V2, I2⟩
    exact ⟨led2, fun p hp => k2 p (k1 p hp), V2, I2⟩
  | false =>
    rw [if_neg (by decide)]
    refine wpAny_mono (hg st1 led1 s1 v st' I1 h2) ?_ fun _ _ e => e.elim
    rintro u s2 ⟨led2, k2, V2, I2⟩
    exact ⟨led2, fun p hp => k2 p (k1 p hp), V2, I2⟩
noncomputable def eList (fs : List EF) : EF := fun st => (evs fs st).map fun p => (.lst p.1, p.2)
noncomputable def eTup (fs : List EF) : EF := fun st => (evs fs st).map fun p => (.tup p.1, p.2)
theorem NF_seq (cl : Value) (vs : Array Value) (n : Nat) : NF { cls := cl, data := .seq vs n } := ⟨fun _ e => (by cases e), fun _ _ e => (by cases e)⟩
theorem rE_list (k : c.Ok) {es : List Expr} {fs : List EF} {pos : Pos} (r : RefEs c es fs) (hl : fs.length ≤ 1000) : RefE c (.List es pos) (eList fs) := by
  intro st led s v st' I h
  unfold eList at h
  obtain ⟨⟨vs, st1⟩, h1, h2⟩ := Option.map_eq_some_iff.mp h
  cases h2
  refine List_ (wpAny_mono (r.run I h1) ?_ fun _ _ e => e.elim)
  rintro us s1 ⟨led1, k1, V1, I1⟩
  have hlen : us.length ≤ 1000 := by
    rw [V1.length]
    have : ∀ {fs : List EF} {st vs st1}, evs fs st = some (vs, st1) → vs.length = fs.length := by
      intro fs
      induction fs with
      | nil => intro st vs st1 h; cases h; rfl
      | cons f fs ih =>
        intro st vs st1 h
        unfold evs at h
        obtain ⟨p, _, h⟩ := Option.bind_eq_some_iff.mp h
        obtain ⟨⟨q, _⟩, hq, h⟩ := Option.map_eq_some_iff.mp h
        cases h
        simp [ih hq]
    rw [this h1]; exact hl
  refine wpAny_newObj_type ?_ (by show us.toArray.size ≤ sizeLine; rw [List.size_toArray, sizeLine_eq]; omega)
  have I2 := I1.pushed k { cls := .type "list", data := .seq us.toArray } s1.toks (NF_seq _ _ _) rfl
  exact ⟨_, fun p hp => .tail _ (k1 p hp), .lst (.inl (.head _)) (V1.mono (O_mono fun p hp => .tail _ hp)), I2⟩
end
end Mine
end
section
open PySem PySem.W PyProof.Rows PySem.Calls
namespace Mine
noncomputable def IterCls (K : Value) : Prop := K ≠ .type "list" ∧ K ≠ .type "tuple" ∧ K ≠ .type "dict" ∧ K ≠ .type "set" ∧ K ≠ .ref 220 ∧ K ≠ .ref 527
section
variable {P : Params} {x : Option (Addr × Addr)} {O O' : Addr → Obj → Prop} {K : Value}
theorem VR.monoI (hK : IterCls K) (h : ∀ a o, o.cls ≠ K → O a o → O' a o) {v : Value} {a : AV} (r : VR P x O v a) : VR P x O' v a := r.monoG fun a o hv => h a o (by
  cases hv
  · exact hK.1.symm
  · exact hK.2.1.symm
  · exact hK.2.2.2.2.1.symm
  · exact hK.2.2.1.symm
  · exact hK.2.2.2.1.symm)
end
section
variable {c : Cx}
noncomputable def without (I : Addr) (led : List (Addr × Obj)) : List (Addr × Obj) := led.filter fun p => p.1 != I
theorem mem_without {I : Addr} {led : List (Addr × Obj)} {p : Addr × Obj} : p ∈ without I led ↔ p ∈ led ∧ p.1 ≠ I := by
  unfold without
  rw [List.mem_filter, bne_iff_ne]
theorem O_swap {st : St} {led new : List (Addr × Obj)} {s : Shared} {I : Addr} {o : Obj} (V : Inv c st led s) (hm : (I, o) ∈ led) : ∀ a o', o'.cls ≠ o.cls → c.O led a o' → c.O (new ++ without I led) a o' := fun a o' hc h => by
  obtain ⟨m, part, fo, F, N, hS, hL, hfo⟩ := V.ex
  have NI := N (I, o) (List.mem_append_right _ (List.mem_append_left _ hm))
  rcases h with h | h
  · refine .inl (List.mem_append_right _ (mem_without.mpr ⟨h, fun e => hc ?_⟩))
    have := (N (a, o') (List.mem_append_right _ (List.mem_append_left _ h))).1
    rw [show a = I from e, NI.1] at this
    cases this; rfl
  · exact .inr h
theorem Inv.swapG {st : St} {led new : List (Addr × Obj)} {s : Shared} {I : Addr} {o : Obj} (k : c.Ok) (V : Inv c st led s) (hm : (I, o) ∈ led) (hK : ∀ dx, o ≠ instO dx)
    (hls : ∀ (i : Nat) a, st.ls[i]? = some (some a) → ∀ v, c.V led v a → c.V (new ++ without I led) v a) (hfs : c.self ≠ none → ∀ v a, c.V led v a → c.V (new ++ without I led) v a)
    (hcv : ∀ v, st.cv = some v → (∀ u, o.data ≠ .cell u) ∧ ∀ u, c.V led u v → c.V (new ++ without I led) u v) {h' : Heap} (tk : Nat)
    (hk : ∀ b o', b ≠ I → s.heap.get? b = some o' → h'.get? b = some o') (hnew : ∀ p ∈ new, p.1 = I ∧ h'.get? p.1 = some p.2 ∧ NF p.2) : Inv c st (new ++ without I led) { s with heap := h', toks := tk } := by
  obtain ⟨m, part, fo, F, N, hS, hL, hfo⟩ := V.ex
  have NI := N (I, o) (List.mem_append_right _ (List.mem_append_left _ hm))
  have hb0 : ∀ b o', c.b0.get? b = some o' → b ≠ I := fun b o' q e => by
    rw [e, NI.2.2] at q; cases q
  refine ⟨⟨m, part, fo, ⟨?_, fun b o' q => hk _ _ (hb0 b o' q) (F.keep b o' q), F.above⟩, fun p hp => ?_, ?_, fun i a ha => ?_, hfo⟩, fun p hp => ?_, fun v h => ?_, V.gens, V.os⟩
  · obtain ⟨oL, es, ep, ho, r⟩ := F.ns
    exact ⟨oL, es, ep, hk _ _ (Ne.symm NI.2.1) ho, r⟩
  · rcases List.mem_append.mp hp with hp | hp
    · have h0 := N p (List.mem_append_left _ hp)
      refine ⟨hk _ _ (fun e => ?_) h0.1, h0.2⟩
      unfold Cx.SelfR at hS
      cases hs : c.self with
      | none => rw [hs] at hS; rw [hS.1] at hp; cases hp
      | some xd =>
        obtain ⟨x, dx⟩ := xd
        rw [hs] at hS
        obtain ⟨es, n, rfl, _, _, hap⟩ := hS
        rcases List.mem_singleton.mp hp with rfl
        exact hap _ hm e.symm
    · rcases List.mem_append.mp hp with hp | hp
      · rcases List.mem_append.mp hp with hp | hp
        · obtain ⟨e, g, _⟩ := hnew p hp
          exact ⟨g, e ▸ NI.2.1, e ▸ NI.2.2⟩
        · obtain ⟨hp, hne⟩ := mem_without.mp hp
          have h0 := N p (List.mem_append_right _ (List.mem_append_left _ hp))
          exact ⟨hk _ _ hne h0.1, h0.2⟩
      · have h0 := N p (List.mem_append_right _ (List.mem_append_right _ hp))
        refine ⟨hk _ _ (fun e => ?_) h0.1, h0.2⟩
        obtain ⟨f, hf, _, e2⟩ := hfo.get p hp
        obtain ⟨es, ep, e3⟩ := frsDict k.frsOk f hf
        rw [e, NI.1] at h0
        obtain ⟨h0, _⟩ := h0
        cases h0
        exact (V.nf _ hm).2 _ _ (e2.trans e3)
  · unfold Cx.SelfR at hS ⊢
    cases hs : c.self with
    | none => rw [hs] at hS; exact hS
    | some xd =>
      obtain ⟨x, dx⟩ := xd
      rw [hs] at hS
      obtain ⟨es, n, rfl, hd, hx, hap⟩ := hS
      refine ⟨es, n, rfl, hd.mono fun v a h => hfs (by rw [hs]; exact fun e => by cases e) v a h, List.mem_append_right _ (mem_without.mpr ⟨hx, fun e => ?_⟩), fun p hp => ?_⟩
      · have := (N _ (List.mem_append_right _ (List.mem_append_left _ hx))).1
        rw [show x = I from e, NI.1] at this
        have e2 : o = instO dx := Option.some.inj this
        exact hK _ e2
      · rcases List.mem_append.mp hp with hp | hp
        · rw [(hnew p hp).1]; exact hap _ hm
        · exact hap p (mem_without.mp hp).1
  · obtain ⟨y, v, h1, h2, h3⟩ := hL i a ha
    exact ⟨y, v, h1, h2, hls i a ha v h3⟩
  · rcases List.mem_append.mp hp with hp | hp
    · exact (hnew p hp).2.2
    · exact V.nf p (mem_without.mp hp).1
  · obtain ⟨n, a, o', u, z1, z2, z3, z4⟩ := V.cel v h
    obtain ⟨hcd, hcm⟩ := hcv v h
    refine ⟨n, a, o', u, z1, List.mem_append_right _ (mem_without.mpr ⟨z2, fun e => ?_⟩), z3, hcm _ z4⟩
    have := (N _ (List.mem_append_right _ (List.mem_append_left _ z2))).1
    rw [show a = I from e, NI.1] at this
    cases this
    exact hcd _ z3
theorem Inv.swap {st : St} {led new : List (Addr × Obj)} {s : Shared} {I : Addr} {o : Obj} (k : c.Ok) (V : Inv c st led s) (hm : (I, o) ∈ led) (hK : IterCls o.cls) (hcd : st.cv = none ∨ ∀ u, o.data ≠ .cell u) {h' : Heap} (tk : Nat)
    (hk : ∀ b o', b ≠ I → s.heap.get? b = some o' → h'.get? b = some o') (hnew : ∀ p ∈ new, p.1 = I ∧ h'.get? p.1 = some p.2 ∧ NF p.2) : Inv c st (new ++ without I led) { s with heap := h', toks := tk } :=
  have hOm := O_swap (new := new) V hm
  V.swapG k hm (fun dx e => hK.2.2.2.2.2 (by rw [e])) (fun i a _ v h => h.monoI hK hOm) (fun _ v a h => h.monoI hK hOm) (fun v hv => ⟨fun u e => by
    rcases hcd with hcd | hcd
    · rw [hcd] at hv; cases hv
    · exact hcd u e, fun u h => h.monoI hK hOm⟩) tk hk hnew
noncomputable def forL (i : Nat) (f : SF) : List AV → SF
  | [] => fun st => some (.next, st)
  | a :: as => fun st => match f (setL st i a) with
    | some (.next, st') => forL i f as st'
    | some (.cont, st') => forL i f as st'
    | some (.brk, st') => some (.next, st')
    | r => r
theorem for_run (k : c.Ok) {i : Nat} {x : Str} {px : Pos} {body : List Stmt} {f : SF} (hx : c.names[i]? = some x) (hf : RefSs c body f) {xs : List AV} {led0 : List (Addr × Obj)} {I : Addr} {Sh : Nat → Obj → Prop}
    (hSt : ∀ j o, Sh j o → IterCls o.cls ∧ NF o ∧ ∀ u, o.data ≠ .cell u)
    (next : ∀ j st s led₁ o (Q : Option Value → Shared → Prop) (E : Value → Shared → Prop), j ≤ xs.length → (∀ p ∈ led0, p ∈ led₁) → (I, o) ∈ led₁ → Inv c st led₁ s → Sh j o →
      (match xs[j]? with
        | some a => ∀ v h' tk o', (∀ b o, b ≠ I → s.heap.get? b = some o → h'.get? b = some o) → h'.get? I = some o' → Sh (j + 1) o' → c.V led0 v a → Q (some v) { s with heap := h', toks := tk }
        | none => ∀ h' tk, (∀ b o, b ≠ I → s.heap.get? b = some o → h'.get? b = some o) → Q none { s with heap := h', toks := tk }) →
      wpAny c.M c.A (pyNext (.ref I)) Q E s)
    (hI : ∀ p ∈ led0, p.1 ≠ I) {st : St} {s : Shared} {o : Obj} (V0 : Inv c st ((I, o) :: led0) s) (h0 : Sh 0 o) {r : FL} {st' : St} (h : forL i f xs st = some (r, st')) :
    codeAny c.M c.A (.forLoop (.Name x px) (.ref I) body [] c.env) (fun r1 s' => match r1 with | .ok fl => PostQ c led0 r st' fl s' | .error e => cameBackBy c.M c.A c.env (PostE c led0 r st') e s') s := by
  refine codeAny_forLoop (fun n s₁ => ∃ j st₁ led₁ o₁, j ≤ xs.length ∧ n = xs.length + 1 - j ∧ (∀ p ∈ led0, p ∈ led₁) ∧ (I, o₁) ∈ led₁ ∧ Inv c st₁ led₁ s₁ ∧ Sh j o₁ ∧ forL i f (xs.drop j) st₁ = some (r, st')) ?_ (xs.length + 1)
    ⟨0, st, _, o, Nat.zero_le _, rfl, fun p hp => .tail _ hp, .head _, V0, h0, h⟩
  clear h V0 h0
  rintro n s₁ ⟨j, st₁, led₁, o₁, hj, rfl, k₁, hm, V, hs, h⟩
  refine next j st₁ s₁ led₁ o₁ _ _ hj k₁ hm V hs ?_
  cases hq : xs[j]? with
  | none =>
    intro h' tk hk
    have hlen : xs.length ≤ j := by simpa using hq
    rw [List.drop_eq_nil_of_le hlen] at h
    cases h
    have V' := V.swap (new := []) k hm (hSt _ _ hs).1 (.inr (hSt _ _ hs).2.2) tk hk (fun _ h => nomatch h)
    exact wpAny_execs_nil ⟨_, fun p hp => mem_without.mpr ⟨k₁ p hp, hI p hp⟩, rfl, V'⟩
  | some a =>
    intro v h' tk o' hk hg hs' hv
    have hlt : j < xs.length := (List.getElem?_eq_some_iff.mp hq).1
    have V' := V.swap (new := [(I, o')]) k hm (hSt _ _ hs).1 (.inr (hSt _ _ hs).2.2) tk hk (fun p hp => by
      rcases List.mem_singleton.mp hp with rfl
      exact ⟨rfl, hg, (hSt _ _ hs').2.1⟩)
    have kk : ∀ p ∈ led0, p ∈ [(I, o')] ++ without I led₁ := fun p hp => List.mem_append_right _ (mem_without.mpr ⟨k₁ p hp, hI p hp⟩)
    rw [List.drop_eq_getElem_cons hlt] at h
    have ha : xs[j] = a := (List.getElem?_eq_some_iff.mp hq).2
    rw [ha] at h
    unfold forL at h
    refine wpAny_assign_Name (set_loc k V' hx (hv.mono (O_mono kk)) fun s2 V2 => ?_)
    cases hq2 : f (setL st₁ i a) with
    | none => rw [hq2] at h; cases h
    | some p =>
      obtain ⟨r3, st3⟩ := p
      rw [hq2] at h
      have go : forL i f (xs.drop (j + 1)) st3 = some (r, st') → ∀ s3 led3, (∀ p ∈ [(I, o')] ++ without I led₁, p ∈ led3) → Inv c st3 led3 s3 →
          ∃ m, m < xs.length + 1 - j ∧ ∃ j st₁ led₁ o₁, j ≤ xs.length ∧ m = xs.length + 1 - j ∧ (∀ p ∈ led0, p ∈ led₁) ∧ (I, o₁) ∈ led₁ ∧ Inv c st₁ led₁ s3 ∧ Sh j o₁ ∧ forL i f (xs.drop j) st₁ = some (r, st') :=
        fun hh s3 led3 k3 V3 => ⟨xs.length + 1 - (j + 1), by omega, j + 1, st3, led3, o', hlt, rfl, fun p hp => k3 p (kk p hp), k3 _ (.head _), V3, hs', hh⟩
      cases r3 with
      | next =>
        refine wpAny_mono (hf _ _ s2 _ _ V2 hq2) ?_ ?_
        · rintro fl s3 ⟨led3, k3, rfl, I3⟩
          exact go h s3 led3 k3 I3
        · rintro e s3 ⟨_, _, hx, _⟩; exact hx.elim
      | cont =>
        refine wpAny_mono (hf _ _ s2 _ _ V2 hq2) ?_ ?_
        · rintro fl s3 ⟨led3, k3, rfl, I3⟩
          exact go h s3 led3 k3 I3
        · rintro e s3 ⟨_, _, hx, _⟩; exact hx.elim
      | brk =>
        cases h
        refine wpAny_mono (hf _ _ s2 _ _ V2 hq2) ?_ ?_
        · rintro fl s3 ⟨led3, k3, rfl, I3⟩
          exact ⟨led3, fun p hp => k3 p (kk p hp), rfl, I3⟩
        · rintro e s3 ⟨_, _, hx, _⟩; exact hx.elim
      | ret v =>
        cases h
        refine wpAny_mono (hf _ _ s2 _ _ V2 hq2) ?_ ?_
        · rintro fl s3 ⟨led3, k3, ⟨u, rfl, hv⟩, I3⟩
          exact ⟨led3, fun p hp => k3 p (kk p hp), ⟨u, rfl, hv⟩, I3⟩
        · rintro e s3 ⟨_, _, hx, _⟩; exact hx.elim
      | exc C =>
        cases h
        refine wpAny_mono (hf _ _ s2 _ _ V2 hq2) ?_ ?_
        · rintro fl s3 ⟨led3, k3, hx, I3⟩; exact hx.elim
        · intro e s3 hp
          exact passes k e s3 (hp.grow kk)
noncomputable def sForL (i : Nat) (e : EF) (f : SF) : SF := fun st => (e st).bind fun p => match p.1 with
  | .lst xs => forL i f xs p.2
  | .str x => forL i f (x.map fun d => .str [d]) p.2
  | _ => none
theorem iterCls_of {n : String} (h : n ≠ "list" ∧ n ≠ "tuple" ∧ n ≠ "dict" ∧ n ≠ "set") : IterCls (.type n) :=
  ⟨fun e => h.1 (Value.type.inj e), fun e => h.2.1 (Value.type.inj e), fun e => h.2.2.1 (Value.type.inj e), fun e => h.2.2.2 (Value.type.inj e), fun e => (by cases e), fun e => (by cases e)⟩
theorem NF_iter {o : Obj} {n : String} {vs : Array Value} (hc : o.cls = .type n) (hd : o.data = .fields vs) (hs : vs.size ≤ 3) : NF o :=
  ⟨fun ws e => ⟨by rw [hd] at e; cases e; exact hs, n, hc⟩, fun es m e => by rw [hd] at e; cases e⟩
theorem heap_get {st : St} {led : List (Addr × Obj)} {s : Shared} {a : Addr} {o : Obj} (I : Inv c st led s) (h : (a, o) ∈ led) : s.heap.get? a = some o := I.heapO (.inl h)
theorem rS_for (k : c.Ok) (i : Nat) {tx : Str} {px pos : Pos} {it : Expr} {body : List Stmt} {e : EF} {f : SF} (hx : c.names[i]? = some tx) (he : RefE c it e) (hf : RefSs c body f)
    (hs : ∀ x, foldedSetIterable it c.env x = pure x := by intro _; rfl) : RefS c (.For (.Name tx px) it body [] pos) (sForL i e f) := by
  intro st led s r st' I h
  unfold sForL at h
  obtain ⟨⟨a, st1⟩, h1, h2⟩ := Option.bind_eq_some_iff.mp h
  refine wpAny_For (wpAny_mono (he st led s a st1 I h1) ?_ fun _ _ e => e.elim) hs
  rintro u s1 ⟨led1, k1, V1, I1⟩
  have lift : ∀ (C : Code) s2, codeAny c.M c.A C (fun r1 s' => match r1 with | .ok fl => PostQ c led1 r st' fl s' | .error e => cameBackBy c.M c.A c.env (PostE c led1 r st') e s') s2 →
      codeAny c.M c.A C (fun r1 s' => match r1 with | .ok fl => PostQ c led r st' fl s' | .error e => cameBackBy c.M c.A c.env (PostE c led r st') e s') s2 := fun C s2 hh => by
    refine codeAny_mono hh fun r1 s' hr => ?_
    cases r1 with
    | ok fl => exact hr.grow k1
    | error e => exact wpAny_mono hr (fun _ _ x => x.grow k1) fun _ _ x => x.grow k1
  have fresh : ∀ p ∈ led1, p.1 ≠ s1.heap.objs.size := fun p hp => Nat.ne_of_lt (Heap.lt_size (heap_get I1 hp))
  dsimp only at h2
  split at h2
  · rename_i xs
    obtain ⟨_, _, _, rfl, o, r0⟩ := V1.lst_inv
    rename_i ad vs n
    refine wpAny_pyIter_list (isList_of I1 o) (lift _ _ ?_)
    have I2 := I1.pushed k { cls := .type "list_iterator", data := .fields #[.ref ad, .int 0 0] } s1.toks (NF_iter rfl rfl (by simp)) rfl
    refine for_run k hx hf (Sh := fun j o => o.cls = .type "list_iterator" ∧ o.data = .fields #[.ref ad, .int j 0]) (fun j o ⟨h1, h2⟩ => ⟨h1 ▸ iterCls_of (by decide), NF_iter h1 h2 (by simp), fun u e => by rw [h2] at e; cases e⟩) ?_ fresh I2 ⟨rfl, rfl⟩ h2
    intro j st2 s2 led2 o2 Q E hj k2 hm I3 hs hQ
    have hit : s2.heap.IsListIter s1.heap.objs.size ad j := ⟨o2, heap_get I3 hm, hs⟩
    have hl : s2.heap.IsList ad vs.toArray := isList_of I3 (O_mono k2 _ _ o)
    cases hq : xs[j]? with
    | some a =>
      rw [hq] at hQ
      obtain ⟨v, hv, hV⟩ := r0.get hq
      refine wpAny_pyNext_list_item hit hl (x := v) (by simpa using hv) fun h' ⟨o', g1, g2⟩ g3 => ?_
      exact hQ v h' s2.toks o' (fun b o hb e => (g3.2 b hb).trans e) g1 ⟨g2.1, by rw [g2.2]⟩ hV
    | none =>
      rw [hq] at hQ
      refine wpAny_pyNext_list_end k.handled hit hl (by have := r0.length; simp at hq ⊢; omega) fun h' g => hQ h' s2.toks fun b o hb e => g b o hb e
  · rename_i xl
    generalize hxl : xl = y at V1
    obtain ⟨x, t, rfl, rfl⟩ := V1.str_inv
    subst hxl
    have main : ∀ (ty : String) (hty : ty ≠ "list" ∧ ty ≠ "tuple" ∧ ty ≠ "dict" ∧ ty ≠ "set"),
        (∀ (s2 : Shared) (j d : Nat) (Q : Option Value → Shared → Prop) (E : Value → Shared → Prop), s2.heap.IsStrIter s1.heap.objs.size ty x t j → x.cps[j]? = some d → (∀ h', h'.IsStrIter s1.heap.objs.size ty x t (j + 1) → Heap.SameBut s1.heap.objs.size s2.heap h' → Q (some (.str ⟨#[d]⟩ s2.toks)) { s2 with heap := h', toks := s2.toks + 1 }) → wpAny c.M c.A (pyNext (.ref s1.heap.objs.size)) Q E s2) →
        (∀ (s2 : Shared) (j : Nat) (Q : Option Value → Shared → Prop) (E : Value → Shared → Prop), s2.heap.IsStrIter s1.heap.objs.size ty x t j → x.cps[j]? = none → (∀ h', Heap.ExtBut s1.heap.objs.size s2.heap h' → Q none { s2 with heap := h' }) → wpAny c.M c.A (pyNext (.ref s1.heap.objs.size)) Q E s2) →
        codeAny c.M c.A (.forLoop (.Name tx px) (.ref s1.heap.objs.size) body [] c.env) (fun r1 s' => match r1 with | .ok fl => PostQ c led r st' fl s' | .error e => cameBackBy c.M c.A c.env (PostE c led r st') e s') { s1 with heap := s1.heap.push { cls := .type ty, data := .fields #[.str x t, .int 0 0] } } := by
      intro ty hty hnx hen
      refine lift _ _ ?_
      have I2 := I1.pushed k { cls := .type ty, data := .fields #[.str x t, .int 0 0] } s1.toks (NF_iter rfl rfl (by simp)) rfl
      refine for_run k hx hf (Sh := fun j o => o.cls = .type ty ∧ o.data = .fields #[.str x t, .int j 0]) (fun j o ⟨h1, h2⟩ => ⟨h1 ▸ iterCls_of hty, NF_iter h1 h2 (by simp), fun u e => by rw [h2] at e; cases e⟩) ?_ fresh I2 ⟨rfl, rfl⟩ h2
      intro j st2 s2 led2 o2 Q E hj k2 hm I3 hs hQ
      have hit : s2.heap.IsStrIter s1.heap.objs.size ty x t j := ⟨o2, heap_get I3 hm, hs⟩
      rw [List.getElem?_map] at hQ
      cases hq : x.cps.toList[j]? with
      | some d =>
        rw [hq] at hQ
        refine hnx s2 j d Q E hit (by rw [← Array.getElem?_toList]; exact hq) fun h' ⟨o', g1, g2⟩ g3 => ?_
        exact hQ _ h' _ o' (fun b o hb e => (g3.2 b hb).trans e) g1 ⟨g2.1, by rw [g2.2]⟩ (.str ⟨#[d]⟩ _)
      | none =>
        rw [hq] at hQ
        refine hen s2 j Q E hit (by rw [← Array.getElem?_toList]; exact hq) fun h' g => hQ h' s2.toks fun b o hb e => g b o hb e
    cases ha : x.cps.all (· < 128) with
    | true => exact wpAny_pyIter_ascii ha (main "str_ascii_iterator" (by decide) (fun s2 j d Q E a b q => wpAny_pyNext_ascii_item a b q) fun s2 j Q E a b q => wpAny_pyNext_ascii_end k.handled a b q)
    | false => exact wpAny_pyIter_wide ha (main "str_iterator" (by decide) (fun s2 j d Q E a b q => wpAny_pyNext_wide_item a b q) fun s2 j Q E a b q => wpAny_pyNext_wide_end k.handled a b q)
  · cases h2
end
end Mine
end
section
open PySem PySem.W PyProof.Rows PySem.Calls
namespace Mine
section
variable {c : Cx}
noncomputable def sForR (i : Nat) (e1 e2 e3 : EF) (f : SF) : SF := fun st => (evs [e1, e2, e3] st).bind fun p => match p.1 with
  | [.int a, .int b, .int d] => if b = -1 ∧ d = -1 ∧ -1 ≤ a ∧ a < 1000 then forL i f ((List.range (a + 1).toNat).map fun (j : Nat) => .int (a - (j : Int))) p.2 else none
  | _ => none
theorem rangeSize_down {a : Int} (h : -1 ≤ a) : Builtin.Range.rangeSize a (-1) (-1) = a + 1 := by
  unfold Builtin.Range.rangeSize
  simp only [show ¬ ((-1 : Int) > 0) by decide, if_false]
  split <;> first | omega | (simp only [Int.neg_neg, Int.ediv_one]; omega)
theorem small_down {a : Int} (h : -1 ≤ a) (h2 : a < 1000) : Builtin.Range.small a (-1) (-1) = true := by
  unfold Builtin.Range.small
  rw [rangeSize_down h]
  simp only [Builtin.Range.rangeFitsLong, Bool.and_eq_true, Bool.or_eq_true, decide_eq_true_eq, beq_iff_eq, show ¬ ((-1 : Int) > 0) by decide, if_false]
  first | omega | (split <;> omega) | (refine ⟨?_, ?_⟩ <;> omega)
theorem rS_forR (k : c.Ok) (i : Nat) {tx : Str} {px rp rpos pos : Pos} {a b d : Expr} {body : List Stmt} {e1 e2 e3 : EF} {f : SF} (hx : c.names[i]? = some tx) (he : RefEs c [a, b, d] [e1, e2, e3]) (hf : RefSs c body f)
    (hg : nsIn c.K mainGlobals "range" = some none) (hr : c.env.kindOf "range" = some .globalImplicit)
    (hs : ∀ x, foldedSetIterable (.Call (.Name "range" rp) [a, b, d] [] rpos) c.env x = pure x := by intro _; rfl) : RefS c (.For (.Name tx px) (.Call (.Name "range" rp) [a, b, d] [] rpos) body [] pos) (sForR i e1 e2 e3 f) := by
  intro st led s r st' I h
  unfold sForR at h
  obtain ⟨⟨vs, st1⟩, h1, h2⟩ := Option.bind_eq_some_iff.mp h
  dsimp only at h2
  split at h2
  · rename_i ai bi di
    split at h2
    · rename_i hc
      obtain ⟨rfl, rfl, h0, hlt⟩ := hc
      obtain ⟨m, part, fo, F, N, hS, hL, hfo⟩ := I.ex
      refine wpAny_For (wpAny_Call_NameR (nameX_B F k.X (topRead_of k.T) hg (by rfl) (by decide) ?_ k.kind hr)) hs
      cases he with | cons hh hsA rest =>
      have R := RefEs.cons hh hsA rest
      have hpl := R.plain (pos := rpos)
      rw [hsA] at hpl
      have run := R.run (pos := rpos) I h1
      rw [hsA] at run ⊢
      refine PyProof.Rows.callWith_type hpl (evalArgs_plain (wpAny_mono run ?_ fun _ _ e => e.elim))
      rintro us s1 ⟨led1, k1, V1, I1⟩
      obtain ⟨_, _, rfl, v1, Va⟩ := V1.cons_inv
      obtain ⟨_, _, rfl, v2, Vb⟩ := Va.cons_inv
      obtain ⟨_, _, rfl, v3, Vc⟩ := Vb.cons_inv
      obtain rfl := Vc.nil_inv
      obtain ⟨t1, rfl⟩ := v1.int_inv
      obtain ⟨t2, rfl⟩ := v2.int_inv
      obtain ⟨t3, rfl⟩ := v3.int_inv
      refine call_range_3 (by decide) ?_ (.inl (PyProof.noPylong_small (by decide)))
      have I2 := I1.pushed k { cls := .type "range", data := .fields #[.int ai t1, .int (-1) t2, .int (-1) t3] } s1.toks (NF_iter rfl rfl (by simp)) rfl
      refine wpAny_pyIter_range (IsRange.new ..) (small_down h0 hlt) ?_
      have I3 := I2.pushed k { cls := .type "range_iterator", data := .fields #[rawInt ai, rawInt (Builtin.Range.rangeSize ai (-1) (-1)), rawInt (-1)] } s1.toks (NF_iter rfl rfl (by simp)) rfl
      refine codeAny_mono (for_run k hx hf (led0 := _ :: led1) (Sh := fun j o => o = { cls := .type "range_iterator", data := .fields #[rawInt (ai + (j : Int) * (-1)), rawInt (Builtin.Range.rangeSize ai (-1) (-1) - j), rawInt (-1)] }) (fun j o h1 => ⟨h1 ▸ iterCls_of (by decide), NF_iter (congrArg Obj.cls h1) (congrArg Obj.data h1) (by simp), fun u e => by rw [h1] at e; cases e⟩) ?_ ?_ I3 ?_ h2) ?_
      · intro j st2 s2 led2 o2 Q E hj k2 hm I4 hso hQ
        rw [List.length_map, List.length_range] at hj
        have hit : IsRangeIter s2.heap _ (ai + (j : Int) * (-1)) (Builtin.Range.rangeSize ai (-1) (-1) - j) (-1) := hso ▸ heap_get I4 hm
        rw [List.getElem?_map] at hQ
        by_cases hjn : j < (ai + 1).toNat
        · rw [List.getElem?_range hjn] at hQ
          refine wpAny_pyNext_range_item hit (by rw [rangeSize_down h0]; omega) fun h' g1 g3 => ?_
          refine hQ _ h' _ _ (fun b o hb e => (g3.2 b hb).trans e) g1 ?_ ?_
          · rw [show ai + (j : Int) * (-1) + -1 = ai + ((j + 1 : Nat) : Int) * (-1) by omega, show Builtin.Range.rangeSize ai (-1) (-1) - (j : Int) - 1 = Builtin.Range.rangeSize ai (-1) (-1) - ((j + 1 : Nat) : Int) by omega]
          · rw [show ai + (j : Int) * (-1) = ai - j by omega]
            exact .int _ _
        · rw [List.getElem?_eq_none (by simp; omega)] at hQ
          refine wpAny_pyNext_range_end k.handled hit (by rw [rangeSize_down h0]; omega) fun h' g => hQ h' s2.toks fun b o hb e => g b o hb e
      · intro p hp
        exact Nat.ne_of_lt (Heap.lt_size (heap_get I2 hp))
      · show _ = _
        rw [show ai + ((0 : Nat) : Int) * (-1) = ai by omega, show Builtin.Range.rangeSize ai (-1) (-1) - ((0 : Nat) : Int) = Builtin.Range.rangeSize ai (-1) (-1) by omega]
      · intro r1 s' hr'
        have kk : ∀ p ∈ led, p ∈ ((s1.heap.objs.size, ({ cls := .type "range", data := .fields #[.int ai t1, .int (-1) t2, .int (-1) t3] } : Obj)) :: led1) := fun p hp => .tail _ (k1 p hp)
        cases r1 with
        | ok fl => exact hr'.grow kk
        | error e => exact wpAny_mono hr' (fun _ _ x => x.grow kk) fun _ _ x => x.grow kk
    · cases h2
  · cases h2
noncomputable def gAm (j : Nat) : AV → Option AV
  | .am s sub res => match j with
    | 0 => some (.str s)
    | 1 => some (.int sub)
    | _ => some (.int res)
  | _ => none
noncomputable def amNames : List Str := ["s", "substring_i", "result"]
theorem am_get {P : Params} {V : Value → AV → Prop} {s : Str} {a b k1 k2 k3 t : Tok} {sub res : Int} {O : Addr → Obj → Prop} {x : Option (Addr × Addr)} {j : Nat} {nm : Str} (hn : amNames[j]? = some nm) {z : AV} (hz : gAm j (.am s.cps.toList sub res) = some z) :
    ∃ v, getL nm [⟨PyData.keyHash P "s", .str "s" k1, .str s t⟩, ⟨PyData.keyHash P "substring_i", .str "substring_i" k2, .int sub a⟩, ⟨PyData.keyHash P "result", .str "result" k3, .int res b⟩] = some (some v) ∧ VR P x O v z := by
  match j, hn with
  | 0, hn => cases hn; cases hz; exact ⟨_, by rfl, .str _ _⟩
  | 1, hn => cases hn; cases hz; exact ⟨_, by rfl, .int _ _⟩
  | 2, hn => cases hn; cases hz; exact ⟨_, by rfl, .int _ _⟩
  | _ + 3, hn => cases hn
structure AmOk (P : Params) (nm : Str) : Prop where
  plain : plainGet (Kf P) 220 nm = true
  attr : ∃ a, findIn (Kf P) (.ref 220) nm = some a ∧ noGet (Kf P) a = true
theorem amDictP (P : Params) : hasDictIn (Kf P) 220 = true := by kernel_rfl
theorem am0 (P : Params) : AmOk P "s" := ⟨by kernel_rfl, ⟨none, by kernel_rfl, by kernel_rfl⟩⟩
theorem am1 (P : Params) : AmOk P "substring_i" := ⟨by kernel_rfl, ⟨none, by kernel_rfl, by kernel_rfl⟩⟩
theorem am2 (P : Params) : AmOk P "result" := ⟨by kernel_rfl, ⟨none, by kernel_rfl, by kernel_rfl⟩⟩
theorem amOk (P : Params) {j : Nat} {nm : Str} (hn : amNames[j]? = some nm) : AmOk P nm := by
  match j, hn with
  | 0, hn => cases hn; exact am0 P
  | 1, hn => cases hn; exact am1 P
  | 2, hn => cases hn; exact am2 P
  | _ + 3, hn => cases hn
noncomputable def eAm (j : Nat) (f : EF) : EF := fun st => (f st).bind fun p => (gAm j p.1).map fun z => (z, p.2)
theorem rE_am (k : c.Ok) (j : Nat) {x nm : Str} {xp pos : Pos} {f : EF} (he : RefE c (.Name x xp) f) (hn : amNames[j]? = some nm) : RefE c (.Attribute (.Name x xp) nm pos) (eAm j f) := by
  intro st led s v st' I h
  unfold eAm at h
  obtain ⟨⟨a, st1⟩, h1, h2⟩ := Option.bind_eq_some_iff.mp h
  obtain ⟨z, h3, h4⟩ := Option.map_eq_some_iff.mp h2
  cases h4
  refine Attribute_Name_ (wpAny_mono (he st led s a _ I h1) ?_ fun _ _ e => e.elim)
  rintro u s1 ⟨led1, k1, V1, I1⟩
  dsimp only at h3
  cases a with
  | am sl sub res =>
    generalize hsl : sl = y at V1
    obtain ⟨_, _, _, _, _, _, _, _, _, rfl, rfl, o1, o2⟩ := V1.am_inv
    subst hsl
    obtain ⟨m, part, fo, F, N, hS, hL, hfo⟩ := I1.ex
    obtain ⟨w, hw, hV⟩ := am_get (P := c.w.params) (V := c.V led1) (O := c.O led1) (x := c.self) hn h3
    have ok := amOk c.w.params hn
    obtain ⟨at_, g3, g4⟩ := ok.attr
    refine get_own F k.X (K := c.K) (C := 220) (es := _) (n := 3) (ox := _) ⟨I1.heapO o1, rfl, rfl, ?_⟩ ok.plain (amDictP _) g3 g4 hw hV.handed ⟨led1, k1, hV, I1.with _⟩
    exact I1.heapO o2
  | _ => simp [gAm] at h3
noncomputable def rdVs (f : Value → Option AV) : List Value → Option (List AV)
  | [] => some []
  | v :: r => (f v).bind fun a => (rdVs f r).map fun as => a :: as
theorem rdVs_ok {P : Params} {x : Option (Addr × Addr)} {O : Addr → Obj → Prop} {f : Value → Option AV} (hf : ∀ v a, f v = some a → VR P x O v a) : ∀ {vs : List Value} {as : List AV}, rdVs f vs = some as → VRs P x O vs as
  | [], _, h => by cases h; exact .nil
  | v :: r, as, h => by
    unfold rdVs at h
    obtain ⟨a, h1, h2⟩ := Option.bind_eq_some_iff.mp h
    obtain ⟨as', h3, h4⟩ := Option.map_eq_some_iff.mp h2
    cases h4
    exact .cons (hf _ _ h1) (rdVs_ok hf h3)
noncomputable def rdV (K : Frag) : Nat → Value → Option AV
  | _, .str s _ => some (.str s.cps.toList)
  | _, .int i _ => some (.int i)
  | n + 1, .ref a => match K.lookup a with
    | some ⟨.type t, none, .seq vs _, sl⟩ => if sl.toList.isEmpty then (if t == "list" then (rdVs (rdV K n) vs.toList).map .lst else if t == "tuple" then (rdVs (rdV K n) vs.toList).map .tup else none) else none
    | _ => none
  | _, _ => none
theorem rdV_ok {K : Frag} {P : Params} {x : Option (Addr × Addr)} {O : Addr → Obj → Prop} (hO : ∀ a o, K.lookup a = some o → O a o) : ∀ {n : Nat} {v : Value} {a : AV}, rdV K n v = some a → VR P x O v a
  | n, .str s t, a, h => by
    have : a = .str s.cps.toList := by cases n <;> (simp [rdV] at h; exact h.symm)
    subst this; exact .str _ _
  | n, .int i t, a, h => by
    have : a = .int i := by cases n <;> (simp [rdV] at h; exact h.symm)
    subst this; exact .int _ _
  | n + 1, .ref ad, a, h => by
    unfold rdV at h
    split at h
    · rename_i t vs m sl hl
      split at h
      · rename_i hsl
        have hsl : sl = #[] := by
          obtain ⟨l⟩ := sl
          cases l with
          | nil => rfl
          | cons _ _ => cases hsl
        subst hsl
        split at h
        · rename_i ht
          obtain rfl : t = "list" := by simpa using ht
          obtain ⟨as, h1, h2⟩ := Option.map_eq_some_iff.mp h
          subst h2
          exact .lst (vs := vs.toList) (n := m) (by simpa using hO _ _ hl) (rdVs_ok (fun v a q => rdV_ok hO q) h1)
        · split at h
          · rename_i ht
            obtain rfl : t = "tuple" := by simpa using ht
            obtain ⟨as, h1, h2⟩ := Option.map_eq_some_iff.mp h
            subst h2
            exact .tup (vs := vs.toList) (n := m) (by simpa using hO _ _ hl) (rdVs_ok (fun v a q => rdV_ok hO q) h1)
          · cases h
      · cases h
    · cases h
  | 0, .ref ad, a, h => by simp [rdV] at h
  | n, .none, a, h => by cases n <;> simp [rdV] at h
  | n, .bool b, a, h => by cases n <;> simp [rdV] at h
  | n, .float b _, a, h => by cases n <;> simp [rdV] at h
  | n, .type b, a, h => by cases n <;> simp [rdV] at h
  | n, .builtin b, a, h => by cases n <;> simp [rdV] at h
  | n, .ellipsis, a, h => by cases n <;> simp [rdV] at h
  | n, .notImplemented, a, h => by cases n <;> simp [rdV] at h
  | n, .bytes _ _, a, h => by cases n <;> simp [rdV] at h
noncomputable def AmsR (K : Frag) (P : Params) : List Value → List (List Nat × Int × Int) → Prop
  | [], [] => True
  | v :: vs, (l, sub, res) :: r => (∃ a d s t1 t2 k1 k2 k3 t, v = .ref a ∧ K.lookup a = some ⟨.ref 220, some d, .plain, #[]⟩ ∧ K.lookup d = some (amongD P s t1 t2 k1 k2 k3 t sub res) ∧ s.cps.toList = l) ∧ AmsR K P vs r
  | _, _ => False
theorem ams_ok {K : Frag} {P : Params} {x : Option (Addr × Addr)} {O : Addr → Obj → Prop} (hO : ∀ a o, K.lookup a = some o → O a o) : ∀ {vs : List Value} {l : List (List Nat × Int × Int)}, AmsR K P vs l → VRs P x O vs (l.map fun p => .am p.1 p.2.1 p.2.2)
  | [], [], _ => .nil
  | v :: vs, (l, sub, res) :: r, ⟨⟨a, d, s, t1, t2, k1, k2, k3, t, e, h1, h2, h3⟩, h⟩ => by
    subst e h3
    exact .cons (.am (hO _ _ h1) (hO _ _ h2)) (ams_ok hO h)
theorem O_K (k : c.Ok) (led : List (Addr × Obj)) : ∀ a o, c.K.lookup a = some o → c.O led a o := fun a o h => .inr (k.X a o h)
theorem rE_glob (k : c.Ok) {nm : Str} {pos : Pos} {v : Value} {z : AV} (hg : nsIn c.K mainGlobals nm = some (some v)) (hv : ∀ led, c.V led v z) (hx : c.env.kindOf nm = some .globalImplicit) (hdb : (nm == ("__debug__" : Str)) = false := by decide) : RefE c (.Name nm pos) (eK z) := by
  intro st led s w st' I h
  cases h
  obtain ⟨m, part, fo, F, N, hS, hL, hfo⟩ := I.ex
  exact nameX_K F k.X (topRead_of k.T) hg ⟨led, fun _ h => h, hv led, I⟩ k.kind hx hdb
theorem rE_clsK (k : c.Ok) (K2 : Frag) (hX : K2.In c.b0) {nm : Str} {xp pos : Pos} {v mc : Value} {z : AV} (hg : nsIn c.K mainGlobals "PorterStemmer" = some (some (.ref 527))) (hx : c.env.kindOf "PorterStemmer" = some .globalImplicit)
    (hm : typeIn K2 (.ref 527) = some mc) (hr : readsIn K2 527 mc = true) (hf : findCls K2 (.ref 527) mc nm = some (.val v)) (hh : handedIn v = true) (hv : ∀ led, c.V led v z) : RefE c (.Attribute (.Name "PorterStemmer" xp) nm pos) (eK z) := by
  intro st led s w st' I h
  cases h
  obtain ⟨m, part, fo, F, N, hS, hL, hfo⟩ := I.ex
  refine Attribute_Name_ (nameX_K F k.X (topRead_of k.T) hg ?_ k.kind hx)
  exact cls_val F hX hm hr hf hh ⟨led, fun _ h => h, hv led, I.with _⟩
theorem psGlob (P : Params) : nsIn (Kf P) mainGlobals "PorterStemmer" = some (some (.ref 527)) := by kernel_rfl
theorem psType (P : Params) : typeIn (Kf P) (.ref 527) = some (.type "type") := by kernel_rfl
theorem psReads (P : Params) : readsIn (Kf P) 527 (.type "type") = true := by kernel_rfl
theorem rE_cls (k : c.Ok) {nm : Str} {xp pos : Pos} {v : Value} {z : AV} (hx : c.env.kindOf "PorterStemmer" = some .globalImplicit)
    (hf : ∀ P : Params, findCls (Kf P) (.ref 527) (.type "type") nm = some (.val v)) (hh : handedIn v = true) (hv : ∀ led, c.V led v z) : RefE c (.Attribute (.Name "PorterStemmer" xp) nm pos) (eK z) :=
  rE_clsK k c.K k.X (psGlob _) hx (psType _) (psReads _) (hf _) hh hv
noncomputable def K2 (P : Params) (a : Addr) (es : Array (Int × Value)) (n : Nat) (tb : SetTable) : Frag := (a, setO es n tb) :: Kf P
theorem K2_in {P : Params} {h : Heap} {a : Addr} {es : Array (Int × Value)} {n : Nat} {tb : SetTable} (X : (Kf P).In h) (e : h.get? a = some (setO es n tb)) : (K2 P a es n tb).In h := by
  intro b o hb
  unfold K2 at hb
  have hb : (if b == a then some (setO es n tb) else (Kf P).lookup b) = some o := by
    rw [← hb]
    show _ = List.lookup b ((a, setO es n tb) :: Kf P)
    rw [List.lookup_cons]
    cases (b == a) <;> rfl
  split at hb
  · rename_i hba
    cases hb
    rw [show b = a from by simpa using hba]; exact e
  · exact X b o hb
theorem gvType (P : Params) (es n tb) : typeIn (K2 P 232 es n tb) (.ref 527) = some (.type "type") := by kernel_rfl
theorem gvReads (P : Params) (es n tb) : readsIn (K2 P 232 es n tb) 527 (.type "type") = true := by kernel_rfl
theorem gvFind (P : Params) (es n tb) : findCls (K2 P 232 es n tb) (.ref 527) (.type "type") "g_v" = some (.val (.ref 232)) := by kernel_rfl
theorem gwType (P : Params) (es n tb) : typeIn (K2 P 233 es n tb) (.ref 527) = some (.type "type") := by kernel_rfl
theorem gwReads (P : Params) (es n tb) : readsIn (K2 P 233 es n tb) 527 (.type "type") = true := by kernel_rfl
theorem gwFind (P : Params) (es n tb) : findCls (K2 P 233 es n tb) (.ref 527) (.type "type") "g_v_WXY" = some (.val (.ref 233)) := by kernel_rfl
theorem rE_gv (k : c.Ok) {xp pos : Pos} (hx : c.env.kindOf "PorterStemmer" = some .globalImplicit) : RefE c (.Attribute (.Name "PorterStemmer" xp) "g_v" pos) (eK (.sset vowelsG)) := by
  obtain ⟨es, n, tb, h1, h2, h3⟩ := k.sets.1
  exact rE_clsK k _ (K2_in k.X h3) (psGlob _) hx (gvType _ _ _ _) (gvReads _ _ _ _) (gvFind _ _ _ _) rfl fun led => .sset (.inr h3) h1 h2
theorem rE_gw (k : c.Ok) {xp pos : Pos} (hx : c.env.kindOf "PorterStemmer" = some .globalImplicit) : RefE c (.Attribute (.Name "PorterStemmer" xp) "g_v_WXY" pos) (eK (.sset vowelsW)) := by
  obtain ⟨es, n, tb, h1, h2, h3⟩ := k.sets.2
  exact rE_clsK k _ (K2_in k.X h3) (psGlob _) hx (gwType _ _ _ _) (gwReads _ _ _ _) (gwFind _ _ _ _) rfl fun led => .sset (.inr h3) h1 h2
end
end Mine
end
section
open PySem PySem.W PyProof.Rows PySem.Calls
namespace Mine
theorem amI {K : Frag} {P : Params} {vs : List Value} {l : List Nat} {sub res : Int} {r : List (List Nat × Int × Int)} {a d : Addr} {s : Str} {t1 t2 k1 k2 k3 t : Tok} (h1 : K.lookup a = some ⟨.ref 220, some d, .plain, #[]⟩) (h2 : K.lookup d = some (amongD P s t1 t2 k1 k2 k3 t sub res)) (h3 : s.cps.toList = l) (h : AmsR K P vs r) : AmsR K P (.ref a :: vs) ((l, sub, res) :: r) := ⟨⟨_, _, _, _, _, _, _, _, _, rfl, h1, h2, h3⟩, h⟩
theorem Fn.exI {F : Fn} {P : Params} {name : Str} {dV kV doc pm : Value} {an : Option Addr} {ct oc : Value} {od : Option Addr} {osl : Array (Option Value)} (h1 : (Kf P).lookup F.a = some ⟨oc, od, .func (fnOf name F.qual (fParams F.fn) (fBody F.fn) (fScope F.fn) dV kV doc pm an (.ref F.cdv) ct), osl⟩) (h2 : ∀ vals : List Value, vals.length = F.np → bindArgs (fnOf name F.qual (fParams F.fn) (fBody F.fn) (fScope F.fn) dV kV doc pm an (.ref F.cdv) ct) ⟨vals, []⟩ = pure (F.names.zip vals)) : FnX F P := ⟨_, _, _, _, _, _, _, _, _, _, h1, h2⟩
theorem vals0 {p : List Value → Prop} (H : p []) : ∀ vals : List Value, vals.length = 0 → p vals := fun vals h => (List.length_eq_zero_iff.mp h) ▸ H
theorem valsC {n : Nat} {p : List Value → Prop} (H : ∀ a l, l.length = n → p (a :: l)) (vals : List Value) (h : vals.length = n + 1) : p vals := by
  cases vals with
  | nil => cases h
  | cons a l => exact H a l (Nat.succ.inj h)
theorem vals1 {p : List Value → Prop} (H : ∀ a, p [a]) : ∀ vals : List Value, vals.length = 1 → p vals := valsC fun a => vals0 (H a)
theorem vals2 {p : List Value → Prop} (H : ∀ a b, p [a, b]) : ∀ vals : List Value, vals.length = 2 → p vals := valsC fun a => vals1 (H a)
theorem vals3 {p : List Value → Prop} (H : ∀ a b c, p [a, b, c]) : ∀ vals : List Value, vals.length = 3 → p vals := valsC fun a => vals2 (H a)
theorem vals4 {p : List Value → Prop} (H : ∀ a b c d, p [a, b, c, d]) : ∀ vals : List Value, vals.length = 4 → p vals := valsC fun a => vals3 (H a)
noncomputable def T_a_0 : List (List Nat × Int × Int) := [([115], -1, 3), ([105, 101, 115], 0, 2), ([115, 115, 101, 115], 0, 1), ([115, 115], 0, -1)]
noncomputable def v_a_0 : AV := .lst (T_a_0.map fun p => .am p.1 p.2.1 p.2.2)
theorem ams_a_0 (P : Params) : AmsR (Kf P) P [.ref 319, .ref 322, .ref 325, .ref 328] T_a_0 := amI (by kernel_rfl : (Kf P).lookup 319 = some (o319 P)) (by kernel_rfl : (Kf P).lookup 318 = some (o318 P)) (by decide +kernel) (amI (by kernel_rfl : (Kf P).lookup 322 = some (o322 P)) (by kernel_rfl : (Kf P).lookup 321 = some (o321 P)) (by decide +kernel) (amI (by kernel_rfl : (Kf P).lookup 325 = some (o325 P)) (by kernel_rfl : (Kf P).lookup 324 = some (o324 P)) (by decide +kernel) (amI (by kernel_rfl : (Kf P).lookup 328 = some (o328 P)) (by kernel_rfl : (Kf P).lookup 327 = some (o327 P)) (by decide +kernel) (trivial))))
theorem r_a_0 {c : Cx} (k : c.Ok) {xp pos : Pos} (hx : c.env.kindOf "PorterStemmer" = some .globalImplicit) : RefE c (.Attribute (.Name "PorterStemmer" xp) "a_0" pos) (eK v_a_0) :=
  rE_cls k hx (v := .ref 330) (fun P => by kernel_rfl) rfl fun led => .lst (n := 0) (.inr (k.X 330 _ (by kernel_rfl : (Kf c.w.params).lookup 330 = some ⟨.type "list", .none, .seq [.ref 319, .ref 322, .ref 325, .ref 328].toArray 0, #[]⟩))) (ams_ok (O_K k led) (ams_a_0 _))
noncomputable def T_a_1 : List (List Nat × Int × Int) := [([], -1, 3), ([98, 98], 0, 2), ([100, 100], 0, 2), ([102, 102], 0, 2), ([103, 103], 0, 2), ([98, 108], 0, 1), ([109, 109], 0, 2), ([110, 110], 0, 2), ([112, 112], 0, 2), ([114, 114], 0, 2), ([97, 116], 0, 1), ([116, 116], 0, 2), ([105, 122], 0, 1)]
noncomputable def v_a_1 : AV := .lst (T_a_1.map fun p => .am p.1 p.2.1 p.2.2)
theorem ams_a_1 (P : Params) : AmsR (Kf P) P [.ref 333, .ref 336, .ref 339, .ref 342, .ref 345, .ref 348, .ref 351, .ref 354, .ref 357, .ref 360, .ref 363, .ref 366, .ref 369] T_a_1 := amI (by kernel_rfl : (Kf P).lookup 333 = some (o333 P)) (by kernel_rfl : (Kf P).lookup 332 = some (o332 P)) (by decide +kernel) (amI (by kernel_rfl : (Kf P).lookup 336 = some (o336 P)) (by kernel_rfl : (Kf P).lookup 335 = some (o335 P)) (by decide +kernel) (amI (by kernel_rfl : (Kf P).lookup 339 = some (o339 P)) (by kernel_rfl : (Kf P).lookup 338 = some (o338 P)) (by decide +kernel) (amI (by kernel_rfl : (Kf P).lookup 342 = some (o342 P)) (by kernel_rfl : (Kf P).lookup 341 = some (o341 P)) (by decide +kernel) (amI (by kernel_rfl : (Kf P).lookup 345 = some (o345 P)) (by kernel_rfl : (Kf P).lookup 344 = some (o344 P)) (by decide +kernel) (amI (by kernel_rfl : (Kf P).lookup 348 = some (o348 P)) (by kernel_rfl : (Kf P).lookup 347 = some (o347 P)) (by decide +kernel) (amI (by kernel_rfl : (Kf P).lookup 351 = some (o351 P)) (by kernel_rfl : (Kf P).lookup 350 = some (o350 P)) (by decide +kernel) (amI (by kernel_rfl : (Kf P).lookup 354 = some (o354 P)) (by kernel_rfl : (Kf P).lookup 353 = some (o353 P)) (by decide +kernel) (amI (by kernel_rfl : (Kf P).lookup 357 = some (o357 P)) (by kernel_rfl : (Kf P).lookup 356 = some (o356 P)) (by decide +kernel) (amI (by kernel_rfl : (Kf P).lookup 360 = some (o360 P)) (by kernel_rfl : (Kf P).lookup 359 = some (o359 P)) (by decide +kernel) (amI (by kernel_rfl : (Kf P).lookup 363 = some (o363 P)) (by kernel_rfl : (Kf P).lookup 362 = some (o362 P)) (by decide +kernel) (amI (by kernel_rfl : (Kf P).lookup 366 = some (o366 P)) (by kernel_rfl : (Kf P).lookup 365 = some (o365 P)) (by decide +kernel) (amI (by kernel_rfl : (Kf P).lookup 369 = some (o369 P)) (by kernel_rfl : (Kf P).lookup 368 = some (o368 P)) (by decide +kernel) (trivial)))))))))))))
theorem r_a_1 {c : Cx} (k : c.Ok) {xp pos : Pos} (hx : c.env.kindOf "PorterStemmer" = some .globalImplicit) : RefE c (.Attribute (.Name "PorterStemmer" xp) "a_1" pos) (eK v_a_1) :=
  rE_cls k hx (v := .ref 371) (fun P => by kernel_rfl) rfl fun led => .lst (n := 0) (.inr (k.X 371 _ (by kernel_rfl : (Kf c.w.params).lookup 371 = some ⟨.type "list", .none, .seq [.ref 333, .ref 336, .ref 339, .ref 342, .ref 345, .ref 348, .ref 351, .ref 354, .ref 357, .ref 360, .ref 363, .ref 366, .ref 369].toArray 0, #[]⟩))) (ams_ok (O_K k led) (ams_a_1 _))
noncomputable def T_a_2 : List (List Nat × Int × Int) := [([101, 100], -1, 2), ([101, 101, 100], 0, 1), ([105, 110, 103], -1, 2)]
noncomputable def v_a_2 : AV := .lst (T_a_2.map fun p => .am p.1 p.2.1 p.2.2)
theorem ams_a_2 (P : Params) : AmsR (Kf P) P [.ref 373, .ref 376, .ref 379] T_a_2 := amI (by kernel_rfl : (Kf P).lookup 373 = some (o373 P)) (by kernel_rfl : (Kf P).lookup 372 = some (o372 P)) (by decide +kernel) (amI (by kernel_rfl : (Kf P).lookup 376 = some (o376 P)) (by kernel_rfl : (Kf P).lookup 375 = some (o375 P)) (by decide +kernel) (amI (by kernel_rfl : (Kf P).lookup 379 = some (o379 P)) (by kernel_rfl : (Kf P).lookup 378 = some (o378 P)) (by decide +kernel) (trivial)))
theorem r_a_2 {c : Cx} (k : c.Ok) {xp pos : Pos} (hx : c.env.kindOf "PorterStemmer" = some .globalImplicit) : RefE c (.Attribute (.Name "PorterStemmer" xp) "a_2" pos) (eK v_a_2) :=
  rE_cls k hx (v := .ref 381) (fun P => by kernel_rfl) rfl fun led => .lst (n := 0) (.inr (k.X 381 _ (by kernel_rfl : (Kf c.w.params).lookup 381 = some ⟨.type "list", .none, .seq [.ref 373, .ref 376, .ref 379].toArray 0, #[]⟩))) (ams_ok (O_K k led) (ams_a_2 _))
noncomputable def T_a_3 : List (List Nat × Int × Int) := [([97, 110, 99, 105], -1, 3), ([101, 110, 99, 105], -1, 2), ([97, 98, 108, 105], -1, 4), ([101, 108, 105], -1, 6), ([97, 108, 108, 105], -1, 9), ([111, 117, 115, 108, 105], -1, 11), ([101, 110, 116, 108, 105], -1, 5), ([97, 108, 105, 116, 105], -1, 9), ([98, 105, 108, 105, 116, 105], -1, 13), ([105, 118, 105, 116, 105], -1, 12), ([116, 105, 111, 110, 97, 108], -1, 1), ([97, 116, 105, 111, 110, 97, 108], 10, 8), ([97, 108, 105, 115, 109], -1, 9), ([97, 116, 105, 111, 110], -1, 8), ([105, 122, 97, 116, 105, 111, 110], 13, 7), ([105, 122, 101, 114], -1, 7), ([97, 116, 111, 114], -1, 8), ([105, 118, 101, 110, 101, 115, 115], -1, 12), ([102, 117, 108, 110, 101, 115, 115], -1, 10), ([111, 117, 115, 110, 101, 115, 115], -1, 11)]
noncomputable def v_a_3 : AV := .lst (T_a_3.map fun p => .am p.1 p.2.1 p.2.2)
theorem ams_a_3 (P : Params) : AmsR (Kf P) P [.ref 383, .ref 386, .ref 389, .ref 392, .ref 395, .ref 398, .ref 401, .ref 404, .ref 407, .ref 410, .ref 413, .ref 416, .ref 419, .ref 422, .ref 425, .ref 428, .ref 431, .ref 434, .ref 437, .ref 440] T_a_3 := amI (by kernel_rfl : (Kf P).lookup 383 = some (o383 P)) (by kernel_rfl : (Kf P).lookup 382 = some (o382 P)) (by decide +kernel) (amI (by kernel_rfl : (Kf P).lookup 386 = some (o386 P)) (by kernel_rfl : (Kf P).lookup 385 = some (o385 P)) (by decide +kernel) (amI (by kernel_rfl : (Kf P).lookup 389 = some (o389 P)) (by kernel_rfl : (Kf P).lookup 388 = some (o388 P)) (by decide +kernel) (amI (by kernel_rfl : (Kf P).lookup 392 = some (o392 P)) (by kernel_rfl : (Kf P).lookup 391 = some (o391 P)) (by decide +kernel) (amI (by kernel_rfl : (Kf P).lookup 395 = some (o395 P)) (by kernel_rfl : (Kf P).lookup 394 = some (o394 P)) (by decide +kernel) (amI (by kernel_rfl : (Kf P).lookup 398 = some (o398 P)) (by kernel_rfl : (Kf P).lookup 397 = some (o397 P)) (by decide +kernel) (amI (by kernel_rfl : (Kf P).lookup 401 = some (o401 P)) (by kernel_rfl : (Kf P).lookup 400 = some (o400 P)) (by decide +kernel) (amI (by kernel_rfl : (Kf P).lookup 404 = some (o404 P)) (by kernel_rfl : (Kf P).lookup 403 = some (o403 P)) (by decide +kernel) (amI (by kernel_rfl : (Kf P).lookup 407 = some (o407 P)) (by kernel_rfl : (Kf P).lookup 406 = some (o406 P)) (by decide +kernel) (amI (by kernel_rfl : (Kf P).lookup 410 = some (o410 P)) (by kernel_rfl : (Kf P).lookup 409 = some (o409 P)) (by decide +kernel) (amI (by kernel_rfl : (Kf P).lookup 413 = some (o413 P)) (by kernel_rfl : (Kf P).lookup 412 = some (o412 P)) (by decide +kernel) (amI (by kernel_rfl : (Kf P).lookup 416 = some (o416 P)) (by kernel_rfl : (Kf P).lookup 415 = some (o415 P)) (by decide +kernel) (amI (by kernel_rfl : (Kf P).lookup 419 = some (o419 P)) (by kernel_rfl : (Kf P).lookup 418 = some (o418 P)) (by decide +kernel) (amI (by kernel_rfl : (Kf P).lookup 422 = some (o422 P)) (by kernel_rfl : (Kf P).lookup 421 = some (o421 P)) (by decide +kernel) (amI (by kernel_rfl : (Kf P).lookup 425 = some (o425 P)) (by kernel_rfl : (Kf P).lookup 424 = some (o424 P)) (by decide +kernel) (amI (by kernel_rfl : (Kf P).lookup 428 = some (o428 P)) (by kernel_rfl : (Kf P).lookup 427 = some (o427 P)) (by decide +kernel) (amI (by kernel_rfl : (Kf P).lookup 431 = some (o431 P)) (by kernel_rfl : (Kf P).lookup 430 = some (o430 P)) (by decide +kernel) (amI (by kernel_rfl : (Kf P).lookup 434 = some (o434 P)) (by kernel_rfl : (Kf P).lookup 433 = some (o433 P)) (by decide +kernel) (amI (by kernel_rfl : (Kf P).lookup 437 = some (o437 P)) (by kernel_rfl : (Kf P).lookup 436 = some (o436 P)) (by decide +kernel) (amI (by kernel_rfl : (Kf P).lookup 440 = some (o440 P)) (by kernel_rfl : (Kf P).lookup 439 = some (o439 P)) (by decide +kernel) (trivial))))))))))))))))))))
theorem r_a_3 {c : Cx} (k : c.Ok) {xp pos : Pos} (hx : c.env.kindOf "PorterStemmer" = some .globalImplicit) : RefE c (.Attribute (.Name "PorterStemmer" xp) "a_3" pos) (eK v_a_3) :=
  rE_cls k hx (v := .ref 442) (fun P => by kernel_rfl) rfl fun led => .lst (n := 0) (.inr (k.X 442 _ (by kernel_rfl : (Kf c.w.params).lookup 442 = some ⟨.type "list", .none, .seq [.ref 383, .ref 386, .ref 389, .ref 392, .ref 395, .ref 398, .ref 401, .ref 404, .ref 407, .ref 410, .ref 413, .ref 416, .ref 419, .ref 422, .ref 425, .ref 428, .ref 431, .ref 434, .ref 437, .ref 440].toArray 0, #[]⟩))) (ams_ok (O_K k led) (ams_a_3 _))
noncomputable def T_a_4 : List (List Nat × Int × Int) := [([105, 99, 97, 116, 101], -1, 2), ([97, 116, 105, 118, 101], -1, 3), ([97, 108, 105, 122, 101], -1, 1), ([105, 99, 105, 116, 105], -1, 2), ([105, 99, 97, 108], -1, 2), ([102, 117, 108], -1, 3), ([110, 101, 115, 115], -1, 3)]
noncomputable def v_a_4 : AV := .lst (T_a_4.map fun p => .am p.1 p.2.1 p.2.2)
theorem ams_a_4 (P : Params) : AmsR (Kf P) P [.ref 445, .ref 448, .ref 451, .ref 454, .ref 457, .ref 460, .ref 463] T_a_4 := amI (by kernel_rfl : (Kf P).lookup 445 = some (o445 P)) (by kernel_rfl : (Kf P).lookup 444 = some (o444 P)) (by decide +kernel) (amI (by kernel_rfl : (Kf P).lookup 448 = some (o448 P)) (by kernel_rfl : (Kf P).lookup 447 = some (o447 P)) (by decide +kernel) (amI (by kernel_rfl : (Kf P).lookup 451 = some (o451 P)) (by kernel_rfl : (Kf P).lookup 450 = some (o450 P)) (by decide +kernel) (amI (by kernel_rfl : (Kf P).lookup 454 = some (o454 P)) (by kernel_rfl : (Kf P).lookup 453 = some (o453 P)) (by decide +kernel) (amI (by kernel_rfl : (Kf P).lookup 457 = some (o457 P)) (by kernel_rfl : (Kf P).lookup 456 = some (o456 P)) (by decide +kernel) (amI (by kernel_rfl : (Kf P).lookup 460 = some (o460 P)) (by kernel_rfl : (Kf P).lookup 459 = some (o459 P)) (by decide +kernel) (amI (by kernel_rfl : (Kf P).lookup 463 = some (o463 P)) (by kernel_rfl : (Kf P).lookup 462 = some (o462 P)) (by decide +kernel) (trivial)))))))
theorem r_a_4 {c : Cx} (k : c.Ok) {xp pos : Pos} (hx : c.env.kindOf "PorterStemmer" = some .globalImplicit) : RefE c (.Attribute (.Name "PorterStemmer" xp) "a_4" pos) (eK v_a_4) :=
  rE_cls k hx (v := .ref 465) (fun P => by kernel_rfl) rfl fun led => .lst (n := 0) (.inr (k.X 465 _ (by kernel_rfl : (Kf c.w.params).lookup 465 = some ⟨.type "list", .none, .seq [.ref 445, .ref 448, .ref 451, .ref 454, .ref 457, .ref 460, .ref 463].toArray 0, #[]⟩))) (ams_ok (O_K k led) (ams_a_4 _))
noncomputable def T_a_5 : List (List Nat × Int × Int) := [([105, 99], -1, 1), ([97, 110, 99, 101], -1, 1), ([101, 110, 99, 101], -1, 1), ([97, 98, 108, 101], -1, 1), ([105, 98, 108, 101], -1, 1), ([97, 116, 101], -1, 1), ([105, 118, 101], -1, 1), ([105, 122, 101], -1, 1), ([105, 116, 105], -1, 1), ([97, 108], -1, 1), ([105, 115, 109], -1, 1), ([105, 111, 110], -1, 2), ([101, 114], -1, 1), ([111, 117, 115], -1, 1), ([97, 110, 116], -1, 1), ([101, 110, 116], -1, 1), ([109, 101, 110, 116], 15, 1), ([101, 109, 101, 110, 116], 16, 1), ([111, 117], -1, 1)]
noncomputable def v_a_5 : AV := .lst (T_a_5.map fun p => .am p.1 p.2.1 p.2.2)
theorem ams_a_5 (P : Params) : AmsR (Kf P) P [.ref 468, .ref 471, .ref 474, .ref 477, .ref 480, .ref 483, .ref 486, .ref 489, .ref 492, .ref 495, .ref 498, .ref 501, .ref 504, .ref 507, .ref 510, .ref 513, .ref 516, .ref 519, .ref 522] T_a_5 := amI (by kernel_rfl : (Kf P).lookup 468 = some (o468 P)) (by kernel_rfl : (Kf P).lookup 467 = some (o467 P)) (by decide +kernel) (amI (by kernel_rfl : (Kf P).lookup 471 = some (o471 P)) (by kernel_rfl : (Kf P).lookup 470 = some (o470 P)) (by decide +kernel) (amI (by kernel_rfl : (Kf P).lookup 474 = some (o474 P)) (by kernel_rfl : (Kf P).lookup 473 = some (o473 P)) (by decide +kernel) (amI (by kernel_rfl : (Kf P).lookup 477 = some (o477 P)) (by kernel_rfl : (Kf P).lookup 476 = some (o476 P)) (by decide +kernel) (amI (by kernel_rfl : (Kf P).lookup 480 = some (o480 P)) (by kernel_rfl : (Kf P).lookup 479 = some (o479 P)) (by decide +kernel) (amI (by kernel_rfl : (Kf P).lookup 483 = some (o483 P)) (by kernel_rfl : (Kf P).lookup 482 = some (o482 P)) (by decide +kernel) (amI (by kernel_rfl : (Kf P).lookup 486 = some (o486 P)) (by kernel_rfl : (Kf P).lookup 485 = some (o485 P)) (by decide +kernel) (amI (by kernel_rfl : (Kf P).lookup 489 = some (o489 P)) (by kernel_rfl : (Kf P).lookup 488 = some (o488 P)) (by decide +kernel) (amI (by kernel_rfl : (Kf P).lookup 492 = some (o492 P)) (by kernel_rfl : (Kf P).lookup 491 = some (o491 P)) (by decide +kernel) (amI (by kernel_rfl : (Kf P).lookup 495 = some (o495 P)) (by kernel_rfl : (Kf P).lookup 494 = some (o494 P)) (by decide +kernel) (amI (by kernel_rfl : (Kf P).lookup 498 = some (o498 P)) (by kernel_rfl : (Kf P).lookup 497 = some (o497 P)) (by decide +kernel) (amI (by kernel_rfl : (Kf P).lookup 501 = some (o501 P)) (by kernel_rfl : (Kf P).lookup 500 = some (o500 P)) (by decide +kernel) (amI (by kernel_rfl : (Kf P).lookup 504 = some (o504 P)) (by kernel_rfl : (Kf P).lookup 503 = some (o503 P)) (by decide +kernel) (amI (by kernel_rfl : (Kf P).lookup 507 = some (o507 P)) (by kernel_rfl : (Kf P).lookup 506 = some (o506 P)) (by decide +kernel) (amI (by kernel_rfl : (Kf P).lookup 510 = some (o510 P)) (by kernel_rfl : (Kf P).lookup 509 = some (o509 P)) (by decide +kernel) (amI (by kernel_rfl : (Kf P).lookup 513 = some (o513 P)) (by kernel_rfl : (Kf P).lookup 512 = some (o512 P)) (by decide +kernel) (amI (by kernel_rfl : (Kf P).lookup 516 = some (o516 P)) (by kernel_rfl : (Kf P).lookup 515 = some (o515 P)) (by decide +kernel) (amI (by kernel_rfl : (Kf P).lookup 519 = some (o519 P)) (by kernel_rfl : (Kf P).lookup 518 = some (o518 P)) (by decide +kernel) (amI (by kernel_rfl : (Kf P).lookup 522 = some (o522 P)) (by kernel_rfl : (Kf P).lookup 521 = some (o521 P)) (by decide +kernel) (trivial)))))))))))))))))))
theorem r_a_5 {c : Cx} (k : c.Ok) {xp pos : Pos} (hx : c.env.kindOf "PorterStemmer" = some .globalImplicit) : RefE c (.Attribute (.Name "PorterStemmer" xp) "a_5" pos) (eK v_a_5) :=
  rE_cls k hx (v := .ref 524) (fun P => by kernel_rfl) rfl fun led => .lst (n := 0) (.inr (k.X 524 _ (by kernel_rfl : (Kf c.w.params).lookup 524 = some ⟨.type "list", .none, .seq [.ref 468, .ref 471, .ref 474, .ref 477, .ref 480, .ref 483, .ref 486, .ref 489, .ref 492, .ref 495, .ref 498, .ref 501, .ref 504, .ref 507, .ref 510, .ref 513, .ref 516, .ref 519, .ref 522].toArray 0, #[]⟩))) (ams_ok (O_K k led) (ams_a_5 _))
noncomputable def v_as_0 : AV := .tup [.str [115, 115], .str [105], .str []]
theorem r_as_0 {c : Cx} (k : c.Ok) {xp pos : Pos} (hx : c.env.kindOf "PorterStemmer" = some .globalImplicit) : RefE c (.Attribute (.Name "PorterStemmer" xp) "as_0" pos) (eK v_as_0) :=
  rE_cls k hx (v := .ref 331) (fun P => by kernel_rfl) rfl fun led => rdV_ok (n := 3) (O_K k led) (by kernel_rfl)
noncomputable def v_as_3 : AV := .tup [.str [116, 105, 111, 110], .str [101, 110, 99, 101], .str [97, 110, 99, 101], .str [97, 98, 108, 101], .str [101, 110, 116], .str [101], .str [105, 122, 101], .str [97, 116, 101], .str [97, 108], .str [102, 117, 108], .str [111, 117, 115], .str [105, 118, 101], .str [98, 108, 101]]
theorem r_as_3 {c : Cx} (k : c.Ok) {xp pos : Pos} (hx : c.env.kindOf "PorterStemmer" = some .globalImplicit) : RefE c (.Attribute (.Name "PorterStemmer" xp) "as_3" pos) (eK v_as_3) :=
  rE_cls k hx (v := .ref 443) (fun P => by kernel_rfl) rfl fun led => rdV_ok (n := 3) (O_K k led) (by kernel_rfl)
noncomputable def v_as_4 : AV := .tup [.str [97, 108], .str [105, 99], .str []]
theorem r_as_4 {c : Cx} (k : c.Ok) {xp pos : Pos} (hx : c.env.kindOf "PorterStemmer" = some .globalImplicit) : RefE c (.Attribute (.Name "PorterStemmer" xp) "as_4" pos) (eK v_as_4) :=
  rE_cls k hx (v := .ref 466) (fun P => by kernel_rfl) rfl fun led => rdV_ok (n := 3) (O_K k led) (by kernel_rfl)
noncomputable def v_law_letters : AV := .str [97, 98, 99, 100, 101, 102, 103, 104, 105, 106, 107, 108, 109, 110, 111, 112, 113, 114, 115, 116, 117, 118, 119, 120, 121, 122]
theorem r_law_letters {c : Cx} (k : c.Ok) {pos : Pos} (hx : c.env.kindOf "_law_letters" = some .globalImplicit) : RefE c (.Name "_law_letters" pos) (eK v_law_letters) :=
  rE_glob k (v := .str "abcdefghijklmnopqrstuvwxyz" 1628) (by kernel_rfl) (fun led => rdV_ok (n := 3) (O_K k led) (by kernel_rfl)) hx
noncomputable def v_law_second : AV := .lst [.tup [.str [116, 105, 111, 110, 97, 108], .str [116, 105, 111, 110]], .tup [.str [101, 110, 99, 105], .str [101, 110, 99, 101]], .tup [.str [97, 110, 99, 105], .str [97, 110, 99, 101]], .tup [.str [97, 98, 108, 105], .str [97, 98, 108, 101]], .tup [.str [101, 110, 116, 108, 105], .str [101, 110, 116]], .tup [.str [101, 108, 105], .str [101]], .tup [.str [105, 122, 101, 114], .str [105, 122, 101]], .tup [.str [105, 122, 97, 116, 105, 111, 110], .str [105, 122, 101]], .tup [.str [97, 116, 105, 111, 110, 97, 108], .str [97, 116, 101]], .tup [.str [97, 116, 105, 111, 110], .str [97, 116, 101]], .tup [.str [97, 116, 111, 114], .str [97, 116, 101]], .tup [.str [97, 108, 105, 115, 109], .str [97, 108]], .tup [.str [97, 108, 105, 116, 105], .str [97, 108]], .tup [.str [97, 108, 108, 105], .str [97, 108]], .tup [.str [102, 117, 108, 110, 101, 115, 115], .str [102, 117, 108]], .tup [.str [111, 117, 115, 108, 105], .str [111, 117, 115]], .tup [.str [111, 117, 115, 110, 101, 115, 115], .str [111, 117, 115]], .tup [.str [105, 118, 101, 110, 101, 115, 115], .str [105, 118, 101]], .tup [.str [105, 118, 105, 116, 105], .str [105, 118, 101]], .tup [.str [98, 105, 108, 105, 116, 105], .str [98, 108, 101]]]
theorem r_law_second {c : Cx} (k : c.Ok) {pos : Pos} (hx : c.env.kindOf "_law_second" = some .globalImplicit) : RefE c (.Name "_law_second" pos) (eK v_law_second) :=
  rE_glob k (v := .ref 596) (by kernel_rfl) (fun led => rdV_ok (n := 3) (O_K k led) (by kernel_rfl)) hx
noncomputable def v_law_third : AV := .lst [.tup [.str [105, 99, 97, 116, 101], .str [105, 99]], .tup [.str [97, 116, 105, 118, 101], .str []], .tup [.str [97, 108, 105, 122, 101], .str [97, 108]], .tup [.str [105, 99, 105, 116, 105], .str [105, 99]], .tup [.str [105, 99, 97, 108], .str [105, 99]], .tup [.str [102, 117, 108], .str []], .tup [.str [110, 101, 115, 115], .str []]]
theorem r_law_third {c : Cx} (k : c.Ok) {pos : Pos} (hx : c.env.kindOf "_law_third" = some .globalImplicit) : RefE c (.Name "_law_third" pos) (eK v_law_third) :=
  rE_glob k (v := .ref 604) (by kernel_rfl) (fun led => rdV_ok (n := 3) (O_K k led) (by kernel_rfl)) hx
noncomputable def v_law_fourth : AV := .lst [.str [97, 108], .str [97, 110, 99, 101], .str [101, 110, 99, 101], .str [101, 114], .str [105, 99], .str [97, 98, 108, 101], .str [105, 98, 108, 101], .str [97, 110, 116], .str [101, 109, 101, 110, 116], .str [109, 101, 110, 116], .str [101, 110, 116], .str [111, 117], .str [105, 115, 109], .str [97, 116, 101], .str [105, 116, 105], .str [111, 117, 115], .str [105, 118, 101], .str [105, 122, 101], .str [105, 111, 110]]
theorem r_law_fourth {c : Cx} (k : c.Ok) {pos : Pos} (hx : c.env.kindOf "_law_fourth" = some .globalImplicit) : RefE c (.Name "_law_fourth" pos) (eK v_law_fourth) :=
  rE_glob k (v := .ref 605) (by kernel_rfl) (fun led => rdV_ok (n := 3) (O_K k led) (by kernel_rfl)) hx
noncomputable def F_set_current : Fn := ⟨42, "BaseStemmer.set_current", fnAt 2 1, 41, ["self", "value"], 2⟩
theorem ok_set_current : F_set_current.Ok := ⟨fun P => Fn.exI (by kernel_rfl : (Kf P).lookup 42 = some (o42 P)) (vals2 fun v0 v1 => by kernel_rfl), fun P => by kernel_rfl, fun P => by kernel_rfl, fun P => by kernel_rfl, by kernel_rfl, by kernel_rfl, by kernel_rfl, by decide +kernel, by decide +kernel, by decide +kernel, by decide +kernel⟩
theorem fi_set_current (P : Params) : findIn (Kf P) (.ref 527) "set_current" = some (some (.ref 42)) := by kernel_rfl
theorem pl_set_current (P : Params) : plainGet (Kf P) 527 "set_current" = true := by kernel_rfl
theorem nf_set_current : ("set_current" : Str) ∉ fieldNames := by decide +kernel
noncomputable def F_get_current : Fn := ⟨49, "BaseStemmer.get_current", fnAt 2 2, 48, ["self"], 1⟩
theorem ok_get_current : F_get_current.Ok := ⟨fun P => Fn.exI (by kernel_rfl : (Kf P).lookup 49 = some (o49 P)) (vals1 fun v0 => by kernel_rfl), fun P => by kernel_rfl, fun P => by kernel_rfl, fun P => by kernel_rfl, by kernel_rfl, by kernel_rfl, by kernel_rfl, by decide +kernel, by decide +kernel, by decide +kernel, by decide +kernel⟩
theorem fi_get_current (P : Params) : findIn (Kf P) (.ref 527) "get_current" = some (some (.ref 49)) := by kernel_rfl
theorem pl_get_current (P : Params) : plainGet (Kf P) 527 "get_current" = true := by kernel_rfl
theorem nf_get_current : ("get_current" : Str) ∉ fieldNames := by decide +kernel
noncomputable def F_in_grouping : Fn := ⟨63, "BaseStemmer.in_grouping", fnAt 2 4, 62, ["self", "s"], 2⟩
theorem ok_in_grouping : F_in_grouping.Ok := ⟨fun P => Fn.exI (by kernel_rfl : (Kf P).lookup 63 = some (o63 P)) (vals2 fun v0 v1 => by kernel_rfl), fun P => by kernel_rfl, fun P => by kernel_rfl, fun P => by kernel_rfl, by kernel_rfl, by kernel_rfl, by kernel_rfl, by decide +kernel, by decide +kernel, by decide +kernel, by decide +kernel⟩
theorem fi_in_grouping (P : Params) : findIn (Kf P) (.ref 527) "in_grouping" = some (some (.ref 63)) := by kernel_rfl
theorem pl_in_grouping (P : Params) : plainGet (Kf P) 527 "in_grouping" = true := by kernel_rfl
theorem nf_in_grouping : ("in_grouping" : Str) ∉ fieldNames := by decide +kernel
noncomputable def F_go_in_grouping : Fn := ⟨70, "BaseStemmer.go_in_grouping", fnAt 2 5, 69, ["self", "s"], 2⟩
theorem ok_go_in_grouping : F_go_in_grouping.Ok := ⟨fun P => Fn.exI (by kernel_rfl : (Kf P).lookup 70 = some (o70 P)) (vals2 fun v0 v1 => by kernel_rfl), fun P => by kernel_rfl, fun P => by kernel_rfl, fun P => by kernel_rfl, by kernel_rfl, by kernel_rfl, by kernel_rfl, by decide +kernel, by decide +kernel, by decide +kernel, by decide +kernel⟩
theorem fi_go_in_grouping (P : Params) : findIn (Kf P) (.ref 527) "go_in_grouping" = some (some (.ref 70)) := by kernel_rfl
theorem pl_go_in_grouping (P : Params) : plainGet (Kf P) 527 "go_in_grouping" = true := by kernel_rfl
theorem nf_go_in_grouping : ("go_in_grouping" : Str) ∉ fieldNames := by decide +kernel
noncomputable def F_in_grouping_b : Fn := ⟨77, "BaseStemmer.in_grouping_b", fnAt 2 6, 76, ["self", "s"], 2⟩
theorem ok_in_grouping_b : F_in_grouping_b.Ok := ⟨fun P => Fn.exI (by kernel_rfl : (Kf P).lookup 77 = some (o77 P)) (vals2 fun v0 v1 => by kernel_rfl), fun P => by kernel_rfl, fun P => by kernel_rfl, fun P => by kernel_rfl, by kernel_rfl, by kernel_rfl, by kernel_rfl, by decide +kernel, by decide +kernel, by decide +kernel, by decide +kernel⟩
theorem fi_in_grouping_b (P : Params) : findIn (Kf P) (.ref 527) "in_grouping_b" = some (some (.ref 77)) := by kernel_rfl
theorem pl_in_grouping_b (P : Params) : plainGet (Kf P) 527 "in_grouping_b" = true := by kernel_rfl
theorem nf_in_grouping_b : ("in_grouping_b" : Str) ∉ fieldNames := by decide +kernel
noncomputable def F_go_out_grouping : Fn := ⟨98, "BaseStemmer.go_out_grouping", fnAt 2 9, 97, ["self", "s"], 2⟩
theorem ok_go_out_grouping : F_go_out_grouping.Ok := ⟨fun P => Fn.exI (by kernel_rfl : (Kf P).lookup 98 = some (o98 P)) (vals2 fun v0 v1 => by kernel_rfl), fun P => by kernel_rfl, fun P => by kernel_rfl, fun P => by kernel_rfl, by kernel_rfl, by kernel_rfl, by kernel_rfl, by decide +kernel, by decide +kernel, by decide +kernel, by decide +kernel⟩
theorem fi_go_out_grouping (P : Params) : findIn (Kf P) (.ref 527) "go_out_grouping" = some (some (.ref 98)) := by kernel_rfl
theorem pl_go_out_grouping (P : Params) : plainGet (Kf P) 527 "go_out_grouping" = true := by kernel_rfl
theorem nf_go_out_grouping : ("go_out_grouping" : Str) ∉ fieldNames := by decide +kernel
noncomputable def F_out_grouping_b : Fn := ⟨105, "BaseStemmer.out_grouping_b", fnAt 2 10, 104, ["self", "s"], 2⟩
theorem ok_out_grouping_b : F_out_grouping_b.Ok := ⟨fun P => Fn.exI (by kernel_rfl : (Kf P).lookup 105 = some (o105 P)) (vals2 fun v0 v1 => by kernel_rfl), fun P => by kernel_rfl, fun P => by kernel_rfl, fun P => by kernel_rfl, by kernel_rfl, by kernel_rfl, by kernel_rfl, by decide +kernel, by decide +kernel, by decide +kernel, by decide +kernel⟩
theorem fi_out_grouping_b (P : Params) : findIn (Kf P) (.ref 527) "out_grouping_b" = some (some (.ref 105)) := by kernel_rfl
theorem pl_out_grouping_b (P : Params) : plainGet (Kf P) 527 "out_grouping_b" = true := by kernel_rfl
theorem nf_out_grouping_b : ("out_grouping_b" : Str) ∉ fieldNames := by decide +kernel
noncomputable def F_go_out_grouping_b : Fn := ⟨112, "BaseStemmer.go_out_grouping_b", fnAt 2 11, 111, ["self", "s"], 2⟩
theorem ok_go_out_grouping_b : F_go_out_grouping_b.Ok := ⟨fun P => Fn.exI (by kernel_rfl : (Kf P).lookup 112 = some (o112 P)) (vals2 fun v0 v1 => by kernel_rfl), fun P => by kernel_rfl, fun P => by kernel_rfl, fun P => by kernel_rfl, by kernel_rfl, by kernel_rfl, by kernel_rfl, by decide +kernel, by decide +kernel, by decide +kernel, by decide +kernel⟩
theorem fi_go_out_grouping_b (P : Params) : findIn (Kf P) (.ref 527) "go_out_grouping_b" = some (some (.ref 112)) := by kernel_rfl
theorem pl_go_out_grouping_b (P : Params) : plainGet (Kf P) 527 "go_out_grouping_b" = true := by kernel_rfl
theorem nf_go_out_grouping_b : ("go_out_grouping_b" : Str) ∉ fieldNames := by decide +kernel
noncomputable def F_find_among_b : Fn := ⟨140, "BaseStemmer.find_among_b", fnAt 2 15, 139, ["self", "v", "i", "j", "c", "lb", "common_i", "common_j", "first_key_inspected", "k", "diff", "common", "w", "i2"], 2⟩
theorem ok_find_among_b : F_find_among_b.Ok := ⟨fun P => Fn.exI (by kernel_rfl : (Kf P).lookup 140 = some (o140 P)) (vals2 fun v0 v1 => by kernel_rfl), fun P => by kernel_rfl, fun P => by kernel_rfl, fun P => by kernel_rfl, by kernel_rfl, by kernel_rfl, by kernel_rfl, by decide +kernel, by decide +kernel, by decide +kernel, by decide +kernel⟩
theorem fi_find_among_b (P : Params) : findIn (Kf P) (.ref 527) "find_among_b" = some (some (.ref 140)) := by kernel_rfl
theorem pl_find_among_b (P : Params) : plainGet (Kf P) 527 "find_among_b" = true := by kernel_rfl
theorem nf_find_among_b : ("find_among_b" : Str) ∉ fieldNames := by decide +kernel
noncomputable def F_replace_s : Fn := ⟨147, "BaseStemmer.replace_s", fnAt 2 16, 146, ["self", "c_bra", "c_ket", "s", "adjustment"], 4⟩
theorem ok_replace_s : F_replace_s.Ok := ⟨fun P => Fn.exI (by kernel_rfl : (Kf P).lookup 147 = some (o147 P)) (vals4 fun v0 v1 v2 v3 => by kernel_rfl), fun P => by kernel_rfl, fun P => by kernel_rfl, fun P => by kernel_rfl, by kernel_rfl, by kernel_rfl, by kernel_rfl, by decide +kernel, by decide +kernel, by decide +kernel, by decide +kernel⟩
theorem fi_replace_s (P : Params) : findIn (Kf P) (.ref 527) "replace_s" = some (some (.ref 147)) := by kernel_rfl
theorem pl_replace_s (P : Params) : plainGet (Kf P) 527 "replace_s" = true := by kernel_rfl
theorem nf_replace_s : ("replace_s" : Str) ∉ fieldNames := by decide +kernel
noncomputable def F_slice_from : Fn := ⟨154, "BaseStemmer.slice_from", fnAt 2 17, 153, ["self", "s"], 2⟩
theorem ok_slice_from : F_slice_from.Ok := ⟨fun P => Fn.exI (by kernel_rfl : (Kf P).lookup 154 = some (o154 P)) (vals2 fun v0 v1 => by kernel_rfl), fun P => by kernel_rfl, fun P => by kernel_rfl, fun P => by kernel_rfl, by kernel_rfl, by kernel_rfl, by kernel_rfl, by decide +kernel, by decide +kernel, by decide +kernel, by decide +kernel⟩
theorem fi_slice_from (P : Params) : findIn (Kf P) (.ref 527) "slice_from" = some (some (.ref 154)) := by kernel_rfl
theorem pl_slice_from (P : Params) : plainGet (Kf P) 527 "slice_from" = true := by kernel_rfl
theorem nf_slice_from : ("slice_from" : Str) ∉ fieldNames := by decide +kernel
noncomputable def F_slice_del : Fn := ⟨161, "BaseStemmer.slice_del", fnAt 2 18, 160, ["self"], 1⟩
theorem ok_slice_del : F_slice_del.Ok := ⟨fun P => Fn.exI (by kernel_rfl : (Kf P).lookup 161 = some (o161 P)) (vals1 fun v0 => by kernel_rfl), fun P => by kernel_rfl, fun P => by kernel_rfl, fun P => by kernel_rfl, by kernel_rfl, by kernel_rfl, by kernel_rfl, by decide +kernel, by decide +kernel, by decide +kernel, by decide +kernel⟩
theorem fi_slice_del (P : Params) : findIn (Kf P) (.ref 527) "slice_del" = some (some (.ref 161)) := by kernel_rfl
theorem pl_slice_del (P : Params) : plainGet (Kf P) 527 "slice_del" = true := by kernel_rfl
theorem nf_slice_del : ("slice_del" : Str) ∉ fieldNames := by decide +kernel
noncomputable def F_insert : Fn := ⟨168, "BaseStemmer.insert", fnAt 2 19, 167, ["self", "c_bra", "c_ket", "s", "adjustment"], 4⟩
theorem ok_insert : F_insert.Ok := ⟨fun P => Fn.exI (by kernel_rfl : (Kf P).lookup 168 = some (o168 P)) (vals4 fun v0 v1 v2 v3 => by kernel_rfl), fun P => by kernel_rfl, fun P => by kernel_rfl, fun P => by kernel_rfl, by kernel_rfl, by kernel_rfl, by kernel_rfl, by decide +kernel, by decide +kernel, by decide +kernel, by decide +kernel⟩
theorem fi_insert (P : Params) : findIn (Kf P) (.ref 527) "insert" = some (some (.ref 168)) := by kernel_rfl
theorem pl_insert (P : Params) : plainGet (Kf P) 527 "insert" = true := by kernel_rfl
theorem nf_insert : ("insert" : Str) ∉ fieldNames := by decide +kernel
noncomputable def F_r_shortv : Fn := ⟨240, "PorterStemmer.r_shortv", fnAt 6 4, 239, ["self"], 1⟩
theorem ok_r_shortv : F_r_shortv.Ok := ⟨fun P => Fn.exI (by kernel_rfl : (Kf P).lookup 240 = some (o240 P)) (vals1 fun v0 => by kernel_rfl), fun P => by kernel_rfl, fun P => by kernel_rfl, fun P => by kernel_rfl, by kernel_rfl, by kernel_rfl, by kernel_rfl, by decide +kernel, by decide +kernel, by decide +kernel, by decide +kernel⟩
theorem fi_r_shortv (P : Params) : findIn (Kf P) (.ref 527) "r_shortv" = some (some (.ref 240)) := by kernel_rfl
theorem pl_r_shortv (P : Params) : plainGet (Kf P) 527 "r_shortv" = true := by kernel_rfl
theorem nf_r_shortv : ("r_shortv" : Str) ∉ fieldNames := by decide +kernel
noncomputable def F_r_R1 : Fn := ⟨247, "PorterStemmer.r_R1", fnAt 6 5, 246, ["self"], 1⟩
theorem ok_r_R1 : F_r_R1.Ok := ⟨fun P => Fn.exI (by kernel_rfl : (Kf P).lookup 247 = some (o247 P)) (vals1 fun v0 => by kernel_rfl), fun P => by kernel_rfl, fun P => by kernel_rfl, fun P => by kernel_rfl, by kernel_rfl, by kernel_rfl, by kernel_rfl, by decide +kernel, by decide +kernel, by decide +kernel, by decide +kernel⟩
theorem fi_r_R1 (P : Params) : findIn (Kf P) (.ref 527) "r_R1" = some (some (.ref 247)) := by kernel_rfl
theorem pl_r_R1 (P : Params) : plainGet (Kf P) 527 "r_R1" = true := by kernel_rfl
theorem nf_r_R1 : ("r_R1" : Str) ∉ fieldNames := by decide +kernel
noncomputable def F_r_R2 : Fn := ⟨254, "PorterStemmer.r_R2", fnAt 6 6, 253, ["self"], 1⟩
theorem ok_r_R2 : F_r_R2.Ok := ⟨fun P => Fn.exI (by kernel_rfl : (Kf P).lookup 254 = some (o254 P)) (vals1 fun v0 => by kernel_rfl), fun P => by kernel_rfl, fun P => by kernel_rfl, fun P => by kernel_rfl, by kernel_rfl, by kernel_rfl, by kernel_rfl, by decide +kernel, by decide +kernel, by decide +kernel, by decide +kernel⟩
theorem fi_r_R2 (P : Params) : findIn (Kf P) (.ref 527) "r_R2" = some (some (.ref 254)) := by kernel_rfl
theorem pl_r_R2 (P : Params) : plainGet (Kf P) 527 "r_R2" = true := by kernel_rfl
theorem nf_r_R2 : ("r_R2" : Str) ∉ fieldNames := by decide +kernel
noncomputable def F_r_Step_1a : Fn := ⟨261, "PorterStemmer.r_Step_1a", fnAt 6 7, 260, ["self", "among_var"], 1⟩
theorem ok_r_Step_1a : F_r_Step_1a.Ok := ⟨fun P => Fn.exI (by kernel_rfl : (Kf P).lookup 261 = some (o261 P)) (vals1 fun v0 => by kernel_rfl), fun P => by kernel_rfl, fun P => by kernel_rfl, fun P => by kernel_rfl, by kernel_rfl, by kernel_rfl, by kernel_rfl, by decide +kernel, by decide +kernel, by decide +kernel, by decide +kernel⟩
theorem fi_r_Step_1a (P : Params) : findIn (Kf P) (.ref 527) "r_Step_1a" = some (some (.ref 261)) := by kernel_rfl
theorem pl_r_Step_1a (P : Params) : plainGet (Kf P) 527 "r_Step_1a" = true := by kernel_rfl
theorem nf_r_Step_1a : ("r_Step_1a" : Str) ∉ fieldNames := by decide +kernel
noncomputable def F_r_Step_1b : Fn := ⟨268, "PorterStemmer.r_Step_1b", fnAt 6 8, 267, ["self", "among_var", "v_1", "v_2", "c", "v_3"], 1⟩
theorem ok_r_Step_1b : F_r_Step_1b.Ok := ⟨fun P => Fn.exI (by kernel_rfl : (Kf P).lookup 268 = some (o268 P)) (vals1 fun v0 => by kernel_rfl), fun P => by kernel_rfl, fun P => by kernel_rfl, fun P => by kernel_rfl, by kernel_rfl, by kernel_rfl, by kernel_rfl, by decide +kernel, by decide +kernel, by decide +kernel, by decide +kernel⟩
theorem fi_r_Step_1b (P : Params) : findIn (Kf P) (.ref 527) "r_Step_1b" = some (some (.ref 268)) := by kernel_rfl
theorem pl_r_Step_1b (P : Params) : plainGet (Kf P) 527 "r_Step_1b" = true := by kernel_rfl
theorem nf_r_Step_1b : ("r_Step_1b" : Str) ∉ fieldNames := by decide +kernel
noncomputable def F_r_Step_1c : Fn := ⟨275, "PorterStemmer.r_Step_1c", fnAt 6 9, 274, ["self"], 1⟩
theorem ok_r_Step_1c : F_r_Step_1c.Ok := ⟨fun P => Fn.exI (by kernel_rfl : (Kf P).lookup 275 = some (o275 P)) (vals1 fun v0 => by kernel_rfl), fun P => by kernel_rfl, fun P => by kernel_rfl, fun P => by kernel_rfl, by kernel_rfl, by kernel_rfl, by kernel_rfl, by decide +kernel, by decide +kernel, by decide +kernel, by decide +kernel⟩
theorem fi_r_Step_1c (P : Params) : findIn (Kf P) (.ref 527) "r_Step_1c" = some (some (.ref 275)) := by kernel_rfl
theorem pl_r_Step_1c (P : Params) : plainGet (Kf P) 527 "r_Step_1c" = true := by kernel_rfl
theorem nf_r_Step_1c : ("r_Step_1c" : Str) ∉ fieldNames := by decide +kernel
noncomputable def F_r_Step_2 : Fn := ⟨282, "PorterStemmer.r_Step_2", fnAt 6 10, 281, ["self", "among_var"], 1⟩
theorem ok_r_Step_2 : F_r_Step_2.Ok := ⟨fun P => Fn.exI (by kernel_rfl : (Kf P).lookup 282 = some (o282 P)) (vals1 fun v0 => by kernel_rfl), fun P => by kernel_rfl, fun P => by kernel_rfl, fun P => by kernel_rfl, by kernel_rfl, by kernel_rfl, by kernel_rfl, by decide +kernel, by decide +kernel, by decide +kernel, by decide +kernel⟩
theorem fi_r_Step_2 (P : Params) : findIn (Kf P) (.ref 527) "r_Step_2" = some (some (.ref 282)) := by kernel_rfl
theorem pl_r_Step_2 (P : Params) : plainGet (Kf P) 527 "r_Step_2" = true := by kernel_rfl
theorem nf_r_Step_2 : ("r_Step_2" : Str) ∉ fieldNames := by decide +kernel
noncomputable def F_r_Step_3 : Fn := ⟨289, "PorterStemmer.r_Step_3", fnAt 6 11, 288, ["self", "among_var"], 1⟩
theorem ok_r_Step_3 : F_r_Step_3.Ok := ⟨fun P => Fn.exI (by kernel_rfl : (Kf P).lookup 289 = some (o289 P)) (vals1 fun v0 => by kernel_rfl), fun P => by kernel_rfl, fun P => by kernel_rfl, fun P => by kernel_rfl, by kernel_rfl, by kernel_rfl, by kernel_rfl, by decide +kernel, by decide +kernel, by decide +kernel, by decide +kernel⟩
theorem fi_r_Step_3 (P : Params) : findIn (Kf P) (.ref 527) "r_Step_3" = some (some (.ref 289)) := by kernel_rfl
theorem pl_r_Step_3 (P : Params) : plainGet (Kf P) 527 "r_Step_3" = true := by kernel_rfl
theorem nf_r_Step_3 : ("r_Step_3" : Str) ∉ fieldNames := by decide +kernel
noncomputable def F_r_Step_4 : Fn := ⟨296, "PorterStemmer.r_Step_4", fnAt 6 12, 295, ["self", "among_var"], 1⟩
theorem ok_r_Step_4 : F_r_Step_4.Ok := ⟨fun P => Fn.exI (by kernel_rfl : (Kf P).lookup 296 = some (o296 P)) (vals1 fun v0 => by kernel_rfl), fun P => by kernel_rfl, fun P => by kernel_rfl, fun P => by kernel_rfl, by kernel_rfl, by kernel_rfl, by kernel_rfl, by decide +kernel, by decide +kernel, by decide +kernel, by decide +kernel⟩
theorem fi_r_Step_4 (P : Params) : findIn (Kf P) (.ref 527) "r_Step_4" = some (some (.ref 296)) := by kernel_rfl
theorem pl_r_Step_4 (P : Params) : plainGet (Kf P) 527 "r_Step_4" = true := by kernel_rfl
theorem nf_r_Step_4 : ("r_Step_4" : Str) ∉ fieldNames := by decide +kernel
noncomputable def F_r_Step_5a : Fn := ⟨303, "PorterStemmer.r_Step_5a", fnAt 6 13, 302, ["self", "v_1"], 1⟩
theorem ok_r_Step_5a : F_r_Step_5a.Ok := ⟨fun P => Fn.exI (by kernel_rfl : (Kf P).lookup 303 = some (o303 P)) (vals1 fun v0 => by kernel_rfl), fun P => by kernel_rfl, fun P => by kernel_rfl, fun P => by kernel_rfl, by kernel_rfl, by kernel_rfl, by kernel_rfl, by decide +kernel, by decide +kernel, by decide +kernel, by decide +kernel⟩
theorem fi_r_Step_5a (P : Params) : findIn (Kf P) (.ref 527) "r_Step_5a" = some (some (.ref 303)) := by kernel_rfl
theorem pl_r_Step_5a (P : Params) : plainGet (Kf P) 527 "r_Step_5a" = true := by kernel_rfl
theorem nf_r_Step_5a : ("r_Step_5a" : Str) ∉ fieldNames := by decide +kernel
noncomputable def F_r_Step_5b : Fn := ⟨310, "PorterStemmer.r_Step_5b", fnAt 6 14, 309, ["self"], 1⟩
theorem ok_r_Step_5b : F_r_Step_5b.Ok := ⟨fun P => Fn.exI (by kernel_rfl : (Kf P).lookup 310 = some (o310 P)) (vals1 fun v0 => by kernel_rfl), fun P => by kernel_rfl, fun P => by kernel_rfl, fun P => by kernel_rfl, by kernel_rfl, by kernel_rfl, by kernel_rfl, by decide +kernel, by decide +kernel, by decide +kernel, by decide +kernel⟩
theorem fi_r_Step_5b (P : Params) : findIn (Kf P) (.ref 527) "r_Step_5b" = some (some (.ref 310)) := by kernel_rfl
theorem pl_r_Step_5b (P : Params) : plainGet (Kf P) 527 "r_Step_5b" = true := by kernel_rfl
theorem nf_r_Step_5b : ("r_Step_5b" : Str) ∉ fieldNames := by decide +kernel
noncomputable def F_stem : Fn := ⟨317, "PorterStemmer._stem", fnAt 6 15, 316, ["self", "B_Y_found", "v_1", "v_2", "v_3", "v_4", "v_5", "v_6", "v_7", "v_8", "v_9", "v_10", "v_11", "v_12", "v_13", "v_14", "v_15", "v_16"], 1⟩
theorem ok_stem : F_stem.Ok := ⟨fun P => Fn.exI (by kernel_rfl : (Kf P).lookup 317 = some (o317 P)) (vals1 fun v0 => by kernel_rfl), fun P => by kernel_rfl, fun P => by kernel_rfl, fun P => by kernel_rfl, by kernel_rfl, by kernel_rfl, by kernel_rfl, by decide +kernel, by decide +kernel, by decide +kernel, by decide +kernel⟩
theorem fi_stem (P : Params) : findIn (Kf P) (.ref 527) "_stem" = some (some (.ref 317)) := by kernel_rfl
theorem pl_stem (P : Params) : plainGet (Kf P) 527 "_stem" = true := by kernel_rfl
theorem nf_stem : ("_stem" : Str) ∉ fieldNames := by decide +kernel
noncomputable def F_stemWord : Fn := ⟨189, "BaseStemmer.stemWord", fnAt 2 22, 188, ["self", "word"], 2⟩
theorem ok_stemWord : F_stemWord.Ok := ⟨fun P => Fn.exI (by kernel_rfl : (Kf P).lookup 189 = some (o189 P)) (vals2 fun v0 v1 => by kernel_rfl), fun P => by kernel_rfl, fun P => by kernel_rfl, fun P => by kernel_rfl, by kernel_rfl, by kernel_rfl, by kernel_rfl, by decide +kernel, by decide +kernel, by decide +kernel, by decide +kernel⟩
theorem fi_stemWord (P : Params) : findIn (Kf P) (.ref 527) "stemWord" = some (some (.ref 189)) := by kernel_rfl
theorem pl_stemWord (P : Params) : plainGet (Kf P) 527 "stemWord" = true := by kernel_rfl
theorem nf_stemWord : ("stemWord" : Str) ∉ fieldNames := by decide +kernel
noncomputable def F_init : Fn := ⟨35, "BaseStemmer.__init__", fnAt 2 0, 34, ["self"], 1⟩
theorem ok_init : F_init.Ok := ⟨fun P => Fn.exI (by kernel_rfl : (Kf P).lookup 35 = some (o35 P)) (vals1 fun v0 => by kernel_rfl), fun P => by kernel_rfl, fun P => by kernel_rfl, fun P => by kernel_rfl, by kernel_rfl, by kernel_rfl, by kernel_rfl, by decide +kernel, by decide +kernel, by decide +kernel, by decide +kernel⟩
theorem fi_init (P : Params) : findIn (Kf P) (.ref 527) "__init__" = some (some (.ref 35)) := by kernel_rfl
theorem pl_init (P : Params) : plainGet (Kf P) 527 "__init__" = true := by kernel_rfl
theorem nf_init : ("__init__" : Str) ∉ fieldNames := by decide +kernel
noncomputable def F_law_ends : Fn := ⟨575, "_law_ends", fnAt 12 0, 574, [], 0⟩
theorem ok_law_ends : F_law_ends.Ok := ⟨fun P => Fn.exI (by kernel_rfl : (Kf P).lookup 575 = some (o575 P)) (vals0 (by kernel_rfl)), fun P => by kernel_rfl, fun P => by kernel_rfl, fun P => by kernel_rfl, by kernel_rfl, by kernel_rfl, by kernel_rfl, by decide +kernel, by decide +kernel, by decide +kernel, by decide +kernel⟩
theorem gl_law_ends (P : Params) : nsIn (Kf P) mainGlobals "_law_ends" = some (some (.ref 575)) := by kernel_rfl
noncomputable def F_law_vowel : Fn := ⟨612, "_law_vowel", fnAt 16 0, 611, ["sign"], 1⟩
theorem ok_law_vowel : F_law_vowel.Ok := ⟨fun P => Fn.exI (by kernel_rfl : (Kf P).lookup 612 = some (o612 P)) (vals1 fun v0 => by kernel_rfl), fun P => by kernel_rfl, fun P => by kernel_rfl, fun P => by kernel_rfl, by kernel_rfl, by kernel_rfl, by kernel_rfl, by decide +kernel, by decide +kernel, by decide +kernel, by decide +kernel⟩
theorem gl_law_vowel (P : Params) : nsIn (Kf P) mainGlobals "_law_vowel" = some (some (.ref 612)) := by kernel_rfl
noncomputable def F_law_past : Fn := ⟨619, "_law_past", fnAt 17 0, 618, ["word", "place", "vowel"], 3⟩
theorem ok_law_past : F_law_past.Ok := ⟨fun P => Fn.exI (by kernel_rfl : (Kf P).lookup 619 = some (o619 P)) (vals3 fun v0 v1 v2 => by kernel_rfl), fun P => by kernel_rfl, fun P => by kernel_rfl, fun P => by kernel_rfl, by kernel_rfl, by kernel_rfl, by kernel_rfl, by decide +kernel, by decide +kernel, by decide +kernel, by decide +kernel⟩
theorem gl_law_past (P : Params) : nsIn (Kf P) mainGlobals "_law_past" = some (some (.ref 619)) := by kernel_rfl
noncomputable def F_law_region : Fn := ⟨626, "_law_region", fnAt 18 0, 625, ["word", "place", "first"], 2⟩
theorem ok_law_region : F_law_region.Ok := ⟨fun P => Fn.exI (by kernel_rfl : (Kf P).lookup 626 = some (o626 P)) (vals2 fun v0 v1 => by kernel_rfl), fun P => by kernel_rfl, fun P => by kernel_rfl, fun P => by kernel_rfl, by kernel_rfl, by kernel_rfl, by kernel_rfl, by decide +kernel, by decide +kernel, by decide +kernel, by decide +kernel⟩
theorem gl_law_region (P : Params) : nsIn (Kf P) mainGlobals "_law_region" = some (some (.ref 626)) := by kernel_rfl
noncomputable def F_law_end : Fn := ⟨633, "_law_end", fnAt 19 0, 632, ["word", "ends", "found", "end"], 2⟩
theorem ok_law_end : F_law_end.Ok := ⟨fun P => Fn.exI (by kernel_rfl : (Kf P).lookup 633 = some (o633 P)) (vals2 fun v0 v1 => by kernel_rfl), fun P => by kernel_rfl, fun P => by kernel_rfl, fun P => by kernel_rfl, by kernel_rfl, by kernel_rfl, by kernel_rfl, by decide +kernel, by decide +kernel, by decide +kernel, by decide +kernel⟩
theorem gl_law_end (P : Params) : nsIn (Kf P) mainGlobals "_law_end" = some (some (.ref 633)) := by kernel_rfl
noncomputable def F_law_short : Fn := ⟨640, "_law_short", fnAt 20 0, 639, ["word", "a", "b", "c"], 1⟩
theorem ok_law_short : F_law_short.Ok := ⟨fun P => Fn.exI (by kernel_rfl : (Kf P).lookup 640 = some (o640 P)) (vals1 fun v0 => by kernel_rfl), fun P => by kernel_rfl, fun P => by kernel_rfl, fun P => by kernel_rfl, by kernel_rfl, by kernel_rfl, by kernel_rfl, by decide +kernel, by decide +kernel, by decide +kernel, by decide +kernel⟩
theorem gl_law_short (P : Params) : nsIn (Kf P) mainGlobals "_law_short" = some (some (.ref 640)) := by kernel_rfl
noncomputable def F_law_rows : Fn := ⟨645, "_law_rows", fnAt 21 0, 644, ["word", "pairs", "first"], 3⟩
theorem gl_law_rows (P : Params) : nsIn (Kf P) mainGlobals "_law_rows" = some (some (.ref 645)) := by kernel_rfl
noncomputable def F_law_stem : Fn := ⟨650, "_law_stem", fnAt 22 0, 649, ["word", "signs", "sign", "first", "second", "end", "stem"], 1⟩
theorem gl_law_stem (P : Params) : nsIn (Kf P) mainGlobals "_law_stem" = some (some (.ref 650)) := by kernel_rfl
theorem noLen (P : Params) : nsIn (Kf P) mainGlobals "len" = some none := by kernel_rfl
theorem noMin (P : Params) : nsIn (Kf P) mainGlobals "min" = some none := by kernel_rfl
theorem noOrd (P : Params) : nsIn (Kf P) mainGlobals "ord" = some none := by kernel_rfl
theorem noRange (P : Params) : nsIn (Kf P) mainGlobals "range" = some none := by kernel_rfl
theorem rE_strL {c : Cx} {x : Str} {l : List Nat} {k : Nat} {pos : Pos} (h : x.cps.toList = l) : RefE c (.Constant (.str x) k pos) (eK (.str l)) := h ▸ rE_str x k pos
theorem lab0g (P : Params) : nsIn (Kf P) mainGlobals "lab0" = some (some (.ref 539)) := by kernel_rfl
theorem lab0e (P : Params) : excIn (Kf P) 539 [.type "Exception", .type "BaseException", .type "object"] "Exception.__new__" = true := by kernel_rfl
theorem lab1g (P : Params) : nsIn (Kf P) mainGlobals "lab1" = some (some (.ref 552)) := by kernel_rfl
theorem lab1e (P : Params) : excIn (Kf P) 552 [.type "Exception", .type "BaseException", .type "object"] "Exception.__new__" = true := by kernel_rfl
theorem lab2g (P : Params) : nsIn (Kf P) mainGlobals "lab2" = some (some (.ref 565)) := by kernel_rfl
theorem lab2e (P : Params) : excIn (Kf P) 565 [.type "Exception", .type "BaseException", .type "object"] "Exception.__new__" = true := by kernel_rfl
end Mine
end
section
open PySem PySem.W PyProof.Rows PySem.Calls
namespace Mine
noncomputable def s_set_current : SF := (sSeq (sAssF 0 (eL 1)) (sSeq (sAssF 1 (eK (.int 0))) (sSeq (sAssF 2 (eFun gLen [(eF 0)])) (sSeq (sAssF 3 (eK (.int 0))) (sSeq (sAssF 4 (eF 1)) (sSeq (sAssF 5 (eF 2)) sNil))))))
set_option maxHeartbeats 2000000 in
theorem spec_set_current : F_set_current.Spec 700 s_set_current := fun d hcl k hd =>
  have hd : (d.cx F_set_current).A.depth < 700 := hd
  (rSs_cons (rS_assF k 0 rfl rfl (rE_loc k 1 rfl)) (rSs_cons (rS_assF k 1 rfl rfl (rE_int _ _ _)) (rSs_cons (rS_assF k 2 rfl rfl (rE_len k (.cons (rE_fld k 0 rfl rfl) (fun _ => rfl) .nil) (by kernel_rfl) (noLen _))) (rSs_cons (rS_assF k 3 rfl rfl (rE_int _ _ _)) (rSs_cons (rS_assF k 4 rfl rfl (rE_fld k 1 rfl rfl)) (rSs_cons (rS_assF k 5 rfl rfl (rE_fld k 2 rfl rfl)) rSs_nil))))))
noncomputable def s_get_current : SF := (sSeq (sRet (eF 0)) sNil)
set_option maxHeartbeats 2000000 in
theorem spec_get_current : F_get_current.Spec 700 s_get_current := fun d hcl k hd =>
  have hd : (d.cx F_get_current).A.depth < 700 := hd
  (rSs_cons (rS_ret (rE_fld k 0 rfl rfl)) rSs_nil)
noncomputable def s_in_grouping : SF := (sSeq (sIf (tE (eBin gGe (eF 1) (eF 2))) (sSeq (sRet (eK (.bool false))) sNil) sNil) (sSeq (sIf (tE (eBin gNotIn (eBin gIdx (eF 0) (eF 1)) (eL 1))) (sSeq (sRet (eK (.bool false))) sNil) sNil) (sSeq (sAugF gAddI 1 (eK (.int 1))) (sSeq (sRet (eK (.bool true))) sNil))))
set_option maxHeartbeats 2000000 in
theorem spec_in_grouping : F_in_grouping.Spec 700 s_in_grouping := fun d hcl k hd =>
  have hd : (d.cx F_in_grouping).A.depth < 700 := hd
  (rSs_cons (rS_if (rT_cmp o_ge (rE_fld k 1 rfl rfl) (rE_fld k 2 rfl rfl)) (rSs_cons (rS_ret (rE_bool _ _ _)) rSs_nil) rSs_nil) (rSs_cons (rS_if (rT_cmp o_notin (rE_idx (rE_fld k 0 rfl rfl) (rE_fld k 1 rfl rfl)) (rE_loc k 1 rfl)) (rSs_cons (rS_ret (rE_bool _ _ _)) rSs_nil) rSs_nil) (rSs_cons (rS_augF k 1 rfl rfl i_add (rE_int _ _ _)) (rSs_cons (rS_ret (rE_bool _ _ _)) rSs_nil))))
noncomputable def s_go_in_grouping : SF := (sSeq (sWhile 100 (tE (eBin gLt (eF 1) (eF 2))) (sSeq (sIf (tE (eBin gNotIn (eBin gIdx (eF 0) (eF 1)) (eL 1))) (sSeq (sRet (eK (.bool true))) sNil) sNil) (sSeq (sAugF gAddI 1 (eK (.int 1))) sNil))) (sSeq (sRet (eK (.bool false))) sNil))
set_option maxHeartbeats 2000000 in
theorem spec_go_in_grouping : F_go_in_grouping.Spec 700 s_go_in_grouping := fun d hcl k hd =>
  have hd : (d.cx F_go_in_grouping).A.depth < 700 := hd
  (rSs_cons (rS_while k 100 (rT_cmp o_lt (rE_fld k 1 rfl rfl) (rE_fld k 2 rfl rfl)) (rSs_cons (rS_if (rT_cmp o_notin (rE_idx (rE_fld k 0 rfl rfl) (rE_fld k 1 rfl rfl)) (rE_loc k 1 rfl)) (rSs_cons (rS_ret (rE_bool _ _ _)) rSs_nil) rSs_nil) (rSs_cons (rS_augF k 1 rfl rfl i_add (rE_int _ _ _)) rSs_nil))) (rSs_cons (rS_ret (rE_bool _ _ _)) rSs_nil))
noncomputable def s_in_grouping_b : SF := (sSeq (sIf (tE (eBin gLe (eF 1) (eF 3))) (sSeq (sRet (eK (.bool false))) sNil) sNil) (sSeq (sIf (tE (eBin gNotIn (eBin gIdx (eF 0) (eBin gSub (eF 1) (eK (.int 1)))) (eL 1))) (sSeq (sRet (eK (.bool false))) sNil) sNil) (sSeq (sAugF gSub 1 (eK (.int 1))) (sSeq (sRet (eK (.bool true))) sNil))))
set_option maxHeartbeats 2000000 in
theorem spec_in_grouping_b : F_in_grouping_b.Spec 700 s_in_grouping_b := fun d hcl k hd =>
  have hd : (d.cx F_in_grouping_b).A.depth < 700 := hd
  (rSs_cons (rS_if (rT_cmp o_le (rE_fld k 1 rfl rfl) (rE_fld k 3 rfl rfl)) (rSs_cons (rS_ret (rE_bool _ _ _)) rSs_nil) rSs_nil) (rSs_cons (rS_if (rT_cmp o_notin (rE_idx (rE_fld k 0 rfl rfl) (rE_bin o_sub (rE_fld k 1 rfl rfl) (rE_int _ _ _))) (rE_loc k 1 rfl)) (rSs_cons (rS_ret (rE_bool _ _ _)) rSs_nil) rSs_nil) (rSs_cons (rS_augF k 1 rfl rfl i_sub (rE_int _ _ _)) (rSs_cons (rS_ret (rE_bool _ _ _)) rSs_nil))))
noncomputable def s_go_out_grouping : SF := (sSeq (sWhile 100 (tE (eBin gLt (eF 1) (eF 2))) (sSeq (sIf (tE (eBin gIn (eBin gIdx (eF 0) (eF 1)) (eL 1))) (sSeq (sRet (eK (.bool true))) sNil) sNil) (sSeq (sAugF gAddI 1 (eK (.int 1))) sNil))) (sSeq (sRet (eK (.bool false))) sNil))
set_option maxHeartbeats 2000000 in
theorem spec_go_out_grouping : F_go_out_grouping.Spec 700 s_go_out_grouping := fun d hcl k hd =>
  have hd : (d.cx F_go_out_grouping).A.depth < 700 := hd
  (rSs_cons (rS_while k 100 (rT_cmp o_lt (rE_fld k 1 rfl rfl) (rE_fld k 2 rfl rfl)) (rSs_cons (rS_if (rT_cmp o_in (rE_idx (rE_fld k 0 rfl rfl) (rE_fld k 1 rfl rfl)) (rE_loc k 1 rfl)) (rSs_cons (rS_ret (rE_bool _ _ _)) rSs_nil) rSs_nil) (rSs_cons (rS_augF k 1 rfl rfl i_add (rE_int _ _ _)) rSs_nil))) (rSs_cons (rS_ret (rE_bool _ _ _)) rSs_nil))
noncomputable def s_out_grouping_b : SF := (sSeq (sIf (tE (eBin gLe (eF 1) (eF 3))) (sSeq (sRet (eK (.bool false))) sNil) sNil) (sSeq (sIf (tE (eBin gNotIn (eBin gIdx (eF 0) (eBin gSub (eF 1) (eK (.int 1)))) (eL 1))) (sSeq (sAugF gSub 1 (eK (.int 1))) (sSeq (sRet (eK (.bool true))) sNil)) sNil) (sSeq (sRet (eK (.bool false))) sNil)))
set_option maxHeartbeats 2000000 in
theorem spec_out_grouping_b : F_out_grouping_b.Spec 700 s_out_grouping_b := fun d hcl k hd =>
  have hd : (d.cx F_out_grouping_b).A.depth < 700 := hd
  (rSs_cons (rS_if (rT_cmp o_le (rE_fld k 1 rfl rfl) (rE_fld k 3 rfl rfl)) (rSs_cons (rS_ret (rE_bool _ _ _)) rSs_nil) rSs_nil) (rSs_cons (rS_if (rT_cmp o_notin (rE_idx (rE_fld k 0 rfl rfl) (rE_bin o_sub (rE_fld k 1 rfl rfl) (rE_int _ _ _))) (rE_loc k 1 rfl)) (rSs_cons (rS_augF k 1 rfl rfl i_sub (rE_int _ _ _)) (rSs_cons (rS_ret (rE_bool _ _ _)) rSs_nil)) rSs_nil) (rSs_cons (rS_ret (rE_bool _ _ _)) rSs_nil)))
noncomputable def s_go_out_grouping_b : SF := (sSeq (sWhile 100 (tE (eBin gGt (eF 1) (eF 3))) (sSeq (sIf (tE (eBin gIn (eBin gIdx (eF 0) (eBin gSub (eF 1) (eK (.int 1)))) (eL 1))) (sSeq (sRet (eK (.bool true))) sNil) sNil) (sSeq (sAugF gSub 1 (eK (.int 1))) sNil))) (sSeq (sRet (eK (.bool false))) sNil))
set_option maxHeartbeats 2000000 in
theorem spec_go_out_grouping_b : F_go_out_grouping_b.Spec 700 s_go_out_grouping_b := fun d hcl k hd =>
  have hd : (d.cx F_go_out_grouping_b).A.depth < 700 := hd
  (rSs_cons (rS_while k 100 (rT_cmp o_gt (rE_fld k 1 rfl rfl) (rE_fld k 3 rfl rfl)) (rSs_cons (rS_if (rT_cmp o_in (rE_idx (rE_fld k 0 rfl rfl) (rE_bin o_sub (rE_fld k 1 rfl rfl) (rE_int _ _ _))) (rE_loc k 1 rfl)) (rSs_cons (rS_ret (rE_bool _ _ _)) rSs_nil) rSs_nil) (rSs_cons (rS_augF k 1 rfl rfl i_sub (rE_int _ _ _)) rSs_nil))) (rSs_cons (rS_ret (rE_bool _ _ _)) rSs_nil))
noncomputable def s_find_among_b : SF := (sSeq (sAssL 2 (eK (.int 0))) (sSeq (sAssL 3 (eFun gLen [(eL 1)])) (sSeq (sAssL 4 (eF 1)) (sSeq (sAssL 5 (eF 3)) (sSeq (sAssL 6 (eK (.int 0))) (sSeq (sAssL 7 (eK (.int 0))) (sSeq (sAssL 8 (eK (.bool false))) (sSeq (sWhile 100 (tK true) (sSeq (sAssL 9 (eBin gAdd (eL 2) (eBin gShr1 (eBin gSub (eL 3) (eL 2)) (eK (.int 1))))) (sSeq (sAssL 10 (eK (.int 0))) (sSeq (sAssL 11 (eFun gMin [(eL 6), (eL 7)])) (sSeq (sAssL 12 (eBin gIdx (eL 1) (eL 9))) (sSeq (sForR 13 (eBin gSub (eBin gSub (eFun gLen [(eAm 0 (eL 12))]) (eK (.int 1))) (eL 11)) (eNeg (eK (.int 1))) (eNeg (eK (.int 1))) (sSeq (sIf (tE (eBin gEq (eBin gSub (eL 4) (eL 11)) (eL 5))) (sSeq (sAssL 10 (eNeg (eK (.int 1)))) (sSeq sBrk sNil)) sNil) (sSeq (sAssL 10 (eBin gSub (eFun gOrd [(eBin gIdx (eF 0) (eBin gSub (eBin gSub (eL 4) (eK (.int 1))) (eL 11)))]) (eFun gOrd [(eBin gIdx (eAm 0 (eL 12)) (eL 13))]))) (sSeq (sIf (tE (eBin gNe (eL 10) (eK (.int 0)))) (sSeq sBrk sNil) sNil) (sSeq (sAugL gAddI 11 (eK (.int 1))) sNil))))) (sSeq (sIf (tE (eBin gLt (eL 10) (eK (.int 0)))) (sSeq (sAssL 3 (eL 9)) (sSeq (sAssL 7 (eL 11)) sNil)) (sSeq (sAssL 2 (eL 9)) (sSeq (sAssL 6 (eL 11)) sNil))) (sSeq (sIf (tE (eBin gLe (eBin gSub (eL 3) (eL 2)) (eK (.int 1)))) (sSeq (sIf (tE (eBin gGt (eL 2) (eK (.int 0)))) (sSeq sBrk sNil) sNil) (sSeq (sIf (tE (eBin gEq (eL 3) (eL 2))) (sSeq sBrk sNil) sNil) (sSeq (sIf (tE (eL 8)) (sSeq sBrk sNil) sNil) (sSeq (sAssL 8 (eK (.bool true))) sNil)))) sNil) sNil)))))))) (sSeq (sWhile 100 (tK true) (sSeq (sAssL 12 (eBin gIdx (eL 1) (eL 2))) (sSeq (sIf (tE (eBin gGe (eL 6) (eFun gLen [(eAm 0 (eL 12))]))) (sSeq (sAssF 1 (eBin gSub (eL 4) (eFun gLen [(eAm 0 (eL 12))]))) (sSeq (sRet (eAm 2 (eL 12))) sNil)) sNil) (sSeq (sAssL 2 (eAm 1 (eL 12))) (sSeq (sIf (tE (eBin gLt (eL 2) (eK (.int 0)))) (sSeq (sRet (eK (.int 0))) sNil) sNil) sNil))))) (sSeq (sRet (eNeg (eK (.int 1)))) sNil))))))))))
set_option maxHeartbeats 2000000 in
theorem spec_find_among_b : F_find_among_b.Spec 700 s_find_among_b := fun d hcl k hd =>
  have hd : (d.cx F_find_among_b).A.depth < 700 := hd
  (rSs_cons (rS_assL k 2 rfl (rE_int _ _ _)) (rSs_cons (rS_assL k 3 rfl (rE_len k (.cons (rE_loc k 1 rfl) (fun _ => rfl) .nil) (by kernel_rfl) (noLen _))) (rSs_cons (rS_assL k 4 rfl (rE_fld k 1 rfl rfl)) (rSs_cons (rS_assL k 5 rfl (rE_fld k 3 rfl rfl)) (rSs_cons (rS_assL k 6 rfl (rE_int _ _ _)) (rSs_cons (rS_assL k 7 rfl (rE_int _ _ _)) (rSs_cons (rS_assL k 8 rfl (rE_bool _ _ _)) (rSs_cons (rS_while k 100 rT_true (rSs_cons (rS_assL k 9 rfl (rE_bin o_addI (rE_loc k 2 rfl) (rE_bin o_shr (rE_bin o_sub (rE_loc k 3 rfl) (rE_loc k 2 rfl)) (rE_int _ _ _)))) (rSs_cons (rS_assL k 10 rfl (rE_int _ _ _)) (rSs_cons (rS_assL k 11 rfl (rE_min k (.cons (rE_loc k 6 rfl) (fun _ => rfl) (.cons (rE_loc k 7 rfl) (fun _ => rfl) .nil)) (by kernel_rfl) (noMin _))) (rSs_cons (rS_assL k 12 rfl (rE_idx (rE_loc k 1 rfl) (rE_loc k 9 rfl))) (rSs_cons (rS_forR k 13 rfl (.cons (rE_bin o_sub (rE_bin o_sub (rE_len k (.cons (rE_am k 0 (rE_loc k 12 rfl) rfl) (fun _ => rfl) .nil) (by kernel_rfl) (noLen _)) (rE_int _ _ _)) (rE_loc k 11 rfl)) (fun _ => rfl) (.cons (rE_neg (rE_int _ _ _)) (fun _ => rfl) (.cons (rE_neg (rE_int _ _ _)) (fun _ => rfl) .nil))) (rSs_cons (rS_if (rT_cmp (o_eq k) (rE_bin o_sub (rE_loc k 4 rfl) (rE_loc k 11 rfl)) (rE_loc k 5 rfl)) (rSs_cons (rS_assL k 10 rfl (rE_neg (rE_int _ _ _))) (rSs_cons rS_brk rSs_nil)) rSs_nil) (rSs_cons (rS_assL k 10 rfl (rE_bin o_sub (rE_ord k (.cons (rE_idx (rE_fld k 0 rfl rfl) (rE_bin o_sub (rE_bin o_sub (rE_loc k 4 rfl) (rE_int _ _ _)) (rE_loc k 11 rfl))) (fun _ => rfl) .nil) (by kernel_rfl) (noOrd _)) (rE_ord k (.cons (rE_idx (rE_am k 0 (rE_loc k 12 rfl) rfl) (rE_loc k 13 rfl)) (fun _ => rfl) .nil) (by kernel_rfl) (noOrd _)))) (rSs_cons (rS_if (rT_cmp (o_ne k) (rE_loc k 10 rfl) (rE_int _ _ _)) (rSs_cons rS_brk rSs_nil) rSs_nil) (rSs_cons (rS_augL k 11 rfl i_add (rE_int _ _ _)) rSs_nil)))) (noRange _) (by kernel_rfl)) (rSs_cons (rS_if (rT_cmp o_lt (rE_loc k 10 rfl) (rE_int _ _ _)) (rSs_cons (rS_assL k 3 rfl (rE_loc k 9 rfl)) (rSs_cons (rS_assL k 7 rfl (rE_loc k 11 rfl)) rSs_nil)) (rSs_cons (rS_assL k 2 rfl (rE_loc k 9 rfl)) (rSs_cons (rS_assL k 6 rfl (rE_loc k 11 rfl)) rSs_nil))) (rSs_cons (rS_if (rT_cmp o_le (rE_bin o_sub (rE_loc k 3 rfl) (rE_loc k 2 rfl)) (rE_int _ _ _)) (rSs_cons (rS_if (rT_cmp o_gt (rE_loc k 2 rfl) (rE_int _ _ _)) (rSs_cons rS_brk rSs_nil) rSs_nil) (rSs_cons (rS_if (rT_cmp (o_eq k) (rE_loc k 3 rfl) (rE_loc k 2 rfl)) (rSs_cons rS_brk rSs_nil) rSs_nil) (rSs_cons (rS_if (rT_plain (rE_loc k 8 rfl)) (rSs_cons rS_brk rSs_nil) rSs_nil) (rSs_cons (rS_assL k 8 rfl (rE_bool _ _ _)) rSs_nil)))) rSs_nil) rSs_nil)))))))) (rSs_cons (rS_while k 100 rT_true (rSs_cons (rS_assL k 12 rfl (rE_idx (rE_loc k 1 rfl) (rE_loc k 2 rfl))) (rSs_cons (rS_if (rT_cmp o_ge (rE_loc k 6 rfl) (rE_len k (.cons (rE_am k 0 (rE_loc k 12 rfl) rfl) (fun _ => rfl) .nil) (by kernel_rfl) (noLen _))) (rSs_cons (rS_assF k 1 rfl rfl (rE_bin o_sub (rE_loc k 4 rfl) (rE_len k (.cons (rE_am k 0 (rE_loc k 12 rfl) rfl) (fun _ => rfl) .nil) (by kernel_rfl) (noLen _)))) (rSs_cons (rS_ret (rE_am k 2 (rE_loc k 12 rfl) rfl)) rSs_nil)) rSs_nil) (rSs_cons (rS_assL k 2 rfl (rE_am k 1 (rE_loc k 12 rfl) rfl)) (rSs_cons (rS_if (rT_cmp o_lt (rE_loc k 2 rfl) (rE_int _ _ _)) (rSs_cons (rS_ret (rE_int _ _ _)) rSs_nil) rSs_nil) rSs_nil))))) (rSs_cons (rS_ret (rE_neg (rE_int _ _ _))) rSs_nil))))))))))
noncomputable def s_replace_s : SF := (sSeq (sAssL 4 (eBin gSub (eFun gLen [(eL 3)]) (eBin gSub (eL 2) (eL 1)))) (sSeq (sAssF 0 (eBin gAdd (eBin gAdd (eSliceSS (eF 0) (eK (.int 0)) (eL 1)) (eL 3)) (eSliceSN (eF 0) (eL 2)))) (sSeq (sAugF gAddI 2 (eL 4)) (sSeq (sIf (tE (eBin gGe (eF 1) (eL 2))) (sSeq (sAugF gAddI 1 (eL 4)) sNil) (sSeq (sIf (tE (eBin gGt (eF 1) (eL 1))) (sSeq (sAssF 1 (eL 1)) sNil) sNil) sNil)) (sSeq (sRet (eL 4)) sNil)))))
set_option maxHeartbeats 2000000 in
theorem spec_replace_s : F_replace_s.Spec 700 s_replace_s := fun d hcl k hd =>
  have hd : (d.cx F_replace_s).A.depth < 700 := hd
  (rSs_cons (rS_assL k 4 rfl (rE_bin o_sub (rE_len k (.cons (rE_loc k 3 rfl) (fun _ => rfl) .nil) (by kernel_rfl) (noLen _)) (rE_bin o_sub (rE_loc k 2 rfl) (rE_loc k 1 rfl)))) (rSs_cons (rS_assF k 0 rfl rfl (rE_bin o_addI (rE_bin o_addI (rE_sliceSS (rE_fld k 0 rfl rfl) (rE_int _ _ _) (rE_loc k 1 rfl)) (rE_loc k 3 rfl)) (rE_sliceSN (rE_fld k 0 rfl rfl) (rE_loc k 2 rfl)))) (rSs_cons (rS_augF k 2 rfl rfl i_add (rE_loc k 4 rfl)) (rSs_cons (rS_if (rT_cmp o_ge (rE_fld k 1 rfl rfl) (rE_loc k 2 rfl)) (rSs_cons (rS_augF k 1 rfl rfl i_add (rE_loc k 4 rfl)) rSs_nil) (rSs_cons (rS_if (rT_cmp o_gt (rE_fld k 1 rfl rfl) (rE_loc k 1 rfl)) (rSs_cons (rS_assF k 1 rfl rfl (rE_loc k 1 rfl)) rSs_nil) rSs_nil) rSs_nil)) (rSs_cons (rS_ret (rE_loc k 4 rfl)) rSs_nil)))))
noncomputable def s_slice_from : SF := (sSeq (sAssert (tE (eBin gGe (eF 4) (eK (.int 0))))) (sSeq (sAssert (tE (eBin gLe (eF 4) (eF 5)))) (sSeq (sAssert (tE (eBin gLe (eF 5) (eF 2)))) (sSeq (sAssert (tE (eBin gLe (eF 2) (eFun gLen [(eF 0)])))) (sSeq (sExpr (eMeth 5 4 s_replace_s [(eF 4), (eF 5), (eL 1)])) (sSeq (sAssF 5 (eBin gAdd (eF 4) (eFun gLen [(eL 1)]))) sNil))))))
set_option maxHeartbeats 2000000 in
theorem spec_slice_from : F_slice_from.Spec 680 s_slice_from := fun d hcl k hd =>
  have hd : (d.cx F_slice_from).A.depth < 680 := hd
  (rSs_cons (rS_assert (rT_cmp o_ge (rE_fld k 4 rfl rfl) (rE_int _ _ _))) (rSs_cons (rS_assert (rT_cmp o_le (rE_fld k 4 rfl rfl) (rE_fld k 5 rfl rfl))) (rSs_cons (rS_assert (rT_cmp o_le (rE_fld k 5 rfl rfl) (rE_fld k 2 rfl rfl))) (rSs_cons (rS_assert (rT_cmp o_le (rE_fld k 2 rfl rfl) (rE_len k (.cons (rE_fld k 0 rfl rfl) (fun _ => rfl) .nil) (by kernel_rfl) (noLen _)))) (rSs_cons (rS_expr k (rE_meth k ok_replace_s spec_replace_s (by omega) (by omega) (.cons (rE_fld k 4 rfl rfl) (fun _ => rfl) (.cons (rE_fld k 5 rfl rfl) (fun _ => rfl) (.cons (rE_loc k 1 rfl) (fun _ => rfl) .nil))) rfl nf_replace_s fi_replace_s pl_replace_s)) (rSs_cons (rS_assF k 5 rfl rfl (rE_bin o_addI (rE_fld k 4 rfl rfl) (rE_len k (.cons (rE_loc k 1 rfl) (fun _ => rfl) .nil) (by kernel_rfl) (noLen _)))) rSs_nil))))))
noncomputable def s_slice_del : SF := (sSeq (sRet (eMeth 2 2 s_slice_from [(eK (.str []))])) sNil)
set_option maxHeartbeats 2000000 in
theorem spec_slice_del : F_slice_del.Spec 660 s_slice_del := fun d hcl k hd =>
  have hd : (d.cx F_slice_del).A.depth < 660 := hd
  (rSs_cons (rS_ret (rE_meth k ok_slice_from spec_slice_from (by omega) (by omega) (.cons (rE_strL (by decide +kernel)) (fun _ => rfl) .nil) rfl nf_slice_from fi_slice_from pl_slice_from)) rSs_nil)
noncomputable def s_insert : SF := (sSeq (sAssL 4 (eMeth 5 4 s_replace_s [(eL 1), (eL 2), (eL 3)])) (sSeq (sIf (tE (eBin gLe (eL 1) (eF 4))) (sSeq (sAugF gAddI 4 (eL 4)) sNil) sNil) (sSeq (sIf (tE (eBin gLe (eL 1) (eF 5))) (sSeq (sAugF gAddI 5 (eL 4)) sNil) sNil) sNil)))
set_option maxHeartbeats 2000000 in
theorem spec_insert : F_insert.Spec 680 s_insert := fun d hcl k hd =>
  have hd : (d.cx F_insert).A.depth < 680 := hd
  (rSs_cons (rS_assL k 4 rfl (rE_meth k ok_replace_s spec_replace_s (by omega) (by omega) (.cons (rE_loc k 1 rfl) (fun _ => rfl) (.cons (rE_loc k 2 rfl) (fun _ => rfl) (.cons (rE_loc k 3 rfl) (fun _ => rfl) .nil))) rfl nf_replace_s fi_replace_s pl_replace_s)) (rSs_cons (rS_if (rT_cmp o_le (rE_loc k 1 rfl) (rE_fld k 4 rfl rfl)) (rSs_cons (rS_augF k 4 rfl rfl i_add (rE_loc k 4 rfl)) rSs_nil) rSs_nil) (rSs_cons (rS_if (rT_cmp o_le (rE_loc k 1 rfl) (rE_fld k 5 rfl rfl)) (rSs_cons (rS_augF k 5 rfl rfl i_add (rE_loc k 4 rfl)) rSs_nil) rSs_nil) rSs_nil)))
noncomputable def s_r_shortv : SF := (sSeq (sIf (tNot (tE (eMeth 2 2 s_out_grouping_b [(eK (.sset vowelsW))]))) (sSeq (sRet (eK (.bool false))) sNil) sNil) (sSeq (sIf (tNot (tE (eMeth 2 2 s_in_grouping_b [(eK (.sset vowelsG))]))) (sSeq (sRet (eK (.bool false))) sNil) sNil) (sSeq (sRet (eMeth 2 2 s_out_grouping_b [(eK (.sset vowelsG))])) sNil)))
set_option maxHeartbeats 2000000 in
theorem spec_r_shortv : F_r_shortv.Spec 680 s_r_shortv := fun d hcl k hd =>
  have hd : (d.cx F_r_shortv).A.depth < 680 := hd
  (rSs_cons (rS_if (rT_not (rT_plain (rE_meth k ok_out_grouping_b spec_out_grouping_b (by omega) (by omega) (.cons (rE_gw k (by kernel_rfl)) (fun _ => rfl) .nil) rfl nf_out_grouping_b fi_out_grouping_b pl_out_grouping_b))) (rSs_cons (rS_ret (rE_bool _ _ _)) rSs_nil) rSs_nil) (rSs_cons (rS_if (rT_not (rT_plain (rE_meth k ok_in_grouping_b spec_in_grouping_b (by omega) (by omega) (.cons (rE_gv k (by kernel_rfl)) (fun _ => rfl) .nil) rfl nf_in_grouping_b fi_in_grouping_b pl_in_grouping_b))) (rSs_cons (rS_ret (rE_bool _ _ _)) rSs_nil) rSs_nil) (rSs_cons (rS_ret (rE_meth k ok_out_grouping_b spec_out_grouping_b (by omega) (by omega) (.cons (rE_gv k (by kernel_rfl)) (fun _ => rfl) .nil) rfl nf_out_grouping_b fi_out_grouping_b pl_out_grouping_b)) rSs_nil)))
noncomputable def s_r_R1 : SF := (sSeq (sRet (eBin gLe (eF 6) (eF 1))) sNil)
set_option maxHeartbeats 2000000 in
theorem spec_r_R1 : F_r_R1.Spec 700 s_r_R1 := fun d hcl k hd =>
  have hd : (d.cx F_r_R1).A.depth < 700 := hd
  (rSs_cons (rS_ret (rE_cmp o_le (rE_fld k 6 rfl rfl) (rE_fld k 1 rfl rfl))) rSs_nil)
noncomputable def s_r_R2 : SF := (sSeq (sRet (eBin gLe (eF 7) (eF 1))) sNil)
set_option maxHeartbeats 2000000 in
theorem spec_r_R2 : F_r_R2.Spec 700 s_r_R2 := fun d hcl k hd =>
  have hd : (d.cx F_r_R2).A.depth < 700 := hd
  (rSs_cons (rS_ret (rE_cmp o_le (rE_fld k 7 rfl rfl) (rE_fld k 1 rfl rfl))) rSs_nil)
noncomputable def s_r_Step_1a : SF := (sSeq (sAssF 5 (eF 1)) (sSeq (sAssL 1 (eMeth 14 2 s_find_among_b [(eK v_a_0)])) (sSeq (sIf (tE (eBin gEq (eL 1) (eK (.int 0)))) (sSeq (sRet (eK (.bool false))) sNil) sNil) (sSeq (sAssF 4 (eF 1)) (sSeq (sIf (tE (eBin gGt (eL 1) (eK (.int 0)))) (sSeq (sExpr (eMeth 2 2 s_slice_from [(eBin gIdx (eK v_as_0) (eBin gSub (eL 1) (eK (.int 1))))])) sNil) sNil) (sSeq (sRet (eK (.bool true))) sNil))))))
set_option maxHeartbeats 2000000 in
theorem spec_r_Step_1a : F_r_Step_1a.Spec 660 s_r_Step_1a := fun d hcl k hd =>
  have hd : (d.cx F_r_Step_1a).A.depth < 660 := hd
  (rSs_cons (rS_assF k 5 rfl rfl (rE_fld k 1 rfl rfl)) (rSs_cons (rS_assL k 1 rfl (rE_meth k ok_find_among_b spec_find_among_b (by omega) (by omega) (.cons (r_a_0 k (by kernel_rfl)) (fun _ => rfl) .nil) rfl nf_find_among_b fi_find_among_b pl_find_among_b)) (rSs_cons (rS_if (rT_cmp (o_eq k) (rE_loc k 1 rfl) (rE_int _ _ _)) (rSs_cons (rS_ret (rE_bool _ _ _)) rSs_nil) rSs_nil) (rSs_cons (rS_assF k 4 rfl rfl (rE_fld k 1 rfl rfl)) (rSs_cons (rS_if (rT_cmp o_gt (rE_loc k 1 rfl) (rE_int _ _ _)) (rSs_cons (rS_expr k (rE_meth k ok_slice_from spec_slice_from (by omega) (by omega) (.cons (rE_idx (r_as_0 k (by kernel_rfl)) (rE_bin o_sub (rE_loc k 1 rfl) (rE_int _ _ _))) (fun _ => rfl) .nil) rfl nf_slice_from fi_slice_from pl_slice_from)) rSs_nil) rSs_nil) (rSs_cons (rS_ret (rE_bool _ _ _)) rSs_nil))))))
noncomputable def s_r_Step_1b : SF := (sSeq (sAssF 5 (eF 1)) (sSeq (sAssL 1 (eMeth 14 2 s_find_among_b [(eK v_a_2)])) (sSeq (sIf (tE (eBin gEq (eL 1) (eK (.int 0)))) (sSeq (sRet (eK (.bool false))) sNil) sNil) (sSeq (sAssF 4 (eF 1)) (sSeq (sIf (tE (eBin gEq (eL 1) (eK (.int 1)))) (sSeq (sIf (tNot (tE (eMeth 1 1 s_r_R1 []))) (sSeq (sRet (eK (.bool false))) sNil) sNil) (sSeq (sExpr (eMeth 2 2 s_slice_from [(eK (.str [101, 101]))])) sNil)) (sSeq (sAssL 2 (eBin gSub (eF 2) (eF 1))) (sSeq (sIf (tNot (tE (eMeth 2 2 s_go_out_grouping_b [(eK (.sset vowelsG))]))) (sSeq (sRet (eK (.bool false))) sNil) sNil) (sSeq (sAugF gSub 1 (eK (.int 1))) (sSeq (sAssF 1 (eBin gSub (eF 2) (eL 2))) (sSeq (sExpr (eMeth 1 1 s_slice_del [])) (sSeq (sAssL 3 (eBin gSub (eF 2) (eF 1))) (sSeq (sAssL 1 (eMeth 14 2 s_find_among_b [(eK v_a_1)])) (sSeq (sAssF 1 (eBin gSub (eF 2) (eL 3))) (sSeq (sIf (tE (eBin gEq (eL 1) (eK (.int 1)))) (sSeq (sAssL 4 (eF 1)) (sSeq (sExpr (eMeth 5 4 s_insert [(eF 1), (eF 1), (eK (.str [101]))])) (sSeq (sAssF 1 (eL 4)) sNil))) (sSeq (sIf (tE (eBin gEq (eL 1) (eK (.int 2)))) (sSeq (sAssF 5 (eF 1)) (sSeq (sIf (tE (eBin gLe (eF 1) (eF 3))) (sSeq (sRet (eK (.bool false))) sNil) sNil) (sSeq (sAugF gSub 1 (eK (.int 1))) (sSeq (sAssF 4 (eF 1)) (sSeq (sExpr (eMeth 1 1 s_slice_del [])) sNil))))) (sSeq (sIf (tE (eBin gNe (eF 1) (eF 6))) (sSeq (sRet (eK (.bool false))) sNil) sNil) (sSeq (sAssL 5 (eBin gSub (eF 2) (eF 1))) (sSeq (sIf (tNot (tE (eMeth 1 1 s_r_shortv []))) (sSeq (sRet (eK (.bool false))) sNil) sNil) (sSeq (sAssF 1 (eBin gSub (eF 2) (eL 5))) (sSeq (sAssL 4 (eF 1)) (sSeq (sExpr (eMeth 5 4 s_insert [(eF 1), (eF 1), (eK (.str [101]))])) (sSeq (sAssF 1 (eL 4)) sNil)))))))) sNil)) sNil)))))))))) (sSeq (sRet (eK (.bool true))) sNil))))))
set_option maxHeartbeats 2000000 in
theorem spec_r_Step_1b : F_r_Step_1b.Spec 640 s_r_Step_1b := fun d hcl k hd =>
  have hd : (d.cx F_r_Step_1b).A.depth < 640 := hd
  (rSs_cons (rS_assF k 5 rfl rfl (rE_fld k 1 rfl rfl)) (rSs_cons (rS_assL k 1 rfl (rE_meth k ok_find_among_b spec_find_among_b (by omega) (by omega) (.cons (r_a_2 k (by kernel_rfl)) (fun _ => rfl) .nil) rfl nf_find_among_b fi_find_among_b pl_find_among_b)) (rSs_cons (rS_if (rT_cmp (o_eq k) (rE_loc k 1 rfl) (rE_int _ _ _)) (rSs_cons (rS_ret (rE_bool _ _ _)) rSs_nil) rSs_nil) (rSs_cons (rS_assF k 4 rfl rfl (rE_fld k 1 rfl rfl)) (rSs_cons (rS_if (rT_cmp (o_eq k) (rE_loc k 1 rfl) (rE_int _ _ _)) (rSs_cons (rS_if (rT_not (rT_plain (rE_meth k ok_r_R1 spec_r_R1 (by omega) (by omega) .nil rfl nf_r_R1 fi_r_R1 pl_r_R1))) (rSs_cons (rS_ret (rE_bool _ _ _)) rSs_nil) rSs_nil) (rSs_cons (rS_expr k (rE_meth k ok_slice_from spec_slice_from (by omega) (by omega) (.cons (rE_strL (by decide +kernel)) (fun _ => rfl) .nil) rfl nf_slice_from fi_slice_from pl_slice_from)) rSs_nil)) (rSs_cons (rS_assL k 2 rfl (rE_bin o_sub (rE_fld k 2 rfl rfl) (rE_fld k 1 rfl rfl))) (rSs_cons (rS_if (rT_not (rT_plain (rE_meth k ok_go_out_grouping_b spec_go_out_grouping_b (by omega) (by omega) (.cons (rE_gv k (by kernel_rfl)) (fun _ => rfl) .nil) rfl nf_go_out_grouping_b fi_go_out_grouping_b pl_go_out_grouping_b))) (rSs_cons (rS_ret (rE_bool _ _ _)) rSs_nil) rSs_nil) (rSs_cons (rS_augF k 1 rfl rfl i_sub (rE_int _ _ _)) (rSs_cons (rS_assF k 1 rfl rfl (rE_bin o_sub (rE_fld k 2 rfl rfl) (rE_loc k 2 rfl))) (rSs_cons (rS_expr k (rE_meth k ok_slice_del spec_slice_del (by omega) (by omega) .nil rfl nf_slice_del fi_slice_del pl_slice_del)) (rSs_cons (rS_assL k 3 rfl (rE_bin o_sub (rE_fld k 2 rfl rfl) (rE_fld k 1 rfl rfl))) (rSs_cons (rS_assL k 1 rfl (rE_meth k ok_find_among_b spec_find_among_b (by omega) (by omega) (.cons (r_a_1 k (by kernel_rfl)) (fun _ => rfl) .nil) rfl nf_find_among_b fi_find_among_b pl_find_among_b)) (rSs_cons (rS_assF k 1 rfl rfl (rE_bin o_sub (rE_fld k 2 rfl rfl) (rE_loc k 3 rfl))) (rSs_cons (rS_if (rT_cmp (o_eq k) (rE_loc k 1 rfl) (rE_int _ _ _)) (rSs_cons (rS_assL k 4 rfl (rE_fld k 1 rfl rfl)) (rSs_cons (rS_expr k (rE_meth k ok_insert spec_insert (by omega) (by omega) (.cons (rE_fld k 1 rfl rfl) (fun _ => rfl) (.cons (rE_fld k 1 rfl rfl) (fun _ => rfl) (.cons (rE_strL (by decide +kernel)) (fun _ => rfl) .nil))) rfl nf_insert fi_insert pl_insert)) (rSs_cons (rS_assF k 1 rfl rfl (rE_loc k 4 rfl)) rSs_nil))) (rSs_cons (rS_if (rT_cmp (o_eq k) (rE_loc k 1 rfl) (rE_int _ _ _)) (rSs_cons (rS_assF k 5 rfl rfl (rE_fld k 1 rfl rfl)) (rSs_cons (rS_if (rT_cmp o_le (rE_fld k 1 rfl rfl) (rE_fld k 3 rfl rfl)) (rSs_cons (rS_ret (rE_bool _ _ _)) rSs_nil) rSs_nil) (rSs_cons (rS_augF k 1 rfl rfl i_sub (rE_int _ _ _)) (rSs_cons (rS_assF k 4 rfl rfl (rE_fld k 1 rfl rfl)) (rSs_cons (rS_expr k (rE_meth k ok_slice_del spec_slice_del (by omega) (by omega) .nil rfl nf_slice_del fi_slice_del pl_slice_del)) rSs_nil))))) (rSs_cons (rS_if (rT_cmp (o_ne k) (rE_fld k 1 rfl rfl) (rE_fld k 6 rfl rfl)) (rSs_cons (rS_ret (rE_bool _ _ _)) rSs_nil) rSs_nil) (rSs_cons (rS_assL k 5 rfl (rE_bin o_sub (rE_fld k 2 rfl rfl) (rE_fld k 1 rfl rfl))) (rSs_cons (rS_if (rT_not (rT_plain (rE_meth k ok_r_shortv spec_r_shortv (by omega) (by omega) .nil rfl nf_r_shortv fi_r_shortv pl_r_shortv))) (rSs_cons (rS_ret (rE_bool _ _ _)) rSs_nil) rSs_nil) (rSs_cons (rS_assF k 1 rfl rfl (rE_bin o_sub (rE_fld k 2 rfl rfl) (rE_loc k 5 rfl))) (rSs_cons (rS_assL k 4 rfl (rE_fld k 1 rfl rfl)) (rSs_cons (rS_expr k (rE_meth k ok_insert spec_insert (by omega) (by omega) (.cons (rE_fld k 1 rfl rfl) (fun _ => rfl) (.cons (rE_fld k 1 rfl rfl) (fun _ => rfl) (.cons (rE_strL (by decide +kernel)) (fun _ => rfl) .nil))) rfl nf_insert fi_insert pl_insert)) (rSs_cons (rS_assF k 1 rfl rfl (rE_loc k 4 rfl)) rSs_nil)))))))) rSs_nil)) rSs_nil)))))))))) (rSs_cons (rS_ret (rE_bool _ _ _)) rSs_nil))))))
noncomputable def s_r_Step_1c : SF := (sSeq (sAssF 5 (eF 1)) (sSeq (sWhile 100 (tK true) (sSeq (sTry 539 (sSeq (sIf (tOr (tE (eBin gLe (eF 1) (eF 3))) (tOr (tE (eBin gNe (eBin gIdx (eF 0) (eBin gSub (eF 1) (eK (.int 1)))) (eK (.str [121])))) (tK false))) (sSeq (sRaise 539) sNil) sNil) (sSeq (sAugF gSub 1 (eK (.int 1))) (sSeq sBrk sNil)))) (sSeq (sIf (tOr (tE (eBin gLe (eF 1) (eF 3))) (tOr (tE (eBin gNe (eBin gIdx (eF 0) (eBin gSub (eF 1) (eK (.int 1)))) (eK (.str [89])))) (tK false))) (sSeq (sRet (eK (.bool false))) sNil) sNil) (sSeq (sAugF gSub 1 (eK (.int 1))) (sSeq sBrk sNil))))) (sSeq (sAssF 4 (eF 1)) (sSeq (sIf (tNot (tE (eMeth 2 2 s_go_out_grouping_b [(eK (.sset vowelsG))]))) (sSeq (sRet (eK (.bool false))) sNil) sNil) (sSeq (sAugF gSub 1 (eK (.int 1))) (sSeq (sExpr (eMeth 2 2 s_slice_from [(eK (.str [105]))])) (sSeq (sRet (eK (.bool true))) sNil)))))))
set_option maxHeartbeats 2000000 in
theorem spec_r_Step_1c : F_r_Step_1c.Spec 660 s_r_Step_1c := fun d hcl k hd =>
  have hd : (d.cx F_r_Step_1c).A.depth < 660 := hd
  (rSs_cons (rS_assF k 5 rfl rfl (rE_fld k 1 rfl rfl)) (rSs_cons (rS_while k 100 rT_true (rSs_cons (rS_try k 539 (rSs_cons (rS_if (rT_or (rT_cmp o_le (rE_fld k 1 rfl rfl) (rE_fld k 3 rfl rfl)) (rT_or (rT_cmp (o_ne k) (rE_idx (rE_fld k 0 rfl rfl) (rE_bin o_sub (rE_fld k 1 rfl rfl) (rE_int _ _ _))) (rE_strL (by decide +kernel))) rT_or0)) (rSs_cons (rS_raise k 539 (lab0g _) (lab0e _) (by kernel_rfl) hcl) rSs_nil) rSs_nil) (rSs_cons (rS_augF k 1 rfl rfl i_sub (rE_int _ _ _)) (rSs_cons rS_brk rSs_nil))) (lab0g _) (lab0e _) (by kernel_rfl)) (rSs_cons (rS_if (rT_or (rT_cmp o_le (rE_fld k 1 rfl rfl) (rE_fld k 3 rfl rfl)) (rT_or (rT_cmp (o_ne k) (rE_idx (rE_fld k 0 rfl rfl) (rE_bin o_sub (rE_fld k 1 rfl rfl) (rE_int _ _ _))) (rE_strL (by decide +kernel))) rT_or0)) (rSs_cons (rS_ret (rE_bool _ _ _)) rSs_nil) rSs_nil) (rSs_cons (rS_augF k 1 rfl rfl i_sub (rE_int _ _ _)) (rSs_cons rS_brk rSs_nil))))) (rSs_cons (rS_assF k 4 rfl rfl (rE_fld k 1 rfl rfl)) (rSs_cons (rS_if (rT_not (rT_plain (rE_meth k ok_go_out_grouping_b spec_go_out_grouping_b (by omega) (by omega) (.cons (rE_gv k (by kernel_rfl)) (fun _ => rfl) .nil) rfl nf_go_out_grouping_b fi_go_out_grouping_b pl_go_out_grouping_b))) (rSs_cons (rS_ret (rE_bool _ _ _)) rSs_nil) rSs_nil) (rSs_cons (rS_augF k 1 rfl rfl i_sub (rE_int _ _ _)) (rSs_cons (rS_expr k (rE_meth k ok_slice_from spec_slice_from (by omega) (by omega) (.cons (rE_strL (by decide +kernel)) (fun _ => rfl) .nil) rfl nf_slice_from fi_slice_from pl_slice_from)) (rSs_cons (rS_ret (rE_bool _ _ _)) rSs_nil)))))))
noncomputable def s_r_Step_2 : SF := (sSeq (sAssF 5 (eF 1)) (sSeq (sAssL 1 (eMeth 14 2 s_find_among_b [(eK v_a_3)])) (sSeq (sIf (tE (eBin gEq (eL 1) (eK (.int 0)))) (sSeq (sRet (eK (.bool false))) sNil) sNil) (sSeq (sAssF 4 (eF 1)) (sSeq (sIf (tNot (tE (eMeth 1 1 s_r_R1 []))) (sSeq (sRet (eK (.bool false))) sNil) sNil) (sSeq (sExpr (eMeth 2 2 s_slice_from [(eBin gIdx (eK v_as_3) (eBin gSub (eL 1) (eK (.int 1))))])) (sSeq (sRet (eK (.bool true))) sNil)))))))
set_option maxHeartbeats 2000000 in
theorem spec_r_Step_2 : F_r_Step_2.Spec 660 s_r_Step_2 := fun d hcl k hd =>
  have hd : (d.cx F_r_Step_2).A.depth < 660 := hd
  (rSs_cons (rS_assF k 5 rfl rfl (rE_fld k 1 rfl rfl)) (rSs_cons (rS_assL k 1 rfl (rE_meth k ok_find_among_b spec_find_among_b (by omega) (by omega) (.cons (r_a_3 k (by kernel_rfl)) (fun _ => rfl) .nil) rfl nf_find_among_b fi_find_among_b pl_find_among_b)) (rSs_cons (rS_if (rT_cmp (o_eq k) (rE_loc k 1 rfl) (rE_int _ _ _)) (rSs_cons (rS_ret (rE_bool _ _ _)) rSs_nil) rSs_nil) (rSs_cons (rS_assF k 4 rfl rfl (rE_fld k 1 rfl rfl)) (rSs_cons (rS_if (rT_not (rT_plain (rE_meth k ok_r_R1 spec_r_R1 (by omega) (by omega) .nil rfl nf_r_R1 fi_r_R1 pl_r_R1))) (rSs_cons (rS_ret (rE_bool _ _ _)) rSs_nil) rSs_nil) (rSs_cons (rS_expr k (rE_meth k ok_slice_from spec_slice_from (by omega) (by omega) (.cons (rE_idx (r_as_3 k (by kernel_rfl)) (rE_bin o_sub (rE_loc k 1 rfl) (rE_int _ _ _))) (fun _ => rfl) .nil) rfl nf_slice_from fi_slice_from pl_slice_from)) (rSs_cons (rS_ret (rE_bool _ _ _)) rSs_nil)))))))
noncomputable def s_r_Step_3 : SF := (sSeq (sAssF 5 (eF 1)) (sSeq (sAssL 1 (eMeth 14 2 s_find_among_b [(eK v_a_4)])) (sSeq (sIf (tE (eBin gEq (eL 1) (eK (.int 0)))) (sSeq (sRet (eK (.bool false))) sNil) sNil) (sSeq (sAssF 4 (eF 1)) (sSeq (sIf (tNot (tE (eMeth 1 1 s_r_R1 []))) (sSeq (sRet (eK (.bool false))) sNil) sNil) (sSeq (sExpr (eMeth 2 2 s_slice_from [(eBin gIdx (eK v_as_4) (eBin gSub (eL 1) (eK (.int 1))))])) (sSeq (sRet (eK (.bool true))) sNil)))))))
set_option maxHeartbeats 2000000 in
theorem spec_r_Step_3 : F_r_Step_3.Spec 660 s_r_Step_3 := fun d hcl k hd =>
  have hd : (d.cx F_r_Step_3).A.depth < 660 := hd
  (rSs_cons (rS_assF k 5 rfl rfl (rE_fld k 1 rfl rfl)) (rSs_cons (rS_assL k 1 rfl (rE_meth k ok_find_among_b spec_find_among_b (by omega) (by omega) (.cons (r_a_4 k (by kernel_rfl)) (fun _ => rfl) .nil) rfl nf_find_among_b fi_find_among_b pl_find_among_b)) (rSs_cons (rS_if (rT_cmp (o_eq k) (rE_loc k 1 rfl) (rE_int _ _ _)) (rSs_cons (rS_ret (rE_bool _ _ _)) rSs_nil) rSs_nil) (rSs_cons (rS_assF k 4 rfl rfl (rE_fld k 1 rfl rfl)) (rSs_cons (rS_if (rT_not (rT_plain (rE_meth k ok_r_R1 spec_r_R1 (by omega) (by omega) .nil rfl nf_r_R1 fi_r_R1 pl_r_R1))) (rSs_cons (rS_ret (rE_bool _ _ _)) rSs_nil) rSs_nil) (rSs_cons (rS_expr k (rE_meth k ok_slice_from spec_slice_from (by omega) (by omega) (.cons (rE_idx (r_as_4 k (by kernel_rfl)) (rE_bin o_sub (rE_loc k 1 rfl) (rE_int _ _ _))) (fun _ => rfl) .nil) rfl nf_slice_from fi_slice_from pl_slice_from)) (rSs_cons (rS_ret (rE_bool _ _ _)) rSs_nil)))))))
noncomputable def s_r_Step_4 : SF := (sSeq (sAssF 5 (eF 1)) (sSeq (sAssL 1 (eMeth 14 2 s_find_among_b [(eK v_a_5)])) (sSeq (sIf (tE (eBin gEq (eL 1) (eK (.int 0)))) (sSeq (sRet (eK (.bool false))) sNil) sNil) (sSeq (sAssF 4 (eF 1)) (sSeq (sIf (tNot (tE (eMeth 1 1 s_r_R2 []))) (sSeq (sRet (eK (.bool false))) sNil) sNil) (sSeq (sIf (tE (eBin gEq (eL 1) (eK (.int 1)))) (sSeq (sExpr (eMeth 1 1 s_slice_del [])) sNil) (sSeq (sWhile 100 (tK true) (sSeq (sTry 539 (sSeq (sIf (tOr (tE (eBin gLe (eF 1) (eF 3))) (tOr (tE (eBin gNe (eBin gIdx (eF 0) (eBin gSub (eF 1) (eK (.int 1)))) (eK (.str [115])))) (tK false))) (sSeq (sRaise 539) sNil) sNil) (sSeq (sAugF gSub 1 (eK (.int 1))) (sSeq sBrk sNil)))) (sSeq (sIf (tOr (tE (eBin gLe (eF 1) (eF 3))) (tOr (tE (eBin gNe (eBin gIdx (eF 0) (eBin gSub (eF 1) (eK (.int 1)))) (eK (.str [116])))) (tK false))) (sSeq (sRet (eK (.bool false))) sNil) sNil) (sSeq (sAugF gSub 1 (eK (.int 1))) (sSeq sBrk sNil))))) (sSeq (sExpr (eMeth 1 1 s_slice_del [])) sNil))) (sSeq (sRet (eK (.bool true))) sNil)))))))
set_option maxHeartbeats 2000000 in
theorem spec_r_Step_4 : F_r_Step_4.Spec 640 s_r_Step_4 := fun d hcl k hd =>
  have hd : (d.cx F_r_Step_4).A.depth < 640 := hd
  (rSs_cons (rS_assF k 5 rfl rfl (rE_fld k 1 rfl rfl)) (rSs_cons (rS_assL k 1 rfl (rE_meth k ok_find_among_b spec_find_among_b (by omega) (by omega) (.cons (r_a_5 k (by kernel_rfl)) (fun _ => rfl) .nil) rfl nf_find_among_b fi_find_among_b pl_find_among_b)) (rSs_cons (rS_if (rT_cmp (o_eq k) (rE_loc k 1 rfl) (rE_int _ _ _)) (rSs_cons (rS_ret (rE_bool _ _ _)) rSs_nil) rSs_nil) (rSs_cons (rS_assF k 4 rfl rfl (rE_fld k 1 rfl rfl)) (rSs_cons (rS_if (rT_not (rT_plain (rE_meth k ok_r_R2 spec_r_R2 (by omega) (by omega) .nil rfl nf_r_R2 fi_r_R2 pl_r_R2))) (rSs_cons (rS_ret (rE_bool _ _ _)) rSs_nil) rSs_nil) (rSs_cons (rS_if (rT_cmp (o_eq k) (rE_loc k 1 rfl) (rE_int _ _ _)) (rSs_cons (rS_expr k (rE_meth k ok_slice_del spec_slice_del (by omega) (by omega) .nil rfl nf_slice_del fi_slice_del pl_slice_del)) rSs_nil) (rSs_cons (rS_while k 100 rT_true (rSs_cons (rS_try k 539 (rSs_cons (rS_if (rT_or (rT_cmp o_le (rE_fld k 1 rfl rfl) (rE_fld k 3 rfl rfl)) (rT_or (rT_cmp (o_ne k) (rE_idx (rE_fld k 0 rfl rfl) (rE_bin o_sub (rE_fld k 1 rfl rfl) (rE_int _ _ _))) (rE_strL (by decide +kernel))) rT_or0)) (rSs_cons (rS_raise k 539 (lab0g _) (lab0e _) (by kernel_rfl) hcl) rSs_nil) rSs_nil) (rSs_cons (rS_augF k 1 rfl rfl i_sub (rE_int _ _ _)) (rSs_cons rS_brk rSs_nil))) (lab0g _) (lab0e _) (by kernel_rfl)) (rSs_cons (rS_if (rT_or (rT_cmp o_le (rE_fld k 1 rfl rfl) (rE_fld k 3 rfl rfl)) (rT_or (rT_cmp (o_ne k) (rE_idx (rE_fld k 0 rfl rfl) (rE_bin o_sub (rE_fld k 1 rfl rfl) (rE_int _ _ _))) (rE_strL (by decide +kernel))) rT_or0)) (rSs_cons (rS_ret (rE_bool _ _ _)) rSs_nil) rSs_nil) (rSs_cons (rS_augF k 1 rfl rfl i_sub (rE_int _ _ _)) (rSs_cons rS_brk rSs_nil))))) (rSs_cons (rS_expr k (rE_meth k ok_slice_del spec_slice_del (by omega) (by omega) .nil rfl nf_slice_del fi_slice_del pl_slice_del)) rSs_nil))) (rSs_cons (rS_ret (rE_bool _ _ _)) rSs_nil)))))))
noncomputable def s_r_Step_5a : SF := (sSeq (sAssF 5 (eF 1)) (sSeq (sIf (tOr (tE (eBin gLe (eF 1) (eF 3))) (tOr (tE (eBin gNe (eBin gIdx (eF 0) (eBin gSub (eF 1) (eK (.int 1)))) (eK (.str [101])))) (tK false))) (sSeq (sRet (eK (.bool false))) sNil) sNil) (sSeq (sAugF gSub 1 (eK (.int 1))) (sSeq (sAssF 4 (eF 1)) (sSeq (sWhile 100 (tK true) (sSeq (sTry 539 (sSeq (sIf (tNot (tE (eMeth 1 1 s_r_R2 []))) (sSeq (sRaise 539) sNil) sNil) (sSeq sBrk sNil))) (sSeq (sIf (tNot (tE (eMeth 1 1 s_r_R1 []))) (sSeq (sRet (eK (.bool false))) sNil) sNil) (sSeq (sAssL 1 (eBin gSub (eF 2) (eF 1))) (sSeq (sTry 539 (sSeq (sIf (tNot (tE (eMeth 1 1 s_r_shortv []))) (sSeq (sRaise 539) sNil) sNil) (sSeq (sRet (eK (.bool false))) sNil))) (sSeq (sAssF 1 (eBin gSub (eF 2) (eL 1))) (sSeq sBrk sNil))))))) (sSeq (sExpr (eMeth 1 1 s_slice_del [])) (sSeq (sRet (eK (.bool true))) sNil)))))))
set_option maxHeartbeats 2000000 in
theorem spec_r_Step_5a : F_r_Step_5a.Spec 640 s_r_Step_5a := fun d hcl k hd =>
  have hd : (d.cx F_r_Step_5a).A.depth < 640 := hd
  (rSs_cons (rS_assF k 5 rfl rfl (rE_fld k 1 rfl rfl)) (rSs_cons (rS_if (rT_or (rT_cmp o_le (rE_fld k 1 rfl rfl) (rE_fld k 3 rfl rfl)) (rT_or (rT_cmp (o_ne k) (rE_idx (rE_fld k 0 rfl rfl) (rE_bin o_sub (rE_fld k 1 rfl rfl) (rE_int _ _ _))) (rE_strL (by decide +kernel))) rT_or0)) (rSs_cons (rS_ret (rE_bool _ _ _)) rSs_nil) rSs_nil) (rSs_cons (rS_augF k 1 rfl rfl i_sub (rE_int _ _ _)) (rSs_cons (rS_assF k 4 rfl rfl (rE_fld k 1 rfl rfl)) (rSs_cons (rS_while k 100 rT_true (rSs_cons (rS_try k 539 (rSs_cons (rS_if (rT_not (rT_plain (rE_meth k ok_r_R2 spec_r_R2 (by omega) (by omega) .nil rfl nf_r_R2 fi_r_R2 pl_r_R2))) (rSs_cons (rS_raise k 539 (lab0g _) (lab0e _) (by kernel_rfl) hcl) rSs_nil) rSs_nil) (rSs_cons rS_brk rSs_nil)) (lab0g _) (lab0e _) (by kernel_rfl)) (rSs_cons (rS_if (rT_not (rT_plain (rE_meth k ok_r_R1 spec_r_R1 (by omega) (by omega) .nil rfl nf_r_R1 fi_r_R1 pl_r_R1))) (rSs_cons (rS_ret (rE_bool _ _ _)) rSs_nil) rSs_nil) (rSs_cons (rS_assL k 1 rfl (rE_bin o_sub (rE_fld k 2 rfl rfl) (rE_fld k 1 rfl rfl))) (rSs_cons (rS_try k 539 (rSs_cons (rS_if (rT_not (rT_plain (rE_meth k ok_r_shortv spec_r_shortv (by omega) (by omega) .nil rfl nf_r_shortv fi_r_shortv pl_r_shortv))) (rSs_cons (rS_raise k 539 (lab0g _) (lab0e _) (by kernel_rfl) hcl) rSs_nil) rSs_nil) (rSs_cons (rS_ret (rE_bool _ _ _)) rSs_nil)) (lab0g _) (lab0e _) (by kernel_rfl)) (rSs_cons (rS_assF k 1 rfl rfl (rE_bin o_sub (rE_fld k 2 rfl rfl) (rE_loc k 1 rfl))) (rSs_cons rS_brk rSs_nil))))))) (rSs_cons (rS_expr k (rE_meth k ok_slice_del spec_slice_del (by omega) (by omega) .nil rfl nf_slice_del fi_slice_del pl_slice_del)) (rSs_cons (rS_ret (rE_bool _ _ _)) rSs_nil)))))))
noncomputable def s_r_Step_5b : SF := (sSeq (sAssF 5 (eF 1)) (sSeq (sIf (tOr (tE (eBin gLe (eF 1) (eF 3))) (tOr (tE (eBin gNe (eBin gIdx (eF 0) (eBin gSub (eF 1) (eK (.int 1)))) (eK (.str [108])))) (tK false))) (sSeq (sRet (eK (.bool false))) sNil) sNil) (sSeq (sAugF gSub 1 (eK (.int 1))) (sSeq (sAssF 4 (eF 1)) (sSeq (sIf (tNot (tE (eMeth 1 1 s_r_R2 []))) (sSeq (sRet (eK (.bool false))) sNil) sNil) (sSeq (sIf (tOr (tE (eBin gLe (eF 1) (eF 3))) (tOr (tE (eBin gNe (eBin gIdx (eF 0) (eBin gSub (eF 1) (eK (.int 1)))) (eK (.str [108])))) (tK false))) (sSeq (sRet (eK (.bool false))) sNil) sNil) (sSeq (sAugF gSub 1 (eK (.int 1))) (sSeq (sExpr (eMeth 1 1 s_slice_del [])) (sSeq (sRet (eK (.bool true))) sNil)))))))))
set_option maxHeartbeats 2000000 in
theorem spec_r_Step_5b : F_r_Step_5b.Spec 640 s_r_Step_5b := fun d hcl k hd =>
  have hd : (d.cx F_r_Step_5b).A.depth < 640 := hd
  (rSs_cons (rS_assF k 5 rfl rfl (rE_fld k 1 rfl rfl)) (rSs_cons (rS_if (rT_or (rT_cmp o_le (rE_fld k 1 rfl rfl) (rE_fld k 3 rfl rfl)) (rT_or (rT_cmp (o_ne k) (rE_idx (rE_fld k 0 rfl rfl) (rE_bin o_sub (rE_fld k 1 rfl rfl) (rE_int _ _ _))) (rE_strL (by decide +kernel))) rT_or0)) (rSs_cons (rS_ret (rE_bool _ _ _)) rSs_nil) rSs_nil) (rSs_cons (rS_augF k 1 rfl rfl i_sub (rE_int _ _ _)) (rSs_cons (rS_assF k 4 rfl rfl (rE_fld k 1 rfl rfl)) (rSs_cons (rS_if (rT_not (rT_plain (rE_meth k ok_r_R2 spec_r_R2 (by omega) (by omega) .nil rfl nf_r_R2 fi_r_R2 pl_r_R2))) (rSs_cons (rS_ret (rE_bool _ _ _)) rSs_nil) rSs_nil) (rSs_cons (rS_if (rT_or (rT_cmp o_le (rE_fld k 1 rfl rfl) (rE_fld k 3 rfl rfl)) (rT_or (rT_cmp (o_ne k) (rE_idx (rE_fld k 0 rfl rfl) (rE_bin o_sub (rE_fld k 1 rfl rfl) (rE_int _ _ _))) (rE_strL (by decide +kernel))) rT_or0)) (rSs_cons (rS_ret (rE_bool _ _ _)) rSs_nil) rSs_nil) (rSs_cons (rS_augF k 1 rfl rfl i_sub (rE_int _ _ _)) (rSs_cons (rS_expr k (rE_meth k ok_slice_del spec_slice_del (by omega) (by omega) .nil rfl nf_slice_del fi_slice_del pl_slice_del)) (rSs_cons (rS_ret (rE_bool _ _ _)) rSs_nil)))))))))
noncomputable def s_stem : SF := (sSeq (sAssL 1 (eK (.bool false))) (sSeq (sAssL 2 (eF 1)) (sSeq (sTry 539 (sSeq (sAssF 4 (eF 1)) (sSeq (sIf (tOr (tE (eBin gEq (eF 1) (eF 2))) (tOr (tE (eBin gNe (eBin gIdx (eF 0) (eF 1)) (eK (.str [121])))) (tK false))) (sSeq (sRaise 539) sNil) sNil) (sSeq (sAugF gAddI 1 (eK (.int 1))) (sSeq (sAssF 5 (eF 1)) (sSeq (sExpr (eMeth 2 2 s_slice_from [(eK (.str [89]))])) (sSeq (sAssL 1 (eK (.bool true))) sNil))))))) (sSeq (sAssF 1 (eL 2)) (sSeq (sAssL 3 (eF 1)) (sSeq (sTry 539 (sSeq (sWhile 100 (tK true) (sSeq (sAssL 4 (eF 1)) (sSeq (sTry 552 (sSeq (sWhile 100 (tK true) (sSeq (sAssL 5 (eF 1)) (sSeq (sTry 565 (sSeq (sIf (tNot (tE (eMeth 2 2 s_in_grouping [(eK (.sset vowelsG))]))) (sSeq (sRaise 565) sNil) sNil) (sSeq (sAssF 4 (eF 1)) (sSeq (sIf (tOr (tE (eBin gEq (eF 1) (eF 2))) (tOr (tE (eBin gNe (eBin gIdx (eF 0) (eF 1)) (eK (.str [121])))) (tK false))) (sSeq (sRaise 565) sNil) sNil) (sSeq (sAugF gAddI 1 (eK (.int 1))) (sSeq (sAssF 5 (eF 1)) (sSeq (sAssF 1 (eL 5)) (sSeq sBrk sNil)))))))) (sSeq (sAssF 1 (eL 5)) (sSeq (sIf (tE (eBin gGe (eF 1) (eF 2))) (sSeq (sRaise 552) sNil) sNil) (sSeq (sAugF gAddI 1 (eK (.int 1))) sNil)))))) (sSeq (sExpr (eMeth 2 2 s_slice_from [(eK (.str [89]))])) (sSeq (sAssL 1 (eK (.bool true))) (sSeq sCont sNil))))) (sSeq (sAssF 1 (eL 4)) (sSeq sBrk sNil))))) sNil)) (sSeq (sAssF 1 (eL 3)) (sSeq (sAssF 6 (eF 2)) (sSeq (sAssF 7 (eF 2)) (sSeq (sAssL 6 (eF 1)) (sSeq (sTry 539 (sSeq (sIf (tNot (tE (eMeth 2 2 s_go_out_grouping [(eK (.sset vowelsG))]))) (sSeq (sRaise 539) sNil) sNil) (sSeq (sAugF gAddI 1 (eK (.int 1))) (sSeq (sIf (tNot (tE (eMeth 2 2 s_go_in_grouping [(eK (.sset vowelsG))]))) (sSeq (sRaise 539) sNil) sNil) (sSeq (sAugF gAddI 1 (eK (.int 1))) (sSeq (sAssF 6 (eF 1)) (sSeq (sIf (tNot (tE (eMeth 2 2 s_go_out_grouping [(eK (.sset vowelsG))]))) (sSeq (sRaise 539) sNil) sNil) (sSeq (sAugF gAddI 1 (eK (.int 1))) (sSeq (sIf (tNot (tE (eMeth 2 2 s_go_in_grouping [(eK (.sset vowelsG))]))) (sSeq (sRaise 539) sNil) sNil) (sSeq (sAugF gAddI 1 (eK (.int 1))) (sSeq (sAssF 7 (eF 1)) sNil))))))))))) (sSeq (sAssF 1 (eL 6)) (sSeq (sAssF 3 (eF 1)) (sSeq (sAssF 1 (eF 2)) (sSeq (sAssL 7 (eBin gSub (eF 2) (eF 1))) (sSeq (sExpr (eMeth 2 1 s_r_Step_1a [])) (sSeq (sAssF 1 (eBin gSub (eF 2) (eL 7))) (sSeq (sAssL 8 (eBin gSub (eF 2) (eF 1))) (sSeq (sExpr (eMeth 6 1 s_r_Step_1b [])) (sSeq (sAssF 1 (eBin gSub (eF 2) (eL 8))) (sSeq (sAssL 9 (eBin gSub (eF 2) (eF 1))) (sSeq (sExpr (eMeth 1 1 s_r_Step_1c [])) (sSeq (sAssF 1 (eBin gSub (eF 2) (eL 9))) (sSeq (sAssL 10 (eBin gSub (eF 2) (eF 1))) (sSeq (sExpr (eMeth 2 1 s_r_Step_2 [])) (sSeq (sAssF 1 (eBin gSub (eF 2) (eL 10))) (sSeq (sAssL 11 (eBin gSub (eF 2) (eF 1))) (sSeq (sExpr (eMeth 2 1 s_r_Step_3 [])) (sSeq (sAssF 1 (eBin gSub (eF 2) (eL 11))) (sSeq (sAssL 12 (eBin gSub (eF 2) (eF 1))) (sSeq (sExpr (eMeth 2 1 s_r_Step_4 [])) (sSeq (sAssF 1 (eBin gSub (eF 2) (eL 12))) (sSeq (sAssL 13 (eBin gSub (eF 2) (eF 1))) (sSeq (sExpr (eMeth 2 1 s_r_Step_5a [])) (sSeq (sAssF 1 (eBin gSub (eF 2) (eL 13))) (sSeq (sAssL 14 (eBin gSub (eF 2) (eF 1))) (sSeq (sExpr (eMeth 1 1 s_r_Step_5b [])) (sSeq (sAssF 1 (eBin gSub (eF 2) (eL 14))) (sSeq (sAssF 1 (eF 3)) (sSeq (sAssL 15 (eF 1)) (sSeq (sTry 539 (sSeq (sIf (tNot (tE (eL 1))) (sSeq (sRaise 539) sNil) sNil) (sSeq (sWhile 100 (tK true) (sSeq (sAssL 16 (eF 1)) (sSeq (sTry 552 (sSeq (sWhile 100 (tK true) (sSeq (sAssL 17 (eF 1)) (sSeq (sTry 565 (sSeq (sAssF 4 (eF 1)) (sSeq (sIf (tOr (tE (eBin gEq (eF 1) (eF 2))) (tOr (tE (eBin gNe (eBin gIdx (eF 0) (eF 1)) (eK (.str [89])))) (tK false))) (sSeq (sRaise 565) sNil) sNil) (sSeq (sAugF gAddI 1 (eK (.int 1))) (sSeq (sAssF 5 (eF 1)) (sSeq (sAssF 1 (eL 17)) (sSeq sBrk sNil))))))) (sSeq (sAssF 1 (eL 17)) (sSeq (sIf (tE (eBin gGe (eF 1) (eF 2))) (sSeq (sRaise 552) sNil) sNil) (sSeq (sAugF gAddI 1 (eK (.int 1))) sNil)))))) (sSeq (sExpr (eMeth 2 2 s_slice_from [(eK (.str [121]))])) (sSeq sCont sNil)))) (sSeq (sAssF 1 (eL 16)) (sSeq sBrk sNil))))) sNil))) (sSeq (sAssF 1 (eL 15)) (sSeq (sRet (eK (.bool true))) sNil)))))))))))))))))))))))))))))))))))))))))))
set_option maxHeartbeats 2000000 in
theorem spec_stem : F_stem.Spec 620 s_stem := fun d hcl k hd =>
  have hd : (d.cx F_stem).A.depth < 620 := hd
  (rSs_cons (rS_assL k 1 rfl (rE_bool _ _ _)) (rSs_cons (rS_assL k 2 rfl (rE_fld k 1 rfl rfl)) (rSs_cons (rS_try k 539 (rSs_cons (rS_assF k 4 rfl rfl (rE_fld k 1 rfl rfl)) (rSs_cons (rS_if (rT_or (rT_cmp (o_eq k) (rE_fld k 1 rfl rfl) (rE_fld k 2 rfl rfl)) (rT_or (rT_cmp (o_ne k) (rE_idx (rE_fld k 0 rfl rfl) (rE_fld k 1 rfl rfl)) (rE_strL (by decide +kernel))) rT_or0)) (rSs_cons (rS_raise k 539 (lab0g _) (lab0e _) (by kernel_rfl) hcl) rSs_nil) rSs_nil) (rSs_cons (rS_augF k 1 rfl rfl i_add (rE_int _ _ _)) (rSs_cons (rS_assF k 5 rfl rfl (rE_fld k 1 rfl rfl)) (rSs_cons (rS_expr k (rE_meth k ok_slice_from spec_slice_from (by omega) (by omega) (.cons (rE_strL (by decide +kernel)) (fun _ => rfl) .nil) rfl nf_slice_from fi_slice_from pl_slice_from)) (rSs_cons (rS_assL k 1 rfl (rE_bool _ _ _)) rSs_nil)))))) (lab0g _) (lab0e _) (by kernel_rfl)) (rSs_cons (rS_assF k 1 rfl rfl (rE_loc k 2 rfl)) (rSs_cons (rS_assL k 3 rfl (rE_fld k 1 rfl rfl)) (rSs_cons (rS_try k 539 (rSs_cons (rS_while k 100 rT_true (rSs_cons (rS_assL k 4 rfl (rE_fld k 1 rfl rfl)) (rSs_cons (rS_try k 552 (rSs_cons (rS_while k 100 rT_true (rSs_cons (rS_assL k 5 rfl (rE_fld k 1 rfl rfl)) (rSs_cons (rS_try k 565 (rSs_cons (rS_if (rT_not (rT_plain (rE_meth k ok_in_grouping spec_in_grouping (by omega) (by omega) (.cons (rE_gv k (by kernel_rfl)) (fun _ => rfl) .nil) rfl nf_in_grouping fi_in_grouping pl_in_grouping))) (rSs_cons (rS_raise k 565 (lab2g _) (lab2e _) (by kernel_rfl) hcl) rSs_nil) rSs_nil) (rSs_cons (rS_assF k 4 rfl rfl (rE_fld k 1 rfl rfl)) (rSs_cons (rS_if (rT_or (rT_cmp (o_eq k) (rE_fld k 1 rfl rfl) (rE_fld k 2 rfl rfl)) (rT_or (rT_cmp (o_ne k) (rE_idx (rE_fld k 0 rfl rfl) (rE_fld k 1 rfl rfl)) (rE_strL (by decide +kernel))) rT_or0)) (rSs_cons (rS_raise k 565 (lab2g _) (lab2e _) (by kernel_rfl) hcl) rSs_nil) rSs_nil) (rSs_cons (rS_augF k 1 rfl rfl i_add (rE_int _ _ _)) (rSs_cons (rS_assF k 5 rfl rfl (rE_fld k 1 rfl rfl)) (rSs_cons (rS_assF k 1 rfl rfl (rE_loc k 5 rfl)) (rSs_cons rS_brk rSs_nil))))))) (lab2g _) (lab2e _) (by kernel_rfl)) (rSs_cons (rS_assF k 1 rfl rfl (rE_loc k 5 rfl)) (rSs_cons (rS_if (rT_cmp o_ge (rE_fld k 1 rfl rfl) (rE_fld k 2 rfl rfl)) (rSs_cons (rS_raise k 552 (lab1g _) (lab1e _) (by kernel_rfl) hcl) rSs_nil) rSs_nil) (rSs_cons (rS_augF k 1 rfl rfl i_add (rE_int _ _ _)) rSs_nil)))))) (rSs_cons (rS_expr k (rE_meth k ok_slice_from spec_slice_from (by omega) (by omega) (.cons (rE_strL (by decide +kernel)) (fun _ => rfl) .nil) rfl nf_slice_from fi_slice_from pl_slice_from)) (rSs_cons (rS_assL k 1 rfl (rE_bool _ _ _)) (rSs_cons rS_cont rSs_nil)))) (lab1g _) (lab1e _) (by kernel_rfl)) (rSs_cons (rS_assF k 1 rfl rfl (rE_loc k 4 rfl)) (rSs_cons rS_brk rSs_nil))))) rSs_nil) (lab0g _) (lab0e _) (by kernel_rfl)) (rSs_cons (rS_assF k 1 rfl rfl (rE_loc k 3 rfl)) (rSs_cons (rS_assF k 6 rfl rfl (rE_fld k 2 rfl rfl)) (rSs_cons (rS_assF k 7 rfl rfl (rE_fld k 2 rfl rfl)) (rSs_cons (rS_assL k 6 rfl (rE_fld k 1 rfl rfl)) (rSs_cons (rS_try k 539 (rSs_cons (rS_if (rT_not (rT_plain (rE_meth k ok_go_out_grouping spec_go_out_grouping (by omega) (by omega) (.cons (rE_gv k (by kernel_rfl)) (fun _ => rfl) .nil) rfl nf_go_out_grouping fi_go_out_grouping pl_go_out_grouping))) (rSs_cons (rS_raise k 539 (lab0g _) (lab0e _) (by kernel_rfl) hcl) rSs_nil) rSs_nil) (rSs_cons (rS_augF k 1 rfl rfl i_add (rE_int _ _ _)) (rSs_cons (rS_if (rT_not (rT_plain (rE_meth k ok_go_in_grouping spec_go_in_grouping (by omega) (by omega) (.cons (rE_gv k (by kernel_rfl)) (fun _ => rfl) .nil) rfl nf_go_in_grouping fi_go_in_grouping pl_go_in_grouping))) (rSs_cons (rS_raise k 539 (lab0g _) (lab0e _) (by kernel_rfl) hcl) rSs_nil) rSs_nil) (rSs_cons (rS_augF k 1 rfl rfl i_add (rE_int _ _ _)) (rSs_cons (rS_assF k 6 rfl rfl (rE_fld k 1 rfl rfl)) (rSs_cons (rS_if (rT_not (rT_plain (rE_meth k ok_go_out_grouping spec_go_out_grouping (by omega) (by omega) (.cons (rE_gv k (by kernel_rfl)) (fun _ => rfl) .nil) rfl nf_go_out_grouping fi_go_out_grouping pl_go_out_grouping))) (rSs_cons (rS_raise k 539 (lab0g _) (lab0e _) (by kernel_rfl) hcl) rSs_nil) rSs_nil) (rSs_cons (rS_augF k 1 rfl rfl i_add (rE_int _ _ _)) (rSs_cons (rS_if (rT_not (rT_plain (rE_meth k ok_go_in_grouping spec_go_in_grouping (by omega) (by omega) (.cons (rE_gv k (by kernel_rfl)) (fun _ => rfl) .nil) rfl nf_go_in_grouping fi_go_in_grouping pl_go_in_grouping))) (rSs_cons (rS_raise k 539 (lab0g _) (lab0e _) (by kernel_rfl) hcl) rSs_nil) rSs_nil) (rSs_cons (rS_augF k 1 rfl rfl i_add (rE_int _ _ _)) (rSs_cons (rS_assF k 7 rfl rfl (rE_fld k 1 rfl rfl)) rSs_nil)))))))))) (lab0g _) (lab0e _) (by kernel_rfl)) (rSs_cons (rS_assF k 1 rfl rfl (rE_loc k 6 rfl)) (rSs_cons (rS_assF k 3 rfl rfl (rE_fld k 1 rfl rfl)) (rSs_cons (rS_assF k 1 rfl rfl (rE_fld k 2 rfl rfl)) (rSs_cons (rS_assL k 7 rfl (rE_bin o_sub (rE_fld k 2 rfl rfl) (rE_fld k 1 rfl rfl))) (rSs_cons (rS_expr k (rE_meth k ok_r_Step_1a spec_r_Step_1a (by omega) (by omega) .nil rfl nf_r_Step_1a fi_r_Step_1a pl_r_Step_1a)) (rSs_cons (rS_assF k 1 rfl rfl (rE_bin o_sub (rE_fld k 2 rfl rfl) (rE_loc k 7 rfl))) (rSs_cons (rS_assL k 8 rfl (rE_bin o_sub (rE_fld k 2 rfl rfl) (rE_fld k 1 rfl rfl))) (rSs_cons (rS_expr k (rE_meth k ok_r_Step_1b spec_r_Step_1b (by omega) (by omega) .nil rfl nf_r_Step_1b fi_r_Step_1b pl_r_Step_1b)) (rSs_cons (rS_assF k 1 rfl rfl (rE_bin o_sub (rE_fld k 2 rfl rfl) (rE_loc k 8 rfl))) (rSs_cons (rS_assL k 9 rfl (rE_bin o_sub (rE_fld k 2 rfl rfl) (rE_fld k 1 rfl rfl))) (rSs_cons (rS_expr k (rE_meth k ok_r_Step_1c spec_r_Step_1c (by omega) (by omega) .nil rfl nf_r_Step_1c fi_r_Step_1c pl_r_Step_1c)) (rSs_cons (rS_assF k 1 rfl rfl (rE_bin o_sub (rE_fld k 2 rfl rfl) (rE_loc k 9 rfl))) (rSs_cons (rS_assL k 10 rfl (rE_bin o_sub (rE_fld k 2 rfl rfl) (rE_fld k 1 rfl rfl))) (rSs_cons (rS_expr k (rE_meth k ok_r_Step_2 spec_r_Step_2 (by omega) (by omega) .nil rfl nf_r_Step_2 fi_r_Step_2 pl_r_Step_2)) (rSs_cons (rS_assF k 1 rfl rfl (rE_bin o_sub (rE_fld k 2 rfl rfl) (rE_loc k 10 rfl))) (rSs_cons (rS_assL k 11 rfl (rE_bin o_sub (rE_fld k 2 rfl rfl) (rE_fld k 1 rfl rfl))) (rSs_cons (rS_expr k (rE_meth k ok_r_Step_3 spec_r_Step_3 (by omega) (by omega) .nil rfl nf_r_Step_3 fi_r_Step_3 pl_r_Step_3)) (rSs_cons (rS_assF k 1 rfl rfl (rE_bin o_sub (rE_fld k 2 rfl rfl) (rE_loc k 11 rfl))) (rSs_cons (rS_assL k 12 rfl (rE_bin o_sub (rE_fld k 2 rfl rfl) (rE_fld k 1 rfl rfl))) (rSs_cons (rS_expr k (rE_meth k ok_r_Step_4 spec_r_Step_4 (by omega) (by omega) .nil rfl nf_r_Step_4 fi_r_Step_4 pl_r_Step_4)) (rSs_cons (rS_assF k 1 rfl rfl (rE_bin o_sub (rE_fld k 2 rfl rfl) (rE_loc k 12 rfl))) (rSs_cons (rS_assL k 13 rfl (rE_bin o_sub (rE_fld k 2 rfl rfl) (rE_fld k 1 rfl rfl))) (rSs_cons (rS_expr k (rE_meth k ok_r_Step_5a spec_r_Step_5a (by omega) (by omega) .nil rfl nf_r_Step_5a fi_r_Step_5a pl_r_Step_5a)) (rSs_cons (rS_assF k 1 rfl rfl (rE_bin o_sub (rE_fld k 2 rfl rfl) (rE_loc k 13 rfl))) (rSs_cons (rS_assL k 14 rfl (rE_bin o_sub (rE_fld k 2 rfl rfl) (rE_fld k 1 rfl rfl))) (rSs_cons (rS_expr k (rE_meth k ok_r_Step_5b spec_r_Step_5b (by omega) (by omega) .nil rfl nf_r_Step_5b fi_r_Step_5b pl_r_Step_5b)) (rSs_cons (rS_assF k 1 rfl rfl (rE_bin o_sub (rE_fld k 2 rfl rfl) (rE_loc k 14 rfl))) (rSs_cons (rS_assF k 1 rfl rfl (rE_fld k 3 rfl rfl)) (rSs_cons (rS_assL k 15 rfl (rE_fld k 1 rfl rfl)) (rSs_cons (rS_try k 539 (rSs_cons (rS_if (rT_not (rT_plain (rE_loc k 1 rfl))) (rSs_cons (rS_raise k 539 (lab0g _) (lab0e _) (by kernel_rfl) hcl) rSs_nil) rSs_nil) (rSs_cons (rS_while k 100 rT_true (rSs_cons (rS_assL k 16 rfl (rE_fld k 1 rfl rfl)) (rSs_cons (rS_try k 552 (rSs_cons (rS_while k 100 rT_true (rSs_cons (rS_assL k 17 rfl (rE_fld k 1 rfl rfl)) (rSs_cons (rS_try k 565 (rSs_cons (rS_assF k 4 rfl rfl (rE_fld k 1 rfl rfl)) (rSs_cons (rS_if (rT_or (rT_cmp (o_eq k) (rE_fld k 1 rfl rfl) (rE_fld k 2 rfl rfl)) (rT_or (rT_cmp (o_ne k) (rE_idx (rE_fld k 0 rfl rfl) (rE_fld k 1 rfl rfl)) (rE_strL (by decide +kernel))) rT_or0)) (rSs_cons (rS_raise k 565 (lab2g _) (lab2e _) (by kernel_rfl) hcl) rSs_nil) rSs_nil) (rSs_cons (rS_augF k 1 rfl rfl i_add (rE_int _ _ _)) (rSs_cons (rS_assF k 5 rfl rfl (rE_fld k 1 rfl rfl)) (rSs_cons (rS_assF k 1 rfl rfl (rE_loc k 17 rfl)) (rSs_cons rS_brk rSs_nil)))))) (lab2g _) (lab2e _) (by kernel_rfl)) (rSs_cons (rS_assF k 1 rfl rfl (rE_loc k 17 rfl)) (rSs_cons (rS_if (rT_cmp o_ge (rE_fld k 1 rfl rfl) (rE_fld k 2 rfl rfl)) (rSs_cons (rS_raise k 552 (lab1g _) (lab1e _) (by kernel_rfl) hcl) rSs_nil) rSs_nil) (rSs_cons (rS_augF k 1 rfl rfl i_add (rE_int _ _ _)) rSs_nil)))))) (rSs_cons (rS_expr k (rE_meth k ok_slice_from spec_slice_from (by omega) (by omega) (.cons (rE_strL (by decide +kernel)) (fun _ => rfl) .nil) rfl nf_slice_from fi_slice_from pl_slice_from)) (rSs_cons rS_cont rSs_nil))) (lab1g _) (lab1e _) (by kernel_rfl)) (rSs_cons (rS_assF k 1 rfl rfl (rE_loc k 16 rfl)) (rSs_cons rS_brk rSs_nil))))) rSs_nil)) (lab0g _) (lab0e _) (by kernel_rfl)) (rSs_cons (rS_assF k 1 rfl rfl (rE_loc k 15 rfl)) (rSs_cons (rS_ret (rE_bool _ _ _)) rSs_nil)))))))))))))))))))))))))))))))))))))))))))
noncomputable def s_stemWord : SF := (sSeq (sExpr (eMeth 2 2 s_set_current [(eL 1)])) (sSeq (sExpr (eMeth 18 1 s_stem [])) (sSeq (sRet (eMeth 1 1 s_get_current [])) sNil)))
set_option maxHeartbeats 2000000 in
theorem spec_stemWord : F_stemWord.Spec 600 s_stemWord := fun d hcl k hd =>
  have hd : (d.cx F_stemWord).A.depth < 600 := hd
  (rSs_cons (rS_expr k (rE_meth k ok_set_current spec_set_current (by omega) (by omega) (.cons (rE_loc k 1 rfl) (fun _ => rfl) .nil) rfl nf_set_current fi_set_current pl_set_current)) (rSs_cons (rS_expr k (rE_meth k ok_stem spec_stem (by omega) (by omega) .nil rfl nf_stem fi_stem pl_stem)) (rSs_cons (rS_ret (rE_meth k ok_get_current spec_get_current (by omega) (by omega) .nil rfl nf_get_current fi_get_current pl_get_current)) rSs_nil)))
noncomputable def s_init : SF := (sSeq (sExpr (eMeth 2 2 s_set_current [(eK (.str []))])) sNil)
set_option maxHeartbeats 2000000 in
theorem spec_init : F_init.Spec 680 s_init := fun d hcl k hd =>
  have hd : (d.cx F_init).A.depth < 680 := hd
  (rSs_cons (rS_expr k (rE_meth k ok_set_current spec_set_current (by omega) (by omega) (.cons (rE_strL (by decide +kernel)) (fun _ => rfl) .nil) rfl nf_set_current fi_set_current pl_set_current)) rSs_nil)
end Mine
end
section
open PySem PySem.W PyProof.Rows PySem.Calls
namespace Mine
noncomputable def endsW (x y : List Nat) : Bool := decide (y.length ≤ x.length) && decide (x.drop (x.length - y.length) = y)
theorem ends_is (x y : Str) : Txt.endswith x y = endsW x.cps.toList y.cps.toList := by
  show (decide (0 + y.length ≤ x.length) && (x.cps.extract (x.length - y.length) (x.length - y.length + y.length) == y.cps)) = _
  unfold endsW
  rw [Nat.zero_add]
  have hx : x.length = x.cps.toList.length := by simp [Str.length]
  have hy : y.length = y.cps.toList.length := by simp [Str.length]
  rw [hx, hy]
  by_cases h : y.cps.toList.length ≤ x.cps.toList.length
  · rw [decide_eq_true h, Bool.true_and, Bool.true_and, Bool.eq_iff_iff, beq_iff_eq, decide_eq_true_iff]
    have e : (x.cps.extract (x.cps.toList.length - y.cps.toList.length) (x.cps.toList.length - y.cps.toList.length + y.cps.toList.length)).toList = x.cps.toList.drop (x.cps.toList.length - y.cps.toList.length) := by
      rw [Array.toList_extract, List.extract_eq_drop_take]
      apply List.take_of_length_le
      rw [List.length_drop]; omega
    constructor
    · intro q; rw [← e, q]
    · intro q; rw [← Array.toList_inj, e, q]
  · rw [decide_eq_false h, Bool.false_and, Bool.false_and]
section
variable {c : Cx}
noncomputable def eEnds (f g : EF) : EF := fun st => (f st).bind fun p => (g p.2).bind fun q => match p.1, q.1 with
  | .str x, .str y => some (.bool (endsW x y), q.2)
  | _, _ => none
theorem rE_ends (k : c.Ok) {a b : Expr} {f g : EF} {ap pos : Pos} (ha : RefE c a f) (hb : RefE c b g) {pl : Sem Bool}
    (hs : starEach [b] c.env = [(false, eval b c.env)] := by rfl)
    (he : eval (.Call (.Attribute a "endswith" ap) [b] [] pos) c.env = (do
      let ov ← eval a c.env
      standAt ap.atName
      let (f, first) ← holding [ov] (getMethod ov "endswith" pl)
      callWith pos f first (backTo pos (starEach [b] c.env)) []) := by rfl) : RefE c (.Call (.Attribute a "endswith" ap) [b] [] pos) (eEnds f g) := by
  intro st led s v st' I h
  unfold eEnds at h
  obtain ⟨⟨x, st1⟩, h1, h2⟩ := Option.bind_eq_some_iff.mp h
  obtain ⟨⟨y, st2⟩, h3, h4⟩ := Option.bind_eq_some_iff.mp h2
  refine MethodCall_ (pl := pl) (wpAny_mono (ha st led s x st1 I h1) ?_ fun _ _ e => e.elim) he
  rintro u s1 ⟨led1, k1, V1, I1⟩
  dsimp only at h4
  split at h4
  · rename_i xs ys
    cases h4
    generalize hxs : xs = x' at V1
    obtain ⟨x, t, rfl, rfl⟩ := V1.str_inv
    refine GM.endswith ?_
    rw [hs]
    refine Calls.callWith_builtin (by rfl) (evalArgs_plain (Calls.spliced_cons (wpAny_mono (hb st1 led1 s1 _ _ I1 h3) ?_ fun _ _ e => e.elim)))
    rintro u2 s2 ⟨led2, k2, V2, I2⟩
    generalize hys : ys = y' at V2
    obtain ⟨y, t', rfl, rfl⟩ := V2.str_inv
    subst hxs hys
    refine Calls.spliced_nil (SC.endswith ⟨led2, fun p hp => k2 p (k1 p hp), ?_, I2⟩)
    rw [ends_is]
    exact .bool _
  · cases h4
theorem i_addS : OpOk c (inplaceOp .Add) gAddI := i_add
noncomputable def sAss3 (i j l : Nat) (fs : List EF) : SF := fun st => (evs fs st).bind fun p => match p.1 with
  | [x, y, z] => some (.next, setL (setL (setL p.2 l z) j y) i x)
  | _ => none
theorem rS_ass3 (k : c.Ok) (i j l : Nat) {n1 n2 n3 : Str} {p1 p2 p3 tp vp pos : Pos} {kk kv : Nat} {es : List Expr} {fs : List EF} (h1 : c.names[i]? = some n1) (h2 : c.names[j]? = some n2) (h3 : c.names[l]? = some n3) (r : RefEs c es fs)
    (hs : swapsWithSole [.Tuple [.Name n1 p1, .Name n2 p2, .Name n3 p3] kk tp] (.Tuple es kv vp) pos.line c.env = pure false := by kernel_rfl)
    (hw : swappedStores [.Tuple [.Name n1 p1, .Name n2 p2, .Name n3 p3] kk tp] (.Tuple es kv vp) c.env = pure (some [n1, n2, n3]) := by kernel_rfl) : RefS c (.Assign [.Tuple [.Name n1 p1, .Name n2 p2, .Name n3 p3] kk tp] (.Tuple es kv vp) pos) (sAss3 i j l fs) := by
  intro st led s r' st' I h
  unfold sAss3 at h
  obtain ⟨⟨vs, st1⟩, g1, g2⟩ := Option.bind_eq_some_iff.mp h
  dsimp only at g2
  split at g2
  · rename_i x y z
    cases g2
    refine Assign_Tuple_swapped (Tuple_ (wpAny_mono (r.run I g1) ?_ fun _ _ e => e.elim)) hs hw
    rintro us s1 ⟨led1, k1, V1, I1⟩
    obtain ⟨_, _, rfl, v1, Va⟩ := V1.cons_inv
    obtain ⟨_, _, rfl, v2, Vb⟩ := Va.cons_inv
    obtain ⟨_, _, rfl, v3, Vc⟩ := Vb.cons_inv
    obtain rfl := Vc.nil_inv
    rename_i u1 u2 u3
    refine wpAny_newObj_type ?_ (by show (3 : Nat) ≤ sizeLine; rw [sizeLine_eq]; omega)
    have I2 := I1.pushed k { cls := .type "tuple", data := .seq [u1, u2, u3].toArray } s1.toks (NF_seq _ _ _) rfl
    obtain ⟨m, part, fo, F, N, hS, hL, hfo⟩ := I2.ex
    have hmem : (s1.heap.objs.size, ({ cls := .type "tuple", data := .seq [u1, u2, u3].toArray } : Obj)) ∈ part ++ (((s1.heap.objs.size, ({ cls := .type "tuple", data := .seq [u1, u2, u3].toArray } : Obj)) :: led1) ++ fo) := List.mem_append_right _ (List.mem_append_left _ (.head _))
    refine unpackItemsN_ F N (N.isTup hmem) k.handled (by rfl) fun h' F' N' => ?_
    have I3 : Inv c _ _ { s1 with heap := h' } := ⟨⟨m, part, fo, F', N', hS, hL, hfo⟩, I2.nf, I2.cel, I2.gens, I2.os⟩
    have km : ∀ p ∈ led1, p ∈ ((s1.heap.objs.size, ({ cls := .type "tuple", data := .seq [u1, u2, u3].toArray } : Obj)) :: led1) := fun p hp => .tail _ hp
    show wpAny c.M c.A (assignInOrder [fun v => bindName c.env n3 v, fun v => bindName c.env n2 v, fun v => bindName c.env n1 v] [u3, u2, u1]) _ _ _
    refine wpAny_bind (wpAny_holding (bindName_ (set_loc k I3 h3 (v3.mono (O_mono km)) fun s4 I4 => ?_)))
    refine wpAny_bind (wpAny_holding (bindName_ (set_loc k I4 h2 (v2.mono (O_mono km)) fun s5 I5 => ?_)))
    refine wpAny_bind (wpAny_holding (bindName_ (set_loc k I5 h1 (v1.mono (O_mono km)) fun s6 I6 => ?_)))
    exact wpAny_pure ⟨_, fun p hp => km p (k1 p hp), rfl, I6⟩
  · cases g2
theorem Inv.add {st : St} {led : List (Addr × Obj)} {s : Shared} (k : c.Ok) (V : Inv c st led s) {D : Addr} {o : Obj} (h : s.heap.get? D = some o) (hn : NF o) (hb : c.b0.get? D = none) (hL : D ≠ c.L) : Inv c st ((D, o) :: led) s := by
  obtain ⟨m, part, fo, F, N, hS, hLo, hfo⟩ := V.ex
  refine ⟨⟨m, part, fo, F, fun p hp => ?_, ?_, LocR.mono (fun p hp => .tail _ hp) hLo, hfo⟩, fun p hp => ?_, fun v hv => ?_, V.gens, V.os⟩
  · rcases List.mem_append.mp hp with hp | hp
    · exact N p (List.mem_append_left _ hp)
    · rcases List.mem_append.mp hp with hp | hp
      · rcases List.mem_cons.mp hp with rfl | hp
        · exact ⟨h, hL, hb⟩
        · exact N p (List.mem_append_right _ (List.mem_append_left _ hp))
      · exact N p (List.mem_append_right _ (List.mem_append_right _ hp))
  · unfold Cx.SelfR at hS ⊢
    cases hs : c.self with
    | none => rw [hs] at hS; exact hS
    | some xd =>
      obtain ⟨x, dx⟩ := xd
      rw [hs] at hS
      obtain ⟨es, n, rfl, hd, hx, hap⟩ := hS
      refine ⟨es, n, rfl, hd.mono fun v a h => h.mono (O_mono fun p hp => .tail _ hp), .tail _ hx, fun p hp => ?_⟩
      rcases List.mem_cons.mp hp with rfl | hp
      · intro e
        have := (N (dx, _) (List.mem_append_left _ (.head _))).1
        rw [show dx = D from e.symm, h] at this
        cases this
        exact hn.2 _ _ rfl
      · exact hap p hp
  · rcases List.mem_cons.mp hp with rfl | hp
    · exact hn
    · exact V.nf p hp
  · obtain ⟨n, a, o', u, z1, z2, z3, z4⟩ := V.cel v hv
    exact ⟨n, a, o', u, z1, .tail _ z2, z3, z4.mono (O_mono fun p hp => .tail _ hp)⟩
end
end Mine
end
section
open PySem PySem.W PyProof.Rows PySem.Calls
namespace Mine
noncomputable def lawEnds : List (List Nat) := [[115], [105, 101, 115], [115, 115, 101, 115], [115, 115], [101, 101, 100], [101, 100], [105, 110, 103], [97, 116], [98, 108], [105, 122], [121], [97, 116, 105, 111, 110, 97, 108], [116, 105, 111, 110, 97, 108], [101, 110, 99, 105], [105, 122, 101, 114], [98, 105, 108, 105, 116, 105], [111, 117, 115, 110, 101, 115, 115], [105, 99, 97, 116, 101], [97, 116, 105, 118, 101], [97, 108, 105, 122, 101], [105, 99, 97, 108], [102, 117, 108], [110, 101, 115, 115], [101, 109, 101, 110, 116], [109, 101, 110, 116], [101, 110, 116], [105, 111, 110], [116, 105, 111, 110], [101], [108, 108]]
noncomputable def strOf : Expr → Option (List Nat)
  | .Constant (.str x) _ _ => some x.cps.toList
  | _ => none
noncomputable def strsOfE : List Expr → Option (List (List Nat))
  | [] => some []
  | e :: r => (strOf e).bind fun x => (strsOfE r).map fun y => x :: y
noncomputable def retList : List Stmt → Option (List (List Nat))
  | [.Return (some (.List es _)) _] => strsOfE es
  | _ => none
theorem refEs_strs {c : Cx} : ∀ {es : List Expr} {l : List (List Nat)}, strsOfE es = some l → RefEs c es (l.map fun x => eK (.str x))
  | [], _, h => by cases h; exact .nil
  | e :: r, l, h => by
    unfold strsOfE at h
    obtain ⟨x, h1, h2⟩ := Option.bind_eq_some_iff.mp h
    obtain ⟨y, h3, h4⟩ := Option.map_eq_some_iff.mp h2
    cases h4
    unfold strOf at h1
    split at h1
    · cases h1
      exact .cons (rE_str _ _ _) (fun _ => rfl) (refEs_strs h3)
    · cases h1
theorem ref_retList {c : Cx} (k : c.Ok) {b : List Stmt} {l : List (List Nat)} (h : retList b = some l) (hl : l.length ≤ 1000) : RefSs c b (sSeq (sRet (eList (l.map fun x => eK (.str x)))) sNil) := by
  unfold retList at h
  split at h
  · exact rSs_cons (rS_ret (rE_list k (refEs_strs h) (by rw [List.length_map]; exact hl))) rSs_nil
  · cases h
noncomputable def s_law_ends : SF := sSeq (sRet (eList (lawEnds.map fun x => eK (.str x)))) sNil
theorem body_law_ends : retList (fBody F_law_ends.fn) = some lawEnds := by kernel_rfl
theorem spec_law_ends : F_law_ends.Spec 700 s_law_ends := by
  intro d hcl k hd
  have h := body_law_ends
  generalize fBody F_law_ends.fn = b at h ⊢
  exact ref_retList k h (by decide +kernel)
noncomputable def s_law_vowel : SF := (sSeq (sRet (eBin gIn (eL 0) (eList [(eK (.str [97])), (eK (.str [101])), (eK (.str [105])), (eK (.str [111])), (eK (.str [117])), (eK (.str [121]))]))) sNil)
set_option maxHeartbeats 2000000 in
theorem spec_law_vowel : F_law_vowel.Spec 700 s_law_vowel := fun d hcl k hd =>
  have hd : (d.cx F_law_vowel).A.depth < 700 := hd
  (rSs_cons (rS_ret (rE_cmp o_in (rE_loc k 0 rfl) (rE_list k (.cons (rE_strL (by decide +kernel)) (fun _ => rfl) (.cons (rE_strL (by decide +kernel)) (fun _ => rfl) (.cons (rE_strL (by decide +kernel)) (fun _ => rfl) (.cons (rE_strL (by decide +kernel)) (fun _ => rfl) (.cons (rE_strL (by decide +kernel)) (fun _ => rfl) (.cons (rE_strL (by decide +kernel)) (fun _ => rfl) .nil)))))) (by decide +kernel)))) rSs_nil)
noncomputable def s_law_past : SF := (sSeq (sWhile 100 (tAnd (tE (eBin gLt (eL 1) (eFun gLen [(eL 0)]))) (tAnd (tE (eBin gNe (eCall 1 1 s_law_vowel [(eBin gIdx (eL 0) (eL 1))]) (eL 2))) (tK true))) (sSeq (sAugL gAddI 1 (eK (.int 1))) sNil)) (sSeq (sRet (eIf (tE (eBin gLt (eL 1) (eFun gLen [(eL 0)]))) (eBin gAdd (eL 1) (eK (.int 1))) (eK .none))) sNil))
set_option maxHeartbeats 2000000 in
theorem spec_law_past : F_law_past.Spec 680 s_law_past := fun d hcl k hd =>
  have hd : (d.cx F_law_past).A.depth < 680 := hd
  (rSs_cons (rS_while k 100 (rT_and (rT_cmp o_lt (rE_loc k 1 rfl) (rE_len k (.cons (rE_loc k 0 rfl) (fun _ => rfl) .nil) (by kernel_rfl) (noLen _))) (rT_and (rT_cmp (o_ne k) (rE_call k ok_law_vowel spec_law_vowel (by omega) (by omega) (.cons (rE_idx (rE_loc k 0 rfl) (rE_loc k 1 rfl)) (fun _ => rfl) .nil) gl_law_vowel (by kernel_rfl) (by decide +kernel)) (rE_loc k 2 rfl)) rT_and0)) (rSs_cons (rS_augL k 1 rfl i_add (rE_int _ _ _)) rSs_nil)) (rSs_cons (rS_ret (rE_if (rT_cmp o_lt (rE_loc k 1 rfl) (rE_len k (.cons (rE_loc k 0 rfl) (fun _ => rfl) .nil) (by kernel_rfl) (noLen _))) (rE_bin o_addI (rE_loc k 1 rfl) (rE_int _ _ _)) (rE_none _ _))) rSs_nil))
noncomputable def s_law_region : SF := (sSeq (sAssL 2 (eCall 3 3 s_law_past [(eL 0), (eL 1), (eK (.bool true))])) (sSeq (sRet (eIf (tE (eBin gIsNone (eL 2) (eK .none))) (eK .none) (eCall 3 3 s_law_past [(eL 0), (eL 2), (eK (.bool false))]))) sNil))
set_option maxHeartbeats 2000000 in
theorem spec_law_region : F_law_region.Spec 660 s_law_region := fun d hcl k hd =>
  have hd : (d.cx F_law_region).A.depth < 660 := hd
  (rSs_cons (rS_assL k 2 rfl (rE_call k ok_law_past spec_law_past (by omega) (by omega) (.cons (rE_loc k 0 rfl) (fun _ => rfl) (.cons (rE_loc k 1 rfl) (fun _ => rfl) (.cons (rE_bool _ _ _) (fun _ => rfl) .nil))) gl_law_past (by kernel_rfl) (by decide +kernel))) (rSs_cons (rS_ret (rE_if (rT_cmp o_is (rE_loc k 2 rfl) (rE_none _ _)) (rE_none _ _) (rE_call k ok_law_past spec_law_past (by omega) (by omega) (.cons (rE_loc k 0 rfl) (fun _ => rfl) (.cons (rE_loc k 2 rfl) (fun _ => rfl) (.cons (rE_bool _ _ _) (fun _ => rfl) .nil))) gl_law_past (by kernel_rfl) (by decide +kernel)))) rSs_nil))
noncomputable def s_law_end : SF := (sSeq (sAssL 2 (eK (.str []))) (sSeq (sForL 3 (eL 1) (sSeq (sIf (tAnd (tE (eEnds (eL 0) (eL 3))) (tAnd (tE (eBin gGt (eFun gLen [(eL 3)]) (eFun gLen [(eL 2)]))) (tK true))) (sSeq (sAssL 2 (eL 3)) sNil) sNil) sNil)) (sSeq (sRet (eL 2)) sNil)))
set_option maxHeartbeats 2000000 in
theorem spec_law_end : F_law_end.Spec 700 s_law_end := fun d hcl k hd =>
  have hd : (d.cx F_law_end).A.depth < 700 := hd
  (rSs_cons (rS_assL k 2 rfl (rE_strL (by decide +kernel))) (rSs_cons (rS_for k 3 rfl (rE_loc k 1 rfl) (rSs_cons (rS_if (rT_and (rT_plain (rE_ends k (rE_loc k 0 rfl) (rE_loc k 3 rfl))) (rT_and (rT_cmp o_gt (rE_len k (.cons (rE_loc k 3 rfl) (fun _ => rfl) .nil) (by kernel_rfl) (noLen _)) (rE_len k (.cons (rE_loc k 2 rfl) (fun _ => rfl) .nil) (by kernel_rfl) (noLen _))) rT_and0)) (rSs_cons (rS_assL k 2 rfl (rE_loc k 3 rfl)) rSs_nil) rSs_nil) rSs_nil)) (rSs_cons (rS_ret (rE_loc k 2 rfl)) rSs_nil)))
noncomputable def s_law_short : SF := (sSeq (sIf (tE (eBin gLt (eFun gLen [(eL 0)]) (eK (.int 3)))) (sSeq (sRet (eK (.bool false))) sNil) sNil) (sSeq (sAss3 1 2 3 [(eBin gIdx (eL 0) (eBin gSub (eFun gLen [(eL 0)]) (eK (.int 3)))), (eBin gIdx (eL 0) (eBin gSub (eFun gLen [(eL 0)]) (eK (.int 2)))), (eBin gIdx (eL 0) (eBin gSub (eFun gLen [(eL 0)]) (eK (.int 1))))]) (sSeq (sRet (eAnd (eNot (eCall 1 1 s_law_vowel [(eL 1)])) (eAnd (eCall 1 1 s_law_vowel [(eL 2)]) (eAnd (eNot (eCall 1 1 s_law_vowel [(eL 3)])) (eBin gNotIn (eL 3) (eList [(eK (.str [119])), (eK (.str [120])), (eK (.str [89]))])))))) sNil)))
set_option maxHeartbeats 2000000 in
theorem spec_law_short : F_law_short.Spec 680 s_law_short := fun d hcl k hd =>
  have hd : (d.cx F_law_short).A.depth < 680 := hd
  (rSs_cons (rS_if (rT_cmp o_lt (rE_len k (.cons (rE_loc k 0 rfl) (fun _ => rfl) .nil) (by kernel_rfl) (noLen _)) (rE_int _ _ _)) (rSs_cons (rS_ret (rE_bool _ _ _)) rSs_nil) rSs_nil) (rSs_cons (rS_ass3 k 1 2 3 rfl rfl rfl (.cons (rE_idx (rE_loc k 0 rfl) (rE_bin o_sub (rE_len k (.cons (rE_loc k 0 rfl) (fun _ => rfl) .nil) (by kernel_rfl) (noLen _)) (rE_int _ _ _))) (fun _ => rfl) (.cons (rE_idx (rE_loc k 0 rfl) (rE_bin o_sub (rE_len k (.cons (rE_loc k 0 rfl) (fun _ => rfl) .nil) (by kernel_rfl) (noLen _)) (rE_int _ _ _))) (fun _ => rfl) (.cons (rE_idx (rE_loc k 0 rfl) (rE_bin o_sub (rE_len k (.cons (rE_loc k 0 rfl) (fun _ => rfl) .nil) (by kernel_rfl) (noLen _)) (rE_int _ _ _))) (fun _ => rfl) .nil)))) (rSs_cons (rS_ret (rE_and (rE_not (rE_call k ok_law_vowel spec_law_vowel (by omega) (by omega) (.cons (rE_loc k 1 rfl) (fun _ => rfl) .nil) gl_law_vowel (by kernel_rfl) (by decide +kernel))) (rE_and (rE_call k ok_law_vowel spec_law_vowel (by omega) (by omega) (.cons (rE_loc k 2 rfl) (fun _ => rfl) .nil) gl_law_vowel (by kernel_rfl) (by decide +kernel)) (rE_and (rE_not (rE_call k ok_law_vowel spec_law_vowel (by omega) (by omega) (.cons (rE_loc k 3 rfl) (fun _ => rfl) .nil) gl_law_vowel (by kernel_rfl) (by decide +kernel))) (rE_and1 (rE_cmp o_notin (rE_loc k 3 rfl) (rE_list k (.cons (rE_strL (by decide +kernel)) (fun _ => rfl) (.cons (rE_strL (by decide +kernel)) (fun _ => rfl) (.cons (rE_strL (by decide +kernel)) (fun _ => rfl) .nil))) (by decide +kernel)))))))) rSs_nil)))
end Mine
end
section
open PySem PySem.W PyProof.Rows PySem.Calls
namespace Mine
theorem Keeps.rfl' {s : Shared} : Keeps s s := ⟨s.heap, s.toks, rfl, fun _ _ e => e⟩
theorem Keeps.trans' {s s1 s2 : Shared} (x : Keeps s s1) (y : Keeps s1 s2) : Keeps s s2 := by
  obtain ⟨h1, t1, rfl, k1⟩ := x
  obtain ⟨h2, t2, rfl, k2⟩ := y
  exact ⟨h2, t2, rfl, fun b o e => k2 b o (k1 b o e)⟩
theorem Keeps.get {s s1 : Shared} (x : Keeps s s1) {a : Addr} {o : Obj} (h : s.heap.get? a = some o) : s1.heap.get? a = some o := by
  obtain ⟨h1, t1, rfl, k1⟩ := x
  exact k1 _ _ h
section
variable {c : Cx}
noncomputable abbrev compTest (c : Cx) (scope : Scope) (cl : List (Str × Addr)) (C : Addr) (ifs : List Expr) : Sem Bool :=
  forIn ifs true fun e r => if r = true then do let ok ← isTrue e (compEnvC scope cl C c.env) (eval e (compEnvC scope cl C c.env)); pure (ForInStep.yield ok) else pure (ForInStep.yield r)
noncomputable def eCompS (gd : St → Bool) (pS : St → Nat → Bool) (gS : St → Nat → Nat) (f : EF) : EF := fun st => match f st with
  | some (.str x, st1) => if gd st1 = true ∧ x.length ≤ 1000 then some (.lst ((x.filter (pS st1)).map fun d => .str [gS st1 d]), st1) else none
  | _ => none
theorem paired_strs {p : Value → Bool} {F : Value → Value → Prop} {pS : Nat → Bool} {gS : Nat → Nat} {P : Params} {x : Option (Addr × Addr)} {O : Addr → Obj → Prop}
    (hp : ∀ d t, p (.str ⟨#[d]⟩ t) = pS d) (hF : ∀ d t y, F (.str ⟨#[d]⟩ t) y → ∃ t', y = .str ⟨#[gS d]⟩ t') :
    ∀ {l : List Nat} {vs ys : List Value}, vs.length = l.length → (∀ (j : Nat) (v : Value), vs[j]? = some v → ∃ d u, l[j]? = some d ∧ v = .str ⟨#[d]⟩ u) → Paired F (vs.filter p) ys → VRs P x O ys ((l.filter pS).map fun d => .str [gS d])
  | [], vs, ys, hl, _, h => by
    have : vs = [] := List.eq_nil_of_length_eq_zero hl
    subst this
    cases h
    exact .nil
  | d :: l, [], ys, hl, _, _ => by cases hl
  | d :: l, v :: vs, ys, hl, hv, h => by
    obtain ⟨d', u, h1, h2⟩ := hv 0 v rfl
    cases h1
    subst h2
    have ih := fun ys => paired_strs (P := P) (x := x) (O := O) hp hF (l := l) (vs := vs) (ys := ys) (by simpa using hl) (fun j w hw => by have := hv (j + 1) w (by simpa using hw); simpa using this)
    rw [List.filter_cons] at h ⊢
    rw [hp] at h
    cases hq : pS d with
    | true =>
      rw [hq, if_pos rfl] at h
      cases h with | cons a b =>
      obtain ⟨t', rfl⟩ := hF _ _ _ a
      rw [if_pos rfl, List.map_cons]
      exact .cons (.str ⟨#[gS d]⟩ t') (ih _ b)
    | false =>
      rw [hq] at h
      rw [if_neg (by decide)]
      exact ih _ (by simpa using h)
theorem rE_compS (k : c.Ok) {elt iter : Expr} {x : Str} {px : Pos} {ifs : List Expr} {scope : Scope} {cl : List (Str × Addr)} {pos : Pos} {f : EF} (gd : St → Bool) (pS : St → Nat → Bool) (gS : St → Nat → Nat)
    (hclos : closureFor scope c.env = pure cl) (hcell : ∀ y ∈ scope.names, y.2 ≠ .cell) (hkind : scope.kind = .function)
    (hnames : ∀ y ∈ scope.names, y.2 = .local → scope.names.lookup y.1 = some .local) (hx : scope.names.lookup x = some .local) (he : RefE c iter f)
    (ht : ∀ st led s₁, gd st = true → Inv c st led s₁ → ∀ C s₃ m₃ E' d t, (∀ a o, s₁.heap.get? a = some o → s₃.heap.get? a = some o) → s₃.heap.Ns C m₃ → m₃ x = some (.str ⟨#[d]⟩ t) →
      wpAny c.M c.A (compTest c scope cl C ifs) (fun ok s₄ => ok = pS st d ∧ Keeps s₃ s₄) E' s₃)
    (hel : ∀ st led s₁, gd st = true → Inv c st led s₁ → ∀ C s₃ m₃ E' d t, (∀ a o, s₁.heap.get? a = some o → s₃.heap.get? a = some o) → s₃.heap.Ns C m₃ → m₃ x = some (.str ⟨#[d]⟩ t) →
      wpAny c.M c.A (eval elt (compEnvC scope cl C c.env)) (fun y s₄ => (∃ t', y = .str ⟨#[gS st d]⟩ t') ∧ Keeps s₃ s₄) E' s₃)
    (hs : ∀ x, foldedSetIterable iter c.env x = pure x := by intro _; rfl) : RefE c (.ListComp elt [⟨.Name x px, iter, ifs, 0⟩] scope pos) (eCompS gd pS gS f) := by
  intro st led s z st' I h
  unfold eCompS at h
  split at h
  · rename_i xl st1 h1
    split at h
    · rename_i hlen
      cases h
      refine wpAny_ListComp_free (fun v => match v with | .str y _ => pS st' (y.cps.toList.headD 0) | _ => false) (fun v y => ∀ d t, v = .str ⟨#[d]⟩ t → ∃ t', y = .str ⟨#[gS st' d]⟩ t') hclos hcell hkind hnames hx (wpAny_mono (he st led s _ _ I h1) ?_ fun _ _ e => e.elim) hs
      rintro u s1 ⟨led1, k1, V1, I1⟩
      generalize hxl : xl = y at V1
      obtain ⟨xs, t, rfl, rfl⟩ := V1.str_inv
      subst hxl
      refine wpAny_pyIter_str fun o Sh hW h0 => ?_
      have keep12 : ∀ b o', s1.heap.get? b = some o' → b ≠ s1.heap.objs.size := fun b o' e => Nat.ne_of_lt (Heap.lt_size e)
      have ext : ∀ (s₃ : Shared), (∀ b o', b ∉ [s1.heap.objs.size] → (s1.heap.push o).get? b = some o' → s₃.heap.get? b = some o') → ∀ a o', s1.heap.get? a = some o' → s₃.heap.get? a = some o' := fun s₃ h a o' e =>
        h a o' (fun hm => keep12 a o' e (List.mem_singleton.mp hm)) (Heap.get?_push_of_some _ e)
      refine ⟨_, _, _, _, _, _, rfl, hW _ k.handled, ?_, h0, ?_, ⟨?_, ?_⟩, ?_⟩
      · have : xs.cps.size = xs.cps.toList.length := by simp
        have := hlen.2; rw [‹xs.cps.size = _›, sizeLine_eq]; omega
      · intro b hb
        rw [List.mem_singleton.mp hb]
        show _ < (s1.heap.push o).objs.size
        rw [Heap.size_push]; exact Nat.lt_succ_self _
      · rintro C i v s₃ m₃ E' hC ⟨d, u, hd, rfl⟩ hn hm hk htk
        exact ht st' led1 s1 hlen.1 I1 C s₃ m₃ E' d u (ext s₃ hk) hn hm
      · rintro C i v s₃ m₃ E' hC ⟨d, u, hd, rfl⟩ hp hn hm hk htk
        refine wpAny_mono (hel st' led1 s1 hlen.1 I1 C s₃ m₃ E' d u (ext s₃ hk) hn hm) ?_ fun _ _ e => e
        rintro y s4 ⟨⟨t', rfl⟩, kk⟩
        exact ⟨fun d' t'' e => (by cases e; exact ⟨t', rfl⟩), kk⟩
      · intro D h' tk ys vs hD hl hpl hlen' hP hF hk
        have I2 : Inv c st' led1 { s1 with heap := h', toks := tk } := I1.keeps (ext { s1 with heap := h', toks := tk } hk) rfl rfl
        obtain ⟨n, hn⟩ := hpl
        have hb : c.b0.get? D = none := by
          cases q : c.b0.get? D with
          | none => rfl
          | some o' =>
            have := I1.heapO (.inr q : c.O led1 D o')
            have := Heap.get?_push_of_some o this
            rw [hD] at this; cases this
        have hL : D ≠ c.L := by
          rintro rfl
          obtain ⟨m, part, fo, F, _⟩ := I1.ex
          obtain ⟨oL, _, _, ho, _⟩ := F.ns
          have := Heap.get?_push_of_some o ho
          rw [hD] at this; cases this
        refine ⟨_, fun p hp => .tail _ (k1 p hp), .lst (vs := ys.toList) (n := n) (.inl ?_) (paired_strs (pS := pS st') (gS := gS st') (fun d t => rfl) (fun d t y hy => hy d t rfl) ?_ ?_ hF), I2.add k (o := { cls := .type "list", data := .seq ys n }) hn (NF_seq _ _ _) hb hL⟩
        · rw [show ys.toList.toArray = ys from rfl]
          exact .head _
        · rw [hlen']; simp
        · intro j v hv
          obtain ⟨d, u, h1, h2⟩ := hP j v hv
          exact ⟨d, u, by rw [Array.getElem?_toList]; exact h1, h2⟩
    · cases h
  · cases h
end
end Mine
end
section
open PySem PySem.W PyProof.Rows PySem.Calls
namespace Mine
section
variable {c : Cx}
theorem compTest_none {scope : Scope} {cl : List (Str × Addr)} {C : Addr} {Q : Bool → Shared → Prop} {E : Value → Shared → Prop} {s : Shared} (h : Q true s) : wpAny c.M c.A (compTest c scope cl C []) Q E s := wpAny_pure h
theorem compTest_one {scope : Scope} {cl : List (Str × Addr)} {C : Addr} {e : Expr} {Q : Bool → Shared → Prop} {E : Value → Shared → Prop} {s : Shared} (h : wpAny c.M c.A (isTrue e (compEnvC scope cl C c.env) (eval e (compEnvC scope cl C c.env))) Q E s) : wpAny c.M c.A (compTest c scope cl C [e]) Q E s := by
  unfold compTest
  rw [List.forIn_cons, if_pos rfl]
  refine wpAny_bind (wpAny_bind (wpAny_mono h (fun ok s₁ h₁ => wpAny_pure (wpAny_pure h₁)) fun _ _ e => e))
inductive RetIn (x : Str) (l : List (List Nat)) : List Stmt → Prop
  | mk {a p b d : Pos} {es : List Expr} (hm : behindInMarks .In (.List es p) = false) (h1 : strsOfE es = some l) : RetIn x l [.Return (some (.Compare (.Name x a) [.In] [.List es p] b)) d]
theorem spliced_strs {M : Model} {A : Around} {env : Env} {pos : Pos} {E : Value → Shared → Prop} : ∀ {es : List Expr} {l : List (List Nat)} {s : Shared} {Q : List Value → Shared → Prop}, strsOfE es = some l →
    (∀ vs tk, StrsAre vs (l.map toS) → Q vs { s with toks := tk }) → wpAny M A (spliced (backTo pos (starEach es env))) Q E s
  | [], _, s, Q, h, q => by cases h; exact spliced_none (q [] s.toks .nil)
  | e :: r, l, s, Q, h, q => by
    unfold strsOfE at h
    obtain ⟨x, h1, h2⟩ := Option.bind_eq_some_iff.mp h
    obtain ⟨y, h3, h4⟩ := Option.map_eq_some_iff.mp h2
    cases h4
    unfold strOf at h1
    split at h1
    · rename_i sx kx px
      cases h1
      refine spliced_more (wpAny_Constant_str (spliced_strs h3 fun vs tk hvs => q _ tk ?_)) (by rfl)
      rw [List.map_cons, toS_of]
      exact .cons _ _ hvs
    · cases h1
theorem ret_in {M : Model} (hM : M = model pw c.w) {A : Around} {env : Env} {b : List Stmt} {x : Str} {l : List (List Nat)} {s : Shared} {m : Str → Option Value} {y : Str} {t : Tok} {Q : Flow → Shared → Prop} {E : Value → Shared → Prop}
    (h : RetIn x l b) (hl1 : l.length ≤ 1000) (hk : env.scope.kind = .function) (hl : env.kindOf x = some .local) (hd : (x == ("__debug__" : Str)) = false) (hn : s.heap.Ns env.locals m) (hv : m x = some (.str y t))
    (q : ∀ s', Keeps s s' → Q (.ret (.bool (l.any fun z => decide (z = y.cps.toList)))) s') : wpAny M A (execs b env) Q E s := by
  subst hM
  obtain ⟨hm, h1⟩ := h
  refine wpAny_execs_cons (wpAny_Return_some (wpAny_Compare1 (wpAny_Name (wpAny_loadName_local hk hl hn hv ?_) hd) hm))
  refine List_ (spliced_strs h1 fun vs tk hvs => ?_)
  have hlen : vs.length = l.length := by
    have : ∀ {vs : List Value} {ys : List Str}, StrsAre vs ys → vs.length = ys.length := fun h => by
      induction h with
      | nil => rfl
      | cons _ _ _ ih => simp [ih]
    rw [this hvs, List.length_map]
  refine wpAny_newObj_type ?_ (by show vs.toArray.size ≤ sizeLine; rw [List.size_toArray, sizeLine_eq]; omega)
  refine in_list_strs (ys := l.map toS) ⟨_, Heap.get?_push_size _ rfl, rfl, _, rfl⟩ hvs ?_
  rw [any_toS]
  exact q _ ⟨_, _, rfl, fun b o e => Heap.get?_push_of_some _ e⟩
noncomputable def isVow (d : Nat) : Bool := [[97], [101], [105], [111], [117], [121]].any fun z => decide (z = [d])
theorem body_vowel : RetIn "sign" [[97], [101], [105], [111], [117], [121]] (fBody F_law_vowel.fn) := RetIn.mk (by kernel_rfl) (by kernel_rfl)
theorem call_vowel (k : c.Ok) {A : Around} (hA : A.depth < 999) {s : Shared} {E : Value → Shared → Prop} {Q : Value → Shared → Prop} (hb : ∀ b o, c.b0.get? b = some o → s.heap.get? b = some o) {d : Nat} {t : Tok}
    (q : ∀ s', Keeps s s' → Q (.bool (isVow d)) s') : wpAny c.M A (call (.ref F_law_vowel.a) [.str ⟨#[d]⟩ t]) Q E s := by
  obtain ⟨name, dV, kV, doc, pm, an, ct, oc, od, osl, hlook, hbind⟩ := ok_law_vowel.ex c.w.params
  have X := k.X.keeps hb
  have hbody := body_vowel
  refine wpAny_call (codeAny_call_def (fd := fnOf name F_law_vowel.qual (fParams F_law_vowel.fn) (fBody F_law_vowel.fn) (fScope F_law_vowel.fn) dV kV doc pm an (.ref F_law_vowel.cdv) ct) (body := fBody F_law_vowel.fn) (binds := [(("sign" : Str), .str ⟨#[d]⟩ t)])
    (Nat.lt_trans hA (by decide)) (X _ _ hlook) rfl (k.T.nolimit.keeps hb) (codeRec_of X (ok_law_vowel.code _)) rfl (.of_eq (hbind [.str ⟨#[d]⟩ t] rfl)) ok_law_vowel.cell (fun x hx => ?_) (fun h₁ hns hk₁ => ?_) ok_law_vowel.co ok_law_vowel.gen ok_law_vowel.kind)
  · rcases List.mem_singleton.mp hx with rfl
    exact (ok_law_vowel.loc ("sign" : Str) (by decide +kernel)).1
  · refine ret_in rfl hbody (by decide) ok_law_vowel.kind (ok_law_vowel.loc ("sign" : Str) (by decide +kernel)).1 (by decide) hns (y := ⟨#[d]⟩) (t := t) (by rfl) fun s' hk => ?_
    refine q s' (Keeps.trans' ⟨h₁, _, rfl, hk₁⟩ hk)
theorem cmp_loc {scope : Scope} {cl : List (Str × Addr)} {C : Addr} {x : Str} {pos : Pos} {M : Model} {A : Around} {s : Shared} {m : Str → Option Value} {v : Value} {Q : Value → Shared → Prop} {E : Value → Shared → Prop} (hkind : scope.kind = .function)
    (hx : scope.names.lookup x = some .local) (hd : (x == ("__debug__" : Str)) = false) (hn : s.heap.Ns C m) (hv : m x = some v) (h : Q v s) : wpAny M A (eval (.Name x pos) (compEnvC scope cl C c.env)) Q E s :=
  wpAny_Name (wpAny_loadName_local hkind (lookup_relabel_local hx) hn hv h) hd
theorem test_vowel (k : c.Ok) {scope : Scope} {cl : List (Str × Addr)} {C : Addr} {p1 p2 p3 : Pos} {s₁ s₃ : Shared} {st : St} {led : List (Addr × Obj)} {m₃ : Str → Option Value} {d : Nat} {t : Tok} {E' : Value → Shared → Prop} (hkind : scope.kind = .function)
    (hx : scope.names.lookup ("sign" : Str) = some .local) (hv : (compEnvC scope cl C c.env).kindOf ("_law_vowel" : Str) = some .globalImplicit) (I : Inv c st led s₁) (hk : ∀ a o, s₁.heap.get? a = some o → s₃.heap.get? a = some o) (hn : s₃.heap.Ns C m₃) (hm : m₃ ("sign" : Str) = some (.str ⟨#[d]⟩ t)) :
    wpAny c.M c.A (compTest c scope cl C [.Call (.Name "_law_vowel" p1) [.Name "sign" p2] [] p3]) (fun ok s₄ => ok = isVow d ∧ Keeps s₃ s₄) E' s₃ := by
  have hb : ∀ b o, c.b0.get? b = some o → s₃.heap.get? b = some o := fun b o e => hk b o (I.heapO (.inr e : c.O led b o))
  refine compTest_one (isTrue_plain (wpAny_Call_NameR ?_) (by rfl))
  refine Name_function_global hkind hv (loadGlobal_global (env := compEnvC scope cl C c.env) (k.T.g.keeps hb) (mg_of k.X k.T.g (gl_law_vowel _)) ?_)
  refine callWith_K (K := c.K) (h₀ := s₃.heap) (k.X.keeps hb) (ok_law_vowel.keep _) (spliced_more (cmp_loc hkind hx (by decide) hn hm (spliced_none ?_)))
  refine ⟨k.X.keeps hb, call_vowel k (Nat.lt_trans k.depth (by decide)) hb fun s' kk => wpAny_truthy_bool ⟨rfl, kk⟩⟩
noncomputable def eVowels (f : EF) : EF := eCompS (fun _ => true) (fun _ => isVow) (fun _ d => d) f
theorem rE_vowels (k : c.Ok) {iter : Expr} {px p0 p1 p2 p3 : Pos} {scope : Scope} {pos : Pos} {f : EF} (hfree : ∀ x ∈ scope.names, x.2 ≠ .free) (hcell : ∀ y ∈ scope.names, y.2 ≠ .cell) (hkind : scope.kind = .function)
    (hnames : ∀ y ∈ scope.names, y.2 = .local → scope.names.lookup y.1 = some .local) (hx : scope.names.lookup ("sign" : Str) = some .local) (hv : ∀ C, (compEnvC scope [] C c.env).kindOf ("_law_vowel" : Str) = some .globalImplicit) (he : RefE c iter f)
    (hs : ∀ x, foldedSetIterable iter c.env x = pure x := by intro _; rfl) : RefE c (.ListComp (.Name "sign" p0) [⟨.Name "sign" px, iter, [.Call (.Name "_law_vowel" p1) [.Name "sign" p2] [] p3], 0⟩] scope pos) (eVowels f) :=
  rE_compS k (fun _ => true) (fun _ => isVow) (fun _ d => d) (closureFor_none hfree) hcell hkind hnames hx he
    (fun st led s₁ _ I C s₃ m₃ E' d t hk hn hm => test_vowel k hkind hx (hv C) I hk hn hm)
    (fun st led s₁ _ I C s₃ m₃ E' d t hk hn hm => cmp_loc hkind hx (by decide) hn hm ⟨⟨t, rfl⟩, Keeps.rfl'⟩) hs
theorem cmp_cell {scope : Scope} {cl : List (Str × Addr)} {C : Addr} {x : Str} {pos : Pos} {M : Model} {A : Around} {s₁ s : Shared} {st : St} {led : List (Addr × Obj)} {a : AV} {Q : Value → Shared → Prop} {E : Value → Shared → Prop} (hkind : scope.kind = .function)
    (hx : (compEnvC scope cl C c.env).kindOf x = some .cell) (hcl : cl = c.cells) (hxn : ∀ n d, c.cells = [(n, d)] → n = x) (hd : (x == ("__debug__" : Str)) = false) (I : Inv c st led s₁) (hk : ∀ a o, s₁.heap.get? a = some o → s.heap.get? a = some o) (hcv : st.cv = some a)
    (h : ∀ v, c.V led v a → Q v s) : wpAny M A (eval (.Name x pos) (compEnvC scope cl C c.env)) Q E s := by
  obtain ⟨n, d, o, u, z1, z2, z3, z4⟩ := I.cel a hcv
  obtain rfl := hxn n d z1
  refine wpAny_Name (wpAny_loadName_cell hkind hx ?_ ⟨o, hk _ _ (heap_get I z2), z3⟩ (h u z4)) hd
  show cl.lookup n = some d
  rw [hcl, z1]
  unfold List.lookup
  rw [beq_self_eq_true]
noncomputable def turnS (st : St) (d : Nat) : Nat := match st.cv with
  | some (.bool true) => if d = 89 then 121 else d
  | _ => d
noncomputable def gTurn (st : St) : Bool := match st.cv with
  | some (.bool _) => true
  | _ => false
noncomputable def eTurn (f : EF) : EF := eCompS gTurn (fun _ _ => true) turnS f
end
end Mine
end
section
open PySem PySem.W PyProof.Rows PySem.Calls
namespace Mine
section
variable {c : Cx}
theorem rE_turn (k : c.Ok) {px q1 q2 q3 q4 q5 q6 q7 q8 pos : Pos} {k1 k2 : Nat} {iter : Expr} {scope : Scope} {f : EF}
    (hclos : closureFor scope c.env = pure c.cells) (hcell : ∀ y ∈ scope.names, y.2 ≠ .cell) (hkind : scope.kind = .function)
    (hnames : ∀ y ∈ scope.names, y.2 = .local → scope.names.lookup y.1 = some .local) (hx : scope.names.lookup ("sign" : Str) = some .local) (ht : ∀ C, (compEnvC scope c.cells C c.env).kindOf ("turned" : Str) = some .cell) (hxn : ∀ n d, c.cells = [(n, d)] → n = ("turned" : Str)) (he : RefE c iter f)
    (hs : ∀ x, foldedSetIterable iter c.env x = pure x := by intro _; rfl) :
    RefE c (.ListComp (.IfExp (.BoolOp .And [.Name "turned" q1, .Compare (.Name "sign" q2) [.Eq] [.Constant (.str "Y") k1 q3] q4] q5) (.Constant (.str "y") k2 q6) (.Name "sign" q7) q8) [⟨.Name "sign" px, iter, [], 0⟩] scope pos) (eTurn f) := by
  refine rE_compS k gTurn (fun _ _ => true) turnS hclos hcell hkind hnames hx he (fun st led s₁ _ I C s₃ m₃ E' d t hk hn hm => compTest_none ⟨rfl, Keeps.rfl'⟩) ?_ hs
  intro st led s₁ hg I C s₃ m₃ E' d t hk hn hm
  unfold gTurn at hg
  split at hg
  · rename_i b hb
    refine wpAny_IfExp (isTrue_and (isTrue_plain (cmp_cell hkind (ht C) rfl hxn (by decide) I hk hb fun v hv => ?_) (by rfl)))
    cases hv
    refine wpAny_truthy_bool ?_
    cases b with
    | false =>
      rw [if_neg (by decide), if_neg (by decide)]
      refine cmp_loc hkind hx (by decide) hn hm ⟨⟨t, ?_⟩, Keeps.rfl'⟩
      rw [show turnS st d = d from by unfold turnS; rw [hb]]
    | true =>
      rw [if_pos rfl]
      refine isTrue_and (wpAny_isTrue_Compare1 (cmp_loc hkind hx (by decide) hn hm (wpAny_Constant_str ?_)))
      refine PyProof.Rows.eq_str (prog := pw) (w := c.w) ?_
      refine wpAny_truthy_bool ?_
      have e : ((⟨#[d]⟩ : Str) == "Y") = decide (d = 89) := by
        rw [str_eq_iff]
        have : ("Y" : Str).cps.toList = [89] := by decide +kernel
        rw [this]
        simp
      rw [e]
      by_cases hd : d = 89
      · subst hd
        rw [if_pos (by decide)]
        refine isTrue_and_nil ?_
        rw [if_pos rfl]
        refine wpAny_Constant_str ⟨⟨s₃.toks + 1, ?_⟩, ⟨_, _, rfl, fun _ _ e => e⟩⟩
        rw [show turnS st 89 = 121 from by unfold turnS; rw [hb]; rfl]
        exact congrArg (fun x => Value.str x (s₃.toks + 1)) (show ("y" : Str) = ⟨#[121]⟩ by decide +kernel)
      · rw [decide_eq_false hd, if_neg (by decide), if_neg (by decide)]
        refine cmp_loc hkind hx (by decide) hn hm ⟨⟨t, ?_⟩, ⟨_, _, rfl, fun _ _ e => e⟩⟩
        rw [show turnS st d = d from by unfold turnS; rw [hb]; exact if_neg hd]
  · cases hg
end
end Mine
end
section
open PySem PySem.W PyProof.Rows PySem.Calls
namespace Mine
noncomputable def pairsOf : List AV → Option (List (List Nat × List Nat))
  | [] => some []
  | .tup [.str a, .str b] :: r => (pairsOf r).map fun l => (a, b) :: l
  | _ => none
section
variable {c : Cx}
noncomputable def PairAt (c : Cx) (led : List (Addr × Obj)) (v : Value) (q : List Nat × List Nat) : Prop := ∃ t n pa ta pb tb, v = .ref t ∧ c.O led t ⟨.type "tuple", .none, .seq #[.str pa ta, .str pb tb] n, #[]⟩ ∧ q = (pa.cps.toList, pb.cps.toList)
theorem pairs_at {led : List (Addr × Obj)} : ∀ {vs : List Value} {xs : List AV} {l : List (List Nat × List Nat)}, c.Vs led vs xs → pairsOf xs = some l → vs.length = l.length ∧ ∀ (j : Nat) (v : Value), vs[j]? = some v → ∃ q, l[j]? = some q ∧ PairAt c led v q
  | _, _, l, .nil, h => by
    cases h
    exact ⟨rfl, fun j v hv => by simp at hv⟩
  | _, _, l, .cons (v := v0) (vs := vs) (a := a0) (as := as) hv r, h => by
    unfold pairsOf at h
    split at h
    · rename_i e; cases e
    · rename_i a b r' e
      cases e
      obtain ⟨l', h1, h2⟩ := Option.map_eq_some_iff.mp h
      cases h2
      obtain ⟨ih1, ih2⟩ := pairs_at r h1
      refine ⟨by simp [ih1], fun j v hj => ?_⟩
      cases j with
      | zero =>
        simp at hj
        subst hj
        refine ⟨(a, b), rfl, ?_⟩
        obtain ⟨_, _, _, rfl, o, rr⟩ := hv.tup_inv
        rename_i ad ws n
        cases rr with | cons x1 rr =>
        cases rr with | cons x2 rr =>
        cases rr
        generalize ha : a = y1 at x1
        generalize hb : b = y2 at x2
        obtain ⟨pa, ta, rfl, rfl⟩ := x1.str_inv
        obtain ⟨pb, tb, rfl, rfl⟩ := x2.str_inv
        exact ⟨ad, n, pa, ta, pb, tb, rfl, o, rfl⟩
      | succ j =>
        obtain ⟨q, g1, g2⟩ := ih2 j v (by simpa using hj)
        exact ⟨q, by simpa using g1, g2⟩
    · cases h
noncomputable def eCompP (gd : St → Bool) (pP : St → List Nat × List Nat → Bool) (gP : List Nat × List Nat → List Nat) (i : Nat) : EF := fun st => match st.ls[i]? with
  | some (some (.lst xs)) => (pairsOf xs).bind fun ps => if gd st = true ∧ ps.length ≤ 1000 then some (.lst ((ps.filter (pP st)).map fun q => .str (gP q)), st) else none
  | _ => none
theorem paired_pairs {p : Value → Bool} {F : Value → Value → Prop} {pP : List Nat × List Nat → Bool} {gP : List Nat × List Nat → List Nat} {P : Params} {x : Option (Addr × Addr)} {O : Addr → Obj → Prop} {At : Value → List Nat × List Nat → Prop}
    (hp : ∀ v q, At v q → p v = pP q) (hF : ∀ v q y, At v q → F v y → ∃ s t', y = .str s t' ∧ s.cps.toList = gP q) :
    ∀ {l : List (List Nat × List Nat)} {vs ys : List Value}, vs.length = l.length → (∀ (j : Nat) (v : Value), vs[j]? = some v → ∃ q, l[j]? = some q ∧ At v q) → Paired F (vs.filter p) ys → VRs P x O ys ((l.filter pP).map fun q => .str (gP q))
  | [], vs, ys, hl, _, h => by
    have : vs = [] := List.eq_nil_of_length_eq_zero hl
    subst this
    cases h
    exact .nil
  | d :: l, [], ys, hl, _, _ => by cases hl
  | d :: l, v :: vs, ys, hl, hv, h => by
    obtain ⟨d', h1, h2⟩ := hv 0 v rfl
    cases h1
    have ih := fun ys => paired_pairs (P := P) (x := x) (O := O) hp hF (l := l) (vs := vs) (ys := ys) (by simpa using hl) (fun j w hw => by have := hv (j + 1) w (by simpa using hw); simpa using this)
    rw [List.filter_cons] at h ⊢
    rw [hp _ _ h2] at h
    cases hq : pP d with
    | true =>
      rw [hq, if_pos rfl] at h
      cases h with | cons a b =>
      obtain ⟨s, t', rfl, e⟩ := hF _ _ _ h2 a
      rw [if_pos rfl, List.map_cons, ← e]
      exact .cons (.str s t') (ih _ b)
    | false =>
      rw [hq] at h
      rw [if_neg (by decide)]
      exact ih _ (by simpa using h)
noncomputable def pairIn (h : Heap) (pP : List Nat × List Nat → Bool) (v : Value) : Bool := match v with
  | .ref t => match h.get? t with
    | some ⟨_, _, .seq ws _, _⟩ => match ws.toList with
      | [.str a _, .str b _] => pP (a.cps.toList, b.cps.toList)
      | _ => false
    | _ => false
  | _ => false
theorem rE_compP (k : c.Ok) {elt : Expr} {x y : Str} {px py : Pos} {ifs : List Expr} {scope : Scope} {cl : List (Str × Addr)} {pos : Pos} (gd : St → Bool) (pP : St → List Nat × List Nat → Bool) (gP : List Nat × List Nat → List Nat) (i : Nat) (hy : c.names[i]? = some y)
    (hclos : closureFor scope c.env = pure cl) (hcell : ∀ y ∈ scope.names, y.2 ≠ .cell) (hkind : scope.kind = .function)
    (hnames : ∀ y ∈ scope.names, y.2 = .local → scope.names.lookup y.1 = some .local) (hx : scope.names.lookup x = some .local)
    (ht : ∀ st led s₁, gd st = true → Inv c st led s₁ → ∀ C s₃ m₃ E' v q, (∀ a o, s₁.heap.get? a = some o → s₃.heap.get? a = some o) → s₃.heap.Ns C m₃ → m₃ x = some v → PairAt c led v q →
      wpAny c.M c.A (compTest c scope cl C ifs) (fun ok s₄ => ok = pP st q ∧ Keeps s₃ s₄) E' s₃)
    (hel : ∀ st led s₁, gd st = true → Inv c st led s₁ → ∀ C s₃ m₃ E' v q, (∀ a o, s₁.heap.get? a = some o → s₃.heap.get? a = some o) → s₃.heap.Ns C m₃ → m₃ x = some v → PairAt c led v q →
      wpAny c.M c.A (eval elt (compEnvC scope cl C c.env)) (fun y s₄ => (∃ s t', y = .str s t' ∧ s.cps.toList = gP q) ∧ Keeps s₃ s₄) E' s₃)
    (hs : ∀ x, foldedSetIterable (.Name y py) c.env x = pure x := by intro _; rfl) : RefE c (.ListComp elt [⟨.Name x px, .Name y py, ifs, 0⟩] scope pos) (eCompP gd pP gP i) := by
  intro st led s z st' I h
  unfold eCompP at h
  split at h
  · rename_i xs hxs
    obtain ⟨ps, h1, h2⟩ := Option.bind_eq_some_iff.mp h
    split at h2
    · rename_i hgl
      obtain ⟨rfl, rfl⟩ : _ = z ∧ st = st' := by simpa using h2
      clear h2
      obtain ⟨m, part, fo, F, N, hS, hL, hfo⟩ := I.ex
      obtain ⟨y', v, g1, g2, g3⟩ := hL i _ hxs
      obtain rfl : y = y' := Option.some.inj (hy.symm.trans g1)
      have hloc := k.locs y (List.mem_of_getElem? hy)
      obtain ⟨_, _, _, rfl, o, r⟩ := g3.lst_inv
      rename_i ad vs n
      obtain ⟨hlen, hat⟩ := pairs_at r h1
      refine wpAny_ListComp_free (pairIn s.heap (pP st)) (fun v y => ∀ q, PairAt c led v q → ∃ s t', y = .str s t' ∧ s.cps.toList = gP q) hclos hcell hkind hnames hx (nameX_L F g2 ?_ k.kind hloc.1 hloc.2) hs
      have hl := isList_of I o
      refine wpAny_pyIter_list hl ?_
      have hne : ad ≠ s.heap.objs.size := by
        obtain ⟨o', ho', _⟩ := hl
        exact Nat.ne_of_lt (Heap.lt_size ho')
      have keep12 : ∀ b o', s.heap.get? b = some o' → b ≠ s.heap.objs.size := fun b o' e => Nat.ne_of_lt (Heap.lt_size e)
      have ext : ∀ (s₃ : Shared), (∀ b o', b ∉ [s.heap.objs.size] → (s.heap.push { cls := .type "list_iterator", data := .fields #[.ref ad, .int 0 0] }).get? b = some o' → s₃.heap.get? b = some o') → ∀ a o', s.heap.get? a = some o' → s₃.heap.get? a = some o' := fun s₃ h a o' e =>
        h a o' (fun hm => keep12 a o' e (List.mem_singleton.mp hm)) (Heap.get?_push_of_some _ e)
      have atP : ∀ v q, PairAt c led v q → pairIn s.heap (pP st) v = pP st q := by
        rintro v q ⟨t, n', pa, ta, pb, tb, rfl, ho, rfl⟩
        have := I.heapO ho
        unfold pairIn
        dsimp only
        rw [this]
      refine ⟨_, _, _, _, _, _, rfl, Walks.list k.handled _ ad hne vs.toArray, ?_, ⟨⟨_, Heap.get?_push_size _ rfl, rfl, rfl⟩, hl.push _⟩, ?_, ⟨?_, ?_⟩, ?_⟩
      · rw [List.size_toArray, hlen, sizeLine_eq]; have := hgl.2; omega
      · intro b hb
        show _ < (s.heap.push _).objs.size
        rw [Heap.size_push]
        rcases List.mem_cons.mp hb with rfl | hb
        · exact Nat.lt_succ_self _
        · rw [List.mem_singleton.mp hb]
          obtain ⟨o', ho', _⟩ := hl
          exact Nat.lt_succ_of_lt (Heap.lt_size ho')
      · rintro C j v s₃ m₃ E' hC hv hn hm hk htk
        obtain ⟨q, _, hq⟩ := hat j v (by simpa using hv)
        rw [atP v q hq]
        exact ht st led s hgl.1 I C s₃ m₃ E' v q (ext s₃ hk) hn hm hq
      · rintro C j v s₃ m₃ E' hC hv hp hn hm hk htk
        obtain ⟨q, _, hq⟩ := hat j v (by simpa using hv)
        refine wpAny_mono (hel st led s hgl.1 I C s₃ m₃ E' v q (ext s₃ hk) hn hm hq) ?_ fun _ _ e => e
        rintro y s4 ⟨⟨s0, t', e1, e2⟩, kk⟩
        refine ⟨fun q' hq' => ⟨s0, t', e1, ?_⟩, kk⟩
        obtain ⟨t1, n1, pa, ta, pb, tb, e3, ho, rfl⟩ := hq
        obtain ⟨t2, n2, pa', ta', pb', tb', e4, ho', rfl⟩ := hq'
        rw [e3] at e4
        cases e4
        have := (I.heapO ho).symm.trans (I.heapO ho')
        cases this
        exact e2
      · intro D h' tk ys vs' hD hl' hpl hlen' hP hF hk
        have I2 : Inv c st led { s with heap := h', toks := tk } := I.keeps (ext { s with heap := h', toks := tk } hk) rfl rfl
        obtain ⟨n', hn⟩ := hpl
        have hb : c.b0.get? D = none := by
          cases q : c.b0.get? D with
          | none => rfl
          | some o' =>
            have := Heap.get?_push_of_some { cls := .type "list_iterator", data := .fields #[.ref ad, .int 0 0] } (I.heapO (.inr q : c.O led D o'))
            rw [hD] at this; cases this
        have hLne : D ≠ c.L := by
          rintro rfl
          obtain ⟨oL, _, _, ho, _⟩ := F.ns
          have := Heap.get?_push_of_some { cls := .type "list_iterator", data := .fields #[.ref ad, .int 0 0] } ho
          rw [hD] at this; cases this
        refine ⟨_, fun p hp => .tail _ hp, .lst (vs := ys.toList) (n := n') (.inl ?_) (paired_pairs (pP := pP st) (gP := gP) (At := PairAt c led) atP (fun v q y a b => b q a) (vs := vs') ?_ ?_ hF), I2.add k (o := { cls := .type "list", data := .seq ys n' }) hn (NF_seq _ _ _) hb hLne⟩
        · rw [show ys.toList.toArray = ys from rfl]
          exact .head _
        · rw [hlen', List.size_toArray, hlen]
        · intro j v hv
          exact hat j v (by simpa using hP j v hv)
    · cases h2
  · cases h
theorem sub_pair (k : c.Ok) {scope : Scope} {cl : List (Str × Addr)} {C : Addr} {p1 p2 p3 : Pos} {kk : Nat} {led : List (Addr × Obj)} {st : St} {s₁ s₃ : Shared} {m₃ : Str → Option Value} {v : Value} {q : List Nat × List Nat} {j : Nat} {Q : Value → Shared → Prop} {E : Value → Shared → Prop}
    (hkind : scope.kind = .function) (hx : scope.names.lookup ("pair" : Str) = some .local) (I : Inv c st led s₁) (hk : ∀ a o, s₁.heap.get? a = some o → s₃.heap.get? a = some o) (hn : s₃.heap.Ns C m₃) (hm : m₃ ("pair" : Str) = some v) (hq : PairAt c led v q) (hj : j = 0 ∨ j = 1)
    (h : ∀ s t s4, s.cps.toList = (if j = 0 then q.1 else q.2) → Keeps s₃ s4 → Q (.str s t) s4) :
    wpAny c.M c.A (eval (.Subscript (.Name "pair" p1) (.Constant (.int (j : Nat)) kk p2) p3) (compEnvC scope cl C c.env)) Q E s₃ := by
  obtain ⟨t, n, pa, ta, pb, tb, rfl, ho, rfl⟩ := hq
  refine Subscript_ (cmp_loc hkind hx (by decide) hn hm (wpAny_Constant_int ?_))
  have it : IsTup s₃.heap t [.str pa ta, .str pb tb].toArray := ⟨_, hk _ _ (I.heapO ho), rfl, n, rfl⟩
  rcases hj with rfl | rfl
  · exact item_tupleT it (j := 0) (by decide) (by decide) (by rfl) rfl (h pa ta _ rfl ⟨_, _, rfl, fun _ _ e => e⟩)
  · exact item_tupleT it (j := 1) (by decide) (by decide) (by rfl) rfl (h pb tb _ rfl ⟨_, _, rfl, fun _ _ e => e⟩)
noncomputable def eFirsts (i : Nat) : EF := eCompP (fun _ => true) (fun _ _ => true) Prod.fst i
theorem rE_firsts (k : c.Ok) (i : Nat) {px py p1 p2 p3 pos : Pos} {kk : Nat} {scope : Scope} {y : Str} (hy : c.names[i]? = some y) (hfree : ∀ x ∈ scope.names, x.2 ≠ .free) (hcell : ∀ y ∈ scope.names, y.2 ≠ .cell) (hkind : scope.kind = .function)
    (hnames : ∀ y ∈ scope.names, y.2 = .local → scope.names.lookup y.1 = some .local) (hx : scope.names.lookup ("pair" : Str) = some .local)
    (hs : ∀ x, foldedSetIterable (.Name y py) c.env x = pure x := by intro _; rfl) : RefE c (.ListComp (.Subscript (.Name "pair" p1) (.Constant (.int 0) kk p2) p3) [⟨.Name "pair" px, .Name y py, [], 0⟩] scope pos) (eFirsts i) :=
  rE_compP k (fun _ => true) (fun _ _ => true) Prod.fst i hy (closureFor_none hfree) hcell hkind hnames hx (fun st led s₁ _ I C s₃ m₃ E' v q hk hn hm hq => compTest_none ⟨rfl, Keeps.rfl'⟩)
    (fun st led s₁ _ I C s₃ m₃ E' v q hk hn hm hq => sub_pair k (j := 0) hkind hx I hk hn hm hq (.inl rfl) fun s t s4 e kk => ⟨⟨s, t, rfl, e⟩, kk⟩) hs
noncomputable def gEnd (st : St) : Bool := match st.cv with
  | some (.str _) => true
  | _ => false
noncomputable def pEnd (st : St) (q : List Nat × List Nat) : Bool := match st.cv with
  | some (.str x) => decide (q.1 = x)
  | _ => false
noncomputable def eSeconds (i : Nat) : EF := eCompP gEnd pEnd Prod.snd i
theorem rE_seconds (k : c.Ok) (i : Nat) {px py p1 p2 p3 q1 q2 q3 q4 q5 pos : Pos} {kk kk2 : Nat} {scope : Scope} {y : Str} (hy : c.names[i]? = some y) (hclos : closureFor scope c.env = pure c.cells) (hcell : ∀ y ∈ scope.names, y.2 ≠ .cell) (hkind : scope.kind = .function)
    (hnames : ∀ y ∈ scope.names, y.2 = .local → scope.names.lookup y.1 = some .local) (hx : scope.names.lookup ("pair" : Str) = some .local) (he : ∀ C, (compEnvC scope c.cells C c.env).kindOf ("end" : Str) = some .cell) (hxn : ∀ n d, c.cells = [(n, d)] → n = ("end" : Str))
    (hs : ∀ x, foldedSetIterable (.Name y py) c.env x = pure x := by intro _; rfl) : RefE c (.ListComp (.Subscript (.Name "pair" p1) (.Constant (.int 1) kk p2) p3) [⟨.Name "pair" px, .Name y py, [.Compare (.Subscript (.Name "pair" q1) (.Constant (.int 0) kk2 q2) q3) [.Eq] [.Name "end" q4] q5], 0⟩] scope pos) (eSeconds i) := by
  refine rE_compP k gEnd pEnd Prod.snd i hy hclos hcell hkind hnames hx ?_ (fun st led s₁ _ I C s₃ m₃ E' v q hk hn hm hq => sub_pair k (j := 1) hkind hx I hk hn hm hq (.inr rfl) fun s t s4 e kk => ⟨⟨s, t, rfl, e⟩, kk⟩) hs
  intro st led s₁ hg I C s₃ m₃ E' v q hk hn hm hq
  unfold gEnd at hg
  split at hg
  · rename_i xe hcv
    refine compTest_one (wpAny_isTrue_Compare1 (sub_pair k (j := 0) hkind hx I hk hn hm hq (.inl rfl) fun s t s4 e kk => ?_))
    refine cmp_cell hkind (he C) rfl hxn (by decide) I (fun a o h => Keeps.get kk (hk a o h)) hcv fun v hv => ?_
    generalize hxe : xe = xe' at hv
    obtain ⟨se, te, rfl, rfl⟩ := hv.str_inv
    refine PyProof.Rows.eq_str (prog := pw) (w := c.w) ?_
    refine wpAny_truthy_bool ⟨?_, kk⟩
    rw [str_eq_iff, e]
    unfold pEnd
    rw [hcv, hxe]
    rfl
  · cases hg
end
end Mine
end
section
open PySem PySem.W PyProof.Rows PySem.Calls
namespace Mine
section
variable {P : Params} {x : Option (Addr × Addr)} {O O' : Addr → Obj → Prop}
theorem VR.monoC (h : ∀ a o, (∀ u, o.data ≠ .cell u) → O a o → O' a o) {v : Value} {a : AV} (r : VR P x O v a) : VR P x O' v a := r.monoG fun a o hv => h a o (by cases hv <;> (intro u e; cases e))
end
section
variable {c : Cx}
inductive CellIn (c : Cx) (led : List (Addr × Obj)) : Prop
  | mk (n : Str) (a : Addr) (o : Obj) (w : Option Value) (h : c.cells = [(n, a)]) (m : (a, o) ∈ led) (d : o.data = .cell w)
theorem CellIn.mono {led led' : List (Addr × Obj)} (h : ∀ p ∈ led, p ∈ led') (x : CellIn c led) : CellIn c led' := by
  obtain ⟨n, a, o, w, h1, h2, h3⟩ := x
  exact ⟨n, a, o, w, h1, h _ h2, h3⟩
noncomputable def StayC (c : Cx) (led led' : List (Addr × Obj)) : Prop := ∀ p ∈ led, (∀ n a, c.cells = [(n, a)] → p.1 ≠ a) → p ∈ led'
theorem StayC.trans {led led1 led2 : List (Addr × Obj)} (h1 : StayC c led led1) (h2 : StayC c led1 led2) : StayC c led led2 := fun p hp hc => h2 p (h1 p hp hc) hc
theorem StayC.of {led led1 : List (Addr × Obj)} (h : ∀ p ∈ led, p ∈ led1) : StayC c led led1 := fun p hp _ => h p hp
inductive PostW (c : Cx) (led : List (Addr × Obj)) (r : FL) (st' : St) (f : Flow) (s' : Shared) : Prop
  | mk (led' : List (Addr × Obj)) (k : StayC c led led') (R : FLR c led' r f) (I : Inv c st' led' s') (C : CellIn c led')
noncomputable def RefSW (c : Cx) (t : Stmt) (f : SF) : Prop := ∀ st led s r st', Inv c st led s → CellIn c led → f st = some (r, st') →
  wpAny c.M c.A (exec t c.env) (PostW c led r st') (fun _ _ => ∃ C, r = .exc C) s
noncomputable def RefSsW (c : Cx) (t : List Stmt) (f : SF) : Prop := ∀ st led s r st', Inv c st led s → CellIn c led → f st = some (r, st') →
  wpAny c.M c.A (execs t c.env) (PostW c led r st') (fun _ _ => ∃ C, r = .exc C) s
theorem exc_of {led : List (Addr × Obj)} {r : FL} {st' : St} {e : Value} {s' : Shared} (h : PostE c led r st' e s') : ∃ C, r = .exc C := by
  obtain ⟨_, _, hx, _⟩ := h
  cases r with
  | exc C => exact ⟨C, rfl⟩
  | _ => exact hx.elim
theorem rSW_of {t : Stmt} {f : SF} (h : RefS c t f) : RefSW c t f := fun st led s r st' I hC hf => by
  refine wpAny_mono (h st led s r st' I hf) ?_ fun _ _ x => exc_of x
  rintro fl s1 ⟨led1, k1, h1, I1⟩
  exact ⟨led1, .of k1, h1, I1, hC.mono k1⟩
theorem rSsW_of {t : List Stmt} {f : SF} (h : RefSs c t f) : RefSsW c t f := fun st led s r st' I hC hf => by
  refine wpAny_mono (h st led s r st' I hf) ?_ fun _ _ x => exc_of x
  rintro fl s1 ⟨led1, k1, h1, I1⟩
  exact ⟨led1, .of k1, h1, I1, hC.mono k1⟩
theorem rSsW_cons {t : Stmt} {ts : List Stmt} {f g : SF} (hf : RefSW c t f) (hg : RefSsW c ts g) : RefSsW c (t :: ts) (sSeq f g) := by
  intro st led s r st' I hC h
  unfold sSeq at h
  cases hq : f st with
  | none => rw [hq] at h; cases h
  | some p =>
    obtain ⟨r1, st1⟩ := p
    rw [hq] at h
    have key : (∀ f' s', PostW c led r1 st1 f' s' → match f' with | .next => wpAny c.M c.A (execs ts c.env) (PostW c led r st') (fun _ _ => ∃ C, r = .exc C) s' | f => PostW c led r st' f s') →
        ((∃ C, r1 = .exc C) → ∃ C, r = .exc C) → wpAny c.M c.A (execs (t :: ts) c.env) (PostW c led r st') (fun _ _ => ∃ C, r = .exc C) s := fun h1 h2 =>
      wpAny_execs_cons (wpAny_mono (hf st led s r1 st1 I hC hq) h1 fun _ _ x => h2 x)
    cases r1 with
    | next =>
      refine key (fun f' s' hp => ?_) fun ⟨C, hp⟩ => by cases hp
      obtain ⟨led1, k1, rfl, I1, C1⟩ := hp
      refine wpAny_mono (hg st1 led1 s' r st' I1 C1 h) ?_ fun _ _ x => x
      rintro fl s2 ⟨led2, k2, h2, I2, C2⟩
      exact ⟨led2, k1.trans k2, h2, I2, C2⟩
    | brk =>
      cases h
      refine key (fun f' s' hp => ?_) fun hp => hp
      obtain ⟨led1, k1, rfl, I1, C1⟩ := hp
      exact ⟨led1, k1, rfl, I1, C1⟩
    | cont =>
      cases h
      refine key (fun f' s' hp => ?_) fun hp => hp
      obtain ⟨led1, k1, rfl, I1, C1⟩ := hp
      exact ⟨led1, k1, rfl, I1, C1⟩
    | ret v =>
      cases h
      refine key (fun f' s' hp => ?_) fun hp => hp
      obtain ⟨led1, k1, ⟨u, rfl, hv⟩, I1, C1⟩ := hp
      exact ⟨led1, k1, ⟨u, rfl, hv⟩, I1, C1⟩
    | exc C =>
      cases h
      refine key (fun f' s' hp => ?_) fun hp => hp
      obtain ⟨led1, k1, hx, I1⟩ := hp
      exact hx.elim
theorem Inv.noCell {st : St} {led : List (Addr × Obj)} {s : Shared} (I : Inv c st led s) : Inv c { st with cv := none } led s := ⟨I.ex, I.nf, (fun v h => by cases h), I.gens, I.os⟩
noncomputable def sAssC (e : EF) : SF := fun st => (e st).map fun p => (.next, { p.2 with cv := some p.1 })
theorem rSW_cell (k : c.Ok) {x : Str} {e : Expr} {f : EF} {p' pos : Pos} (hx : c.env.kindOf x = some .cell) (hn : ∀ n d, c.cells = [(n, d)] → n = x) (he : RefE c e f)
    (hs : swapsWith e (some (.Name x p')) pos.line c.env = pure false := by rfl) : RefSW c (.Assign [.Name x p'] e pos) (sAssC f) := by
  intro st led s r st' I hC h
  unfold sAssC at h
  obtain ⟨⟨a, st1⟩, h1, h2⟩ := Option.map_eq_some_iff.mp h
  cases h2
  refine wpAny_Assign_Name (wpAny_mono (he st led s a st1 I h1) ?_ fun _ _ e => e.elim) hs
  rintro v s1 ⟨led1, k1, V1, I1⟩
  obtain ⟨n, ad, o, w, z1, z2, z3⟩ := hC.mono k1
  obtain rfl := hn n ad z1
  have hlk : c.env.cells.lookup n = some ad := by
    show c.cells.lookup n = some ad
    rw [z1]; unfold List.lookup; rw [beq_self_eq_true]
  refine wpAny_storeName_cell k.kind hx hlk ⟨o, heap_get I1 z2, z3⟩ fun h' ⟨o', ho', hd'⟩ hs' => ?_
  have mono : ∀ a o', (∀ u, o'.data ≠ .cell u) → c.O led1 a o' → c.O ([(ad, o')] ++ without ad led1) a o' := fun a o' hnc h => by
    rcases h with h | h
    · refine .inl (List.mem_append_right _ (mem_without.mpr ⟨h, fun e => ?_⟩))
      have e1 := heap_get I1 h
      rw [show a = ad from e, heap_get I1 z2] at e1
      cases e1
      exact hnc _ z3
    · exact .inr h
  have mono' : ∀ a o'', (∀ u, o''.data ≠ .cell u) → c.O led1 a o'' → c.O ([(ad, o')] ++ without ad led1) a o'' := fun a o'' hnc h => by
    rcases h with h | h
    · refine .inl (List.mem_append_right _ (mem_without.mpr ⟨h, fun e => ?_⟩))
      have e1 := heap_get I1 h
      rw [show a = ad from e, heap_get I1 z2] at e1
      cases e1
      exact hnc _ z3
    · exact .inr h
  have NFo : NF o' := ⟨fun vs e => (by rw [hd'] at e; cases e), fun es n e => by rw [hd'] at e; cases e⟩
  have I2 : Inv c { st1 with cv := none } ([(ad, o')] ++ without ad led1) { s1 with heap := h', toks := s1.toks } :=
    I1.noCell.swapG k z2 (fun dx e => by rw [e] at z3; cases z3) (fun i a _ v h => h.monoC mono') (fun _ v a h => h.monoC mono') (fun v h => by cases h) s1.toks (fun b ob hb e => (hs'.2 b hb).trans e) fun p hp => by
      rcases List.mem_singleton.mp hp with rfl
      exact ⟨rfl, ho', NFo⟩
  refine ⟨[(ad, o')] ++ without ad led1, fun p hp hc => List.mem_append_right _ (mem_without.mpr ⟨k1 p hp, hc _ _ z1⟩), rfl, ⟨I2.ex, I2.nf, fun u hu => ?_, I2.gens, I2.os⟩, ⟨n, ad, o', some v, z1, .head _, hd'⟩⟩
  cases hu
  exact ⟨n, ad, o', v, z1, .head _, hd', V1.monoC mono'⟩
noncomputable def eCel : EF := fun st => st.cv.map fun a => (a, st)
theorem rE_cel (k : c.Ok) {x : Str} {pos : Pos} (hx : c.env.kindOf x = some .cell) (hn : ∀ n d, c.cells = [(n, d)] → n = x) (hd : (x == ("__debug__" : Str)) = false) : RefE c (.Name x pos) eCel := by
  intro st led s v st' I h
  unfold eCel at h
  obtain ⟨a, h1, h2⟩ := Option.map_eq_some_iff.mp h
  cases h2
  obtain ⟨n, ad, o, u, z1, z2, z3, z4⟩ := I.cel _ h1
  obtain rfl := hn n ad z1
  have hlk : c.env.cells.lookup n = some ad := by
    show c.cells.lookup n = some ad
    rw [z1]; unfold List.lookup; rw [beq_self_eq_true]
  exact wpAny_Name (wpAny_loadName_cell k.kind hx hlk ⟨o, heap_get I z2, z3⟩ ⟨led, fun _ h => h, z4, I⟩) hd
end
structure Fn.OkC (F : Fn) (x : Str) : Prop where
  ex : ∀ P : Params, FnX F P
  code : ∀ P : Params, codeIn (Kf P) (.ref F.cdv) F.qual = true
  keep : ∀ P : Params, keepIn (Kf P) (.ref F.a) = true
  kind : (fScope F.fn).kind = .function
  co : (fScope F.fn).isCoroutine = false
  gen : (fScope F.fn).isGenerator = false
  one : ∀ n, cellsFrom n (fScope F.fn).names [] = [(x, n)]
  loc : ∀ y ∈ F.names, (fScope F.fn).names.lookup y = some .local ∧ (y == ("__debug__" : Str)) = false
  nodup : F.names.Nodup
  few : F.np ≤ F.names.length
noncomputable def Fn.SpecC (F : Fn) (x : Str) (D : Nat) (s : SF) : Prop := ∀ (d : Cd) (a : Addr), d.cells = [(x, a)] → (d.cx F).Ok → d.A.depth < D → RefSsW (d.cx F) (fBody F.fn) s
theorem bindL_all {kindOf : Str → Option NameKind} : ∀ {binds : List (Str × Value)} {m : Str → Option Value}, (∀ x ∈ binds, kindOf x.1 = some .local) → ∀ y, bindL kindOf binds m y = (binds.reverse.lookup y).or (m y)
  | [], m, _, y => rfl
  | (n, v) :: r, m, h, y => by
    unfold bindL
    rw [if_pos (h (n, v) (.head _)), bindL_all (fun x hx => h x (.tail _ hx)) y, List.reverse_cons, List.lookup_append, Option.or_assoc]
    congr 1
    unfold List.lookup
    by_cases hy : y = n
    · subst hy; rw [if_pos rfl, beq_self_eq_true]; rfl
    · rw [if_neg hy, show (y == n) = false from by simpa using hy]
      rfl
theorem bindC_all {kindOf : Str → Option NameKind} : ∀ {binds : List (Str × Value)} {m : Str → Option Value}, (∀ x ∈ binds, kindOf x.1 = some .local) → bindC kindOf binds m = m
  | [], m, _ => rfl
  | (n, v) :: r, m, h => by
    unfold bindC
    rw [if_pos (h (n, v) (.head _)), bindC_all fun x hx => h x (.tail _ hx)]
section
variable {c : Cx}
noncomputable def CallOk (c : Cx) (F : Fn) (sf : SF) : Prop := ∀ {st : St} {led : List (Addr × Obj)} {sh : Shared}, Inv c st led sh → ∀ {vals : List Value} {args : List AV}, c.Vs led vals args → args.length = F.np →
  ∀ {v : AV} {fs' : List AV}, callF F.names.length sf st.fs args = some (v, fs') →
    wpAny c.M c.A (call (.ref F.a) vals) (PV c led v { st with fs := fs' }) (fun _ _ => False) sh
theorem callOk_of {F : Fn} {D : Nat} {s : SF} (k : c.Ok) (ok : F.Ok) (spec : F.Spec D s) (hD : c.A.depth + 1 < D) (hd : c.A.depth < 699) : CallOk c F s :=
  fun I _ _ hv hl _ _ h => call_fn k ok spec hD hd I hv hl h
theorem callOk_cell {F : Fn} {x : Str} {D : Nat} {s : SF} (k : c.Ok) (ok : F.OkC x) (spec : F.SpecC x D s) (hD : c.A.depth + 1 < D) (hd : c.A.depth < 699) : CallOk c F s := by
  intro st led sh I vals args hv hl v fs' h
  obtain ⟨name, dV, kV, doc, pm, an, ct, oc, od, osl, hlook, hbind⟩ := ok.ex c.w.params
  obtain ⟨m, part, fo, Fm, N, hS, hL, hf⟩ := I.ex
  have X := k.X.keeps Fm.keep
  have hlen : vals.length = F.np := hv.length.trans hl
  have hloc : ∀ x ∈ F.names.zip vals, (fScope F.fn).names.lookup x.1 = some .local := fun x hx => (ok.loc x.1 (List.of_mem_zip hx).1).1
  obtain ⟨oL, es, ep, hoL, hdL, hkL, hfL⟩ := Fm.ns
  let d : Cd := { w := c.w, A := c.A.deeper (envX F.qual (fScope F.fn) sh.heap.objs.size F.a (.ref F.cdv) [(x, sh.heap.objs.size + 1)]), L := sh.heap.objs.size, outer := c.env :: c.outer, b0 := c.b0, self := c.self, frs := (c.L, .dict es ep) :: c.frs, os := c.os, mg := c.mg, mb := c.mb, mean := c.mean, cells := [(x, sh.heap.objs.size + 1)] }
  have henv : callEnvC (fnOf name F.qual (fParams F.fn) (fBody F.fn) (fScope F.fn) dV kV doc pm an (.ref F.cdv) ct) sh.heap.objs.size F.a = (d.cx F).env := by
    show envX F.qual (fScope F.fn) sh.heap.objs.size F.a (.ref F.cdv) (cellsFrom (sh.heap.objs.size + 1) (fScope F.fn).names []) = _
    rw [ok.one]
  refine wpAny_call (codeAny_call_cells (fd := fnOf name F.qual (fParams F.fn) (fBody F.fn) (fScope F.fn) dV kV doc pm an (.ref F.cdv) ct) (body := fBody F.fn) (binds := F.names.zip vals) (Nat.lt_trans k.depth (by decide)) (X _ _ hlook) rfl (k.T.nolimit.keeps Fm.keep) (codeRec_of X (ok.code _)) rfl (hbind vals hlen) rfl
    (fun x hx => .inl (hloc x hx)) (fun s₁ IC => ?_) ok.co ok.gen ok.kind)
  rw [henv] at IC ⊢
  have hkl : ∀ x ∈ F.names.zip vals, (d.cx F).env.kindOf x.1 = some .local := hloc
  have hns := IC.toInCall.ns
  have hcell := IC.cell x (sh.heap.objs.size + 1) (by show List.lookup x [(x, sh.heap.objs.size + 1)] = _; unfold List.lookup; rw [beq_self_eq_true])
  rw [bindC_all hkl] at hcell
  obtain ⟨h₁, tk, rfl, hk₁⟩ := IC.done
  obtain ⟨oc, hoc, hdc⟩ := hcell
  have szb : c.b0.objs.size ≤ sh.heap.objs.size := Nat.le_trans k.above (Nat.le_of_lt (Heap.lt_size hoL |> fun h => Nat.lt_of_lt_of_le h (Nat.le_refl _)))
  have kc : (d.cx F).Ok := {
    kind := ok.kind
    X := k.X
    sets := k.sets
    T := k.T
    frames := by show (c.A.frames.map _) = _; rw [k.frames]; rfl
    handled := k.handled
    depth := by show c.A.depth + 1 < 700; omega
    units := by show c.A.units + 3 ≤ 3 * (c.A.depth + 1); have := k.units; omega
    nodup := ok.nodup
    locs := ok.loc
    above := szb
    frsOk := ⟨k.knd, rfl, ⟨es, ep, rfl⟩, L_none k, k.frsOk⟩ }
  have hne : ∀ p ∈ part ++ (led ++ fo), p.1 ≠ c.L := fun p hp => (N p hp).2.1
  have fodx : FoR (c.self.map (·.2)) ((c.L, .dict es ep) :: c.frs) ((c.L, oL) :: fo) := by
    refine .cons hdL ?_ hf
    unfold Cx.SelfR at hS
    cases hs : c.self with
    | none => intro e; cases e
    | some xd =>
      rw [hs] at hS
      obtain ⟨x, dx⟩ := xd
      obtain ⟨es', n, rfl, _⟩ := hS
      intro e
      exact hne _ (.head _) (Option.some.inj e).symm
  have I' : Inv (d.cx F) (startSt F.names.length st.fs args) ((sh.heap.objs.size + 1, oc) :: led) { sh with heap := h₁, toks := tk } := by
    refine ⟨⟨_, part, (c.L, oL) :: fo, ⟨hns, fun b o e => hk₁ _ _ (Fm.keep b o e), szb⟩, fun p hp => ?_, ?_, ?_, fodx⟩, fun p hp => ?_, (fun v h => by cases h), I.gens, I.os⟩
    · have hp' : p = (sh.heap.objs.size + 1, oc) ∨ p = (c.L, oL) ∨ p ∈ part ++ (led ++ fo) := by
        rcases List.mem_append.mp hp with hp | hp
        · exact .inr (.inr (List.mem_append_left _ hp))
        · rcases List.mem_append.mp hp with hp | hp
          · rcases List.mem_cons.mp hp with rfl | hp
            · exact .inl rfl
            · exact .inr (.inr (List.mem_append_right _ (List.mem_append_left _ hp)))
          · rcases List.mem_cons.mp hp with rfl | hp
            · exact .inr (.inl rfl)
            · exact .inr (.inr (List.mem_append_right _ (List.mem_append_right _ hp)))
      rcases hp' with rfl | rfl | hp'
      · exact ⟨hoc, Nat.succ_ne_self _, Heap.get?_none_of_le (Nat.le_trans szb (Nat.le_succ _))⟩
      · exact ⟨hk₁ _ _ hoL, Nat.ne_of_lt (Heap.lt_size hoL), L_none k⟩
      · exact ⟨hk₁ _ _ (N p hp').1, Nat.ne_of_lt (Heap.lt_size (N p hp').1), (N p hp').2.2⟩
    · unfold Cx.SelfR at hS ⊢
      cases hs : c.self with
      | none =>
        rw [hs] at hS
        exact hS
      | some xd =>
        obtain ⟨x', dx⟩ := xd
        rw [hs] at hS
        obtain ⟨es', n, rfl, hd, hx, hap⟩ := hS
        refine ⟨es', n, rfl, hd.mono fun v a h => ?_, .tail _ hx, fun p hp => ?_⟩
        · show VR c.w.params c.self _ v a
          exact VR.mono (O_mono (c := c) fun p hp => .tail _ hp) h
        rcases List.mem_cons.mp hp with rfl | hp
        · intro e
          have := Heap.lt_size (N (dx, _) (List.mem_append_left _ (.head _))).1
          rw [show dx = sh.heap.objs.size + 1 from e.symm] at this
          exact Nat.lt_asymm (Nat.lt_succ_self _) this
        · exact hap p hp
    · intro i a ha
      unfold startSt at ha
      dsimp only at ha
      rw [List.getElem?_append] at ha
      split at ha
      · rename_i hi
        rw [List.length_map] at hi
        rw [List.getElem?_map] at ha
        obtain ⟨a', ha', e⟩ := Option.map_eq_some_iff.mp ha
        cases e
        obtain ⟨u, hu, hV⟩ := hv.get ha'
        have hi' : i < F.names.length := Nat.lt_of_lt_of_le (hl ▸ hi) ok.few
        refine ⟨F.names[i], u, List.getElem?_eq_getElem hi', ?_, ?_⟩
        · rw [bindL_all hkl, lookup_zip ok.nodup (List.getElem?_eq_getElem hi') hu]; rfl
        · show VR c.w.params c.self _ u a
          exact VR.mono (O_mono (c := c) fun p hp => .tail _ hp) hV
      · rw [List.getElem?_replicate] at ha
        split at ha <;> cases ha
    · rcases List.mem_cons.mp hp with rfl | hp
      · exact ⟨fun vs e => (by rw [show oc.data = _ from hdc] at e; cases e), fun es n e => by rw [show oc.data = _ from hdc] at e; cases e⟩
      · exact I.nf p hp
  have run : ∀ r st1, s (startSt F.names.length st.fs args) = some (r, st1) → ∀ (Q : Flow → Shared → Prop) (E : Value → Shared → Prop), (∀ f s', PostW (d.cx F) ((sh.heap.objs.size + 1, oc) :: led) r st1 f s' → Q f s') → (∀ e s', (∃ C, r = .exc C) → E e s') →
      wpAny c.M (c.A.deeper (d.cx F).env) (execs (fBody F.fn) (d.cx F).env) Q E { sh with heap := h₁, toks := tk } :=
    fun r st1 hr Q E hq he => wpAny_mono (spec d _ rfl kc hD _ _ _ r st1 I' ⟨x, _, oc, none, rfl, .head _, hdc⟩ hr) hq he
  have back : ∀ st1 led' s' r, StayC (d.cx F) ((sh.heap.objs.size + 1, oc) :: led) led' → Inv (d.cx F) st1 led' s' → (d.cx F).V led' r v → st1.fs = fs' → PV c led v { st with fs := fs' } r s' := by
    intro st1 led' s' r kk0 I1 V1 hfs
    have kk : ∀ p ∈ led, p ∈ led' := fun p hp => kk0 p (.tail _ hp) fun n a e => by
      have e1 : [(x, sh.heap.objs.size + 1)] = [(n, a)] := e
      cases e1
      intro e2
      have := Heap.lt_size (heap_get I hp)
      rw [e2] at this
      exact Nat.lt_asymm (Nat.lt_succ_self _) this
    obtain ⟨m', part', fo', F', N', S', L', f'⟩ := I1.ex
    cases f' with | cons hd1 hd2 rest =>
    rename_i o' fo''
    have hL' := N' (c.L, o') (List.mem_append_right _ (List.mem_append_right _ (.head _)))
    refine ⟨led', kk, V1, ⟨m, part', fo'', ⟨⟨o', es, ep, hL'.1, hd1, hkL, hfL⟩, F'.keep, k.above⟩, fun p hp => ?_, ?_, LocR.mono kk hL, rest⟩, I1.nf, (fun v h => ?_), I1.gens, I1.os⟩
    · have g : (s'.heap.get? p.1 = some p.2 ∧ p.1 ≠ d.L ∧ c.b0.get? p.1 = none) := by
        rcases List.mem_append.mp hp with hp | hp
        · exact N' p (List.mem_append_left _ hp)
        · rcases List.mem_append.mp hp with hp | hp
          · exact N' p (List.mem_append_right _ (List.mem_append_left _ hp))
          · exact N' p (List.mem_append_right _ (List.mem_append_right _ (.tail _ hp)))
      refine ⟨g.1, ?_, g.2.2⟩
      intro e
      rcases List.mem_append.mp hp with hp | hp
      · unfold Cx.SelfR at S'
        cases hs : c.self with
        | none =>
          rw [show (d.cx F).self = none from hs] at S'
          rw [S'.1] at hp; cases hp
        | some xd =>
          obtain ⟨x, dx⟩ := xd
          rw [show (d.cx F).self = some (x, dx) from hs] at S'
          obtain ⟨es', n', rfl, _⟩ := S'
          rcases List.mem_singleton.mp hp with rfl
          have h2 : some c.L ≠ c.self.map (·.2) := hd2
          rw [hs] at h2
          exact h2 (congrArg some (e.symm : c.L = dx))
      · rcases List.mem_append.mp hp with hp | hp
        · rw [e, hL'.1] at g
          obtain ⟨g1, _⟩ := g
          cases g1
          exact (I1.nf p hp).2 _ _ hd1
        · obtain ⟨q, hq, e1, _⟩ := rest.get p hp
          have : ∀ {dx : Option Addr} {fr : List (Addr × Data)} {fo : List (Addr × Obj)}, FoR dx fr fo → ∀ q ∈ fr, ∃ p ∈ fo, p.1 = q.1 := by
            intro dx fr fo r
            induction r with
            | nil => intro q hq; cases hq
            | cons h1 h2 r ih =>
              intro q hq
              rcases List.mem_cons.mp hq with rfl | hq
              · exact ⟨_, .head _, rfl⟩
              · obtain ⟨p, hp, e⟩ := ih q hq
                exact ⟨p, .tail _ hp, e⟩
          obtain ⟨p0, hp0, e0⟩ := this hf q hq
          exact hne p0 (List.mem_append_right _ (List.mem_append_right _ hp0)) (e0.trans (e1.trans e))
    · subst hfs
      exact S'
    · obtain ⟨n, a, o, u, z1, z2, z3, z4⟩ := I.cel v h
      exact ⟨n, a, o, u, z1, kk _ z2, z3, z4.mono (O_mono kk)⟩
  unfold callF at h
  split at h
  · rename_i v' st1 hr
    cases h
    refine run _ _ hr _ _ (fun f s' hp => ?_) fun e s' hp => ?_
    · obtain ⟨led', kk, ⟨u, rfl, hV⟩, I1, _⟩ := hp
      exact back st1 led' s' _ kk I1 hV rfl
    · obtain ⟨C, hx⟩ := hp; cases hx
  · rename_i st1 hr
    cases h
    refine run _ _ hr _ _ (fun f s' hp => ?_) fun e s' hp => ?_
    · obtain ⟨led', kk, rfl, I1, _⟩ := hp
      exact back st1 led' s' _ kk I1 .none rfl
    · obtain ⟨C, hx⟩ := hp; cases hx
  · cases h
theorem callWithG {F : Fn} {sf : SF} (k : c.Ok) (keep : ∀ P : Params, keepIn (Kf P) (.ref F.a) = true) (ck : CallOk c F sf) {es : List Expr} {fs : List EF} (r : RefEs c es fs) {pos : Pos} {first : List Value} {fa : List AV}
    {st st1 : St} {led : List (Addr × Obj)} {s : Shared} {vs : List AV} (I : Inv c st led s) (hfa : c.Vs led first fa) (h1 : evs fs st = some (vs, st1)) (hl : (fa ++ vs).length = F.np) {v : AV} {fs' : List AV} (h : callF F.names.length sf st1.fs (fa ++ vs) = some (v, fs')) :
    wpAny c.M c.A (callWith pos (.ref F.a) first (backTo pos (starEach es c.env)) []) (PV c led v { st1 with fs := fs' }) (fun _ _ => False) s := by
  cases r with
  | nil =>
    cases h1
    refine callWith_K0 (I.K k) (keep _) ?_
    exact ck I (hfa.append .nil) hl h
  | cons he hs r =>
    refine callWith_K (K := c.K) (I.K k) (keep _) (wpAny_mono ((RefEs.cons he hs r).run I h1) ?_ fun _ _ e => e.elim) (hs _) r.plain
    rintro us s1 ⟨led1, k1, V1, I1⟩
    refine ⟨I1.K k, wpAny_mono (ck I1 ((hfa.mono (O_mono k1)).append V1) hl h) ?_ fun _ _ e => e.elim⟩
    rintro u s2 ⟨led2, k2, V2, I2⟩
    exact ⟨led2, fun p hp => k2 p (k1 p hp), V2, I2⟩
theorem rE_callG {F : Fn} {sf : SF} (k : c.Ok) (keep : ∀ P : Params, keepIn (Kf P) (.ref F.a) = true) (ck : CallOk c F sf) {es : List Expr} {fs : List EF} (r : RefEs c es fs) {nm : Str} {xp pos : Pos}
    (hf : ∀ P : Params, nsIn (Kf P) mainGlobals nm = some (some (.ref F.a))) (hx : c.env.kindOf nm = some .globalImplicit) (hdb : (nm == ("__debug__" : Str)) = false := by decide) : RefE c (.Call (.Name nm xp) es [] pos) (eCall F.names.length F.np sf fs) := by
  intro st led s v st' I h
  unfold eCall at h
  obtain ⟨⟨vs, st1⟩, h1, h2⟩ := Option.bind_eq_some_iff.mp h
  dsimp only at h2
  split at h2
  · rename_i hlen
    obtain ⟨⟨v', fs'⟩, h3, h4⟩ := Option.map_eq_some_iff.mp h2
    cases h4
    obtain ⟨m, part, fo, Fm, N, hS, hL, hfo⟩ := I.ex
    refine wpAny_Call_NameR (nameX_K Fm k.X (topRead_of k.T) (hf _) ?_ k.kind hx hdb)
    exact callWithG k keep ck r (fa := []) I .nil h1 hlen h3
  · cases h2
end
end Mine
end
section
open PySem PySem.W PyProof.Rows PySem.Calls
namespace Mine
section
variable {c : Cx}
theorem join_toS : ∀ zs : List (List Nat), (Str.join ("" : Str) (zs.map toS)).cps.toList = zs.flatten
  | [] => by decide +kernel
  | [x] => by simp [Str.join, toS]
  | x :: y :: r => by
    show ((toS x ++ ("" : Str)) ++ Str.join ("" : Str) ((y :: r).map toS)).cps.toList = _
    rw [Str.cps_append, Str.cps_append, Array.toList_append, Array.toList_append, join_toS (y :: r)]
    have : ("" : Str).cps.toList = [] := by decide +kernel
    rw [this, List.append_nil]
    rfl
noncomputable def eJoin (f : EF) : EF := fun st => (f st).bind fun p => match p.1 with
  | .lst xs => (strsOf xs).bind fun zs => if (zs.map List.length).sum + zs.length ≤ 1000 then some (.str zs.flatten, p.2) else none
  | _ => none
theorem rE_join (k : c.Ok) {b : Expr} {g : EF} {ap ep pos : Pos} {kk : Nat} (hb : RefE c b g) {pl : Sem Bool}
    (hs : starEach [b] c.env = [(false, eval b c.env)] := by rfl)
    (he : eval (.Call (.Attribute (.Constant (.str "") kk ep) "join" ap) [b] [] pos) c.env = (do
      let ov ← eval (.Constant (.str "") kk ep) c.env
      standAt ap.atName
      let (f, first) ← holding [ov] (getMethod ov "join" pl)
      callWith pos f first (backTo pos (starEach [b] c.env)) []) := by rfl) : RefE c (.Call (.Attribute (.Constant (.str "") kk ep) "join" ap) [b] [] pos) (eJoin g) := by
  intro st led s v st' I h
  unfold eJoin at h
  obtain ⟨⟨x, st1⟩, h1, h2⟩ := Option.bind_eq_some_iff.mp h
  dsimp only at h2
  split at h2
  · rename_i xs
    obtain ⟨zs, h3, h4⟩ := Option.bind_eq_some_iff.mp h2
    split at h4
    · rename_i hw
      cases h4
      refine MethodCall_ (pl := pl) (wpAny_Constant_str ?_) he
      refine GM.join ?_
      rw [hs]
      refine Calls.callWith_builtin (by rfl) (evalArgs_plain (Calls.spliced_cons (wpAny_mono (hb st led _ _ _ (I.with _) h1) ?_ fun _ _ e => e.elim)))
      rintro u2 s2 ⟨led2, k2, V2, I2⟩
      obtain ⟨_, _, _, rfl, o, r⟩ := V2.lst_inv
      refine Calls.spliced_nil ?_
      have hsum : ((zs.map toS).map (·.length)).sum + (zs.map toS).length ≤ 1048576 := by
        have e1 : (zs.map toS).map (·.length) = zs.map List.length := by
          rw [List.map_map]
          apply List.map_congr_left
          intro z _
          simp [toS, Str.length]
        rw [e1, List.length_map]; omega
      refine join_listW (isList_of I2 o) (by simpa using strsAre_of r h3) (by decide +kernel) hsum fun t' tk => ?_
      refine ⟨led2, k2, ?_, I2.with _⟩
      have : (Txt.join ("" : Str) (zs.map toS)).cps.toList = zs.flatten := by
        show (Builtin.Str.glued ("" : Str) (zs.map toS)).cps.toList = _
        rw [StrLaws.glued_eq_join, join_toS]
      rw [← this]
      exact .str _ _
    · cases h4
  · cases h2
noncomputable def stepY (acc : List Nat) (d : Nat) : List Nat := acc ++ [if d = 121 ∧ (acc = [] ∨ isVow (acc.getLastD 0) = true) then 89 else d]
noncomputable def turnY (w : List Nat) : List Nat := w.foldl stepY []
theorem turnY_succ {w : List Nat} {j d : Nat} (h : w[j]? = some d) : turnY (w.take (j + 1)) = stepY (turnY (w.take j)) d := by
  unfold turnY
  rw [List.take_add_one, h, List.foldl_append]
  rfl
theorem turnY_length (w : List Nat) : (turnY w).length = w.length := by
  unfold turnY
  have : ∀ (w acc : List Nat), (w.foldl stepY acc).length = acc.length + w.length := by
    intro w
    induction w with
    | nil => intro acc; rfl
    | cons d w ih => intro acc; rw [List.foldl_cons, ih, stepY, List.length_append]; simp; omega
  rw [this]; simp
theorem c_loc {x : Str} {pos : Pos} {A : Around} {M : Model} {s : Shared} {m : Str → Option Value} {v : Value} {Q : Value → Shared → Prop} {E : Value → Shared → Prop} (k : c.Ok)
    (hl : c.env.kindOf x = some .local) (hd : (x == ("__debug__" : Str)) = false) (hn : s.heap.Ns c.L m) (hv : m x = some v) (h : Q v s) : wpAny M A (eval (.Name x pos) c.env) Q E s :=
  wpAny_Name (wpAny_loadName_local k.kind hl hn hv h) hd
theorem ns_keeps {s s' : Shared} {m : Str → Option Value} {L : Addr} (h : Keeps s s') (hn : s.heap.Ns L m) : s'.heap.Ns L m := by
  obtain ⟨h1, t1, rfl, k1⟩ := h
  exact hn.keeps k1
theorem test_sign (k : c.Ok) {p1 p2 p3 p4 p5 p6 p7 p8 p9 p10 p11 p12 pA pO : Pos} {k1 k2 : Nat} {s : Shared} {m : Str → Option Value} {d : Nat} {t : Tok} {X : Addr} {its : Array Value} {n : Nat} {acc : List Nat} {Q : Bool → Shared → Prop} {E : Value → Shared → Prop}
    (hl1 : c.env.kindOf "sign" = some .local) (hl2 : c.env.kindOf "signs" = some .local) (hv : c.env.kindOf "_law_vowel" = some .globalImplicit)
    (hb : ∀ b o, c.b0.get? b = some o → s.heap.get? b = some o) (hn : s.heap.Ns c.L m) (hm1 : m "sign" = some (.str ⟨#[d]⟩ t)) (hm2 : m "signs" = some (.ref X)) (hX : s.heap.get? X = some (listOf its n)) (hS : StrsAre its.toList (acc.map fun d => toS [d]))
    (hacc : acc.length ≤ 1000)
    (q : ∀ s', Keeps s s' → Q (decide (d = 121 ∧ (acc = [] ∨ isVow (acc.getLastD 0) = true))) s') :
    wpAny c.M c.A (isTrue (.BoolOp .And [.Compare (.Name "sign" p1) [.Eq] [.Constant (.str "y") k1 p2] p3, .BoolOp .Or [.Compare (.Name "signs" p4) [.Eq] [.List [] p5] p6, .Call (.Name "_law_vowel" p7) [.Subscript (.Name "signs" p8) (.UnaryOp .USub (.Constant (.int 1) k2 p9) p10) p11] [] p12] pO] pA) c.env
      (eval (.BoolOp .And [.Compare (.Name "sign" p1) [.Eq] [.Constant (.str "y") k1 p2] p3, .BoolOp .Or [.Compare (.Name "signs" p4) [.Eq] [.List [] p5] p6, .Call (.Name "_law_vowel" p7) [.Subscript (.Name "signs" p8) (.UnaryOp .USub (.Constant (.int 1) k2 p9) p10) p11] [] p12] pO] pA) c.env)) Q E s := by
  have hlen : its.size = acc.length := by
    have := hS.length
    simpa using this
  refine isTrue_and (wpAny_isTrue_Compare1 (c_loc k hl1 (by decide) hn hm1 (wpAny_Constant_str ?_)))
  refine PyProof.Rows.eq_str (prog := pw) (w := c.w) ?_
  refine wpAny_truthy_bool ?_
  have e : ((⟨#[d]⟩ : Str) == "y") = decide (d = 121) := by
    rw [str_eq_iff]
    have : ("y" : Str).cps.toList = [121] := by decide +kernel
    rw [this]
    simp
  rw [e]
  by_cases hd : d = 121
  · rw [decide_eq_true hd, if_pos rfl]
    refine isTrue_and (isTrue_or (wpAny_isTrue_Compare1 (c_loc k hl2 (by decide) (hn.keeps fun _ _ e => e) hm2 (List_ (spliced_none ?_)))))
    refine wpAny_newObj_type ?_ (Nat.zero_le _)
    have lX : (s.heap.push { cls := .type "list", data := .seq #[] }).IsList X its := ⟨_, Heap.get?_push_of_some _ hX, rfl, n, rfl⟩
    have lN : (s.heap.push { cls := .type "list", data := .seq #[] }).IsList s.heap.objs.size #[] := ⟨_, Heap.get?_push_size _ rfl, rfl, _, rfl⟩
    have kp : Keeps s { s with heap := s.heap.push { cls := .type "list", data := .seq #[] }, toks := s.toks + 1 } := ⟨_, _, rfl, fun b o e => Heap.get?_push_of_some _ e⟩
    cases acc with
    | nil =>
      have hz : its = #[] := by simpa using hlen
      subst hz
      refine SeqAt.eq_listAt (e := fun _ => true) lX lN rfl k.unitsLt (fun j h1 => absurd h1 (Nat.not_lt_zero j)) ?_
      refine wpAny_truthy_bool ?_
      rw [show (List.range (#[] : Array Value).size).all (fun _ => true) = true from rfl, if_pos rfl]
      rw [if_pos rfl]
      refine isTrue_and_nil ?_
      rw [show true = decide (d = 121 ∧ (([] : List Nat) = [] ∨ isVow (([] : List Nat).getLastD 0) = true)) from (decide_eq_true ⟨hd, .inl rfl⟩).symm]
      exact q _ kp
    | cons a acc =>
      refine SeqAt.eq_list_lengthsAt lX lN (by rw [hlen]; simp) k.unitsLt ?_
      refine wpAny_truthy_bool ?_
      rw [if_neg (by decide)]
      have hb' : ∀ b o, c.b0.get? b = some o → (s.heap.push { cls := .type "list", data := .seq #[] }).get? b = some o := fun b o e => Heap.get?_push_of_some _ (hb b o e)
      refine isTrue_or (isTrue_plain (wpAny_Call_NameR (Name_function_global k.kind hv (loadGlobal_global (env := c.env) (k.T.g.keeps hb') (mg_of k.X k.T.g (gl_law_vowel _)) ?_))) (by rfl))
      have hlast : ∃ u, its[((-1 : Int) + its.size).toNat]? = some (.str (toS [(a :: acc).getLastD 0]) u) := by
        have hi : ((-1 : Int) + its.size).toNat = (a :: acc).length - 1 := by rw [hlen]; omega
        rw [hi]
        have hg : ((a :: acc).map fun d => toS [d])[(a :: acc).length - 1]? = some (toS [(a :: acc).getLastD 0]) := by
          rw [List.getElem?_map, ← List.getLast?_eq_getElem?]
          rw [List.getLast?_eq_some_getLast (by simp), List.getLastD_eq_getLast?, List.getLast?_eq_some_getLast (by simp)]
          rfl
        obtain ⟨u, hu⟩ := hS.at hg
        exact ⟨u, by rw [← Array.getElem?_toList]; exact hu⟩
      obtain ⟨u, hu⟩ := hlast
      refine callWith_K (K := c.K) (h₀ := s.heap.push { cls := .type "list", data := .seq #[] }) (k.X.keeps hb') (ok_law_vowel.keep _) (spliced_more (Subscript_ (c_loc k hl2 (by decide) (hn.keeps fun b o e => Heap.get?_push_of_some _ e) hm2 (wpAny_UnaryOp (wpAny_Constant_int (PyProof.Rows.neg_int ?_))))) (by rfl))
      refine tail_any lX.typeIs slot_list_getitem.lookup (wpAny_getItem_list_neg (prog := pw) (w := c.w) lX (by decide) (by rw [hlen]; simp; omega) (by decide) hu ?_) (by with_unfolding_all rfl)
      refine spliced_none ⟨k.X.keeps hb', ?_⟩
      refine call_vowel k (Nat.lt_trans k.depth (by decide)) hb' fun s' kk => wpAny_truthy_bool ?_
      have kall : Keeps s s' := Keeps.trans' (s1 := { s with heap := s.heap.push { cls := .type "list", data := .seq #[] }, toks := s.toks + 1 + 1 + 1 }) ⟨_, _, rfl, fun b o e => Heap.get?_push_of_some _ e⟩ kk
      by_cases hvw : isVow ((a :: acc).getLastD 0) = true
      · rw [hvw, if_pos rfl, if_pos rfl]
        refine isTrue_and_nil ?_
        have := q s' kall
        rwa [decide_eq_true (show d = 121 ∧ ((a :: acc) = [] ∨ isVow ((a :: acc).getLastD 0) = true) from ⟨hd, .inr hvw⟩)] at this
      · have hf : isVow ((a :: acc).getLastD 0) = false := by simpa using hvw
        rw [hf, if_neg (by decide)]
        refine isTrue_or_nil ?_
        rw [if_neg (by decide)]
        have := q s' kall
        rwa [decide_eq_false (show ¬ (d = 121 ∧ ((a :: acc) = [] ∨ isVow ((a :: acc).getLastD 0) = true)) from fun h => h.2.elim (fun h => by cases h) hvw)] at this
  · rw [decide_eq_false hd, if_neg (by decide)]
    have := q { s with toks := s.toks + 1 } ⟨_, _, rfl, fun _ _ e => e⟩
    rwa [decide_eq_false (show ¬ (d = 121 ∧ (acc = [] ∨ isVow (acc.getLastD 0) = true)) from fun h => hd h.1)] at this
theorem app_sign (k : c.Ok) {e : Expr} {p1 ap pos epos : Pos} {s : Shared} {m : Str → Option Value} {X : Addr} {its : Array Value} {n : Nat} {y : Str} {Q : Flow → Shared → Prop} {E : Value → Shared → Prop} {pl : Sem Bool}
    (hl2 : c.env.kindOf "signs" = some .local) (hn : s.heap.Ns c.L m) (hm2 : m "signs" = some (.ref X)) (hX : s.heap.get? X = some (listOf its n)) (hsz : its.size ≤ 1000)
    (hev : ∀ E Q, (∀ t tk, Q (.str y t) { s with toks := tk }) → wpAny c.M c.A (eval e c.env) Q E s)
    (q : ∀ h' tk t, Heap.SameBut X s.heap h' → h'.get? X = some (listOf (its.push (.str y t)) (n + 1)) → Q .next { s with heap := h', toks := tk })
    (hs : starEach [e] c.env = [(false, eval e c.env)])
    (hw : swapsWith (.Call (.Attribute (.Name "signs" p1) "append" ap) [e] [] pos) none epos.line c.env = pure false)
    (he : eval (.Call (.Attribute (.Name "signs" p1) "append" ap) [e] [] pos) c.env = (do
      let ov ← eval (.Name "signs" p1) c.env
      standAt ap.atName
      let (f, first) ← holding [ov] (getMethod ov "append" pl)
      callWith pos f first (backTo pos (starEach [e] c.env)) [])) :
    wpAny c.M c.A (execs [.Expr (.Call (.Attribute (.Name "signs" p1) "append" ap) [e] [] pos) epos] c.env) Q E s := by
  refine wpAny_execs_cons (wpAny_Expr_any (MethodCall_ (pl := pl) (c_loc k hl2 (by decide) hn hm2 ?_) he) ?_ hw)
  · refine Calls.getMethod_list_append hX rfl rfl ?_
    rw [hs]
    refine Calls.callWith_builtin (by rfl) (evalArgs_plain (Calls.spliced_cons (hev _ _ fun t tk => ?_)))
    refine Calls.spliced_nil ?_
    refine append_at (prog := pw) (w := c.w) (s := { s with toks := tk }) hX (fun h' g1 g2 => ?_) (by rw [sizeLine_eq]; omega)
    exact wpAny_execs_nil (q h' tk t g1 g2)
  · show interactive c.env = false
    unfold interactive
    rw [show c.env.scope.kind = .function from k.kind]
    rfl
end
end Mine
end
section
open PySem PySem.W PyProof.Rows PySem.Calls
namespace Mine
section
variable {c : Cx}
theorem strsAre_snoc : ∀ {vs : List Value} {ys : List Str} {y : Str} {t : Tok}, StrsAre vs ys → StrsAre (vs ++ [.str y t]) (ys ++ [y])
  | _, _, y, t, .nil => .cons y t .nil
  | _, _, _, _, .cons a b h => .cons a b (strsAre_snoc h)
inductive LoopS (c : Cx) (s0 : Shared) (X : Addr) (w : List Nat) (m0 : Str → Option Value) (S : Nat → Heap → Prop) (j : Nat) (s : Shared) : Prop
  | mk (h : Heap) (tk : Nat) (m : Str → Option Value) (its : Array Value) (n : Nat) (e : s = { s0 with heap := h, toks := tk }) (k : ∀ b o, b ≠ c.L → s0.heap.get? b = some o → h.get? b = some o) (N : h.Ns c.L m) (g : m "signs" = some (.ref X))
    (r : ∀ y : Str, y ≠ "signs" → y ≠ "sign" → m y = m0 y) (x : h.get? X = some (listOf its n)) (t : StrsAre its.toList ((turnY (w.take j)).map fun d => toS [d])) (z : S j h)
noncomputable def strsA (l : List Nat) : List AV := l.map fun d => .str [d]
noncomputable def sSigns : SF := fun st => match st.ls[(0 : Nat)]? with
  | some (some (.str w)) => if w.length ≤ 100 then some (.next, { st with ls := (st.ls.set 1 (some (.lst (strsA (turnY w))))).set 2 none }) else none
  | _ => none
theorem names_ne (k : c.Ok) {i j : Nat} {y z : Str} (hi : c.names[i]? = some y) (hj : c.names[j]? = some z) (h : i ≠ j) : y ≠ z := by
  rintro rfl
  have hi' := (List.getElem?_eq_some_iff.mp hi).1
  have hj' := (List.getElem?_eq_some_iff.mp hj).1
  have e1 := (List.getElem?_eq_some_iff.mp hi).2
  have e2 := (List.getElem?_eq_some_iff.mp hj).2
  have nd := List.pairwise_iff_getElem.mp k.nodup
  rcases Nat.lt_or_gt_of_ne h with hlt | hlt
  · exact nd i j hi' hj' hlt (e1.trans e2.symm)
  · exact nd j i hj' hi' hlt (e2.trans e1.symm)
theorem Vs_strs {led : List (Addr × Obj)} : ∀ {vs : List Value} {ds : List Nat}, StrsAre vs (ds.map fun d => toS [d]) → c.Vs led vs (strsA ds)
  | _, [], h => by cases h; exact .nil
  | _, d :: ds, h => by
    cases h with | cons y t h =>
    exact .cons (.str (toS [d]) t) (Vs_strs h)
theorem rSs_signs (k : c.Ok) {ts : List Stmt} {g : SF} {q0 q1 q2 q3 q4 q5 q6 q7 q8 q9 qa qb qc p1 p2 p3 p4 p5 p6 p7 p8 p9 p10 p11 p12 pA pO pF r1 r2 r3 : Pos} {k1 k2 k3 : Nat} {pl1 pl2 : Sem Bool}
    (h0 : c.names[0]? = some ("word" : Str)) (h1 : c.names[1]? = some ("signs" : Str)) (h2 : c.names[2]? = some ("sign" : Str)) (hv : c.env.kindOf "_law_vowel" = some .globalImplicit) (hg : RefSsW c ts g)
    (hs1 : swapsWith (.List [] q0) (some (.Name "signs" q1)) q2.line c.env = pure false := by rfl)
    (hs2 : ∀ x, foldedSetIterable (.Name "word" q3) c.env x = pure x := by intro _; rfl)
    (hsA : starEach [.Constant (.str "Y") k3 q5] c.env = [(false, eval (.Constant (.str "Y") k3 q5) c.env)] := by rfl)
    (hwA : swapsWith (.Call (.Attribute (.Name "signs" q6) "append" q7) [.Constant (.str "Y") k3 q5] [] q8) none q9.line c.env = pure false := by rfl)
    (heA : eval (.Call (.Attribute (.Name "signs" q6) "append" q7) [.Constant (.str "Y") k3 q5] [] q8) c.env = (do
      let ov ← eval (.Name "signs" q6) c.env
      standAt q7.atName
      let (f, first) ← holding [ov] (getMethod ov "append" pl1)
      callWith q8 f first (backTo q8 (starEach [.Constant (.str "Y") k3 q5] c.env)) []) := by rfl)
    (hsB : starEach [.Name "sign" qa] c.env = [(false, eval (.Name "sign" qa) c.env)] := by rfl)
    (hwB : swapsWith (.Call (.Attribute (.Name "signs" qb) "append" qc) [.Name "sign" qa] [] r1) none r2.line c.env = pure false := by rfl)
    (heB : eval (.Call (.Attribute (.Name "signs" qb) "append" qc) [.Name "sign" qa] [] r1) c.env = (do
      let ov ← eval (.Name "signs" qb) c.env
      standAt qc.atName
      let (f, first) ← holding [ov] (getMethod ov "append" pl2)
      callWith r1 f first (backTo r1 (starEach [.Name "sign" qa] c.env)) []) := by rfl) :
    RefSsW c (.Assign [.Name "signs" q1] (.List [] q0) q2 :: .For (.Name "sign" q4) (.Name "word" q3) [.If (.BoolOp .And [.Compare (.Name "sign" p1) [.Eq] [.Constant (.str "y") k1 p2] p3, .BoolOp .Or [.Compare (.Name "signs" p4) [.Eq] [.List [] p5] p6, .Call (.Name "_law_vowel" p7) [.Subscript (.Name "signs" p8) (.UnaryOp .USub (.Constant (.int 1) k2 p9) p10) p11] [] p12] pO] pA)
      [.Expr (.Call (.Attribute (.Name "signs" q6) "append" q7) [.Constant (.str "Y") k3 q5] [] q8) q9] [.Expr (.Call (.Attribute (.Name "signs" qb) "append" qc) [.Name "sign" qa] [] r1) r2] r3] [] pF :: ts) (sSeq sSigns g) := by
  intro st led s r st' I hC h
  have n0 := k.locs _ (List.mem_of_getElem? h0)
  have n1 := k.locs _ (List.mem_of_getElem? h1)
  have n2 := k.locs _ (List.mem_of_getElem? h2)
  unfold sSeq sSigns at h
  split at h
  · rename_i st1 hh
    split at hh
    · rename_i wl hwl
      split at hh
      · rename_i hlen
        cases hh
        obtain ⟨m, part, fo, F, N, hS, hL, hfo⟩ := I.ex
        obtain ⟨y0, v0, e1, e2, e3⟩ := hL 0 _ hwl
        obtain rfl : ("word" : Str) = y0 := Option.some.inj (h0.symm.trans e1)
        generalize hwl' : wl = wl' at e3
        obtain ⟨w, tw, rfl, rfl⟩ := e3.str_inv
        subst hwl'
        have hLs : c.L < s.heap.objs.size := F.ns.lt
        refine wpAny_execs_cons (wpAny_Assign_Name (List_ (spliced_none (wpAny_newObj_type ?_ (Nat.zero_le _)))) hs1)
        have F1 := F.push { cls := .type "list", data := .seq [].toArray }
        refine wpAny_storeName_local n1.1 F1.ns (fun h' hn' hsb => ?_) (by rw [show c.env.scope.kind = .function from k.kind]; rfl)
        have hX0 : h'.get? s.heap.objs.size = some (listOf #[] 0) := (hsb.2 _ (Nat.ne_of_gt hLs)).trans (Heap.get?_push_size _ rfl)
        refine wpAny_execs_cons (wpAny_For (c_loc k n0.1 (by decide) hn' (v := .str w tw) ?_ ?_) hs2)
        · rw [if_neg (by decide)]; exact e2
        refine wpAny_pyIter_str fun o S hW hS0 => ?_
        have hLs' : c.L < h'.objs.size := hn'.lt
        have hXI : s.heap.objs.size < h'.objs.size := Heap.lt_size hX0
        have W := hW c.A k.handled
        generalize hI : h'.objs.size = It at W hS0 hLs' hXI ⊢
        have hk0 : ∀ b o, b ≠ c.L → s.heap.get? b = some o → h'.get? b = some o := fun b o hb e => (hsb.2 b hb).trans (Heap.get?_push_of_some _ e)
        have ns0 : (h'.push o).Ns c.L (fun x => if x = "signs" then some (.ref s.heap.objs.size) else m x) := hn'.keeps fun b o' e => Heap.get?_push_of_some _ e
        have start : LoopS c s s.heap.objs.size w.cps.toList m S 0 { s with heap := h'.push o, toks := s.toks + 1 } :=
          ⟨h'.push o, _, _, #[], 0, rfl, fun b o' hb e => Heap.get?_push_of_some _ (hk0 b o' hb e), ns0, if_pos rfl, fun y hy _ => if_neg hy, Heap.get?_push_of_some _ hX0, .nil, hS0⟩
        refine codeAny_mono (R := fun r1 s' => r1 = .ok .next ∧ LoopS c s s.heap.objs.size w.cps.toList m (fun _ _ => True) w.cps.size s') (codeAny_forLoop (fun n s₁ => ∃ j, j ≤ w.cps.size ∧ n = w.cps.size + 1 - j ∧ LoopS c s s.heap.objs.size w.cps.toList m S j s₁) ?_ (w.cps.size + 1) ⟨0, Nat.zero_le _, rfl, start⟩) ?_
        · rintro n s₁ ⟨j, hj, rfl, h₁, tk, m₁, its, nn, rfl, a1, a2, a3, a4, a5, a6, a7⟩
          by_cases hjn : j < w.cps.size
          · refine W.item j _ _ _ hjn a7 fun v h2 tk2 hP hS2 hk2 => ?_
            obtain ⟨d, u, hd, rfl⟩ := hP
            have LI : c.L ∉ [It] := fun hm => Nat.ne_of_lt hLs' (List.mem_singleton.mp hm)
            have XI : s.heap.objs.size ∉ [It] := fun hm => Nat.ne_of_lt hXI (List.mem_singleton.mp hm)
            have ns2 : h2.Ns c.L m₁ := by
              obtain ⟨oL, es, ep, ho, rr⟩ := a2
              exact ⟨oL, es, ep, hk2 _ _ LI ho, rr⟩
            refine wpAny_assign_Name (wpAny_storeName_local n2.1 ns2 (fun h3 hn3 hs3 => ?_) (by rw [show c.env.scope.kind = .function from k.kind]; rfl))
            have X3 : h3.get? s.heap.objs.size = some (listOf its nn) := (hs3.2 _ (Nat.ne_of_gt hLs)).trans (hk2 _ _ XI a5)
            have keep3 : ∀ b o, b ≠ c.L → s.heap.get? b = some o → h3.get? b = some o := fun b o hb e => (hs3.2 b hb).trans (hk2 b o (fun hm => by
              have := Heap.lt_size e
              rw [List.mem_singleton.mp hm] at this
              exact Nat.lt_asymm this hXI) (a1 b o hb e))
            have hS3 : S (j + 1) h3 := W.frame _ _ _ hS2 fun b hb o e => by
              rw [List.mem_singleton.mp hb] at e ⊢
              exact (hs3.2 _ (Nat.ne_of_gt hLs')).trans e
            have b03 : ∀ b o, c.b0.get? b = some o → h3.get? b = some o := fun b o e => keep3 b o (fun q => by rw [q, L_none k] at e; cases e) (F.keep b o e)
            have hlj : (turnY (w.cps.toList.take j)).length ≤ 100 := by
              rw [turnY_length, List.length_take]; omega
            have hitsz : its.size ≤ 100 := by
              have := a6.length
              simp only [Array.length_toList, List.length_map] at this
              omega
            have fin : ∀ h4 h5 tk5 dd t, (∀ b o, h3.get? b = some o → h4.get? b = some o) → Heap.SameBut s.heap.objs.size h4 h5 → h5.get? s.heap.objs.size = some (listOf (its.push (.str (toS [dd]) t)) (nn + 1)) →
                stepY (turnY (w.cps.toList.take j)) d = turnY (w.cps.toList.take j) ++ [dd] →
                ∃ m', m' < w.cps.size + 1 - j ∧ ∃ j, j ≤ w.cps.size ∧ m' = w.cps.size + 1 - j ∧ LoopS c s s.heap.objs.size w.cps.toList m S j { s with heap := h5, toks := tk5 } := by
              intro h4 h5 tk5 dd t kk hs5 g5 hst
              refine ⟨w.cps.size + 1 - (j + 1), by omega, j + 1, hjn, rfl, h5, tk5, _, _, nn + 1, rfl, fun b o hb e => ?_, (hn3.keeps kk).sameBut hs5 (Nat.ne_of_lt hLs), (if_neg (by decide)).trans a3, fun y y1 y2 => (if_neg y2).trans (a4 y y1 y2), g5, ?_, W.frame _ _ _ hS3 fun b hb o e => ?_⟩
              · exact (hs5.2 b (Nat.ne_of_lt (Heap.lt_size e))).trans (kk _ _ (keep3 b o hb e))
              · rw [turnY_succ (show w.cps.toList[j]? = some d by rw [Array.getElem?_toList]; exact hd), hst, Array.toList_push, List.map_append]
                exact strsAre_snoc a6
              · rw [List.mem_singleton.mp hb] at e ⊢
                exact (hs5.2 _ (Nat.ne_of_gt hXI)).trans (kk _ _ e)
            refine wpAny_execs_cons (wpAny_If (test_sign k n2.1 n1.1 hv b03 hn3 (if_pos rfl) ((if_neg (by decide)).trans a3) X3 a6 (by omega) fun s4 k4 => ?_))
            obtain ⟨h4, tk4, rfl, k4⟩ := k4
            by_cases hcond : d = 121 ∧ (turnY (w.cps.toList.take j) = [] ∨ isVow ((turnY (w.cps.toList.take j)).getLastD 0) = true)
            · rw [decide_eq_true hcond, if_pos rfl]
              refine app_sign k (y := toS [89]) n1.1 (hn3.keeps k4) ((if_neg (by decide)).trans a3) (k4 _ _ X3) (by omega) (fun E Q q => ?_) (fun h5 tk5 t hs5 g5 => wpAny_execs_nil (fin h4 h5 tk5 89 t k4 hs5 g5 ?_)) hsA hwA heA
              · have := q (s.toks) (s.toks)
                rw [show ("Y" : Str) = toS [89] by decide +kernel]
                exact wpAny_Constant_str (q _ _)
              · unfold stepY; rw [if_pos hcond]
            · rw [decide_eq_false hcond, if_neg (by decide)]
              refine app_sign k (y := toS [d]) n1.1 (hn3.keeps k4) ((if_neg (by decide)).trans a3) (k4 _ _ X3) (by omega) (fun E Q q => ?_) (fun h5 tk5 t hs5 g5 => wpAny_execs_nil (fin h4 h5 tk5 d t k4 hs5 g5 ?_)) hsB hwB heB
              · exact c_loc k n2.1 (by decide) (hn3.keeps k4) (if_pos rfl) (q _ _)
              · unfold stepY; rw [if_neg hcond]
          · have : j = w.cps.size := by omega
            subst this
            refine W.done _ _ _ a7 fun h2 tk2 hk2 => wpAny_execs_nil ⟨rfl, ?_⟩
            have LI : c.L ∉ [It] := fun hm => Nat.ne_of_lt hLs' (List.mem_singleton.mp hm)
            have XI : s.heap.objs.size ∉ [It] := fun hm => Nat.ne_of_lt hXI (List.mem_singleton.mp hm)
            have ns2 : h2.Ns c.L m₁ := by
              obtain ⟨oL, es, ep, ho, rr⟩ := a2
              exact ⟨oL, es, ep, hk2 _ _ LI ho, rr⟩
            refine ⟨h2, tk2, m₁, its, nn, rfl, fun b o hb e => hk2 b o (fun hm => ?_) (a1 b o hb e), ns2, a3, a4, hk2 _ _ XI a5, a6, trivial⟩
            have := Heap.lt_size e
            rw [List.mem_singleton.mp hm] at this
            exact Nat.lt_asymm this hXI
        · rintro r1 s' ⟨rfl, h₁, tk, m₁, its, nn, rfl, a1, a2, a3, a4, a5, a6, _⟩
          have hall : w.cps.toList.take w.cps.size = w.cps.toList := List.take_of_length_le (by simp)
          rw [hall] at a6
          have hNl : ∀ p ∈ led, s.heap.get? p.1 = some p.2 := fun p hp => heap_get I hp
          have I2 : Inv c { st with ls := (st.ls.set 1 (some (.lst (strsA (turnY w.cps.toList))))).set 2 none } ((s.heap.objs.size, listOf its nn) :: led) { s with heap := h₁, toks := tk } := by
            have keepN : ∀ p ∈ part ++ (led ++ fo), h₁.get? p.1 = some p.2 ∧ p.1 ≠ c.L ∧ c.b0.get? p.1 = none := fun p hp => ⟨a1 _ _ (N p hp).2.1 (N p hp).1, (N p hp).2⟩
            refine ⟨⟨m₁, part, fo, ⟨a2, fun b o e => a1 b o (fun q => by rw [q, L_none k] at e; cases e) (F.keep b o e), F.above⟩, fun p hp => ?_, ?_, fun i a ha => ?_, hfo⟩, fun p hp => ?_, fun v hv => ?_, I.gens, I.os⟩
            · have : p = (s.heap.objs.size, listOf its nn) ∨ p ∈ part ++ (led ++ fo) := by
                rcases List.mem_append.mp hp with hp | hp
                · exact .inr (List.mem_append_left _ hp)
                · rcases List.mem_append.mp hp with hp | hp
                  · rcases List.mem_cons.mp hp with rfl | hp
                    · exact .inl rfl
                    · exact .inr (List.mem_append_right _ (List.mem_append_left _ hp))
                  · exact .inr (List.mem_append_right _ (List.mem_append_right _ hp))
              rcases this with rfl | h
              · exact ⟨a5, Nat.ne_of_gt hLs, Heap.get?_none_of_le (Nat.le_trans k.above (Nat.le_of_lt hLs))⟩
              · exact keepN p h
            · unfold Cx.SelfR at hS ⊢
              cases hs : c.self with
              | none => rw [hs] at hS; exact hS
              | some xd =>
                obtain ⟨x, dx⟩ := xd
                rw [hs] at hS
                obtain ⟨es, n, rfl, hd, hx, hap⟩ := hS
                refine ⟨es, n, rfl, hd.mono fun v a h => h.mono (O_mono fun p hp => .tail _ hp), .tail _ hx, fun p hp => ?_⟩
                rcases List.mem_cons.mp hp with rfl | hp
                · intro e
                  have := Heap.lt_size (N (dx, _) (List.mem_append_left _ (.head _))).1
                  exact absurd this (by rw [← e]; exact Nat.lt_irrefl _)
                · exact hap p hp
            · dsimp only at ha
              rw [List.getElem?_set] at ha
              split at ha
              · split at ha <;> cases ha
              · rename_i hi2
                rw [List.getElem?_set] at ha
                split at ha
                · rename_i hi1
                  subst hi1
                  split at ha
                  · cases ha
                    exact ⟨_, _, h1, a3, .lst (vs := its.toList) (n := nn) (.inl (by rw [show its.toList.toArray = its from rfl]; exact .head _)) (Vs_strs a6)⟩
                  · cases ha
                · rename_i hi1
                  obtain ⟨y, v, b1, b2, b3⟩ := hL i a ha
                  exact ⟨y, v, b1, (a4 y (names_ne k b1 h1 (Ne.symm hi1)) (names_ne k b1 h2 (Ne.symm hi2))).trans b2, b3.mono (O_mono fun p hp => .tail _ hp)⟩
            · rcases List.mem_cons.mp hp with rfl | hp
              · exact NF_seq _ _ _
              · exact I.nf p hp
            · obtain ⟨n, a, o', u, z1, z2, z3, z4⟩ := I.cel v hv
              exact ⟨n, a, o', u, z1, .tail _ z2, z3, z4.mono (O_mono fun p hp => .tail _ hp)⟩
          refine wpAny_mono (hg _ _ _ _ _ I2 (hC.mono fun p hp => .tail _ hp) h) ?_ fun _ _ x => x
          rintro fl s2 ⟨led2, k2, h2, I2, C2⟩
          exact ⟨led2, StayC.trans (.of fun p hp => .tail _ hp) k2, h2, I2, C2⟩
      · cases hh
    · cases hh
  · rename_i hne
    exfalso
    split at h
    · rename_i wl hwl
      split at h
      · rename_i hl
        refine hne { st with ls := (st.ls.set 1 (some (.lst (strsA (turnY wl))))).set 2 none } ?_
        rw [hwl]
        exact if_pos hl
      · cases h
    · cases h
end
end Mine
end
section
open PySem PySem.W PyProof.Rows PySem.Calls
namespace Mine
theorem ok_law_rows : F_law_rows.OkC "end" where
  ex := fun P => Fn.exI (by kernel_rfl : (Kf P).lookup 645 = some (o645 P)) (vals3 fun v0 v1 v2 => by kernel_rfl)
  code := fun P => by kernel_rfl
  keep := fun P => by kernel_rfl
  kind := by kernel_rfl
  co := by kernel_rfl
  gen := by kernel_rfl
  one := fun n => by kernel_rfl
  loc := by decide +kernel
  nodup := by decide +kernel
  few := by decide +kernel
noncomputable def s_law_rows : SF := (sSeq (sAssC (eCall 4 2 s_law_end [(eL 0), (eFirsts 1)])) (sSeq (sIf (tOr (tE (eBin gEq eCel (eK (.str [])))) (tOr (tE (eBin gLt (eBin gSub (eFun gLen [(eL 0)]) (eFun gLen [eCel])) (eL 2))) (tK false))) (sSeq (sRet (eL 0)) sNil) sNil) (sSeq (sRet (eBin gAdd (eSliceNS (eL 0) (eBin gSub (eFun gLen [(eL 0)]) (eFun gLen [eCel]))) (eBin gIdx (eSeconds 1) (eK (.int 0))))) sNil)))
set_option maxHeartbeats 1000000 in
theorem spec_law_rows : F_law_rows.SpecC "end" 680 s_law_rows := fun d ca hcl k hd =>
  have hd : (d.cx F_law_rows).A.depth < 680 := hd
  (rSsW_cons (rSW_cell k (by kernel_rfl) (fun n e h => by have h2 := hcl.symm.trans h; cases h2; rfl) (rE_call k ok_law_end spec_law_end (by omega) (by omega) (.cons (rE_loc k 0 rfl) (fun _ => rfl) (.cons (rE_firsts k 1 rfl (by decide +kernel) (by decide +kernel) (by kernel_rfl) (by decide +kernel) (by decide +kernel)) (fun _ => rfl) .nil)) gl_law_end (by kernel_rfl) (by decide +kernel))) (rSsW_of (rSs_cons (rS_if (rT_or (rT_cmp (o_eq k) (rE_cel k (by kernel_rfl) (fun n e h => by have h2 := hcl.symm.trans h; cases h2; rfl) (by decide +kernel)) (rE_strL (by decide +kernel))) (rT_or (rT_cmp o_lt (rE_bin o_sub (rE_len k (.cons (rE_loc k 0 rfl) (fun _ => rfl) .nil) (by kernel_rfl) (noLen _)) (rE_len k (.cons (rE_cel k (by kernel_rfl) (fun n e h => by have h2 := hcl.symm.trans h; cases h2; rfl) (by decide +kernel)) (fun _ => rfl) .nil) (by kernel_rfl) (noLen _))) (rE_loc k 2 rfl)) rT_or0)) (rSs_cons (rS_ret (rE_loc k 0 rfl)) rSs_nil) rSs_nil) (rSs_cons (rS_ret (rE_bin o_addI (rE_sliceNS (rE_loc k 0 rfl) (rE_bin o_sub (rE_len k (.cons (rE_loc k 0 rfl) (fun _ => rfl) .nil) (by kernel_rfl) (noLen _)) (rE_len k (.cons (rE_cel k (by kernel_rfl) (fun n e h => by have h2 := hcl.symm.trans h; cases h2; rfl) (by decide +kernel)) (fun _ => rfl) .nil) (by kernel_rfl) (noLen _)))) (rE_idx (rE_seconds k 1 rfl ((congrArg (fun z => closureFor _ (envX _ _ _ _ _ z) = pure z) hcl).mpr (by kernel_rfl)) (by decide +kernel) (by kernel_rfl) (by decide +kernel) (by decide +kernel) (fun C => (congrArg (fun z => (compEnvC _ z C (envX _ _ _ _ _ z)).kindOf _ = some NameKind.cell) hcl).mpr (by kernel_rfl)) (fun n e h => by have h2 := hcl.symm.trans h; cases h2; rfl)) (rE_int _ _ _)))) rSs_nil))))
theorem ok_law_stem : F_law_stem.OkC "turned" where
  ex := fun P => Fn.exI (by kernel_rfl : (Kf P).lookup 650 = some (o650 P)) (vals1 fun v0 => by kernel_rfl)
  code := fun P => by kernel_rfl
  keep := fun P => by kernel_rfl
  kind := by kernel_rfl
  co := by kernel_rfl
  gen := by kernel_rfl
  one := fun n => by kernel_rfl
  loc := by decide +kernel
  nodup := by decide +kernel
  few := by decide +kernel
noncomputable def s_law_stem : SF := (sSeq sSigns (sSeq (sAssC (eBin gIn (eK (.str [89])) (eL 1))) (sSeq (sAssL 0 (eJoin (eL 1))) (sSeq (sAssL 3 (eCall 3 2 s_law_region [(eL 0), (eK (.int 0))])) (sSeq (sAssL 4 (eIf (tE (eBin gIsNone (eL 3) (eK .none))) (eK .none) (eCall 3 2 s_law_region [(eL 0), (eL 3)]))) (sSeq (sAssL 3 (eIf (tE (eBin gIsNone (eL 3) (eK .none))) (eFun gLen [(eL 0)]) (eL 3))) (sSeq (sAssL 4 (eIf (tE (eBin gIsNone (eL 4) (eK .none))) (eFun gLen [(eL 0)]) (eL 4))) (sSeq (sAssL 5 (eCall 4 2 s_law_end [(eL 0), (eList [(eK (.str [115, 115, 101, 115])), (eK (.str [105, 101, 115])), (eK (.str [115, 115])), (eK (.str [115]))])])) (sSeq (sIf (tE (eBin gIn (eL 5) (eList [(eK (.str [115, 115, 101, 115])), (eK (.str [105, 101, 115]))]))) (sSeq (sAssL 0 (eSliceNS (eL 0) (eBin gSub (eFun gLen [(eL 0)]) (eK (.int 2))))) sNil) (sSeq (sIf (tE (eBin gEq (eL 5) (eK (.str [115])))) (sSeq (sAssL 0 (eSliceNS (eL 0) (eBin gSub (eFun gLen [(eL 0)]) (eK (.int 1))))) sNil) sNil) sNil)) (sSeq (sAssL 5 (eCall 4 2 s_law_end [(eL 0), (eList [(eK (.str [101, 101, 100])), (eK (.str [101, 100])), (eK (.str [105, 110, 103]))])])) (sSeq (sAssL 6 (eSliceNS (eL 0) (eBin gSub (eFun gLen [(eL 0)]) (eFun gLen [(eL 5)])))) (sSeq (sIf (tE (eBin gEq (eL 5) (eK (.str [101, 101, 100])))) (sSeq (sIf (tE (eBin gGe (eFun gLen [(eL 6)]) (eL 3))) (sSeq (sAssL 0 (eBin gAdd (eL 6) (eK (.str [101, 101])))) sNil) sNil) sNil) (sSeq (sIf (tAnd (tE (eBin gNe (eL 5) (eK (.str [])))) (tAnd (tE (eBin gNe (eVowels (eL 6)) (eList []))) (tK true))) (sSeq (sAssL 0 (eL 6)) (sSeq (sIf (tE (eBin gNe (eCall 4 2 s_law_end [(eL 0), (eList [(eK (.str [97, 116])), (eK (.str [98, 108])), (eK (.str [105, 122]))])]) (eK (.str [])))) (sSeq (sAssL 0 (eBin gAdd (eL 0) (eK (.str [101])))) sNil) (sSeq (sIf (tE (eBin gNe (eCall 4 2 s_law_end [(eL 0), (eList [(eK (.str [98, 98])), (eK (.str [100, 100])), (eK (.str [102, 102])), (eK (.str [103, 103])), (eK (.str [109, 109])), (eK (.str [110, 110])), (eK (.str [112, 112])), (eK (.str [114, 114])), (eK (.str [116, 116]))])]) (eK (.str [])))) (sSeq (sAssL 0 (eSliceNS (eL 0) (eBin gSub (eFun gLen [(eL 0)]) (eK (.int 1))))) sNil) (sSeq (sIf (tAnd (tE (eBin gEq (eFun gLen [(eL 0)]) (eL 3))) (tAnd (tE (eCall 4 1 s_law_short [(eL 0)])) (tK true))) (sSeq (sAssL 0 (eBin gAdd (eL 0) (eK (.str [101])))) sNil) sNil) sNil)) sNil)) sNil)) sNil) sNil)) (sSeq (sIf (tAnd (tE (eBin gNe (eL 0) (eK (.str [])))) (tAnd (tE (eBin gIn (eBin gIdx (eL 0) (eBin gSub (eFun gLen [(eL 0)]) (eK (.int 1)))) (eList [(eK (.str [121])), (eK (.str [89]))]))) (tAnd (tE (eBin gNe (eVowels (eSliceNS (eL 0) (eBin gSub (eFun gLen [(eL 0)]) (eK (.int 1))))) (eList []))) (tK true)))) (sSeq (sAssL 0 (eBin gAdd (eSliceNS (eL 0) (eBin gSub (eFun gLen [(eL 0)]) (eK (.int 1)))) (eK (.str [105])))) sNil) sNil) (sSeq (sAssL 0 (eCall 3 3 s_law_rows [(eL 0), (eK v_law_second), (eL 3)])) (sSeq (sAssL 0 (eCall 3 3 s_law_rows [(eL 0), (eK v_law_third), (eL 3)])) (sSeq (sAssL 5 (eCall 4 2 s_law_end [(eL 0), (eK v_law_fourth)])) (sSeq (sAssL 6 (eSliceNS (eL 0) (eBin gSub (eFun gLen [(eL 0)]) (eFun gLen [(eL 5)])))) (sSeq (sIf (tAnd (tE (eBin gNe (eL 5) (eK (.str [])))) (tAnd (tE (eBin gGe (eFun gLen [(eL 6)]) (eL 4))) (tAnd (tOr (tE (eBin gNe (eL 5) (eK (.str [105, 111, 110])))) (tOr (tAnd (tE (eBin gNe (eL 6) (eK (.str [])))) (tAnd (tE (eBin gIn (eBin gIdx (eL 6) (eBin gSub (eFun gLen [(eL 6)]) (eK (.int 1)))) (eList [(eK (.str [115])), (eK (.str [116]))]))) (tK true))) (tK false))) (tK true)))) (sSeq (sAssL 0 (eL 6)) sNil) sNil) (sSeq (sIf (tE (eEnds (eL 0) (eK (.str [101])))) (sSeq (sAssL 6 (eSliceNS (eL 0) (eBin gSub (eFun gLen [(eL 0)]) (eK (.int 1))))) (sSeq (sIf (tOr (tE (eBin gGe (eFun gLen [(eL 6)]) (eL 4))) (tOr (tAnd (tE (eBin gGe (eFun gLen [(eL 6)]) (eL 3))) (tAnd (tNot (tE (eCall 4 1 s_law_short [(eL 6)]))) (tK true))) (tK false))) (sSeq (sAssL 0 (eL 6)) sNil) sNil) sNil)) sNil) (sSeq (sIf (tAnd (tE (eEnds (eL 0) (eK (.str [108, 108])))) (tAnd (tE (eBin gGe (eBin gSub (eFun gLen [(eL 0)]) (eK (.int 1))) (eL 4))) (tK true))) (sSeq (sAssL 0 (eSliceNS (eL 0) (eBin gSub (eFun gLen [(eL 0)]) (eK (.int 1))))) sNil) sNil) (sSeq (sRet (eJoin (eTurn (eL 0)))) sNil)))))))))))))))))))))
set_option maxHeartbeats 1000000 in
theorem spec_law_stem : F_law_stem.SpecC "turned" 640 s_law_stem := fun d ca hcl k hd =>
  have hd : (d.cx F_law_stem).A.depth < 640 := hd
  (rSs_signs k rfl rfl rfl (by kernel_rfl) (rSsW_cons (rSW_cell k (by kernel_rfl) (fun n e h => by have h2 := hcl.symm.trans h; cases h2; rfl) (rE_cmp o_in (rE_strL (by decide +kernel)) (rE_loc k 1 rfl))) (rSsW_of (rSs_cons (rS_assL k 0 rfl (rE_join k (rE_loc k 1 rfl))) (rSs_cons (rS_assL k 3 rfl (rE_call k ok_law_region spec_law_region (by omega) (by omega) (.cons (rE_loc k 0 rfl) (fun _ => rfl) (.cons (rE_int _ _ _) (fun _ => rfl) .nil)) gl_law_region (by kernel_rfl) (by decide +kernel))) (rSs_cons (rS_assL k 4 rfl (rE_if (rT_cmp o_is (rE_loc k 3 rfl) (rE_none _ _)) (rE_none _ _) (rE_call k ok_law_region spec_law_region (by omega) (by omega) (.cons (rE_loc k 0 rfl) (fun _ => rfl) (.cons (rE_loc k 3 rfl) (fun _ => rfl) .nil)) gl_law_region (by kernel_rfl) (by decide +kernel)))) (rSs_cons (rS_assL k 3 rfl (rE_if (rT_cmp o_is (rE_loc k 3 rfl) (rE_none _ _)) (rE_len k (.cons (rE_loc k 0 rfl) (fun _ => rfl) .nil) (by kernel_rfl) (noLen _)) (rE_loc k 3 rfl))) (rSs_cons (rS_assL k 4 rfl (rE_if (rT_cmp o_is (rE_loc k 4 rfl) (rE_none _ _)) (rE_len k (.cons (rE_loc k 0 rfl) (fun _ => rfl) .nil) (by kernel_rfl) (noLen _)) (rE_loc k 4 rfl))) (rSs_cons (rS_assL k 5 rfl (rE_call k ok_law_end spec_law_end (by omega) (by omega) (.cons (rE_loc k 0 rfl) (fun _ => rfl) (.cons (rE_list k (.cons (rE_strL (by decide +kernel)) (fun _ => rfl) (.cons (rE_strL (by decide +kernel)) (fun _ => rfl) (.cons (rE_strL (by decide +kernel)) (fun _ => rfl) (.cons (rE_strL (by decide +kernel)) (fun _ => rfl) .nil)))) (by decide +kernel)) (fun _ => rfl) .nil)) gl_law_end (by kernel_rfl) (by decide +kernel))) (rSs_cons (rS_if (rT_cmp o_in (rE_loc k 5 rfl) (rE_list k (.cons (rE_strL (by decide +kernel)) (fun _ => rfl) (.cons (rE_strL (by decide +kernel)) (fun _ => rfl) .nil)) (by decide +kernel))) (rSs_cons (rS_assL k 0 rfl (rE_sliceNS (rE_loc k 0 rfl) (rE_bin o_sub (rE_len k (.cons (rE_loc k 0 rfl) (fun _ => rfl) .nil) (by kernel_rfl) (noLen _)) (rE_int _ _ _)))) rSs_nil) (rSs_cons (rS_if (rT_cmp (o_eq k) (rE_loc k 5 rfl) (rE_strL (by decide +kernel))) (rSs_cons (rS_assL k 0 rfl (rE_sliceNS (rE_loc k 0 rfl) (rE_bin o_sub (rE_len k (.cons (rE_loc k 0 rfl) (fun _ => rfl) .nil) (by kernel_rfl) (noLen _)) (rE_int _ _ _)))) rSs_nil) rSs_nil) rSs_nil)) (rSs_cons (rS_assL k 5 rfl (rE_call k ok_law_end spec_law_end (by omega) (by omega) (.cons (rE_loc k 0 rfl) (fun _ => rfl) (.cons (rE_list k (.cons (rE_strL (by decide +kernel)) (fun _ => rfl) (.cons (rE_strL (by decide +kernel)) (fun _ => rfl) (.cons (rE_strL (by decide +kernel)) (fun _ => rfl) .nil))) (by decide +kernel)) (fun _ => rfl) .nil)) gl_law_end (by kernel_rfl) (by decide +kernel))) (rSs_cons (rS_assL k 6 rfl (rE_sliceNS (rE_loc k 0 rfl) (rE_bin o_sub (rE_len k (.cons (rE_loc k 0 rfl) (fun _ => rfl) .nil) (by kernel_rfl) (noLen _)) (rE_len k (.cons (rE_loc k 5 rfl) (fun _ => rfl) .nil) (by kernel_rfl) (noLen _))))) (rSs_cons (rS_if (rT_cmp (o_eq k) (rE_loc k 5 rfl) (rE_strL (by decide +kernel))) (rSs_cons (rS_if (rT_cmp o_ge (rE_len k (.cons (rE_loc k 6 rfl) (fun _ => rfl) .nil) (by kernel_rfl) (noLen _)) (rE_loc k 3 rfl)) (rSs_cons (rS_assL k 0 rfl (rE_bin o_addI (rE_loc k 6 rfl) (rE_strL (by decide +kernel)))) rSs_nil) rSs_nil) rSs_nil) (rSs_cons (rS_if (rT_and (rT_cmp (o_ne k) (rE_loc k 5 rfl) (rE_strL (by decide +kernel))) (rT_and (rT_cmp (o_ne k) (rE_vowels k (by decide +kernel) (by decide +kernel) (by kernel_rfl) (by decide +kernel) (by decide +kernel) (fun _ => (by kernel_rfl)) (rE_loc k 6 rfl)) (rE_list k .nil (by decide +kernel))) rT_and0)) (rSs_cons (rS_assL k 0 rfl (rE_loc k 6 rfl)) (rSs_cons (rS_if (rT_cmp (o_ne k) (rE_call k ok_law_end spec_law_end (by omega) (by omega) (.cons (rE_loc k 0 rfl) (fun _ => rfl) (.cons (rE_list k (.cons (rE_strL (by decide +kernel)) (fun _ => rfl) (.cons (rE_strL (by decide +kernel)) (fun _ => rfl) (.cons (rE_strL (by decide +kernel)) (fun _ => rfl) .nil))) (by decide +kernel)) (fun _ => rfl) .nil)) gl_law_end (by kernel_rfl) (by decide +kernel)) (rE_strL (by decide +kernel))) (rSs_cons (rS_assL k 0 rfl (rE_bin o_addI (rE_loc k 0 rfl) (rE_strL (by decide +kernel)))) rSs_nil) (rSs_cons (rS_if (rT_cmp (o_ne k) (rE_call k ok_law_end spec_law_end (by omega) (by omega) (.cons (rE_loc k 0 rfl) (fun _ => rfl) (.cons (rE_list k (.cons (rE_strL (by decide +kernel)) (fun _ => rfl) (.cons (rE_strL (by decide +kernel)) (fun _ => rfl) (.cons (rE_strL (by decide +kernel)) (fun _ => rfl) (.cons (rE_strL (by decide +kernel)) (fun _ => rfl) (.cons (rE_strL (by decide +kernel)) (fun _ => rfl) (.cons (rE_strL (by decide +kernel)) (fun _ => rfl) (.cons (rE_strL (by decide +kernel)) (fun _ => rfl) (.cons (rE_strL (by decide +kernel)) (fun _ => rfl) (.cons (rE_strL (by decide +kernel)) (fun _ => rfl) .nil))))))))) (by decide +kernel)) (fun _ => rfl) .nil)) gl_law_end (by kernel_rfl) (by decide +kernel)) (rE_strL (by decide +kernel))) (rSs_cons (rS_assL k 0 rfl (rE_sliceNS (rE_loc k 0 rfl) (rE_bin o_sub (rE_len k (.cons (rE_loc k 0 rfl) (fun _ => rfl) .nil) (by kernel_rfl) (noLen _)) (rE_int _ _ _)))) rSs_nil) (rSs_cons (rS_if (rT_and (rT_cmp (o_eq k) (rE_len k (.cons (rE_loc k 0 rfl) (fun _ => rfl) .nil) (by kernel_rfl) (noLen _)) (rE_loc k 3 rfl)) (rT_and (rT_plain (rE_call k ok_law_short spec_law_short (by omega) (by omega) (.cons (rE_loc k 0 rfl) (fun _ => rfl) .nil) gl_law_short (by kernel_rfl) (by decide +kernel))) rT_and0)) (rSs_cons (rS_assL k 0 rfl (rE_bin o_addI (rE_loc k 0 rfl) (rE_strL (by decide +kernel)))) rSs_nil) rSs_nil) rSs_nil)) rSs_nil)) rSs_nil)) rSs_nil) rSs_nil)) (rSs_cons (rS_if (rT_and (rT_cmp (o_ne k) (rE_loc k 0 rfl) (rE_strL (by decide +kernel))) (rT_and (rT_cmp o_in (rE_idx (rE_loc k 0 rfl) (rE_bin o_sub (rE_len k (.cons (rE_loc k 0 rfl) (fun _ => rfl) .nil) (by kernel_rfl) (noLen _)) (rE_int _ _ _))) (rE_list k (.cons (rE_strL (by decide +kernel)) (fun _ => rfl) (.cons (rE_strL (by decide +kernel)) (fun _ => rfl) .nil)) (by decide +kernel))) (rT_and (rT_cmp (o_ne k) (rE_vowels k (by decide +kernel) (by decide +kernel) (by kernel_rfl) (by decide +kernel) (by decide +kernel) (fun _ => (by kernel_rfl)) (rE_sliceNS (rE_loc k 0 rfl) (rE_bin o_sub (rE_len k (.cons (rE_loc k 0 rfl) (fun _ => rfl) .nil) (by kernel_rfl) (noLen _)) (rE_int _ _ _)))) (rE_list k .nil (by decide +kernel))) rT_and0))) (rSs_cons (rS_assL k 0 rfl (rE_bin o_addI (rE_sliceNS (rE_loc k 0 rfl) (rE_bin o_sub (rE_len k (.cons (rE_loc k 0 rfl) (fun _ => rfl) .nil) (by kernel_rfl) (noLen _)) (rE_int _ _ _))) (rE_strL (by decide +kernel)))) rSs_nil) rSs_nil) (rSs_cons (rS_assL k 0 rfl (rE_callG k ok_law_rows.keep (callOk_cell k ok_law_rows spec_law_rows (by omega) (by omega)) (.cons (rE_loc k 0 rfl) (fun _ => rfl) (.cons (r_law_second k (by kernel_rfl)) (fun _ => rfl) (.cons (rE_loc k 3 rfl) (fun _ => rfl) .nil))) gl_law_rows (by kernel_rfl) (by decide +kernel))) (rSs_cons (rS_assL k 0 rfl (rE_callG k ok_law_rows.keep (callOk_cell k ok_law_rows spec_law_rows (by omega) (by omega)) (.cons (rE_loc k 0 rfl) (fun _ => rfl) (.cons (r_law_third k (by kernel_rfl)) (fun _ => rfl) (.cons (rE_loc k 3 rfl) (fun _ => rfl) .nil))) gl_law_rows (by kernel_rfl) (by decide +kernel))) (rSs_cons (rS_assL k 5 rfl (rE_call k ok_law_end spec_law_end (by omega) (by omega) (.cons (rE_loc k 0 rfl) (fun _ => rfl) (.cons (r_law_fourth k (by kernel_rfl)) (fun _ => rfl) .nil)) gl_law_end (by kernel_rfl) (by decide +kernel))) (rSs_cons (rS_assL k 6 rfl (rE_sliceNS (rE_loc k 0 rfl) (rE_bin o_sub (rE_len k (.cons (rE_loc k 0 rfl) (fun _ => rfl) .nil) (by kernel_rfl) (noLen _)) (rE_len k (.cons (rE_loc k 5 rfl) (fun _ => rfl) .nil) (by kernel_rfl) (noLen _))))) (rSs_cons (rS_if (rT_and (rT_cmp (o_ne k) (rE_loc k 5 rfl) (rE_strL (by decide +kernel))) (rT_and (rT_cmp o_ge (rE_len k (.cons (rE_loc k 6 rfl) (fun _ => rfl) .nil) (by kernel_rfl) (noLen _)) (rE_loc k 4 rfl)) (rT_and (rT_or (rT_cmp (o_ne k) (rE_loc k 5 rfl) (rE_strL (by decide +kernel))) (rT_or (rT_and (rT_cmp (o_ne k) (rE_loc k 6 rfl) (rE_strL (by decide +kernel))) (rT_and (rT_cmp o_in (rE_idx (rE_loc k 6 rfl) (rE_bin o_sub (rE_len k (.cons (rE_loc k 6 rfl) (fun _ => rfl) .nil) (by kernel_rfl) (noLen _)) (rE_int _ _ _))) (rE_list k (.cons (rE_strL (by decide +kernel)) (fun _ => rfl) (.cons (rE_strL (by decide +kernel)) (fun _ => rfl) .nil)) (by decide +kernel))) rT_and0)) rT_or0)) rT_and0))) (rSs_cons (rS_assL k 0 rfl (rE_loc k 6 rfl)) rSs_nil) rSs_nil) (rSs_cons (rS_if (rT_plain (rE_ends k (rE_loc k 0 rfl) (rE_strL (by decide +kernel)))) (rSs_cons (rS_assL k 6 rfl (rE_sliceNS (rE_loc k 0 rfl) (rE_bin o_sub (rE_len k (.cons (rE_loc k 0 rfl) (fun _ => rfl) .nil) (by kernel_rfl) (noLen _)) (rE_int _ _ _)))) (rSs_cons (rS_if (rT_or (rT_cmp o_ge (rE_len k (.cons (rE_loc k 6 rfl) (fun _ => rfl) .nil) (by kernel_rfl) (noLen _)) (rE_loc k 4 rfl)) (rT_or (rT_and (rT_cmp o_ge (rE_len k (.cons (rE_loc k 6 rfl) (fun _ => rfl) .nil) (by kernel_rfl) (noLen _)) (rE_loc k 3 rfl)) (rT_and (rT_not (rT_plain (rE_call k ok_law_short spec_law_short (by omega) (by omega) (.cons (rE_loc k 6 rfl) (fun _ => rfl) .nil) gl_law_short (by kernel_rfl) (by decide +kernel)))) rT_and0)) rT_or0)) (rSs_cons (rS_assL k 0 rfl (rE_loc k 6 rfl)) rSs_nil) rSs_nil) rSs_nil)) rSs_nil) (rSs_cons (rS_if (rT_and (rT_plain (rE_ends k (rE_loc k 0 rfl) (rE_strL (by decide +kernel)))) (rT_and (rT_cmp o_ge (rE_bin o_sub (rE_len k (.cons (rE_loc k 0 rfl) (fun _ => rfl) .nil) (by kernel_rfl) (noLen _)) (rE_int _ _ _)) (rE_loc k 4 rfl)) rT_and0)) (rSs_cons (rS_assL k 0 rfl (rE_sliceNS (rE_loc k 0 rfl) (rE_bin o_sub (rE_len k (.cons (rE_loc k 0 rfl) (fun _ => rfl) .nil) (by kernel_rfl) (noLen _)) (rE_int _ _ _)))) rSs_nil) rSs_nil) (rSs_cons (rS_ret (rE_join k (rE_turn k ((congrArg (fun z => closureFor _ (envX _ _ _ _ _ z) = pure z) hcl).mpr (by kernel_rfl)) (by decide +kernel) (by kernel_rfl) (by decide +kernel) (by decide +kernel) (fun C => (congrArg (fun z => (compEnvC _ z C (envX _ _ _ _ _ z)).kindOf _ = some NameKind.cell) hcl).mpr (by kernel_rfl)) (fun n e h => by have h2 := hcl.symm.trans h; cases h2; rfl) (rE_loc k 0 rfl)))) rSs_nil))))))))))))))))))))))
end Mine
end
section
open PySem PySem.W PyProof.Rows PySem.Calls
namespace Mine
noncomputable def flatAV : AV → Bool
  | .none => true
  | .bool _ => true
  | .int _ => true
  | .str _ => true
  | _ => false
theorem VR.flat {P : Params} {x x' : Option (Addr × Addr)} {O O' : Addr → Obj → Prop} {v : Value} {a : AV} (h : VR P x O v a) (hf : flatAV a = true) : VR P x' O' v a := by
  cases h with
  | none => exact .none
  | bool b => exact .bool b
  | int i t => exact .int i t
  | str s t => exact .str s t
  | _ => cases hf
noncomputable def flatSt (st : St) : Bool := st.ls.all fun o => match o with | none => true | some a => flatAV a
theorem flat_get {st : St} (h : flatSt st = true) {i : Nat} {a : AV} (ha : st.ls[i]? = some (some a)) : flatAV a = true := by
  have := List.all_eq_true.mp h (some a) (List.mem_of_getElem? ha)
  exact this
theorem FoR.reDx {d d' : Option Addr} {fr : List (Addr × Data)} {fo : List (Addr × Obj)} (h : FoR d fr fo) : (∀ p ∈ fo, some p.1 ≠ d') → FoR d' fr fo := by
  induction h with
  | nil => intro _; exact .nil
  | cons h1 h2 r ih => intro q; exact .cons h1 (q _ (.head _)) (ih fun p hp => q p (.tail _ hp))
section
variable {c : Cx}
theorem sliceText_big {x : Str} {j : Int} (h : (x.length : Int) ≤ j) : StrLaws.sliceText x none (some j) = x := by
  have e : Builtin.Str.strSliceIndices none (some j) 1 x.length = Builtin.Str.strSliceIndices none (some (x.length : Int)) 1 x.length := by
    have a : ¬ (j < 0) := by omega
    have b : ¬ ((x.length : Int) < 0) := by omega
    have c : min j (x.length : Int) = x.length := by omega
    have e : max (0 : Int) (x.length : Int) = x.length := by omega
    simp [Builtin.Str.strSliceIndices, a, b, c, e]
  have e2 : StrLaws.sliceText x none (some j) = StrLaws.sliceText x none (some (x.length : Int)) := by unfold StrLaws.sliceText; rw [e]
  have hx : x.length = x.cps.toList.length := by simp [Str.length]
  rw [e2, StrLaws.sliceText_to ⟨by omega, by omega⟩]
  apply Str.ext'
  show _ = x.cps
  rw [List.drop_zero, Int.sub_zero, Int.toNat_natCast, hx, List.take_length, Array.toArray_toList]
noncomputable def eSliceTo (f h : EF) : EF := fun st => (f st).bind fun p => (h p.2).bind fun r => match p.1, r.1 with
  | .str x, .int j => if 0 ≤ j ∧ x.length < 1000 then some (.str (x.take j.toNat), r.2) else none
  | _, _ => none
theorem rE_sliceTo {v hi : Expr} {fv fh : EF} {p pos : Pos} (hv : RefE c v fv) (hh : RefE c hi fh)
    (ht : ∀ x t r, letTemporaryGo v (.str x t) r = pure () := by intro _ _ _; with_unfolding_all rfl) : RefE c (.Subscript v (.Slice none (some hi) none p) pos) (eSliceTo fv fh) := by
  intro st led s z st' I h
  unfold eSliceTo at h
  obtain ⟨⟨x, st1⟩, h1, h⟩ := Option.bind_eq_some_iff.mp h
  obtain ⟨⟨j, st3⟩, h3, h⟩ := Option.bind_eq_some_iff.mp h
  refine Subscript_ (wpAny_mono (hv st led s x st1 I h1) ?_ fun _ _ e => e.elim)
  rintro u s1 ⟨led1, k1, V1, I1⟩
  refine wpAny_Slice (wpAny_pure (a := Value.none) (wpAny_mono (hh st1 led1 s1 j st3 I1 h3) ?_ fun _ _ e => e.elim))
  rintro u3 s3 ⟨led3, k3, V3, I3⟩
  have V1 := V1.mono (O_mono k3)
  cases x with
  | str xl =>
    cases j with
    | int jv =>
      dsimp only at h
      split at h
      · rename_i hc
        cases h
        obtain ⟨x, t, rfl, rfl⟩ := V1.str_inv
        obtain ⟨_, rfl⟩ := V3.int_inv
        have hx : x.length = x.cps.toList.length := by simp [Str.length]
        obtain ⟨m, part, fo, F, N, hS, hL, hfo⟩ := I3.ex
        refine wpAny_pure (a := Value.none) ?_
        refine slice_strN_ns F N (fun h' t' tk F' N' => ⟨led3, fun p hp => k3 p (k1 p hp), ?_, ⟨⟨m, part, fo, F', N', hS, hL, hfo⟩, I3.nf, I3.cel, I3.gens, I3.os⟩⟩) (by with_unfolding_all rfl) (fun r => ht _ _ r) (sz1000 (by have := hc.2; omega))
        by_cases hj : jv ≤ x.cps.toList.length
        · rw [beq_iff_eq.mp (slice_closes_to (x := x) ⟨hc.1, hj⟩)]
          rw [Int.sub_zero, show (0 : Int).toNat = 0 from rfl, List.drop_zero]
          exact .str ⟨_⟩ _
        · rw [show Txt.slice x none (some jv) = x from sliceText_big (by omega), List.take_of_length_le (by omega)]
          exact .str x _
      · cases h
    | _ => cases h
  | _ => cases h
theorem rS_forAt (k : c.Ok) (i : Nat) {tx : Str} {px pos : Pos} {it : Expr} {body : List Stmt} {f : SF} (hx : c.names[i]? = some tx) (hf : RefSs c body f) {st1 : St} {led : List (Addr × Obj)} {s : Shared} {xs : List AV} {r : FL} {st' : St}
    (hit : wpAny c.M c.A (eval it c.env) (PV c led (.lst xs) st1) (fun _ _ => False) s) (h2 : forL i f xs st1 = some (r, st'))
    (hs : ∀ x, foldedSetIterable it c.env x = pure x := by intro _; rfl) : wpAny c.M c.A (exec (.For (.Name tx px) it body [] pos) c.env) (PostQ c led r st') (PostE c led r st') s := by
  refine wpAny_For (wpAny_mono hit ?_ fun _ _ e => e.elim) hs
  rintro u s1 ⟨led1, k1, V1, I1⟩
  have lift : ∀ (C : Code) s2, codeAny c.M c.A C (fun r1 s' => match r1 with | .ok fl => PostQ c led1 r st' fl s' | .error e => cameBackBy c.M c.A c.env (PostE c led1 r st') e s') s2 →
      codeAny c.M c.A C (fun r1 s' => match r1 with | .ok fl => PostQ c led r st' fl s' | .error e => cameBackBy c.M c.A c.env (PostE c led r st') e s') s2 := fun C s2 hh => by
    refine codeAny_mono hh fun r1 s' hr => ?_
    cases r1 with
    | ok fl => exact hr.grow k1
    | error e => exact wpAny_mono hr (fun _ _ x => x.grow k1) fun _ _ x => x.grow k1
  have fresh : ∀ p ∈ led1, p.1 ≠ s1.heap.objs.size := fun p hp => Nat.ne_of_lt (Heap.lt_size (heap_get I1 hp))
  obtain ⟨_, _, _, rfl, o, r0⟩ := V1.lst_inv
  rename_i ad vs n
  refine wpAny_pyIter_list (isList_of I1 o) (lift _ _ ?_)
  have I2 := I1.pushed k { cls := .type "list_iterator", data := .fields #[.ref ad, .int 0 0] } s1.toks (NF_iter rfl rfl (by simp)) rfl
  refine for_run k hx hf (Sh := fun j o => o.cls = .type "list_iterator" ∧ o.data = .fields #[.ref ad, .int j 0]) (fun j o ⟨h1, h2⟩ => ⟨h1 ▸ iterCls_of (by decide), NF_iter h1 h2 (by simp), fun u e => by rw [h2] at e; cases e⟩) ?_ fresh I2 ⟨rfl, rfl⟩ h2
  intro j st2 s2 led2 o2 Q E hj k2 hm I3 hs hQ
  have hit : s2.heap.IsListIter s1.heap.objs.size ad j := ⟨o2, heap_get I3 hm, hs⟩
  have hl : s2.heap.IsList ad vs.toArray := isList_of I3 (O_mono k2 _ _ o)
  cases hq : xs[j]? with
  | some a =>
    rw [hq] at hQ
    obtain ⟨v, hv, hV⟩ := r0.get hq
    refine wpAny_pyNext_list_item hit hl (x := v) (by simpa using hv) fun h' ⟨o', g1, g2⟩ g3 => ?_
    exact hQ v h' s2.toks o' (fun b o hb e => (g3.2 b hb).trans e) g1 ⟨g2.1, by rw [g2.2]⟩ hV
  | none =>
    rw [hq] at hQ
    refine wpAny_pyNext_list_end k.handled hit hl (by have := r0.length; simp at hq ⊢; omega) fun h' g => hQ h' s2.toks fun b o hb e => g b o hb e
noncomputable abbrev Cx.of (c : Cx) (x dx : Addr) : Cx := { c with self := some (x, dx) }
theorem of_ok (k : c.Ok) (x dx : Addr) : (c.of x dx).Ok := ⟨k.kind, k.X, k.sets, k.T, k.frames, k.handled, k.depth, k.units, k.nodup, k.locs, k.above, k.frsOk⟩
noncomputable abbrev mkCode (C : Addr) (l : List Value) : Code := .builtin "type.__call__" ⟨.ref C :: l, []⟩
theorem mk_weight (C : Addr) (l : List Value) : (mkCode C l).weight = 1 := by kernel_rfl
theorem mk_units (C : Addr) (l : List Value) : (mkCode C l).cUnits = 1 := by kernel_rfl
noncomputable abbrev Cx.under (c : Cx) (C : Addr) (l : List Value) : Cx := { c with A := c.A.under (mkCode C l) }
theorem under_depth (C : Addr) (l : List Value) : (c.under C l).A.depth = c.A.depth + 1 := by
  show c.A.depth + (mkCode C l).weight = _
  rw [mk_weight]
theorem under_ok (k : c.Ok) (C : Addr) (l : List Value) (hd : c.A.depth < 699) : (c.under C l).Ok :=
  ⟨k.kind, k.X, k.sets, k.T, (by
    show pushEnvs (mkCode C l).envs c.A.frames = _
    rw [show (mkCode C l).envs = [] from rfl, k.frames]
    rfl), k.handled, (by rw [under_depth]; omega), (by
    show c.A.units + (mkCode C l).cUnits ≤ 3 * (c.A.depth + (mkCode C l).weight)
    rw [mk_units, mk_weight]
    have := k.units
    omega), k.nodup, k.locs, k.above, k.frsOk⟩
theorem ps_makes (P : Params) : makesIn (Kf P) 527 = true := by kernel_rfl
theorem ps_keep (P : Params) : keepIn (Kf P) (.ref 527) = true := by kernel_rfl
noncomputable def stemRun (fs0 : List AV) (w : List Nat) : Option AV := match callF F_init.names.length s_init fs0 [.self] with
  | some (.none, fs1) => match callF F_stemWord.names.length s_stemWord fs1 [.self, .str w] with
    | some (v, _) => if flatAV v then some v else none
    | none => none
  | _ => none
noncomputable def eStem : EF := fun st => if flatSt st = true ∧ st.fs = [] ∧ st.cv.isNone = true then match st.ls[(0 : Nat)]? with
  | some (some (.str w)) => (stemRun [] w).map fun v => (v, st)
  | _ => none else none
theorem rE_stem (k : c.Ok) (hself : c.self = none) (hD : c.A.depth < 400) {x0 : Str} (h0 : c.names[0]? = some x0) {p1 p2 p3 p4 p5 : Pos} (hx : c.env.kindOf "PorterStemmer" = some .globalImplicit) {pl : Sem Bool}
    (hs : ∀ rest : List Expr, starEach (.Name x0 p4 :: rest) c.env = (false, eval (.Name x0 p4) c.env) :: starEach rest c.env := by intro _; rfl)
    (he : eval (.Call (.Attribute (.Call (.Name "PorterStemmer" p1) [] [] p2) "stemWord" p3) [.Name x0 p4] [] p5) c.env = (do
      let ov ← eval (.Call (.Name "PorterStemmer" p1) [] [] p2) c.env
      standAt p3.atName
      let (f, first) ← holding [ov] (getMethod ov "stemWord" pl)
      callWith p5 f first (backTo p5 (starEach [.Name x0 p4] c.env)) []) := by rfl) :
    RefE c (.Call (.Attribute (.Call (.Name "PorterStemmer" p1) [] [] p2) "stemWord" p3) [.Name x0 p4] [] p5) eStem := by
  intro st led s v st' I h
  unfold eStem at h
  split at h
  · rename_i hc
    obtain ⟨hfl, hfs, hcv⟩ := hc
    have hcv : st.cv = none := by simpa using hcv
    split at h
    · rename_i wl hwl
      obtain ⟨z, hz, h2⟩ := Option.map_eq_some_iff.mp h
      obtain ⟨rfl, rfl⟩ : z = v ∧ st = st' := by simpa using h2
      unfold stemRun at hz
      split at hz
      · rename_i fs1 hinit
        split at hz
        · rename_i v2 fs2 hstem
          split at hz
          · rename_i hflv
            cases hz
            obtain ⟨m, part, fo, F, N, hS, hL, hfo⟩ := I.ex
            have hS0 : part = [] ∧ st.fs = [] := by
              unfold Cx.SelfR at hS
              rw [hself] at hS; exact hS
            obtain ⟨rfl, _⟩ := hS0
            refine MethodCall_ (pl := pl) (wpAny_Call_NameR (nameX_K F k.X (topRead_of k.T) (psGlob _) ?_ k.kind hx)) he
            refine callWith_K0 (I.K k) (ps_keep _) ?_
            refine call_cls F k.X N (ps_makes _) (fi_init _) (ok_init.isfn _) fun x dx h' F' N' hlt hdx => ?_
            have I1 : Inv (c.of x dx) { st with fs := [] } ((x, instO dx) :: led) { s with heap := h' } := by
              refine ⟨⟨m, [(dx, dictOf [] 0)], fo, F', fun p hp => ?_, ?_, fun i a ha => ?_, ?_⟩, fun p hp => ?_, fun v hv => ?_, I.gens, I.os⟩
              · rcases List.mem_append.mp hp with hp | hp
                · rcases List.mem_singleton.mp hp with rfl
                  exact N' _ (.tail _ (.head _))
                · rcases List.mem_append.mp hp with hp | hp
                  · rcases List.mem_cons.mp hp with rfl | hp
                    · exact N' _ (.head _)
                    · exact N' _ (.tail _ (.tail _ (List.mem_append_right [] (List.mem_append_left _ hp))))
                  · exact N' _ (.tail _ (.tail _ (List.mem_append_right [] (List.mem_append_right _ hp))))
              · refine ⟨[], 0, rfl, .nil _, .head _, fun p hp => ?_⟩
                rcases List.mem_cons.mp hp with rfl | hp
                · exact Nat.ne_of_gt hdx
                · exact Nat.ne_of_lt (hlt p (List.mem_append_right [] (List.mem_append_left _ hp)))
              · obtain ⟨y, u, g1, g2, g3⟩ := hL i a ha
                exact ⟨y, u, g1, g2, g3.flat (flat_get hfl ha)⟩
              · exact hfo.reDx fun p hp e => Nat.ne_of_lt (hlt p (List.mem_append_right [] (List.mem_append_right _ hp))) (Option.some.inj e)
              · rcases List.mem_cons.mp hp with rfl | hp
                · exact ⟨fun vs e => (by cases e), fun es n e => by cases e⟩
                · exact I.nf p hp
              · rw [show ({ st with fs := [] } : St).cv = st.cv from rfl, hcv] at hv; cases hv
            have kc := of_ok k x dx
            have hD1 : (c.of x dx).A.depth < 400 := hD
            have kc1 := under_ok kc 527 [] (Nat.lt_trans hD1 (by decide))
            have hD2 : ((c.of x dx).under 527 []).A.depth < 401 := by rw [under_depth]; omega
            have I1' : Inv ((c.of x dx).under 527 []) { st with fs := [] } ((x, instO dx) :: led) { s with heap := h' } := ⟨(let ⟨a1, a2, a3, a4, a5, a6, a7, a8⟩ := I1.ex; ⟨a1, a2, a3, a4, a5, a6, a7, a8⟩), I1.nf, I1.cel, I1.gens, I1.os⟩
            refine codeAny_mono (code_fn (c := (c.of x dx).under 527 []) kc1 ok_init spec_init (by omega) (by omega) I1' (vals := [.ref x]) (args := [.self]) (.cons (.self rfl) .nil) rfl hinit) ?_
            rintro r s2 ⟨u, rfl, led2, k2, V2, I2⟩
            obtain rfl := V2.none_inv
            refine ⟨rfl, ?_⟩
            have I2 : Inv (c.of x dx) { st with fs := fs1 } led2 s2 := ⟨(let ⟨a1, a2, a3, a4, a5, a6, a7, a8⟩ := I2.ex; ⟨a1, a2, a3, a4, a5, a6, a7, a8⟩), I2.nf, I2.cel, I2.gens, I2.os⟩
            obtain ⟨m2, part2, fo2, F2, N2, hS2, hL2, hfo2⟩ := I2.ex
            obtain ⟨es', n', rfl, hdd, hx2, hap⟩ := hS2
            have IA : InstAt s2.heap x (instO dx) 527 (some (dictOf es' n')) := ⟨(N2 _ (List.mem_append_right _ (List.mem_append_left _ hx2))).1, rfl, rfl, (N2 _ (List.mem_append_left _ (.head _))).1⟩
            refine method_inst F2 k.X IA (pl_stemWord _) (fi_stemWord _) (ok_stemWord.isfn _) (dict_noKey hdd nf_stemWord) ?_
            have henv : c.env = (c.of x dx).env := rfl
            have hev : evs [eL 0] { st with fs := fs1 } = some ([.str wl], { st with fs := fs1 }) := by
              show ((eL 0 { st with fs := fs1 }).bind _) = _
              unfold eL
              rw [show ({ st with fs := fs1 } : St).ls[(0 : Nat)]? = some (some (.str wl)) from hwl]
              rfl
            refine wpAny_mono (callWith_fn (c := c.of x dx) kc ok_stemWord spec_stemWord (by show c.A.depth + 1 < _; omega) (by show c.A.depth < 699; omega) (es := [.Name x0 p4]) (fs := [eL 0]) (.cons (rE_loc kc 0 h0) hs .nil) (first := [.ref x]) (fa := [.self]) I2 (.cons (.self rfl) .nil) hev rfl hstem) ?_ fun _ _ e => e.elim
            rintro r s3 ⟨led3, k3, V3, I3⟩
            obtain ⟨m3, part3, fo3, F3, N3, hS3, hL3, hfo3⟩ := I3.ex
            refine ⟨led3, fun p hp => k3 p (k2 p (.tail _ hp)), V3.flat hflv, ⟨m3, [], fo3, F3, fun p hp => N3 p (List.mem_append_right _ hp), ?_, fun i a ha => ?_, ?_⟩, I3.nf, fun v hv => ?_, I3.gens, I3.os⟩
            · unfold Cx.SelfR
              rw [hself]; exact ⟨rfl, hfs⟩
            · obtain ⟨y, u, g1, g2, g3⟩ := hL3 i a ha
              exact ⟨y, u, g1, g2, g3.flat (flat_get hfl ha)⟩
            · rw [hself]
              exact hfo3.reDx fun p _ e => by cases e
            · rw [hcv] at hv; cases hv
          · cases hz
        · cases hz
      · cases hz
    · cases h
  · cases h
end
end Mine
end
section
open PySem PySem.W PyProof.Rows PySem.Calls
namespace Mine
section
variable {c : Cx}
theorem VRs_ints {P : Params} {x : Option (Addr × Addr)} {O : Addr → Obj → Prop} : ∀ {vs : List Value} {ns : List Int}, IntsAre vs ns → VRs P x O vs (ns.map .int)
  | _, _, .nil => .nil
  | _, _, .cons n t h => .cons (.int n t) (VRs_ints h)
theorem law_stmts (k : c.Ok) (hself : c.self = none) (hfrs : c.frs = []) (h0 : c.names[0]? = some ("word" : Str)) (h1 : c.names[1]? = some ("number" : Str)) (hks : c.env.kindOf "script" = some .local)
    {q0 q1 q2 q3 q4 q5 q6 q7 q8 : Pos} {k0 k1 : Nat} {lbody ts : List Stmt} {f g : SF}
    {s : Shared} {m : Str → Option Value} {a : Addr} {vs : List Value} {ns : List Int} {Q : Flow → Shared → Prop} {E : Value → Shared → Prop}
    (F : Fr c.b0 c.L s.heap m) (hm : m "script" = some (.ref a)) (hl : c.b0.IsList a vs.toArray) (hi : IntsAre vs ns) (hns : ns.length ≤ 63) (hg : s.gens = #[]) (hos : s.os = c.os)
    (hf : RefSs c lbody f) (hgs : RefSs c ts g)
    (hrun : ∀ ns' : List Int, ns'.length ≤ 63 → ∃ st2 st3, forL 1 f (ns'.map .int) ⟨[], [some (.str []), none, none], none⟩ = some (.next, st2) ∧ g st2 = some (.ret (.bool true), st3))
    (q : ∀ s' st led, Inv c st led s' → Q (.ret (.bool true)) s')
    (hs1 : swapsWith (.Constant (.str "") k0 q0) (some (.Name "word" q1)) q2.line c.env = pure false := by rfl)
    (hs2 : ∀ x, foldedSetIterable (.Subscript (.Name "script" q4) (.Slice none (some (.Constant (.int 14) k1 q5)) none q6) q7) c.env x = pure x := by intro _; rfl)
    (hs3 : ∀ l i, subscripted (.Slice none (some (.Constant (.int 14) k1 q5)) none q6) false (.ref l) (.ref i) = operate [.ref i, .ref l] (getItem (.ref l) (.ref i)) := by intro _ _; with_unfolding_all rfl)
    (hs4 : ∀ l r, letTemporaryGo (.Name "script" q4) (.ref l) r = pure () := by intro _ _; with_unfolding_all rfl) :
    wpAny c.M c.A (execs (.Assign [.Name "word" q1] (.Constant (.str "") k0 q0) q2 :: .For (.Name "number" q3) (.Subscript (.Name "script" q4) (.Slice none (some (.Constant (.int 14) k1 q5)) none q6) q7) lbody [] q8 :: ts) c.env) Q E s := by
  have n0 := k.locs _ (List.mem_of_getElem? h0)
  have N : News c.b0 c.L s.heap [] := fun p hp => nomatch hp
  refine wpAny_execs_cons (wpAny_Assign_Name (wpAny_Constant_str ?_) hs1)
  refine storeX_L (s := { s with toks := s.toks + 1 }) F N (fun h' F' N' => ?_) k.kind n0.1
  obtain ⟨st2, st3, r1, r2⟩ := hrun (pickNums ns none (some 14) none) (Nat.le_trans (length_pickNums_le hi _ _ _) hns)
  have hl' : h'.IsList a vs.toArray := by
    obtain ⟨o, ho, r⟩ := hl
    exact ⟨o, F'.keep _ _ ho, r⟩
  have I0 : Inv c ⟨[], [some (.str []), none, none], none⟩ [] { s with heap := h', toks := s.toks + 1 + 1 } := by
    refine ⟨⟨_, [], [], F', N', ?_, fun i b hb => ?_, ?_⟩, fun p hp => (nomatch hp), fun v hv => (by cases hv), hg, hos⟩
    · unfold Cx.SelfR; rw [hself]; exact ⟨rfl, rfl⟩
    · match i, hb with
      | 0, hb =>
        cases hb
        exact ⟨_, _, h0, if_pos rfl, (by
          have e : ("" : Str).cps.toList = [] := by decide +kernel
          exact e ▸ VR.str ("" : Str) _)⟩
      | 1, hb => cases hb
      | 2, hb => cases hb
      | _ + 3, hb => cases hb
    · rw [hfrs]; exact .nil
  refine wpAny_execs_cons (wpAny_mono (rS_forAt k 1 (led := []) h1 hf ?_ r1 hs2) ?_ ?_)
  · refine Subscript_ (nameX_L F' (v := .ref a) ?_ ?_ k.kind hks)
    · rw [if_neg (by decide)]; exact hm
    refine wpAny_Slice (wpAny_pure (a := Value.none) ?_)
    show wpAny c.M c.A (eval (.Constant (.int 14) k1 q5) c.env) _ _ _
    refine wpAny_Constant_int ?_
    refine wpAny_pure (a := Value.none) ?_
    refine slice_list F' N' hl' .none (.int 14 _) (fun h2 F2 N2 => ?_) (hs3 _ _) (fun r => hs4 _ r) (by rw [List.size_toArray, hi.length, sizeLine_eq]; omega)
    refine ⟨[(h'.objs.size + 1, { cls := .type "list", data := .seq (slicePick vs.toArray none (some 14) none) })], fun p hp => (nomatch hp), .lst (n := 0) (vs := (slicePick vs.toArray none (some 14) none).toList) (.inl (.head _)) (VRs_ints (hi.pick none (some 14) none)), ?_⟩
    obtain ⟨m1, part1, fo1, F1, N1, S1, L1, f1⟩ := I0.ex
    refine ⟨⟨_, [], [], F2, N2, ?_, fun i b hb => ?_, ?_⟩, fun p hp => ?_, fun v hv => (by cases hv), hg, hos⟩
    · unfold Cx.SelfR; rw [hself]; exact ⟨rfl, rfl⟩
    · match i, hb with
      | 0, hb =>
        cases hb
        exact ⟨_, _, h0, if_pos rfl, (by
          have e : ("" : Str).cps.toList = [] := by decide +kernel
          exact e ▸ VR.str ("" : Str) _)⟩
      | 1, hb => cases hb
      | 2, hb => cases hb
      | _ + 3, hb => cases hb
    · rw [hfrs]; exact .nil
    · rcases List.mem_singleton.mp hp with rfl
      exact NF_seq _ _ _
  · rintro fl s1 ⟨led1, k1, rfl, I1⟩
    refine wpAny_mono (hgs _ _ _ _ _ I1 r2) ?_ ?_
    · rintro fl s2 ⟨led2, k2, ⟨u, rfl, hv⟩, I2⟩
      cases hv
      exact q _ _ _ I2
    · rintro e s2 ⟨_, _, hx, _⟩; exact hx.elim
  · rintro e s2 ⟨_, _, hx, _⟩; exact hx.elim
end
end Mine
end
section
open PySem PySem.W PyProof.Rows PySem.Calls
namespace Mine
noncomputable def s_lawLoop : SF := (sSeq (sAssL 2 (eBin gMod (eL 1) (eK (.int 56)))) (sSeq (sAssL 0 (eBin gAdd (eL 0) (eIf (tE (eBin gLt (eL 2) (eK (.int 26)))) (eBin gIdx (eK v_law_letters) (eL 2)) (eBin gIdx (eCall 0 0 s_law_ends []) (eBin gSub (eL 2) (eK (.int 26))))))) sNil))
noncomputable def s_lawRest : SF := (sSeq (sAssL 0 (eSliceTo (eL 0) (eK (.int 16)))) (sSeq (sRet (eBin gEq eStem (eCall 7 1 s_law_stem [(eL 0)]))) sNil))
theorem rE_ends_call {c : Cx} (k : c.Ok) (hA : c.A.depth + 1 < 640) (hA2 : c.A.depth < 699) {p1 p2 : Pos} (hx : c.env.kindOf "_law_ends" = some .globalImplicit) : RefE c (.Call (.Name "_law_ends" p1) [] [] p2) (eCall 0 0 s_law_ends []) :=
  rE_call (F := F_law_ends) (D := 700) (sf := s_law_ends) (es := []) (fs := []) k ok_law_ends @spec_law_ends (Nat.lt_trans hA (by decide)) hA2 .nil gl_law_ends hx (by decide +kernel)
noncomputable def F_law : Fn := ⟨657, "law", fnAt 23 0, 656, ["word", "number", "k"], 1⟩
set_option maxHeartbeats 2000000 in
theorem law_body (d : Cd) (hself : d.self = none) (hfrs : d.frs = []) (hcl : d.cells = []) (k : (d.cx F_law).Ok) (hD : (d.cx F_law).A.depth < 400) {s : Shared} {m : Str → Option Value} {a : Addr} {vs : List Value} {ns : List Int} {Q : Flow → Shared → Prop} {E : Value → Shared → Prop}
    (F : Fr d.b0 d.L s.heap m) (hm : m "script" = some (.ref a)) (hl : d.b0.IsList a vs.toArray) (hi : IntsAre vs ns) (hns : ns.length ≤ 63) (hg : s.gens = #[]) (hos : s.os = d.os)
    (hrun : ∀ ns' : List Int, ns'.length ≤ 63 → ∃ st2 st3, forL 1 s_lawLoop (ns'.map .int) ⟨[], [some (.str []), none, none], none⟩ = some (.next, st2) ∧ s_lawRest st2 = some (.ret (.bool true), st3))
    (q : ∀ s' st led, Inv (d.cx F_law) st led s' → Q (.ret (.bool true)) s') : wpAny (d.cx F_law).M (d.cx F_law).A (execs (fBody F_law.fn) (d.cx F_law).env) Q E s :=
  have hA : (d.cx F_law).A.depth + 1 < 640 := Nat.lt_trans (Nat.succ_lt_succ hD) (by decide)
  have hA2 : (d.cx F_law).A.depth < 699 := Nat.lt_trans hD (by decide)
  law_stmts k hself hfrs rfl rfl (by kernel_rfl) F hm hl hi hns hg hos (rSs_cons (rS_assL k 2 rfl (rE_bin o_mod (rE_loc k 1 rfl) (rE_int _ _ _))) (rSs_cons (rS_assL k 0 rfl (rE_bin o_addI (rE_loc k 0 rfl) (rE_if (rT_cmp o_lt (rE_loc k 2 rfl) (rE_int _ _ _)) (rE_idx (r_law_letters k (by kernel_rfl)) (rE_loc k 2 rfl)) (rE_idx (rE_ends_call k hA hA2 (by kernel_rfl)) (rE_bin o_sub (rE_loc k 2 rfl) (rE_int _ _ _)))))) rSs_nil)) (rSs_cons (rS_assL k 0 rfl (rE_sliceTo (rE_loc k 0 rfl) (rE_int _ _ _))) (rSs_cons (rS_ret (rE_cmp (o_eq k) (rE_stem k hself hD rfl (by kernel_rfl)) (rE_callG k ok_law_stem.keep (callOk_cell k ok_law_stem spec_law_stem hA hA2) (.cons (rE_loc k 0 rfl) (fun _ => rfl) .nil) gl_law_stem (by kernel_rfl) (by decide +kernel)))) rSs_nil)) hrun q
end Mine
end
section
open PySem PySem.W PyProof.Rows PySem.Calls
namespace Mine
noncomputable def dLaw : DefRec := { name := "law", params := fParams (fnAt 23 0), body := fBody (fnAt 23 0), scope := fScope (fnAt 23 0), pos := ⟨581, 0, 587, 60⟩ }
theorem dLaw_is : defOf qv PySem.Challenge.rw_ii0001_01.row.name = some (dLaw, []) := by kernel_rfl
theorem law_glob (P : Params) : nsIn (Kf P) mainGlobals "law" = some (some (.ref 657)) := by kernel_rfl
theorem law_ex (P : Params) : ∃ name dV kV doc pm an ct oc od osl, (Kf P).lookup 657 = some ⟨oc, od, .func (fnOf name F_law.qual (fParams F_law.fn) (fBody F_law.fn) (fScope F_law.fn) dV kV doc pm an (.ref 656) ct), osl⟩ ∧
    ∀ v : Value, bindArgs (fnOf name F_law.qual (fParams F_law.fn) (fBody F_law.fn) (fScope F_law.fn) dV kV doc pm an (.ref 656) ct) ⟨[v], []⟩ = pure [(("script" : Str), v)] :=
  ⟨_, _, _, _, _, _, _, _, _, _, (by kernel_rfl : (Kf P).lookup 657 = some (o657 P)), fun v => by kernel_rfl⟩
theorem law_code (P : Params) : codeIn (Kf P) (.ref 656) F_law.qual = true := by kernel_rfl
theorem law_kind : (fScope F_law.fn).kind = .function := by kernel_rfl
theorem law_co : (fScope F_law.fn).isCoroutine = false := by kernel_rfl
theorem law_gen : (fScope F_law.fn).isGenerator = false := by kernel_rfl
theorem law_cell : ∀ x ∈ (fScope F_law.fn).names, x.2 ≠ .cell := by decide +kernel
theorem law_locs : ∀ y ∈ F_law.names, (fScope F_law.fn).names.lookup y = some .local ∧ (y == ("__debug__" : Str)) = false := by decide +kernel
theorem law_script : (fScope F_law.fn).names.lookup ("script" : Str) = some .local := by decide +kernel
theorem law_nodup : F_law.names.Nodup := by decide +kernel
theorem law_walk (hrun : ∀ ns' : List Int, ns'.length ≤ 63 → ∃ st2 st3, forL 1 s_lawLoop (ns'.map .int) ⟨[], [some (.str []), none, none], none⟩ = some (.next, st2) ∧ s_lawRest st2 = some (.ret (.bool true), st3)) :
    WalkO qv looseN (fun _ _ => True) YP PySem.Challenge.rw_ii0001_01.row.toRowW dLaw [] fun f vs => PySem.call f vs := by
  intro w s₀ s₁ mg mb G Y fa o pm cd doc dV kV ho hd hcd hD hmg hg args vals as hpre hlay hrd hwl hlo
  refine Ground.open G ?_
  intro T B D TE TW
  wrow_args hpre hlay hrd hwl hlo
  rename_i ns hsh _ _ _ _ _ _ la vs _ hL _ _ _ hI _ hlen _
  obtain ⟨h₀, left, hmono⟩ := Y
  have X : (Kf w.params).In s₁.heap := fun a o e => hmono _ _ (kIn_left left a o e)
  have S := sets_left left
  have hfa : fa = 657 := by
    have h1 := mg_of X T.g (law_glob w.params)
    have h2 : mg "law" = some (.ref fa) := hmg
    rw [h1] at h2
    cases h2; rfl
  subst hfa
  clear hd ho hcd hD
  obtain ⟨name, dV, kV, doc, pm, an, ct, oc, od, osl, hlook, hbind⟩ := law_ex w.params
  refine enter_call (codeAny_mono (R := GoodW _ _ _ _ _) ?_ (fun _ _ g => GoodW.toG g))
  refine codeAny_call_def (fd := fnOf name F_law.qual (fParams F_law.fn) (fBody F_law.fn) (fScope F_law.fn) dV kV doc pm an (.ref 656) ct) (body := fBody F_law.fn) (binds := [(("script" : Str), .ref la)]) (by decide) (X _ _ hlook) rfl T.nolimit (codeRec_of X (law_code _)) rfl (.of_eq (hbind _)) law_cell
    (fun x hx => by rcases List.mem_singleton.mp hx with rfl; exact law_script) (fun h₁ hns hk₁ => ?_) law_co law_gen law_kind
  let d : Cd := { w := w, A := callerA.deeper (envOf F_law.qual (fScope F_law.fn) s₁.heap.objs.size 657 (.ref 656)), L := s₁.heap.objs.size, outer := [], b0 := s₁.heap, self := none, frs := [], os := s₁.os, mg := mg, mb := mb, mean := ExcName.means s₀.heap }
  have kc : (d.cx F_law).Ok := {
    kind := law_kind
    X := X
    sets := ⟨(by obtain ⟨es, n, tb, a, b, c⟩ := S.1; exact ⟨es, n, tb, a, b, hmono _ _ c⟩), (by obtain ⟨es, n, tb, a, b, c⟩ := S.2; exact ⟨es, n, tb, a, b, hmono _ _ c⟩)⟩
    T := T
    frames := rfl
    handled := rfl
    depth := by show 1 + claimMargin + 1 < 700; decide
    units := by show 4 + 3 ≤ 3 * (1 + claimMargin + 1); decide
    nodup := law_nodup
    locs := law_locs
    above := Nat.le_refl _
    frsOk := trivial }
  refine law_body d rfl rfl rfl kc (by show 1 + claimMargin + 1 < 400; decide) ⟨hns, hk₁, Nat.le_refl _⟩ (by rfl) hL hI (by omega) hg rfl hrun fun s' st led I => ?_
  obtain ⟨m, part, fo, F, _⟩ := I.ex
  exact goodW_bool F I.gens (raisesW_false (by wrow_none_raised)) (by wrow_post) I.os
theorem law_top (hrun : ∀ ns' : List Int, ns'.length ≤ 63 → ∃ st2 st3, forL 1 s_lawLoop (ns'.map .int) ⟨[], [some (.str []), none, none], none⟩ = some (.next, st2) ∧ s_lawRest st2 = some (.ret (.bool true), st3)) : PySem.Challenge.rw_ii0001_01.Holds :=
  top_law fun d kwd h => by
    have e := dLaw_is.symm.trans h
    cases e
    exact law_walk hrun
end Mine
end
namespace Mine
noncomputable def ifK {α : Type} (f g : St → Option α) (p : Bool × St) : Option α := if p.1 then f p.2 else g p.2
noncomputable def kF (s : St) : Option (Bool × St) := some (false, s)
noncomputable def kT (s : St) : Option (Bool × St) := some (true, s)
noncomputable def kN (s : St) : Option (FL × St) := some (.next, s)
noncomputable def kO (_ : St) : Option (FL × St) := none
noncomputable def asgF (i : Nat) (p : AV × St) : Option (FL × St) := if isSelf p.2 then (setF p.2 i p.1).map fun z => (.next, z) else none
noncomputable def methK (n np : Nat) (sf : SF) (p : List AV × St) : Option (AV × St) := if p.1.length + 1 = np then (callF n sf p.2.fs (.self :: p.1)).map fun q => (q.1, { p.2 with fs := q.2 }) else none
noncomputable def callK (n np : Nat) (sf : SF) (p : List AV × St) : Option (AV × St) := if p.1.length = np then (callF n sf p.2.fs p.1).map fun q => (q.1, { p.2 with fs := q.2 }) else none
noncomputable def binK (g : AV → AV → Option AV) (b : EF) (p : AV × St) : Option (AV × St) := (b p.2).bind fun q => (g p.1 q.1).map fun z => (z, q.2)
noncomputable def binK2 (g : AV → AV → Option AV) (x : AV) (q : AV × St) : Option (AV × St) := (g x q.1).map fun z => (z, q.2)
noncomputable def assK (i : Nat) (p : AV × St) : FL × St := (.next, setL p.2 i p.1)
noncomputable def retK (p : AV × St) : FL × St := (.ret p.1, p.2)
noncomputable def expK (p : AV × St) : FL × St := (.next, p.2)
noncomputable def funK (g : List AV → Option AV) (p : List AV × St) : Option (AV × St) := (g p.1).map fun z => (z, p.2)
noncomputable def evsK (fs : List EF) (p : AV × St) : Option (List AV × St) := (evs fs p.2).map fun q => (p.1 :: q.1, q.2)
section
variable {α β : Type} {fs r args : List AV} {l ls : List (Option AV)} {cv : Option AV} {a b c d a0 a1 a2 a3 a4 a5 a6 a7 : AV} {i n np : Nat} {e : EF} {f g sf : SF} {h k : EF} {t u : TF} {st : St} {op : AV → AV → Option AV} {es : List EF}
theorem mapC {f : α → β} {x : α} {y : List α} : (x :: y).map f = f x :: y.map f := rfl
theorem mapN {f : α → β} : [].map f = [] := rfl
theorem eF_s : eF i ⟨fs, some .self :: l, cv⟩ = (fs[i]?).map fun x => (x, ⟨fs, some .self :: l, cv⟩) := rfl
theorem sAssF_s : sAssF i e st = (e st).bind (asgF i) := rfl
theorem asgF_s : asgF i (a, ⟨fs, some .self :: l, cv⟩) = (setF ⟨fs, some .self :: l, cv⟩ i a).map fun z => (.next, z) := rfl
theorem sAugF_s : sAugF op i e ⟨fs, some .self :: l, cv⟩ = (fs[i]?).bind fun old => (e ⟨fs, some .self :: l, cv⟩).bind fun p => (op old p.1).bind fun z => (setF p.2 i z).map fun y => (.next, y) := rfl
theorem setF_0 : setF ⟨a0 :: r, ls, cv⟩ 0 a = some ⟨a :: r, ls, cv⟩ := rfl
theorem setF_1 : setF ⟨a0 :: a1 :: r, ls, cv⟩ 1 a = some ⟨a0 :: a :: r, ls, cv⟩ := rfl
theorem setF_2 : setF ⟨a0 :: a1 :: a2 :: r, ls, cv⟩ 2 a = some ⟨a0 :: a1 :: a :: r, ls, cv⟩ := rfl
theorem setF_3 : setF ⟨a0 :: a1 :: a2 :: a3 :: r, ls, cv⟩ 3 a = some ⟨a0 :: a1 :: a2 :: a :: r, ls, cv⟩ := rfl
theorem setF_4 : setF ⟨a0 :: a1 :: a2 :: a3 :: a4 :: r, ls, cv⟩ 4 a = some ⟨a0 :: a1 :: a2 :: a3 :: a :: r, ls, cv⟩ := rfl
theorem setF_5 : setF ⟨a0 :: a1 :: a2 :: a3 :: a4 :: a5 :: r, ls, cv⟩ 5 a = some ⟨a0 :: a1 :: a2 :: a3 :: a4 :: a :: r, ls, cv⟩ := rfl
theorem setF_6 : setF ⟨a0 :: a1 :: a2 :: a3 :: a4 :: a5 :: a6 :: r, ls, cv⟩ 6 a = some ⟨a0 :: a1 :: a2 :: a3 :: a4 :: a5 :: a :: r, ls, cv⟩ := rfl
theorem setF_7 : setF ⟨a0 :: a1 :: a2 :: a3 :: a4 :: a5 :: a6 :: a7 :: r, ls, cv⟩ 7 a = some ⟨a0 :: a1 :: a2 :: a3 :: a4 :: a5 :: a6 :: a :: r, ls, cv⟩ := rfl
theorem eMeth_s : eMeth n np sf es ⟨fs, some .self :: l, cv⟩ = (evs es ⟨fs, some .self :: l, cv⟩).bind (methK n np sf) := rfl
theorem methK0 : methK n 1 sf ([], st) = (callF n sf st.fs [.self]).map fun q => (q.1, { st with fs := q.2 }) := rfl
theorem methK1 : methK n 2 sf ([a], st) = (callF n sf st.fs [.self, a]).map fun q => (q.1, { st with fs := q.2 }) := rfl
theorem methK2 : methK n 3 sf ([a, b], st) = (callF n sf st.fs [.self, a, b]).map fun q => (q.1, { st with fs := q.2 }) := rfl
theorem methK3 : methK n 4 sf ([a, b, c], st) = (callF n sf st.fs [.self, a, b, c]).map fun q => (q.1, { st with fs := q.2 }) := rfl
theorem eBin_s : eBin op h k st = (h st).bind (binK op k) := rfl
theorem binK_s : binK op k (a, st) = (k st).bind (binK2 op a) := rfl
theorem binK2_s : binK2 op a (b, st) = (op a b).map fun z => (z, st) := rfl
theorem sAssL_s : sAssL i e st = (e st).map (assK i) := rfl
theorem assK_s : assK i (a, ⟨fs, ls, cv⟩) = (.next, ⟨fs, ls.set i (some a), cv⟩) := rfl
theorem sRet_s : sRet e st = (e st).map retK := rfl
theorem retK_s : retK (a, st) = (.ret a, st) := rfl
theorem sExpr_s : sExpr e st = (e st).map expK := rfl
theorem expK_s : expK (a, st) = (.next, st) := rfl
theorem eFun_s {g : List AV → Option AV} : eFun g es st = (evs es st).bind (funK g) := rfl
theorem funK_s {g : List AV → Option AV} : funK g (args, st) = (g args).map fun z => (z, st) := rfl
theorem evs_n : evs [] st = some ([], st) := rfl
theorem evs_c : evs (e :: es) st = (e st).bind (evsK es) := rfl
theorem evsK_s : evsK es (a, st) = (evs es st).map fun q => (a :: q.1, q.2) := rfl
theorem gAdd_i {m n : Int} : gAdd (.int m) (.int n) = some (.int (m + n)) := rfl
theorem gAdd_s {x y : List Nat} : gAdd (.str x) (.str y) = if x.length + y.length ≤ 1000 then some (.str (x ++ y)) else none := rfl
theorem gSub_i {m n : Int} : gSub (.int m) (.int n) = some (.int (m - n)) := rfl
theorem gAddI_i {m n : Int} : gAddI (.int m) (.int n) = some (.int (m + n)) := rfl
theorem gLe_i {m n : Int} : gLe (.int m) (.int n) = some (.bool (decide (m ≤ n))) := rfl
theorem gLt_i {m n : Int} : gLt (.int m) (.int n) = some (.bool (decide (m < n))) := rfl
theorem gGt_i {m n : Int} : gGt (.int m) (.int n) = some (.bool (decide (n < m))) := rfl
theorem gGe_i {m n : Int} : gGe (.int m) (.int n) = some (.bool (decide (n ≤ m))) := rfl
theorem gEq_i {m n : Int} : gEq (.int m) (.int n) = some (.bool (decide (m = n))) := rfl
theorem gEq_s {x y : List Nat} : gEq (.str x) (.str y) = some (.bool (decide (x = y))) := rfl
theorem gEq_b {x y : Bool} : gEq (.bool x) (.bool y) = some (.bool (decide (x = y))) := rfl
theorem gEq_l {x : List AV} : gEq (.lst x) (.lst []) = some (.bool x.isEmpty) := rfl
theorem gNe_i {m n : Int} : gNe (.int m) (.int n) = some (.bool (!decide (m = n))) := rfl
theorem gNe_b {x y : Bool} : gNe (.bool x) (.bool y) = some (.bool (!decide (x = y))) := rfl
theorem gNe_l {x : List AV} : gNe (.lst x) (.lst []) = some (.bool (!x.isEmpty)) := rfl
theorem gNe_s {x y : List Nat} : gNe (.str x) (.str y) = some (.bool (!decide (x = y))) := rfl
theorem gNone_n : gIsNone .none .none = some (.bool true) := rfl
theorem gNone_i {m : Int} : gIsNone (.int m) .none = some (.bool false) := rfl
theorem eCall_s : eCall n np sf es st = (evs es st).bind (callK n np sf) := rfl
theorem callK1 : callK n 1 sf ([a], st) = (callF n sf st.fs [a]).map fun q => (q.1, { st with fs := q.2 }) := rfl
theorem callK2 : callK n 2 sf ([a, b], st) = (callF n sf st.fs [a, b]).map fun q => (q.1, { st with fs := q.2 }) := rfl
theorem callK3 : callK n 3 sf ([a, b, c], st) = (callF n sf st.fs [a, b, c]).map fun q => (q.1, { st with fs := q.2 }) := rfl
theorem callK4 : callK n 4 sf ([a, b, c, d], st) = (callF n sf st.fs [a, b, c, d]).map fun q => (q.1, { st with fs := q.2 }) := rfl
theorem sIf_s : sIf t f g st = (t st).bind (ifK f g) := rfl
theorem eIf_s : eIf t h k st = (t st).bind (ifK h k) := rfl
theorem tAnd_s : tAnd t u st = (t st).bind (ifK u kF) := rfl
theorem tOr_s : tOr t u st = (t st).bind (ifK kT u) := rfl
theorem sAssert_s : sAssert t st = (t st).bind (ifK kN kO) := rfl
theorem ifK_t {f g : St → Option α} : ifK f g (true, st) = f st := rfl
theorem ifK_f {f g : St → Option α} : ifK f g (false, st) = g st := rfl
end
noncomputable def F8 (x : List Nat) (c b k p1 p2 : Nat) : List AV := [.str x, .int c, .int x.length, .int 0, .int b, .int k, .int p1, .int p2]
noncomputable def FG (r : List AV) (x : List Nat) (c b k : Nat) : List AV := .str x :: .int c :: .int x.length :: .int 0 :: .int b :: .int k :: r
noncomputable def hasS (cs : List Nat) (d : Nat) : Bool := cs.any fun e => decide ([d] = [e])
local macro_rules | `(tactic| simp! [$xs,*]) => let a := ("sSeq sNil sAssL_s assK_s sAssF_s asgF_s sAugF_s sAugL sIf_s ifK_t ifK_f sRet_s retK_s sExpr_s expK_s sBrk sCont sAssert_s kN kT kF sRaise sTry eK eL eF_s eBin_s binK_s binK2_s eFun_s funK_s evs_n evs_c evsK_s eMeth_s methK0 methK1 methK2 methK3 eCall_s callK1 callK2 callK3 callK4 eIf_s eNeg eNot eAnd tE tNot tAnd_s tOr_s tK setL setF_0 setF_1 setF_2 setF_3 setF_4 setF_5 setF_6 setF_7 startSt gAdd_i gAdd_s gSub_i gAddI_i gLe_i gLt_i gGt_i gGe_i gEq_i gEq_s gEq_b gEq_l gNe_i gNe_l gNe_s gNe_b gLen gMin gNone_n gNone_i List.getElem?_cons_zero List.getElem?_cons_succ List.set_cons_zero List.set_cons_succ List.length_cons List.length_nil mapC mapN List.cons_append List.nil_append List.append_nil List.replicate_succ List.replicate_zero List.length_replicate List.length_append Option.bind_some Option.map_some Option.bind_none Option.map_none Nat.reduceAdd Nat.reduceSub Nat.reduceLT Nat.reduceEqDiff Nat.lt_irrefl Bool.not_true Bool.not_false Bool.true_eq_false Bool.false_eq_true decide_eq_true_eq decide_true decide_false if_true if_false reduceCtorEq eq_self Option.isNone_none Option.isNone_some".splitOn " ").toArray.map (fun s => Lean.mkNode `Lean.Parser.Tactic.simpLemma #[Lean.mkNullNode, Lean.mkNullNode, Lean.mkIdent s.toName]); `(tactic| simp only [$a,*, ↓reduceIte, $xs,*])
theorem gIn_set {cs : List Nat} {d : Nat} (h : cs.length < 100) : gIn (.str [d]) (.sset cs) = some (.bool (hasS cs d)) := if_pos h
theorem gNotIn_set {cs : List Nat} {d : Nat} (h : cs.length < 100) : gNotIn (.str [d]) (.sset cs) = some (.bool (!hasS cs d)) := by
  unfold gNotIn; rw [gIn_set h]
theorem gIdx_str {x : List Nat} {i : Int} {d : Nat} (h0 : 0 ≤ i) (hx : x.length < 1000) (h : x[i.toNat]? = some d) : gIdx (.str x) (.int i) = some (.str [d]) := by
  have hl := (List.getElem?_eq_some_iff.mp h).1
  unfold gIdx
  dsimp only
  rw [if_pos ⟨h0, by omega⟩, h]; rfl
theorem toN {a : Nat} (h : a < 90) : a < 1000 := Nat.lt_trans h (by decide)
theorem toN8 {a : Nat} (h : a < 80) : a < 1000 := Nat.lt_trans h (by decide)
theorem w90 {a : Nat} (h : a < 80) : a < 90 := Nat.lt_trans h (by decide)
theorem toN1 {a : Nat} (h : a < 90) : a + 1 ≤ 1000 := Nat.le_trans h (by decide)
theorem toN2 {a : Nat} (h : a < 90) : a + 2 ≤ 1000 := Nat.le_trans (Nat.succ_le_succ h) (by decide)
theorem sl6 {L k : Nat} (h : k ≤ L) (hL : L < 90) : 0 ≤ (L : Int) - (k : Int) ∧ (L : Int) - (k : Int) ≤ L ∧ L < 1000 := by omega
theorem sl7 (L k : Nat) : ((L : Int) - (k : Int)).toNat = L - k := Int.toNat_sub L k
theorem iLe {a b : Nat} (h : a ≤ b) : (a : Int) ≤ b := Int.ofNat_le.mpr h
theorem iLt {a b : Nat} (h : a < b) : (a : Int) < b := Int.ofNat_lt.mpr h
theorem iEq {a b : Nat} (h : a = b) : (a : Int) = b := congrArg _ h
theorem nLe {a b : Nat} (h : ¬ a ≤ b) : ¬ (a : Int) ≤ b := fun q => h (Int.ofNat_le.mp q)
theorem nLt {a b : Nat} (h : ¬ a < b) : ¬ (a : Int) < b := fun q => h (Int.ofNat_lt.mp q)
theorem nEq {a b : Nat} (h : ¬ a = b) : ¬ (a : Int) = b := fun q => h (Int.ofNat.inj q)
theorem takL (x : List Nat) (k : Nat) : (x.take (x.length - k)).length = x.length - k := List.length_take.trans (Nat.min_eq_left (Nat.sub_le _ _))
theorem tk90 {x : List Nat} (h : x.length < 90) (i : Nat) : (x.take i).length < 90 := Nat.lt_of_le_of_lt (List.length_take_le' i x) h
theorem pred1 {n : Nat} (h : ¬ n = 0) : n = n - 1 + 1 := (Nat.succ_pred h).symm
theorem s_nle (c : Nat) : ¬ ((c + 1 : Nat) : Int) ≤ 0 := fun q => Nat.not_succ_le_zero c (Int.ofNat_le.mp q)
theorem s_sub (c : Nat) : ((c + 1 : Nat) : Int) - 1 = c := Int.add_sub_cancel (c : Int) 1
theorem fuel1 {L c n : Nat} (h : L - c < n + 1) (hc : c < L) : L - (c + 1) < n := by omega
theorem up8 {a b c : Nat} (h : a ≤ b) (q : c ≤ a + 8) : c ≤ b + 8 := Nat.le_trans q (Nat.add_le_add_right h 8)
theorem lenG : vowelsG.length < 100 := by decide
theorem lenW : vowelsW.length < 100 := by decide
section
variable {x : List Nat} {c b k p1 p2 d : Nat} {cs : List Nat} {r : List AV}
theorem len_nle (h : x[c]? = some d) : ¬ (x.length : Int) ≤ c := fun q => Nat.lt_irrefl _ (Nat.lt_of_lt_of_le (List.getElem?_eq_some_iff.mp h).1 (Int.ofNat_le.mp q))
theorem gIdx_nat (hx : x.length < 1000) (h : x[c]? = some d) : gIdx (.str x) (.int (c : Int)) = some (.str [d]) := gIdx_str (Int.natCast_nonneg c) hx h
theorem gIdx_last {n : Nat} (hn : x.length = n + 1) (hx : x.length < 1000) (hd : x[n]? = some d) : gIdx (.str x) (.int ((x.length : Int) - 1)) = some (.str [d]) := gIdx_str (by omega) hx (by rw [show ((x.length : Int) - 1).toNat = n by omega]; exact hd)
theorem gIdx_s (hx : x.length < 1000) (h : x[c]? = some d) : gIdx (.str x) (.int (((c + 1 : Nat) : Int) - 1)) = some (.str [d]) := s_sub c ▸ gIdx_nat hx h
theorem inG_end (h : x.length ≤ c) : callF 2 s_in_grouping (FG r x c b k) [.self, .sset cs] = some (.bool false, FG r x c b k) := by
  have h1 : (x.length : Int) ≤ c := Int.ofNat_le.mpr h
  simp! [callF, s_in_grouping, FG, h1]
theorem inG_no (hc : cs.length < 100) (hx : x.length < 1000) (h : x[c]? = some d) (hn : hasS cs d = false) : callF 2 s_in_grouping (FG r x c b k) [.self, .sset cs] = some (.bool false, FG r x c b k) := by
  have h1 := len_nle h
  have h2 := gIdx_nat hx h
  simp! [callF, s_in_grouping, FG, h1, h2, gNotIn_set hc, hn]
theorem inG_yes (hc : cs.length < 100) (hx : x.length < 1000) (h : x[c]? = some d) (hn : hasS cs d = true) : callF 2 s_in_grouping (FG r x c b k) [.self, .sset cs] = some (.bool true, FG r x (c + 1) b k) := by
  have h1 := len_nle h
  have h2 := gIdx_nat hx h
  simp! [callF, s_in_grouping, FG, h1, h2, gNotIn_set hc, hn]
  rfl
theorem in_grouping_end (h : x.length ≤ c) : callF 2 s_in_grouping (F8 x c b k p1 p2) [.self, .sset cs] = some (.bool false, F8 x c b k p1 p2) := inG_end (r := [.int p1, .int p2]) h
theorem in_grouping_no (hc : cs.length < 100) (hx : x.length < 1000) (h : x[c]? = some d) (hn : hasS cs d = false) : callF 2 s_in_grouping (F8 x c b k p1 p2) [.self, .sset cs] = some (.bool false, F8 x c b k p1 p2) := inG_no (r := [.int p1, .int p2]) hc hx h hn
theorem in_grouping_yes (hc : cs.length < 100) (hx : x.length < 1000) (h : x[c]? = some d) (hn : hasS cs d = true) : callF 2 s_in_grouping (F8 x c b k p1 p2) [.self, .sset cs] = some (.bool true, F8 x (c + 1) b k p1 p2) := inG_yes (r := [.int p1, .int p2]) hc hx h hn
end
noncomputable abbrev Ent := List Nat × Int × Int
noncomputable def cmpL : List Nat → List Nat → Nat → Int × Nat
  | _, [], m => (0, m)
  | [], _ :: _, m => (-1, m)
  | a :: r, b :: s, m => if a = b then cmpL r s (m + 1) else ((a : Int) - b, m)
noncomputable def ltR : List Nat → List Nat → Bool
  | _, [] => false
  | [], _ :: _ => true
  | a :: r, b :: s => if a = b then ltR r s else decide (a < b)
noncomputable def comL : List Nat → List Nat → Nat
  | a :: r, b :: s => if a = b then comL r s + 1 else 0
  | _, _ => 0
theorem cmpL_lt : ∀ (R S : List Nat) (m : Nat), (cmpL R S m).1 < 0 ↔ ltR R S = true
  | R, [], m => by cases R <;> simp [cmpL, ltR]
  | [], b :: s, m => by simp [cmpL, ltR]
  | a :: r, b :: s, m => by
    unfold cmpL ltR
    split
    · exact cmpL_lt r s (m + 1)
    · simp only [decide_eq_true_eq]; omega
theorem cmpL_com : ∀ (R S : List Nat) (m : Nat), (cmpL R S m).2 = m + comL R S
  | R, [], m => by cases R <;> simp [cmpL, comL]
  | [], b :: s, m => by simp [cmpL, comL]
  | a :: r, b :: s, m => by
    unfold cmpL comL
    split
    · rw [cmpL_com r s (m + 1)]; omega
    · rfl
theorem cmpL_drop : ∀ (m : Nat) (R S : List Nat) (k : Nat), m ≤ comL R S → cmpL (R.drop m) (S.drop m) (k + m) = cmpL R S k
  | 0, R, S, k, _ => rfl
  | m + 1, [], S, k, h => by cases S <;> simp [comL] at h
  | m + 1, a :: r, [], k, h => by simp [comL] at h
  | m + 1, a :: r, b :: s, k, h => by
    unfold comL at h
    split at h
    · rename_i e
      rw [List.drop_succ_cons, List.drop_succ_cons, show k + (m + 1) = (k + 1) + m by omega, cmpL_drop m r s (k + 1) (by omega)]
      conv => rhs; unfold cmpL
      rw [if_pos e]
    · omega
theorem comL_le_left : ∀ (R S : List Nat), comL R S ≤ R.length
  | [], S => by cases S <;> simp [comL]
  | a :: r, [] => by simp [comL]
  | a :: r, b :: s => by
    unfold comL
    split
    · have := comL_le_left r s; simp; omega
    · exact Nat.zero_le _
theorem comL_comm : ∀ (R S : List Nat), comL R S = comL S R
  | [], [] => rfl
  | [], b :: s => rfl
  | a :: r, [] => rfl
  | a :: r, b :: s => by
    unfold comL
    by_cases h : a = b
    · rw [if_pos h, if_pos h.symm, comL_comm r s]
    · rw [if_neg h, if_neg (Ne.symm h)]
theorem comL_ultra : ∀ (m : Nat) (A B C : List Nat), m ≤ comL A B → m ≤ comL A C → m ≤ comL B C
  | 0, _, _, _, _, _ => Nat.zero_le _
  | m + 1, [], B, C, h, _ => by cases B <;> simp [comL] at h
  | m + 1, a :: A, [], C, h, _ => by simp [comL] at h
  | m + 1, a :: A, b :: B, [], _, h => by simp [comL] at h
  | m + 1, a :: A, b :: B, c :: C, h1, h2 => by
    unfold comL at h1 h2 ⊢
    split at h1
    · split at h2
      · rename_i e1 e2
        rw [if_pos (e1.symm.trans e2)]
        have := comL_ultra m A B C (by omega) (by omega)
        omega
      · omega
    · omega
theorem ltR_trans : ∀ (R S U : List Nat), ltR R S = true → ltR S U = true → ltR R U = true
  | R, [], U, h, _ => by cases R <;> simp [ltR] at h
  | R, b :: s, [], _, h => by simp [ltR] at h
  | [], b :: s, u :: U, _, _ => rfl
  | a :: r, b :: s, u :: U, h1, h2 => by
    unfold ltR at h1 h2 ⊢
    by_cases e1 : a = b
    · subst e1
      rw [if_pos rfl] at h1
      by_cases e2 : a = u
      · subst e2
        rw [if_pos rfl] at h2 ⊢
        exact ltR_trans r s U h1 h2
      · rw [if_neg e2] at h2 ⊢; exact h2
    · rw [if_neg e1, decide_eq_true_eq] at h1
      by_cases e2 : b = u
      · subst e2
        rw [if_neg e1, decide_eq_true_eq]; exact h1
      · rw [if_neg e2, decide_eq_true_eq] at h2
        rw [if_neg (by omega), decide_eq_true_eq]; omega
theorem not_lt_of_prefix : ∀ (S R : List Nat), S.isPrefixOf R = true → ltR R S = false
  | [], R, _ => by cases R <;> rfl
  | b :: s, [], h => by simp at h
  | b :: s, a :: r, h => by
    simp only [List.isPrefixOf_cons₂, Bool.and_eq_true, beq_iff_eq] at h
    unfold ltR
    rw [if_pos h.1.symm]
    exact not_lt_of_prefix s r h.2
theorem prefix_between : ∀ (S U R : List Nat), S.isPrefixOf R = true → ltR S U = true → ltR R U = false → S.isPrefixOf U = true
  | [], U, R, _, _, _ => by cases U <;> rfl
  | a :: s, [], R, _, h, _ => by simp [ltR] at h
  | a :: s, u :: U, [], h, _, _ => by simp at h
  | a :: s, u :: U, r :: R, h1, h2, h3 => by
    simp only [List.isPrefixOf_cons₂, Bool.and_eq_true, beq_iff_eq] at h1 ⊢
    unfold ltR at h2 h3
    obtain ⟨e, h1⟩ := h1
    subst e
    by_cases e2 : a = u
    · subst e2
      rw [if_pos rfl] at h2 h3
      exact ⟨rfl, prefix_between s U R h1 h2 h3⟩
    · rw [if_neg e2] at h2 h3
      rw [h2] at h3; cases h3
theorem prefix_iff : ∀ (S U R : List Nat), (S.isPrefixOf U = true ∧ S.length ≤ comL R U) ↔ (S.isPrefixOf R = true ∧ S.isPrefixOf U = true)
  | [], U, R => by simp
  | a :: s, [], R => by simp
  | a :: s, u :: U, [] => by simp [comL]
  | a :: s, u :: U, r :: R => by
    have ih := prefix_iff s U R
    simp only [List.isPrefixOf_cons₂, Bool.and_eq_true, beq_iff_eq, List.length_cons]
    unfold comL
    by_cases e : r = u
    · subst e
      rw [if_pos rfl]
      constructor
      · rintro ⟨⟨e, h⟩, hl⟩
        subst e
        have := ih.mp ⟨h, by omega⟩
        exact ⟨⟨rfl, this.1⟩, rfl, this.2⟩
      · rintro ⟨⟨e, h⟩, _, h'⟩
        subst e
        have := ih.mpr ⟨h, h'⟩
        exact ⟨⟨rfl, h'⟩, by omega⟩
    · rw [if_neg e]
      constructor
      · rintro ⟨_, hl⟩; omega
      · rintro ⟨⟨e1, _⟩, e2, _⟩
        exact absurd (e1.symm.trans e2) e
noncomputable def sR (T : List Ent) (k : Nat) : List Nat := ((T[k]?).getD ([], 0, 0)).1.reverse
noncomputable def longer (acc : Option Ent) (e : Ent) : Bool := match acc with
  | none => true
  | some a => decide (a.1.length < e.1.length)
noncomputable def bestT (T : List Ent) (p : List Nat → Bool) : Option Ent := T.foldl (fun acc e => if p e.1.reverse && longer acc e then some e else acc) none
noncomputable def walkT (T : List Ent) : Nat → Nat → Nat → Option (Option Ent)
  | 0, _, _ => none
  | n + 1, i, ci => match T[i]? with
    | some e => if e.1.length ≤ ci then some (some e) else if e.2.1 < 0 then some none else walkT T n e.2.1.toNat ci
    | none => none
structure TableOk (T : List Ent) : Prop where
  pos : 0 < T.length
  few : T.length < 40
  short : ∀ e ∈ T, e.1.length < 60
  sorted : ∀ i j, i < j → j < T.length → ltR (sR T i) (sR T j) = true
  mid : ∀ i k j, i < k → k < j → j < T.length → comL (sR T i) (sR T j) ≤ comL (sR T i) (sR T k)
  walk : ∀ i ci, i < T.length → ci ≤ (sR T i).length → walkT T 50 i ci = some (bestT T fun S => S.isPrefixOf (sR T i) && decide (S.length ≤ ci))
noncomputable def tableOk (T : List Ent) : Bool :=
  decide (0 < T.length) && decide (T.length < 40) && T.all (fun e => decide (e.1.length < 60)) &&
  (List.range T.length).all (fun j => (List.range j).all fun i => ltR (sR T i) (sR T j)) &&
  (List.range T.length).all (fun j => (List.range j).all fun k => (List.range k).all fun i => decide (comL (sR T i) (sR T j) ≤ comL (sR T i) (sR T k))) &&
  (List.range T.length).all (fun i => (List.range ((sR T i).length + 1)).all fun ci => decide (walkT T 50 i ci = some (bestT T fun S => S.isPrefixOf (sR T i) && decide (S.length ≤ ci))))
theorem tableOk_of {T : List Ent} (h : tableOk T = true) : TableOk T := by
  unfold tableOk at h
  simp only [Bool.and_eq_true, List.all_eq_true, List.mem_range, decide_eq_true_eq] at h
  obtain ⟨⟨⟨⟨⟨h1, h2⟩, h3⟩, h4⟩, h5⟩, h6⟩ := h
  exact ⟨h1, h2, h3, fun i j a b => h4 j b i a, fun i k j a b c => h5 j c k b i a, fun i ci a b => h6 i a ci (by omega)⟩
theorem bestT_congr {T : List Ent} {p q : List Nat → Bool} (h : ∀ e ∈ T, p e.1.reverse = q e.1.reverse) : bestT T p = bestT T q := by
  unfold bestT
  generalize (none : Option Ent) = acc
  induction T generalizing acc with
  | nil => rfl
  | cons e T ih =>
    rw [List.foldl_cons, List.foldl_cons, h e (.head _)]
    exact ih (fun e he => h e (.tail _ he)) _
noncomputable def FinT (R : List Nat) (T : List Ent) (i ci : Nat) : Prop := i < T.length ∧ ((ltR R (sR T i) = false ∧ ci = comL R (sR T i) ∧ (i + 1 < T.length → ltR R (sR T (i + 1)) = true)) ∨ (i = 0 ∧ ci = 0 ∧ ltR R (sR T 0) = true))
theorem sR_mem {T : List Ent} {e : Ent} (h : e ∈ T) : ∃ k, k < T.length ∧ T[k]? = some e ∧ e.1.reverse = sR T k := by
  obtain ⟨k, hk, he⟩ := List.getElem_of_mem h
  exact ⟨k, hk, by rw [List.getElem?_eq_getElem hk, he], by unfold sR; rw [List.getElem?_eq_getElem hk, he]; rfl⟩
theorem find_is {R : List Nat} {T : List Ent} {i ci : Nat} (ok : TableOk T) (h : FinT R T i ci) : walkT T 50 i ci = some (bestT T fun S => S.isPrefixOf R) := by
  obtain ⟨hi, h⟩ := h
  rcases h with ⟨h1, rfl, h3⟩ | ⟨rfl, rfl, h1⟩
  · have hle : comL R (sR T i) ≤ (sR T i).length := by rw [comL_comm]; exact comL_le_left _ _
    rw [ok.walk i _ hi hle]
    congr 1
    refine bestT_congr fun e he => ?_
    obtain ⟨k, hk, _, hs⟩ := sR_mem he
    rw [hs, Bool.eq_iff_iff, Bool.and_eq_true, decide_eq_true_eq]
    rw [prefix_iff]
    constructor
    · rintro ⟨a, b⟩; exact a
    · intro a
      refine ⟨a, ?_⟩
      rcases Nat.lt_trichotomy k i with hlt | heq | hgt
      · exact prefix_between _ _ R a (ok.sorted k i hlt hi) h1
      · subst heq; simp
      · exfalso
        have hk1 : ltR R (sR T k) = true := by
          have h4 := h3 (by omega)
          rcases Nat.lt_or_ge (i + 1) k with q | q
          · exact ltR_trans _ _ _ h4 (ok.sorted (i + 1) k q hk)
          · rw [show k = i + 1 by omega]; exact h4
        rw [not_lt_of_prefix _ _ a] at hk1; cases hk1
  · rw [ok.walk 0 0 ok.pos (Nat.zero_le _)]
    congr 1
    refine bestT_congr fun e he => ?_
    obtain ⟨k, hk, _, hs⟩ := sR_mem he
    have hk1 : ltR R (sR T k) = true := by
      rcases Nat.eq_zero_or_pos k with q | q
      · subst q; exact h1
      · exact ltR_trans _ _ _ h1 (ok.sorted 0 k q hk)
    rw [hs, Bool.eq_iff_iff, Bool.and_eq_true, decide_eq_true_eq]
    constructor
    · rintro ⟨_, hl⟩
      have : sR T k = [] := List.eq_nil_of_length_eq_zero (by omega)
      rw [this] at hk1
      cases R <;> simp [ltR] at hk1
    · intro a
      rw [not_lt_of_prefix _ _ a] at hk1; cases hk1
theorem ok_a_0 : TableOk T_a_0 := tableOk_of (by decide +kernel)
theorem ok_a_1 : TableOk T_a_1 := tableOk_of (by decide +kernel)
theorem ok_a_2 : TableOk T_a_2 := tableOk_of (by decide +kernel)
theorem ok_a_3 : TableOk T_a_3 := tableOk_of (by decide +kernel)
theorem ok_a_4 : TableOk T_a_4 := tableOk_of (by decide +kernel)
theorem ok_a_5 : TableOk T_a_5 := tableOk_of (by decide +kernel)
noncomputable def fabInner : SF := (sSeq (sIf (tE (eBin gEq (eBin gSub (eL 4) (eL 11)) (eL 5))) (sSeq (sAssL 10 (eNeg (eK (.int 1)))) (sSeq sBrk sNil)) sNil) (sSeq (sAssL 10 (eBin gSub (eFun gOrd [(eBin gIdx (eF 0) (eBin gSub (eBin gSub (eL 4) (eK (.int 1))) (eL 11)))]) (eFun gOrd [(eBin gIdx (eAm 0 (eL 12)) (eL 13))]))) (sSeq (sIf (tE (eBin gNe (eL 10) (eK (.int 0)))) (sSeq sBrk sNil) sNil) (sSeq (sAugL gAddI 11 (eK (.int 1))) sNil))))
noncomputable def fabFor : SF := (sForR 13 (eBin gSub (eBin gSub (eFun gLen [(eAm 0 (eL 12))]) (eK (.int 1))) (eL 11)) (eNeg (eK (.int 1))) (eNeg (eK (.int 1))) fabInner)
noncomputable def fabTurn : SF := (sSeq (sIf (tE (eBin gLt (eL 10) (eK (.int 0)))) (sSeq (sAssL 3 (eL 9)) (sSeq (sAssL 7 (eL 11)) sNil)) (sSeq (sAssL 2 (eL 9)) (sSeq (sAssL 6 (eL 11)) sNil))) (sSeq (sIf (tE (eBin gLe (eBin gSub (eL 3) (eL 2)) (eK (.int 1)))) (sSeq (sIf (tE (eBin gGt (eL 2) (eK (.int 0)))) (sSeq sBrk sNil) sNil) (sSeq (sIf (tE (eBin gEq (eL 3) (eL 2))) (sSeq sBrk sNil) sNil) (sSeq (sIf (tE (eL 8)) (sSeq sBrk sNil) sNil) (sSeq (sAssL 8 (eK (.bool true))) sNil)))) sNil) sNil))
noncomputable def fabBody : SF := (sSeq (sAssL 9 (eBin gAdd (eL 2) (eBin gShr1 (eBin gSub (eL 3) (eL 2)) (eK (.int 1))))) (sSeq (sAssL 10 (eK (.int 0))) (sSeq (sAssL 11 (eFun gMin [(eL 6), (eL 7)])) (sSeq (sAssL 12 (eBin gIdx (eL 1) (eL 9))) (sSeq fabFor fabTurn)))))
noncomputable def fabBody2 : SF := (sSeq (sAssL 12 (eBin gIdx (eL 1) (eL 2))) (sSeq (sIf (tE (eBin gGe (eL 6) (eFun gLen [(eAm 0 (eL 12))]))) (sSeq (sAssF 1 (eBin gSub (eL 4) (eFun gLen [(eAm 0 (eL 12))]))) (sSeq (sRet (eAm 2 (eL 12))) sNil)) sNil) (sSeq (sAssL 2 (eAm 1 (eL 12))) (sSeq (sIf (tE (eBin gLt (eL 2) (eK (.int 0)))) (sSeq (sRet (eK (.int 0))) sNil) sNil) sNil))))
theorem s_find_is : s_find_among_b = (sSeq (sAssL 2 (eK (.int 0))) (sSeq (sAssL 3 (eFun gLen [(eL 1)])) (sSeq (sAssL 4 (eF 1)) (sSeq (sAssL 5 (eF 3)) (sSeq (sAssL 6 (eK (.int 0))) (sSeq (sAssL 7 (eK (.int 0))) (sSeq (sAssL 8 (eK (.bool false))) (sSeq (sWhile 100 (tK true) fabBody) (sSeq (sWhile 100 (tK true) fabBody2) (sSeq (sRet (eNeg (eK (.int 1)))) sNil)))))))))) := rfl
noncomputable def amsV (T : List Ent) : AV := .lst (T.map fun p => .am p.1 p.2.1 p.2.2)
noncomputable def LB (V : AV) (c : Nat) (i j ci cj : Nat) (fst : Bool) (kk df cm ww i2 : Option AV) : List (Option AV) := [some .self, some V, some (.int i), some (.int j), some (.int c), some (.int 0), some (.int ci), some (.int cj), some (.bool fst), kk, df, cm, ww, i2]
theorem gOrd_one (d : Nat) : gOrd [.str [d]] = some (.int d) := rfl
theorem gAm_s (s : List Nat) (a b : Int) : gAm 0 (.am s a b) = some (.str s) := rfl
theorem gAm_sub (s : List Nat) (a b : Int) : gAm 1 (.am s a b) = some (.int a) := rfl
theorem gAm_res (s : List Nat) (a b : Int) : gAm 2 (.am s a b) = some (.int b) := rfl
theorem gIdx_lst {xs : List AV} {i : Int} {z : AV} (h0 : 0 ≤ i) (hx : xs.length < 1000) (h : xs[i.toNat]? = some z) : gIdx (.lst xs) (.int i) = some z := by
  have hl := (List.getElem?_eq_some_iff.mp h).1
  unfold gIdx
  dsimp only
  rw [if_pos ⟨h0, by omega⟩, h]
section
variable {x : List Nat} {b k p1 p2 : Nat} {V : AV}
theorem inner_run (hx : x.length < 1000) (e : Ent) (he : e.1.length < 60) (i j ci cj : Nat) (fst : Bool) (kk : Option AV) :
    ∀ (n m : Nat) (i2 : Option AV), m + n = e.1.length → m ≤ x.length → ∃ i2', forL 13 fabInner ((List.range n).map fun (q : Nat) => .int ((n : Int) - 1 - q)) ⟨F8 x x.length b k p1 p2, LB V x.length i j ci cj fst kk (some (.int 0)) (some (.int m)) (some (.am e.1 e.2.1 e.2.2)) i2, none⟩ =
      some (.next, ⟨F8 x x.length b k p1 p2, LB V x.length i j ci cj fst kk (some (.int (cmpL (x.reverse.drop m) (e.1.reverse.drop m) m).1)) (some (.int (cmpL (x.reverse.drop m) (e.1.reverse.drop m) m).2)) (some (.am e.1 e.2.1 e.2.2)) i2', none⟩)
  | 0, m, i2, hm, _ => by
    have hd : e.1.reverse.drop m = [] := List.drop_eq_nil_of_le (by simp; omega)
    rw [hd]
    refine ⟨i2, ?_⟩
    have : cmpL (x.reverse.drop m) [] m = (0, m) := by cases x.reverse.drop m <;> rfl
    rw [this]
    rfl
  | n + 1, m, i2, hm, hmx => by
    have hlist : (List.range (n + 1)).map (fun (q : Nat) => AV.int (((n + 1 : Nat) : Int) - 1 - q)) = .int (n : Int) :: (List.range n).map (fun (q : Nat) => .int ((n : Int) - 1 - q)) := by
      rw [List.range_succ_eq_map, List.map_cons, List.map_map]
      congr 1
      · congr 1; omega
      · apply List.map_congr_left
        intro q _
        simp only [Function.comp]
        congr 1; omega
    rw [hlist]
    have hmr : m < e.1.reverse.length := by simp; omega
    have hS : e.1.reverse.drop m = e.1.reverse[m] :: e.1.reverse.drop (m + 1) := List.drop_eq_getElem_cons hmr
    have hSm : e.1[n]? = some e.1.reverse[m] := by
      rw [List.getElem_reverse, List.getElem?_eq_getElem (by omega)]
      congr 2; omega
    have hidx2 : gIdx (.str e.1) (.int (n : Int)) = some (.str [e.1.reverse[m]]) := gIdx_str (by omega) (by omega) (by simpa using hSm)
    by_cases hend : m = x.length
    · have hR : x.reverse.drop m = [] := List.drop_eq_nil_of_le (by simp; omega)
      have h1 : ((x.length : Int) - m = 0) := by omega
      rw [hR, hS]
      refine ⟨some (.int n), ?_⟩
      unfold forL
      simp! [callF, fabInner, F8, LB, h1, cmpL]
    · have hxm : m < x.reverse.length := by simp; omega
      have hR : x.reverse.drop m = x.reverse[m] :: x.reverse.drop (m + 1) := List.drop_eq_getElem_cons hxm
      have hRm : x[((x.length : Int) - 1 - m).toNat]? = some x.reverse[m] := by
        rw [List.getElem_reverse, show ((x.length : Int) - 1 - m).toNat = x.length - 1 - m by rw [Int.sub_sub, Nat.sub_sub]; exact Int.toNat_sub _ (1 + m)]
        exact List.getElem?_eq_getElem _
      have h1 : ¬ ((x.length : Int) - m = 0) := by omega
      have hidx : gIdx (.str x) (.int ((x.length : Int) - 1 - m)) = some (.str [x.reverse[m]]) := gIdx_str (by omega) hx hRm
      rw [hR, hS]
      by_cases heq : x.reverse[m] = e.1.reverse[m]
      · obtain ⟨i2', ih⟩ := inner_run hx e he i j ci cj fst kk n (m + 1) (some (.int n)) (by omega) (by omega)
        refine ⟨i2', ?_⟩
        have hc : cmpL (x.reverse[m] :: x.reverse.drop (m + 1)) (e.1.reverse[m] :: e.1.reverse.drop (m + 1)) m = cmpL (x.reverse.drop (m + 1)) (e.1.reverse.drop (m + 1)) (m + 1) := by
          rw [cmpL, if_pos heq]
        rw [hc]
        have h2 : ((x.reverse[m] : Nat) : Int) - (e.1.reverse[m] : Nat) = 0 := by rw [heq]; omega
        unfold forL
        simp! [callF, fabInner, F8, LB, h1, hidx, hidx2, eAm, gAm_s, gOrd_one, h2]
        exact ih
      · refine ⟨some (.int n), ?_⟩
        have hc : cmpL (x.reverse[m] :: x.reverse.drop (m + 1)) (e.1.reverse[m] :: e.1.reverse.drop (m + 1)) m = (((x.reverse[m] : Nat) : Int) - (e.1.reverse[m] : Nat), m) := by
          rw [cmpL, if_neg heq]
        rw [hc]
        have h2 : ¬ (((x.reverse[m] : Nat) : Int) - (e.1.reverse[m] : Nat) = 0) := by omega
        unfold forL
        simp! [callF, fabInner, F8, LB, h1, hidx, hidx2, eAm, gAm_s, gOrd_one, h2]
theorem ams_get {T : List Ent} {n : Nat} (h : n < T.length) : (T.map fun p => AV.am p.1 p.2.1 p.2.2)[n]? = some (.am T[n].1 T[n].2.1 T[n].2.2) := by
  rw [List.getElem?_map, List.getElem?_eq_getElem h]; rfl
theorem half_lt {i j : Nat} (h : i < j) : i + (j - i) / 2 < j := by omega
theorem half_i {i j : Nat} (h : i < j) : (i : Int) + ((j : Int) - i) / 2 = ((i + (j - i) / 2 : Nat) : Int) := by rw [Int.natCast_add, Int.natCast_ediv, Int.natCast_sub (Nat.le_of_lt h)]; rfl
theorem min_i {a b : Nat} : (if (b : Int) < a then (b : Int) else a) = ((min a b : Nat) : Int) := by split <;> omega
theorem ar5 (L m : Nat) : ((L : Int) - 1 - (m : Int) + 1).toNat = L - m := by rw [show (L : Int) - 1 - (m : Int) + 1 = L - m by omega]; exact Int.toNat_sub L m
theorem ar6 {L m : Nat} (h : m ≤ L) (h2 : L < 60) : (-1 : Int) ≤ (L : Int) - 1 - (m : Int) ∧ (L : Int) - 1 - (m : Int) < 1000 := by omega
theorem ar7 {L m : Nat} (h : m ≤ L) (q : Nat) : (L : Int) - 1 - (m : Int) - q = ((L - m : Nat) : Int) - 1 - q := by rw [Int.natCast_sub h, Int.sub_sub (L : Int) 1, Int.sub_sub (L : Int) m, Int.add_comm 1]
theorem body_run (hx : x.length < 1000) {T : List Ent} (ok : TableOk T) {i j ci cj n : Nat} (fst : Bool) (kk df cm ww i2 : Option AV) (hij : i < j) (hj : j ≤ T.length) (hn : n = i + (j - i) / 2) (hc : min ci cj ≤ comL x.reverse (sR T n)) :
    ∃ ww' i2', fabBody ⟨F8 x x.length b k p1 p2, LB (amsV T) x.length i j ci cj fst kk df cm ww i2, none⟩ =
      fabTurn ⟨F8 x x.length b k p1 p2, LB (amsV T) x.length i j ci cj fst (some (.int n)) (some (.int (cmpL x.reverse (sR T n) 0).1)) (some (.int (cmpL x.reverse (sR T n) 0).2)) ww' i2', none⟩ := by
  have hnT : n < T.length := Nat.lt_of_lt_of_le (hn ▸ half_lt hij) hj
  have e1 : (i : Int) + ((j : Int) - i) / 2 = (n : Int) := hn ▸ half_i hij
  have e3 : (if (cj : Int) < ci then (cj : Int) else ci) = ((min ci cj : Nat) : Int) := min_i
  clear hn hij hj
  generalize min ci cj = m at *
  have hsR : sR T n = T[n].1.reverse := by unfold sR; rw [List.getElem?_eq_getElem hnT]; rfl
  have hshort := ok.short T[n] (List.getElem_mem hnT)
  have hm2 : m ≤ x.length := Nat.le_trans hc (List.length_reverse ▸ comL_le_left x.reverse (sR T n))
  rw [hsR] at hc
  have hm1 : m ≤ T[n].1.length := Nat.le_trans (comL_comm x.reverse _ ▸ hc) (List.length_reverse ▸ comL_le_left T[n].1.reverse x.reverse)
  obtain ⟨i2', h⟩ := inner_run (b := b) (k := k) (p1 := p1) (p2 := p2) (V := amsV T) hx T[n] hshort i j ci cj fst (some (.int n)) (T[n].1.length - m) m i2 (Nat.add_sub_cancel' hm1) hm2
  refine ⟨some (.am T[n].1 T[n].2.1 T[n].2.2), i2', ?_⟩
  have hdrop : cmpL (x.reverse.drop m) (T[n].1.reverse.drop m) m = cmpL x.reverse (sR T n) 0 := by
    have := cmpL_drop m x.reverse T[n].1.reverse 0 hc
    rw [Nat.zero_add] at this
    rw [hsR]; exact this
  rw [hdrop] at h
  have e2 : gIdx (amsV T) (.int (n : Int)) = some (.am T[n].1 T[n].2.1 T[n].2.2) := gIdx_lst (Int.natCast_nonneg n) (by rw [List.length_map]; exact Nat.lt_trans ok.few (by decide)) (by simpa using ams_get hnT)
  have e4 : T[n].1.length < 1000 := Nat.lt_trans hshort (by decide)
  have e5 := ar5 T[n].1.length m
  have e6 := ar6 hm1 hshort
  have e7 : (fun (q : Nat) => AV.int ((T[n].1.length : Int) - 1 - (m : Int) - q)) = fun (q : Nat) => .int (((T[n].1.length - m : Nat) : Int) - 1 - q) := funext fun q => congrArg AV.int (ar7 hm1 q)
  unfold fabBody
  simp! [callF, F8, LB, gShr1, e1, e2, e3, fabFor, sForR, eAm, gAm_s, e4, e5, e6, e7, true_and, and_self]
  simp only [F8, LB] at h
  rw [h]
noncomputable def InvT (R : List Nat) (T : List Ent) (i j ci cj : Nat) (fst : Bool) : Prop := i < j ∧ j ≤ T.length ∧ ((i = 0 ∧ ci = 0) ∨ (ltR R (sR T i) = false ∧ ci = comL R (sR T i))) ∧ ((cj = 0 ∧ j = T.length) ∨ (j < T.length ∧ ltR R (sR T j) = true ∧ cj = comL R (sR T j))) ∧ (fst = true → i = 0 ∧ j = 1)
theorem min_com {R : List Nat} {T : List Ent} (ok : TableOk T) {i j ci cj n : Nat} {fst : Bool} (h : InvT R T i j ci cj fst) (hn : n = i + (j - i) / 2) : min ci cj ≤ comL R (sR T n) := by
  obtain ⟨hij, hj, hi, hj2, _⟩ := h
  rcases hi with ⟨_, rfl⟩ | ⟨_, rfl⟩
  · omega
  · rcases hj2 with ⟨rfl, _⟩ | ⟨hjT, _, rfl⟩
    · omega
    · rcases Nat.eq_or_lt_of_le (show i ≤ n by omega) with q | q
      · subst q; omega
      · have h1 := ok.mid i n j q (by omega) hjT
        have h2 := comL_ultra (min (comL R (sR T i)) (comL R (sR T j))) R (sR T i) (sR T j) (by omega) (by omega)
        have h3 := comL_ultra (min (comL R (sR T i)) (comL R (sR T j))) (sR T i) R (sR T n) (by rw [comL_comm]; omega) (by omega)
        exact h3
noncomputable def fabTail : SF := (sSeq (sIf (tE (eBin gLe (eBin gSub (eL 3) (eL 2)) (eK (.int 1)))) (sSeq (sIf (tE (eBin gGt (eL 2) (eK (.int 0)))) (sSeq sBrk sNil) sNil) (sSeq (sIf (tE (eBin gEq (eL 3) (eL 2))) (sSeq sBrk sNil) sNil) (sSeq (sIf (tE (eL 8)) (sSeq sBrk sNil) sNil) (sSeq (sAssL 8 (eK (.bool true))) sNil)))) sNil) sNil)
theorem tail_brk {fs : List AV} {c i j ci cj : Nat} {fst : Bool} {kk df cm ww i2 : Option AV} (h : (j : Int) - i ≤ 1) (h2 : 0 < i ∨ j = i ∨ fst = true) :
    fabTail ⟨fs, LB V c i j ci cj fst kk df cm ww i2, none⟩ = some (.brk, ⟨fs, LB V c i j ci cj fst kk df cm ww i2, none⟩) := by
  unfold fabTail
  by_cases h3 : (0 : Int) < i
  · simp! [callF, LB, h, h3]
  · by_cases h4 : (j : Int) = i
    · have h5 : j = i := by omega
      subst h5
      simp! [callF, LB, h, h3]
    · have h5 : fst = true := by rcases h2 with q | q | q <;> first | exact q | omega
      subst h5
      simp! [callF, LB, h, h3, h4]
theorem tail_first {fs : List AV} {c j ci cj : Nat} {kk df cm ww i2 : Option AV} (h : (j : Int) ≤ 1) (h2 : j ≠ 0) :
    fabTail ⟨fs, LB V c 0 j ci cj false kk df cm ww i2, none⟩ = some (.next, ⟨fs, LB V c 0 j ci cj true kk df cm ww i2, none⟩) := by
  unfold fabTail
  have h1 : (j : Int) - ((0 : Nat) : Int) ≤ 1 := by omega
  have h3 : ¬ (0 : Int) < ((0 : Nat) : Int) := by first | exact nLt ‹_› | omega
  have h4 : ¬ (j : Int) = ((0 : Nat) : Int) := by first | exact nEq ‹_› | omega
  simp! [callF, LB, h1, h3, h4]
theorem tail_next {fs : List AV} {c i j ci cj : Nat} {fst : Bool} {kk df cm ww i2 : Option AV} (h : ¬ (j : Int) - i ≤ 1) :
    fabTail ⟨fs, LB V c i j ci cj fst kk df cm ww i2, none⟩ = some (.next, ⟨fs, LB V c i j ci cj fst kk df cm ww i2, none⟩) := by
  unfold fabTail
  simp! [callF, LB, h]
theorem turn_lt {fs : List AV} {c i j ci cj m r2 : Nat} {r1 : Int} {fst : Bool} {ww i2 : Option AV} (h : r1 < 0) :
    fabTurn ⟨fs, LB V c i j ci cj fst (some (.int m)) (some (.int r1)) (some (.int r2)) ww i2, none⟩ = fabTail ⟨fs, LB V c i m ci r2 fst (some (.int m)) (some (.int r1)) (some (.int r2)) ww i2, none⟩ := by
  show sSeq _ fabTail _ = _
  simp! [callF, LB, h]
theorem turn_ge {fs : List AV} {c i j ci cj m r2 : Nat} {r1 : Int} {fst : Bool} {ww i2 : Option AV} (h : ¬ r1 < 0) :
    fabTurn ⟨fs, LB V c i j ci cj fst (some (.int m)) (some (.int r1)) (some (.int r2)) ww i2, none⟩ = fabTail ⟨fs, LB V c m j r2 cj fst (some (.int m)) (some (.int r1)) (some (.int r2)) ww i2, none⟩ := by
  show sSeq _ fabTail _ = _
  simp! [callF, LB, h]
theorem half_le (i j : Nat) : i ≤ i + (j - i) / 2 ∧ (i + 1 < j → i < i + (j - i) / 2) := by omega
theorem arA {m i : Nat} (h : (m : Int) - i ≤ 1) (q : i < m) : m = i + 1 := by omega
theorem arB {i m : Nat} {p : Prop} (h : ¬ (0 < i ∨ m = i ∨ p)) : i = 0 ∧ ¬ (m = 0 ∨ p) := by
  have e : i = 0 := Nat.eq_zero_of_not_pos fun q => h (.inl q)
  subst e
  exact ⟨rfl, fun q => h (.inr q)⟩
theorem arC {j n : Nat} (h : 1 < j) (hf : 2 * j + 1 < n + 1 + 2 * 0) : 2 * 1 + 0 < n + 2 * 0 := by omega
theorem arD {m i : Nat} (h : ¬ (m : Int) - i ≤ 1) : i + 1 < m := by omega
theorem arE {i j m n : Nat} (h : m < j) (hf : 2 * j + 1 < n + 1 + 2 * i) : 2 * m + 1 < n + 2 * i := by omega
theorem arF {i n : Nat} (h : i ≤ 0) (hf : 2 * (0 + 1) + 1 < n + 1 + 2 * i) : 2 * 1 + 0 < n + 2 * 0 := by omega
theorem arG {i j m n : Nat} (q : m + 1 < j) (h : i ≤ m ∧ (i + 1 < j → i < m)) (hf : 2 * j + 1 < n + 1 + 2 * i) : 2 * j + 1 < n + 2 * m := by omega
theorem loop_run (hx : x.length < 1000) {T : List Ent} (ok : TableOk T) : ∀ (n i j ci cj : Nat) (fst : Bool) (kk df cm ww i2 : Option AV), InvT x.reverse T i j ci cj fst → 2 * j + (if fst then 0 else 1) < n + 2 * i →
    ∃ i' j' ci' cj' fst' kk' df' cm' ww' i2', sWhile n (tK true) fabBody ⟨F8 x x.length b k p1 p2, LB (amsV T) x.length i j ci cj fst kk df cm ww i2, none⟩ =
      some (.next, ⟨F8 x x.length b k p1 p2, LB (amsV T) x.length i' j' ci' cj' fst' kk' df' cm' ww' i2', none⟩) ∧ FinT x.reverse T i' ci'
  | 0, _, _, _, _, _, _, _, _, _, _, h', h => by have := h'.1; omega
  | n + 1, i, j, ci, cj, fst, kk, df, cm, ww, i2, h, hf => by
    obtain ⟨hij, hj, hi, hj2, hfst⟩ := id h
    obtain ⟨ww', i2', hb⟩ := body_run (b := b) (k := k) (p1 := p1) (p2 := p2) hx ok (n := i + (j - i) / 2) fst kk df cm ww i2 hij hj rfl (min_com ok h rfl)
    unfold sWhile
    simp only [tK, Option.bind_some, if_true, hb]
    clear hb
    have hlh := half_lt hij
    have hle := half_le i j
    generalize i + (j - i) / 2 = m at hlh hle ⊢
    have hcm : (cmpL x.reverse (sR T m) 0).2 = comL x.reverse (sR T m) := by rw [cmpL_com, Nat.zero_add]
    have hlt := cmpL_lt x.reverse (sR T m) 0
    generalize (cmpL x.reverse (sR T m) 0).1 = r1 at hlt ⊢
    rw [hcm]
    clear hcm
    by_cases h1 : r1 < 0
    · have hl := hlt.mp h1
      rw [turn_lt h1]
      by_cases h2 : ((m : Int) - i ≤ 1)
      · by_cases h3 : 0 < i ∨ m = i ∨ fst = true
        · rw [tail_brk h2 h3]
          refine ⟨i, m, ci, _, fst, _, _, _, _, _, rfl, ?_⟩
          rcases hi with ⟨q, q'⟩ | ⟨q1, q2⟩
          · subst q q'
            have hm0 : m = 0 := by
              rcases h3 with q | q | q
              · exact absurd q (Nat.lt_irrefl 0)
              · exact q
              · exact Nat.lt_one_iff.mp ((hfst q).2 ▸ hlh)
            subst hm0
            exact ⟨ok.pos, .inr ⟨rfl, rfl, hl⟩⟩
          · have hmi : m = i + 1 := by
              rcases Nat.eq_or_lt_of_le hle.1 with q | q
              · subst q; rw [q1] at hl; cases hl
              · exact arA h2 q
            exact ⟨Nat.lt_of_lt_of_le hij hj, .inl ⟨q1, q2, fun _ => hmi ▸ hl⟩⟩
        · obtain ⟨rfl, h4⟩ : i = 0 ∧ ¬ (m = 0 ∨ fst = true) := arB h3
          obtain rfl : fst = false := by
            cases fst with
            | false => rfl
            | true => exact absurd (.inr rfl) h4
          obtain rfl : m = 1 := arA h2 (Nat.pos_of_ne_zero fun q => h4 (.inl q))
          rw [tail_first (by decide) (by decide)]
          exact loop_run hx ok n 0 1 ci _ true _ _ _ _ _ ⟨by decide, ok.pos, hi, .inr ⟨Nat.lt_of_lt_of_le hlh hj, hl, rfl⟩, fun _ => ⟨rfl, rfl⟩⟩ (arC hlh hf)
      · rw [tail_next h2]
        have hmi : i + 1 < m := arD h2
        have hf0 : fst = false := by
          cases fst with
          | false => rfl
          | true => exact absurd (Nat.lt_trans hmi hlh) (by rw [(hfst rfl).2]; exact Nat.not_lt.mpr (Nat.le_add_left 1 _))
        subst hf0
        exact loop_run hx ok n i m ci _ false _ _ _ _ _ ⟨Nat.lt_of_succ_lt hmi, Nat.le_trans (Nat.le_of_lt hlh) hj, hi, .inr ⟨Nat.lt_of_lt_of_le hlh hj, hl, rfl⟩, fun q => by cases q⟩ (arE hlh hf)
    · have hl : ltR x.reverse (sR T m) = false := by
        cases q : ltR x.reverse (sR T m) with
        | false => rfl
        | true => exact absurd (hlt.mpr q) h1
      rw [turn_ge h1]
      by_cases h2 : ((j : Int) - m ≤ 1)
      · obtain rfl : j = m + 1 := arA h2 hlh
        by_cases h3 : 0 < m ∨ m + 1 = m ∨ fst = true
        · rw [tail_brk h2 h3]
          refine ⟨m, m + 1, _, cj, fst, _, _, _, _, _, rfl, hj, .inl ⟨hl, rfl, fun q => ?_⟩⟩
          rcases hj2 with ⟨_, q2⟩ | ⟨_, q2, _⟩
          · exact absurd q2 (Nat.ne_of_lt q)
          · exact q2
        · obtain ⟨rfl, h4⟩ : m = 0 ∧ ¬ (m + 1 = 0 ∨ fst = true) := arB h3
          obtain rfl : fst = false := by
            cases fst with
            | false => rfl
            | true => exact absurd (.inr rfl) h4
          rw [tail_first (by decide) (by decide)]
          exact loop_run hx ok n 0 1 _ cj true _ _ _ _ _ ⟨by decide, ok.pos, .inr ⟨hl, rfl⟩, hj2, fun _ => ⟨rfl, rfl⟩⟩ (arF hle.1 hf)
      · rw [tail_next h2]
        have hmj : m + 1 < j := arD h2
        have hf0 : fst = false := by
          cases fst with
          | false => rfl
          | true => exact absurd hmj (by rw [(hfst rfl).2]; exact Nat.not_lt.mpr (Nat.le_add_left 1 _))
        subst hf0
        exact loop_run hx ok n m j _ cj false _ _ _ _ _ ⟨hlh, hj, .inr ⟨hl, rfl⟩, hj2, fun q => by cases q⟩ (arG hmj hle hf)
theorem walk_run {T : List Ent} (ok : TableOk T) {ci : Nat} (j cj : Nat) (fst : Bool) (kk df cm : Option AV) : ∀ (n i : Nat) (ww i2 : Option AV) (r : Option Ent), walkT T n i ci = some r → ∀ N, n ≤ N → ∃ st', sWhile N (tK true) fabBody2 ⟨F8 x x.length b k p1 p2, LB (amsV T) x.length i j ci cj fst kk df cm ww i2, none⟩ =
    some (match r with | some e => (.ret (.int e.2.2), ⟨[.str x, .int (x.length - e.1.length), .int x.length, .int 0, .int b, .int k, .int p1, .int p2], st', none⟩) | none => (.ret (.int 0), ⟨F8 x x.length b k p1 p2, st', none⟩))
  | 0, i, ww, i2, r, h, N, hN => by cases h
  | n + 1, i, ww, i2, r, h, 0, hN => by omega
  | n + 1, i, ww, i2, r, h, N + 1, hN => by
    unfold walkT at h
    have few := ok.few
    cases hq : T[i]? with
    | none => rw [hq] at h; cases h
    | some e =>
      rw [hq] at h
      obtain ⟨hi, he⟩ := List.getElem?_eq_some_iff.mp hq
      have e2 : gIdx (amsV T) (.int (i : Int)) = some (.am e.1 e.2.1 e.2.2) := gIdx_lst (by omega) (by rw [List.length_map]; omega) (by rw [Int.toNat_natCast, ams_get hi, he])
      have hshort := ok.short e (List.mem_of_getElem? hq)
      have e3 : e.1.length < 1000 := by first | exact toN ‹_› | exact toN8 ‹_› | omega
      dsimp only at h
      unfold sWhile
      by_cases h1 : e.1.length ≤ ci
      · rw [if_pos h1] at h
        cases h
        have h1' : (e.1.length : Int) ≤ ci := by first | exact iLe ‹_› | omega
        refine ⟨LB (amsV T) x.length i j ci cj fst kk df cm (some (.am e.1 e.2.1 e.2.2)) i2, ?_⟩
        unfold fabBody2
        simp! [callF, F8, LB, e2, eAm, gAm_s, gAm_res, gAm_sub, e3, h1']
      · rw [if_neg h1] at h
        have h1' : ¬ (e.1.length : Int) ≤ ci := by first | exact nLe ‹_› | omega
        by_cases h2 : e.2.1 < 0
        · rw [if_pos h2] at h
          cases h
          refine ⟨(LB (amsV T) x.length i j ci cj fst kk df cm (some (.am e.1 e.2.1 e.2.2)) i2).set 2 (some (.int e.2.1)), ?_⟩
          unfold fabBody2
          simp! [callF, F8, LB, e2, eAm, gAm_s, gAm_res, gAm_sub, e3, h1', h2]
        · rw [if_neg h2] at h
          obtain ⟨st', ih⟩ := walk_run ok j cj fst kk df cm n e.2.1.toNat (some (.am e.1 e.2.1 e.2.2)) i2 r h N (by omega)
          refine ⟨st', ?_⟩
          rw [← ih]
          have h3 : ((e.2.1.toNat : Nat) : Int) = e.2.1 := by first | exact iEq ‹_› | omega
          unfold fabBody2
          simp! [callF, F8, LB, e2, eAm, gAm_s, gAm_res, gAm_sub, e3, h1', h2, h3]
theorem run_find (hx : x.length < 1000) {T : List Ent} (ok : TableOk T) : callF 14 s_find_among_b (F8 x x.length b k p1 p2) [.self, amsV T] =
    some (match bestT T (fun S => S.isPrefixOf x.reverse) with | some e => (.int e.2.2, [.str x, .int (x.length - e.1.length), .int x.length, .int 0, .int b, .int k, .int p1, .int p2]) | none => (.int 0, F8 x x.length b k p1 p2)) := by
  have few := ok.few
  have hl : T.length < 1000 := by first | exact toN ‹_› | exact toN8 ‹_› | omega
  obtain ⟨i', j', ci', cj', fst', kk', df', cm', ww', i2', h, hfin⟩ := loop_run (b := b) (k := k) (p1 := p1) (p2 := p2) hx ok 100 0 T.length 0 0 false none none none none none ⟨ok.pos, Nat.le_refl _, .inl ⟨rfl, rfl⟩, .inl ⟨rfl, rfl⟩, fun q => by cases q⟩ (by simp; omega)
  obtain ⟨st', h2⟩ := walk_run (x := x) (b := b) (k := k) (p1 := p1) (p2 := p2) ok j' cj' fst' kk' df' cm' 50 i' ww' i2' _ (find_is ok hfin) 100 (by omega)
  rw [s_find_is]
  simp only [F8, LB, amsV, List.length_map, Int.natCast_zero] at h h2
  simp! [callF, F8, amsV, hl, List.length_map, h, h2]
  cases bestT T (fun S => S.isPrefixOf x.reverse) <;> rfl
end
section
variable {x : List Nat} {c b k p1 p2 d : Nat} {cs : List Nat} {r : List AV}
theorem out_b_end : callF 2 s_out_grouping_b (F8 x 0 b k p1 p2) [.self, .sset cs] = some (.bool false, F8 x 0 b k p1 p2) := by
  have h1 : ((0 : Nat) : Int) ≤ 0 := Int.le_refl 0
  simp! [callF, s_out_grouping_b, F8, h1]
theorem out_b_no (hc : cs.length < 100) (hx : x.length < 1000) (h : x[c]? = some d) (hn : hasS cs d = true) : callF 2 s_out_grouping_b (F8 x (c + 1) b k p1 p2) [.self, .sset cs] = some (.bool false, F8 x (c + 1) b k p1 p2) := by
  have h1 := s_nle c
  have h2 := gIdx_s hx h
  simp! [callF, s_out_grouping_b, F8, h1, h2, gNotIn_set hc, hn]
theorem out_b_yes (hc : cs.length < 100) (hx : x.length < 1000) (h : x[c]? = some d) (hn : hasS cs d = false) : callF 2 s_out_grouping_b (F8 x (c + 1) b k p1 p2) [.self, .sset cs] = some (.bool true, F8 x c b k p1 p2) := by
  have h1 := s_nle c
  have h2 := gIdx_s hx h
  have h3 := s_sub c
  simp! [callF, s_out_grouping_b, F8, h1, h2, gNotIn_set hc, hn]
  rw [h3]
theorem in_b_end : callF 2 s_in_grouping_b (F8 x 0 b k p1 p2) [.self, .sset cs] = some (.bool false, F8 x 0 b k p1 p2) := by
  have h1 : ((0 : Nat) : Int) ≤ 0 := Int.le_refl 0
  simp! [callF, s_in_grouping_b, F8, h1]
theorem in_b_no (hc : cs.length < 100) (hx : x.length < 1000) (h : x[c]? = some d) (hn : hasS cs d = false) : callF 2 s_in_grouping_b (F8 x (c + 1) b k p1 p2) [.self, .sset cs] = some (.bool false, F8 x (c + 1) b k p1 p2) := by
  have h1 := s_nle c
  have h2 := gIdx_s hx h
  simp! [callF, s_in_grouping_b, F8, h1, h2, gNotIn_set hc, hn]
theorem in_b_yes (hc : cs.length < 100) (hx : x.length < 1000) (h : x[c]? = some d) (hn : hasS cs d = true) : callF 2 s_in_grouping_b (F8 x (c + 1) b k p1 p2) [.self, .sset cs] = some (.bool true, F8 x c b k p1 p2) := by
  have h1 := s_nle c
  have h2 := gIdx_s hx h
  have h3 := s_sub c
  simp! [callF, s_in_grouping_b, F8, h1, h2, gNotIn_set hc, hn]
  rw [h3]
noncomputable def gOutBody : SF := (sSeq (sIf (tE (eBin gIn (eBin gIdx (eF 0) (eF 1)) (eL 1))) (sSeq (sRet (eK (.bool true))) sNil) sNil) (sSeq (sAugF gAddI 1 (eK (.int 1))) sNil))
noncomputable def gInBody : SF := (sSeq (sIf (tE (eBin gNotIn (eBin gIdx (eF 0) (eF 1)) (eL 1))) (sSeq (sRet (eK (.bool true))) sNil) sNil) (sSeq (sAugF gAddI 1 (eK (.int 1))) sNil))
noncomputable def gOutBBody : SF := (sSeq (sIf (tE (eBin gIn (eBin gIdx (eF 0) (eBin gSub (eF 1) (eK (.int 1)))) (eL 1))) (sSeq (sRet (eK (.bool true))) sNil) sNil) (sSeq (sAugF gSub 1 (eK (.int 1))) sNil))
noncomputable def nextI (p : Nat → Bool) (x : List Nat) (c : Nat) : Nat := c + ((x.drop c).takeWhile fun d => !p d).length
theorem nextI_stop {p : Nat → Bool} (h : x[c]? = some d) (hp : p d = true) : nextI p x c = c := by
  obtain ⟨hl, he⟩ := List.getElem?_eq_some_iff.mp h
  unfold nextI
  rw [List.drop_eq_getElem_cons hl, he, List.takeWhile_cons, hp]; rfl
theorem nextI_step {p : Nat → Bool} (h : x[c]? = some d) (hp : p d = false) : nextI p x c = nextI p x (c + 1) := by
  obtain ⟨hl, he⟩ := List.getElem?_eq_some_iff.mp h
  unfold nextI
  rw [List.drop_eq_getElem_cons hl, he, List.takeWhile_cons, hp]
  simp; omega
theorem nextI_end {p : Nat → Bool} : nextI p x x.length = x.length := by
  unfold nextI
  rw [List.drop_length]; rfl
theorem nextI_le {p : Nat → Bool} (h : c ≤ x.length) : nextI p x c ≤ x.length := by
  unfold nextI
  have := (List.takeWhile_sublist (fun d => !p d) (l := x.drop c)).length_le
  rw [List.length_drop] at this
  omega
theorem nextI_ge {p : Nat → Bool} : c ≤ nextI p x c := Nat.le_add_right _ _
theorem go_out_loop (hc : cs.length < 100) (hx : x.length < 1000) : ∀ (n c : Nat), c ≤ x.length → x.length - c < n →
    sWhile n (tE (eBin gLt (eF 1) (eF 2))) gOutBody ⟨F8 x c b k p1 p2, [some .self, some (.sset cs)], none⟩ =
      some (if nextI (hasS cs) x c < x.length then (.ret (.bool true)) else .next, ⟨F8 x (nextI (hasS cs) x c) b k p1 p2, [some .self, some (.sset cs)], none⟩)
  | 0, c, _, h => by omega
  | n + 1, c, hl, h => by
    unfold sWhile
    by_cases hc2 : c < x.length
    · obtain ⟨d, hd⟩ : ∃ d, x[c]? = some d := ⟨x[c], List.getElem?_eq_getElem hc2⟩
      have h1 : (c : Int) < x.length := by first | exact iLt ‹_› | omega
      have h2 : gIdx (.str x) (.int (c : Int)) = some (.str [d]) := gIdx_str (Int.natCast_nonneg _) hx (by simpa using hd)
      by_cases hs : hasS cs d = true
      · rw [nextI_stop hd hs, if_pos hc2]
        unfold gOutBody
        simp! [callF, F8, h1, h2, gIn_set hc, hs]
      · have hs : hasS cs d = false := by simpa using hs
        rw [nextI_step hd hs, ← go_out_loop hc hx n (c + 1) hc2 (fuel1 h hc2)]
        unfold gOutBody
        simp! [callF, F8, h1, h2, gIn_set hc, hs]
        rfl
    · have he : c = x.length := by omega
      subst he
      have h1 : ¬ (x.length : Int) < x.length := by first | exact nLt ‹_› | omega
      rw [nextI_end, if_neg (Nat.lt_irrefl _)]
      simp! [callF, F8, h1]
theorem run_go_out (hc : cs.length < 100) (hx : x.length < 90) (hl : c ≤ x.length) : callF 2 s_go_out_grouping (F8 x c b k p1 p2) [.self, .sset cs] =
    some (.bool (decide (nextI (hasS cs) x c < x.length)), F8 x (nextI (hasS cs) x c) b k p1 p2) := by
  have h := go_out_loop (b := b) (k := k) (p1 := p1) (p2 := p2) hc (show x.length < 1000 by first | exact toN ‹_› | exact toN8 ‹_› | omega) 100 c hl (by omega)
  have e : s_go_out_grouping = sSeq (sWhile 100 (tE (eBin gLt (eF 1) (eF 2))) gOutBody) (sSeq (sRet (eK (.bool false))) sNil) := rfl
  by_cases hq : nextI (hasS cs) x c < x.length
  · rw [if_pos hq] at h
    rw [e, decide_eq_true hq]
    simp! [callF, h]
  · rw [if_neg hq] at h
    rw [e, decide_eq_false hq]
    simp! [callF, h]
theorem go_in_loop (hc : cs.length < 100) (hx : x.length < 1000) : ∀ (n c : Nat), c ≤ x.length → x.length - c < n →
    sWhile n (tE (eBin gLt (eF 1) (eF 2))) gInBody ⟨F8 x c b k p1 p2, [some .self, some (.sset cs)], none⟩ =
      some (if nextI (fun d => !hasS cs d) x c < x.length then (.ret (.bool true)) else .next, ⟨F8 x (nextI (fun d => !hasS cs d) x c) b k p1 p2, [some .self, some (.sset cs)], none⟩)
  | 0, c, _, h => by omega
  | n + 1, c, hl, h => by
    unfold sWhile
    by_cases hc2 : c < x.length
    · obtain ⟨d, hd⟩ : ∃ d, x[c]? = some d := ⟨x[c], List.getElem?_eq_getElem hc2⟩
      have h1 : (c : Int) < x.length := by first | exact iLt ‹_› | omega
      have h2 : gIdx (.str x) (.int (c : Int)) = some (.str [d]) := gIdx_str (Int.natCast_nonneg _) hx (by simpa using hd)
      by_cases hs : hasS cs d = true
      · rw [nextI_step hd (by rw [hs]; rfl), ← go_in_loop hc hx n (c + 1) hc2 (fuel1 h hc2)]
        unfold gInBody
        simp! [callF, F8, h1, h2, gNotIn_set hc, hs]
        rfl
      · have hs : hasS cs d = false := by simpa using hs
        rw [nextI_stop hd (by rw [hs]; rfl), if_pos hc2]
        unfold gInBody
        simp! [callF, F8, h1, h2, gNotIn_set hc, hs]
    · have he : c = x.length := by omega
      subst he
      have h1 : ¬ (x.length : Int) < x.length := by first | exact nLt ‹_› | omega
      rw [nextI_end, if_neg (Nat.lt_irrefl _)]
      simp! [callF, F8, h1]
theorem run_go_in (hc : cs.length < 100) (hx : x.length < 90) (hl : c ≤ x.length) : callF 2 s_go_in_grouping (F8 x c b k p1 p2) [.self, .sset cs] =
    some (.bool (decide (nextI (fun d => !hasS cs d) x c < x.length)), F8 x (nextI (fun d => !hasS cs d) x c) b k p1 p2) := by
  have h := go_in_loop (b := b) (k := k) (p1 := p1) (p2 := p2) hc (show x.length < 1000 by first | exact toN ‹_› | exact toN8 ‹_› | omega) 100 c hl (by omega)
  have e : s_go_in_grouping = sSeq (sWhile 100 (tE (eBin gLt (eF 1) (eF 2))) gInBody) (sSeq (sRet (eK (.bool false))) sNil) := rfl
  by_cases hq : nextI (fun d => !hasS cs d) x c < x.length
  · rw [if_pos hq] at h
    rw [e, decide_eq_true hq]
    simp! [callF, h]
  · rw [if_neg hq] at h
    rw [e, decide_eq_false hq]
    simp! [callF, h]
theorem go_out_b_loop (hc : cs.length < 100) (hx : x.length < 1000) : ∀ (n c : Nat), c ≤ x.length → c < n → ∃ c', c' ≤ c ∧ (((x.take c).any (hasS cs) = true) → 0 < c') ∧
    sWhile n (tE (eBin gGt (eF 1) (eF 3))) gOutBBody ⟨F8 x c b k p1 p2, [some .self, some (.sset cs)], none⟩ =
      some (if (x.take c).any (hasS cs) then (.ret (.bool true)) else .next, ⟨F8 x c' b k p1 p2, [some .self, some (.sset cs)], none⟩)
  | 0, c, _, h => by omega
  | n + 1, 0, hl, h => by
    refine ⟨0, Nat.le_refl _, (fun q => by simp at q), ?_⟩
    have h1 : ¬ (0 : Int) < ((0 : Nat) : Int) := by first | exact nLt ‹_› | omega
    unfold sWhile
    simp! [callF, F8, h1, List.take_zero, List.any_nil]
  | n + 1, c + 1, hl, h => by
    obtain ⟨d, hd⟩ : ∃ d, x[c]? = some d := ⟨x[c], List.getElem?_eq_getElem (by omega)⟩
    have h1 : (0 : Int) < ((c + 1 : Nat) : Int) := by first | exact iLt ‹_› | omega
    have h2 : gIdx (.str x) (.int (((c + 1 : Nat) : Int) - 1)) = some (.str [d]) := gIdx_s hx hd
    have h3 := s_sub c
    have ht : x.take (c + 1) = x.take c ++ [d] := by rw [List.take_add_one, hd]; rfl
    unfold sWhile
    by_cases hs : hasS cs d = true
    · refine ⟨c + 1, Nat.le_refl _, fun _ => Nat.succ_pos _, ?_⟩
      have ha : (x.take (c + 1)).any (hasS cs) = true := by rw [ht, List.any_append]; simp [hs]
      rw [ha]
      unfold gOutBBody
      simp! [callF, F8, h1, h2, gIn_set hc, hs]
    · have hs : hasS cs d = false := by simpa using hs
      obtain ⟨c', hc', hpos, ih⟩ := go_out_b_loop hc hx n c (by omega) (by omega)
      have ha : (x.take (c + 1)).any (hasS cs) = (x.take c).any (hasS cs) := by rw [ht, List.any_append]; simp [hs]
      refine ⟨c', by omega, fun q => hpos (ha ▸ q), ?_⟩
      rw [ha, ← ih]
      unfold gOutBBody
      simp! [callF, F8, h1, h2, gIn_set hc, hs]
      rw [h3]
theorem run_go_out_b (hc : cs.length < 100) (hx : x.length < 90) (hl : c ≤ x.length) : ∃ c', c' ≤ c ∧ (((x.take c).any (hasS cs) = true) → 0 < c') ∧ callF 2 s_go_out_grouping_b (F8 x c b k p1 p2) [.self, .sset cs] =
    some (.bool ((x.take c).any (hasS cs)), F8 x c' b k p1 p2) := by
  obtain ⟨c', h1, h2, h⟩ := go_out_b_loop (b := b) (k := k) (p1 := p1) (p2 := p2) hc (show x.length < 1000 by first | exact toN ‹_› | exact toN8 ‹_› | omega) 100 c hl (by omega)
  refine ⟨c', h1, h2, ?_⟩
  have e : s_go_out_grouping_b = sSeq (sWhile 100 (tE (eBin gGt (eF 1) (eF 3))) gOutBBody) (sSeq (sRet (eK (.bool false))) sNil) := rfl
  by_cases hq : (x.take c).any (hasS cs) = true
  · rw [hq, if_pos rfl] at h
    rw [e, hq]
    simp! [callF, h]
  · have hq : (x.take c).any (hasS cs) = false := by simpa using hq
    rw [hq, if_neg (by decide)] at h
    rw [e, hq]
    simp! [callF, h]
theorem eSliceSS_is {f g h : EF} {st : St} {x : List Nat} {j : Nat} (hf : f st = some (.str x, st)) (hg : g st = some (.int 0, st)) (hh : h st = some (.int j, st)) (hj : j ≤ x.length) (hx : x.length < 1000) : eSliceSS f g h st = some (.str (x.take j), st) := by
  unfold eSliceSS
  rw [hf]; simp only [Option.bind_some]; rw [hg]; simp only [Option.bind_some]; rw [hh]; simp only [Option.bind_some]
  rw [if_pos ⟨by omega, by omega, by omega, hx⟩]
  simp
theorem eSliceSN_is {f h : EF} {st : St} {x : List Nat} {j : Nat} (hf : f st = some (.str x, st)) (hh : h st = some (.int j, st)) (hj : j ≤ x.length) (hx : x.length < 1000) : eSliceSN f h st = some (.str (x.drop j), st) := by
  unfold eSliceSN
  rw [hf]; simp only [Option.bind_some]; rw [hh]; simp only [Option.bind_some]
  rw [if_pos ⟨by omega, by omega, hx⟩]
  simp
noncomputable def newC (c b k n : Nat) : Nat := if k ≤ c then c + n - (k - b) else if b < c then b else c
theorem rp_2 (hx : x.length < 90) {s : List Nat} (hs : s.length < 90) (cb : Nat) : (x.take cb).length + s.length ≤ 1000 := by
  have := List.length_take_le' cb x; omega
theorem rp_3 (hx : x.length < 90) {s : List Nat} (hs : s.length < 90) (cb ck : Nat) : (x.take cb).length + s.length + (x.drop ck).length ≤ 1000 := by
  have h := List.length_take_le' cb x
  have : (x.drop ck).length ≤ x.length := List.length_drop ▸ Nat.sub_le _ _
  omega
theorem rp_4 {s : List Nat} {cb ck : Nat} (h1 : cb ≤ ck) (h2 : ck ≤ x.length) : (x.length : Int) + ((s.length : Int) - ((ck : Int) - cb)) = (((x.take cb).length + s.length + (x.drop ck).length : Nat) : Int) := by
  rw [List.length_take_of_le (Nat.le_trans h1 h2), List.length_drop]; omega
theorem rp_5 {c s cb ck : Nat} (h1 : cb ≤ ck) (h3 : (ck : Int) ≤ c) : (c : Int) + ((s : Int) - ((ck : Int) - cb)) = ((c + s - (ck - cb) : Nat) : Int) := by
  rw [Int.natCast_sub (Nat.le_trans (Nat.sub_le _ _) (Nat.le_trans (Int.ofNat_le.mp h3) (Nat.le_add_right _ _))), Int.natCast_sub h1, Int.natCast_add, Int.add_sub_assoc]
theorem repG {s : List Nat} {cb ck : Nat} (hx : x.length < 90) (hs : s.length < 90) (h1 : cb ≤ ck) (h2 : ck ≤ x.length) :
    callF 5 s_replace_s (FG r x c b k) [.self, .int cb, .int ck, .str s] = some (.int ((s.length : Int) - ((ck : Int) - cb)), FG r (x.take cb ++ s ++ x.drop ck) (newC c cb ck s.length) b k) := by
  have a1 := toN hs
  have a2 := rp_2 hx hs cb
  have a3 := rp_3 hx hs cb ck
  have a4 := rp_4 (s := s) h1 h2
  have b1 : eSliceSS (eF 0) (eK (.int 0)) (eL 1) ⟨FG r x c b k, [some .self, some (.int cb), some (.int ck), some (.str s), some (.int ((s.length : Int) - ((ck : Int) - cb)))], none⟩ = some (.str (x.take cb), ⟨FG r x c b k, [some .self, some (.int cb), some (.int ck), some (.str s), some (.int ((s.length : Int) - ((ck : Int) - cb)))], none⟩) := eSliceSS_is rfl rfl rfl (Nat.le_trans h1 h2) (toN hx)
  have b2 : eSliceSN (eF 0) (eL 2) ⟨FG r x c b k, [some .self, some (.int cb), some (.int ck), some (.str s), some (.int ((s.length : Int) - ((ck : Int) - cb)))], none⟩ = some (.str (x.drop ck), ⟨FG r x c b k, [some .self, some (.int cb), some (.int ck), some (.str s), some (.int ((s.length : Int) - ((ck : Int) - cb)))], none⟩) := eSliceSN_is rfl rfl h2 (toN hx)
  unfold FG at b1 b2
  by_cases h3 : (ck : Int) ≤ c
  · have hn : newC c cb ck s.length = c + s.length - (ck - cb) := if_pos (Int.ofNat_le.mp h3)
    simp! [callF, s_replace_s, FG, a1, b1, b2, a2, a3, h3, hn]
    rw [rp_5 h1 h3, a4]
  · by_cases h4 : (cb : Int) < c
    · have hn : newC c cb ck s.length = cb := (if_neg fun q => h3 (Int.ofNat_le.mpr q)).trans (if_pos (Int.ofNat_lt.mp h4))
      simp! [callF, s_replace_s, FG, a1, b1, b2, a2, a3, h3, h4, hn]
      rw [a4]
    · have hn : newC c cb ck s.length = c := (if_neg fun q => h3 (Int.ofNat_le.mpr q)).trans (if_neg fun q => h4 (Int.ofNat_lt.mpr q))
      simp! [callF, s_replace_s, FG, a1, b1, b2, a2, a3, h3, h4, hn]
      rw [a4]
theorem sliG {s : List Nat} (hx : x.length < 90) (hs : s.length < 90) (h1 : b ≤ k) (h2 : k ≤ x.length) :
    callF 2 s_slice_from (FG r x c b k) [.self, .str s] = some (.none, FG r (x.take b ++ s ++ x.drop k) (newC c b k s.length) b (b + s.length)) := by
  have q := repG (r := r) (c := c) (b := b) (k := k) hx hs h1 h2
  have a0 : (0 : Int) ≤ b := Int.natCast_nonneg b
  have a1 : (b : Int) ≤ k := Int.ofNat_le.mpr h1
  have a2 : (k : Int) ≤ x.length := Int.ofNat_le.mpr h2
  have a3 : (x.length : Int) ≤ x.length := Int.le_refl _
  have a4 := toN hx
  have a5 := toN hs
  have a6 : (b : Int) + s.length = ((b + s.length : Nat) : Int) := rfl
  unfold callF
  unfold FG at q ⊢
  simp! [s_slice_from, a0, a1, a2, a3, a4, a5, a6, q]
theorem run_replace {s : List Nat} {cb ck : Nat} (hx : x.length < 90) (hs : s.length < 90) (h1 : cb ≤ ck) (h2 : ck ≤ x.length) (hc : c ≤ x.length) :
    callF 5 s_replace_s (F8 x c b k p1 p2) [.self, .int cb, .int ck, .str s] = some (.int ((s.length : Int) - ((ck : Int) - cb)), F8 (x.take cb ++ s ++ x.drop ck) (newC c cb ck s.length) b k p1 p2) := repG (r := [.int p1, .int p2]) hx hs h1 h2
theorem run_slice_from {s : List Nat} (hx : x.length < 90) (hs : s.length < 90) (h1 : b ≤ k) (h2 : k ≤ x.length) (hc : c ≤ x.length) :
    callF 2 s_slice_from (F8 x c b k p1 p2) [.self, .str s] = some (.none, F8 (x.take b ++ s ++ x.drop k) (newC c b k s.length) b (b + s.length) p1 p2) := sliG (r := [.int p1, .int p2]) hx hs h1 h2
end
section
variable {x : List Nat} {c b k p1 p2 d : Nat} {cs : List Nat}
theorem run_slice_del (hx : x.length < 90) (h1 : b ≤ k) (h2 : k ≤ x.length) (hc : c ≤ x.length) :
    callF 1 s_slice_del (F8 x c b k p1 p2) [.self] = some (.none, F8 (x.take b ++ x.drop k) (newC c b k 0) b b p1 p2) := by
  have r := run_slice_from (s := []) (p1 := p1) (p2 := p2) hx (by simp) h1 h2 hc
  rw [List.append_nil] at r
  unfold callF
  unfold F8 at r ⊢
  simp! [s_slice_del, r]
  rfl
theorem run_insert (hx : x.length < 80) : callF 5 s_insert (F8 x x.length x.length x.length p1 p2) [.self, .int x.length, .int x.length, .str [101]] = some (.none, F8 (x ++ [101]) (x.length + 1) (x.length + 1) (x.length + 1) p1 p2) := by
  have r := run_replace (s := [101]) (c := x.length) (b := x.length) (k := x.length) (p1 := p1) (p2 := p2) (cb := x.length) (ck := x.length) (by omega) (by simp) (Nat.le_refl _) (Nat.le_refl _) (Nat.le_refl _)
  have hn : newC x.length x.length x.length [101].length = x.length + 1 := by unfold newC; rw [if_pos (Nat.le_refl _)]; simp
  rw [hn, List.take_length, List.drop_length, List.append_nil] at r
  have a1 : (x.length : Int) ≤ x.length := Int.le_refl _
  have a2 : (([101] : List Nat).length : Int) - ((x.length : Int) - x.length) = 1 := by simp
  rw [a2] at r
  unfold callF
  unfold F8 at r ⊢
  simp! [s_insert, r, a1]
  rfl
theorem run_R1 : callF 1 s_r_R1 (F8 x c b k p1 p2) [.self] = some (.bool (decide ((p1 : Int) ≤ c)), F8 x c b k p1 p2) := by
  simp! [callF, s_r_R1, F8]
theorem run_R2 : callF 1 s_r_R2 (F8 x c b k p1 p2) [.self] = some (.bool (decide ((p2 : Int) ≤ c)), F8 x c b k p1 p2) := by
  simp! [callF, s_r_R2, F8]
noncomputable def shortP : List Nat → Bool
  | [] => false
  | a :: r => if hasS vowelsW a then false else match r with
    | [] => false
    | e :: r' => if hasS vowelsG e then (match r' with
      | [] => false
      | d :: _ => !hasS vowelsG d) else false
theorem take_rev (h : x[c]? = some d) : (x.take (c + 1)).reverse = d :: (x.take c).reverse := by
  rw [List.take_add_one, h, List.reverse_append]; rfl
theorem get_of {c : Nat} (h : c < x.length) : ∃ d, x[c]? = some d := ⟨x[c], List.getElem?_eq_getElem h⟩
theorem run_shortv (hx : x.length < 90) (hl : c ≤ x.length) : ∃ c', c' ≤ c ∧ callF 1 s_r_shortv (F8 x c b k p1 p2) [.self] = some (.bool (shortP (x.take c).reverse), F8 x c' b k p1 p2) := by
  have hx' : x.length < 1000 := by first | exact toN ‹_› | exact toN8 ‹_› | omega
  unfold callF
  match c, hl with
  | 0, _ =>
    refine ⟨0, Nat.le_refl _, ?_⟩
    have r := out_b_end (x := x) (b := b) (k := k) (p1 := p1) (p2 := p2) (cs := vowelsW)
    rw [show (x.take 0).reverse = [] from rfl]
    unfold F8 at r ⊢
    simp! [s_r_shortv, r, shortP]
  | c + 1, hl =>
    obtain ⟨d, hd⟩ := get_of (x := x) (c := c) (by omega)
    rw [take_rev hd]
    by_cases hs : hasS vowelsW d = true
    · refine ⟨c + 1, Nat.le_refl _, ?_⟩
      have r := out_b_no (b := b) (k := k) (p1 := p1) (p2 := p2) lenW hx' hd hs
      unfold F8 at r ⊢
      simp! [s_r_shortv, r, shortP, hs]
    · have hs : hasS vowelsW d = false := by simpa using hs
      have r := out_b_yes (b := b) (k := k) (p1 := p1) (p2 := p2) lenW hx' hd hs
      match c, hd, r, hl with
      | 0, hd, r, hl =>
        refine ⟨0, Nat.zero_le _, ?_⟩
        have r2 := in_b_end (x := x) (b := b) (k := k) (p1 := p1) (p2 := p2) (cs := vowelsG)
        rw [show (x.take 0).reverse = [] from rfl]
        unfold F8 at r r2 ⊢
        simp! [s_r_shortv, r, r2, shortP, hs]
      | c + 1, hd, r, hl =>
        obtain ⟨e, he⟩ := get_of (x := x) (c := c) (by omega)
        rw [take_rev he]
        by_cases hs2 : hasS vowelsG e = true
        · have r2 := in_b_yes (b := b) (k := k) (p1 := p1) (p2 := p2) lenG hx' he hs2
          match c, he, r, r2, hl with
          | 0, he, r, r2, hl =>
            refine ⟨0, Nat.zero_le _, ?_⟩
            have r3 := out_b_end (x := x) (b := b) (k := k) (p1 := p1) (p2 := p2) (cs := vowelsG)
            rw [show (x.take 0).reverse = [] from rfl]
            unfold F8 at r r2 r3 ⊢
            simp! [s_r_shortv, r, r2, r3, shortP, hs, hs2]
          | c + 1, he, r, r2, hl =>
            obtain ⟨g, hg⟩ := get_of (x := x) (c := c) (by omega)
            rw [take_rev hg]
            by_cases hs3 : hasS vowelsG g = true
            · refine ⟨c + 1, by omega, ?_⟩
              have r3 := out_b_no (b := b) (k := k) (p1 := p1) (p2 := p2) lenG hx' hg hs3
              unfold F8 at r r2 r3 ⊢
              simp! [s_r_shortv, r, r2, r3, shortP, hs, hs2, hs3]
            · have hs3 : hasS vowelsG g = false := by simpa using hs3
              refine ⟨c, by omega, ?_⟩
              have r3 := out_b_yes (b := b) (k := k) (p1 := p1) (p2 := p2) lenG hx' hg hs3
              unfold F8 at r r2 r3 ⊢
              simp! [s_r_shortv, r, r2, r3, shortP, hs, hs2, hs3]
        · have hs2 : hasS vowelsG e = false := by simpa using hs2
          refine ⟨c + 1, by omega, ?_⟩
          have r2 := in_b_no (b := b) (k := k) (p1 := p1) (p2 := p2) lenG hx' he hs2
          unfold F8 at r r2 ⊢
          simp! [s_r_shortv, r, r2, shortP, hs, hs2]
noncomputable abbrev preB (x : List Nat) : List Nat → Bool := fun S => S.isPrefixOf x.reverse
theorem bestT_mem {T : List Ent} {p : List Nat → Bool} {e : Ent} (h : bestT T p = some e) : e ∈ T ∧ p e.1.reverse = true := by
  unfold bestT at h
  have : ∀ (T : List Ent) (acc : Option Ent), T.foldl (fun acc e => if p e.1.reverse && longer acc e then some e else acc) acc = some e → acc = some e ∨ (e ∈ T ∧ p e.1.reverse = true) := by
    intro T
    induction T with
    | nil => intro acc h; exact .inl h
    | cons t T ih =>
      intro acc h
      rw [List.foldl_cons] at h
      rcases ih _ h with q | ⟨q1, q2⟩
      · by_cases hc : (p t.1.reverse && longer acc t) = true
        · rw [if_pos hc] at q
          cases q
          rw [Bool.and_eq_true] at hc
          exact .inr ⟨.head _, hc.1⟩
        · rw [if_neg hc] at q
          exact .inl q
      · exact .inr ⟨.tail _ q1, q2⟩
  rcases this T none h with q | q
  · cases q
  · exact q
theorem best_suffix {T : List Ent} {e : Ent} (h : bestT T (preB x) = some e) : e ∈ T ∧ e.1 <:+ x := by
  obtain ⟨h1, h2⟩ := bestT_mem h
  exact ⟨h1, List.reverse_prefix.mp (List.isPrefixOf_iff_prefix.mp h2)⟩
noncomputable def cut (x : List Nat) (e : Ent) : List Nat := x.take (x.length - e.1.length)
theorem run_find_none (hx : x.length < 1000) {T : List Ent} (ok : TableOk T) (h : bestT T (preB x) = none) : callF 14 s_find_among_b (F8 x x.length b k p1 p2) [.self, amsV T] = some (.int 0, F8 x x.length b k p1 p2) := by
  rw [run_find hx ok, show (bestT T fun S => S.isPrefixOf x.reverse) = none from h]
theorem run_find_some (hx : x.length < 1000) {T : List Ent} (ok : TableOk T) {e : Ent} (h : bestT T (preB x) = some e) : callF 14 s_find_among_b (F8 x x.length b k p1 p2) [.self, amsV T] = some (.int e.2.2, F8 x (x.length - e.1.length) b k p1 p2) := by
  have := (best_suffix h).2.length_le
  rw [run_find hx ok, show (bestT T fun S => S.isPrefixOf x.reverse) = some e from h]
  dsimp only
  rw [show (x.length : Int) - e.1.length = ((x.length - e.1.length : Nat) : Int) by omega]
  rfl
noncomputable def repl (V : AV) (res : Int) : List Nat := match gIdx V (.int (res - 1)) with | some (.str s) => s | _ => []
theorem as0_ok : ∀ e ∈ T_a_0, 0 < e.2.2 → gIdx v_as_0 (.int (e.2.2 - 1)) = some (.str (repl v_as_0 e.2.2)) ∧ (repl v_as_0 e.2.2).length < 90 := by
  simp only [T_a_0, List.forall_mem_cons]
  refine ⟨fun _ => ⟨rfl, by decide⟩, fun _ => ⟨rfl, by decide⟩, fun _ => ⟨rfl, by decide⟩, fun h => absurd h (by decide), fun _ h => nomatch h⟩
theorem as4_ok : ∀ e ∈ T_a_4, gIdx v_as_4 (.int (e.2.2 - 1)) = some (.str (repl v_as_4 e.2.2)) ∧ (repl v_as_4 e.2.2).length < 90 := by
  simp only [T_a_4, List.forall_mem_cons]
  repeat' (first | exact fun _ h => nomatch h | (refine ⟨⟨rfl, by decide⟩, ?_⟩))
theorem as3_ok : ∀ e ∈ T_a_3, gIdx v_as_3 (.int (e.2.2 - 1)) = some (.str (repl v_as_3 e.2.2)) ∧ (repl v_as_3 e.2.2).length < 90 := by
  simp only [T_a_3, List.forall_mem_cons]
  repeat' (first | exact fun _ h => nomatch h | (refine ⟨⟨rfl, by decide⟩, ?_⟩))
theorem a3_res : ∀ e ∈ T_a_3, e.2.2 ≠ 0 := by decide
theorem a4_res : ∀ e ∈ T_a_4, e.2.2 ≠ 0 := by decide
theorem a5_res : ∀ e ∈ T_a_5, e.2.2 ≠ 0 := by decide
theorem a0_res : ∀ e ∈ T_a_0, e.2.2 ≠ 0 := by decide
theorem a2_res : ∀ e ∈ T_a_2, e.2.2 ≠ 0 := by decide
noncomputable def StepOk (n : Nat) (s : SF) (p1 p2 : Nat) (x x' : List Nat) : Prop := ∀ b k : Nat, ∃ v c' b' k', callF n s (F8 x x.length b k p1 p2) [.self] = some (v, F8 x' c' b' k' p1 p2)
noncomputable def step1a (x : List Nat) : List Nat := match bestT T_a_0 (preB x) with
  | none => x
  | some e => if 0 < e.2.2 then cut x e ++ repl v_as_0 e.2.2 else x
theorem run_1a (hx : x.length < 90) : StepOk 2 s_r_Step_1a p1 p2 x (step1a x) := by
  intro b k
  have hx' : x.length < 1000 := by first | exact toN ‹_› | exact toN8 ‹_› | omega
  unfold step1a
  cases h : bestT T_a_0 (preB x) with
  | none =>
    have r : callF 14 s_find_among_b (F8 x x.length b x.length p1 p2) [.self, v_a_0] = _ := run_find_none hx' ok_a_0 h
    refine ⟨.bool false, x.length, b, x.length, ?_⟩
    unfold callF
    unfold F8 at r ⊢
    simp! [s_r_Step_1a, r]
  | some e =>
    obtain ⟨hm, hsf⟩ := best_suffix h
    have hle := hsf.length_le
    have r : callF 14 s_find_among_b (F8 x x.length b x.length p1 p2) [.self, v_a_0] = _ := run_find_some hx' ok_a_0 h
    have h0 := a0_res e hm
    dsimp only
    by_cases hp : 0 < e.2.2
    · obtain ⟨g1, g2⟩ := as0_ok e hm hp
      have r2 := run_slice_from (c := x.length - e.1.length) (b := x.length - e.1.length) (k := x.length) (p1 := p1) (p2 := p2) hx g2 (by omega) (Nat.le_refl _) (by omega)
      rw [List.drop_length, List.append_nil] at r2
      rw [if_pos hp]
      refine ⟨.bool true, newC (x.length - e.1.length) (x.length - e.1.length) x.length (repl v_as_0 e.2.2).length, x.length - e.1.length, (x.length - e.1.length) + (repl v_as_0 e.2.2).length, ?_⟩
      unfold callF cut
      unfold F8 at r r2 ⊢
      simp only [List.length_append] at r2
      simp! [s_r_Step_1a, r, h0, hp, g1, r2]
    · rw [if_neg hp]
      refine ⟨.bool true, x.length - e.1.length, x.length - e.1.length, x.length, ?_⟩
      unfold callF
      unfold F8 at r ⊢
      simp! [s_r_Step_1a, r, h0, hp]
noncomputable def step2 (p1 : Nat) (x : List Nat) : List Nat := match bestT T_a_3 (preB x) with
  | none => x
  | some e => if p1 ≤ x.length - e.1.length then cut x e ++ repl v_as_3 e.2.2 else x
theorem run_2 (hx : x.length < 90) : StepOk 2 s_r_Step_2 p1 p2 x (step2 p1 x) := by
  intro b k
  have hx' : x.length < 1000 := by first | exact toN ‹_› | exact toN8 ‹_› | omega
  unfold step2
  cases h : bestT T_a_3 (preB x) with
  | none =>
    have r : callF 14 s_find_among_b (F8 x x.length b x.length p1 p2) [.self, v_a_3] = _ := run_find_none hx' ok_a_3 h
    refine ⟨.bool false, x.length, b, x.length, ?_⟩
    unfold callF
    unfold F8 at r ⊢
    simp! [s_r_Step_2, r]
  | some e =>
    obtain ⟨hm, hsf⟩ := best_suffix h
    have hle := hsf.length_le
    have r : callF 14 s_find_among_b (F8 x x.length b x.length p1 p2) [.self, v_a_3] = _ := run_find_some hx' ok_a_3 h
    have h0 := a3_res e hm
    have r1 := run_R1 (x := x) (c := x.length - e.1.length) (b := x.length - e.1.length) (k := x.length) (p1 := p1) (p2 := p2)
    dsimp only
    by_cases hp : p1 ≤ x.length - e.1.length
    · obtain ⟨g1, g2⟩ := as3_ok e hm
      have hp' : (p1 : Int) ≤ ((x.length - e.1.length : Nat) : Int) := by first | exact iLe ‹_› | omega
      have r2 := run_slice_from (c := x.length - e.1.length) (b := x.length - e.1.length) (k := x.length) (p1 := p1) (p2 := p2) hx g2 (by omega) (Nat.le_refl _) (by omega)
      rw [List.drop_length, List.append_nil] at r2
      rw [if_pos hp]
      refine ⟨.bool true, newC (x.length - e.1.length) (x.length - e.1.length) x.length (repl v_as_3 e.2.2).length, x.length - e.1.length, (x.length - e.1.length) + (repl v_as_3 e.2.2).length, ?_⟩
      unfold callF cut
      unfold F8 at r r1 r2 ⊢
      simp only [List.length_append] at r2
      simp! [s_r_Step_2, r, h0, r1, hp', g1, r2]
    · have hp' : ¬ (p1 : Int) ≤ ((x.length - e.1.length : Nat) : Int) := by first | exact nLe ‹_› | omega
      rw [if_neg hp]
      refine ⟨.bool false, x.length - e.1.length, x.length - e.1.length, x.length, ?_⟩
      unfold callF
      unfold F8 at r r1 ⊢
      simp! [s_r_Step_2, r, h0, r1, hp']
noncomputable def step3 (p1 : Nat) (x : List Nat) : List Nat := match bestT T_a_4 (preB x) with
  | none => x
  | some e => if p1 ≤ x.length - e.1.length then cut x e ++ repl v_as_4 e.2.2 else x
theorem run_3 (hx : x.length < 90) : StepOk 2 s_r_Step_3 p1 p2 x (step3 p1 x) := by
  intro b k
  have hx' : x.length < 1000 := by first | exact toN ‹_› | exact toN8 ‹_› | omega
  unfold step3
  cases h : bestT T_a_4 (preB x) with
  | none =>
    have r : callF 14 s_find_among_b (F8 x x.length b x.length p1 p2) [.self, v_a_4] = _ := run_find_none hx' ok_a_4 h
    refine ⟨.bool false, x.length, b, x.length, ?_⟩
    unfold callF
    unfold F8 at r ⊢
    simp! [s_r_Step_3, r]
  | some e =>
    obtain ⟨hm, hsf⟩ := best_suffix h
    have hle := hsf.length_le
    have r : callF 14 s_find_among_b (F8 x x.length b x.length p1 p2) [.self, v_a_4] = _ := run_find_some hx' ok_a_4 h
    have h0 := a4_res e hm
    have r1 := run_R1 (x := x) (c := x.length - e.1.length) (b := x.length - e.1.length) (k := x.length) (p1 := p1) (p2 := p2)
    dsimp only
    by_cases hp : p1 ≤ x.length - e.1.length
    · obtain ⟨g1, g2⟩ := as4_ok e hm
      have hp' : (p1 : Int) ≤ ((x.length - e.1.length : Nat) : Int) := by first | exact iLe ‹_› | omega
      have r2 := run_slice_from (c := x.length - e.1.length) (b := x.length - e.1.length) (k := x.length) (p1 := p1) (p2 := p2) hx g2 (by omega) (Nat.le_refl _) (by omega)
      rw [List.drop_length, List.append_nil] at r2
      rw [if_pos hp]
      refine ⟨.bool true, newC (x.length - e.1.length) (x.length - e.1.length) x.length (repl v_as_4 e.2.2).length, x.length - e.1.length, (x.length - e.1.length) + (repl v_as_4 e.2.2).length, ?_⟩
      unfold callF cut
      unfold F8 at r r1 r2 ⊢
      simp only [List.length_append] at r2
      simp! [s_r_Step_3, r, h0, r1, hp', g1, r2]
    · have hp' : ¬ (p1 : Int) ≤ ((x.length - e.1.length : Nat) : Int) := by first | exact nLe ‹_› | omega
      rw [if_neg hp]
      refine ⟨.bool false, x.length - e.1.length, x.length - e.1.length, x.length, ?_⟩
      unfold callF
      unfold F8 at r r1 ⊢
      simp! [s_r_Step_3, r, h0, r1, hp']
end
section
variable {x y : List Nat} {c b k p1 p2 d : Nat} {cs : List Nat}
theorem newC_self {bl L : Nat} (h : bl ≤ L) : newC bl bl L 0 = bl := by
  unfold newC
  split
  · omega
  · rw [if_neg (Nat.lt_irrefl _)]
theorem run_del_end (hx : x.length < 90) (hc : c ≤ y.length) (hy : x.take y.length = y) (hl : y.length ≤ x.length) :
    callF 1 s_slice_del (F8 x c y.length x.length p1 p2) [.self] = some (.none, F8 y (newC c y.length x.length 0) y.length y.length p1 p2) := by
  have r := run_slice_del (c := c) (b := y.length) (k := x.length) (p1 := p1) (p2 := p2) hx hl (Nat.le_refl _) (by omega)
  rw [List.drop_length, List.append_nil, hy] at r
  exact r
theorem a1_some : ∃ e, bestT T_a_1 (preB y) = some e := by
  cases h : bestT T_a_1 (preB y) with
  | some e => exact ⟨e, rfl⟩
  | none =>
    exfalso
    have : ∀ (T : List Ent) (p : List Nat → Bool) (acc : Option Ent), acc ≠ none → T.foldl (fun acc e => if p e.1.reverse && longer acc e then some e else acc) acc ≠ none := by
      intro T p
      induction T with
      | nil => intro acc h; exact h
      | cons t T ih =>
        intro acc h
        rw [List.foldl_cons]
        apply ih
        split
        · simp
        · exact h
    unfold bestT T_a_1 at h
    rw [List.foldl_cons] at h
    refine this _ _ _ ?_ h
    simp [longer]
noncomputable def post1b (p1 : Nat) (y : List Nat) : List Nat := match bestT T_a_1 (preB y) with
  | none => y
  | some e => if e.2.2 = 1 then y ++ [101] else if e.2.2 = 2 then y.take (y.length - 1) else if y.length = p1 ∧ shortP y.reverse = true then y ++ [101] else y
noncomputable def step1b (p1 : Nat) (x : List Nat) : List Nat := match bestT T_a_2 (preB x) with
  | none => x
  | some e => if e.2.2 = 1 then (if p1 ≤ x.length - e.1.length then cut x e ++ [101, 101] else x) else if (cut x e).any (hasS vowelsG) then post1b p1 (cut x e) else x
theorem a1_two : ∀ e ∈ T_a_1, e.2.2 = 2 → 0 < e.1.length := by decide
theorem run_1b (hx : x.length < 80) : StepOk 6 s_r_Step_1b p1 p2 x (step1b p1 x) := by
  intro b k
  have hx' : x.length < 1000 := by first | exact toN ‹_› | exact toN8 ‹_› | omega
  have hx9 : x.length < 90 := by omega
  unfold step1b
  cases h : bestT T_a_2 (preB x) with
  | none =>
    have r : callF 14 s_find_among_b (F8 x x.length b x.length p1 p2) [.self, v_a_2] = _ := run_find_none hx' ok_a_2 h
    refine ⟨.bool false, x.length, b, x.length, ?_⟩
    unfold callF
    unfold F8 at r ⊢
    simp! [s_r_Step_1b, r]
  | some e =>
    obtain ⟨hm, hsf⟩ := best_suffix h
    have hle := hsf.length_le
    have r : callF 14 s_find_among_b (F8 x x.length b x.length p1 p2) [.self, v_a_2] = _ := run_find_some hx' ok_a_2 h
    have h0 := a2_res e hm
    dsimp only
    have hyl : (cut x e).length = x.length - e.1.length := takL _ _
    have hyt : x.take (cut x e).length = cut x e := by rw [hyl]; rfl
    rw [← hyl] at r ⊢
    generalize cut x e = y at *
    have hyx : y.length ≤ x.length := by omega
    have h10 : ¬ (1 : Int) = 0 := by decide
    by_cases h1 : e.2.2 = 1
    · rw [if_pos h1]
      have r1 := run_R1 (x := x) (c := y.length) (b := y.length) (k := x.length) (p1 := p1) (p2 := p2)
      by_cases hp : p1 ≤ y.length
      · have hp' : (p1 : Int) ≤ (y.length : Int) := by first | exact iLe ‹_› | omega
        have r2 := run_slice_from (s := [101, 101]) (c := y.length) (b := y.length) (k := x.length) (p1 := p1) (p2 := p2) hx9 (by simp) hyx (Nat.le_refl _) hyx
        rw [List.drop_length, List.append_nil, hyt] at r2
        rw [if_pos hp]
        refine ⟨.bool true, newC y.length y.length x.length [101, 101].length, y.length, y.length + [101, 101].length, ?_⟩
        unfold callF
        unfold F8 at r r1 r2 ⊢
        simp only [List.length_append, List.length_cons, List.length_nil] at r2
        simp! [s_r_Step_1b, r, h1, h10, r1, hp', r2]
      · have hp' : ¬ (p1 : Int) ≤ (y.length : Int) := by first | exact nLe ‹_› | omega
        rw [if_neg hp]
        refine ⟨.bool false, y.length, y.length, x.length, ?_⟩
        unfold callF
        unfold F8 at r r1 ⊢
        simp! [s_r_Step_1b, r, h1, h10, r1, hp']
    · rw [if_neg h1]
      obtain ⟨c', hc', hpos, rg⟩ := run_go_out_b (x := x) (c := y.length) (b := y.length) (k := x.length) (p1 := p1) (p2 := p2) lenG hx9 hyx
      rw [hyt] at rg hpos
      by_cases ha : y.any (hasS vowelsG) = true
      · rw [ha] at rg
        rw [if_pos ha]
        have a1 : (x.length : Int) - ((x.length : Int) - (y.length : Int)) = (y.length : Int) := by omega
        have rd := run_del_end (c := y.length) (p1 := p1) (p2 := p2) hx9 (Nat.le_refl _) hyt hyx
        rw [newC_self hyx] at rd
        obtain ⟨e1, hb1⟩ := a1_some (y := y)
        obtain ⟨hm1, hsf1⟩ := best_suffix hb1
        have hle1 := hsf1.length_le
        have rf : callF 14 s_find_among_b (F8 y y.length y.length y.length p1 p2) [.self, v_a_1] = _ := run_find_some (show y.length < 1000 by first | exact toN ‹_› | exact toN8 ‹_› | omega) ok_a_1 hb1
        have a2 : (y.length : Int) - ((y.length : Int) - (y.length : Int)) = (y.length : Int) := by omega
        unfold post1b
        rw [hb1]
        dsimp only
        by_cases h2 : e1.2.2 = 1
        · rw [if_pos h2]
          have ri := run_insert (x := y) (p1 := p1) (p2 := p2) (by omega)
          refine ⟨.bool true, y.length, y.length + 1, y.length + 1, ?_⟩
          unfold callF
          unfold F8 at r rg rd rf ri ⊢
          simp only [List.length_append, List.length_cons, List.length_nil] at ri
          simp! [s_r_Step_1b, r, h0, h1, rg, a1, rd, rf, a2, h2, ri]
        · rw [if_neg h2]
          by_cases h3 : e1.2.2 = 2
          · rw [if_pos h3]
            have hy1 := a1_two e1 hm1 h3
            have hyt2 : (y.take (y.length - 1)).length = y.length - 1 := takL _ _
            have rd2 := run_del_end (x := y) (y := y.take (y.length - 1)) (c := y.length - 1) (p1 := p1) (p2 := p2) (by omega) (by omega) (by rw [hyt2]) (by omega)
            rw [hyt2] at rd2
            have a3 : (y.length : Int) - 1 = ((y.length - 1 : Nat) : Int) := by omega
            have a4 : ¬ (y.length : Int) ≤ 0 := by omega
            refine ⟨.bool true, newC (y.length - 1) (y.length - 1) y.length 0, y.length - 1, y.length - 1, ?_⟩
            have h21 : ¬ (2 : Int) = 1 := by decide
            unfold callF
            unfold F8 at r rg rd rf rd2 ⊢
            rw [hyt2] at rd2 ⊢
            simp! [s_r_Step_1b, r, h0, h1, rg, a1, rd, rf, a2, h3, h21, a3, a4, rd2]
          · rw [if_neg h3]
            by_cases h4 : y.length = p1
            · obtain ⟨c'', hc'', rs⟩ := run_shortv (x := y) (c := y.length) (b := y.length) (k := y.length) (p1 := p1) (p2 := p2) (by omega) (Nat.le_refl _)
              rw [List.take_length] at rs
              have h4' : (y.length : Int) = p1 := by first | exact iEq ‹_› | omega
              by_cases h5 : shortP y.reverse = true
              · rw [if_pos ⟨h4, h5⟩]
                rw [h5] at rs
                have ri := run_insert (x := y) (p1 := p1) (p2 := p2) (by omega)
                refine ⟨.bool true, y.length, y.length + 1, y.length + 1, ?_⟩
                subst h4
                unfold callF
                unfold F8 at r rg rd rf ri rs ⊢
                simp only [List.length_append, List.length_cons, List.length_nil] at ri
                simp! [s_r_Step_1b, r, h0, h1, rg, a1, rd, rf, a2, h2, h3, rs, ri]
              · rw [if_neg fun q => h5 q.2]
                have h5 : shortP y.reverse = false := by simpa using h5
                rw [h5] at rs
                refine ⟨.bool false, c'', y.length, y.length, ?_⟩
                subst h4
                unfold callF
                unfold F8 at r rg rd rf rs ⊢
                simp! [s_r_Step_1b, r, h0, h1, rg, a1, rd, rf, a2, h2, h3, rs]
            · rw [if_neg fun q => h4 q.1]
              have h4' : ¬ (y.length : Int) = p1 := by first | exact nEq ‹_› | omega
              refine ⟨.bool false, y.length, y.length, y.length, ?_⟩
              unfold callF
              unfold F8 at r rg rd rf ⊢
              simp! [s_r_Step_1b, r, h0, h1, rg, a1, rd, rf, a2, h2, h3, h4']
      · rw [if_neg ha]
        have ha : y.any (hasS vowelsG) = false := by simpa using ha
        rw [ha] at rg
        refine ⟨.bool false, c', y.length, x.length, ?_⟩
        unfold callF
        unfold F8 at r rg ⊢
        simp! [s_r_Step_1b, r, h0, h1, rg]
end
theorem while_brk {n : Nat} {f : SF} {st st' : St} (h : f st = some (.brk, st')) : sWhile (n + 1) (tK true) f st = some (.next, st') := by
  unfold sWhile; simp only [tK, Option.bind_some, if_true, h]
theorem while_ret {n : Nat} {f : SF} {st st' : St} {v : AV} (h : f st = some (.ret v, st')) : sWhile (n + 1) (tK true) f st = some (.ret v, st') := by
  unfold sWhile; simp only [tK, Option.bind_some, if_true, h]
noncomputable def oneOf (a b : Nat) : SF := (sSeq (sTry 539 (sSeq (sIf (tOr (tE (eBin gLe (eF 1) (eF 3))) (tOr (tE (eBin gNe (eBin gIdx (eF 0) (eBin gSub (eF 1) (eK (.int 1)))) (eK (.str [a])))) (tK false))) (sSeq (sRaise 539) sNil) sNil) (sSeq (sAugF gSub 1 (eK (.int 1))) (sSeq sBrk sNil)))) (sSeq (sIf (tOr (tE (eBin gLe (eF 1) (eF 3))) (tOr (tE (eBin gNe (eBin gIdx (eF 0) (eBin gSub (eF 1) (eK (.int 1)))) (eK (.str [b])))) (tK false))) (sSeq (sRet (eK (.bool false))) sNil) sNil) (sSeq (sAugF gSub 1 (eK (.int 1))) (sSeq sBrk sNil))))
section
variable {x y : List Nat} {c b k p1 p2 d : Nat} {cs : List Nat}
theorem oneOf_end {a a' : Nat} {ls : List (Option AV)} : oneOf a a' ⟨F8 x 0 b k p1 p2, some .self :: ls, none⟩ = some (.ret (.bool false), ⟨F8 x 0 b k p1 p2, some .self :: ls, none⟩) := by
  have h1 : ((0 : Nat) : Int) ≤ 0 := by omega
  simp! [oneOf, F8, h1]
theorem oneOf_run {a a' : Nat} {ls : List (Option AV)} (hx : x.length < 1000) (hd : x[c]? = some d) : oneOf a a' ⟨F8 x (c + 1) b k p1 p2, some .self :: ls, none⟩ =
    some (if d = a ∨ d = a' then (.brk, ⟨F8 x c b k p1 p2, some .self :: ls, none⟩) else (.ret (.bool false), ⟨F8 x (c + 1) b k p1 p2, some .self :: ls, none⟩)) := by
  have h1 : ¬ ((c + 1 : Nat) : Int) ≤ 0 := by omega
  have h2 : gIdx (.str x) (.int (((c + 1 : Nat) : Int) - 1)) = some (.str [d]) := gIdx_s hx hd
  have h3 : ((c + 1 : Nat) : Int) - 1 = c := by omega
  rw [h3] at h2
  by_cases e1 : d = a
  · have g1 : decide ([d] = [a]) = true := decide_eq_true (by rw [e1])
    rw [if_pos (.inl e1)]
    simp! [oneOf, F8, h1, h2, g1, h3]
  · have g1 : decide ([d] = [a]) = false := decide_eq_false (by simpa using e1)
    by_cases e2 : d = a'
    · have g2 : decide ([d] = [a']) = true := decide_eq_true (by rw [e2])
      rw [if_pos (.inr e2)]
      simp! [oneOf, F8, h1, h2, g1, g2, h3]
    · have g2 : decide ([d] = [a']) = false := decide_eq_false (by simpa using e2)
      rw [if_neg (by simp [e1, e2])]
      simp! [oneOf, F8, h1, h2, g1, g2, h3]
noncomputable def step1c (x : List Nat) : List Nat := if (x.getLast? = some 121 ∨ x.getLast? = some 89) ∧ (x.take (x.length - 1)).any (hasS vowelsG) = true then x.take (x.length - 1) ++ [105] else x
theorem last_of {n : Nat} (hn : x.length = n + 1) (hd : x[n]? = some d) : x.getLast? = some d := by
  rw [List.getLast?_eq_getElem?, hn]; exact hd
theorem run_1c (hx : x.length < 80) : StepOk 1 s_r_Step_1c p1 p2 x (step1c x) := by
  intro b k
  have hx' : x.length < 1000 := by first | exact toN ‹_› | exact toN8 ‹_› | omega
  unfold step1c
  have e0 : s_r_Step_1c = (sSeq (sAssF 5 (eF 1)) (sSeq (sWhile 100 (tK true) (oneOf 121 89)) (sSeq (sAssF 4 (eF 1)) (sSeq (sIf (tNot (tE (eMeth 2 2 s_go_out_grouping_b [(eK (.sset vowelsG))]))) (sSeq (sRet (eK (.bool false))) sNil) sNil) (sSeq (sAugF gSub 1 (eK (.int 1))) (sSeq (sExpr (eMeth 2 2 s_slice_from [(eK (.str [105]))])) (sSeq (sRet (eK (.bool true))) sNil))))))) := rfl
  rw [e0]
  by_cases hz : x.length = 0
  · have hn := hz
    have hx0 : x = [] := List.eq_nil_of_length_eq_zero hn
    subst hx0
    rw [if_neg (by simp)]
    have r : sWhile 100 (tK true) (oneOf 121 89) _ = _ := while_ret (oneOf_end (x := []) (b := b) (k := 0) (p1 := p1) (p2 := p2) (ls := []))
    refine ⟨.bool false, 0, b, 0, ?_⟩
    unfold callF
    unfold F8 at r ⊢
    simp only [List.length_nil] at r
    simp! [r]
  · obtain ⟨n, hn⟩ : ∃ n, x.length = n + 1 := ⟨x.length - 1, pred1 ‹_›⟩
    obtain ⟨d, hd⟩ := get_of (x := x) (c := n) (by omega)
    have r0 := oneOf_run (a := 121) (a' := 89) (b := b) (k := x.length) (p1 := p1) (p2 := p2) (ls := []) hx' hd
    rw [last_of hn hd, hn, show n + 1 - 1 = n from rfl]
    rw [hn] at r0
    by_cases h1 : d = 121 ∨ d = 89
    · rw [if_pos h1] at r0
      have r : sWhile 100 (tK true) (oneOf 121 89) _ = _ := while_brk r0
      obtain ⟨c', hc', hpos, rg⟩ := run_go_out_b (x := x) (c := n) (b := n) (k := n + 1) (p1 := p1) (p2 := p2) lenG (by omega) (by omega)
      by_cases ha : (x.take n).any (hasS vowelsG) = true
      · rw [ha] at rg
        have hp := hpos ha
        have r2 := run_slice_from (x := x) (s := [105]) (c := c' - 1) (b := n) (k := n + 1) (p1 := p1) (p2 := p2) (by omega) (by simp) (by omega) (by omega) (by omega)
        rw [show x.drop (n + 1) = [] from List.drop_eq_nil_of_le (by omega), List.append_nil] at r2
        have a3 : (c' : Int) - 1 = ((c' - 1 : Nat) : Int) := by omega
        rw [if_pos ⟨by rcases h1 with rfl | rfl <;> simp, ha⟩]
        refine ⟨.bool true, newC (c' - 1) n (n + 1) [105].length, n, n + [105].length, ?_⟩
        unfold callF
        unfold F8 at r rg r2 ⊢
        simp only [List.length_append, List.length_cons, List.length_nil] at r2
        simp only [hn] at r rg r2 ⊢
        simp! [r, rg, a3, r2]
      · rw [if_neg fun q => ha q.2]
        have ha : (x.take n).any (hasS vowelsG) = false := by simpa using ha
        rw [ha] at rg
        refine ⟨.bool false, c', n, n + 1, ?_⟩
        unfold callF
        unfold F8 at r rg ⊢
        simp only [hn] at r rg ⊢
        simp! [r, rg]
    · rw [if_neg h1] at r0
      have r : sWhile 100 (tK true) (oneOf 121 89) _ = _ := while_ret r0
      rw [if_neg fun q => h1 (by rcases q.1 with q | q <;> cases q <;> simp)]
      refine ⟨.bool false, n + 1, b, n + 1, ?_⟩
      unfold callF
      unfold F8 at r ⊢
      simp only [hn] at r ⊢
      simp! [r]
noncomputable def step4 (p2 : Nat) (x : List Nat) : List Nat := match bestT T_a_5 (preB x) with
  | none => x
  | some e => if p2 ≤ x.length - e.1.length then (if e.2.2 = 1 then cut x e else if (cut x e).getLast? = some 115 ∨ (cut x e).getLast? = some 116 then cut x e else x) else x
theorem run_4 (hx : x.length < 80) : StepOk 2 s_r_Step_4 p1 p2 x (step4 p2 x) := by
  intro b k
  have hx' : x.length < 1000 := by first | exact toN ‹_› | exact toN8 ‹_› | omega
  unfold step4
  have e0 : s_r_Step_4 = (sSeq (sAssF 5 (eF 1)) (sSeq (sAssL 1 (eMeth 14 2 s_find_among_b [(eK v_a_5)])) (sSeq (sIf (tE (eBin gEq (eL 1) (eK (.int 0)))) (sSeq (sRet (eK (.bool false))) sNil) sNil) (sSeq (sAssF 4 (eF 1)) (sSeq (sIf (tNot (tE (eMeth 1 1 s_r_R2 []))) (sSeq (sRet (eK (.bool false))) sNil) sNil) (sSeq (sIf (tE (eBin gEq (eL 1) (eK (.int 1)))) (sSeq (sExpr (eMeth 1 1 s_slice_del [])) sNil) (sSeq (sWhile 100 (tK true) (oneOf 115 116)) (sSeq (sExpr (eMeth 1 1 s_slice_del [])) sNil))) (sSeq (sRet (eK (.bool true))) sNil))))))) := rfl
  rw [e0]
  cases h : bestT T_a_5 (preB x) with
  | none =>
    have r : callF 14 s_find_among_b (F8 x x.length b x.length p1 p2) [.self, v_a_5] = _ := run_find_none hx' ok_a_5 h
    refine ⟨.bool false, x.length, b, x.length, ?_⟩
    unfold callF
    unfold F8 at r ⊢
    simp! [r]
  | some e =>
    obtain ⟨hm, hsf⟩ := best_suffix h
    have hle := hsf.length_le
    have r : callF 14 s_find_among_b (F8 x x.length b x.length p1 p2) [.self, v_a_5] = _ := run_find_some hx' ok_a_5 h
    have h0 := a5_res e hm
    dsimp only
    have hyl : (cut x e).length = x.length - e.1.length := takL _ _
    have hyt : x.take (cut x e).length = cut x e := by rw [hyl]; rfl
    rw [← hyl] at r ⊢
    generalize cut x e = y at *
    have hyx : y.length ≤ x.length := by omega
    have r1 := run_R2 (x := x) (c := y.length) (b := y.length) (k := x.length) (p1 := p1) (p2 := p2)
    by_cases hp : p2 ≤ y.length
    · have hp' : (p2 : Int) ≤ (y.length : Int) := by first | exact iLe ‹_› | omega
      rw [if_pos hp]
      have h10 : ¬ (1 : Int) = 0 := by decide
      by_cases h1 : e.2.2 = 1
      · rw [if_pos h1]
        have rd := run_del_end (c := y.length) (p1 := p1) (p2 := p2) (by omega) (Nat.le_refl _) hyt hyx
        refine ⟨.bool true, newC y.length y.length x.length 0, y.length, y.length, ?_⟩
        unfold callF
        unfold F8 at r r1 rd ⊢
        simp! [r, h1, h10, r1, hp', rd]
      · rw [if_neg h1]
        by_cases hz : y.length = 0
        · have hn := hz
          have hy0 : y = [] := List.eq_nil_of_length_eq_zero hn
          subst hy0
          rw [if_neg (by simp)]
          have rw_ : sWhile 100 (tK true) (oneOf 115 116) _ = _ := while_ret (oneOf_end (x := x) (b := 0) (k := x.length) (p1 := p1) (p2 := p2) (ls := [some (.int e.2.2)]))
          refine ⟨.bool false, 0, 0, x.length, ?_⟩
          unfold callF
          unfold F8 at r r1 rw_ ⊢
          simp only [hn] at r r1 rw_ hp'
          simp! [r, h0, h1, r1, hp', rw_]
        · obtain ⟨n, hn⟩ : ∃ n, y.length = n + 1 := ⟨y.length - 1, pred1 ‹_›⟩
          obtain ⟨d, hd⟩ := get_of (x := y) (c := n) (by omega)
          have hdx : x[n]? = some d := by
            rw [← hyt, List.getElem?_take] at hd
            rwa [if_pos (by omega)] at hd
          have r0 := oneOf_run (a := 115) (a' := 116) (b := n + 1) (k := x.length) (p1 := p1) (p2 := p2) (ls := [some (.int e.2.2)]) hx' hdx
          rw [last_of hn hd]
          by_cases h2 : d = 115 ∨ d = 116
          · rw [if_pos h2] at r0
            have rw_ : sWhile 100 (tK true) (oneOf 115 116) _ = _ := while_brk r0
            have rd := run_del_end (c := n) (p1 := p1) (p2 := p2) (by omega) (by omega) hyt hyx
            rw [if_pos (by rcases h2 with rfl | rfl <;> simp)]
            refine ⟨.bool true, newC n (n + 1) x.length 0, n + 1, n + 1, ?_⟩
            unfold callF
            unfold F8 at r r1 rw_ rd ⊢
            simp only [hn] at r r1 rw_ rd hp' ⊢
            simp! [r, h0, h1, r1, hp', rw_, rd]
          · rw [if_neg h2] at r0
            have rw_ : sWhile 100 (tK true) (oneOf 115 116) _ = _ := while_ret r0
            rw [if_neg fun q => h2 (by rcases q with q | q <;> cases q <;> simp)]
            refine ⟨.bool false, n + 1, n + 1, x.length, ?_⟩
            unfold callF
            unfold F8 at r r1 rw_ ⊢
            simp only [hn] at r r1 rw_ hp' ⊢
            simp! [r, h0, h1, r1, hp', rw_]
    · have hp' : ¬ (p2 : Int) ≤ (y.length : Int) := by first | exact nLe ‹_› | omega
      rw [if_neg hp]
      refine ⟨.bool false, y.length, y.length, x.length, ?_⟩
      unfold callF
      unfold F8 at r r1 ⊢
      simp! [r, h0, r1, hp']
end
noncomputable def w5a : SF := (sSeq (sTry 539 (sSeq (sIf (tNot (tE (eMeth 1 1 s_r_R2 []))) (sSeq (sRaise 539) sNil) sNil) (sSeq sBrk sNil))) (sSeq (sIf (tNot (tE (eMeth 1 1 s_r_R1 []))) (sSeq (sRet (eK (.bool false))) sNil) sNil) (sSeq (sAssL 1 (eBin gSub (eF 2) (eF 1))) (sSeq (sTry 539 (sSeq (sIf (tNot (tE (eMeth 1 1 s_r_shortv []))) (sSeq (sRaise 539) sNil) sNil) (sSeq (sRet (eK (.bool false))) sNil))) (sSeq (sAssF 1 (eBin gSub (eF 2) (eL 1))) (sSeq sBrk sNil))))))
noncomputable def step5a (p1 p2 : Nat) (x : List Nat) : List Nat := if x.getLast? = some 101 then
    (if p2 ≤ x.length - 1 ∨ (p1 ≤ x.length - 1 ∧ shortP (x.take (x.length - 1)).reverse = false) then x.take (x.length - 1) else x) else x
noncomputable def step5b (p2 : Nat) (x : List Nat) : List Nat := if x.getLast? = some 108 ∧ p2 ≤ x.length - 1 ∧ (x.take (x.length - 1)).getLast? = some 108 then x.take (x.length - 1) else x
section
variable {x y : List Nat} {c b k p1 p2 d : Nat} {cs : List Nat}
theorem run_5a (hx : x.length < 80) : StepOk 2 s_r_Step_5a p1 p2 x (step5a p1 p2 x) := by
  intro b k
  have hx' : x.length < 1000 := by first | exact toN ‹_› | exact toN8 ‹_› | omega
  unfold step5a
  have e0 : s_r_Step_5a = (sSeq (sAssF 5 (eF 1)) (sSeq (sIf (tOr (tE (eBin gLe (eF 1) (eF 3))) (tOr (tE (eBin gNe (eBin gIdx (eF 0) (eBin gSub (eF 1) (eK (.int 1)))) (eK (.str [101])))) (tK false))) (sSeq (sRet (eK (.bool false))) sNil) sNil) (sSeq (sAugF gSub 1 (eK (.int 1))) (sSeq (sAssF 4 (eF 1)) (sSeq (sWhile 100 (tK true) w5a) (sSeq (sExpr (eMeth 1 1 s_slice_del [])) (sSeq (sRet (eK (.bool true))) sNil))))))) := rfl
  rw [e0]
  by_cases hz : x.length = 0
  · have hx0 : x = [] := List.eq_nil_of_length_eq_zero hz
    subst hx0
    rw [if_neg (by simp)]
    have h1 : ((0 : Nat) : Int) ≤ 0 := by omega
    refine ⟨.bool false, 0, b, 0, ?_⟩
    unfold callF F8
    simp! [h1]
  · obtain ⟨n, hn⟩ : ∃ n, x.length = n + 1 := ⟨x.length - 1, pred1 ‹_›⟩
    obtain ⟨d, hd⟩ := get_of (x := x) (c := n) (by omega)
    rw [last_of hn hd, hn, show n + 1 - 1 = n from rfl]
    have h1 : ¬ ((n + 1 : Nat) : Int) ≤ 0 := by omega
    have h2 : gIdx (.str x) (.int (((n + 1 : Nat) : Int) - 1)) = some (.str [d]) := gIdx_s hx' hd
    have h3 : ((n + 1 : Nat) : Int) - 1 = n := by omega
    rw [h3] at h2
    have hyl : (x.take n).length = n := List.length_take_of_le (hn ▸ Nat.le_succ n)
    by_cases e1 : d = 101
    · subst e1
      rw [if_pos rfl]
      have r2 := run_R2 (x := x) (c := n) (b := n) (k := n + 1) (p1 := p1) (p2 := p2)
      have r1 := run_R1 (x := x) (c := n) (b := n) (k := n + 1) (p1 := p1) (p2 := p2)
      obtain ⟨c', hc', rs⟩ := run_shortv (x := x) (c := n) (b := n) (k := n + 1) (p1 := p1) (p2 := p2) (by omega) (by omega)
      have rd := run_del_end (x := x) (y := x.take n) (c := n) (p1 := p1) (p2 := p2) (by omega) (by omega) (by rw [hyl]) (by omega)
      rw [hyl, hn] at rd
      by_cases g1 : p2 ≤ n
      · have g1' : (p2 : Int) ≤ n := by first | exact iLe ‹_› | omega
        rw [if_pos (.inl g1)]
        have rw_ : sWhile 100 (tK true) w5a ⟨F8 x n n (n + 1) p1 p2, [some .self, none], none⟩ = some (.next, ⟨F8 x n n (n + 1) p1 p2, [some .self, none], none⟩) := while_brk (by
          unfold F8 at r2 ⊢
          unfold w5a
          simp! [r2, g1'])
        refine ⟨.bool true, newC n n (n + 1) 0, n, n, ?_⟩
        unfold callF
        unfold F8 at rw_ rd ⊢
        simp only [hn, hyl] at rw_ rd ⊢
        simp! [h1, h2, h3, rw_, rd]
      · have g1' : ¬ (p2 : Int) ≤ n := by first | exact nLe ‹_› | omega
        by_cases g2 : p1 ≤ n
        · have g2' : (p1 : Int) ≤ n := by first | exact iLe ‹_› | omega
          by_cases g3 : shortP (x.take n).reverse = true
          · rw [if_neg (by simp [g1, g3])]
            rw [g3] at rs
            have rw_ : sWhile 100 (tK true) w5a ⟨F8 x n n (n + 1) p1 p2, [some .self, none], none⟩ = some (.ret (.bool false), ⟨F8 x c' n (n + 1) p1 p2, [some .self, some (.int ((x.length : Int) - n))], none⟩) := while_ret (by
              unfold F8 at r1 r2 rs ⊢
              unfold w5a
              simp! [r1, r2, rs, g1', g2'])
            refine ⟨.bool false, c', n, n + 1, ?_⟩
            unfold callF
            unfold F8 at rw_ ⊢
            simp only [hn] at rw_ ⊢
            simp! [h1, h2, h3, rw_]
          · have g3 : shortP (x.take n).reverse = false := by simpa using g3
            rw [if_pos (.inr ⟨g2, g3⟩)]
            rw [g3] at rs
            have a1 : (x.length : Int) - ((x.length : Int) - n) = n := by omega
            have rw_ : sWhile 100 (tK true) w5a ⟨F8 x n n (n + 1) p1 p2, [some .self, none], none⟩ = some (.next, ⟨F8 x n n (n + 1) p1 p2, [some .self, some (.int ((x.length : Int) - n))], none⟩) := while_brk (by
              unfold F8 at r1 r2 rs ⊢
              unfold w5a
              simp! [r1, r2, rs, g1', g2', a1])
            refine ⟨.bool true, newC n n (n + 1) 0, n, n, ?_⟩
            unfold callF
            unfold F8 at rw_ rd ⊢
            simp only [hn, hyl] at rw_ rd ⊢
            simp! [h1, h2, h3, rw_, rd]
        · have g2' : ¬ (p1 : Int) ≤ n := by first | exact nLe ‹_› | omega
          rw [if_neg (by simp [g1, g2])]
          have rw_ : sWhile 100 (tK true) w5a ⟨F8 x n n (n + 1) p1 p2, [some .self, none], none⟩ = some (.ret (.bool false), ⟨F8 x n n (n + 1) p1 p2, [some .self, none], none⟩) := while_ret (by
            unfold F8 at r1 r2 ⊢
            unfold w5a
            simp! [r1, r2, g1', g2'])
          refine ⟨.bool false, n, n, n + 1, ?_⟩
          unfold callF
          unfold F8 at rw_ ⊢
          simp only [hn] at rw_ ⊢
          simp! [h1, h2, h3, rw_]
    · have g1 : decide ([d] = [101]) = false := decide_eq_false (by simpa using e1)
      rw [if_neg (by simpa using e1)]
      refine ⟨.bool false, n + 1, b, n + 1, ?_⟩
      unfold callF F8
      simp only [hn]
      simp! [h1, h2, h3, g1]
theorem run_5b (hx : x.length < 80) : StepOk 1 s_r_Step_5b p1 p2 x (step5b p2 x) := by
  intro b k
  have hx' : x.length < 1000 := by first | exact toN ‹_› | exact toN8 ‹_› | omega
  unfold step5b
  by_cases hz : x.length = 0
  · have hx0 : x = [] := List.eq_nil_of_length_eq_zero hz
    subst hx0
    rw [if_neg (by simp)]
    have h1 : ((0 : Nat) : Int) ≤ 0 := by omega
    refine ⟨.bool false, 0, b, 0, ?_⟩
    unfold callF F8
    simp! [s_r_Step_5b, h1]
  · obtain ⟨n, hn⟩ : ∃ n, x.length = n + 1 := ⟨x.length - 1, pred1 ‹_›⟩
    obtain ⟨d, hd⟩ := get_of (x := x) (c := n) (by omega)
    rw [last_of hn hd, hn, show n + 1 - 1 = n from rfl]
    have h1 : ¬ ((n + 1 : Nat) : Int) ≤ 0 := by omega
    have h2 : gIdx (.str x) (.int (((n + 1 : Nat) : Int) - 1)) = some (.str [d]) := gIdx_s hx' hd
    have h3 : ((n + 1 : Nat) : Int) - 1 = n := by omega
    rw [h3] at h2
    have hyl : (x.take n).length = n := List.length_take_of_le (hn ▸ Nat.le_succ n)
    by_cases e1 : d = 108
    · subst e1
      have g0 : decide ([108] = [108]) = true := by decide
      have r2 := run_R2 (x := x) (c := n) (b := n) (k := n + 1) (p1 := p1) (p2 := p2)
      by_cases g1 : p2 ≤ n
      · have g1' : (p2 : Int) ≤ n := by first | exact iLe ‹_› | omega
        by_cases hz2 : n = 0
        · subst hz2
          rw [if_neg (by simp)]
          have h4 : ((0 : Nat) : Int) ≤ 0 := by omega
          refine ⟨.bool false, 0, 0, 0 + 1, ?_⟩
          unfold callF
          unfold F8 at r2 ⊢
          simp only [hn] at r2 ⊢
          simp! [s_r_Step_5b, h1, h2, h3, g0, r2, g1', h4]
        · obtain ⟨m, hm⟩ : ∃ m, n = m + 1 := ⟨n - 1, by omega⟩
          subst hm
          obtain ⟨d2, hd2⟩ := get_of (x := x) (c := m) (by omega)
          have h4 : ¬ ((m + 1 : Nat) : Int) ≤ 0 := by omega
          have h5 : gIdx (.str x) (.int (((m + 1 : Nat) : Int) - 1)) = some (.str [d2]) := gIdx_s hx' hd2
          have h6 : ((m + 1 : Nat) : Int) - 1 = m := by omega
          rw [h6] at h5
          have hlast : (x.take (m + 1)).getLast? = some d2 := last_of hyl (by rw [List.getElem?_take, if_pos (by omega)]; exact hd2)
          rw [hlast]
          by_cases e2 : d2 = 108
          · subst e2
            have rd := run_del_end (x := x) (y := x.take (m + 1)) (c := m) (p1 := p1) (p2 := p2) (by omega) (by omega) (by rw [hyl]) (by omega)
            rw [hyl, hn] at rd
            rw [if_pos ⟨rfl, g1, rfl⟩]
            refine ⟨.bool true, newC m (m + 1) (m + 1 + 1) 0, m + 1, m + 1, ?_⟩
            unfold callF
            unfold F8 at r2 rd ⊢
            simp only [hn, hyl] at r2 rd ⊢
            simp! [s_r_Step_5b, h1, h2, h3, g0, r2, g1', h4, h5, h6, rd]
          · have g3 : decide ([d2] = [108]) = false := decide_eq_false (by simpa using e2)
            rw [if_neg (by simp [e2])]
            refine ⟨.bool false, m + 1, m + 1, m + 1 + 1, ?_⟩
            unfold callF
            unfold F8 at r2 ⊢
            simp only [hn] at r2 ⊢
            simp! [s_r_Step_5b, h1, h2, h3, g0, r2, g1', h4, h5, h6, g3]
      · have g1' : ¬ (p2 : Int) ≤ n := by first | exact nLe ‹_› | omega
        rw [if_neg (by simp [g1])]
        refine ⟨.bool false, n, n, n + 1, ?_⟩
        unfold callF
        unfold F8 at r2 ⊢
        simp only [hn] at r2 ⊢
        simp! [s_r_Step_5b, h1, h2, h3, g0, r2, g1']
    · have g1 : decide ([d] = [108]) = false := decide_eq_false (by simpa using e1)
      rw [if_neg (by simp [e1])]
      refine ⟨.bool false, n + 1, b, n + 1, ?_⟩
      unfold callF F8
      simp only [hn]
      simp! [s_r_Step_5b, h1, h2, h3, g1]
end
noncomputable def F6 (x : List Nat) (c b k : Nat) : List AV := [.str x, .int c, .int x.length, .int 0, .int b, .int k]
section
variable {x : List Nat} {c b k d : Nat} {cs : List Nat}
theorem in6_end (h : x.length ≤ c) : callF 2 s_in_grouping (F6 x c b k) [.self, .sset cs] = some (.bool false, F6 x c b k) := inG_end (r := []) h
theorem in6_no (hc : cs.length < 100) (hx : x.length < 1000) (h : x[c]? = some d) (hn : hasS cs d = false) : callF 2 s_in_grouping (F6 x c b k) [.self, .sset cs] = some (.bool false, F6 x c b k) := inG_no (r := []) hc hx h hn
theorem in6_yes (hc : cs.length < 100) (hx : x.length < 1000) (h : x[c]? = some d) (hn : hasS cs d = true) : callF 2 s_in_grouping (F6 x c b k) [.self, .sset cs] = some (.bool true, F6 x (c + 1) b k) := inG_yes (r := []) hc hx h hn
theorem run6_slice_from {s : List Nat} (hx : x.length < 90) (hs : s.length < 90) (h1 : b ≤ k) (h2 : k ≤ x.length) (hc : c ≤ x.length) :
    callF 2 s_slice_from (F6 x c b k) [.self, .str s] = some (.none, F6 (x.take b ++ s ++ x.drop k) (newC c b k s.length) b (b + s.length)) := sliG (r := []) hx hs h1 h2
end
noncomputable def phA : SF := (sTry 539 (sSeq (sAssF 4 (eF 1)) (sSeq (sIf (tOr (tE (eBin gEq (eF 1) (eF 2))) (tOr (tE (eBin gNe (eBin gIdx (eF 0) (eF 1)) (eK (.str [121])))) (tK false))) (sSeq (sRaise 539) sNil) sNil) (sSeq (sAugF gAddI 1 (eK (.int 1))) (sSeq (sAssF 5 (eF 1)) (sSeq (sExpr (eMeth 2 2 s_slice_from [(eK (.str [89]))])) (sSeq (sAssL 1 (eK (.bool true))) sNil)))))))
noncomputable def inB : SF := (sSeq (sAssL 5 (eF 1)) (sSeq (sTry 565 (sSeq (sIf (tNot (tE (eMeth 2 2 s_in_grouping [(eK (.sset vowelsG))]))) (sSeq (sRaise 565) sNil) sNil) (sSeq (sAssF 4 (eF 1)) (sSeq (sIf (tOr (tE (eBin gEq (eF 1) (eF 2))) (tOr (tE (eBin gNe (eBin gIdx (eF 0) (eF 1)) (eK (.str [121])))) (tK false))) (sSeq (sRaise 565) sNil) sNil) (sSeq (sAugF gAddI 1 (eK (.int 1))) (sSeq (sAssF 5 (eF 1)) (sSeq (sAssF 1 (eL 5)) (sSeq sBrk sNil)))))))) (sSeq (sAssF 1 (eL 5)) (sSeq (sIf (tE (eBin gGe (eF 1) (eF 2))) (sSeq (sRaise 552) sNil) sNil) (sSeq (sAugF gAddI 1 (eK (.int 1))) sNil)))))
noncomputable def outB : SF := (sSeq (sAssL 4 (eF 1)) (sSeq (sTry 552 (sSeq (sWhile 100 (tK true) inB) (sSeq (sExpr (eMeth 2 2 s_slice_from [(eK (.str [89]))])) (sSeq (sAssL 1 (eK (.bool true))) (sSeq sCont sNil))))) (sSeq (sAssF 1 (eL 4)) (sSeq sBrk sNil))))
noncomputable def phB : SF := (sTry 539 (sSeq (sWhile 100 (tK true) outB) sNil))
noncomputable def turn (pv : Bool) : List Nat → List Nat
  | [] => []
  | d :: t => if pv = true ∧ d = 121 then 89 :: turn false t else d :: turn (hasS vowelsG d) t
noncomputable def fvy : List Nat → Option Nat
  | v :: t => if hasS vowelsG v = true ∧ t.head? = some 121 then some 0 else (fvy t).map (· + 1)
  | [] => none
section
variable {x : List Nat} {c b k d : Nat} {B : Bool} {v1 v2 v3 v4 : Option AV} {rest : List (Option AV)}
noncomputable abbrev LS (B : Bool) (v1 v2 v3 v4 : Option AV) (rest : List (Option AV)) : List (Option AV) := some .self :: some (.bool B) :: v1 :: v2 :: v3 :: v4 :: rest
theorem phA_no (h : x.head? ≠ some 121) (hx : x.length < 80) : phA ⟨F6 x 0 b k, LS B v1 v2 v3 v4 rest, none⟩ = some (.next, ⟨F6 x 0 0 k, LS B v1 v2 v3 v4 rest, none⟩) := by
  cases x with
  | nil => 
    have h1 : ((0 : Nat) : Int) = ((0 : Nat) : Int) := rfl
    unfold phA F6
    simp! []
  | cons d t =>
    have h1 : ¬ ((0 : Nat) : Int) = ((d :: t).length : Int) := by rw [List.length_cons]; omega
    have h2 : gIdx (.str (d :: t)) (.int ((0 : Nat) : Int)) = some (.str [d]) := gIdx_str (by omega) (by omega) rfl
    have g1 : decide ([d] = [121]) = false := decide_eq_false (by simpa using h)
    rw [List.length_cons] at h1
    unfold phA F6
    simp! [h1, h2, g1]
theorem phA_yes {t : List Nat} (hx : (121 :: t).length < 80) : phA ⟨F6 (121 :: t) 0 b k, LS B v1 v2 v3 v4 rest, none⟩ = some (.next, ⟨F6 (89 :: t) 1 0 1, LS true v1 v2 v3 v4 rest, none⟩) := by
  have h1 : ¬ ((0 : Nat) : Int) = ((121 :: t).length : Int) := by rw [List.length_cons]; omega
  have h2 : gIdx (.str (121 :: t)) (.int ((0 : Nat) : Int)) = some (.str [121]) := gIdx_str (by omega) (by omega) rfl
  have g1 : decide (([121] : List Nat) = [121]) = true := by decide
  have h3 : ((0 : Nat) : Int) + 1 = ((1 : Nat) : Int) := rfl
  have r := run6_slice_from (x := 121 :: t) (s := [89]) (c := 1) (b := 0) (k := 1) (by omega) (by simp) (by omega) (by rw [List.length_cons]; omega) (by rw [List.length_cons]; omega)
  rw [show newC 1 0 1 [89].length = 1 from rfl, show (121 :: t).take 0 ++ [89] ++ (121 :: t).drop 1 = 89 :: t from rfl] at r
  rw [List.length_cons] at h1
  unfold F6 at r
  simp only [List.length_cons, List.length_nil] at r
  unfold phA F6
  simp! [h1, h2, g1, h3, r]
theorem inB_end (hx : x.length < 80) : inB ⟨F6 x x.length b k, LS B v1 v2 v3 v4 rest, none⟩ = some (.exc 552, ⟨F6 x x.length b k, LS B v1 v2 v3 (some (.int x.length)) rest, none⟩) := by
  have r := in6_end (x := x) (c := x.length) (b := b) (k := k) (cs := vowelsG) (Nat.le_refl _)
  have h1 : (x.length : Int) ≤ x.length := Int.le_refl _
  unfold F6 at r ⊢
  unfold inB
  simp! [r, h1]
theorem inB_skip (hx : x.length < 80) (hc : x[c]? = some d) (h : ¬ (hasS vowelsG d = true ∧ x[c + 1]? = some 121)) : ∃ b', inB ⟨F6 x c b k, LS B v1 v2 v3 v4 rest, none⟩ = some (.next, ⟨F6 x (c + 1) b' k, LS B v1 v2 v3 (some (.int c)) rest, none⟩) := by
  have hx' : x.length < 1000 := by first | exact toN ‹_› | exact toN8 ‹_› | omega
  have hl := (List.getElem?_eq_some_iff.mp hc).1
  have h1 : ¬ (x.length : Int) ≤ c := by first | exact nLe ‹_› | omega
  have h3 : (c : Int) + 1 = ((c + 1 : Nat) : Int) := by omega
  by_cases hv : hasS vowelsG d = true
  · have r := in6_yes (b := b) (k := k) lenG hx' hc hv
    by_cases he : c + 1 = x.length
    · have h4 : ((c + 1 : Nat) : Int) = (x.length : Int) := by first | exact iEq ‹_› | omega
      refine ⟨c + 1, ?_⟩
      unfold F6 at r ⊢
      unfold inB
      simp! [r, h1, h3, h4]
    · obtain ⟨d2, hd2⟩ := get_of (x := x) (c := c + 1) (by omega)
      have h4 : ¬ ((c + 1 : Nat) : Int) = (x.length : Int) := by first | exact nEq ‹_› | omega
      have h5 : gIdx (.str x) (.int ((c + 1 : Nat) : Int)) = some (.str [d2]) := gIdx_str (by omega) hx' (by rw [Int.toNat_natCast]; exact hd2)
      have g1 : decide ([d2] = [121]) = false := decide_eq_false (fun q => h ⟨hv, by rw [hd2]; simpa using q⟩)
      refine ⟨c + 1, ?_⟩
      unfold F6 at r ⊢
      unfold inB
      simp! [r, h1, h3, h4, h5, g1]
  · have hv : hasS vowelsG d = false := by simpa using hv
    have r := in6_no (b := b) (k := k) lenG hx' hc hv
    refine ⟨b, ?_⟩
    unfold F6 at r ⊢
    unfold inB
    simp! [r, h1, h3]
theorem inB_hit (hx : x.length < 80) (hc : x[c]? = some d) (hv : hasS vowelsG d = true) (h : x[c + 1]? = some 121) : inB ⟨F6 x c b k, LS B v1 v2 v3 v4 rest, none⟩ = some (.brk, ⟨F6 x c (c + 1) (c + 2), LS B v1 v2 v3 (some (.int c)) rest, none⟩) := by
  have hx' : x.length < 1000 := by first | exact toN ‹_› | exact toN8 ‹_› | omega
  have hl := (List.getElem?_eq_some_iff.mp h).1
  have r := in6_yes (b := b) (k := k) lenG hx' hc hv
  have h3 : ((c + 1 : Nat) : Int) + 1 = ((c + 2 : Nat) : Int) := by omega
  have h4 : ¬ ((c + 1 : Nat) : Int) = (x.length : Int) := by first | exact nEq ‹_› | omega
  have h5 : gIdx (.str x) (.int ((c + 1 : Nat) : Int)) = some (.str [121]) := gIdx_str (by omega) hx' (by rw [Int.toNat_natCast]; exact h)
  have g1 : decide (([121] : List Nat) = [121]) = true := by decide
  unfold F6 at r ⊢
  unfold inB
  simp! [r, h3, h4, h5, g1]
theorem fvy_drop (hc : x[c]? = some d) : fvy (x.drop c) = if hasS vowelsG d = true ∧ x[c + 1]? = some 121 then some 0 else (fvy (x.drop (c + 1))).map (· + 1) := by
  obtain ⟨hl, he⟩ := List.getElem?_eq_some_iff.mp hc
  rw [List.drop_eq_getElem_cons hl, he]
  conv => lhs; unfold fvy
  rw [List.head?_drop]
theorem inB_loop (hx : x.length < 80) : ∀ (n c b : Nat) (v4 : Option AV), c ≤ x.length → x.length - c < n →
    (∀ q, fvy (x.drop c) = some q → sWhile n (tK true) inB ⟨F6 x c b k, LS B v1 v2 v3 v4 rest, none⟩ = some (.next, ⟨F6 x (c + q) (c + q + 1) (c + q + 2), LS B v1 v2 v3 (some (.int (c + q : Nat))) rest, none⟩)) ∧
    (fvy (x.drop c) = none → ∃ b' v4', sWhile n (tK true) inB ⟨F6 x c b k, LS B v1 v2 v3 v4 rest, none⟩ = some (.exc 552, ⟨F6 x x.length b' k, LS B v1 v2 v3 v4' rest, none⟩))
  | 0, c, b, v4, _, h => by omega
  | n + 1, c, b, v4, hl, h => by
    by_cases he : c = x.length
    · subst he
      rw [List.drop_length]
      refine ⟨fun q hq => by simp [fvy] at hq, fun _ => ⟨b, some (.int x.length), ?_⟩⟩
      unfold sWhile
      simp only [tK, Option.bind_some, if_true, inB_end hx]
    · have hlt : c < x.length := Nat.lt_of_le_of_ne hl he
      obtain ⟨d, hd⟩ := get_of (x := x) (c := c) hlt
      rw [fvy_drop hd]
      by_cases hh : hasS vowelsG d = true ∧ x[c + 1]? = some 121
      · rw [if_pos hh]
        refine ⟨fun q hq => ?_, fun q => by cases q⟩
        cases hq
        exact while_brk (inB_hit hx hd hh.1 hh.2)
      · rw [if_neg hh]
        obtain ⟨b1, hs⟩ := inB_skip (b := b) (k := k) (B := B) (v1 := v1) (v2 := v2) (v3 := v3) (v4 := v4) (rest := rest) hx hd hh
        obtain ⟨ih1, ih2⟩ := inB_loop hx n (c + 1) b1 (some (.int c)) hlt (fuel1 h hlt)
        have hstep : sWhile (n + 1) (tK true) inB ⟨F6 x c b k, LS B v1 v2 v3 v4 rest, none⟩ = sWhile n (tK true) inB ⟨F6 x (c + 1) b1 k, LS B v1 v2 v3 (some (.int c)) rest, none⟩ := by
          conv => lhs; unfold sWhile
          simp only [tK, Option.bind_some, if_true, hs]
        rw [hstep]
        refine ⟨fun q hq => ?_, fun hq => ih2 (by simpa using hq)⟩
        obtain ⟨q', hq', rfl⟩ := Option.map_eq_some_iff.mp hq
        rw [ih1 q' hq']
        rw [show c + 1 + q' = c + (q' + 1) by omega]
end
theorem turn_cons (pv : Bool) (d : Nat) (t : List Nat) : turn pv (d :: t) = if pv = true ∧ d = 121 then 89 :: turn false t else d :: turn (hasS vowelsG d) t := rfl
theorem turn_pv {pv : Bool} {t : List Nat} (h : pv = true → t.head? ≠ some 121) : turn pv t = turn false t := by
  cases t with
  | nil => rfl
  | cons d t =>
    rw [turn_cons, turn_cons, if_neg (fun q => h q.1 (by rw [q.2]; rfl)), if_neg (by simp)]
theorem turn_fvy : ∀ (l : List Nat) (q : Nat), fvy l = some q → ∃ u v t, l = u ++ v :: 121 :: t ∧ u.length = q ∧ hasS vowelsG v = true ∧ turn false l = u ++ v :: 89 :: turn false t
  | [], q, h => by simp [fvy] at h
  | d :: t0, q, h => by
    unfold fvy at h
    by_cases hc : hasS vowelsG d = true ∧ t0.head? = some 121
    · rw [if_pos hc] at h
      cases h
      cases t0 with
      | nil => simp at hc
      | cons e t =>
        have he : e = 121 := by simpa using hc.2
        subst he
        refine ⟨[], d, t, rfl, rfl, hc.1, ?_⟩
        rw [turn_cons, if_neg (by simp), hc.1, turn_cons, if_pos ⟨rfl, rfl⟩]; rfl
    · rw [if_neg hc] at h
      obtain ⟨q', h1, rfl⟩ := Option.map_eq_some_iff.mp h
      obtain ⟨u, v, t, e1, e2, e3, e4⟩ := turn_fvy t0 q' h1
      refine ⟨d :: u, v, t, by rw [e1]; rfl, by rw [List.length_cons, e2], e3, ?_⟩
      rw [turn_cons, if_neg (by simp), turn_pv (fun q => fun q2 => hc ⟨q, q2⟩), e4]
      rfl
theorem turn_none : ∀ (l : List Nat), fvy l = none → turn false l = l
  | [], h => rfl
  | d :: t0, h => by
    unfold fvy at h
    by_cases hc : hasS vowelsG d = true ∧ t0.head? = some 121
    · rw [if_pos hc] at h; cases h
    · rw [if_neg hc] at h
      have h1 : fvy t0 = none := by simpa using h
      rw [turn_cons, if_neg (by simp), turn_pv (fun q => fun q2 => hc ⟨q, q2⟩), turn_none t0 h1]
section
variable {x : List Nat} {c b k d : Nat} {B : Bool} {v1 v2 v3 v4 : Option AV} {rest : List (Option AV)}
theorem outB_none (hx : x.length < 80) (hc : c ≤ x.length) (h : fvy (x.drop c) = none) : ∃ b' v4', outB ⟨F6 x c b k, LS B v1 v2 v3 v4 rest, none⟩ = some (.brk, ⟨F6 x c b' k, LS B v1 v2 (some (.int c)) v4' rest, none⟩) := by
  obtain ⟨b', v4', hi⟩ := (inB_loop (k := k) (B := B) (v1 := v1) (v2 := v2) (v3 := some (.int c)) (rest := rest) hx 100 c b v4 hc (by omega)).2 h
  refine ⟨b', v4', ?_⟩
  unfold F6 at hi ⊢
  unfold outB
  simp! [hi]
theorem outB_some {w t : List Nat} {v : Nat} (hx : (w ++ v :: 121 :: t).length < 80) (hc : c ≤ w.length) (h : fvy ((w ++ v :: 121 :: t).drop c) = some (w.length - c)) : ∃ v4',
    outB ⟨F6 (w ++ v :: 121 :: t) c b k, LS B v1 v2 v3 v4 rest, none⟩ = some (.cont, ⟨F6 (w ++ v :: 89 :: t) w.length (w.length + 1) (w.length + 1 + 1), LS true v1 v2 (some (.int c)) v4' rest, none⟩) := by
  have hi := (inB_loop (k := k) (B := B) (v1 := v1) (v2 := v2) (v3 := some (.int c)) (rest := rest) hx 100 c b v4 (by simp; omega) (by omega)).1 _ h
  have hcw : c + (w.length - c) = w.length := by omega
  rw [hcw] at hi
  have r := run6_slice_from (x := w ++ v :: 121 :: t) (s := [89]) (c := w.length) (b := w.length + 1) (k := w.length + 2) (by omega) (by simp) (by omega) (by simp) (by simp)
  have e1 : (w ++ v :: 121 :: t).take (w.length + 1) ++ [89] ++ (w ++ v :: 121 :: t).drop (w.length + 2) = w ++ v :: 89 :: t := by
    rw [List.take_append, List.drop_append, List.take_of_length_le (by omega), List.drop_eq_nil_of_le (by omega), show w.length + 1 - w.length = 1 by omega, show w.length + 2 - w.length = 2 by omega]
    simp
  have e2 : newC w.length (w.length + 1) (w.length + 2) [89].length = w.length := by
    unfold newC
    rw [if_neg (by omega), if_neg (by omega)]
  rw [e1, e2] at r
  refine ⟨some (.int w.length), ?_⟩
  unfold F6 at hi r ⊢
  unfold outB
  simp only [List.length_append, List.length_cons, List.length_nil] at hi r ⊢
  simp! [hi, r]
theorem outB_loop : ∀ (n : Nat) (x : List Nat) (c b k : Nat) (B : Bool) (v3 v4 : Option AV), x.length < 80 → c ≤ x.length → x.count 121 < n →
    ∃ c' b' k' v3' v4', sWhile n (tK true) outB ⟨F6 x c b k, LS B v1 v2 v3 v4 rest, none⟩ = some (.next, ⟨F6 (x.take c ++ turn false (x.drop c)) c' b' k', LS (B || (fvy (x.drop c)).isSome) v1 v2 v3' v4' rest, none⟩)
  | 0, x, c, b, k, B, v3, v4, _, _, h => by omega
  | n + 1, x, c, b, k, B, v3, v4, hx, hc, h => by
    cases hf : fvy (x.drop c) with
    | none =>
      obtain ⟨b', v4', ho⟩ := outB_none (b := b) (k := k) (B := B) (v1 := v1) (v2 := v2) (v3 := v3) (v4 := v4) (rest := rest) hx hc hf
      refine ⟨c, b', k, some (.int c), v4', ?_⟩
      rw [turn_none _ hf, List.take_append_drop, while_brk ho]
      simp
    | some q =>
      obtain ⟨u, v, t, e1, e2, e3, e4⟩ := turn_fvy _ _ hf
      have hx0 : x = (x.take c ++ u) ++ v :: 121 :: t := by
        rw [List.append_assoc, ← e1, List.take_append_drop]
      have hwl : (x.take c ++ u).length = c + q := by rw [List.length_append, List.length_take, e2]; omega
      have hw1 : (x.take c ++ u).take c = x.take c := by
        rw [List.take_append_of_le_length (by rw [List.length_take]; omega), List.take_take, Nat.min_self]
      rw [e4]
      generalize hw : x.take c ++ u = w at *
      have hres : x.take c ++ (u ++ v :: 89 :: turn false t) = w ++ v :: 89 :: turn false t := by rw [← List.append_assoc, hw]
      rw [hres]
      rw [hx0] at hx hc h hf ⊢
      clear hres e1 e4 hx0
      obtain ⟨v4', ho⟩ := outB_some (c := c) (b := b) (k := k) (B := B) (v1 := v1) (v2 := v2) (v3 := v3) (v4 := v4) (rest := rest) hx (by omega) (by rw [hf]; congr 1; omega)
      have hcnt : (w ++ v :: 89 :: t).count 121 < n := by
        simp only [List.count_append, List.count_cons] at h ⊢
        simp at h ⊢
        omega
      obtain ⟨c', b', k', v3', v4'', ih⟩ := outB_loop n (w ++ v :: 89 :: t) w.length (w.length + 1) (w.length + 1 + 1) true (some (.int c)) v4' (by simpa using hx) (by simp) hcnt
      refine ⟨c', b', k', v3', v4'', ?_⟩
      unfold sWhile
      simp only [tK, Option.bind_some, if_true, ho]
      rw [ih]
      have hd : (w ++ v :: 89 :: t).drop w.length = v :: 89 :: t := by simp
      have ht : (w ++ v :: 89 :: t).take w.length = w := by simp
      have htu : turn false (v :: 89 :: t) = v :: 89 :: turn false t := by
        rw [turn_cons, if_neg (by simp), turn_cons, if_neg (by simp), show hasS vowelsG 89 = false by decide]
      rw [hd, ht, htu]
      simp
theorem phB_run (hx : x.length < 80) : ∃ c' b' k' v3' v4', phB ⟨F6 x 0 b k, LS B v1 v2 v3 v4 rest, none⟩ = some (.next, ⟨F6 (turn false x) c' b' k', LS (B || (fvy x).isSome) v1 v2 v3' v4' rest, none⟩) := by
  obtain ⟨c', b', k', v3', v4', h⟩ := outB_loop (v1 := v1) (v2 := v2) (rest := rest) 100 x 0 b k B v3 v4 hx (Nat.zero_le _) (by have := List.count_le_length (a := 121) (l := x); omega)
  refine ⟨c', b', k', v3', v4', ?_⟩
  rw [List.drop_zero, List.take_zero, List.nil_append] at h
  unfold phB
  simp only [sTry, sSeq, h, sNil]
end
noncomputable def inE : SF := (sSeq (sAssL 17 (eF 1)) (sSeq (sTry 565 (sSeq (sAssF 4 (eF 1)) (sSeq (sIf (tOr (tE (eBin gEq (eF 1) (eF 2))) (tOr (tE (eBin gNe (eBin gIdx (eF 0) (eF 1)) (eK (.str [89])))) (tK false))) (sSeq (sRaise 565) sNil) sNil) (sSeq (sAugF gAddI 1 (eK (.int 1))) (sSeq (sAssF 5 (eF 1)) (sSeq (sAssF 1 (eL 17)) (sSeq sBrk sNil))))))) (sSeq (sAssF 1 (eL 17)) (sSeq (sIf (tE (eBin gGe (eF 1) (eF 2))) (sSeq (sRaise 552) sNil) sNil) (sSeq (sAugF gAddI 1 (eK (.int 1))) sNil)))))
noncomputable def outE : SF := (sSeq (sAssL 16 (eF 1)) (sSeq (sTry 552 (sSeq (sWhile 100 (tK true) inE) (sSeq (sExpr (eMeth 2 2 s_slice_from [(eK (.str [121]))])) (sSeq sCont sNil)))) (sSeq (sAssF 1 (eL 16)) (sSeq sBrk sNil))))
noncomputable def phE : SF := (sTry 539 (sSeq (sIf (tNot (tE (eL 1))) (sSeq (sRaise 539) sNil) sNil) (sSeq (sWhile 100 (tK true) outE) sNil)))
noncomputable def back (d : Nat) : Nat := if d = 89 then 121 else d
noncomputable def f89 : List Nat → Option Nat
  | d :: t => if d = 89 then some 0 else (f89 t).map (· + 1)
  | [] => none
theorem f89_some : ∀ (l : List Nat) (q : Nat), f89 l = some q → ∃ u t, l = u ++ 89 :: t ∧ u.length = q ∧ l.map back = u ++ 121 :: t.map back
  | [], q, h => by simp [f89] at h
  | d :: t0, q, h => by
    unfold f89 at h
    by_cases hc : d = 89
    · rw [if_pos hc] at h
      cases h
      subst hc
      exact ⟨[], t0, rfl, rfl, rfl⟩
    · rw [if_neg hc] at h
      obtain ⟨q', h1, rfl⟩ := Option.map_eq_some_iff.mp h
      obtain ⟨u, t, e1, e2, e3⟩ := f89_some t0 q' h1
      refine ⟨d :: u, t, by rw [e1]; rfl, by rw [List.length_cons, e2], ?_⟩
      rw [List.map_cons, e3, show back d = d from if_neg hc]; rfl
theorem f89_none : ∀ (l : List Nat), f89 l = none → l.map back = l
  | [], h => rfl
  | d :: t0, h => by
    unfold f89 at h
    by_cases hc : d = 89
    · rw [if_pos hc] at h; cases h
    · rw [if_neg hc] at h
      rw [List.map_cons, f89_none t0 (by simpa using h), show back d = d from if_neg hc]
section
variable {x : List Nat} {c b k p1 p2 d : Nat} {B : Bool} {a2 a3 a4 a5 a6 a7 a8 a9 a10 a11 a12 a13 a14 a15 a16 a17 : Option AV}
noncomputable abbrev LE (B : Bool) (a2 a3 a4 a5 a6 a7 a8 a9 a10 a11 a12 a13 a14 a15 a16 a17 : Option AV) : List (Option AV) := [some .self, some (.bool B), a2, a3, a4, a5, a6, a7, a8, a9, a10, a11, a12, a13, a14, a15, a16, a17]
theorem inE_end (hx : x.length < 90) : inE ⟨F8 x x.length b k p1 p2, LE B a2 a3 a4 a5 a6 a7 a8 a9 a10 a11 a12 a13 a14 a15 a16 a17, none⟩ = some (.exc 552, ⟨F8 x x.length x.length k p1 p2, LE B a2 a3 a4 a5 a6 a7 a8 a9 a10 a11 a12 a13 a14 a15 a16 (some (.int x.length)), none⟩) := by
  have h1 : (x.length : Int) ≤ x.length := Int.le_refl _
  unfold F8 inE
  simp! [h1]
theorem inE_run (hx : x.length < 90) (hc : x[c]? = some d) : inE ⟨F8 x c b k p1 p2, LE B a2 a3 a4 a5 a6 a7 a8 a9 a10 a11 a12 a13 a14 a15 a16 a17, none⟩ =
    some (if d = 89 then (.brk, ⟨F8 x c c (c + 1) p1 p2, LE B a2 a3 a4 a5 a6 a7 a8 a9 a10 a11 a12 a13 a14 a15 a16 (some (.int c)), none⟩) else (.next, ⟨F8 x (c + 1) c k p1 p2, LE B a2 a3 a4 a5 a6 a7 a8 a9 a10 a11 a12 a13 a14 a15 a16 (some (.int c)), none⟩)) := by
  have hl := (List.getElem?_eq_some_iff.mp hc).1
  have h1 : ¬ (x.length : Int) ≤ c := by first | exact nLe ‹_› | omega
  have h2 : gIdx (.str x) (.int (c : Int)) = some (.str [d]) := gIdx_str (Int.natCast_nonneg _) (by omega) (by simpa using hc)
  have h3 : (c : Int) + 1 = ((c + 1 : Nat) : Int) := by omega
  have h4 : ¬ (c : Int) = x.length := by first | exact nEq ‹_› | omega
  by_cases e : d = 89
  · have g1 : decide ([d] = [89]) = true := decide_eq_true (by rw [e])
    rw [if_pos e]
    unfold F8 inE
    simp! [h1, h2, h3, h4, g1]
  · have g1 : decide ([d] = [89]) = false := decide_eq_false (by simpa using e)
    rw [if_neg e]
    unfold F8 inE
    simp! [h1, h2, h3, h4, g1]
theorem f89_drop (hc : x[c]? = some d) : f89 (x.drop c) = if d = 89 then some 0 else (f89 (x.drop (c + 1))).map (· + 1) := by
  obtain ⟨hl, he⟩ := List.getElem?_eq_some_iff.mp hc
  rw [List.drop_eq_getElem_cons hl, he]
  rfl
theorem inE_loop (hx : x.length < 90) : ∀ (n c b : Nat) (a17 : Option AV), c ≤ x.length → x.length - c < n →
    (∀ q, f89 (x.drop c) = some q → sWhile n (tK true) inE ⟨F8 x c b k p1 p2, LE B a2 a3 a4 a5 a6 a7 a8 a9 a10 a11 a12 a13 a14 a15 a16 a17, none⟩ = some (.next, ⟨F8 x (c + q) (c + q) (c + q + 1) p1 p2, LE B a2 a3 a4 a5 a6 a7 a8 a9 a10 a11 a12 a13 a14 a15 a16 (some (.int (c + q : Nat))), none⟩)) ∧
    (f89 (x.drop c) = none → sWhile n (tK true) inE ⟨F8 x c b k p1 p2, LE B a2 a3 a4 a5 a6 a7 a8 a9 a10 a11 a12 a13 a14 a15 a16 a17, none⟩ = some (.exc 552, ⟨F8 x x.length x.length k p1 p2, LE B a2 a3 a4 a5 a6 a7 a8 a9 a10 a11 a12 a13 a14 a15 a16 (some (.int x.length)), none⟩))
  | 0, c, b, a17, _, h => by omega
  | n + 1, c, b, a17, hl, h => by
    by_cases he : c = x.length
    · subst he
      rw [List.drop_length]
      refine ⟨fun q hq => by simp [f89] at hq, fun _ => ?_⟩
      unfold sWhile
      simp only [tK, Option.bind_some, if_true, inE_end hx]
    · have hlt : c < x.length := Nat.lt_of_le_of_ne hl he
      obtain ⟨d, hd⟩ := get_of (x := x) (c := c) hlt
      rw [f89_drop hd]
      have hr := inE_run (b := b) (k := k) (p1 := p1) (p2 := p2) (B := B) (a2 := a2) (a3 := a3) (a4 := a4) (a5 := a5) (a6 := a6) (a7 := a7) (a8 := a8) (a9 := a9) (a10 := a10) (a11 := a11) (a12 := a12) (a13 := a13) (a14 := a14) (a15 := a15) (a16 := a16) (a17 := a17) hx hd
      by_cases hh : d = 89
      · rw [if_pos hh]
        rw [if_pos hh] at hr
        refine ⟨fun q hq => ?_, fun q => by cases q⟩
        cases hq
        exact while_brk hr
      · rw [if_neg hh]
        rw [if_neg hh] at hr
        obtain ⟨ih1, ih2⟩ := inE_loop hx n (c + 1) c (some (.int c)) hlt (fuel1 h hlt)
        have hstep : sWhile (n + 1) (tK true) inE ⟨F8 x c b k p1 p2, LE B a2 a3 a4 a5 a6 a7 a8 a9 a10 a11 a12 a13 a14 a15 a16 a17, none⟩ = sWhile n (tK true) inE ⟨F8 x (c + 1) c k p1 p2, LE B a2 a3 a4 a5 a6 a7 a8 a9 a10 a11 a12 a13 a14 a15 a16 (some (.int c)), none⟩ := by
          conv => lhs; unfold sWhile
          simp only [tK, Option.bind_some, if_true, hr]
        rw [hstep]
        refine ⟨fun q hq => ?_, fun hq => ih2 (by simpa using hq)⟩
        obtain ⟨q', hq', rfl⟩ := Option.map_eq_some_iff.mp hq
        rw [ih1 q' hq']
        rw [show c + 1 + q' = c + (q' + 1) by omega]
theorem outE_none (hx : x.length < 90) (hc : c ≤ x.length) (h : f89 (x.drop c) = none) : outE ⟨F8 x c b k p1 p2, LE B a2 a3 a4 a5 a6 a7 a8 a9 a10 a11 a12 a13 a14 a15 a16 a17, none⟩ = some (.brk, ⟨F8 x c x.length k p1 p2, LE B a2 a3 a4 a5 a6 a7 a8 a9 a10 a11 a12 a13 a14 a15 (some (.int c)) (some (.int x.length)), none⟩) := by
  have hi := (inE_loop (k := k) (p1 := p1) (p2 := p2) (B := B) (a2 := a2) (a3 := a3) (a4 := a4) (a5 := a5) (a6 := a6) (a7 := a7) (a8 := a8) (a9 := a9) (a10 := a10) (a11 := a11) (a12 := a12) (a13 := a13) (a14 := a14) (a15 := a15) (a16 := some (.int c)) hx 100 c b a17 hc (by omega)).2 h
  unfold F8 at hi ⊢
  unfold outE
  simp! [hi]
theorem outE_some {w t : List Nat} (hx : (w ++ 89 :: t).length < 90) (hc : c ≤ w.length) (h : f89 ((w ++ 89 :: t).drop c) = some (w.length - c)) :
    outE ⟨F8 (w ++ 89 :: t) c b k p1 p2, LE B a2 a3 a4 a5 a6 a7 a8 a9 a10 a11 a12 a13 a14 a15 a16 a17, none⟩ = some (.cont, ⟨F8 (w ++ 121 :: t) w.length w.length (w.length + 1) p1 p2, LE B a2 a3 a4 a5 a6 a7 a8 a9 a10 a11 a12 a13 a14 a15 (some (.int c)) (some (.int w.length)), none⟩) := by
  have hi := (inE_loop (k := k) (p1 := p1) (p2 := p2) (B := B) (a2 := a2) (a3 := a3) (a4 := a4) (a5 := a5) (a6 := a6) (a7 := a7) (a8 := a8) (a9 := a9) (a10 := a10) (a11 := a11) (a12 := a12) (a13 := a13) (a14 := a14) (a15 := a15) (a16 := some (.int c)) hx 100 c b a17 (by simp; omega) (by omega)).1 _ h
  have hcw : c + (w.length - c) = w.length := by omega
  rw [hcw] at hi
  have r := run_slice_from (x := w ++ 89 :: t) (s := [121]) (c := w.length) (b := w.length) (k := w.length + 1) (p1 := p1) (p2 := p2) (by omega) (by simp) (by omega) (by simp) (by simp)
  have e1 : (w ++ 89 :: t).take w.length ++ [121] ++ (w ++ 89 :: t).drop (w.length + 1) = w ++ 121 :: t := by
    rw [List.take_append, List.drop_append, List.take_of_length_le (by omega), List.drop_eq_nil_of_le (by omega), Nat.sub_self, show w.length + 1 - w.length = 1 by omega]
    simp
  have e2 : newC w.length w.length (w.length + 1) [121].length = w.length := by
    unfold newC
    rw [if_neg (by omega), if_neg (by omega)]
  rw [e1, e2] at r
  unfold F8 at hi r ⊢
  unfold outE
  simp only [List.length_append, List.length_cons, List.length_nil] at hi r ⊢
  simp! [hi, r]
theorem outE_loop : ∀ (n : Nat) (x : List Nat) (c b k : Nat) (a16 a17 : Option AV), x.length < 90 → c ≤ x.length → x.count 89 < n →
    ∃ c' b' k' a16' a17', sWhile n (tK true) outE ⟨F8 x c b k p1 p2, LE B a2 a3 a4 a5 a6 a7 a8 a9 a10 a11 a12 a13 a14 a15 a16 a17, none⟩ = some (.next, ⟨F8 (x.take c ++ (x.drop c).map back) c' b' k' p1 p2, LE B a2 a3 a4 a5 a6 a7 a8 a9 a10 a11 a12 a13 a14 a15 a16' a17', none⟩)
  | 0, x, c, b, k, _, _, _, _, h => by omega
  | n + 1, x, c, b, k, a16, a17, hx, hc, h => by
    cases hf : f89 (x.drop c) with
    | none =>
      refine ⟨c, x.length, k, some (.int c), some (.int x.length), ?_⟩
      rw [f89_none _ hf, List.take_append_drop]
      exact while_brk (outE_none hx hc hf)
    | some q =>
      obtain ⟨u, t, e1, e2, e4⟩ := f89_some _ _ hf
      have hx0 : x = (x.take c ++ u) ++ 89 :: t := by
        rw [List.append_assoc, ← e1, List.take_append_drop]
      have hwl : (x.take c ++ u).length = c + q := by rw [List.length_append, List.length_take, e2]; omega
      have hw1 : (x.take c ++ u).take c = x.take c := by
        rw [List.take_append_of_le_length (by rw [List.length_take]; omega), List.take_take, Nat.min_self]
      rw [e4]
      generalize hw : x.take c ++ u = w at *
      have hres : x.take c ++ (u ++ 121 :: t.map back) = w ++ 121 :: t.map back := by rw [← List.append_assoc, hw]
      rw [hres]
      rw [hx0] at hx hc h hf ⊢
      clear hres e1 e4 hx0
      have ho := outE_some (c := c) (b := b) (k := k) (p1 := p1) (p2 := p2) (B := B) (a2 := a2) (a3 := a3) (a4 := a4) (a5 := a5) (a6 := a6) (a7 := a7) (a8 := a8) (a9 := a9) (a10 := a10) (a11 := a11) (a12 := a12) (a13 := a13) (a14 := a14) (a15 := a15) (a16 := a16) (a17 := a17) hx (by omega) (by rw [hf]; congr 1; omega)
      have hcnt : (w ++ 121 :: t).count 89 < n := by
        simp only [List.count_append, List.count_cons] at h ⊢
        simp at h ⊢
        omega
      obtain ⟨c', b', k', v3', v4'', ih⟩ := outE_loop n (w ++ 121 :: t) w.length w.length (w.length + 1) (some (.int c)) (some (.int w.length)) (by simpa using hx) (by simp) hcnt
      refine ⟨c', b', k', v3', v4'', ?_⟩
      unfold sWhile
      simp only [tK, Option.bind_some, if_true, ho]
      rw [ih]
      have hd : (w ++ 121 :: t).drop w.length = 121 :: t := by simp
      have ht : (w ++ 121 :: t).take w.length = w := by simp
      rw [hd, ht]
      rfl
theorem phE_run (hx : x.length < 90) : ∃ c' b' k' a16' a17', phE ⟨F8 x 0 b k p1 p2, LE B a2 a3 a4 a5 a6 a7 a8 a9 a10 a11 a12 a13 a14 a15 a16 a17, none⟩ = some (.next, ⟨F8 (if B then x.map back else x) c' b' k' p1 p2, LE B a2 a3 a4 a5 a6 a7 a8 a9 a10 a11 a12 a13 a14 a15 a16' a17', none⟩) := by
  cases B with
  | false =>
    refine ⟨0, b, k, a16, a17, ?_⟩
    unfold phE
    simp! []
  | true =>
    obtain ⟨c', b', k', v3', v4', h⟩ := outE_loop (p1 := p1) (p2 := p2) (B := true) (a2 := a2) (a3 := a3) (a4 := a4) (a5 := a5) (a6 := a6) (a7 := a7) (a8 := a8) (a9 := a9) (a10 := a10) (a11 := a11) (a12 := a12) (a13 := a13) (a14 := a14) (a15 := a15) 100 x 0 b k a16 a17 hx (Nat.zero_le _) (by have := List.count_le_length (a := 89) (l := x); omega)
    refine ⟨c', b', k', v3', v4', ?_⟩
    rw [List.drop_zero, List.take_zero, List.nil_append] at h
    unfold phE
    simp! [h]
end
theorem cut_le (x : List Nat) (e : Ent) : (cut x e).length ≤ x.length := List.length_take_le' _ _
theorem as0_len : ∀ e ∈ T_a_0, (repl v_as_0 e.2.2).length ≤ 8 := by
  simp only [T_a_0, List.forall_mem_cons]
  repeat' (first | exact fun _ h => nomatch h | (refine ⟨by decide, ?_⟩))
theorem as3_len : ∀ e ∈ T_a_3, (repl v_as_3 e.2.2).length ≤ 8 := by
  simp only [T_a_3, List.forall_mem_cons]
  repeat' (first | exact fun _ h => nomatch h | (refine ⟨by decide, ?_⟩))
theorem as4_len : ∀ e ∈ T_a_4, (repl v_as_4 e.2.2).length ≤ 8 := by
  simp only [T_a_4, List.forall_mem_cons]
  repeat' (first | exact fun _ h => nomatch h | (refine ⟨by decide, ?_⟩))
section
variable {x : List Nat} {c b k p1 p2 d : Nat} {B : Bool} {a2 a3 a4 a5 a6 a7 a8 a9 a10 a11 a12 a13 a14 a15 a16 a17 : Option AV}
theorem len_1a : (step1a x).length ≤ x.length + 8 := by
  unfold step1a
  cases h : bestT T_a_0 (preB x) with
  | none => dsimp only; omega
  | some e =>
    dsimp only
    split
    · have := cut_le x e
      have := as0_len e (best_suffix h).1
      rw [List.length_append]; omega
    · omega
theorem len_2 : (step2 p1 x).length ≤ x.length + 8 := by
  unfold step2
  cases h : bestT T_a_3 (preB x) with
  | none => dsimp only; omega
  | some e =>
    dsimp only
    split
    · have := cut_le x e
      have := as3_len e (best_suffix h).1
      rw [List.length_append]; omega
    · omega
theorem len_3 : (step3 p1 x).length ≤ x.length + 8 := by
  unfold step3
  cases h : bestT T_a_4 (preB x) with
  | none => dsimp only; omega
  | some e =>
    dsimp only
    split
    · have := cut_le x e
      have := as4_len e (best_suffix h).1
      rw [List.length_append]; omega
    · omega
theorem len_post : (post1b p1 x).length ≤ x.length + 2 := by
  unfold post1b
  split
  · omega
  · split
    · simp
    · split
      · rw [List.length_take]; omega
      · split
        · simp
        · omega
theorem len_1b : (step1b p1 x).length ≤ x.length + 8 := by
  unfold step1b
  cases h : bestT T_a_2 (preB x) with
  | none => dsimp only; omega
  | some e =>
    dsimp only
    have := cut_le x e
    split
    · split
      · simp; omega
      · omega
    · split
      · have := len_post (p1 := p1) (x := cut x e); omega
      · omega
theorem len_1c : (step1c x).length ≤ x.length + 8 := by
  unfold step1c
  split
  · simp; omega
  · omega
theorem len_4 : (step4 p2 x).length ≤ x.length + 8 := by
  unfold step4
  split
  · omega
  · rename_i e _
    have := cut_le x e
    split
    · split
      · omega
      · split <;> omega
    · omega
theorem len_5a : (step5a p1 p2 x).length ≤ x.length + 8 := by
  unfold step5a
  split
  · split
    · rw [List.length_take]; omega
    · omega
  · omega
theorem len_5b : (step5b p2 x).length ≤ x.length + 8 := by
  unfold step5b
  split
  · rw [List.length_take]; omega
  · omega
noncomputable def phC : SF := (sTry 539 (sSeq (sIf (tNot (tE (eMeth 2 2 s_go_out_grouping [(eK (.sset vowelsG))]))) (sSeq (sRaise 539) sNil) sNil) (sSeq (sAugF gAddI 1 (eK (.int 1))) (sSeq (sIf (tNot (tE (eMeth 2 2 s_go_in_grouping [(eK (.sset vowelsG))]))) (sSeq (sRaise 539) sNil) sNil) (sSeq (sAugF gAddI 1 (eK (.int 1))) (sSeq (sAssF 6 (eF 1)) (sSeq (sIf (tNot (tE (eMeth 2 2 s_go_out_grouping [(eK (.sset vowelsG))]))) (sSeq (sRaise 539) sNil) sNil) (sSeq (sAugF gAddI 1 (eK (.int 1))) (sSeq (sIf (tNot (tE (eMeth 2 2 s_go_in_grouping [(eK (.sset vowelsG))]))) (sSeq (sRaise 539) sNil) sNil) (sSeq (sAugF gAddI 1 (eK (.int 1))) (sSeq (sAssF 7 (eF 1)) sNil)))))))))))
noncomputable def nV (x : List Nat) (c : Nat) : Nat := nextI (hasS vowelsG) x c
noncomputable def nC (x : List Nat) (c : Nat) : Nat := nextI (fun d => !hasS vowelsG d) x c
theorem run_goV (hx : x.length < 80) (hl : c ≤ x.length) : callF 2 s_go_out_grouping (F8 x c b k p1 p2) [.self, .sset vowelsG] = some (.bool (decide (nV x c < x.length)), F8 x (nV x c) b k p1 p2) := run_go_out lenG (by omega) hl
theorem run_goC (hx : x.length < 80) (hl : c ≤ x.length) : callF 2 s_go_in_grouping (F8 x c b k p1 p2) [.self, .sset vowelsG] = some (.bool (decide (nC x c < x.length)), F8 x (nC x c) b k p1 p2) := run_go_in lenG (by omega) hl
noncomputable def regP (x : List Nat) : Nat × Nat := if nV x 0 < x.length then (if nC x (nV x 0 + 1) < x.length then (nC x (nV x 0 + 1) + 1, if nV x (nC x (nV x 0 + 1) + 1) < x.length then (if nC x (nV x (nC x (nV x 0 + 1) + 1) + 1) < x.length then nC x (nV x (nC x (nV x 0 + 1) + 1) + 1) + 1 else x.length) else x.length) else (x.length, x.length)) else (x.length, x.length)
theorem phC_run (hx : x.length < 80) {ls : List (Option AV)} : ∃ c', phC ⟨F8 x 0 b k x.length x.length, some .self :: ls, none⟩ = some (.next, ⟨F8 x c' b k (regP x).1 (regP x).2, some .self :: ls, none⟩) := by
  have r1 := run_goV (x := x) (c := 0) (b := b) (k := k) (p1 := x.length) (p2 := x.length) hx (Nat.zero_le _)
  unfold regP
  by_cases h1 : nV x 0 < x.length
  · rw [if_pos h1]
    rw [show decide (nV x 0 < x.length) = true from decide_eq_true h1] at r1
    have r2 := run_goC (x := x) (c := nV x 0 + 1) (b := b) (k := k) (p1 := x.length) (p2 := x.length) hx (by omega)
    have e1 : ((nV x 0 : Nat) : Int) + 1 = ((nV x 0 + 1 : Nat) : Int) := by omega
    generalize hc1 : nV x 0 = c1 at *
    by_cases h2 : nC x (c1 + 1) < x.length
    · rw [if_pos h2]
      rw [show decide (nC x (c1 + 1) < x.length) = true from decide_eq_true h2] at r2
      have e2 : ((nC x (c1 + 1) : Nat) : Int) + 1 = ((nC x (c1 + 1) + 1 : Nat) : Int) := by omega
      generalize hc2 : nC x (c1 + 1) = c2 at *
      have r3 := run_goV (x := x) (c := c2 + 1) (b := b) (k := k) (p1 := c2 + 1) (p2 := x.length) hx (by omega)
      by_cases h3 : nV x (c2 + 1) < x.length
      · rw [if_pos h3]
        rw [show decide (nV x (c2 + 1) < x.length) = true from decide_eq_true h3] at r3
        have e3 : ((nV x (c2 + 1) : Nat) : Int) + 1 = ((nV x (c2 + 1) + 1 : Nat) : Int) := by omega
        have hc3' := h3
        generalize hc3 : nV x (c2 + 1) = c3 at *
        have r4 := run_goC (x := x) (c := c3 + 1) (b := b) (k := k) (p1 := c2 + 1) (p2 := x.length) hx (by omega)
        by_cases h4 : nC x (c3 + 1) < x.length
        · rw [if_pos h4]
          rw [show decide (nC x (c3 + 1) < x.length) = true from decide_eq_true h4] at r4
          have e4 : ((nC x (c3 + 1) : Nat) : Int) + 1 = ((nC x (c3 + 1) + 1 : Nat) : Int) := by omega
          generalize hc4 : nC x (c3 + 1) = c4 at *
          refine ⟨c4 + 1, ?_⟩
          unfold F8 at r1 r2 r3 r4 ⊢
          unfold phC
          simp! [r1, r2, r3, r4, e1, e2, e3, e4]
        · rw [if_neg h4]
          rw [show decide (nC x (c3 + 1) < x.length) = false from decide_eq_false h4] at r4
          generalize hc4 : nC x (c3 + 1) = c4 at *
          refine ⟨c4, ?_⟩
          unfold F8 at r1 r2 r3 r4 ⊢
          unfold phC
          simp! [r1, r2, r3, r4, e1, e2, e3]
      · rw [if_neg h3]
        rw [show decide (nV x (c2 + 1) < x.length) = false from decide_eq_false h3] at r3
        refine ⟨nV x (c2 + 1), ?_⟩
        unfold F8 at r1 r2 r3 ⊢
        unfold phC
        simp! [r1, r2, r3, e1, e2]
    · rw [if_neg h2]
      rw [show decide (nC x (c1 + 1) < x.length) = false from decide_eq_false h2] at r2
      refine ⟨nC x (c1 + 1), ?_⟩
      unfold F8 at r1 r2 ⊢
      unfold phC
      simp! [r1, r2, e1]
  · rw [if_neg h1]
    rw [show decide (nV x 0 < x.length) = false from decide_eq_false h1] at r1
    refine ⟨nV x 0, ?_⟩
    unfold F8 at r1 ⊢
    unfold phC
    simp! [r1]
noncomputable def tlE : SF := (sSeq (sAssF 1 (eF 3)) (sSeq (sAssL 15 (eF 1)) (sSeq phE (sSeq (sAssF 1 (eL 15)) (sSeq (sRet (eK (.bool true))) sNil)))))
noncomputable def tlD : SF := (sSeq (sAssL 7 (eBin gSub (eF 2) (eF 1))) (sSeq (sExpr (eMeth 2 1 s_r_Step_1a [])) (sSeq (sAssF 1 (eBin gSub (eF 2) (eL 7))) (sSeq (sAssL 8 (eBin gSub (eF 2) (eF 1))) (sSeq (sExpr (eMeth 6 1 s_r_Step_1b [])) (sSeq (sAssF 1 (eBin gSub (eF 2) (eL 8))) (sSeq (sAssL 9 (eBin gSub (eF 2) (eF 1))) (sSeq (sExpr (eMeth 1 1 s_r_Step_1c [])) (sSeq (sAssF 1 (eBin gSub (eF 2) (eL 9))) (sSeq (sAssL 10 (eBin gSub (eF 2) (eF 1))) (sSeq (sExpr (eMeth 2 1 s_r_Step_2 [])) (sSeq (sAssF 1 (eBin gSub (eF 2) (eL 10))) (sSeq (sAssL 11 (eBin gSub (eF 2) (eF 1))) (sSeq (sExpr (eMeth 2 1 s_r_Step_3 [])) (sSeq (sAssF 1 (eBin gSub (eF 2) (eL 11))) (sSeq (sAssL 12 (eBin gSub (eF 2) (eF 1))) (sSeq (sExpr (eMeth 2 1 s_r_Step_4 [])) (sSeq (sAssF 1 (eBin gSub (eF 2) (eL 12))) (sSeq (sAssL 13 (eBin gSub (eF 2) (eF 1))) (sSeq (sExpr (eMeth 2 1 s_r_Step_5a [])) (sSeq (sAssF 1 (eBin gSub (eF 2) (eL 13))) (sSeq (sAssL 14 (eBin gSub (eF 2) (eF 1))) (sSeq (sExpr (eMeth 1 1 s_r_Step_5b [])) (sSeq (sAssF 1 (eBin gSub (eF 2) (eL 14))) tlE))))))))))))))))))))))))
noncomputable def tlC : SF := (sSeq (sAssF 1 (eL 3)) (sSeq (sAssF 6 (eF 2)) (sSeq (sAssF 7 (eF 2)) (sSeq (sAssL 6 (eF 1)) (sSeq phC (sSeq (sAssF 1 (eL 6)) (sSeq (sAssF 3 (eF 1)) (sSeq (sAssF 1 (eF 2)) tlD))))))))
theorem s_stem_is : s_stem = (sSeq (sAssL 1 (eK (.bool false))) (sSeq (sAssL 2 (eF 1)) (sSeq phA (sSeq (sAssF 1 (eL 2)) (sSeq (sAssL 3 (eF 1)) (sSeq phB tlC)))))) := rfl
noncomputable def stepsP (p1 p2 : Nat) (x : List Nat) : List Nat := step5b p2 (step5a p1 p2 (step4 p2 (step3 p1 (step2 p1 (step1c (step1b p1 (step1a x)))))))
theorem tlE_run (hx : x.length < 90) : ∃ c' b' k' ls', tlE ⟨F8 x c b k p1 p2, LE B a2 a3 a4 a5 a6 a7 a8 a9 a10 a11 a12 a13 a14 a15 a16 a17, none⟩ = some (.ret (.bool true), ⟨F8 (if B then x.map back else x) c' b' k' p1 p2, ls', none⟩) := by
  obtain ⟨c', b', k', a16', a17', h⟩ := phE_run (b := b) (k := k) (p1 := p1) (p2 := p2) (B := B) (a2 := a2) (a3 := a3) (a4 := a4) (a5 := a5) (a6 := a6) (a7 := a7) (a8 := a8) (a9 := a9) (a10 := a10) (a11 := a11) (a12 := a12) (a13 := a13) (a14 := a14) (a15 := some (.int 0)) (a16 := a16) (a17 := a17) hx
  refine ⟨0, b', k', LE B a2 a3 a4 a5 a6 a7 a8 a9 a10 a11 a12 a13 a14 (some (.int 0)) a16' a17', ?_⟩
  generalize (if B then x.map back else x) = z at *
  unfold F8 at h ⊢
  unfold tlE
  simp only [Int.natCast_zero] at h ⊢
  simp! [h]
theorem tlD_run (hx : x.length ≤ 16) : ∃ c' b' k' ls', tlD ⟨F8 x x.length b k p1 p2, LE B a2 a3 a4 a5 a6 a7 a8 a9 a10 a11 a12 a13 a14 a15 a16 a17, none⟩ = some (.ret (.bool true), ⟨F8 (if B then (stepsP p1 p2 x).map back else stepsP p1 p2 x) c' b' k' p1 p2, ls', none⟩) := by
  have l1 := up8 hx (len_1a (x := x))
  obtain ⟨w1, c1, b1, k1, r1⟩ := run_1a (p1 := p1) (p2 := p2) (x := x) (Nat.lt_of_le_of_lt hx (by decide)) b k
  unfold stepsP
  generalize step1a x = x1 at *
  have l2 := up8 l1 (len_1b (p1 := p1) (x := x1))
  obtain ⟨w2, c2, b2, k2, r2⟩ := run_1b (p1 := p1) (p2 := p2) (x := x1) (Nat.lt_of_le_of_lt l1 (by decide)) b1 k1
  generalize step1b p1 x1 = x2 at *
  have l3 := up8 l2 (len_1c (x := x2))
  obtain ⟨w3, c3, b3, k3, r3⟩ := run_1c (p1 := p1) (p2 := p2) (x := x2) (Nat.lt_of_le_of_lt l2 (by decide)) b2 k2
  generalize step1c x2 = x3 at *
  have l4 := up8 l3 (len_2 (p1 := p1) (x := x3))
  obtain ⟨w4, c4, b4, k4, r4⟩ := run_2 (p1 := p1) (p2 := p2) (x := x3) (Nat.lt_of_le_of_lt l3 (by decide)) b3 k3
  generalize step2 p1 x3 = x4 at *
  have l5 := up8 l4 (len_3 (p1 := p1) (x := x4))
  obtain ⟨w5, c5, b5, k5, r5⟩ := run_3 (p1 := p1) (p2 := p2) (x := x4) (Nat.lt_of_le_of_lt l4 (by decide)) b4 k4
  generalize step3 p1 x4 = x5 at *
  have l6 := up8 l5 (len_4 (p2 := p2) (x := x5))
  obtain ⟨w6, c6, b6, k6, r6⟩ := run_4 (p1 := p1) (p2 := p2) (x := x5) (Nat.lt_of_le_of_lt l5 (by decide)) b5 k5
  generalize step4 p2 x5 = x6 at *
  have l7 := up8 l6 (len_5a (p1 := p1) (p2 := p2) (x := x6))
  obtain ⟨w7, c7, b7, k7, r7⟩ := run_5a (p1 := p1) (p2 := p2) (x := x6) (Nat.lt_of_le_of_lt l6 (by decide)) b6 k6
  generalize step5a p1 p2 x6 = x7 at *
  have l8 := up8 l7 (len_5b (p2 := p2) (x := x7))
  obtain ⟨w8, c8, b8, k8, r8⟩ := run_5b (p1 := p1) (p2 := p2) (x := x7) (Nat.lt_of_le_of_lt l7 (by decide)) b7 k7
  generalize step5b p2 x7 = x8 at *
  obtain ⟨c', b', k', ls', h⟩ := tlE_run (x := x8) (c := x8.length) (b := b8) (k := k8) (p1 := p1) (p2 := p2) (B := B) (a2 := a2) (a3 := a3) (a4 := a4) (a5 := a5) (a6 := a6) (a7 := some (.int 0)) (a8 := some (.int 0)) (a9 := some (.int 0)) (a10 := some (.int 0)) (a11 := some (.int 0)) (a12 := some (.int 0)) (a13 := some (.int 0)) (a14 := some (.int 0)) (a15 := a15) (a16 := a16) (a17 := a17) (Nat.lt_of_le_of_lt l8 (by decide))
  refine ⟨c', b', k', ls', ?_⟩
  rw [← h]
  clear h l1 l2 l3 l4 l5 l6 l7 l8
  unfold F8 at r1 r2 r3 r4 r5 r6 r7 r8 ⊢
  unfold tlD
  simp! [Int.sub_self, Int.sub_zero, r1, r2, r3, r4, r5, r6, r7, r8]
end
theorem turn_length (pv : Bool) (l : List Nat) : (turn pv l).length = l.length := by
  induction l generalizing pv with
  | nil => rfl
  | cons d t ih => rw [turn_cons]; split <;> simp [ih]
theorem mem_turn {l : List Nat} (h : 89 ∉ l) : (fvy l).isSome = decide (89 ∈ turn false l) := by
  cases hf : fvy l with
  | none => rw [turn_none l hf]; simp [h]
  | some q =>
    obtain ⟨u, v, t, e1, e2, e3, e4⟩ := turn_fvy l q hf
    rw [e4]; simp
noncomputable def porterF (w : List Nat) : List Nat := if 89 ∈ turn true w then (stepsP (regP (turn true w)).1 (regP (turn true w)).2 (turn true w)).map back else stepsP (regP (turn true w)).1 (regP (turn true w)).2 (turn true w)
section
variable {x : List Nat} {c b k p1 p2 d : Nat}
theorem zC (pc R : SF) {l1 l4 l5 : Option AV} {c1 g1 g2 : Nat} {B : Bool} (r1 : pc ⟨F8 x 0 b k x.length x.length, [some .self, some (.bool B), l1, some (.int 0), l4, l5, some (.int 0), none, none, none, none, none, none, none, none, none, none, none], none⟩ = some (.next, ⟨F8 x c1 b k g1 g2, [some .self, some (.bool B), l1, some (.int 0), l4, l5, some (.int 0), none, none, none, none, none, none, none, none, none, none, none], none⟩)) :
    (sSeq (sAssF 1 (eL 3)) (sSeq (sAssF 6 (eF 2)) (sSeq (sAssF 7 (eF 2)) (sSeq (sAssL 6 (eF 1)) (sSeq pc (sSeq (sAssF 1 (eL 6)) (sSeq (sAssF 3 (eF 1)) (sSeq (sAssF 1 (eF 2)) R)))))))) ⟨F6 x c b k, LS B l1 (some (.int 0)) l4 l5 [none, none, none, none, none, none, none, none, none, none, none, none], none⟩ =
      R ⟨F8 x x.length b k g1 g2, LE B l1 (some (.int 0)) l4 l5 (some (.int 0)) none none none none none none none none none none none, none⟩ := by
  unfold F8 at r1
  unfold F6 F8
  simp only [Int.natCast_zero] at r1
  simp! [setF, r1]
theorem tlC_run (hx : x.length ≤ 16) {B : Bool} {v1 v3 v4 : Option AV} : ∃ c' b' k' ls', tlC ⟨F6 x c b k, LS B v1 (some (.int 0)) v3 v4 [none, none, none, none, none, none, none, none, none, none, none, none], none⟩ = some (.ret (.bool true), ⟨F8 (if B then (stepsP (regP x).1 (regP x).2 x).map back else stepsP (regP x).1 (regP x).2 x) c' b' k' (regP x).1 (regP x).2, ls', none⟩) := by
  obtain ⟨c1, r1⟩ := phC_run (x := x) (b := b) (k := k) (by omega) (ls := [some (.bool B), v1, some (.int 0), v3, v4, some (.int 0), none, none, none, none, none, none, none, none, none, none, none])
  obtain ⟨c', b', k', ls', h⟩ := tlD_run (x := x) (b := b) (k := k) (p1 := (regP x).1) (p2 := (regP x).2) (B := B) (a2 := v1) (a3 := some (.int 0)) (a4 := v3) (a5 := v4) (a6 := some (.int 0)) (a7 := none) (a8 := none) (a9 := none) (a10 := none) (a11 := none) (a12 := none) (a13 := none) (a14 := none) (a15 := none) (a16 := none) (a17 := none) hx
  exact ⟨c', b', k', ls', (zC phC tlD r1).trans h⟩
theorem zS (pa pb R : SF) {y z : List Nat} {c1 b1 k1 c2 b2 k2 : Nat} {B1 B2 : Bool} {l4 l5 : Option AV}
    (ra : pa ⟨F6 x 0 0 x.length, LS false (some (.int 0)) none none none [none, none, none, none, none, none, none, none, none, none, none, none], none⟩ = some (.next, ⟨F6 y c1 b1 k1, LS B1 (some (.int 0)) none none none [none, none, none, none, none, none, none, none, none, none, none, none], none⟩))
    (rb : pb ⟨F6 y 0 b1 k1, LS B1 (some (.int 0)) (some (.int 0)) none none [none, none, none, none, none, none, none, none, none, none, none, none], none⟩ = some (.next, ⟨F6 z c2 b2 k2, LS B2 (some (.int 0)) (some (.int 0)) l4 l5 [none, none, none, none, none, none, none, none, none, none, none, none], none⟩)) :
    (sSeq (sAssL 1 (eK (.bool false))) (sSeq (sAssL 2 (eF 1)) (sSeq pa (sSeq (sAssF 1 (eL 2)) (sSeq (sAssL 3 (eF 1)) (sSeq pb R)))))) ⟨F6 x 0 0 x.length, [some .self, none, none, none, none, none, none, none, none, none, none, none, none, none, none, none, none, none], none⟩ =
      R ⟨F6 z c2 b2 k2, LS B2 (some (.int 0)) (some (.int 0)) l4 l5 [none, none, none, none, none, none, none, none, none, none, none, none], none⟩ := by
  unfold F6 at ra rb ⊢
  simp only [Int.natCast_zero, LS] at ra rb ⊢
  simp! [ra, rb]
theorem run_stem (hx : x.length ≤ 16) (h89 : 89 ∉ x) : ∃ c' b' k', callF 18 s_stem (F6 x 0 0 x.length) [.self] = some (.bool true, F8 (porterF x) c' b' k' (regP (turn true x)).1 (regP (turn true x)).2) := by
  unfold porterF
  by_cases hh : x.head? = some 121
  · obtain ⟨t, rfl⟩ : ∃ t, x = 121 :: t := by
      cases x with
      | nil => simp at hh
      | cons d t => exact ⟨t, by simpa using hh⟩
    have htu : turn true (121 :: t) = 89 :: turn false t := by rw [turn_cons, if_pos ⟨rfl, rfl⟩]
    have htu2 : turn false (89 :: t) = 89 :: turn false t := by rw [turn_cons, if_neg (by simp), show hasS vowelsG 89 = false by decide]
    have ra := phA_yes (b := 0) (k := (121 :: t).length) (B := false) (v1 := some (.int 0)) (v2 := none) (v3 := none) (v4 := none) (rest := [none, none, none, none, none, none, none, none, none, none, none, none]) (t := t) (by omega)
    obtain ⟨cb, bb, kb, v3', v4', rb⟩ := phB_run (x := 89 :: t) (b := 0) (k := 1) (B := true) (v1 := some (.int 0)) (v2 := some (.int 0)) (v3 := none) (v4 := none) (rest := [none, none, none, none, none, none, none, none, none, none, none, none]) (by simp at hx ⊢; omega)
    obtain ⟨c', b', k', ls', rc⟩ := tlC_run (x := 89 :: turn false t) (c := cb) (b := bb) (k := kb) (B := true) (v1 := some (.int 0)) (v3 := v3') (v4 := v4') (by simp [turn_length] at hx ⊢; omega)
    rw [htu2, Bool.true_or] at rb
    rw [htu, if_pos (by simp)]
    rw [if_pos rfl] at rc
    refine ⟨c', b', k', ?_⟩
    have hz := zS phA phB tlC ra rb
    rw [← s_stem_is] at hz
    show (match s_stem (startSt 18 _ [.self]) with | some (.ret v, st') => some (v, st'.fs) | some (.next, st') => some (.none, st'.fs) | _ => none) = _
    rw [show startSt 18 (F6 (121 :: t) 0 0 (121 :: t).length) [.self] = ⟨F6 (121 :: t) 0 0 (121 :: t).length, [some .self, none, none, none, none, none, none, none, none, none, none, none, none, none, none, none, none, none], none⟩ from rfl, hz.trans rc]
  · have htu : turn true x = turn false x := turn_pv fun _ => hh
    have ra := phA_no (b := 0) (k := x.length) (B := false) (v1 := some (.int 0)) (v2 := none) (v3 := none) (v4 := none) (rest := [none, none, none, none, none, none, none, none, none, none, none, none]) hh (by omega)
    obtain ⟨cb, bb, kb, v3', v4', rb⟩ := phB_run (x := x) (b := 0) (k := x.length) (B := false) (v1 := some (.int 0)) (v2 := some (.int 0)) (v3 := none) (v4 := none) (rest := [none, none, none, none, none, none, none, none, none, none, none, none]) (by omega)
    rw [Bool.false_or, mem_turn h89] at rb
    rw [htu]
    obtain ⟨c', b', k', ls', rc⟩ := tlC_run (x := turn false x) (c := cb) (b := bb) (k := kb) (B := decide (89 ∈ turn false x)) (v1 := some (.int 0)) (v3 := v3') (v4 := v4') (by rw [turn_length]; exact hx)
    simp only [decide_eq_true_eq] at rc
    refine ⟨c', b', k', ?_⟩
    have hz := zS phA phB tlC ra rb
    rw [← s_stem_is] at hz
    show (match s_stem (startSt 18 _ [.self]) with | some (.ret v, st') => some (v, st'.fs) | some (.next, st') => some (.none, st'.fs) | _ => none) = _
    rw [show startSt 18 (F6 x 0 0 x.length) [.self] = ⟨F6 x 0 0 x.length, [some .self, none, none, none, none, none, none, none, none, none, none, none, none, none, none, none, none, none], none⟩ from rfl, hz.trans rc]
theorem run_init : callF F_init.names.length s_init [] [.self] = some (.none, F6 [] 0 0 0) := by
  have h : ([] : List Nat).length < 1000 := by decide
  have r : callF 2 s_set_current [] [.self, .str []] = some (.none, F6 [] 0 0 0) := by
    unfold callF
    simp! [s_set_current, F6, setF]
    rfl
  show callF 1 s_init [] [.self] = _
  unfold callF
  simp! [s_init, r]
theorem run_set (hx : x.length < 1000) : callF 2 s_set_current (F6 [] 0 0 0) [.self, .str x] = some (.none, F6 x 0 0 x.length) := by
  unfold callF F6
  simp! [s_set_current, hx, setF]
  rfl
theorem run_word (hx : x.length ≤ 16) (h89 : 89 ∉ x) : stemRun [] x = some (.str (porterF x)) := by
  obtain ⟨c', b', k', rs⟩ := run_stem hx h89
  have r1 := run_set (x := x) (by omega)
  have r2 : callF 1 s_get_current (F8 (porterF x) c' b' k' (regP (turn true x)).1 (regP (turn true x)).2) [.self] = some (.str (porterF x), F8 (porterF x) c' b' k' (regP (turn true x)).1 (regP (turn true x)).2) := by
    unfold callF F8
    simp! [s_get_current]
  have hw : callF F_stemWord.names.length s_stemWord (F6 [] 0 0 0) [.self, .str x] = some (.str (porterF x), F8 (porterF x) c' b' k' (regP (turn true x)).1 (regP (turn true x)).2) := by
    show callF 2 s_stemWord _ _ = _
    unfold callF
    generalize F8 (porterF x) c' b' k' (regP (turn true x)).1 (regP (turn true x)).2 = f8 at *
    generalize F6 x 0 0 x.length = f6 at *
    generalize F6 [] 0 0 0 = f0 at *
    simp! [s_stemWord, r1, r2, rs]
  unfold stemRun
  rw [run_init]
  dsimp only
  rw [hw]
  rfl
end
theorem vG : vowelsG = [97, 101, 105, 111, 117, 121] := by decide
theorem vW : vowelsW = [89, 97, 101, 105, 111, 117, 119, 120, 121] := by decide
theorem hasG (d : Nat) : hasS vowelsG d = isVow d := by
  rw [vG]
  simp [hasS, isVow, eq_comm]
section
variable {x : List Nat} {c d : Nat}
theorem run_vowel : callF 1 s_law_vowel [] [.str [d]] = some (.bool (isVow d), []) := by
  unfold callF
  simp! [s_law_vowel, eList, gIn, strsOf]
  rfl
noncomputable def pastBody : SF := (sSeq (sAugL gAddI 1 (eK (.int 1))) sNil)
noncomputable def pastTest : TF := (tAnd (tE (eBin gLt (eL 1) (eFun gLen [(eL 0)]))) (tAnd (tE (eBin gNe (eCall 1 1 s_law_vowel [(eBin gIdx (eL 0) (eL 1))]) (eL 2))) (tK true)))
theorem past_loop (v : Bool) (hx : x.length < 90) : ∀ (n c : Nat), c ≤ x.length → x.length - c < n →
    sWhile n pastTest pastBody ⟨[], [some (.str x), some (.int c), some (.bool v)], none⟩ = some (.next, ⟨[], [some (.str x), some (.int (nextI (fun d => isVow d == v) x c)), some (.bool v)], none⟩)
  | 0, c, _, h => by omega
  | n + 1, c, hl, h => by
    have h4 : x.length < 1000 := by first | exact toN ‹_› | exact toN8 ‹_› | omega
    unfold sWhile
    by_cases hc2 : c < x.length
    · obtain ⟨d, hd⟩ := get_of (x := x) (c := c) hc2
      have h1 : (c : Int) < x.length := by first | exact iLt ‹_› | omega
      have h2 : gIdx (.str x) (.int (c : Int)) = some (.str [d]) := gIdx_str (Int.natCast_nonneg _) h4 (by simpa using hd)
      have r := run_vowel (d := d)
      by_cases hs : isVow d = v
      · rw [nextI_stop hd (by simpa using hs)]
        have g1 : decide (isVow d = v) = true := decide_eq_true hs
        unfold pastTest pastBody
        simp! [h1, h2, h4, r, g1]
      · rw [nextI_step hd (by simpa using hs), ← past_loop v hx n (c + 1) hc2 (fuel1 h hc2)]
        have g1 : decide (isVow d = v) = false := decide_eq_false hs
        have h3 : (c : Int) + 1 = ((c + 1 : Nat) : Int) := by omega
        unfold pastTest pastBody
        simp! [h1, h2, h3, h4, r, g1]
    · have he : c = x.length := by omega
      subst he
      have h1 : ¬ (x.length : Int) < x.length := by first | exact nLt ‹_› | omega
      rw [nextI_end]
      unfold pastTest
      simp! [h1, h4]
noncomputable def pastV (v : Bool) (x : List Nat) (c : Nat) : Option Nat := if nextI (fun d => isVow d == v) x c < x.length then some (nextI (fun d => isVow d == v) x c + 1) else none
noncomputable def optAV : Option Nat → AV
  | some n => .int n
  | none => .none
theorem run_past (v : Bool) (hx : x.length < 90) (hl : c ≤ x.length) : callF 3 s_law_past [] [.str x, .int c, .bool v] = some (optAV (pastV v x c), []) := by
  have h4 : x.length < 1000 := by first | exact toN ‹_› | exact toN8 ‹_› | omega
  have h := past_loop v hx 100 c hl (by omega)
  have e : s_law_past = sSeq (sWhile 100 pastTest pastBody) (sSeq (sRet (eIf (tE (eBin gLt (eL 1) (eFun gLen [(eL 0)]))) (eBin gAdd (eL 1) (eK (.int 1))) (eK .none))) sNil) := rfl
  rw [e]
  unfold pastV
  generalize nextI (fun d => isVow d == v) x c = m at *
  unfold callF
  by_cases hm : m < x.length
  · have h1 : (m : Int) < x.length := by first | exact iLt ‹_› | omega
    have h3 : (m : Int) + 1 = ((m + 1 : Nat) : Int) := by omega
    rw [if_pos hm]
    simp! [h, h1, h3, h4, optAV]
  · have h1 : ¬ (m : Int) < x.length := by first | exact nLt ‹_› | omega
    rw [if_neg hm]
    simp! [h, h1, h4, optAV]
noncomputable def regL (x : List Nat) (c : Nat) : Option Nat := match pastV true x c with
  | none => none
  | some f => pastV false x f
theorem pastV_le {v : Bool} {f : Nat} (h : pastV v x c = some f) : f ≤ x.length := by
  unfold pastV at h
  split at h
  · cases h; omega
  · cases h
theorem run_region (hx : x.length < 90) (hl : c ≤ x.length) : callF 3 s_law_region [] [.str x, .int c] = some (optAV (regL x c), []) := by
  have r1 := run_past true hx hl
  unfold regL
  cases h : pastV true x c with
  | none =>
    rw [h] at r1
    unfold callF
    simp only [optAV] at r1 ⊢
    simp! [s_law_region, r1]
  | some f =>
    rw [h] at r1
    have r2 := run_past false hx (pastV_le h)
    unfold callF
    dsimp only
    generalize pastV false x f = g at *
    simp only [show optAV (some f) = .int f from rfl] at r1
    simp! [s_law_region, r1, r2]
noncomputable def lawEnd (x : List Nat) (E : List (List Nat)) : List Nat := E.foldl (fun f e => if endsW x e && decide (f.length < e.length) then e else f) []
noncomputable def endBody : SF := (sSeq (sIf (tAnd (tE (eEnds (eL 0) (eL 3))) (tAnd (tE (eBin gGt (eFun gLen [(eL 3)]) (eFun gLen [(eL 2)]))) (tK true))) (sSeq (sAssL 2 (eL 3)) sNil) sNil) sNil)
theorem end_loop {V : AV} : ∀ (E : List (List Nat)) (f : List Nat) (l3 : Option AV), (∀ e ∈ E, e.length < 90) → f.length < 90 → ∃ l3',
    forL 3 endBody (E.map AV.str) ⟨[], [some (.str x), some V, some (.str f), l3], none⟩ = some (.next, ⟨[], [some (.str x), some V, some (.str (E.foldl (fun f e => if endsW x e && decide (f.length < e.length) then e else f) f)), l3'], none⟩)
  | [], f, l3, _, _ => ⟨l3, rfl⟩
  | e :: E, f, l3, hE, hf => by
    have he := hE e (.head _)
    have h1 : e.length < 1000 := by first | exact toN ‹_› | exact toN8 ‹_› | omega
    have h2 : f.length < 1000 := by first | exact toN ‹_› | exact toN8 ‹_› | omega
    rw [List.map_cons, List.foldl_cons]
    unfold forL
    by_cases hc : endsW x e = true
    · by_cases hl : f.length < e.length
      · obtain ⟨l3', ih⟩ := end_loop E e (some (.str e)) (fun t ht => hE t (.tail _ ht)) he
        refine ⟨l3', ?_⟩
        rw [if_pos (by rw [hc, decide_eq_true hl]; rfl), ← ih]
        have h3 : (f.length : Int) < e.length := by first | exact iLt ‹_› | omega
        unfold endBody
        simp! [eEnds, hc, h1, h2, h3]
      · obtain ⟨l3', ih⟩ := end_loop E f (some (.str e)) (fun t ht => hE t (.tail _ ht)) hf
        refine ⟨l3', ?_⟩
        rw [if_neg (by rw [hc, decide_eq_false hl]; decide), ← ih]
        have h3 : ¬ (f.length : Int) < e.length := by first | exact nLt ‹_› | omega
        unfold endBody
        simp! [eEnds, hc, h1, h2, h3]
    · have hc : endsW x e = false := by simpa using hc
      obtain ⟨l3', ih⟩ := end_loop E f (some (.str e)) (fun t ht => hE t (.tail _ ht)) hf
      refine ⟨l3', ?_⟩
      rw [if_neg (by rw [hc]; simp), ← ih]
      unfold endBody
      simp! [eEnds, hc]
theorem run_end (E : List (List Nat)) (hE : ∀ e ∈ E, e.length < 90) : callF 4 s_law_end [] [.str x, .lst (E.map AV.str)] = some (.str (lawEnd x E), []) := by
  obtain ⟨l3', h⟩ := end_loop (x := x) (V := .lst (E.map AV.str)) E [] none hE (by simp)
  have e : s_law_end = (sSeq (sAssL 2 (eK (.str []))) (sSeq (sForL 3 (eL 1) endBody) (sSeq (sRet (eL 2)) sNil))) := rfl
  rw [e]
  unfold lawEnd
  generalize E.foldl (fun f e => if endsW x e && decide (f.length < e.length) then e else f) [] = r at *
  generalize E.map AV.str = L at *
  unfold callF
  simp! [sForL, h]
theorem endsW_iff {y : List Nat} : endsW x y = true ↔ y <:+ x := by
  unfold endsW
  rw [Bool.and_eq_true, decide_eq_true_eq, decide_eq_true_eq, List.suffix_iff_eq_drop]
  constructor
  · rintro ⟨_, h⟩; exact h.symm
  · intro h
    refine ⟨?_, h.symm⟩
    have := congrArg List.length h
    rw [List.length_drop] at this
    omega
theorem lawEnd_max (E : List (List Nat)) : (lawEnd x E = [] ∨ (lawEnd x E ∈ E ∧ lawEnd x E <:+ x)) ∧ ∀ e ∈ E, e <:+ x → e.length ≤ (lawEnd x E).length := by
  have : ∀ (E : List (List Nat)) (f : List Nat), (E.foldl (fun f e => if endsW x e && decide (f.length < e.length) then e else f) f = f ∨ (E.foldl (fun f e => if endsW x e && decide (f.length < e.length) then e else f) f ∈ E ∧ E.foldl (fun f e => if endsW x e && decide (f.length < e.length) then e else f) f <:+ x)) ∧
      f.length ≤ (E.foldl (fun f e => if endsW x e && decide (f.length < e.length) then e else f) f).length ∧ ∀ e ∈ E, e <:+ x → e.length ≤ (E.foldl (fun f e => if endsW x e && decide (f.length < e.length) then e else f) f).length := by
    intro E
    induction E with
    | nil => intro f; exact ⟨.inl rfl, Nat.le_refl _, fun e h => nomatch h⟩
    | cons t E ih =>
      intro f
      rw [List.foldl_cons]
      by_cases hc : endsW x t = true ∧ f.length < t.length
      · rw [if_pos (by rw [hc.1, decide_eq_true hc.2]; rfl)]
        obtain ⟨i1, i2, i3⟩ := ih t
        refine ⟨.inr ?_, by omega, fun e he hs => ?_⟩
        · rcases i1 with q | ⟨q1, q2⟩
          · rw [q]; exact ⟨.head _, endsW_iff.mp hc.1⟩
          · exact ⟨.tail _ q1, q2⟩
        · rcases List.mem_cons.mp he with rfl | he
          · exact i2
          · exact i3 e he hs
      · rw [if_neg (by rw [Bool.and_eq_true, decide_eq_true_eq]; exact hc)]
        obtain ⟨i1, i2, i3⟩ := ih f
        refine ⟨?_, i2, fun e he hs => ?_⟩
        · rcases i1 with q | ⟨q1, q2⟩
          · exact .inl q
          · exact .inr ⟨.tail _ q1, q2⟩
        · rcases List.mem_cons.mp he with rfl | he
          · have he2 : ¬ f.length < e.length := fun q => hc ⟨endsW_iff.mpr hs, q⟩
            omega
          · exact i3 e he hs
  obtain ⟨h1, _, h3⟩ := this E []
  exact ⟨h1, h3⟩
theorem bestT_max {T : List Ent} {p : List Nat → Bool} : (∀ t ∈ T, p t.1.reverse = true → ∃ e, bestT T p = some e ∧ t.1.length ≤ e.1.length) := by
  have : ∀ (T : List Ent) (acc : Option Ent), (∀ a, acc = some a → ∃ e, T.foldl (fun acc e => if p e.1.reverse && longer acc e then some e else acc) acc = some e ∧ a.1.length ≤ e.1.length) ∧
      ∀ t ∈ T, p t.1.reverse = true → ∃ e, T.foldl (fun acc e => if p e.1.reverse && longer acc e then some e else acc) acc = some e ∧ t.1.length ≤ e.1.length := by
    intro T
    induction T with
    | nil => intro acc; exact ⟨fun a h => ⟨a, h, Nat.le_refl _⟩, fun t h => nomatch h⟩
    | cons u T ih =>
      intro acc
      rw [List.foldl_cons]
      by_cases hc : p u.1.reverse = true ∧ longer acc u = true
      · rw [if_pos (by rw [hc.1, hc.2]; rfl)]
        obtain ⟨i1, i2⟩ := ih (some u)
        obtain ⟨e, he, hle⟩ := i1 u rfl
        refine ⟨fun a ha => ⟨e, he, ?_⟩, fun t ht hp => ?_⟩
        · subst ha
          have : a.1.length < u.1.length := by simpa [longer] using hc.2
          omega
        · rcases List.mem_cons.mp ht with rfl | ht
          · exact ⟨e, he, hle⟩
          · exact i2 t ht hp
      · rw [if_neg (by rw [Bool.and_eq_true]; exact hc)]
        obtain ⟨i1, i2⟩ := ih acc
        refine ⟨i1, fun t ht hp => ?_⟩
        rcases List.mem_cons.mp ht with rfl | ht
        · cases acc with
          | none => exact absurd ⟨hp, rfl⟩ hc
          | some a =>
            obtain ⟨e, he, hle⟩ := i1 a rfl
            refine ⟨e, he, ?_⟩
            have : ¬ a.1.length < t.1.length := fun q => hc ⟨hp, by simpa [longer] using q⟩
            omega
        · exact i2 t ht hp
  exact (this T none).2
noncomputable def sameEnds (T : List Ent) (E : List (List Nat)) : Bool := T.all (fun t => t.1.isEmpty || E.contains t.1) && E.all fun e => T.any fun t => t.1 == e
theorem lawEnd_best {T : List Ent} {E : List (List Nat)} (h : sameEnds T E = true) : lawEnd x E = (match bestT T (preB x) with | some e => e.1 | none => []) := by
  unfold sameEnds at h
  rw [Bool.and_eq_true, List.all_eq_true, List.all_eq_true] at h
  obtain ⟨hT, hE⟩ := h
  obtain ⟨m1, m2⟩ := lawEnd_max (x := x) E
  have inT : ∀ e ∈ E, ∃ t ∈ T, t.1 = e := fun e he => by
    obtain ⟨t, ht, q⟩ := List.any_eq_true.mp (hE e he)
    exact ⟨t, ht, by simpa using q⟩
  have pre : ∀ s : List Nat, s <:+ x → preB x s.reverse = true := fun s hs => List.isPrefixOf_iff_prefix.mpr (List.reverse_prefix.mpr hs)
  cases hb : bestT T (preB x) with
  | none =>
    dsimp only
    rcases m1 with q | ⟨q1, q2⟩
    · exact q
    · obtain ⟨t, ht, e⟩ := inT _ q1
      obtain ⟨e', he', _⟩ := bestT_max t ht (pre _ (e ▸ q2))
      rw [hb] at he'; cases he'
  | some b =>
    dsimp only
    obtain ⟨hm, hs⟩ := best_suffix hb
    have hle : (lawEnd x E).length ≤ b.1.length := by
      rcases m1 with q | ⟨q1, q2⟩
      · rw [q]; exact Nat.zero_le _
      · obtain ⟨t, ht, e⟩ := inT _ q1
        obtain ⟨e', he', hl⟩ := bestT_max t ht (pre _ (e ▸ q2))
        rw [hb] at he'; cases he'
        rw [← e]; exact hl
    have hge : b.1.length ≤ (lawEnd x E).length := by
      have := hT b hm
      rw [Bool.or_eq_true] at this
      rcases this with q | q
      · rw [List.isEmpty_iff.mp q]; exact Nat.zero_le _
      · exact m2 _ (List.contains_iff_mem.mp q) hs
    have hsuf : lawEnd x E <:+ x := by
      rcases m1 with q | ⟨q1, q2⟩
      · rw [q]; exact List.nil_suffix
      · exact q2
    rw [List.suffix_iff_eq_drop.mp hsuf, List.suffix_iff_eq_drop.mp hs, Nat.le_antisymm hle hge]
end
section
variable {x : List Nat} {c d : Nat}
theorem hasW (d : Nat) : hasS vowelsW d = (isVow d || [[119], [120], [89]].any fun z => decide (z = [d])) := by
  rw [vW]
  simp only [hasS, isVow, List.any_cons, List.any_nil, List.cons.injEq, and_true, Bool.or_false]
  by_cases h1 : d = 89
  · subst h1; rfl
  · by_cases h2 : d = 119
    · subst h2; rfl
    · by_cases h3 : d = 120
      · subst h3; rfl
      · simp [h1, h2, h3, eq_comm]
theorem run_short (hx : x.length < 90) : callF 4 s_law_short [] [.str x] = some (.bool (shortP x.reverse), []) := by
  have h4 : x.length < 1000 := by first | exact toN ‹_› | exact toN8 ‹_› | omega
  by_cases h3 : x.length < 3
  · have h3' : (x.length : Int) < 3 := by omega
    have hsh : shortP x.reverse = false := by
      match x, h3 with
      | [], _ => rfl
      | [a], _ => simp only [List.reverse_cons, List.reverse_nil, List.nil_append, shortP]; split <;> rfl
      | [a, b], _ =>
        simp only [List.reverse_cons, List.reverse_nil, List.nil_append, List.cons_append, shortP]
        split
        · rfl
        · split <;> rfl
    rw [hsh]
    unfold callF
    simp! [s_law_short, h4, h3']
  · have h3' : ¬ (x.length : Int) < 3 := by omega
    obtain ⟨n, hn⟩ : ∃ n, x.length = n + 3 := ⟨x.length - 3, by omega⟩
    obtain ⟨a, ha⟩ := get_of (x := x) (c := n) (by omega)
    obtain ⟨b, hb⟩ := get_of (x := x) (c := n + 1) (by omega)
    obtain ⟨e, he⟩ := get_of (x := x) (c := n + 2) (by omega)
    have ga : gIdx (.str x) (.int ((x.length : Int) - 3)) = some (.str [a]) := gIdx_str (by omega) h4 (by rw [show ((x.length : Int) - 3).toNat = n by omega]; exact ha)
    have gb : gIdx (.str x) (.int ((x.length : Int) - 2)) = some (.str [b]) := gIdx_str (by omega) h4 (by rw [show ((x.length : Int) - 2).toNat = n + 1 by omega]; exact hb)
    have ge : gIdx (.str x) (.int ((x.length : Int) - 1)) = some (.str [e]) := gIdx_str (by omega) h4 (by rw [show ((x.length : Int) - 1).toNat = n + 2 by omega]; exact he)
    have hrev : x.reverse = e :: b :: a :: (x.take n).reverse := by
      have t0 : x = x.take (n + 3) := by rw [List.take_of_length_le (by omega)]
      conv => lhs; rw [t0]
      rw [take_rev he, take_rev hb, take_rev ha]
    have hsh : shortP x.reverse = (!isVow a && (isVow b && (!isVow e && !([[119], [120], [89]].any fun z => decide (z = [e]))))) := by
      rw [hrev]
      simp only [shortP, hasG, hasW]
      cases isVow e <;> cases isVow b <;> cases isVow a <;> cases ([[119], [120], [89]].any fun z => decide (z = [e])) <;> rfl
    have ra := run_vowel (d := a)
    have rb := run_vowel (d := b)
    have re := run_vowel (d := e)
    have gn : gNotIn (.str [e]) (.lst [.str [119], .str [120], .str [89]]) = some (.bool (!([[119], [120], [89]].any fun z => decide (z = [e])))) := rfl
    rw [hsh]
    generalize ([[119], [120], [89]].any fun z => decide (z = [e])) = w at *
    unfold callF
    cases hva : isVow a with
    | true =>
      rw [hva] at ra
      simp! [s_law_short, sAss3, h4, h3', ga, gb, ge, ra, Bool.false_and]
    | false =>
      rw [hva] at ra
      cases hvb : isVow b with
      | false =>
        rw [hvb] at rb
        simp! [s_law_short, sAss3, h4, h3', ga, gb, ge, ra, rb, Bool.false_and, Bool.true_and]
      | true =>
        rw [hvb] at rb
        cases hve : isVow e with
        | true =>
          rw [hve] at re
          simp! [s_law_short, sAss3, h4, h3', ga, gb, ge, ra, rb, re, Bool.false_and, Bool.true_and]
        | false =>
          rw [hve] at re
          simp! [s_law_short, sAss3, h4, h3', ga, gb, ge, ra, rb, re, Bool.false_and, Bool.true_and, eList, gn]
noncomputable abbrev pairsV (ps : List (List Nat × List Nat)) : List AV := ps.map fun p => .tup [.str p.1, .str p.2]
theorem pairsOf_map : ∀ ps : List (List Nat × List Nat), pairsOf (pairsV ps) = some ps
  | [] => rfl
  | (a, b) :: r => by
    show (pairsOf (pairsV r)).map _ = _
    rw [pairsOf_map r]; rfl
theorem eFirsts_is {ps : List (List Nat × List Nat)} {st : St} (h : st.ls[(1 : Nat)]? = some (some (.lst (pairsV ps)))) (hl : ps.length ≤ 1000) : eFirsts 1 st = some (.lst ((ps.map Prod.fst).map AV.str), st) := by
  unfold eFirsts eCompP
  rw [h]
  dsimp only
  rw [pairsOf_map]
  simp only [Option.bind_some]
  rw [if_pos ⟨trivial, hl⟩]
  have hfl : ps.filter ((fun _ _ => true : St → List Nat × List Nat → Bool) st) = ps := List.filter_eq_self.mpr fun _ _ => rfl
  rw [hfl, List.map_map]; rfl
theorem eSeconds_is {ps : List (List Nat × List Nat)} {st : St} {e : List Nat} (h : st.ls[(1 : Nat)]? = some (some (.lst (pairsV ps)))) (hc : st.cv = some (.str e)) (hl : ps.length ≤ 1000) : eSeconds 1 st = some (.lst ((ps.filter fun q => decide (q.1 = e)).map fun q => AV.str q.2), st) := by
  unfold eSeconds eCompP
  rw [h]
  dsimp only
  rw [pairsOf_map]
  simp only [Option.bind_some]
  have hg : gEnd st = true := by unfold gEnd; rw [hc]
  rw [if_pos ⟨hg, hl⟩]
  have hp : pEnd st = fun q => decide (q.1 = e) := by funext q; unfold pEnd; rw [hc]
  rw [hp]
noncomputable def rowsF (ps : List (List Nat × List Nat)) (f : Nat) (x : List Nat) : List Nat := if lawEnd x (ps.map Prod.fst) = [] ∨ x.length - (lawEnd x (ps.map Prod.fst)).length < f then x else
  x.take (x.length - (lawEnd x (ps.map Prod.fst)).length) ++ (((ps.filter fun q => decide (q.1 = lawEnd x (ps.map Prod.fst))).head?).map Prod.snd).getD []
theorem lawEnd_len (E : List (List Nat)) : (lawEnd x E).length ≤ x.length := by
  rcases (lawEnd_max (x := x) E).1 with q | ⟨_, q⟩
  · rw [q]; exact Nat.zero_le _
  · exact q.length_le
theorem run_rows {ps : List (List Nat × List Nat)} {f : Nat} (hx : x.length < 90) (hl : ps.length ≤ 1000) (h1 : ∀ e ∈ ps.map Prod.fst, e.length < 90) (h2 : ∀ q ∈ ps, q.2.length < 90) :
    callF 3 s_law_rows [] [.str x, .lst (pairsV ps), .int f] = some (.str (rowsF ps f x), []) := by
  have h4 : x.length < 1000 := by first | exact toN ‹_› | exact toN8 ‹_› | omega
  have re := run_end (x := x) (ps.map Prod.fst) h1
  have hle := lawEnd_len (x := x) (ps.map Prod.fst)
  have hm := (lawEnd_max (x := x) (ps.map Prod.fst)).1
  have rf := eFirsts_is (ps := ps) (st := ⟨[], [some (.str x), some (.lst (pairsV ps)), some (.int f)], none⟩) rfl hl
  unfold rowsF
  generalize he : lawEnd x (ps.map Prod.fst) = e at *
  have rs := eSeconds_is (ps := ps) (st := ⟨[], [some (.str x), some (.lst (pairsV ps)), some (.int f)], some (.str e)⟩) rfl rfl hl
  have h5 : e.length < 1000 := by first | exact toN ‹_› | exact toN8 ‹_› | omega
  have hid : (ps.map Prod.fst).map AV.str = (ps.map Prod.fst).map AV.str := rfl
  generalize (ps.map Prod.fst).map AV.str = fv at *
  generalize hpv : pairsV ps = pv at *
  by_cases hz : e = []
  · rw [if_pos (.inl hz)]
    have g1 : decide (e = []) = true := decide_eq_true hz
    unfold callF
    simp! [s_law_rows, sAssC, eCel, rf, re, g1]
  · have g1 : decide (e = []) = false := decide_eq_false hz
    by_cases hf : x.length - e.length < f
    · rw [if_pos (.inr hf)]
      have h3 : (x.length : Int) - e.length < f := by omega
      unfold callF
      simp! [s_law_rows, sAssC, eCel, rf, re, g1, h3, h4, h5]
    · rw [if_neg (by simp [hz, hf])]
      have h3 : ¬ (x.length : Int) - e.length < f := by omega
      have h6 : 0 ≤ (x.length : Int) - e.length ∧ (x.length : Int) - e.length ≤ x.length ∧ x.length < 1000 := by first | exact sl6 (k := e.length) ‹_› ‹_› | exact sl6 (k := e.length) ‹_› (w90 ‹_›) | exact sl6 (k := e.length) (Nat.le_trans (by decide) hle) ‹_› | (omega)
      have h7 : ((x.length : Int) - e.length).toNat = x.length - e.length := sl7 _ e.length
      obtain ⟨q, r, hq⟩ : ∃ q r, ps.filter (fun q => decide (q.1 = e)) = q :: r := by
        rcases hm with m | ⟨m, _⟩
        · exact absurd m hz
        · obtain ⟨q, hq, he2⟩ := List.mem_map.mp m
          have : q ∈ ps.filter (fun q => decide (q.1 = e)) := List.mem_filter.mpr ⟨hq, decide_eq_true he2⟩
          cases hl : ps.filter (fun q => decide (q.1 = e)) with
          | nil => rw [hl] at this; cases this
          | cons a b => exact ⟨a, b, rfl⟩
      rw [hq] at rs ⊢
      have hqm : q ∈ ps := (List.mem_filter.mp (show q ∈ ps.filter (fun q => decide (q.1 = e)) by rw [hq]; exact .head _)).1
      have hq2 := h2 q hqm
      have h8 : (x.take (x.length - e.length)).length + q.2.length ≤ 1000 := by rw [List.length_take]; omega
      have hidx : gIdx (.lst ((q :: r).map fun q => AV.str q.2)) (.int 0) = some (.str q.2) := by
        rw [List.map_cons]; unfold gIdx; dsimp only; rw [if_pos ⟨by decide, by decide⟩]; rfl
      generalize ((q :: r).map fun q => AV.str q.2) = sv at *
      simp only [List.head?_cons, Option.map_some, Option.getD_some]
      unfold callF
      simp! [s_law_rows, sAssC, eCel, eSliceNS, rf, re, g1, h3, h4, h5, h6, h7, and_self, rs, hidx, h8]
end
noncomputable def LL (x : List Nat) (a1 a2 : Option AV) (p1 p2 : Nat) (a5 a6 : Option AV) (cv : Option AV) : St := ⟨[], [some (.str x), a1, a2, some (.int p1), some (.int p2), a5, a6], cv⟩
noncomputable def E1a : List (List Nat) := [[115, 115, 101, 115], [105, 101, 115], [115, 115], [115]]
noncomputable def E1b : List (List Nat) := [[101, 101, 100], [101, 100], [105, 110, 103]]
noncomputable def E1p : List (List Nat) := [[97, 116], [98, 108], [105, 122]]
noncomputable def E1q : List (List Nat) := [[98, 98], [100, 100], [102, 102], [103, 103], [109, 109], [110, 110], [112, 112], [114, 114], [116, 116]]
noncomputable def E4 : List (List Nat) := [[97, 108], [97, 110, 99, 101], [101, 110, 99, 101], [101, 114], [105, 99], [97, 98, 108, 101], [105, 98, 108, 101], [97, 110, 116], [101, 109, 101, 110, 116], [109, 101, 110, 116], [101, 110, 116], [111, 117], [105, 115, 109], [97, 116, 101], [105, 116, 105], [111, 117, 115], [105, 118, 101], [105, 122, 101], [105, 111, 110]]
noncomputable def PS2 : List (List Nat × List Nat) := [([116, 105, 111, 110, 97, 108], [116, 105, 111, 110]), ([101, 110, 99, 105], [101, 110, 99, 101]), ([97, 110, 99, 105], [97, 110, 99, 101]), ([97, 98, 108, 105], [97, 98, 108, 101]), ([101, 110, 116, 108, 105], [101, 110, 116]), ([101, 108, 105], [101]), ([105, 122, 101, 114], [105, 122, 101]), ([105, 122, 97, 116, 105, 111, 110], [105, 122, 101]), ([97, 116, 105, 111, 110, 97, 108], [97, 116, 101]), ([97, 116, 105, 111, 110], [97, 116, 101]), ([97, 116, 111, 114], [97, 116, 101]), ([97, 108, 105, 115, 109], [97, 108]), ([97, 108, 105, 116, 105], [97, 108]), ([97, 108, 108, 105], [97, 108]), ([102, 117, 108, 110, 101, 115, 115], [102, 117, 108]), ([111, 117, 115, 108, 105], [111, 117, 115]), ([111, 117, 115, 110, 101, 115, 115], [111, 117, 115]), ([105, 118, 101, 110, 101, 115, 115], [105, 118, 101]), ([105, 118, 105, 116, 105], [105, 118, 101]), ([98, 105, 108, 105, 116, 105], [98, 108, 101])]
noncomputable def PS3 : List (List Nat × List Nat) := [([105, 99, 97, 116, 101], [105, 99]), ([97, 116, 105, 118, 101], []), ([97, 108, 105, 122, 101], [97, 108]), ([105, 99, 105, 116, 105], [105, 99]), ([105, 99, 97, 108], [105, 99]), ([102, 117, 108], []), ([110, 101, 115, 115], [])]
theorem ps2_is : v_law_second = .lst (pairsV PS2) := rfl
theorem ps3_is : v_law_third = .lst (pairsV PS3) := rfl
theorem e4_is : v_law_fourth = .lst (E4.map AV.str) := rfl
theorem gIn2 (e a b : List Nat) : gIn (.str e) (.lst [.str a, .str b]) = some (.bool (decide (a = e) || (decide (b = e) || false))) := rfl
section
variable {x : List Nat} {p1 p2 c d : Nat} {a1 a2 a5 a6 cv : Option AV} {R : SF}
theorem eVowels_is {f : EF} {st : St} (hf : f st = some (.str x, st)) (hl : x.length ≤ 1000) : eVowels f st = some (.lst ((x.filter isVow).map fun d => .str [d]), st) := by
  unfold eVowels eCompS
  rw [hf]
  dsimp only
  rw [if_pos ⟨rfl, hl⟩]
theorem vow_empty : ((x.filter isVow).map fun d => AV.str [d]).isEmpty = !x.any isVow := by
  induction x with
  | nil => rfl
  | cons d t ih =>
    rw [List.filter_cons, List.any_cons]
    cases hv : isVow d with
    | true => simp
    | false => simpa using ih
noncomputable def lc1 (R : SF) : SF := (sSeq (sAssL 5 (eCall 4 2 s_law_end [(eL 0), (eList [(eK (.str [115, 115, 101, 115])), (eK (.str [105, 101, 115])), (eK (.str [115, 115])), (eK (.str [115]))])])) (sSeq (sIf (tE (eBin gIn (eL 5) (eList [(eK (.str [115, 115, 101, 115])), (eK (.str [105, 101, 115]))]))) (sSeq (sAssL 0 (eSliceNS (eL 0) (eBin gSub (eFun gLen [(eL 0)]) (eK (.int 2))))) sNil) (sSeq (sIf (tE (eBin gEq (eL 5) (eK (.str [115])))) (sSeq (sAssL 0 (eSliceNS (eL 0) (eBin gSub (eFun gLen [(eL 0)]) (eK (.int 1))))) sNil) sNil) sNil)) R))
noncomputable def law1a (x : List Nat) : List Nat := if lawEnd x E1a = [115, 115, 101, 115] ∨ lawEnd x E1a = [105, 101, 115] then x.take (x.length - 2) else if lawEnd x E1a = [115] then x.take (x.length - 1) else x
theorem lc1_run (hx : x.length < 90) : ∃ a5', lc1 R (LL x a1 a2 p1 p2 a5 a6 cv) = R (LL (law1a x) a1 a2 p1 p2 a5' a6 cv) := by
  have h4 : x.length < 1000 := by first | exact toN ‹_› | exact toN8 ‹_› | omega
  have re : callF 4 s_law_end [] [.str x, .lst [.str [115, 115, 101, 115], .str [105, 101, 115], .str [115, 115], .str [115]]] = _ := run_end (x := x) E1a (by decide)
  have hle := lawEnd_len (x := x) E1a
  unfold law1a
  generalize lawEnd x E1a = e at *
  refine ⟨some (.str e), ?_⟩
  have hg := gIn2 e [115, 115, 101, 115] [105, 101, 115]
  by_cases q1 : e = [115, 115, 101, 115]
  · have q : decide ([115, 115, 101, 115] = e) = true := decide_eq_true q1.symm
    rw [q, Bool.true_or] at hg
    rw [if_pos (.inl q1)]
    rw [q1] at hle
    have h6 : 0 ≤ (x.length : Int) - 2 ∧ (x.length : Int) - 2 ≤ x.length ∧ x.length < 1000 := by first | exact sl6 (k := 2) ‹_› ‹_› | exact sl6 (k := 2) ‹_› (w90 ‹_›) | exact sl6 (k := 2) (Nat.le_trans (by decide) hle) ‹_› | (simp at hle; omega)
    have h7 : ((x.length : Int) - 2).toNat = x.length - 2 := sl7 _ 2
    unfold lc1 LL
    simp! [re, hg, eList, eSliceNS, h4, h6, h7, and_self]
  · have q : decide ([115, 115, 101, 115] = e) = false := decide_eq_false fun w => q1 w.symm
    by_cases q2 : e = [105, 101, 115]
    · have q' : decide ([105, 101, 115] = e) = true := decide_eq_true q2.symm
      rw [q, q', Bool.false_or, Bool.true_or] at hg
      rw [if_pos (.inr q2)]
      rw [q2] at hle
      have h6 : 0 ≤ (x.length : Int) - 2 ∧ (x.length : Int) - 2 ≤ x.length ∧ x.length < 1000 := by first | exact sl6 (k := 2) ‹_› ‹_› | exact sl6 (k := 2) ‹_› (w90 ‹_›) | exact sl6 (k := 2) (Nat.le_trans (by decide) hle) ‹_› | (simp at hle; omega)
      have h7 : ((x.length : Int) - 2).toNat = x.length - 2 := sl7 _ 2
      unfold lc1 LL
      simp! [re, hg, eList, eSliceNS, h4, h6, h7, and_self]
    · have q' : decide ([105, 101, 115] = e) = false := decide_eq_false fun w => q2 w.symm
      rw [q, q', Bool.false_or, Bool.false_or] at hg
      rw [if_neg (by simp [q1, q2])]
      by_cases q3 : e = [115]
      · have q'' : decide (e = [115]) = true := decide_eq_true q3
        rw [if_pos q3]
        rw [q3] at hle
        have h6 : 0 ≤ (x.length : Int) - 1 ∧ (x.length : Int) - 1 ≤ x.length ∧ x.length < 1000 := by first | exact sl6 (k := 1) ‹_› ‹_› | exact sl6 (k := 1) ‹_› (w90 ‹_›) | exact sl6 (k := 1) (Nat.le_trans (by decide) hle) ‹_› | (simp at hle; omega)
        have h7 : ((x.length : Int) - 1).toNat = x.length - 1 := sl7 _ 1
        unfold lc1 LL
        simp! [re, hg, eList, eSliceNS, h4, h6, h7, and_self, q'']
      · have q'' : decide (e = [115]) = false := decide_eq_false q3
        rw [if_neg q3]
        unfold lc1 LL
        simp! [re, hg, eList, q'']
noncomputable def lc2 (R : SF) : SF := (sSeq (sAssL 5 (eCall 4 2 s_law_end [(eL 0), (eList [(eK (.str [101, 101, 100])), (eK (.str [101, 100])), (eK (.str [105, 110, 103]))])])) (sSeq (sAssL 6 (eSliceNS (eL 0) (eBin gSub (eFun gLen [(eL 0)]) (eFun gLen [(eL 5)])))) (sSeq (sIf (tE (eBin gEq (eL 5) (eK (.str [101, 101, 100])))) (sSeq (sIf (tE (eBin gGe (eFun gLen [(eL 6)]) (eL 3))) (sSeq (sAssL 0 (eBin gAdd (eL 6) (eK (.str [101, 101])))) sNil) sNil) sNil) (sSeq (sIf (tAnd (tE (eBin gNe (eL 5) (eK (.str [])))) (tAnd (tE (eBin gNe (eVowels (eL 6)) (eList []))) (tK true))) (sSeq (sAssL 0 (eL 6)) (sSeq (sIf (tE (eBin gNe (eCall 4 2 s_law_end [(eL 0), (eList [(eK (.str [97, 116])), (eK (.str [98, 108])), (eK (.str [105, 122]))])]) (eK (.str [])))) (sSeq (sAssL 0 (eBin gAdd (eL 0) (eK (.str [101])))) sNil) (sSeq (sIf (tE (eBin gNe (eCall 4 2 s_law_end [(eL 0), (eList [(eK (.str [98, 98])), (eK (.str [100, 100])), (eK (.str [102, 102])), (eK (.str [103, 103])), (eK (.str [109, 109])), (eK (.str [110, 110])), (eK (.str [112, 112])), (eK (.str [114, 114])), (eK (.str [116, 116]))])]) (eK (.str [])))) (sSeq (sAssL 0 (eSliceNS (eL 0) (eBin gSub (eFun gLen [(eL 0)]) (eK (.int 1))))) sNil) (sSeq (sIf (tAnd (tE (eBin gEq (eFun gLen [(eL 0)]) (eL 3))) (tAnd (tE (eCall 4 1 s_law_short [(eL 0)])) (tK true))) (sSeq (sAssL 0 (eBin gAdd (eL 0) (eK (.str [101])))) sNil) sNil) sNil)) sNil)) sNil)) sNil) sNil)) R)))
noncomputable def lawPost (p1 : Nat) (y : List Nat) : List Nat := if lawEnd y E1p ≠ [] then y ++ [101] else if lawEnd y E1q ≠ [] then y.take (y.length - 1) else if y.length = p1 ∧ shortP y.reverse = true then y ++ [101] else y
noncomputable def law1b (p1 : Nat) (x : List Nat) : List Nat := if lawEnd x E1b = [101, 101, 100] then (if p1 ≤ (x.take (x.length - (lawEnd x E1b).length)).length then x.take (x.length - (lawEnd x E1b).length) ++ [101, 101] else x)
  else if lawEnd x E1b ≠ [] ∧ (x.take (x.length - (lawEnd x E1b).length)).any isVow = true then lawPost p1 (x.take (x.length - (lawEnd x E1b).length)) else x
theorem lc2_run (hx : x.length < 90) : ∃ a5' a6', lc2 R (LL x a1 a2 p1 p2 a5 a6 cv) = R (LL (law1b p1 x) a1 a2 p1 p2 a5' a6' cv) := by
  have h4 : x.length < 1000 := by first | exact toN ‹_› | exact toN8 ‹_› | omega
  have re : callF 4 s_law_end [] [.str x, .lst [.str [101, 101, 100], .str [101, 100], .str [105, 110, 103]]] = _ := run_end (x := x) E1b (by decide)
  have hle := lawEnd_len (x := x) E1b
  unfold law1b
  generalize lawEnd x E1b = e at *
  have h5 : e.length < 1000 := by first | exact toN ‹_› | exact toN8 ‹_› | omega
  have h6 : 0 ≤ (x.length : Int) - e.length ∧ (x.length : Int) - e.length ≤ x.length ∧ x.length < 1000 := by first | exact sl6 (k := e.length) ‹_› ‹_› | exact sl6 (k := e.length) ‹_› (w90 ‹_›) | exact sl6 (k := e.length) (Nat.le_trans (by decide) hle) ‹_› | (omega)
  have h7 : ((x.length : Int) - e.length).toNat = x.length - e.length := sl7 _ e.length
  have hyl : (x.take (x.length - e.length)).length = x.length - e.length := takL _ _
  generalize hy : x.take (x.length - e.length) = y at *
  have h8 : y.length < 1000 := by first | exact toN ‹_› | exact toN8 ‹_› | exact toN (hyl ▸ Nat.lt_of_le_of_lt (Nat.sub_le _ _) hx) | omega
  refine ⟨some (.str e), some (.str y), ?_⟩
  by_cases q1 : e = [101, 101, 100]
  · rw [if_pos q1]
    have q : decide (e = [101, 101, 100]) = true := decide_eq_true q1
    by_cases hp : p1 ≤ y.length
    · have hp' : (p1 : Int) ≤ y.length := by first | exact iLe ‹_› | omega
      rw [if_pos hp]
      have h9 : y.length + 2 ≤ 1000 := toN2 (hyl ▸ Nat.lt_of_le_of_lt (Nat.sub_le _ _) hx)
      unfold lc2 LL
      simp! [re, eList, eSliceNS, h4, h5, h6, h7, hy, h8, and_self, q, hp', h9]
    · have hp' : ¬ (p1 : Int) ≤ y.length := by first | exact nLe ‹_› | omega
      rw [if_neg hp]
      unfold lc2 LL
      simp! [re, eList, eSliceNS, h4, h5, h6, h7, hy, h8, and_self, q, hp']
  · rw [if_neg q1]
    have q : decide (e = [101, 101, 100]) = false := decide_eq_false q1
    by_cases q0 : e = []
    · rw [if_neg (by simp [q0])]
      have q0' : decide (e = []) = true := decide_eq_true q0
      unfold lc2 LL
      simp! [re, eList, eSliceNS, h4, h5, h6, h7, hy, h8, and_self, q, q0']
    · have q0' : decide (e = []) = false := decide_eq_false q0
      have gv := vow_empty (x := y)
      have hvw : ∀ (l : List (Option AV)) (cv : Option AV), l[(6 : Nat)]? = some (some (.str y)) → eVowels (eL 6) ⟨[], l, cv⟩ = some (.lst ((y.filter isVow).map fun d => .str [d]), ⟨[], l, cv⟩) := fun l cv h => eVowels_is (by unfold eL; rw [h]) (by omega)
      have hv1 := hvw [some (.str x), a1, a2, some (.int p1), some (.int p2), some (.str e), some (.str y)] cv rfl
      generalize ((y.filter isVow).map fun d => AV.str [d]) = yv at *
      by_cases ha : y.any isVow = true
      · rw [ha, Bool.not_true] at gv
        rw [if_pos ⟨q0, ha⟩]
        have rp : callF 4 s_law_end [] [.str y, .lst [.str [97, 116], .str [98, 108], .str [105, 122]]] = _ := run_end (x := y) E1p (by decide)
        have rq : callF 4 s_law_end [] [.str y, .lst [.str [98, 98], .str [100, 100], .str [102, 102], .str [103, 103], .str [109, 109], .str [110, 110], .str [112, 112], .str [114, 114], .str [116, 116]]] = _ := run_end (x := y) E1q (by decide)
        have rs := run_short (x := y) (by omega)
        have hle2 := lawEnd_len (x := y) E1q
        unfold lawPost
        generalize lawEnd y E1p = e1 at *
        generalize lawEnd y E1q = e2 at *
        have h9 : y.length + 1 ≤ 1000 := by omega
        by_cases g1 : e1 = []
        · have g1' : decide (e1 = []) = true := decide_eq_true g1
          rw [if_neg (by simp [g1])]
          by_cases g2 : e2 = []
          · have g2' : decide (e2 = []) = true := decide_eq_true g2
            rw [if_neg (by simp [g2])]
            by_cases g3 : y.length = p1
            · subst g3
              have g3' : decide ((y.length : Int) = y.length) = true := decide_eq_true rfl
              by_cases g4 : shortP y.reverse = true
              · rw [g4] at rs
                rw [if_pos ⟨rfl, g4⟩]
                unfold lc2 LL
                simp! [re, eList, eSliceNS, h4, h5, h6, h7, hy, h8, and_self, q, q0', hv1, gv, rp, rq, rs, g1', g2', h9, Nat.zero_add]
              · have g4 : shortP y.reverse = false := by simpa using g4
                rw [g4] at rs
                rw [if_neg (by simp [g4])]
                unfold lc2 LL
                simp! [re, eList, eSliceNS, h4, h5, h6, h7, hy, h8, and_self, q, q0', hv1, gv, rp, rq, rs, g1', g2']
            · have g3' : ¬ (y.length : Int) = p1 := by first | exact nEq ‹_› | omega
              rw [if_neg (by simp [g3])]
              unfold lc2 LL
              simp! [re, eList, eSliceNS, h4, h5, h6, h7, hy, h8, and_self, q, q0', hv1, gv, rp, rq, g1', g2', g3']
          · have g2' : decide (e2 = []) = false := decide_eq_false g2
            rw [if_pos g2]
            have hpos : 0 < e2.length := List.length_pos_iff.mpr g2
            have k6 : 0 ≤ (y.length : Int) - 1 ∧ (y.length : Int) - 1 ≤ y.length ∧ y.length < 1000 := by first | exact sl6 (k := 1) ‹_› ‹_› | exact sl6 (k := 1) ‹_› (w90 ‹_›) | exact sl6 (k := 1) (Nat.le_trans (by decide) hle) ‹_› | (omega)
            have k7 : ((y.length : Int) - 1).toNat = y.length - 1 := sl7 _ 1
            unfold lc2 LL
            simp! [re, eList, eSliceNS, h4, h5, h6, h7, hy, h8, and_self, q, q0', hv1, gv, rp, rq, g1', g2', k6, k7]
        · have g1' : decide (e1 = []) = false := decide_eq_false g1
          rw [if_pos g1]
          unfold lc2 LL
          simp! [re, eList, eSliceNS, h4, h5, h6, h7, hy, h8, and_self, q, q0', hv1, gv, rp, g1', h9, Nat.zero_add]
      · have ha : y.any isVow = false := by simpa using ha
        rw [ha, Bool.not_false] at gv
        rw [if_neg (by simp [ha])]
        unfold lc2 LL
        simp! [re, eList, eSliceNS, h4, h5, h6, h7, hy, h8, and_self, q, q0', hv1, gv]
end
section
variable {x : List Nat} {p1 p2 c d : Nat} {a1 a2 a5 a6 cv : Option AV} {R : SF}
theorem take_ns {f h : EF} {st : St} {i : Int} {j : Nat} (hf : f st = some (.str x, st)) (hh : h st = some (.int i, st)) (hi : i = j) (hj : j ≤ x.length) (hx : x.length < 1000) : eSliceNS f h st = some (.str (x.take j), st) := by
  unfold eSliceNS
  rw [hf]; simp only [Option.bind_some]; rw [hh]; simp only [Option.bind_some]
  subst hi
  rw [if_pos ⟨by omega, by omega, hx⟩]
  simp
noncomputable def lc3 (R : SF) : SF := (sSeq (sIf (tAnd (tE (eBin gNe (eL 0) (eK (.str [])))) (tAnd (tE (eBin gIn (eBin gIdx (eL 0) (eBin gSub (eFun gLen [(eL 0)]) (eK (.int 1)))) (eList [(eK (.str [121])), (eK (.str [89]))]))) (tAnd (tE (eBin gNe (eVowels (eSliceNS (eL 0) (eBin gSub (eFun gLen [(eL 0)]) (eK (.int 1))))) (eList []))) (tK true)))) (sSeq (sAssL 0 (eBin gAdd (eSliceNS (eL 0) (eBin gSub (eFun gLen [(eL 0)]) (eK (.int 1)))) (eK (.str [105])))) sNil) sNil) R)
theorem lc3_run (hx : x.length < 90) : lc3 R (LL x a1 a2 p1 p2 a5 a6 cv) = R (LL (step1c x) a1 a2 p1 p2 a5 a6 cv) := by
  have h4 : x.length < 1000 := by first | exact toN ‹_› | exact toN8 ‹_› | omega
  unfold step1c
  by_cases hz : x.length = 0
  · have hx0 : x = [] := List.eq_nil_of_length_eq_zero hz
    subst hx0
    rw [if_neg (by simp)]
    have q : decide (([] : List Nat) = []) = true := by decide
    unfold lc3 LL
    simp! [q]
  · obtain ⟨n, hn⟩ : ∃ n, x.length = n + 1 := ⟨x.length - 1, pred1 ‹_›⟩
    obtain ⟨d, hd⟩ := get_of (x := x) (c := n) (by omega)
    have hne : decide (x = []) = false := decide_eq_false fun q => hz (by rw [q]; rfl)
    have ge : gIdx (.str x) (.int ((x.length : Int) - 1)) = some (.str [d]) := gIdx_last hn h4 hd
    have hg := gIn2 [d] [121] [89]
    rw [last_of hn hd]
    have hns : eSliceNS (eL 0) (eBin gSub (eFun gLen [(eL 0)]) (eK (.int 1))) (LL x a1 a2 p1 p2 a5 a6 cv) = some (.str (x.take (x.length - 1)), LL x a1 a2 p1 p2 a5 a6 cv) :=
      take_ns (i := (x.length : Int) - 1) rfl (by unfold LL; simp! [h4]) (by omega) (by omega) h4
    have hv := eVowels_is (x := x.take (x.length - 1)) hns (Nat.le_of_lt (toN (tk90 hx _)))
    have gv := vow_empty (x := x.take (x.length - 1))
    have hyl : (x.take (x.length - 1)).length + 1 ≤ 1000 := toN1 (tk90 hx _)
    have hany : (x.take (x.length - 1)).any (hasS vowelsG) = (x.take (x.length - 1)).any isVow := by congr 1; funext d; exact hasG d
    rw [hany]
    generalize x.take (x.length - 1) = y at *
    generalize ((y.filter isVow).map fun d => AV.str [d]) = yv at *
    by_cases h1 : d = 121 ∨ d = 89
    · have hor : (decide ([121] = [d]) || (decide ([89] = [d]) || false)) = true := by rcases h1 with rfl | rfl <;> rfl
      rw [hor] at hg
      by_cases ha : y.any isVow = true
      · rw [ha, Bool.not_true] at gv
        rw [if_pos ⟨by rcases h1 with rfl | rfl <;> simp, ha⟩]
        unfold LL at hns hv ⊢
        unfold lc3
        simp! [eList, h4, hne, ge, hg, hv, hns, gv, hyl, Nat.zero_add]
      · have ha : y.any isVow = false := by simpa using ha
        rw [ha, Bool.not_false] at gv
        rw [if_neg (by simp [ha])]
        unfold LL at hns hv ⊢
        unfold lc3
        simp! [eList, h4, hne, ge, hg, hv, hns, gv]
    · have hor : (decide ([121] = [d]) || (decide ([89] = [d]) || false)) = false := by
        have g1 : decide ([121] = [d]) = false := decide_eq_false fun q => h1 (.inl (by simpa [eq_comm] using q))
        have g2 : decide ([89] = [d]) = false := decide_eq_false fun q => h1 (.inr (by simpa [eq_comm] using q))
        rw [g1, g2]; rfl
      rw [hor] at hg
      rw [if_neg fun q => h1 (by rcases q.1 with q | q <;> cases q <;> simp)]
      unfold LL
      unfold lc3
      simp! [eList, h4, hne, ge, hg]
noncomputable def lc4 (R : SF) : SF := (sSeq (sAssL 0 (eCall 3 3 s_law_rows [(eL 0), (eK v_law_second), (eL 3)])) (sSeq (sAssL 0 (eCall 3 3 s_law_rows [(eL 0), (eK v_law_third), (eL 3)])) R))
theorem rows_len {ps : List (List Nat × List Nat)} {f : Nat} (h : ∀ q ∈ ps, q.2.length ≤ 8) : (rowsF ps f x).length ≤ x.length + 8 := by
  unfold rowsF
  split
  · omega
  · rw [List.length_append, List.length_take]
    cases hf : (ps.filter fun q => decide (q.1 = lawEnd x (ps.map Prod.fst))) with
    | nil => simp; omega
    | cons q r =>
      have := h q (List.mem_filter.mp (show q ∈ _ by rw [hf]; exact .head _)).1
      simp; omega
theorem lc4_run (hx : x.length < 80) : lc4 R (LL x a1 a2 p1 p2 a5 a6 cv) = R (LL (rowsF PS3 p1 (rowsF PS2 p1 x)) a1 a2 p1 p2 a5 a6 cv) := by
  have l1 := rows_len (x := x) (ps := PS2) (f := p1) (by decide)
  have r1 : callF 3 s_law_rows [] [.str x, v_law_second, .int p1] = _ := run_rows (x := x) (ps := PS2) (f := p1) (by omega) (by decide) (by decide) (by decide)
  have r2 : callF 3 s_law_rows [] [.str (rowsF PS2 p1 x), v_law_third, .int p1] = _ := run_rows (x := rowsF PS2 p1 x) (ps := PS3) (f := p1) (by omega) (by decide) (by decide) (by decide)
  generalize rowsF PS2 p1 x = y at *
  generalize rowsF PS3 p1 y = z at *
  unfold lc4 LL
  simp! [r1, r2]
noncomputable def lc6 (R : SF) : SF := (sSeq (sAssL 5 (eCall 4 2 s_law_end [(eL 0), (eK v_law_fourth)])) (sSeq (sAssL 6 (eSliceNS (eL 0) (eBin gSub (eFun gLen [(eL 0)]) (eFun gLen [(eL 5)])))) (sSeq (sIf (tAnd (tE (eBin gNe (eL 5) (eK (.str [])))) (tAnd (tE (eBin gGe (eFun gLen [(eL 6)]) (eL 4))) (tAnd (tOr (tE (eBin gNe (eL 5) (eK (.str [105, 111, 110])))) (tOr (tAnd (tE (eBin gNe (eL 6) (eK (.str [])))) (tAnd (tE (eBin gIn (eBin gIdx (eL 6) (eBin gSub (eFun gLen [(eL 6)]) (eK (.int 1)))) (eList [(eK (.str [115])), (eK (.str [116]))]))) (tK true))) (tK false))) (tK true)))) (sSeq (sAssL 0 (eL 6)) sNil) sNil) R)))
noncomputable def law4 (p2 : Nat) (x : List Nat) : List Nat := if lawEnd x E4 ≠ [] ∧ p2 ≤ (x.take (x.length - (lawEnd x E4).length)).length ∧ (lawEnd x E4 ≠ [105, 111, 110] ∨ (x.take (x.length - (lawEnd x E4).length)).getLast? = some 115 ∨ (x.take (x.length - (lawEnd x E4).length)).getLast? = some 116) then x.take (x.length - (lawEnd x E4).length) else x
theorem lc6_run (hx : x.length < 90) : ∃ a5' a6', lc6 R (LL x a1 a2 p1 p2 a5 a6 cv) = R (LL (law4 p2 x) a1 a2 p1 p2 a5' a6' cv) := by
  have h4 : x.length < 1000 := by first | exact toN ‹_› | exact toN8 ‹_› | omega
  have re : callF 4 s_law_end [] [.str x, v_law_fourth] = _ := run_end (x := x) E4 (by decide)
  have hle := lawEnd_len (x := x) E4
  unfold law4
  generalize lawEnd x E4 = e at *
  have h5 : e.length < 1000 := by first | exact toN ‹_› | exact toN8 ‹_› | omega
  have h6 : 0 ≤ (x.length : Int) - e.length ∧ (x.length : Int) - e.length ≤ x.length ∧ x.length < 1000 := by first | exact sl6 (k := e.length) ‹_› ‹_› | exact sl6 (k := e.length) ‹_› (w90 ‹_›) | exact sl6 (k := e.length) (Nat.le_trans (by decide) hle) ‹_› | (omega)
  have h7 : ((x.length : Int) - e.length).toNat = x.length - e.length := sl7 _ e.length
  have hyl : (x.take (x.length - e.length)).length = x.length - e.length := takL _ _
  generalize hy : x.take (x.length - e.length) = y at *
  have h8 : y.length < 1000 := by first | exact toN ‹_› | exact toN8 ‹_› | exact toN (hyl ▸ Nat.lt_of_le_of_lt (Nat.sub_le _ _) hx) | omega
  refine ⟨some (.str e), some (.str y), ?_⟩
  by_cases q0 : e = []
  · rw [if_neg (by simp [q0])]
    have q0' : decide (e = []) = true := decide_eq_true q0
    unfold lc6 LL
    simp! [re, eSliceNS, h4, h5, h6, h7, hy, h8, and_self, q0']
  · have q0' : decide (e = []) = false := decide_eq_false q0
    by_cases hp : p2 ≤ y.length
    · have hp' : (p2 : Int) ≤ y.length := by first | exact iLe ‹_› | omega
      by_cases q1 : e = [105, 111, 110]
      · have q1' : decide (e = [105, 111, 110]) = true := decide_eq_true q1
        by_cases hz : y.length = 0
        · have hy0 : y = [] := List.eq_nil_of_length_eq_zero hz
          rw [if_neg (by simp [q1, hy0])]
          have g0 : decide (y = []) = true := decide_eq_true hy0
          unfold lc6 LL
          simp! [re, eSliceNS, h4, h5, h6, h7, hy, h8, and_self, q0', hp', q1', g0]
        · obtain ⟨n, hn⟩ : ∃ n, y.length = n + 1 := ⟨y.length - 1, pred1 ‹_›⟩
          obtain ⟨d, hd⟩ := get_of (x := y) (c := n) (by omega)
          have hne : decide (y = []) = false := decide_eq_false fun q => hz (by rw [q]; rfl)
          have ge : gIdx (.str y) (.int ((y.length : Int) - 1)) = some (.str [d]) := gIdx_last hn h8 hd
          have hg := gIn2 [d] [115] [116]
          rw [last_of hn hd]
          by_cases h1 : d = 115 ∨ d = 116
          · have hor : (decide ([115] = [d]) || (decide ([116] = [d]) || false)) = true := by rcases h1 with rfl | rfl <;> rfl
            rw [hor] at hg
            rw [if_pos ⟨q0, hp, .inr (by rcases h1 with rfl | rfl <;> simp)⟩]
            unfold lc6 LL
            simp! [re, eSliceNS, eList, h4, h5, h6, h7, hy, h8, and_self, q0', hp', q1', hne, ge, hg]
          · have hor : (decide ([115] = [d]) || (decide ([116] = [d]) || false)) = false := by
              have g1 : decide ([115] = [d]) = false := decide_eq_false fun q => h1 (.inl (by simpa [eq_comm] using q))
              have g2 : decide ([116] = [d]) = false := decide_eq_false fun q => h1 (.inr (by simpa [eq_comm] using q))
              rw [g1, g2]; rfl
            rw [hor] at hg
            rw [if_neg fun q => by
              rcases q.2.2 with w | w | w
              · exact w q1
              · cases w; exact h1 (.inl rfl)
              · cases w; exact h1 (.inr rfl)]
            unfold lc6 LL
            simp! [re, eSliceNS, eList, h4, h5, h6, h7, hy, h8, and_self, q0', hp', q1', hne, ge, hg]
      · have q1' : decide (e = [105, 111, 110]) = false := decide_eq_false q1
        rw [if_pos ⟨q0, hp, .inl q1⟩]
        unfold lc6 LL
        simp! [re, eSliceNS, h4, h5, h6, h7, hy, h8, and_self, q0', hp', q1']
    · have hp' : ¬ (p2 : Int) ≤ y.length := by first | exact nLe ‹_› | omega
      rw [if_neg (by simp [hp])]
      unfold lc6 LL
      simp! [re, eSliceNS, h4, h5, h6, h7, hy, h8, and_self, q0', hp']
noncomputable def lc7 (R : SF) : SF := (sSeq (sIf (tE (eEnds (eL 0) (eK (.str [101])))) (sSeq (sAssL 6 (eSliceNS (eL 0) (eBin gSub (eFun gLen [(eL 0)]) (eK (.int 1))))) (sSeq (sIf (tOr (tE (eBin gGe (eFun gLen [(eL 6)]) (eL 4))) (tOr (tAnd (tE (eBin gGe (eFun gLen [(eL 6)]) (eL 3))) (tAnd (tNot (tE (eCall 4 1 s_law_short [(eL 6)]))) (tK true))) (tK false))) (sSeq (sAssL 0 (eL 6)) sNil) sNil) sNil)) sNil) R)
theorem ends_last : endsW x [d] = decide (x.getLast? = some d) := by
  rw [Bool.eq_iff_iff, endsW_iff, decide_eq_true_eq]
  constructor
  · rintro ⟨t, rfl⟩; simp
  · intro h
    obtain ⟨t, rfl⟩ := List.getLast?_eq_some_iff.mp h
    exact ⟨t, rfl⟩
theorem lc7_run (hx : x.length < 90) : ∃ a6', lc7 R (LL x a1 a2 p1 p2 a5 a6 cv) = R (LL (step5a p1 p2 x) a1 a2 p1 p2 a5 a6' cv) := by
  have h4 : x.length < 1000 := by first | exact toN ‹_› | exact toN8 ‹_› | omega
  unfold step5a
  have he := ends_last (x := x) (d := 101)
  by_cases hl : x.getLast? = some 101
  · rw [if_pos hl]
    rw [decide_eq_true hl] at he
    have hpos : 0 < x.length := by
      cases x with
      | nil => simp at hl
      | cons _ _ => simp
    have h6 : 0 ≤ (x.length : Int) - 1 ∧ (x.length : Int) - 1 ≤ x.length ∧ x.length < 1000 := by first | exact sl6 (k := 1) ‹_› ‹_› | exact sl6 (k := 1) ‹_› (w90 ‹_›) | exact sl6 (k := 1) (Nat.le_trans (by decide) hle) ‹_› | (omega)
    have h7 : ((x.length : Int) - 1).toNat = x.length - 1 := sl7 _ 1
    have hyl : (x.take (x.length - 1)).length = x.length - 1 := takL _ _
    have rs := run_short (x := x.take (x.length - 1)) (by omega)
    generalize hy : x.take (x.length - 1) = y at *
    have h8 : y.length < 1000 := by first | exact toN ‹_› | exact toN8 ‹_› | exact toN (hyl ▸ Nat.lt_of_le_of_lt (Nat.sub_le _ _) hx) | omega
    refine ⟨some (.str y), ?_⟩
    rw [← hyl]
    by_cases g1 : p2 ≤ y.length
    · have g1' : (p2 : Int) ≤ y.length := by first | exact iLe ‹_› | omega
      rw [if_pos (.inl g1)]
      unfold lc7 LL
      simp! [eEnds, he, eSliceNS, h4, h6, h7, hy, h8, and_self, g1']
    · have g1' : ¬ (p2 : Int) ≤ y.length := by first | exact nLe ‹_› | omega
      by_cases g2 : p1 ≤ y.length
      · have g2' : (p1 : Int) ≤ y.length := by first | exact iLe ‹_› | omega
        cases hs : shortP y.reverse with
        | true =>
          rw [hs] at rs
          rw [if_neg (by simp [g1])]
          unfold lc7 LL
          simp! [eEnds, he, eSliceNS, h4, h6, h7, hy, h8, and_self, g1', g2', rs]
        | false =>
          rw [hs] at rs
          rw [if_pos (.inr ⟨g2, rfl⟩)]
          unfold lc7 LL
          simp! [eEnds, he, eSliceNS, h4, h6, h7, hy, h8, and_self, g1', g2', rs]
      · have g2' : ¬ (p1 : Int) ≤ y.length := by first | exact nLe ‹_› | omega
        rw [if_neg (by simp [g1, g2])]
        unfold lc7 LL
        simp! [eEnds, he, eSliceNS, h4, h6, h7, hy, h8, and_self, g1', g2']
  · rw [if_neg hl]
    rw [decide_eq_false hl] at he
    refine ⟨a6, ?_⟩
    unfold lc7 LL
    simp! [eEnds, he]
noncomputable def lc8 (R : SF) : SF := (sSeq (sIf (tAnd (tE (eEnds (eL 0) (eK (.str [108, 108])))) (tAnd (tE (eBin gGe (eBin gSub (eFun gLen [(eL 0)]) (eK (.int 1))) (eL 4))) (tK true))) (sSeq (sAssL 0 (eSliceNS (eL 0) (eBin gSub (eFun gLen [(eL 0)]) (eK (.int 1))))) sNil) sNil) R)
theorem ends_two : endsW x [d, d] = decide (x.getLast? = some d ∧ (x.take (x.length - 1)).getLast? = some d) := by
  rw [Bool.eq_iff_iff, endsW_iff, decide_eq_true_eq]
  constructor
  · rintro ⟨t, rfl⟩
    have e : (t ++ [d, d]).take ((t ++ [d, d]).length - 1) = t ++ [d] := by
      rw [show t ++ [d, d] = (t ++ [d]) ++ [d] by simp, List.length_append, List.length_singleton, Nat.add_sub_cancel, List.take_left]
    rw [e]
    simp
  · rintro ⟨h1, h2⟩
    obtain ⟨t, rfl⟩ := List.getLast?_eq_some_iff.mp h1
    rw [List.length_append, List.length_singleton, Nat.add_sub_cancel, List.take_left] at h2
    obtain ⟨u, rfl⟩ := List.getLast?_eq_some_iff.mp h2
    exact ⟨u, by simp⟩
theorem lc8_run (hx : x.length < 90) : lc8 R (LL x a1 a2 p1 p2 a5 a6 cv) = R (LL (step5b p2 x) a1 a2 p1 p2 a5 a6 cv) := by
  have h4 : x.length < 1000 := by first | exact toN ‹_› | exact toN8 ‹_› | omega
  unfold step5b
  have he := ends_two (x := x) (d := 108)
  by_cases hl : x.getLast? = some 108 ∧ (x.take (x.length - 1)).getLast? = some 108
  · rw [decide_eq_true hl] at he
    have hpos : 0 < x.length := by
      cases x with
      | nil => simp at hl
      | cons _ _ => simp
    have h6 : 0 ≤ (x.length : Int) - 1 ∧ (x.length : Int) - 1 ≤ x.length ∧ x.length < 1000 := by first | exact sl6 (k := 1) ‹_› ‹_› | exact sl6 (k := 1) ‹_› (w90 ‹_›) | exact sl6 (k := 1) (Nat.le_trans (by decide) hle) ‹_› | (omega)
    have h7 : ((x.length : Int) - 1).toNat = x.length - 1 := sl7 _ 1
    by_cases g1 : p2 ≤ x.length - 1
    · have g1' : (p2 : Int) ≤ (x.length : Int) - 1 := by omega
      rw [if_pos ⟨hl.1, g1, hl.2⟩]
      unfold lc8 LL
      simp! [eEnds, he, eSliceNS, h4, h6, h7, and_self, g1']
    · have g1' : ¬ (p2 : Int) ≤ (x.length : Int) - 1 := by omega
      rw [if_neg fun q => g1 q.2.1]
      unfold lc8 LL
      simp! [eEnds, he, eSliceNS, h4, h6, h7, and_self, g1']
  · rw [decide_eq_false hl] at he
    rw [if_neg fun q => hl ⟨q.1, q.2.2⟩]
    unfold lc8 LL
    simp! [eEnds, he]
end
section
variable {x t w : List Nat} {p1 p2 c d : Nat} {a1 a2 a5 a6 cv : Option AV} {R : SF}
theorem turnY_turn : turnY w = turn true w := by
  have : ∀ (w acc : List Nat), w.foldl stepY acc = acc ++ turn (decide (acc = []) || isVow (acc.getLastD 0)) w := by
    intro w
    induction w with
    | nil => intro acc; simp [turn]
    | cons d w ih =>
      intro acc
      rw [List.foldl_cons, ih, turn_cons]
      unfold stepY
      by_cases h : d = 121 ∧ (acc = [] ∨ isVow (acc.getLastD 0) = true)
      · rw [if_pos h, if_pos ⟨by simpa using h.2, h.1⟩]
        simp [isVow]
      · rw [if_neg h, if_neg (fun q => h ⟨q.2, by simpa using q.1⟩)]
        rw [hasG]
        simp
  unfold turnY
  rw [this w []]
  simp
theorem strsOf_one (g : Nat → Nat) : ∀ l : List Nat, strsOf (l.map fun d => AV.str [g d]) = some (l.map fun d => [g d])
  | [] => rfl
  | d :: l => by
    show (strsOf (l.map fun d => AV.str [g d])).map _ = _
    rw [strsOf_one g l]; rfl
theorem flat_one (g : Nat → Nat) : ∀ l : List Nat, (l.map fun d => [g d]).flatten = l.map g
  | [] => rfl
  | d :: l => by rw [List.map_cons, List.flatten_cons, flat_one g l]; rfl
theorem sum_one (g : Nat → Nat) : ∀ l : List Nat, ((l.map fun d => [g d]).map List.length).sum = l.length
  | [] => rfl
  | d :: l => by rw [List.map_cons, List.map_cons, List.sum_cons, sum_one g l]; simp; omega
theorem eJoin_is {f : EF} {st : St} (g : Nat → Nat) (hf : f st = some (.lst (x.map fun d => AV.str [g d]), st)) (hx : x.length ≤ 400) : eJoin f st = some (.str (x.map g), st) := by
  unfold eJoin
  rw [hf]
  simp only [Option.bind_some]
  rw [strsOf_one g x]
  simp only [Option.bind_some]
  rw [if_pos (by rw [sum_one g x, List.length_map]; omega), flat_one g x]
theorem gIn_strsA (d : Nat) : gIn (.str [d]) (.lst (strsA t)) = some (.bool (decide (d ∈ t))) := by
  show (strsOf (strsA t)).map _ = _
  unfold strsA
  rw [strsOf_one (fun d => d) t]
  simp only [Option.map_some]
  congr 2
  induction t with
  | nil => rfl
  | cons e t ih =>
    rw [List.map_cons, List.any_cons, ih]
    by_cases h : e = d
    · subst h; simp
    · simp [h, eq_comm]
noncomputable def lh (R : SF) : SF := (sSeq sSigns (sSeq (sAssC (eBin gIn (eK (.str [89])) (eL 1))) (sSeq (sAssL 0 (eJoin (eL 1))) (sSeq (sAssL 3 (eCall 3 2 s_law_region [(eL 0), (eK (.int 0))])) (sSeq (sAssL 4 (eIf (tE (eBin gIsNone (eL 3) (eK .none))) (eK .none) (eCall 3 2 s_law_region [(eL 0), (eL 3)]))) (sSeq (sAssL 3 (eIf (tE (eBin gIsNone (eL 3) (eK .none))) (eFun gLen [(eL 0)]) (eL 3))) (sSeq (sAssL 4 (eIf (tE (eBin gIsNone (eL 4) (eK .none))) (eFun gLen [(eL 0)]) (eL 4))) R)))))))
theorem s_law_is : s_law_stem = lh (lc1 (lc2 (lc3 (lc4 (lc6 (lc7 (lc8 (sSeq (sRet (eJoin (eTurn (eL 0)))) sNil)))))))) := rfl
theorem nV_is (x : List Nat) (c : Nat) : nV x c = nextI (fun d => isVow d == true) x c := by
  unfold nV; congr 1; funext d; rw [hasG]; cases isVow d <;> rfl
theorem nC_is (x : List Nat) (c : Nat) : nC x c = nextI (fun d => isVow d == false) x c := by
  unfold nC; congr 1; funext d; rw [hasG]; cases isVow d <;> rfl
theorem regL_le {c f : Nat} (h : regL x c = some f) : f ≤ x.length := by
  unfold regL at h
  split at h
  · cases h
  · exact pastV_le h
theorem reg_is : regP x = ((regL x 0).getD x.length, ((regL x 0).bind fun f => regL x f).getD x.length) := by
  unfold regP regL pastV
  simp only [nV_is, nC_is]
  by_cases h1 : nextI (fun d => isVow d == true) x 0 < x.length
  · simp only [if_pos h1]
    by_cases h2 : nextI (fun d => isVow d == false) x (nextI (fun d => isVow d == true) x 0 + 1) < x.length
    · simp only [if_pos h2, Option.getD_some, Option.bind_some]
      by_cases h3 : nextI (fun d => isVow d == true) x (nextI (fun d => isVow d == false) x (nextI (fun d => isVow d == true) x 0 + 1) + 1) < x.length
      · simp only [if_pos h3]
        split
        · rfl
        · rfl
      · simp only [if_neg h3]; rfl
    · simp only [if_neg h2]; rfl
  · simp only [if_neg h1]; rfl
theorem lh_run (hw : w.length ≤ 16) : lh R ⟨[], [some (.str w), none, none, none, none, none, none], none⟩ = R (LL (turnY w) (some (.lst (strsA (turnY w)))) none (regP (turnY w)).1 (regP (turnY w)).2 none none (some (.bool (decide (89 ∈ turnY w))))) := by
  have hl := turnY_length w
  have hw1 : w.length ≤ 100 := by omega
  have hg := gIn_strsA (t := turnY w) 89
  rw [reg_is]
  have hj : ∀ (l : List (Option AV)) (cv : Option AV), l[(1 : Nat)]? = some (some (.lst (strsA (turnY w)))) → eJoin (eL 1) ⟨[], l, cv⟩ = some (.str (turnY w), ⟨[], l, cv⟩) := fun l cv h => by
    have := eJoin_is (x := turnY w) (f := eL 1) (st := ⟨[], l, cv⟩) (fun d => d) (by unfold eL; rw [h]; rfl) (by omega)
    rw [List.map_id'] at this
    exact this
  have hj1 := hj [some (.str w), some (.lst (strsA (turnY w))), none, none, none, none, none] (some (.bool (decide (89 ∈ turnY w)))) rfl
  generalize ht : turnY w = t at *
  have h4 : t.length < 1000 := by first | exact toN ‹_› | exact toN8 ‹_› | omega
  have r1 := run_region (x := t) (c := 0) (by omega) (Nat.zero_le _)
  cases h1 : regL t 0 with
  | none =>
    rw [h1] at r1
    simp only [optAV, Int.natCast_zero] at r1
    unfold lh LL
    generalize hsa : strsA t = sa at *
    simp! [sSigns, ht, hsa, hw1, sAssC, hg, hj1, r1, h4, Option.getD_none]
  | some f =>
    rw [h1] at r1
    have r2 := run_region (x := t) (c := f) (by omega) (regL_le h1)
    simp only [optAV, Int.natCast_zero] at r1
    cases h2 : regL t f with
    | none =>
      rw [h2] at r2
      simp only [optAV] at r2
      unfold lh LL
      generalize hsa : strsA t = sa at *
      simp! [sSigns, ht, hsa, hw1, sAssC, hg, hj1, r1, r2, h2, h4, Option.getD_none, Option.getD_some]
    | some g =>
      rw [h2] at r2
      simp only [optAV] at r2
      unfold lh LL
      generalize hsa : strsA t = sa at *
      simp! [sSigns, ht, hsa, hw1, sAssC, hg, hj1, r1, r2, h2, h4, Option.getD_none, Option.getD_some]
end
section
variable {x t w : List Nat} {p1 p2 c d : Nat} {a1 a2 a5 a6 cv : Option AV} {R : SF}
theorem hasG_fun : hasS vowelsG = isVow := funext hasG
theorem same_1a : sameEnds T_a_0 E1a = true := by decide
theorem same_1b : sameEnds T_a_2 E1b = true := by decide
theorem same_2 : sameEnds T_a_3 (PS2.map Prod.fst) = true := by decide
theorem same_3 : sameEnds T_a_4 (PS3.map Prod.fst) = true := by decide
theorem same_4 : sameEnds T_a_5 E4 = true := by decide
theorem mem4 {e : Ent} {a b c d : Ent} (h : e ∈ [a, b, c, d]) : e = a ∨ e = b ∨ e = c ∨ e = d := by simpa using h
theorem mem3 {e : Ent} {a b c : Ent} (h : e ∈ [a, b, c]) : e = a ∨ e = b ∨ e = c := by simpa using h
theorem eq_1a : law1a x = step1a x := by
  unfold law1a step1a
  rw [lawEnd_best same_1a]
  cases hb : bestT T_a_0 (preB x) with
  | none => rfl
  | some e =>
    obtain ⟨hm, y, rfl⟩ := best_suffix hb
    dsimp only
    rcases mem4 hm with rfl | rfl | rfl | rfl
    · rw [if_neg (by decide), if_pos rfl, if_pos (by decide)]
      unfold cut
      rw [show repl v_as_0 3 = [] from rfl, List.append_nil]
      rfl
    · rw [if_pos (by decide), if_pos (by decide)]
      unfold cut
      rw [show repl v_as_0 2 = [105] from rfl]
      show (y ++ [105, 101, 115]).take ((y ++ [105, 101, 115]).length - 2) = (y ++ [105, 101, 115]).take ((y ++ [105, 101, 115]).length - 3) ++ [105]
      rw [show y ++ [105, 101, 115] = (y ++ [105]) ++ [101, 115] by simp, List.length_append, show [101, 115].length = 2 from rfl, Nat.add_sub_cancel, List.take_left]
      rw [List.append_assoc, List.length_append, show (y.length + [105].length + 2 - 3) = y.length by simp, List.take_left]
    · rw [if_pos (by decide), if_pos (by decide)]
      unfold cut
      rw [show repl v_as_0 1 = [115, 115] from rfl]
      show (y ++ [115, 115, 101, 115]).take ((y ++ [115, 115, 101, 115]).length - 2) = (y ++ [115, 115, 101, 115]).take ((y ++ [115, 115, 101, 115]).length - 4) ++ [115, 115]
      rw [show y ++ [115, 115, 101, 115] = (y ++ [115, 115]) ++ [101, 115] by simp, List.length_append, show [101, 115].length = 2 from rfl, Nat.add_sub_cancel, List.take_left]
      rw [List.append_assoc, List.length_append, show (y.length + [115, 115].length + 2 - 4) = y.length by simp, List.take_left]
    · rw [if_neg (by decide), if_neg (by decide), if_neg (by decide)]
noncomputable def resOf (e : List Nat) : Int := if e ∈ E1p then 1 else if e ∈ E1q then 2 else 3
theorem a1_kinds : ∀ e ∈ T_a_1, e.2.2 = resOf e.1 ∧ (e.1 = [] ∨ e.1 ∈ E1p ∨ e.1 ∈ E1q) := by decide
theorem a1_all : ∀ s ∈ E1p ++ E1q, ∃ e ∈ T_a_1, e.1 = s := by decide
theorem a1_len : ∀ e ∈ T_a_1, e.1.length ≤ 2 := by decide
theorem e1_len : ∀ s ∈ E1p ++ E1q, s.length = 2 := by decide
theorem pq_apart : ∀ s ∈ E1p, s ∉ E1q := by decide
theorem lawEnd_ne {E : List (List Nat)} (h : ∀ e ∈ E, e.length = 2) : lawEnd x E ≠ [] ↔ ∃ e ∈ E, e <:+ x := by
  constructor
  · intro hne
    rcases (lawEnd_max (x := x) E).1 with q | ⟨q1, q2⟩
    · exact absurd q hne
    · exact ⟨_, q1, q2⟩
  · rintro ⟨e, he, hs⟩ hz
    have := (lawEnd_max (x := x) E).2 e he hs
    rw [hz, h e he] at this
    exact absurd this (by decide)
theorem eq_post : lawPost p1 x = post1b p1 x := by
  unfold lawPost post1b
  obtain ⟨e, hb⟩ := a1_some (y := x)
  rw [hb]
  dsimp only
  obtain ⟨hm, hs⟩ := best_suffix hb
  obtain ⟨k1, k2⟩ := a1_kinds e hm
  have hp : lawEnd x E1p ≠ [] ↔ e.1 ∈ E1p := by
    rw [lawEnd_ne (fun s hs => e1_len s (List.mem_append_left _ hs))]
    constructor
    · rintro ⟨s, h1, h2⟩
      obtain ⟨t, ht, rfl⟩ := a1_all s (List.mem_append_left _ h1)
      obtain ⟨e', he', hl⟩ := bestT_max (p := preB x) t ht (List.isPrefixOf_iff_prefix.mpr (List.reverse_prefix.mpr h2))
      rw [hb] at he'; cases he'
      have l1 := e1_len _ (List.mem_append_left _ h1)
      have l2 := a1_len e hm
      have : e.1 = t.1 := by
        rw [List.suffix_iff_eq_drop.mp hs, List.suffix_iff_eq_drop.mp h2, show e.1.length = t.1.length by omega]
      rw [this]; exact h1
    · intro h; exact ⟨_, h, hs⟩
  have hq : lawEnd x E1q ≠ [] ↔ e.1 ∈ E1q := by
    rw [lawEnd_ne (fun s hs => e1_len s (List.mem_append_right _ hs))]
    constructor
    · rintro ⟨s, h1, h2⟩
      obtain ⟨t, ht, rfl⟩ := a1_all s (List.mem_append_right _ h1)
      obtain ⟨e', he', hl⟩ := bestT_max (p := preB x) t ht (List.isPrefixOf_iff_prefix.mpr (List.reverse_prefix.mpr h2))
      rw [hb] at he'; cases he'
      have l1 := e1_len _ (List.mem_append_right _ h1)
      have l2 := a1_len e hm
      have : e.1 = t.1 := by
        rw [List.suffix_iff_eq_drop.mp hs, List.suffix_iff_eq_drop.mp h2, show e.1.length = t.1.length by omega]
      rw [this]; exact h1
    · intro h; exact ⟨_, h, hs⟩
  rw [k1]
  unfold resOf
  by_cases g1 : e.1 ∈ E1p
  · rw [if_pos (hp.mpr g1), if_pos g1, if_pos rfl]
  · rw [if_neg (fun q => g1 (hp.mp q)), if_neg g1]
    by_cases g2 : e.1 ∈ E1q
    · rw [if_pos (hq.mpr g2), if_pos g2, if_neg (show ¬ (2 : Int) = 1 by decide), if_pos rfl]
    · rw [if_neg (fun q => g2 (hq.mp q)), if_neg g2, if_neg (show ¬ (3 : Int) = 1 by decide), if_neg (show ¬ (3 : Int) = 2 by decide)]
theorem a2_kind : ∀ e ∈ T_a_2, (e.1 = [101, 101, 100] ↔ e.2.2 = 1) ∧ e.1 ≠ [] := by decide
theorem eq_1b : law1b p1 x = step1b p1 x := by
  unfold law1b step1b
  rw [lawEnd_best same_1b, hasG_fun]
  cases hb : bestT T_a_2 (preB x) with
  | none =>
    dsimp only
    rw [if_neg (by decide), if_neg (by simp)]
  | some e =>
    obtain ⟨hm, hs⟩ := best_suffix hb
    have hle := hs.length_le
    obtain ⟨k1, k2⟩ := a2_kind e hm
    dsimp only
    have hyl : (x.take (x.length - e.1.length)).length = x.length - e.1.length := takL _ _
    rw [hyl]
    by_cases g : e.2.2 = 1
    · rw [if_pos (k1.mpr g), if_pos g]; rfl
    · rw [if_neg (fun q => g (k1.mp q)), if_neg g, eq_post]
      show (if _ then _ else _) = if (List.take (x.length - e.1.length) x).any isVow = true then _ else _
      by_cases ha : (List.take (x.length - e.1.length) x).any isVow = true
      · rw [if_pos ⟨k2, ha⟩, if_pos ha]; rfl
      · rw [if_neg (fun q => ha q.2), if_neg ha]
theorem a3_pairs : ∀ e ∈ T_a_3, e.1 ≠ [] ∧ (((PS2.filter fun q => decide (q.1 = e.1)).head?).map Prod.snd).getD [] = repl v_as_3 e.2.2 := by decide +kernel
theorem a4_pairs : ∀ e ∈ T_a_4, e.1 ≠ [] ∧ (((PS3.filter fun q => decide (q.1 = e.1)).head?).map Prod.snd).getD [] = repl v_as_4 e.2.2 := by decide +kernel
theorem eq_2 : rowsF PS2 p1 x = step2 p1 x := by
  unfold rowsF step2
  rw [lawEnd_best same_2]
  cases hb : bestT T_a_3 (preB x) with
  | none => dsimp only; rw [if_pos (.inl rfl)]
  | some e =>
    obtain ⟨hm, hs⟩ := best_suffix hb
    obtain ⟨k1, k2⟩ := a3_pairs e hm
    dsimp only
    rw [k2]
    by_cases g : p1 ≤ x.length - e.1.length
    · rw [if_pos g, if_neg (by simp only [k1, false_or]; omega)]; rfl
    · rw [if_neg g, if_pos (.inr (by omega))]
theorem eq_3 : rowsF PS3 p1 x = step3 p1 x := by
  unfold rowsF step3
  rw [lawEnd_best same_3]
  cases hb : bestT T_a_4 (preB x) with
  | none => dsimp only; rw [if_pos (.inl rfl)]
  | some e =>
    obtain ⟨hm, hs⟩ := best_suffix hb
    obtain ⟨k1, k2⟩ := a4_pairs e hm
    dsimp only
    rw [k2]
    by_cases g : p1 ≤ x.length - e.1.length
    · rw [if_pos g, if_neg (by simp only [k1, false_or]; omega)]; rfl
    · rw [if_neg g, if_pos (.inr (by omega))]
theorem a5_kind : ∀ e ∈ T_a_5, (e.1 ≠ [105, 111, 110] ↔ e.2.2 = 1) ∧ e.1 ≠ [] := by decide
theorem eq_4 : law4 p2 x = step4 p2 x := by
  unfold law4 step4
  rw [lawEnd_best same_4]
  cases hb : bestT T_a_5 (preB x) with
  | none => dsimp only; rw [if_neg (by simp)]
  | some e =>
    obtain ⟨hm, hs⟩ := best_suffix hb
    have hle := hs.length_le
    obtain ⟨k1, k2⟩ := a5_kind e hm
    dsimp only
    have hyl : (x.take (x.length - e.1.length)).length = x.length - e.1.length := takL _ _
    rw [hyl]
    show _ = if _ then (if _ then cut x e else if (x.take (x.length - e.1.length)).getLast? = some 115 ∨ (x.take (x.length - e.1.length)).getLast? = some 116 then cut x e else x) else x
    by_cases g : p2 ≤ x.length - e.1.length
    · rw [if_pos g]
      by_cases g1 : e.2.2 = 1
      · rw [if_pos g1, if_pos ⟨k2, g, .inl (k1.mpr g1)⟩]; rfl
      · rw [if_neg g1]
        have g1' : ¬ e.1 ≠ [105, 111, 110] := fun q => g1 (k1.mp q)
        by_cases g2 : (x.take (x.length - e.1.length)).getLast? = some 115 ∨ (x.take (x.length - e.1.length)).getLast? = some 116
        · rw [if_pos ⟨k2, g, .inr g2⟩, if_pos g2]; rfl
        · rw [if_neg (fun q => q.2.2.elim g1' g2), if_neg g2]
    · rw [if_neg g, if_neg (fun q => g q.2.1)]
theorem eTurn_is {B : Bool} {l : List (Option AV)} (h : l[(0 : Nat)]? = some (some (.str x))) (hx : x.length ≤ 400) : eJoin (eTurn (eL 0)) ⟨[], l, some (.bool B)⟩ = some (.str (if B then x.map back else x), ⟨[], l, some (.bool B)⟩) := by
  have hfl : x.filter ((fun _ _ => true : St → Nat → Bool) ⟨[], l, some (.bool B)⟩) = x := List.filter_eq_self.mpr fun _ _ => rfl
  have ht : eTurn (eL 0) ⟨[], l, some (.bool B)⟩ = some (.lst (x.map fun d => AV.str [turnS ⟨[], l, some (.bool B)⟩ d]), ⟨[], l, some (.bool B)⟩) := by
    unfold eTurn eCompS
    rw [show eL 0 ⟨[], l, some (.bool B)⟩ = some (.str x, ⟨[], l, some (.bool B)⟩) by unfold eL; rw [h]]
    dsimp only
    rw [if_pos ⟨rfl, by omega⟩, hfl]
  rw [eJoin_is _ ht hx]
  cases B with
  | true => rfl
  | false =>
    have : (turnS ⟨[], l, some (.bool false)⟩) = fun d => d := rfl
    rw [this, List.map_id']
    rfl
theorem run_law (hw : w.length ≤ 16) : callF 7 s_law_stem [] [.str w] = some (.str (porterF w), []) := by
  have h0 := lh_run (w := w) (R := lc1 (lc2 (lc3 (lc4 (lc6 (lc7 (lc8 (sSeq (sRet (eJoin (eTurn (eL 0)))) sNil)))))))) hw
  rw [turnY_turn] at h0
  have hl := turn_length true w
  unfold porterF
  generalize turn true w = x at *
  generalize (regP x).1 = p1 at *
  generalize (regP x).2 = p2 at *
  have l0 : x.length ≤ 16 := hl ▸ hw
  obtain ⟨a5, h1⟩ := lc1_run (x := x) (a1 := some (.lst (strsA x))) (a2 := none) (p1 := p1) (p2 := p2) (a5 := none) (a6 := none) (cv := some (.bool (decide (89 ∈ x)))) (R := lc2 (lc3 (lc4 (lc6 (lc7 (lc8 (sSeq (sRet (eJoin (eTurn (eL 0)))) sNil))))))) (Nat.lt_of_le_of_lt l0 (by decide))
  have l1 := up8 l0 (len_1a (x := x))
  rw [eq_1a] at h1
  unfold stepsP
  generalize step1a x = x1 at *
  obtain ⟨a5', a6, h2⟩ := lc2_run (x := x1) (a1 := some (.lst (strsA x))) (a2 := none) (p1 := p1) (p2 := p2) (a5 := a5) (a6 := none) (cv := some (.bool (decide (89 ∈ x)))) (R := lc3 (lc4 (lc6 (lc7 (lc8 (sSeq (sRet (eJoin (eTurn (eL 0)))) sNil)))))) (Nat.lt_of_le_of_lt l1 (by decide))
  have l2 := up8 l1 (len_1b (p1 := p1) (x := x1))
  rw [eq_1b] at h2
  generalize step1b p1 x1 = x2 at *
  have h3 := lc3_run (x := x2) (a1 := some (.lst (strsA x))) (a2 := none) (p1 := p1) (p2 := p2) (a5 := a5') (a6 := a6) (cv := some (.bool (decide (89 ∈ x)))) (R := lc4 (lc6 (lc7 (lc8 (sSeq (sRet (eJoin (eTurn (eL 0)))) sNil))))) (Nat.lt_of_le_of_lt l2 (by decide))
  have l3 := up8 l2 (len_1c (x := x2))
  generalize step1c x2 = x3 at *
  have h4 := lc4_run (x := x3) (a1 := some (.lst (strsA x))) (a2 := none) (p1 := p1) (p2 := p2) (a5 := a5') (a6 := a6) (cv := some (.bool (decide (89 ∈ x)))) (R := lc6 (lc7 (lc8 (sSeq (sRet (eJoin (eTurn (eL 0)))) sNil)))) (Nat.lt_of_le_of_lt l3 (by decide))
  rw [eq_3, eq_2] at h4
  have l4 := up8 l3 (len_2 (p1 := p1) (x := x3))
  generalize step2 p1 x3 = x4 at *
  have l5 := up8 l4 (len_3 (p1 := p1) (x := x4))
  generalize step3 p1 x4 = x5 at *
  obtain ⟨a5'', a6'', h6⟩ := lc6_run (x := x5) (a1 := some (.lst (strsA x))) (a2 := none) (p1 := p1) (p2 := p2) (a5 := a5') (a6 := a6) (cv := some (.bool (decide (89 ∈ x)))) (R := lc7 (lc8 (sSeq (sRet (eJoin (eTurn (eL 0)))) sNil))) (Nat.lt_of_le_of_lt l5 (by decide))
  rw [eq_4] at h6
  have l6 := up8 l5 (len_4 (p2 := p2) (x := x5))
  generalize step4 p2 x5 = x6 at *
  obtain ⟨a6''', h7⟩ := lc7_run (x := x6) (a1 := some (.lst (strsA x))) (a2 := none) (p1 := p1) (p2 := p2) (a5 := a5'') (a6 := a6'') (cv := some (.bool (decide (89 ∈ x)))) (R := lc8 (sSeq (sRet (eJoin (eTurn (eL 0)))) sNil)) (Nat.lt_of_le_of_lt l6 (by decide))
  have l7 := up8 l6 (len_5a (p1 := p1) (p2 := p2) (x := x6))
  generalize step5a p1 p2 x6 = x7 at *
  have h8 := lc8_run (x := x7) (a1 := some (.lst (strsA x))) (a2 := none) (p1 := p1) (p2 := p2) (a5 := a5'') (a6 := a6''') (cv := some (.bool (decide (89 ∈ x)))) (R := sSeq (sRet (eJoin (eTurn (eL 0)))) sNil) (Nat.lt_of_le_of_lt l7 (by decide))
  have l8 := up8 l7 (len_5b (p2 := p2) (x := x7))
  generalize step5b p2 x7 = x8 at *
  have h9 := eTurn_is (x := x8) (B := decide (89 ∈ x)) (l := [some (.str x8), some (.lst (strsA x)), none, some (.int p1), some (.int p2), a5'', a6''']) rfl (Nat.le_trans l8 (by decide))
  have htot := h0.trans (h1.trans (h2.trans (h3.trans (h4.trans (h6.trans (h7.trans h8))))))
  rw [← s_law_is] at htot
  show (match s_law_stem (startSt 7 [] [.str w]) with | some (.ret v, st') => some (v, st'.fs) | some (.next, st') => some (.none, st'.fs) | _ => none) = _
  rw [show startSt 7 [] [.str w] = ⟨[], [some (.str w), none, none, none, none, none, none], none⟩ from rfl, htot]
  unfold LL
  simp only [decide_eq_true_eq] at h9
  generalize (if 89 ∈ x then x8.map back else x8) = z at *
  simp! [h9]
end
theorem evs_strs (st : St) : ∀ E : List (List Nat), evs (E.map fun x => eK (.str x)) st = some (E.map AV.str, st)
  | [] => rfl
  | e :: E => by
    rw [List.map_cons]
    unfold evs
    simp only [eK, Option.bind_some]
    rw [evs_strs st E]
    rfl
theorem run_ends : callF 0 s_law_ends [] [] = some (.lst (lawEnds.map AV.str), []) := by
  have h : ∀ st, eList (lawEnds.map fun x => eK (.str x)) st = some (.lst (lawEnds.map AV.str), st) := fun st => by
    unfold eList; rw [evs_strs]; rfl
  unfold callF s_law_ends
  simp only [sSeq, sRet, h, Option.map_some]
  rfl
noncomputable def pieceF (k : Nat) : List Nat := if k < 26 then [97 + k] else lawEnds.getD (k - 26) []
theorem piece_ok : ∀ k, k < 56 → (pieceF k).length ≤ 8 ∧ 89 ∉ pieceF k := by decide +kernel
theorem piece_let : ∀ k, k < 26 → ([97, 98, 99, 100, 101, 102, 103, 104, 105, 106, 107, 108, 109, 110, 111, 112, 113, 114, 115, 116, 117, 118, 119, 120, 121, 122] : List Nat)[k]? = some (97 + k) := by decide +kernel
theorem piece_end : ∀ j, j < 30 → lawEnds[j]? = some (lawEnds.getD j []) := by decide +kernel
noncomputable def flatO (o : Option AV) : Bool := match o with | none => true | some a => flatAV a
theorem lawLoop_one (n : Int) (acc : List Nat) (l1 l2 : Option AV) (hacc : acc.length ≤ 900) : s_lawLoop ⟨[], [some (.str acc), some (.int n), l2], none⟩ =
    some (.next, ⟨[], [some (.str (acc ++ pieceF (n.fmod 56).toNat)), some (.int n), some (.int (n.fmod 56))], none⟩) := by
  have hlo : 0 ≤ n.fmod 56 := Int.fmod_nonneg_of_pos _ (by decide)
  have hhi : n.fmod 56 < 56 := Int.fmod_lt_of_pos _ (by decide)
  have hm : gMod (.int n) (.int 56) = some (.int (n.fmod 56)) := by unfold gMod; dsimp only; rw [if_pos (by decide)]
  generalize n.fmod 56 = k at *
  obtain ⟨q, rfl⟩ := Int.eq_ofNat_of_zero_le hlo
  rw [Int.toNat_natCast]
  have hp := piece_ok q (by omega)
  have hlen : acc.length + (pieceF q).length ≤ 1000 := by omega
  by_cases h : q < 26
  · have h1 : (q : Int) < 26 := by omega
    have hpc : pieceF q = [97 + q] := if_pos h
    have hi : gIdx v_law_letters (.int (q : Int)) = some (.str [97 + q]) := gIdx_str (by omega) (by decide) (by rw [Int.toNat_natCast]; exact piece_let q h)
    rw [hpc] at hlen ⊢
    rw [show [97 + q].length = 1 from rfl] at hlen
    unfold s_lawLoop
    simp! [hm, h1, hi, hlen, Nat.zero_add]
  · have h1 : ¬ (q : Int) < 26 := by omega
    have hpc : pieceF q = lawEnds.getD (q - 26) [] := if_neg h
    have hi : gIdx (.lst (lawEnds.map AV.str)) (.int ((q : Int) - 26)) = some (.str (lawEnds.getD (q - 26) [])) := gIdx_lst (by omega) (by decide) (by
      rw [show ((q : Int) - 26).toNat = q - 26 by omega, List.getElem?_map, piece_end (q - 26) (by omega)]; rfl)
    have re := run_ends
    rw [← hpc] at hi
    generalize pieceF q = pc at *
    generalize lawEnds.map AV.str = lv at *
    unfold s_lawLoop
    simp! [callK, List.length_nil, hm, h1, re, hi, hlen]
theorem lawLoop_all : ∀ (ns : List Int) (acc : List Nat) (l1 l2 : Option AV), acc.length + 8 * ns.length ≤ 900 → 89 ∉ acc → flatO l1 = true → flatO l2 = true →
    ∃ w l1' l2', forL 1 s_lawLoop (ns.map .int) ⟨[], [some (.str acc), l1, l2], none⟩ = some (.next, ⟨[], [some (.str w), l1', l2'], none⟩) ∧ 89 ∉ w ∧ w.length ≤ 900 ∧ flatO l1' = true ∧ flatO l2' = true
  | [], acc, l1, l2, h, h89, f1, f2 => ⟨acc, l1, l2, rfl, h89, by simpa using h, f1, f2⟩
  | n :: ns, acc, l1, l2, h, h89, f1, f2 => by
    rw [List.length_cons] at h
    have hlo : 0 ≤ n.fmod 56 := Int.fmod_nonneg_of_pos _ (by decide)
    have hhi : n.fmod 56 < 56 := Int.fmod_lt_of_pos _ (by decide)
    have hp := piece_ok (n.fmod 56).toNat (by omega)
    obtain ⟨w, l1', l2', h1, h2⟩ := lawLoop_all ns (acc ++ pieceF (n.fmod 56).toNat) (some (.int n)) (some (.int (n.fmod 56))) (by rw [List.length_append]; omega) (by rw [List.mem_append]; exact fun q => q.elim h89 hp.2) rfl rfl
    refine ⟨w, l1', l2', ?_, h2⟩
    rw [List.map_cons]
    unfold forL
    rw [show setL ⟨[], [some (.str acc), l1, l2], none⟩ 1 (.int n) = ⟨[], [some (.str acc), some (.int n), l2], none⟩ from rfl, lawLoop_one n acc l1 l2 (by omega)]
    exact h1
theorem lawRest_true {w : List Nat} {l1 l2 : Option AV} (hw : w.length ≤ 900) (h89 : 89 ∉ w) (f1 : flatO l1 = true) (f2 : flatO l2 = true) : ∃ st3, s_lawRest ⟨[], [some (.str w), l1, l2], none⟩ = some (.ret (.bool true), st3) := by
  have h16 : (w.take 16).length ≤ 16 := List.length_take_le _ _
  have h89' : 89 ∉ w.take 16 := fun q => h89 (List.mem_of_mem_take q)
  have r1 := run_word h16 h89'
  have r2 := run_law h16
  have hsl : eSliceTo (eL 0) (eK (.int 16)) ⟨[], [some (.str w), l1, l2], none⟩ = some (.str (w.take 16), ⟨[], [some (.str w), l1, l2], none⟩) := by
    unfold eSliceTo
    simp only [eL, eK, List.getElem?_cons_zero, Option.bind_some]
    rw [if_pos ⟨by decide, by omega⟩]
    exact rfl
  generalize w.take 16 = v at *
  have hst : eStem ⟨[], [some (.str v), l1, l2], none⟩ = some (.str (porterF v), ⟨[], [some (.str v), l1, l2], none⟩) := by
    have hfl : flatSt ⟨[], [some (.str v), l1, l2], none⟩ = true := by
      show (flatAV (.str v) && (flatO l1 && (flatO l2 && true))) = true
      rw [f1, f2]
      exact rfl
    unfold eStem
    rw [if_pos ⟨hfl, rfl, rfl⟩]
    simp only [List.getElem?_cons_zero, r1, Option.map_some]
  refine ⟨⟨[], [some (.str v), l1, l2], none⟩, ?_⟩
  generalize porterF v = z at *
  unfold s_lawRest
  simp! [hsl, hst, r2]
theorem hrun : ∀ ns' : List Int, ns'.length ≤ 63 → ∃ st2 st3, forL 1 s_lawLoop (ns'.map .int) ⟨[], [some (.str []), none, none], none⟩ = some (.next, st2) ∧ s_lawRest st2 = some (.ret (.bool true), st3) := by
  intro ns h
  obtain ⟨w, l1', l2', h1, h2, h3, f1, f2⟩ := lawLoop_all ns [] none none (by simp; omega) (by simp) rfl rfl
  obtain ⟨st3, h4⟩ := lawRest_true h3 h2 f1 f2
  exact ⟨_, st3, h1, h4⟩
theorem holds : PySem.Challenge.rw_ii0001_01.Holds := law_top hrun
end Mine
theorem PySem.Challenge.cw_ii0001_01_holds : PySem.Challenge.rw_ii0001_01.Holds := by
  exact Mine.holds
