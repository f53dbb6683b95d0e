import PyProof.Rows.All
import Wide.All
import OpenK.AllK
import Wide.FinOn
import PySem.Challenge.RW_iu0014_01

set_option Elab.async false

section
open PySem PySem.W PySem.Calls PyProof.Rows
namespace Mine.Hd
set_option maxRecDepth 100000
set_option linter.unusedVariables false
def nth : List Stmt → Nat → Stmt
  | [], _ => .Pass ⟨0, 0, 0, 0⟩
  | s :: _, 0 => s
  | _ :: r, n + 1 => nth r n
def members : Stmt → List Stmt
  | .ClassDef _ _ _ b _ _ _ _ _ _ _ => b
  | _ => []
abbrev at1 (i : Nat) : Stmt := nth PySem.Challenge.pw_iu0014_01.main.body i
abbrev at2 (i k : Nat) : Stmt := nth (members (at1 i)) k
noncomputable def docAt : Stmt → Tok → Value
  | .FunctionDef _ _ (.Expr (.Constant (.str s) _ _) _ :: _) _ _ _ _ _ _ _, k => .str s k
  | _, _ => .none
noncomputable def fnAt (f : Stmt) {n bd : Str} {a : Arguments} {b : List Stmt} {dl : List Expr} {rt : Option Expr} {tp : List TypeParam} {sc : Scope} {ts : Option Scope} {pos : Pos} (_h : f = Stmt.FunctionDef n a b dl rt tp sc ts bd pos)
    (qual : Str) (g : Addr) (cl : List (Str × Addr)) (dV kV doc pm : Value) (an : Option Addr) (cd ct : Value) : Data := .func (FuncData.mk n qual a (.stmts b) sc g cl dV kV doc pm an cd ct 0)
noncomputable def ob_3 (P : Params) : Obj := Obj.mk (Value.type "dict") none (Data.dict #[DictEntry.mk (PyData.keyHash P "__name__") (Value.str "__name__" 165) (Value.str "law_iu0014_01" 634), DictEntry.mk (PyData.keyHash P "__doc__") (Value.str "__doc__" 166) Value.none, DictEntry.mk (PyData.keyHash P "__package__") (Value.str "__package__" 167) Value.none, DictEntry.mk (PyData.keyHash P "__loader__") (Value.str "__loader__" 168) (Value.builtin "__main__.__loader__#opaque"), DictEntry.mk (PyData.keyHash P "__spec__") (Value.str "__spec__" 169) Value.none, DictEntry.mk (PyData.keyHash P "__annotations__") (Value.str "__annotations__" 170) (Value.ref 6), DictEntry.mk (PyData.keyHash P "__builtins__") (Value.str "__builtins__" 171) (Value.ref 4), DictEntry.mk (PyData.keyHash P "__file__") (Value.str "__file__" 173) (Value.str "/claim/cut.py" 172), DictEntry.mk (PyData.keyHash P "__cached__") (Value.str "__cached__" 174) Value.none, DictEntry.mk (PyData.keyHash P "_wall") (Value.str "_wall" 193) (Value.ref 21), DictEntry.mk (PyData.keyHash P "QuadEdge") (Value.str "QuadEdge" 383) (Value.ref 156), DictEntry.mk (PyData.keyHash P "_tuplegetter") (Value.str "_tuplegetter" 442) (Value.ref 199), DictEntry.mk (PyData.keyHash P "Point") (Value.str "Point" 557) (Value.ref 271), DictEntry.mk (PyData.keyHash P "Context") (Value.str "Context" 633) (Value.ref 326), DictEntry.mk (PyData.keyHash P "_law_splice") (Value.str "_law_splice" 641) (Value.ref 335), DictEntry.mk (PyData.keyHash P "_law_near") (Value.str "_law_near" 647) (Value.ref 340), DictEntry.mk (PyData.keyHash P "_law_other") (Value.str "_law_other" 654) (Value.ref 347), DictEntry.mk (PyData.keyHash P "law") (Value.str "law" 673) (Value.ref 354)] 18) #[]
noncomputable def ob_11 (P : Params) : Obj := Obj.mk (Value.type "tuple") none (Data.seq #[]) #[]
noncomputable def ob_12 (P : Params) : Obj := Obj.mk Value.none none (Data.fields #[Value.int 1 0, Value.int 0 0, Value.ref 20, Value.int 5 0, Value.int 0 0, Value.ref 27, Value.int 118 0, Value.int 0 0, Value.ref 166, Value.int 136 0, Value.int 0 0, Value.ref 210, Value.int 178 0, Value.int 0 0, Value.ref 280, Value.int 199 0, Value.int 0 0, Value.ref 334, Value.int 211 0, Value.int 0 0, Value.ref 339, Value.int 214 0, Value.int 0 0, Value.ref 346, Value.int 216 0, Value.int 0 0, Value.ref 353]) #[]
noncomputable def ob_13 (P : Params) : Obj := Obj.mk (Value.type "code") none (Data.fields #[Value.str "<module>" 182, Value.str "<module>" 183, Value.str "/claim/cut.py" 184, Value.int 1 0, Value.int 0 0, Value.int 0 0, Value.int 0 0, Value.int 0 0, Value.ref 11, Value.bool false, Value.int 181 0, Value.ref 12, Value.none, Value.none, Value.none, Value.none, Value.int 185 0, Value.int 1 0, Value.str "/claim/cut.py" 186]) #[]
noncomputable def ob_14 (P : Params) : Obj := Obj.mk (Value.type "frame") none Data.plain #[some (Value.ref 13), some (Value.ref 3), some (Value.ref 3), none, some (Value.str "__main__" 164), none, some (Value.ref 0)]
noncomputable def ob_15 (P : Params) : Obj := Obj.mk (Value.type "tuple") none (Data.seq #[]) #[]
noncomputable def ob_16 (P : Params) : Obj := Obj.mk Value.none none (Data.fields #[]) #[]
noncomputable def ob_17 (P : Params) : Obj := Obj.mk (Value.type "tuple") none (Data.seq #[Value.str "k" 190]) #[]
noncomputable def ob_18 (P : Params) : Obj := Obj.mk (Value.type "tuple") none (Data.seq #[]) #[]
noncomputable def ob_19 (P : Params) : Obj := Obj.mk Value.none none (fnAt (at1 0) rfl "_wall" 0 [] Value.none Value.none Value.none Value.none none Value.none Value.none) #[]
noncomputable def ob_20 (P : Params) : Obj := Obj.mk (Value.type "code") none (Data.fields #[Value.str "_wall" 187, Value.str "_wall" 188, Value.str "/claim/cut.py" 189, Value.int 1 0, Value.int 1 0, Value.int 0 0, Value.int 0 0, Value.int 3 0, Value.ref 15, Value.bool true, Value.int 181 0, Value.ref 16, Value.none, Value.ref 17, Value.ref 18, Value.ref 19, Value.int 191 0, Value.int 1 0, Value.str "/claim/cut.py" 192]) #[]
noncomputable def ob_21 (P : Params) : Obj := Obj.mk (Value.type "function") none (fnAt (at1 0) rfl "_wall" 3 [] Value.none Value.none Value.none (Value.str "__main__" 164) none (Value.ref 20) Value.none) #[]
noncomputable def ob_22 (P : Params) : Obj := Obj.mk (Value.type "tuple") none (Data.seq #[]) #[]
noncomputable def ob_23 (P : Params) : Obj := Obj.mk (Value.type "builtin_function_or_method") none (Data.fields #[Value.builtin "type.__prepare__", Value.type "type"]) #[]
noncomputable def ob_24 (P : Params) : Obj := Obj.mk (Value.type "dict") none (Data.dict #[DictEntry.mk (PyData.keyHash P "__module__") (Value.str "__module__" 203) (Value.str "sect.core.delaunay.quad_edge" 194), DictEntry.mk (PyData.keyHash P "__qualname__") (Value.str "__qualname__" 205) (Value.str "QuadEdge" 204), DictEntry.mk (PyData.keyHash P "__firstlineno__") (Value.str "__firstlineno__" 207) (Value.int 5 206), DictEntry.mk (PyData.keyHash P "__doc__") (Value.str "__doc__" 209) (Value.str "\nBased on:\n    quad-edge data structure.\n\nReference:\n    https://en.wikipedia.org/wiki/Quad-edge\n    http://www.sccg.sk/~samuelcik/dgs/quad_edge.pdf\n" 208), DictEntry.mk (PyData.keyHash P "from_endpoints") (Value.str "from_endpoints" 237) (Value.ref 37), DictEntry.mk (PyData.keyHash P "context") (Value.str "context" 245) (Value.ref 46), DictEntry.mk (PyData.keyHash P "end") (Value.str "end" 254) (Value.ref 54), DictEntry.mk (PyData.keyHash P "left_from_end") (Value.str "left_from_end" 263) (Value.ref 62), DictEntry.mk (PyData.keyHash P "left_from_start") (Value.str "left_from_start" 272) (Value.ref 70), DictEntry.mk (PyData.keyHash P "opposite") (Value.str "opposite" 281) (Value.ref 78), DictEntry.mk (PyData.keyHash P "right_from_end") (Value.str "right_from_end" 290) (Value.ref 86), DictEntry.mk (PyData.keyHash P "right_from_start") (Value.str "right_from_start" 299) (Value.ref 94), DictEntry.mk (PyData.keyHash P "rotated") (Value.str "rotated" 308) (Value.ref 102), DictEntry.mk (PyData.keyHash P "start") (Value.str "start" 317) (Value.ref 110), DictEntry.mk (PyData.keyHash P "__init__") (Value.str "__init__" 328) (Value.ref 118), DictEntry.mk (PyData.keyHash P "connect") (Value.str "connect" 338) (Value.ref 125), DictEntry.mk (PyData.keyHash P "delete") (Value.str "delete" 346) (Value.ref 132), DictEntry.mk (PyData.keyHash P "orientation_of") (Value.str "orientation_of" 354) (Value.ref 139), DictEntry.mk (PyData.keyHash P "splice") (Value.str "splice" 365) (Value.ref 146), DictEntry.mk (PyData.keyHash P "swap") (Value.str "swap" 372) (Value.ref 153), DictEntry.mk (PyData.keyHash P "__static_attributes__") (Value.str "__static_attributes__" 377) (Value.ref 154)] 21) #[]
noncomputable def ob_25 (P : Params) : Obj := Obj.mk (Value.type "tuple") none (Data.seq #[]) #[]
noncomputable def ob_26 (P : Params) : Obj := Obj.mk Value.none none (Data.fields #[Value.int 16 0, Value.int 4 0, Value.ref 34, Value.int 31 0, Value.int 4 0, Value.ref 44, Value.int 35 0, Value.int 4 0, Value.ref 52, Value.int 42 0, Value.int 4 0, Value.ref 60, Value.int 49 0, Value.int 4 0, Value.ref 68, Value.int 56 0, Value.int 4 0, Value.ref 76, Value.int 63 0, Value.int 4 0, Value.ref 84, Value.int 70 0, Value.int 4 0, Value.ref 92, Value.int 77 0, Value.int 4 0, Value.ref 100, Value.int 84 0, Value.int 4 0, Value.ref 108, Value.int 90 0, Value.int 4 0, Value.ref 117, Value.int 93 0, Value.int 4 0, Value.ref 124, Value.int 100 0, Value.int 4 0, Value.ref 131, Value.int 105 0, Value.int 4 0, Value.ref 138, Value.int 108 0, Value.int 4 0, Value.ref 145, Value.int 115 0, Value.int 4 0, Value.ref 152]) #[]
noncomputable def ob_27 (P : Params) : Obj := Obj.mk (Value.type "code") none (Data.fields #[Value.str "QuadEdge" 198, Value.str "QuadEdge" 199, Value.str "/claim/cut.py" 200, Value.int 5 0, Value.int 0 0, Value.int 0 0, Value.int 0 0, Value.int 0 0, Value.ref 25, Value.bool false, Value.int 181 0, Value.ref 26, Value.none, Value.none, Value.none, Value.none, Value.int 201 0, Value.int 5 0, Value.str "/claim/cut.py" 202]) #[]
noncomputable def ob_28 (P : Params) : Obj := Obj.mk (Value.type "frame") none Data.plain #[some (Value.ref 27), some (Value.ref 3), some (Value.ref 24), none, some (Value.str "sect.core.delaunay.quad_edge" 194), none, some (Value.ref 0)]
noncomputable def ob_29 (P : Params) : Obj := Obj.mk (Value.type "tuple") none (Data.seq #[]) #[]
noncomputable def ob_30 (P : Params) : Obj := Obj.mk Value.none none (Data.fields #[]) #[]
noncomputable def ob_31 (P : Params) : Obj := Obj.mk (Value.type "tuple") none (Data.seq #[Value.str "cls" 214, Value.str "start" 215, Value.str "end" 216, Value.str "context" 217, Value.str "result" 218, Value.str "opposite" 219, Value.str "rotated" 220, Value.str "triple_rotated" 221]) #[]
noncomputable def ob_32 (P : Params) : Obj := Obj.mk (Value.type "tuple") none (Data.seq #[]) #[]
noncomputable def ob_33 (P : Params) : Obj := Obj.mk Value.none none (fnAt (at2 2 1) rfl "QuadEdge.from_endpoints" 0 [] Value.none Value.none Value.none Value.none none Value.none Value.none) #[]
noncomputable def ob_34 (P : Params) : Obj := Obj.mk (Value.type "code") none (Data.fields #[Value.str "from_endpoints" 211, Value.str "QuadEdge.from_endpoints" 212, Value.str "/claim/cut.py" 213, Value.int 15 0, Value.int 3 0, Value.int 0 0, Value.int 1 0, Value.int 3 0, Value.ref 29, Value.bool true, Value.int 181 0, Value.ref 30, Value.none, Value.ref 31, Value.ref 32, Value.ref 33, Value.int 222 0, Value.int 15 0, Value.str "/claim/cut.py" 223]) #[]
noncomputable def ob_35 (P : Params) : Obj := Obj.mk (Value.type "function") none (fnAt (at2 2 1) rfl "QuadEdge.from_endpoints" 3 [] Value.none Value.none (Value.str "Creates new edge from endpoints." 224) (Value.str "sect.core.delaunay.quad_edge" 194) (some 38) (Value.ref 34) Value.none) #[]
noncomputable def ob_36 (P : Params) : Obj := Obj.mk (Value.type "dict") none (Data.dict #[DictEntry.mk (PyData.keyHash P "__module__") (Value.str "__module__" 226) (Value.str "sect.core.delaunay.quad_edge" 194), DictEntry.mk (PyData.keyHash P "__name__") (Value.str "__name__" 229) (Value.str "from_endpoints" 228), DictEntry.mk (PyData.keyHash P "__qualname__") (Value.str "__qualname__" 232) (Value.str "QuadEdge.from_endpoints" 231), DictEntry.mk (PyData.keyHash P "__doc__") (Value.str "__doc__" 234) (Value.str "Creates new edge from endpoints." 224), DictEntry.mk (PyData.keyHash P "__annotations__") (Value.str "__annotations__" 236) (Value.ref 38)] 5) #[]
noncomputable def ob_37 (P : Params) : Obj := Obj.mk (Value.type "classmethod") (some 36) (Data.fields #[Value.ref 35, Value.bool false]) #[]
noncomputable def ob_38 (P : Params) : Obj := Obj.mk (Value.type "dict") none (Data.dict #[]) #[]
noncomputable def ob_39 (P : Params) : Obj := Obj.mk (Value.type "tuple") none (Data.seq #[]) #[]
noncomputable def ob_40 (P : Params) : Obj := Obj.mk Value.none none (Data.fields #[]) #[]
noncomputable def ob_41 (P : Params) : Obj := Obj.mk (Value.type "tuple") none (Data.seq #[Value.str "self" 241]) #[]
noncomputable def ob_42 (P : Params) : Obj := Obj.mk (Value.type "tuple") none (Data.seq #[]) #[]
noncomputable def ob_43 (P : Params) : Obj := Obj.mk Value.none none (fnAt (at2 2 2) rfl "QuadEdge.context" 0 [] Value.none Value.none Value.none Value.none none Value.none Value.none) #[]
noncomputable def ob_44 (P : Params) : Obj := Obj.mk (Value.type "code") none (Data.fields #[Value.str "context" 238, Value.str "QuadEdge.context" 239, Value.str "/claim/cut.py" 240, Value.int 30 0, Value.int 1 0, Value.int 0 0, Value.int 0 0, Value.int 3 0, Value.ref 39, Value.bool true, Value.int 181 0, Value.ref 40, Value.none, Value.ref 41, Value.ref 42, Value.ref 43, Value.int 242 0, Value.int 30 0, Value.str "/claim/cut.py" 243]) #[]
noncomputable def ob_45 (P : Params) : Obj := Obj.mk (Value.type "function") none (fnAt (at2 2 2) rfl "QuadEdge.context" 3 [] Value.none Value.none Value.none (Value.str "sect.core.delaunay.quad_edge" 194) none (Value.ref 44) Value.none) #[]
noncomputable def ob_46 (P : Params) : Obj := Obj.mk (Value.type "property") none (Data.fields #[Value.ref 45, Value.none, Value.none, Value.none, Value.str "context" 245, Value.bool false]) #[]
noncomputable def ob_47 (P : Params) : Obj := Obj.mk (Value.type "tuple") none (Data.seq #[]) #[]
noncomputable def ob_48 (P : Params) : Obj := Obj.mk Value.none none (Data.fields #[]) #[]
noncomputable def ob_49 (P : Params) : Obj := Obj.mk (Value.type "tuple") none (Data.seq #[Value.str "self" 249]) #[]
noncomputable def ob_50 (P : Params) : Obj := Obj.mk (Value.type "tuple") none (Data.seq #[]) #[]
noncomputable def ob_51 (P : Params) : Obj := Obj.mk Value.none none (fnAt (at2 2 3) rfl "QuadEdge.end" 0 [] Value.none Value.none Value.none Value.none none Value.none Value.none) #[]
noncomputable def ob_52 (P : Params) : Obj := Obj.mk (Value.type "code") none (Data.fields #[Value.str "end" 246, Value.str "QuadEdge.end" 247, Value.str "/claim/cut.py" 248, Value.int 34 0, Value.int 1 0, Value.int 0 0, Value.int 0 0, Value.int 3 0, Value.ref 47, Value.bool true, Value.int 181 0, Value.ref 48, Value.none, Value.ref 49, Value.ref 50, Value.ref 51, Value.int 250 0, Value.int 34 0, Value.str "/claim/cut.py" 251]) #[]
noncomputable def ob_53 (P : Params) : Obj := Obj.mk (Value.type "function") none (fnAt (at2 2 3) rfl "QuadEdge.end" 3 [] Value.none Value.none (Value.str "\naka \"Dest\" in L. Guibas and J. Stolfi notation.\n" 252) (Value.str "sect.core.delaunay.quad_edge" 194) none (Value.ref 52) Value.none) #[]
noncomputable def ob_54 (P : Params) : Obj := Obj.mk (Value.type "property") none (Data.fields #[Value.ref 53, Value.none, Value.none, Value.str "\naka \"Dest\" in L. Guibas and J. Stolfi notation.\n" 252, Value.str "end" 254, Value.bool true]) #[]
noncomputable def ob_55 (P : Params) : Obj := Obj.mk (Value.type "tuple") none (Data.seq #[]) #[]
noncomputable def ob_56 (P : Params) : Obj := Obj.mk Value.none none (Data.fields #[]) #[]
noncomputable def ob_57 (P : Params) : Obj := Obj.mk (Value.type "tuple") none (Data.seq #[Value.str "self" 258]) #[]
noncomputable def ob_58 (P : Params) : Obj := Obj.mk (Value.type "tuple") none (Data.seq #[]) #[]
noncomputable def ob_59 (P : Params) : Obj := Obj.mk Value.none none (fnAt (at2 2 4) rfl "QuadEdge.left_from_end" 0 [] Value.none Value.none Value.none Value.none none Value.none Value.none) #[]
noncomputable def ob_60 (P : Params) : Obj := Obj.mk (Value.type "code") none (Data.fields #[Value.str "left_from_end" 255, Value.str "QuadEdge.left_from_end" 256, Value.str "/claim/cut.py" 257, Value.int 41 0, Value.int 1 0, Value.int 0 0, Value.int 0 0, Value.int 3 0, Value.ref 55, Value.bool true, Value.int 181 0, Value.ref 56, Value.none, Value.ref 57, Value.ref 58, Value.ref 59, Value.int 259 0, Value.int 41 0, Value.str "/claim/cut.py" 260]) #[]
noncomputable def ob_61 (P : Params) : Obj := Obj.mk (Value.type "function") none (fnAt (at2 2 4) rfl "QuadEdge.left_from_end" 3 [] Value.none Value.none (Value.str "\naka \"Lnext\" in L. Guibas and J. Stolfi notation.\n" 261) (Value.str "sect.core.delaunay.quad_edge" 194) none (Value.ref 60) Value.none) #[]
noncomputable def ob_62 (P : Params) : Obj := Obj.mk (Value.type "property") none (Data.fields #[Value.ref 61, Value.none, Value.none, Value.str "\naka \"Lnext\" in L. Guibas and J. Stolfi notation.\n" 261, Value.str "left_from_end" 263, Value.bool true]) #[]
noncomputable def ob_63 (P : Params) : Obj := Obj.mk (Value.type "tuple") none (Data.seq #[]) #[]
noncomputable def ob_64 (P : Params) : Obj := Obj.mk Value.none none (Data.fields #[]) #[]
noncomputable def ob_65 (P : Params) : Obj := Obj.mk (Value.type "tuple") none (Data.seq #[Value.str "self" 267]) #[]
noncomputable def ob_66 (P : Params) : Obj := Obj.mk (Value.type "tuple") none (Data.seq #[]) #[]
noncomputable def ob_67 (P : Params) : Obj := Obj.mk Value.none none (fnAt (at2 2 5) rfl "QuadEdge.left_from_start" 0 [] Value.none Value.none Value.none Value.none none Value.none Value.none) #[]
noncomputable def ob_68 (P : Params) : Obj := Obj.mk (Value.type "code") none (Data.fields #[Value.str "left_from_start" 264, Value.str "QuadEdge.left_from_start" 265, Value.str "/claim/cut.py" 266, Value.int 48 0, Value.int 1 0, Value.int 0 0, Value.int 0 0, Value.int 3 0, Value.ref 63, Value.bool true, Value.int 181 0, Value.ref 64, Value.none, Value.ref 65, Value.ref 66, Value.ref 67, Value.int 268 0, Value.int 48 0, Value.str "/claim/cut.py" 269]) #[]
noncomputable def ob_69 (P : Params) : Obj := Obj.mk (Value.type "function") none (fnAt (at2 2 5) rfl "QuadEdge.left_from_start" 3 [] Value.none Value.none (Value.str "\naka \"Onext\" in L. Guibas and J. Stolfi notation.\n" 270) (Value.str "sect.core.delaunay.quad_edge" 194) none (Value.ref 68) Value.none) #[]
noncomputable def ob_70 (P : Params) : Obj := Obj.mk (Value.type "property") none (Data.fields #[Value.ref 69, Value.none, Value.none, Value.str "\naka \"Onext\" in L. Guibas and J. Stolfi notation.\n" 270, Value.str "left_from_start" 272, Value.bool true]) #[]
noncomputable def ob_71 (P : Params) : Obj := Obj.mk (Value.type "tuple") none (Data.seq #[]) #[]
noncomputable def ob_72 (P : Params) : Obj := Obj.mk Value.none none (Data.fields #[]) #[]
noncomputable def ob_73 (P : Params) : Obj := Obj.mk (Value.type "tuple") none (Data.seq #[Value.str "self" 276]) #[]
noncomputable def ob_74 (P : Params) : Obj := Obj.mk (Value.type "tuple") none (Data.seq #[]) #[]
noncomputable def ob_75 (P : Params) : Obj := Obj.mk Value.none none (fnAt (at2 2 6) rfl "QuadEdge.opposite" 0 [] Value.none Value.none Value.none Value.none none Value.none Value.none) #[]
noncomputable def ob_76 (P : Params) : Obj := Obj.mk (Value.type "code") none (Data.fields #[Value.str "opposite" 273, Value.str "QuadEdge.opposite" 274, Value.str "/claim/cut.py" 275, Value.int 55 0, Value.int 1 0, Value.int 0 0, Value.int 0 0, Value.int 3 0, Value.ref 71, Value.bool true, Value.int 181 0, Value.ref 72, Value.none, Value.ref 73, Value.ref 74, Value.ref 75, Value.int 277 0, Value.int 55 0, Value.str "/claim/cut.py" 278]) #[]
noncomputable def ob_77 (P : Params) : Obj := Obj.mk (Value.type "function") none (fnAt (at2 2 6) rfl "QuadEdge.opposite" 3 [] Value.none Value.none (Value.str "\naka \"Sym\" in L. Guibas and J. Stolfi notation.\n" 279) (Value.str "sect.core.delaunay.quad_edge" 194) none (Value.ref 76) Value.none) #[]
noncomputable def ob_78 (P : Params) : Obj := Obj.mk (Value.type "property") none (Data.fields #[Value.ref 77, Value.none, Value.none, Value.str "\naka \"Sym\" in L. Guibas and J. Stolfi notation.\n" 279, Value.str "opposite" 281, Value.bool true]) #[]
noncomputable def ob_79 (P : Params) : Obj := Obj.mk (Value.type "tuple") none (Data.seq #[]) #[]
noncomputable def ob_80 (P : Params) : Obj := Obj.mk Value.none none (Data.fields #[]) #[]
noncomputable def ob_81 (P : Params) : Obj := Obj.mk (Value.type "tuple") none (Data.seq #[Value.str "self" 285]) #[]
noncomputable def ob_82 (P : Params) : Obj := Obj.mk (Value.type "tuple") none (Data.seq #[]) #[]
noncomputable def ob_83 (P : Params) : Obj := Obj.mk Value.none none (fnAt (at2 2 7) rfl "QuadEdge.right_from_end" 0 [] Value.none Value.none Value.none Value.none none Value.none Value.none) #[]
noncomputable def ob_84 (P : Params) : Obj := Obj.mk (Value.type "code") none (Data.fields #[Value.str "right_from_end" 282, Value.str "QuadEdge.right_from_end" 283, Value.str "/claim/cut.py" 284, Value.int 62 0, Value.int 1 0, Value.int 0 0, Value.int 0 0, Value.int 3 0, Value.ref 79, Value.bool true, Value.int 181 0, Value.ref 80, Value.none, Value.ref 81, Value.ref 82, Value.ref 83, Value.int 286 0, Value.int 62 0, Value.str "/claim/cut.py" 287]) #[]
noncomputable def ob_85 (P : Params) : Obj := Obj.mk (Value.type "function") none (fnAt (at2 2 7) rfl "QuadEdge.right_from_end" 3 [] Value.none Value.none (Value.str "\naka \"Rprev\" in L. Guibas and J. Stolfi notation.\n" 288) (Value.str "sect.core.delaunay.quad_edge" 194) none (Value.ref 84) Value.none) #[]
noncomputable def ob_86 (P : Params) : Obj := Obj.mk (Value.type "property") none (Data.fields #[Value.ref 85, Value.none, Value.none, Value.str "\naka \"Rprev\" in L. Guibas and J. Stolfi notation.\n" 288, Value.str "right_from_end" 290, Value.bool true]) #[]
noncomputable def ob_87 (P : Params) : Obj := Obj.mk (Value.type "tuple") none (Data.seq #[]) #[]
noncomputable def ob_88 (P : Params) : Obj := Obj.mk Value.none none (Data.fields #[]) #[]
noncomputable def ob_89 (P : Params) : Obj := Obj.mk (Value.type "tuple") none (Data.seq #[Value.str "self" 294]) #[]
noncomputable def ob_90 (P : Params) : Obj := Obj.mk (Value.type "tuple") none (Data.seq #[]) #[]
noncomputable def ob_91 (P : Params) : Obj := Obj.mk Value.none none (fnAt (at2 2 8) rfl "QuadEdge.right_from_start" 0 [] Value.none Value.none Value.none Value.none none Value.none Value.none) #[]
noncomputable def ob_92 (P : Params) : Obj := Obj.mk (Value.type "code") none (Data.fields #[Value.str "right_from_start" 291, Value.str "QuadEdge.right_from_start" 292, Value.str "/claim/cut.py" 293, Value.int 69 0, Value.int 1 0, Value.int 0 0, Value.int 0 0, Value.int 3 0, Value.ref 87, Value.bool true, Value.int 181 0, Value.ref 88, Value.none, Value.ref 89, Value.ref 90, Value.ref 91, Value.int 295 0, Value.int 69 0, Value.str "/claim/cut.py" 296]) #[]
noncomputable def ob_93 (P : Params) : Obj := Obj.mk (Value.type "function") none (fnAt (at2 2 8) rfl "QuadEdge.right_from_start" 3 [] Value.none Value.none (Value.str "\naka \"Oprev\" in L. Guibas and J. Stolfi notation.\n" 297) (Value.str "sect.core.delaunay.quad_edge" 194) none (Value.ref 92) Value.none) #[]
noncomputable def ob_94 (P : Params) : Obj := Obj.mk (Value.type "property") none (Data.fields #[Value.ref 93, Value.none, Value.none, Value.str "\naka \"Oprev\" in L. Guibas and J. Stolfi notation.\n" 297, Value.str "right_from_start" 299, Value.bool true]) #[]
noncomputable def ob_95 (P : Params) : Obj := Obj.mk (Value.type "tuple") none (Data.seq #[]) #[]
noncomputable def ob_96 (P : Params) : Obj := Obj.mk Value.none none (Data.fields #[]) #[]
noncomputable def ob_97 (P : Params) : Obj := Obj.mk (Value.type "tuple") none (Data.seq #[Value.str "self" 303]) #[]
noncomputable def ob_98 (P : Params) : Obj := Obj.mk (Value.type "tuple") none (Data.seq #[]) #[]
noncomputable def ob_99 (P : Params) : Obj := Obj.mk Value.none none (fnAt (at2 2 9) rfl "QuadEdge.rotated" 0 [] Value.none Value.none Value.none Value.none none Value.none Value.none) #[]
noncomputable def ob_100 (P : Params) : Obj := Obj.mk (Value.type "code") none (Data.fields #[Value.str "rotated" 300, Value.str "QuadEdge.rotated" 301, Value.str "/claim/cut.py" 302, Value.int 76 0, Value.int 1 0, Value.int 0 0, Value.int 0 0, Value.int 3 0, Value.ref 95, Value.bool true, Value.int 181 0, Value.ref 96, Value.none, Value.ref 97, Value.ref 98, Value.ref 99, Value.int 304 0, Value.int 76 0, Value.str "/claim/cut.py" 305]) #[]
noncomputable def ob_101 (P : Params) : Obj := Obj.mk (Value.type "function") none (fnAt (at2 2 9) rfl "QuadEdge.rotated" 3 [] Value.none Value.none (Value.str "\naka \"Rot\" in L. Guibas and J. Stolfi notation.\n" 306) (Value.str "sect.core.delaunay.quad_edge" 194) none (Value.ref 100) Value.none) #[]
noncomputable def ob_102 (P : Params) : Obj := Obj.mk (Value.type "property") none (Data.fields #[Value.ref 101, Value.none, Value.none, Value.str "\naka \"Rot\" in L. Guibas and J. Stolfi notation.\n" 306, Value.str "rotated" 308, Value.bool true]) #[]
noncomputable def ob_103 (P : Params) : Obj := Obj.mk (Value.type "tuple") none (Data.seq #[]) #[]
noncomputable def ob_104 (P : Params) : Obj := Obj.mk Value.none none (Data.fields #[]) #[]
noncomputable def ob_105 (P : Params) : Obj := Obj.mk (Value.type "tuple") none (Data.seq #[Value.str "self" 312]) #[]
noncomputable def ob_106 (P : Params) : Obj := Obj.mk (Value.type "tuple") none (Data.seq #[]) #[]
noncomputable def ob_107 (P : Params) : Obj := Obj.mk Value.none none (fnAt (at2 2 10) rfl "QuadEdge.start" 0 [] Value.none Value.none Value.none Value.none none Value.none Value.none) #[]
noncomputable def ob_108 (P : Params) : Obj := Obj.mk (Value.type "code") none (Data.fields #[Value.str "start" 309, Value.str "QuadEdge.start" 310, Value.str "/claim/cut.py" 311, Value.int 83 0, Value.int 1 0, Value.int 0 0, Value.int 0 0, Value.int 3 0, Value.ref 103, Value.bool true, Value.int 181 0, Value.ref 104, Value.none, Value.ref 105, Value.ref 106, Value.ref 107, Value.int 313 0, Value.int 83 0, Value.str "/claim/cut.py" 314]) #[]
noncomputable def ob_109 (P : Params) : Obj := Obj.mk (Value.type "function") none (fnAt (at2 2 10) rfl "QuadEdge.start" 3 [] Value.none Value.none (Value.str "\naka \"Org\" in L. Guibas and J. Stolfi notation.\n" 315) (Value.str "sect.core.delaunay.quad_edge" 194) none (Value.ref 108) Value.none) #[]
noncomputable def ob_110 (P : Params) : Obj := Obj.mk (Value.type "property") none (Data.fields #[Value.ref 109, Value.none, Value.none, Value.str "\naka \"Org\" in L. Guibas and J. Stolfi notation.\n" 315, Value.str "start" 317, Value.bool true]) #[]
noncomputable def ob_111 (P : Params) : Obj := Obj.mk (Value.type "tuple") none (Data.seq #[Value.none, Value.none, Value.none]) #[]
noncomputable def ob_112 (P : Params) : Obj := Obj.mk (Value.type "tuple") none (Data.seq #[]) #[]
noncomputable def ob_113 (P : Params) : Obj := Obj.mk Value.none none (Data.fields #[]) #[]
noncomputable def ob_114 (P : Params) : Obj := Obj.mk (Value.type "tuple") none (Data.seq #[Value.str "self" 321, Value.str "start" 322, Value.str "left_from_start" 323, Value.str "rotated" 324, Value.str "context" 325]) #[]
noncomputable def ob_115 (P : Params) : Obj := Obj.mk (Value.type "tuple") none (Data.seq #[]) #[]
noncomputable def ob_116 (P : Params) : Obj := Obj.mk Value.none none (fnAt (at2 2 11) rfl "QuadEdge.__init__" 0 [] Value.none Value.none Value.none Value.none none Value.none Value.none) #[]
noncomputable def ob_117 (P : Params) : Obj := Obj.mk (Value.type "code") none (Data.fields #[Value.str "__init__" 318, Value.str "QuadEdge.__init__" 319, Value.str "/claim/cut.py" 320, Value.int 90 0, Value.int 4 0, Value.int 0 0, Value.int 1 0, Value.int 3 0, Value.ref 112, Value.bool true, Value.int 181 0, Value.ref 113, Value.none, Value.ref 114, Value.ref 115, Value.ref 116, Value.int 326 0, Value.int 90 0, Value.str "/claim/cut.py" 327]) #[]
noncomputable def ob_118 (P : Params) : Obj := Obj.mk (Value.type "function") none (fnAt (at2 2 11) rfl "QuadEdge.__init__" 3 [] (Value.ref 111) Value.none Value.none (Value.str "sect.core.delaunay.quad_edge" 194) none (Value.ref 117) Value.none) #[]
noncomputable def ob_119 (P : Params) : Obj := Obj.mk (Value.type "tuple") none (Data.seq #[]) #[]
noncomputable def ob_120 (P : Params) : Obj := Obj.mk Value.none none (Data.fields #[]) #[]
noncomputable def ob_121 (P : Params) : Obj := Obj.mk (Value.type "tuple") none (Data.seq #[Value.str "self" 332, Value.str "other" 333, Value.str "result" 334]) #[]
noncomputable def ob_122 (P : Params) : Obj := Obj.mk (Value.type "tuple") none (Data.seq #[]) #[]
noncomputable def ob_123 (P : Params) : Obj := Obj.mk Value.none none (fnAt (at2 2 12) rfl "QuadEdge.connect" 0 [] Value.none Value.none Value.none Value.none none Value.none Value.none) #[]
noncomputable def ob_124 (P : Params) : Obj := Obj.mk (Value.type "code") none (Data.fields #[Value.str "connect" 329, Value.str "QuadEdge.connect" 330, Value.str "/claim/cut.py" 331, Value.int 93 0, Value.int 2 0, Value.int 0 0, Value.int 0 0, Value.int 3 0, Value.ref 119, Value.bool true, Value.int 181 0, Value.ref 120, Value.none, Value.ref 121, Value.ref 122, Value.ref 123, Value.int 335 0, Value.int 93 0, Value.str "/claim/cut.py" 336]) #[]
noncomputable def ob_125 (P : Params) : Obj := Obj.mk (Value.type "function") none (fnAt (at2 2 12) rfl "QuadEdge.connect" 3 [] Value.none Value.none (Value.str "Connects the edge with the other." 337) (Value.str "sect.core.delaunay.quad_edge" 194) none (Value.ref 124) Value.none) #[]
noncomputable def ob_126 (P : Params) : Obj := Obj.mk (Value.type "tuple") none (Data.seq #[]) #[]
noncomputable def ob_127 (P : Params) : Obj := Obj.mk Value.none none (Data.fields #[]) #[]
noncomputable def ob_128 (P : Params) : Obj := Obj.mk (Value.type "tuple") none (Data.seq #[Value.str "self" 342]) #[]
noncomputable def ob_129 (P : Params) : Obj := Obj.mk (Value.type "tuple") none (Data.seq #[]) #[]
noncomputable def ob_130 (P : Params) : Obj := Obj.mk Value.none none (fnAt (at2 2 13) rfl "QuadEdge.delete" 0 [] Value.none Value.none Value.none Value.none none Value.none Value.none) #[]
noncomputable def ob_131 (P : Params) : Obj := Obj.mk (Value.type "code") none (Data.fields #[Value.str "delete" 339, Value.str "QuadEdge.delete" 340, Value.str "/claim/cut.py" 341, Value.int 100 0, Value.int 1 0, Value.int 0 0, Value.int 0 0, Value.int 3 0, Value.ref 126, Value.bool true, Value.int 181 0, Value.ref 127, Value.none, Value.ref 128, Value.ref 129, Value.ref 130, Value.int 343 0, Value.int 100 0, Value.str "/claim/cut.py" 344]) #[]
noncomputable def ob_132 (P : Params) : Obj := Obj.mk (Value.type "function") none (fnAt (at2 2 13) rfl "QuadEdge.delete" 3 [] Value.none Value.none (Value.str "Deletes the edge." 345) (Value.str "sect.core.delaunay.quad_edge" 194) none (Value.ref 131) Value.none) #[]
noncomputable def ob_133 (P : Params) : Obj := Obj.mk (Value.type "tuple") none (Data.seq #[]) #[]
noncomputable def ob_134 (P : Params) : Obj := Obj.mk Value.none none (Data.fields #[]) #[]
noncomputable def ob_135 (P : Params) : Obj := Obj.mk (Value.type "tuple") none (Data.seq #[Value.str "self" 350, Value.str "point" 351]) #[]
noncomputable def ob_136 (P : Params) : Obj := Obj.mk (Value.type "tuple") none (Data.seq #[]) #[]
noncomputable def ob_137 (P : Params) : Obj := Obj.mk Value.none none (fnAt (at2 2 14) rfl "QuadEdge.orientation_of" 0 [] Value.none Value.none Value.none Value.none none Value.none Value.none) #[]
noncomputable def ob_138 (P : Params) : Obj := Obj.mk (Value.type "code") none (Data.fields #[Value.str "orientation_of" 347, Value.str "QuadEdge.orientation_of" 348, Value.str "/claim/cut.py" 349, Value.int 105 0, Value.int 2 0, Value.int 0 0, Value.int 0 0, Value.int 3 0, Value.ref 133, Value.bool true, Value.int 181 0, Value.ref 134, Value.none, Value.ref 135, Value.ref 136, Value.ref 137, Value.int 352 0, Value.int 105 0, Value.str "/claim/cut.py" 353]) #[]
noncomputable def ob_139 (P : Params) : Obj := Obj.mk (Value.type "function") none (fnAt (at2 2 14) rfl "QuadEdge.orientation_of" 3 [] Value.none Value.none Value.none (Value.str "sect.core.delaunay.quad_edge" 194) none (Value.ref 138) Value.none) #[]
noncomputable def ob_140 (P : Params) : Obj := Obj.mk (Value.type "tuple") none (Data.seq #[]) #[]
noncomputable def ob_141 (P : Params) : Obj := Obj.mk Value.none none (Data.fields #[]) #[]
noncomputable def ob_142 (P : Params) : Obj := Obj.mk (Value.type "tuple") none (Data.seq #[Value.str "self" 358, Value.str "other" 359, Value.str "alpha" 360, Value.str "beta" 361]) #[]
noncomputable def ob_143 (P : Params) : Obj := Obj.mk (Value.type "tuple") none (Data.seq #[]) #[]
noncomputable def ob_144 (P : Params) : Obj := Obj.mk Value.none none (fnAt (at2 2 15) rfl "QuadEdge.splice" 0 [] Value.none Value.none Value.none Value.none none Value.none Value.none) #[]
noncomputable def ob_145 (P : Params) : Obj := Obj.mk (Value.type "code") none (Data.fields #[Value.str "splice" 355, Value.str "QuadEdge.splice" 356, Value.str "/claim/cut.py" 357, Value.int 108 0, Value.int 2 0, Value.int 0 0, Value.int 0 0, Value.int 3 0, Value.ref 140, Value.bool true, Value.int 181 0, Value.ref 141, Value.none, Value.ref 142, Value.ref 143, Value.ref 144, Value.int 362 0, Value.int 108 0, Value.str "/claim/cut.py" 363]) #[]
noncomputable def ob_146 (P : Params) : Obj := Obj.mk (Value.type "function") none (fnAt (at2 2 15) rfl "QuadEdge.splice" 3 [] Value.none Value.none (Value.str "Splices the edge with the other." 364) (Value.str "sect.core.delaunay.quad_edge" 194) none (Value.ref 145) Value.none) #[]
noncomputable def ob_147 (P : Params) : Obj := Obj.mk (Value.type "tuple") none (Data.seq #[]) #[]
noncomputable def ob_148 (P : Params) : Obj := Obj.mk Value.none none (Data.fields #[]) #[]
noncomputable def ob_149 (P : Params) : Obj := Obj.mk (Value.type "tuple") none (Data.seq #[Value.str "self" 369]) #[]
noncomputable def ob_150 (P : Params) : Obj := Obj.mk (Value.type "tuple") none (Data.seq #[]) #[]
noncomputable def ob_151 (P : Params) : Obj := Obj.mk Value.none none (fnAt (at2 2 16) rfl "QuadEdge.swap" 0 [] Value.none Value.none Value.none Value.none none Value.none Value.none) #[]
noncomputable def ob_152 (P : Params) : Obj := Obj.mk (Value.type "code") none (Data.fields #[Value.str "swap" 366, Value.str "QuadEdge.swap" 367, Value.str "/claim/cut.py" 368, Value.int 115 0, Value.int 1 0, Value.int 0 0, Value.int 0 0, Value.int 3 0, Value.ref 147, Value.bool true, Value.int 181 0, Value.ref 148, Value.none, Value.ref 149, Value.ref 150, Value.ref 151, Value.int 370 0, Value.int 115 0, Value.str "/claim/cut.py" 371]) #[]
noncomputable def ob_153 (P : Params) : Obj := Obj.mk (Value.type "function") none (fnAt (at2 2 16) rfl "QuadEdge.swap" 3 [] Value.none Value.none Value.none (Value.str "sect.core.delaunay.quad_edge" 194) none (Value.ref 152) Value.none) #[]
noncomputable def ob_154 (P : Params) : Obj := Obj.mk (Value.type "tuple") none (Data.seq #[Value.str "_context" 373, Value.str "_left_from_start" 374, Value.str "_rotated" 375, Value.str "_start" 376]) #[]
noncomputable def ob_155 (P : Params) : Obj := Obj.mk (Value.type "dict") none (Data.dict #[DictEntry.mk (PyData.keyHash P "__module__") (Value.str "__module__" 203) (Value.str "sect.core.delaunay.quad_edge" 194), DictEntry.mk (PyData.keyHash P "__firstlineno__") (Value.str "__firstlineno__" 207) (Value.int 5 206), DictEntry.mk (PyData.keyHash P "__doc__") (Value.str "__doc__" 209) (Value.str "\nBased on:\n    quad-edge data structure.\n\nReference:\n    https://en.wikipedia.org/wiki/Quad-edge\n    http://www.sccg.sk/~samuelcik/dgs/quad_edge.pdf\n" 208), DictEntry.mk (PyData.keyHash P "from_endpoints") (Value.str "from_endpoints" 237) (Value.ref 37), DictEntry.mk (PyData.keyHash P "context") (Value.str "context" 245) (Value.ref 46), DictEntry.mk (PyData.keyHash P "end") (Value.str "end" 254) (Value.ref 54), DictEntry.mk (PyData.keyHash P "left_from_end") (Value.str "left_from_end" 263) (Value.ref 62), DictEntry.mk (PyData.keyHash P "left_from_start") (Value.str "left_from_start" 272) (Value.ref 70), DictEntry.mk (PyData.keyHash P "opposite") (Value.str "opposite" 281) (Value.ref 78), DictEntry.mk (PyData.keyHash P "right_from_end") (Value.str "right_from_end" 290) (Value.ref 86), DictEntry.mk (PyData.keyHash P "right_from_start") (Value.str "right_from_start" 299) (Value.ref 94), DictEntry.mk (PyData.keyHash P "rotated") (Value.str "rotated" 308) (Value.ref 102), DictEntry.mk (PyData.keyHash P "start") (Value.str "start" 317) (Value.ref 110), DictEntry.mk (PyData.keyHash P "__init__") (Value.str "__init__" 328) (Value.ref 118), DictEntry.mk (PyData.keyHash P "connect") (Value.str "connect" 338) (Value.ref 125), DictEntry.mk (PyData.keyHash P "delete") (Value.str "delete" 346) (Value.ref 132), DictEntry.mk (PyData.keyHash P "orientation_of") (Value.str "orientation_of" 354) (Value.ref 139), DictEntry.mk (PyData.keyHash P "splice") (Value.str "splice" 365) (Value.ref 146), DictEntry.mk (PyData.keyHash P "swap") (Value.str "swap" 372) (Value.ref 153), DictEntry.mk (PyData.keyHash P "__static_attributes__") (Value.str "__static_attributes__" 377) (Value.ref 154), DictEntry.mk (PyData.keyHash P "__dict__") (Value.str "__dict__" 379) (Value.ref 157), DictEntry.mk (PyData.keyHash P "__weakref__") (Value.str "__weakref__" 381) (Value.ref 158)] 3) #[]
noncomputable def ob_156 (P : Params) : Obj := Obj.mk (Value.type "type") none (Data.cls (ClassData.mk "QuadEdge" [Value.type "object"] [Value.ref 156, Value.type "object"] 155 "QuadEdge" true [] [] false none false)) #[none, none, some (Value.str "QuadEdge" 196), some (Value.str "QuadEdge" 204), some (Value.builtin "object.__new__"), some (Value.bool true)]
noncomputable def ob_157 (P : Params) : Obj := Obj.mk (Value.type "getset_descriptor") none (Data.fields #[Value.str "__dict__" 378, Value.ref 156, Value.builtin "function.__dict__", Value.builtin "function.__dict__#set"]) #[]
noncomputable def ob_158 (P : Params) : Obj := Obj.mk (Value.type "getset_descriptor") none (Data.fields #[Value.str "__weakref__" 380, Value.ref 156, Value.builtin "ExceptionGroup.__weakref__", Value.none]) #[]
noncomputable def ob_159 (P : Params) : Obj := Obj.mk (Value.type "super") none (Data.fields #[Value.ref 156, Value.ref 156, Value.ref 156]) #[]
noncomputable def ob_160 (P : Params) : Obj := Obj.mk (Value.type "builtin_function_or_method") none (Data.fields #[Value.builtin "object.__init_subclass__", Value.ref 156]) #[]
noncomputable def ob_161 (P : Params) : Obj := Obj.mk (Value.type "tuple") none (Data.seq #[]) #[]
noncomputable def ob_162 (P : Params) : Obj := Obj.mk (Value.type "builtin_function_or_method") none (Data.fields #[Value.builtin "type.__prepare__", Value.type "type"]) #[]
noncomputable def ob_163 (P : Params) : Obj := Obj.mk (Value.type "dict") none (Data.dict #[DictEntry.mk (PyData.keyHash P "__module__") (Value.str "__module__" 393) (Value.str "sect.core.hints" 384), DictEntry.mk (PyData.keyHash P "__qualname__") (Value.str "__qualname__" 395) (Value.str "_tuplegetter" 394), DictEntry.mk (PyData.keyHash P "__firstlineno__") (Value.str "__firstlineno__" 397) (Value.int 118 396), DictEntry.mk (PyData.keyHash P "__init__") (Value.str "__init__" 406) (Value.ref 174), DictEntry.mk (PyData.keyHash P "__get__") (Value.str "__get__" 415) (Value.ref 182), DictEntry.mk (PyData.keyHash P "__set__") (Value.str "__set__" 424) (Value.ref 189), DictEntry.mk (PyData.keyHash P "__delete__") (Value.str "__delete__" 432) (Value.ref 196), DictEntry.mk (PyData.keyHash P "__static_attributes__") (Value.str "__static_attributes__" 435) (Value.ref 197)] 8) #[]
noncomputable def ob_164 (P : Params) : Obj := Obj.mk (Value.type "tuple") none (Data.seq #[]) #[]
noncomputable def ob_165 (P : Params) : Obj := Obj.mk Value.none none (Data.fields #[Value.int 120 0, Value.int 4 0, Value.ref 173, Value.int 124 0, Value.int 4 0, Value.ref 181, Value.int 131 0, Value.int 4 0, Value.ref 188, Value.int 134 0, Value.int 4 0, Value.ref 195]) #[]
noncomputable def ob_166 (P : Params) : Obj := Obj.mk (Value.type "code") none (Data.fields #[Value.str "_tuplegetter" 388, Value.str "_tuplegetter" 389, Value.str "/claim/cut.py" 390, Value.int 118 0, Value.int 0 0, Value.int 0 0, Value.int 0 0, Value.int 0 0, Value.ref 164, Value.bool false, Value.int 181 0, Value.ref 165, Value.none, Value.none, Value.none, Value.none, Value.int 391 0, Value.int 118 0, Value.str "/claim/cut.py" 392]) #[]
noncomputable def ob_167 (P : Params) : Obj := Obj.mk (Value.type "frame") none Data.plain #[some (Value.ref 166), some (Value.ref 3), some (Value.ref 163), none, some (Value.str "sect.core.hints" 384), none, some (Value.ref 0)]
noncomputable def ob_168 (P : Params) : Obj := Obj.mk (Value.type "tuple") none (Data.seq #[]) #[]
noncomputable def ob_169 (P : Params) : Obj := Obj.mk Value.none none (Data.fields #[]) #[]
noncomputable def ob_170 (P : Params) : Obj := Obj.mk (Value.type "tuple") none (Data.seq #[Value.str "self" 401, Value.str "index" 402, Value.str "doc" 403]) #[]
noncomputable def ob_171 (P : Params) : Obj := Obj.mk (Value.type "tuple") none (Data.seq #[]) #[]
noncomputable def ob_172 (P : Params) : Obj := Obj.mk Value.none none (fnAt (at2 4 0) rfl "_tuplegetter.__init__" 0 [] Value.none Value.none Value.none Value.none none Value.none Value.none) #[]
noncomputable def ob_173 (P : Params) : Obj := Obj.mk (Value.type "code") none (Data.fields #[Value.str "__init__" 398, Value.str "_tuplegetter.__init__" 399, Value.str "/claim/cut.py" 400, Value.int 120 0, Value.int 3 0, Value.int 0 0, Value.int 0 0, Value.int 3 0, Value.ref 168, Value.bool true, Value.int 181 0, Value.ref 169, Value.none, Value.ref 170, Value.ref 171, Value.ref 172, Value.int 404 0, Value.int 120 0, Value.str "/claim/cut.py" 405]) #[]
noncomputable def ob_174 (P : Params) : Obj := Obj.mk (Value.type "function") none (fnAt (at2 4 0) rfl "_tuplegetter.__init__" 3 [] Value.none Value.none Value.none (Value.str "sect.core.hints" 384) none (Value.ref 173) Value.none) #[]
noncomputable def ob_175 (P : Params) : Obj := Obj.mk (Value.type "tuple") none (Data.seq #[Value.none]) #[]
noncomputable def ob_176 (P : Params) : Obj := Obj.mk (Value.type "tuple") none (Data.seq #[]) #[]
noncomputable def ob_177 (P : Params) : Obj := Obj.mk Value.none none (Data.fields #[]) #[]
noncomputable def ob_178 (P : Params) : Obj := Obj.mk (Value.type "tuple") none (Data.seq #[Value.str "self" 410, Value.str "obj" 411, Value.str "objtype" 412]) #[]
noncomputable def ob_179 (P : Params) : Obj := Obj.mk (Value.type "tuple") none (Data.seq #[]) #[]
noncomputable def ob_180 (P : Params) : Obj := Obj.mk Value.none none (fnAt (at2 4 1) rfl "_tuplegetter.__get__" 0 [] Value.none Value.none Value.none Value.none none Value.none Value.none) #[]
noncomputable def ob_181 (P : Params) : Obj := Obj.mk (Value.type "code") none (Data.fields #[Value.str "__get__" 407, Value.str "_tuplegetter.__get__" 408, Value.str "/claim/cut.py" 409, Value.int 124 0, Value.int 3 0, Value.int 0 0, Value.int 0 0, Value.int 3 0, Value.ref 176, Value.bool true, Value.int 181 0, Value.ref 177, Value.none, Value.ref 178, Value.ref 179, Value.ref 180, Value.int 413 0, Value.int 124 0, Value.str "/claim/cut.py" 414]) #[]
noncomputable def ob_182 (P : Params) : Obj := Obj.mk (Value.type "function") none (fnAt (at2 4 1) rfl "_tuplegetter.__get__" 3 [] (Value.ref 175) Value.none Value.none (Value.str "sect.core.hints" 384) none (Value.ref 181) Value.none) #[]
noncomputable def ob_183 (P : Params) : Obj := Obj.mk (Value.type "tuple") none (Data.seq #[]) #[]
noncomputable def ob_184 (P : Params) : Obj := Obj.mk Value.none none (Data.fields #[]) #[]
noncomputable def ob_185 (P : Params) : Obj := Obj.mk (Value.type "tuple") none (Data.seq #[Value.str "self" 419, Value.str "obj" 420, Value.str "value" 421]) #[]
noncomputable def ob_186 (P : Params) : Obj := Obj.mk (Value.type "tuple") none (Data.seq #[]) #[]
noncomputable def ob_187 (P : Params) : Obj := Obj.mk Value.none none (fnAt (at2 4 2) rfl "_tuplegetter.__set__" 0 [] Value.none Value.none Value.none Value.none none Value.none Value.none) #[]
noncomputable def ob_188 (P : Params) : Obj := Obj.mk (Value.type "code") none (Data.fields #[Value.str "__set__" 416, Value.str "_tuplegetter.__set__" 417, Value.str "/claim/cut.py" 418, Value.int 131 0, Value.int 3 0, Value.int 0 0, Value.int 0 0, Value.int 3 0, Value.ref 183, Value.bool true, Value.int 181 0, Value.ref 184, Value.none, Value.ref 185, Value.ref 186, Value.ref 187, Value.int 422 0, Value.int 131 0, Value.str "/claim/cut.py" 423]) #[]
noncomputable def ob_189 (P : Params) : Obj := Obj.mk (Value.type "function") none (fnAt (at2 4 2) rfl "_tuplegetter.__set__" 3 [] Value.none Value.none Value.none (Value.str "sect.core.hints" 384) none (Value.ref 188) Value.none) #[]
noncomputable def ob_190 (P : Params) : Obj := Obj.mk (Value.type "tuple") none (Data.seq #[]) #[]
noncomputable def ob_191 (P : Params) : Obj := Obj.mk Value.none none (Data.fields #[]) #[]
noncomputable def ob_192 (P : Params) : Obj := Obj.mk (Value.type "tuple") none (Data.seq #[Value.str "self" 428, Value.str "obj" 429]) #[]
noncomputable def ob_193 (P : Params) : Obj := Obj.mk (Value.type "tuple") none (Data.seq #[]) #[]
noncomputable def ob_194 (P : Params) : Obj := Obj.mk Value.none none (fnAt (at2 4 3) rfl "_tuplegetter.__delete__" 0 [] Value.none Value.none Value.none Value.none none Value.none Value.none) #[]
noncomputable def ob_195 (P : Params) : Obj := Obj.mk (Value.type "code") none (Data.fields #[Value.str "__delete__" 425, Value.str "_tuplegetter.__delete__" 426, Value.str "/claim/cut.py" 427, Value.int 134 0, Value.int 2 0, Value.int 0 0, Value.int 0 0, Value.int 3 0, Value.ref 190, Value.bool true, Value.int 181 0, Value.ref 191, Value.none, Value.ref 192, Value.ref 193, Value.ref 194, Value.int 430 0, Value.int 134 0, Value.str "/claim/cut.py" 431]) #[]
noncomputable def ob_196 (P : Params) : Obj := Obj.mk (Value.type "function") none (fnAt (at2 4 3) rfl "_tuplegetter.__delete__" 3 [] Value.none Value.none Value.none (Value.str "sect.core.hints" 384) none (Value.ref 195) Value.none) #[]
noncomputable def ob_197 (P : Params) : Obj := Obj.mk (Value.type "tuple") none (Data.seq #[Value.str "__doc__" 433, Value.str "index" 434]) #[]
noncomputable def ob_198 (P : Params) : Obj := Obj.mk (Value.type "dict") none (Data.dict #[DictEntry.mk (PyData.keyHash P "__module__") (Value.str "__module__" 393) (Value.str "sect.core.hints" 384), DictEntry.mk (PyData.keyHash P "__firstlineno__") (Value.str "__firstlineno__" 397) (Value.int 118 396), DictEntry.mk (PyData.keyHash P "__init__") (Value.str "__init__" 406) (Value.ref 174), DictEntry.mk (PyData.keyHash P "__get__") (Value.str "__get__" 415) (Value.ref 182), DictEntry.mk (PyData.keyHash P "__set__") (Value.str "__set__" 424) (Value.ref 189), DictEntry.mk (PyData.keyHash P "__delete__") (Value.str "__delete__" 432) (Value.ref 196), DictEntry.mk (PyData.keyHash P "__static_attributes__") (Value.str "__static_attributes__" 435) (Value.ref 197), DictEntry.mk (PyData.keyHash P "__dict__") (Value.str "__dict__" 437) (Value.ref 200), DictEntry.mk (PyData.keyHash P "__weakref__") (Value.str "__weakref__" 439) (Value.ref 201), DictEntry.mk (PyData.keyHash P "__doc__") (Value.str "__doc__" 440) Value.none] 4) #[]
noncomputable def ob_199 (P : Params) : Obj := Obj.mk (Value.type "type") none (Data.cls (ClassData.mk "_tuplegetter" [Value.type "object"] [Value.ref 199, Value.type "object"] 198 "_tuplegetter" true [] [] false none false)) #[none, none, some (Value.str "_tuplegetter" 386), some (Value.str "_tuplegetter" 394), some (Value.builtin "object.__new__"), some (Value.bool true)]
noncomputable def ob_200 (P : Params) : Obj := Obj.mk (Value.type "getset_descriptor") none (Data.fields #[Value.str "__dict__" 436, Value.ref 199, Value.builtin "function.__dict__", Value.builtin "function.__dict__#set"]) #[]
noncomputable def ob_201 (P : Params) : Obj := Obj.mk (Value.type "getset_descriptor") none (Data.fields #[Value.str "__weakref__" 438, Value.ref 199, Value.builtin "ExceptionGroup.__weakref__", Value.none]) #[]
noncomputable def ob_202 (P : Params) : Obj := Obj.mk (Value.type "super") none (Data.fields #[Value.ref 199, Value.ref 199, Value.ref 199]) #[]
noncomputable def ob_203 (P : Params) : Obj := Obj.mk (Value.type "builtin_function_or_method") none (Data.fields #[Value.builtin "object.__init_subclass__", Value.ref 199]) #[]
noncomputable def ob_204 (P : Params) : Obj := Obj.mk (Value.type "tuple") none (Data.seq #[Value.type "tuple"]) #[]
noncomputable def ob_205 (P : Params) : Obj := Obj.mk (Value.type "builtin_function_or_method") none (Data.fields #[Value.builtin "type.__prepare__", Value.type "type"]) #[]
noncomputable def ob_206 (P : Params) : Obj := Obj.mk (Value.type "dict") none (Data.dict #[DictEntry.mk (PyData.keyHash P "__module__") (Value.str "__module__" 450) (Value.str "sect.core.hints" 384), DictEntry.mk (PyData.keyHash P "__qualname__") (Value.str "__qualname__" 452) (Value.str "Point" 451), DictEntry.mk (PyData.keyHash P "__firstlineno__") (Value.str "__firstlineno__" 454) (Value.int 136 453), DictEntry.mk (PyData.keyHash P "__doc__") (Value.str "__doc__" 456) (Value.str "Point(x, y)" 455), DictEntry.mk (PyData.keyHash P "__slots__") (Value.str "__slots__" 458) (Value.ref 212), DictEntry.mk (PyData.keyHash P "_fields") (Value.str "_fields" 461) (Value.ref 213), DictEntry.mk (PyData.keyHash P "_field_defaults") (Value.str "_field_defaults" 462) (Value.ref 214), DictEntry.mk (PyData.keyHash P "__new__") (Value.str "__new__" 472) (Value.ref 221), DictEntry.mk (PyData.keyHash P "_make") (Value.str "_make" 494) (Value.ref 230), DictEntry.mk (PyData.keyHash P "_replace") (Value.str "_replace" 505) (Value.ref 239), DictEntry.mk (PyData.keyHash P "__replace__") (Value.str "__replace__" 506) (Value.ref 239), DictEntry.mk (PyData.keyHash P "__repr__") (Value.str "__repr__" 514) (Value.ref 246), DictEntry.mk (PyData.keyHash P "_asdict") (Value.str "_asdict" 521) (Value.ref 253), DictEntry.mk (PyData.keyHash P "__getnewargs__") (Value.str "__getnewargs__" 529) (Value.ref 260), DictEntry.mk (PyData.keyHash P "__match_args__") (Value.str "__match_args__" 532) (Value.ref 261), DictEntry.mk (PyData.keyHash P "x") (Value.str "x" 542) (Value.ref 263), DictEntry.mk (PyData.keyHash P "y") (Value.str "y" 552) (Value.ref 266), DictEntry.mk (PyData.keyHash P "__static_attributes__") (Value.str "__static_attributes__" 553) (Value.ref 268), DictEntry.mk (PyData.keyHash P "__classcell__") (Value.str "__classcell__" 554) (Value.ref 207)] 19) #[]
noncomputable def ob_207 (P : Params) : Obj := Obj.mk (Value.type "cell") none (Data.cell (some (Value.ref 271))) #[]
noncomputable def ob_208 (P : Params) : Obj := Obj.mk (Value.type "tuple") none (Data.seq #[]) #[]
noncomputable def ob_209 (P : Params) : Obj := Obj.mk Value.none none (Data.fields #[Value.int 142 0, Value.int 4 0, Value.ref 220, Value.int 147 0, Value.int 4 0, Value.ref 227, Value.int 154 0, Value.int 4 0, Value.ref 238, Value.int 165 0, Value.int 4 0, Value.ref 245, Value.int 169 0, Value.int 4 0, Value.ref 252, Value.int 172 0, Value.int 4 0, Value.ref 259]) #[]
noncomputable def ob_210 (P : Params) : Obj := Obj.mk (Value.type "code") none (Data.fields #[Value.str "Point" 445, Value.str "Point" 446, Value.str "/claim/cut.py" 447, Value.int 136 0, Value.int 0 0, Value.int 0 0, Value.int 0 0, Value.int 0 0, Value.ref 208, Value.bool false, Value.int 181 0, Value.ref 209, Value.none, Value.none, Value.none, Value.none, Value.int 448 0, Value.int 136 0, Value.str "/claim/cut.py" 449]) #[]
noncomputable def ob_211 (P : Params) : Obj := Obj.mk (Value.type "frame") none Data.plain #[some (Value.ref 210), some (Value.ref 3), some (Value.ref 206), none, some (Value.str "sect.core.hints" 384), none, some (Value.ref 0)]
noncomputable def ob_212 (P : Params) : Obj := Obj.mk (Value.type "tuple") none (Data.seq #[]) #[]
noncomputable def ob_213 (P : Params) : Obj := Obj.mk (Value.type "tuple") none (Data.seq #[Value.str "x" 459, Value.str "y" 460]) #[]
noncomputable def ob_214 (P : Params) : Obj := Obj.mk (Value.type "dict") none (Data.dict #[]) #[]
noncomputable def ob_215 (P : Params) : Obj := Obj.mk (Value.type "tuple") none (Data.seq #[]) #[]
noncomputable def ob_216 (P : Params) : Obj := Obj.mk Value.none none (Data.fields #[]) #[]
noncomputable def ob_217 (P : Params) : Obj := Obj.mk (Value.type "tuple") none (Data.seq #[Value.str "_cls" 466, Value.str "x" 467, Value.str "y" 468]) #[]
noncomputable def ob_218 (P : Params) : Obj := Obj.mk (Value.type "tuple") none (Data.seq #[]) #[]
noncomputable def ob_219 (P : Params) : Obj := Obj.mk Value.none none (fnAt (at2 5 4) rfl "Point.__new__" 0 [] Value.none Value.none Value.none Value.none none Value.none Value.none) #[]
noncomputable def ob_220 (P : Params) : Obj := Obj.mk (Value.type "code") none (Data.fields #[Value.str "__new__" 463, Value.str "Point.__new__" 464, Value.str "/claim/cut.py" 465, Value.int 142 0, Value.int 3 0, Value.int 0 0, Value.int 0 0, Value.int 3 0, Value.ref 215, Value.bool true, Value.int 181 0, Value.ref 216, Value.none, Value.ref 217, Value.ref 218, Value.ref 219, Value.int 469 0, Value.int 142 0, Value.str "/claim/cut.py" 470]) #[]
noncomputable def ob_221 (P : Params) : Obj := Obj.mk (Value.type "function") none (fnAt (at2 5 4) rfl "Point.__new__" 3 [] Value.none Value.none (docAt (at2 5 4) 471) (Value.str "sect.core.hints" 384) none (Value.ref 220) Value.none) #[]
noncomputable def ob_222 (P : Params) : Obj := Obj.mk (Value.type "tuple") none (Data.seq #[]) #[]
noncomputable def ob_223 (P : Params) : Obj := Obj.mk Value.none none (Data.fields #[]) #[]
noncomputable def ob_224 (P : Params) : Obj := Obj.mk (Value.type "tuple") none (Data.seq #[Value.str "cls" 476, Value.str "iterable" 477, Value.str "result" 478]) #[]
noncomputable def ob_225 (P : Params) : Obj := Obj.mk (Value.type "tuple") none (Data.seq #[]) #[]
noncomputable def ob_226 (P : Params) : Obj := Obj.mk Value.none none (fnAt (at2 5 5) rfl "Point._make" 0 [] Value.none Value.none Value.none Value.none none Value.none Value.none) #[]
noncomputable def ob_227 (P : Params) : Obj := Obj.mk (Value.type "code") none (Data.fields #[Value.str "_make" 473, Value.str "Point._make" 474, Value.str "/claim/cut.py" 475, Value.int 146 0, Value.int 2 0, Value.int 0 0, Value.int 0 0, Value.int 3 0, Value.ref 222, Value.bool true, Value.int 181 0, Value.ref 223, Value.none, Value.ref 224, Value.ref 225, Value.ref 226, Value.int 479 0, Value.int 146 0, Value.str "/claim/cut.py" 480]) #[]
noncomputable def ob_228 (P : Params) : Obj := Obj.mk (Value.type "function") none (fnAt (at2 5 5) rfl "Point._make" 3 [] Value.none Value.none (Value.str "Make a new Point object from a sequence or iterable" 481) (Value.str "sect.core.hints" 384) (some 231) (Value.ref 227) Value.none) #[]
noncomputable def ob_229 (P : Params) : Obj := Obj.mk (Value.type "dict") none (Data.dict #[DictEntry.mk (PyData.keyHash P "__module__") (Value.str "__module__" 483) (Value.str "sect.core.hints" 384), DictEntry.mk (PyData.keyHash P "__name__") (Value.str "__name__" 486) (Value.str "_make" 485), DictEntry.mk (PyData.keyHash P "__qualname__") (Value.str "__qualname__" 489) (Value.str "Point._make" 488), DictEntry.mk (PyData.keyHash P "__doc__") (Value.str "__doc__" 491) (Value.str "Make a new Point object from a sequence or iterable" 481), DictEntry.mk (PyData.keyHash P "__annotations__") (Value.str "__annotations__" 493) (Value.ref 231)] 5) #[]
noncomputable def ob_230 (P : Params) : Obj := Obj.mk (Value.type "classmethod") (some 229) (Data.fields #[Value.ref 228, Value.bool false]) #[]
noncomputable def ob_231 (P : Params) : Obj := Obj.mk (Value.type "dict") none (Data.dict #[]) #[]
noncomputable def ob_232 (P : Params) : Obj := Obj.mk (Value.type "tuple") none (Data.seq #[Value.ref 207]) #[]
noncomputable def ob_233 (P : Params) : Obj := Obj.mk (Value.type "tuple") none (Data.seq #[Value.str "__class__" 498]) #[]
noncomputable def ob_234 (P : Params) : Obj := Obj.mk Value.none none (Data.fields #[]) #[]
noncomputable def ob_235 (P : Params) : Obj := Obj.mk (Value.type "tuple") none (Data.seq #[Value.str "self" 499, Value.str "kwds" 500, Value.str "result" 501]) #[]
noncomputable def ob_236 (P : Params) : Obj := Obj.mk (Value.type "tuple") none (Data.seq #[]) #[]
noncomputable def ob_237 (P : Params) : Obj := Obj.mk Value.none none (fnAt (at2 5 6) rfl "Point._replace" 0 [] Value.none Value.none Value.none Value.none none Value.none Value.none) #[]
noncomputable def ob_238 (P : Params) : Obj := Obj.mk (Value.type "code") none (Data.fields #[Value.str "_replace" 495, Value.str "Point._replace" 496, Value.str "/claim/cut.py" 497, Value.int 154 0, Value.int 1 0, Value.int 1 0, Value.int 0 0, Value.int 11 0, Value.ref 233, Value.bool true, Value.int 181 0, Value.ref 234, Value.none, Value.ref 235, Value.ref 236, Value.ref 237, Value.int 502 0, Value.int 154 0, Value.str "/claim/cut.py" 503]) #[]
noncomputable def ob_239 (P : Params) : Obj := Obj.mk (Value.type "function") none (fnAt (at2 5 6) rfl "Point._replace" 3 [("__class__", 207)] Value.none Value.none (Value.str "Return a new Point object replacing specified fields with new values" 504) (Value.str "sect.core.hints" 384) none (Value.ref 238) (Value.ref 232)) #[]
noncomputable def ob_240 (P : Params) : Obj := Obj.mk (Value.type "tuple") none (Data.seq #[]) #[]
noncomputable def ob_241 (P : Params) : Obj := Obj.mk Value.none none (Data.fields #[]) #[]
noncomputable def ob_242 (P : Params) : Obj := Obj.mk (Value.type "tuple") none (Data.seq #[Value.str "self" 510]) #[]
noncomputable def ob_243 (P : Params) : Obj := Obj.mk (Value.type "tuple") none (Data.seq #[]) #[]
noncomputable def ob_244 (P : Params) : Obj := Obj.mk Value.none none (fnAt (at2 5 8) rfl "Point.__repr__" 0 [] Value.none Value.none Value.none Value.none none Value.none Value.none) #[]
noncomputable def ob_245 (P : Params) : Obj := Obj.mk (Value.type "code") none (Data.fields #[Value.str "__repr__" 507, Value.str "Point.__repr__" 508, Value.str "/claim/cut.py" 509, Value.int 165 0, Value.int 1 0, Value.int 0 0, Value.int 0 0, Value.int 3 0, Value.ref 240, Value.bool true, Value.int 181 0, Value.ref 241, Value.none, Value.ref 242, Value.ref 243, Value.ref 244, Value.int 511 0, Value.int 165 0, Value.str "/claim/cut.py" 512]) #[]
noncomputable def ob_246 (P : Params) : Obj := Obj.mk (Value.type "function") none (fnAt (at2 5 8) rfl "Point.__repr__" 3 [] Value.none Value.none (Value.str "Return a nicely formatted representation string" 513) (Value.str "sect.core.hints" 384) none (Value.ref 245) Value.none) #[]
noncomputable def ob_247 (P : Params) : Obj := Obj.mk (Value.type "tuple") none (Data.seq #[]) #[]
noncomputable def ob_248 (P : Params) : Obj := Obj.mk Value.none none (Data.fields #[]) #[]
noncomputable def ob_249 (P : Params) : Obj := Obj.mk (Value.type "tuple") none (Data.seq #[Value.str "self" 518]) #[]
noncomputable def ob_250 (P : Params) : Obj := Obj.mk (Value.type "tuple") none (Data.seq #[]) #[]
noncomputable def ob_251 (P : Params) : Obj := Obj.mk Value.none none (fnAt (at2 5 9) rfl "Point._asdict" 0 [] Value.none Value.none Value.none Value.none none Value.none Value.none) #[]
noncomputable def ob_252 (P : Params) : Obj := Obj.mk (Value.type "code") none (Data.fields #[Value.str "_asdict" 515, Value.str "Point._asdict" 516, Value.str "/claim/cut.py" 517, Value.int 169 0, Value.int 1 0, Value.int 0 0, Value.int 0 0, Value.int 3 0, Value.ref 247, Value.bool true, Value.int 181 0, Value.ref 248, Value.none, Value.ref 249, Value.ref 250, Value.ref 251, Value.int 519 0, Value.int 169 0, Value.str "/claim/cut.py" 520]) #[]
noncomputable def ob_253 (P : Params) : Obj := Obj.mk (Value.type "function") none (fnAt (at2 5 9) rfl "Point._asdict" 3 [] Value.none Value.none Value.none (Value.str "sect.core.hints" 384) none (Value.ref 252) Value.none) #[]
noncomputable def ob_254 (P : Params) : Obj := Obj.mk (Value.type "tuple") none (Data.seq #[]) #[]
noncomputable def ob_255 (P : Params) : Obj := Obj.mk Value.none none (Data.fields #[]) #[]
noncomputable def ob_256 (P : Params) : Obj := Obj.mk (Value.type "tuple") none (Data.seq #[Value.str "self" 525]) #[]
noncomputable def ob_257 (P : Params) : Obj := Obj.mk (Value.type "tuple") none (Data.seq #[]) #[]
noncomputable def ob_258 (P : Params) : Obj := Obj.mk Value.none none (fnAt (at2 5 10) rfl "Point.__getnewargs__" 0 [] Value.none Value.none Value.none Value.none none Value.none Value.none) #[]
noncomputable def ob_259 (P : Params) : Obj := Obj.mk (Value.type "code") none (Data.fields #[Value.str "__getnewargs__" 522, Value.str "Point.__getnewargs__" 523, Value.str "/claim/cut.py" 524, Value.int 172 0, Value.int 1 0, Value.int 0 0, Value.int 0 0, Value.int 3 0, Value.ref 254, Value.bool true, Value.int 181 0, Value.ref 255, Value.none, Value.ref 256, Value.ref 257, Value.ref 258, Value.int 526 0, Value.int 172 0, Value.str "/claim/cut.py" 527]) #[]
noncomputable def ob_260 (P : Params) : Obj := Obj.mk (Value.type "function") none (fnAt (at2 5 10) rfl "Point.__getnewargs__" 3 [] Value.none Value.none (Value.str "Return self as a plain tuple.  Used by copy and pickle." 528) (Value.str "sect.core.hints" 384) none (Value.ref 259) Value.none) #[]
noncomputable def ob_261 (P : Params) : Obj := Obj.mk (Value.type "tuple") none (Data.seq #[Value.str "x" 530, Value.str "y" 531]) #[]
noncomputable def ob_262 (P : Params) : Obj := Obj.mk (Value.type "dict") none (Data.dict #[DictEntry.mk (PyData.keyHash P "index") (Value.str "index" 539) (Value.int 0 533), DictEntry.mk (PyData.keyHash P "__doc__") (Value.str "__doc__" 541) (Value.str "Alias for field number 0" 534)] 2) #[]
noncomputable def ob_263 (P : Params) : Obj := Obj.mk (Value.ref 199) (some 262) Data.plain #[]
noncomputable def ob_264 (P : Params) : Obj := Obj.mk (Value.type "frame") none (Data.dict #[DictEntry.mk (PyData.keyHash P "self") (Value.str "self" 535) (Value.ref 263), DictEntry.mk (PyData.keyHash P "index") (Value.str "index" 536) (Value.int 0 533), DictEntry.mk (PyData.keyHash P "doc") (Value.str "doc" 537) (Value.str "Alias for field number 0" 534)] 3) #[]
noncomputable def ob_265 (P : Params) : Obj := Obj.mk (Value.type "dict") none (Data.dict #[DictEntry.mk (PyData.keyHash P "index") (Value.str "index" 549) (Value.int 1 543), DictEntry.mk (PyData.keyHash P "__doc__") (Value.str "__doc__" 551) (Value.str "Alias for field number 1" 544)] 2) #[]
noncomputable def ob_266 (P : Params) : Obj := Obj.mk (Value.ref 199) (some 265) Data.plain #[]
noncomputable def ob_267 (P : Params) : Obj := Obj.mk (Value.type "frame") none (Data.dict #[DictEntry.mk (PyData.keyHash P "self") (Value.str "self" 545) (Value.ref 266), DictEntry.mk (PyData.keyHash P "index") (Value.str "index" 546) (Value.int 1 543), DictEntry.mk (PyData.keyHash P "doc") (Value.str "doc" 547) (Value.str "Alias for field number 1" 544)] 3) #[]
noncomputable def ob_268 (P : Params) : Obj := Obj.mk (Value.type "tuple") none (Data.seq #[]) #[]
noncomputable def ob_269 (P : Params) : Obj := Obj.mk (Value.type "list") none (Data.seq #[]) #[]
noncomputable def ob_270 (P : Params) : Obj := Obj.mk (Value.type "dict") none (Data.dict #[DictEntry.mk (PyData.keyHash P "__module__") (Value.str "__module__" 450) (Value.str "sect.core.hints" 384), DictEntry.mk (PyData.keyHash P "__firstlineno__") (Value.str "__firstlineno__" 454) (Value.int 136 453), DictEntry.mk (PyData.keyHash P "__doc__") (Value.str "__doc__" 456) (Value.str "Point(x, y)" 455), DictEntry.mk (PyData.keyHash P "__slots__") (Value.str "__slots__" 458) (Value.ref 212), DictEntry.mk (PyData.keyHash P "_fields") (Value.str "_fields" 461) (Value.ref 213), DictEntry.mk (PyData.keyHash P "_field_defaults") (Value.str "_field_defaults" 462) (Value.ref 214), DictEntry.mk (PyData.keyHash P "__new__") (Value.str "__new__" 472) (Value.ref 272), DictEntry.mk (PyData.keyHash P "_make") (Value.str "_make" 494) (Value.ref 230), DictEntry.mk (PyData.keyHash P "_replace") (Value.str "_replace" 505) (Value.ref 239), DictEntry.mk (PyData.keyHash P "__replace__") (Value.str "__replace__" 506) (Value.ref 239), DictEntry.mk (PyData.keyHash P "__repr__") (Value.str "__repr__" 514) (Value.ref 246), DictEntry.mk (PyData.keyHash P "_asdict") (Value.str "_asdict" 521) (Value.ref 253), DictEntry.mk (PyData.keyHash P "__getnewargs__") (Value.str "__getnewargs__" 529) (Value.ref 260), DictEntry.mk (PyData.keyHash P "__match_args__") (Value.str "__match_args__" 532) (Value.ref 261), DictEntry.mk (PyData.keyHash P "x") (Value.str "x" 542) (Value.ref 263), DictEntry.mk (PyData.keyHash P "y") (Value.str "y" 552) (Value.ref 266), DictEntry.mk (PyData.keyHash P "__static_attributes__") (Value.str "__static_attributes__" 553) (Value.ref 268)] 2) #[]
noncomputable def ob_271 (P : Params) : Obj := Obj.mk (Value.type "type") none (Data.cls (ClassData.mk "Point" [Value.type "tuple"] [Value.ref 271, Value.type "tuple", Value.type "object"] 270 "Point" false [] [] false none false)) #[some (Value.ref 204), none, some (Value.str "Point" 443), some (Value.str "Point" 451), some Value.none, some (Value.bool false)]
noncomputable def ob_272 (P : Params) : Obj := Obj.mk (Value.type "staticmethod") none (Data.fields #[Value.ref 221]) #[]
noncomputable def ob_273 (P : Params) : Obj := Obj.mk (Value.type "super") none (Data.fields #[Value.ref 271, Value.ref 271, Value.ref 271]) #[]
noncomputable def ob_274 (P : Params) : Obj := Obj.mk (Value.type "builtin_function_or_method") none (Data.fields #[Value.builtin "object.__init_subclass__", Value.ref 271]) #[]
noncomputable def ob_275 (P : Params) : Obj := Obj.mk (Value.type "tuple") none (Data.seq #[]) #[]
noncomputable def ob_276 (P : Params) : Obj := Obj.mk (Value.type "builtin_function_or_method") none (Data.fields #[Value.builtin "type.__prepare__", Value.type "type"]) #[]
noncomputable def ob_277 (P : Params) : Obj := Obj.mk (Value.type "dict") none (Data.dict #[DictEntry.mk (PyData.keyHash P "__module__") (Value.str "__module__" 565) (Value.str "sect.core.hints" 384), DictEntry.mk (PyData.keyHash P "__qualname__") (Value.str "__qualname__" 567) (Value.str "Context" 566), DictEntry.mk (PyData.keyHash P "__firstlineno__") (Value.str "__firstlineno__" 569) (Value.int 178 568), DictEntry.mk (PyData.keyHash P "__doc__") (Value.str "__doc__" 571) (Value.str "The geometric context: whole numbers as coordinates, nothing rounded." 570), DictEntry.mk (PyData.keyHash P "point_cls") (Value.str "point_cls" 581) (Value.ref 288), DictEntry.mk (PyData.keyHash P "contour_cls") (Value.str "contour_cls" 589) (Value.ref 295), DictEntry.mk (PyData.keyHash P "contour_box") (Value.str "contour_box" 597) (Value.ref 302), DictEntry.mk (PyData.keyHash P "segments_box") (Value.str "segments_box" 605) (Value.ref 309), DictEntry.mk (PyData.keyHash P "angle_orientation") (Value.str "angle_orientation" 615) (Value.ref 316), DictEntry.mk (PyData.keyHash P "locate_point_in_point_point_point_circle") (Value.str "locate_point_in_point_point_point_circle" 626) (Value.ref 323), DictEntry.mk (PyData.keyHash P "__static_attributes__") (Value.str "__static_attributes__" 627) (Value.ref 324)] 11) #[]
noncomputable def ob_278 (P : Params) : Obj := Obj.mk (Value.type "tuple") none (Data.seq #[]) #[]
noncomputable def ob_279 (P : Params) : Obj := Obj.mk Value.none none (Data.fields #[Value.int 181 0, Value.int 4 0, Value.ref 287, Value.int 184 0, Value.int 4 0, Value.ref 294, Value.int 187 0, Value.int 4 0, Value.ref 301, Value.int 190 0, Value.int 4 0, Value.ref 308, Value.int 193 0, Value.int 4 0, Value.ref 315, Value.int 196 0, Value.int 4 0, Value.ref 322]) #[]
noncomputable def ob_280 (P : Params) : Obj := Obj.mk (Value.type "code") none (Data.fields #[Value.str "Context" 560, Value.str "Context" 561, Value.str "/claim/cut.py" 562, Value.int 178 0, Value.int 0 0, Value.int 0 0, Value.int 0 0, Value.int 0 0, Value.ref 278, Value.bool false, Value.int 181 0, Value.ref 279, Value.none, Value.none, Value.none, Value.none, Value.int 563 0, Value.int 178 0, Value.str "/claim/cut.py" 564]) #[]
noncomputable def ob_281 (P : Params) : Obj := Obj.mk (Value.type "frame") none Data.plain #[some (Value.ref 280), some (Value.ref 3), some (Value.ref 277), none, some (Value.str "sect.core.hints" 384), none, some (Value.ref 0)]
noncomputable def ob_282 (P : Params) : Obj := Obj.mk (Value.type "tuple") none (Data.seq #[]) #[]
noncomputable def ob_283 (P : Params) : Obj := Obj.mk Value.none none (Data.fields #[]) #[]
noncomputable def ob_284 (P : Params) : Obj := Obj.mk (Value.type "tuple") none (Data.seq #[Value.str "self" 576, Value.str "x" 577, Value.str "y" 578]) #[]
noncomputable def ob_285 (P : Params) : Obj := Obj.mk (Value.type "tuple") none (Data.seq #[]) #[]
noncomputable def ob_286 (P : Params) : Obj := Obj.mk Value.none none (fnAt (at2 6 1) rfl "Context.point_cls" 0 [] Value.none Value.none Value.none Value.none none Value.none Value.none) #[]
noncomputable def ob_287 (P : Params) : Obj := Obj.mk (Value.type "code") none (Data.fields #[Value.str "point_cls" 573, Value.str "Context.point_cls" 574, Value.str "/claim/cut.py" 575, Value.int 181 0, Value.int 3 0, Value.int 0 0, Value.int 0 0, Value.int 3 0, Value.ref 282, Value.bool true, Value.int 181 0, Value.ref 283, Value.none, Value.ref 284, Value.ref 285, Value.ref 286, Value.int 579 0, Value.int 181 0, Value.str "/claim/cut.py" 580]) #[]
noncomputable def ob_288 (P : Params) : Obj := Obj.mk (Value.type "function") none (fnAt (at2 6 1) rfl "Context.point_cls" 3 [] Value.none Value.none Value.none (Value.str "sect.core.hints" 384) none (Value.ref 287) Value.none) #[]
noncomputable def ob_289 (P : Params) : Obj := Obj.mk (Value.type "tuple") none (Data.seq #[]) #[]
noncomputable def ob_290 (P : Params) : Obj := Obj.mk Value.none none (Data.fields #[]) #[]
noncomputable def ob_291 (P : Params) : Obj := Obj.mk (Value.type "tuple") none (Data.seq #[Value.str "self" 585, Value.str "vertices" 586]) #[]
noncomputable def ob_292 (P : Params) : Obj := Obj.mk (Value.type "tuple") none (Data.seq #[]) #[]
noncomputable def ob_293 (P : Params) : Obj := Obj.mk Value.none none (fnAt (at2 6 2) rfl "Context.contour_cls" 0 [] Value.none Value.none Value.none Value.none none Value.none Value.none) #[]
noncomputable def ob_294 (P : Params) : Obj := Obj.mk (Value.type "code") none (Data.fields #[Value.str "contour_cls" 582, Value.str "Context.contour_cls" 583, Value.str "/claim/cut.py" 584, Value.int 184 0, Value.int 2 0, Value.int 0 0, Value.int 0 0, Value.int 3 0, Value.ref 289, Value.bool true, Value.int 181 0, Value.ref 290, Value.none, Value.ref 291, Value.ref 292, Value.ref 293, Value.int 587 0, Value.int 184 0, Value.str "/claim/cut.py" 588]) #[]
noncomputable def ob_295 (P : Params) : Obj := Obj.mk (Value.type "function") none (fnAt (at2 6 2) rfl "Context.contour_cls" 3 [] Value.none Value.none Value.none (Value.str "sect.core.hints" 384) none (Value.ref 294) Value.none) #[]
noncomputable def ob_296 (P : Params) : Obj := Obj.mk (Value.type "tuple") none (Data.seq #[]) #[]
noncomputable def ob_297 (P : Params) : Obj := Obj.mk Value.none none (Data.fields #[]) #[]
noncomputable def ob_298 (P : Params) : Obj := Obj.mk (Value.type "tuple") none (Data.seq #[Value.str "self" 593, Value.str "contour" 594]) #[]
noncomputable def ob_299 (P : Params) : Obj := Obj.mk (Value.type "tuple") none (Data.seq #[]) #[]
noncomputable def ob_300 (P : Params) : Obj := Obj.mk Value.none none (fnAt (at2 6 3) rfl "Context.contour_box" 0 [] Value.none Value.none Value.none Value.none none Value.none Value.none) #[]
noncomputable def ob_301 (P : Params) : Obj := Obj.mk (Value.type "code") none (Data.fields #[Value.str "contour_box" 590, Value.str "Context.contour_box" 591, Value.str "/claim/cut.py" 592, Value.int 187 0, Value.int 2 0, Value.int 0 0, Value.int 0 0, Value.int 3 0, Value.ref 296, Value.bool true, Value.int 181 0, Value.ref 297, Value.none, Value.ref 298, Value.ref 299, Value.ref 300, Value.int 595 0, Value.int 187 0, Value.str "/claim/cut.py" 596]) #[]
noncomputable def ob_302 (P : Params) : Obj := Obj.mk (Value.type "function") none (fnAt (at2 6 3) rfl "Context.contour_box" 3 [] Value.none Value.none Value.none (Value.str "sect.core.hints" 384) none (Value.ref 301) Value.none) #[]
noncomputable def ob_303 (P : Params) : Obj := Obj.mk (Value.type "tuple") none (Data.seq #[]) #[]
noncomputable def ob_304 (P : Params) : Obj := Obj.mk Value.none none (Data.fields #[]) #[]
noncomputable def ob_305 (P : Params) : Obj := Obj.mk (Value.type "tuple") none (Data.seq #[Value.str "self" 601, Value.str "segments" 602]) #[]
noncomputable def ob_306 (P : Params) : Obj := Obj.mk (Value.type "tuple") none (Data.seq #[]) #[]
noncomputable def ob_307 (P : Params) : Obj := Obj.mk Value.none none (fnAt (at2 6 4) rfl "Context.segments_box" 0 [] Value.none Value.none Value.none Value.none none Value.none Value.none) #[]
noncomputable def ob_308 (P : Params) : Obj := Obj.mk (Value.type "code") none (Data.fields #[Value.str "segments_box" 598, Value.str "Context.segments_box" 599, Value.str "/claim/cut.py" 600, Value.int 190 0, Value.int 2 0, Value.int 0 0, Value.int 0 0, Value.int 3 0, Value.ref 303, Value.bool true, Value.int 181 0, Value.ref 304, Value.none, Value.ref 305, Value.ref 306, Value.ref 307, Value.int 603 0, Value.int 190 0, Value.str "/claim/cut.py" 604]) #[]
noncomputable def ob_309 (P : Params) : Obj := Obj.mk (Value.type "function") none (fnAt (at2 6 4) rfl "Context.segments_box" 3 [] Value.none Value.none Value.none (Value.str "sect.core.hints" 384) none (Value.ref 308) Value.none) #[]
noncomputable def ob_310 (P : Params) : Obj := Obj.mk (Value.type "tuple") none (Data.seq #[]) #[]
noncomputable def ob_311 (P : Params) : Obj := Obj.mk Value.none none (Data.fields #[]) #[]
noncomputable def ob_312 (P : Params) : Obj := Obj.mk (Value.type "tuple") none (Data.seq #[Value.str "self" 609, Value.str "vertex" 610, Value.str "first" 611, Value.str "second" 612]) #[]
noncomputable def ob_313 (P : Params) : Obj := Obj.mk (Value.type "tuple") none (Data.seq #[]) #[]
noncomputable def ob_314 (P : Params) : Obj := Obj.mk Value.none none (fnAt (at2 6 5) rfl "Context.angle_orientation" 0 [] Value.none Value.none Value.none Value.none none Value.none Value.none) #[]
noncomputable def ob_315 (P : Params) : Obj := Obj.mk (Value.type "code") none (Data.fields #[Value.str "angle_orientation" 606, Value.str "Context.angle_orientation" 607, Value.str "/claim/cut.py" 608, Value.int 193 0, Value.int 4 0, Value.int 0 0, Value.int 0 0, Value.int 3 0, Value.ref 310, Value.bool true, Value.int 181 0, Value.ref 311, Value.none, Value.ref 312, Value.ref 313, Value.ref 314, Value.int 613 0, Value.int 193 0, Value.str "/claim/cut.py" 614]) #[]
noncomputable def ob_316 (P : Params) : Obj := Obj.mk (Value.type "function") none (fnAt (at2 6 5) rfl "Context.angle_orientation" 3 [] Value.none Value.none Value.none (Value.str "sect.core.hints" 384) none (Value.ref 315) Value.none) #[]
noncomputable def ob_317 (P : Params) : Obj := Obj.mk (Value.type "tuple") none (Data.seq #[]) #[]
noncomputable def ob_318 (P : Params) : Obj := Obj.mk Value.none none (Data.fields #[]) #[]
noncomputable def ob_319 (P : Params) : Obj := Obj.mk (Value.type "tuple") none (Data.seq #[Value.str "self" 619, Value.str "point" 620, Value.str "first" 621, Value.str "second" 622, Value.str "third" 623]) #[]
noncomputable def ob_320 (P : Params) : Obj := Obj.mk (Value.type "tuple") none (Data.seq #[]) #[]
noncomputable def ob_321 (P : Params) : Obj := Obj.mk Value.none none (fnAt (at2 6 6) rfl "Context.locate_point_in_point_point_point_circle" 0 [] Value.none Value.none Value.none Value.none none Value.none Value.none) #[]
noncomputable def ob_322 (P : Params) : Obj := Obj.mk (Value.type "code") none (Data.fields #[Value.str "locate_point_in_point_point_point_circle" 616, Value.str "Context.locate_point_in_point_point_point_circle" 617, Value.str "/claim/cut.py" 618, Value.int 196 0, Value.int 5 0, Value.int 0 0, Value.int 0 0, Value.int 3 0, Value.ref 317, Value.bool true, Value.int 181 0, Value.ref 318, Value.none, Value.ref 319, Value.ref 320, Value.ref 321, Value.int 624 0, Value.int 196 0, Value.str "/claim/cut.py" 625]) #[]
noncomputable def ob_323 (P : Params) : Obj := Obj.mk (Value.type "function") none (fnAt (at2 6 6) rfl "Context.locate_point_in_point_point_point_circle" 3 [] Value.none Value.none Value.none (Value.str "sect.core.hints" 384) none (Value.ref 322) Value.none) #[]
noncomputable def ob_324 (P : Params) : Obj := Obj.mk (Value.type "tuple") none (Data.seq #[]) #[]
noncomputable def ob_325 (P : Params) : Obj := Obj.mk (Value.type "dict") none (Data.dict #[DictEntry.mk (PyData.keyHash P "__module__") (Value.str "__module__" 565) (Value.str "sect.core.hints" 384), DictEntry.mk (PyData.keyHash P "__firstlineno__") (Value.str "__firstlineno__" 569) (Value.int 178 568), DictEntry.mk (PyData.keyHash P "__doc__") (Value.str "__doc__" 571) (Value.str "The geometric context: whole numbers as coordinates, nothing rounded." 570), DictEntry.mk (PyData.keyHash P "point_cls") (Value.str "point_cls" 581) (Value.ref 288), DictEntry.mk (PyData.keyHash P "contour_cls") (Value.str "contour_cls" 589) (Value.ref 295), DictEntry.mk (PyData.keyHash P "contour_box") (Value.str "contour_box" 597) (Value.ref 302), DictEntry.mk (PyData.keyHash P "segments_box") (Value.str "segments_box" 605) (Value.ref 309), DictEntry.mk (PyData.keyHash P "angle_orientation") (Value.str "angle_orientation" 615) (Value.ref 316), DictEntry.mk (PyData.keyHash P "locate_point_in_point_point_point_circle") (Value.str "locate_point_in_point_point_point_circle" 626) (Value.ref 323), DictEntry.mk (PyData.keyHash P "__static_attributes__") (Value.str "__static_attributes__" 627) (Value.ref 324), DictEntry.mk (PyData.keyHash P "__dict__") (Value.str "__dict__" 629) (Value.ref 327), DictEntry.mk (PyData.keyHash P "__weakref__") (Value.str "__weakref__" 631) (Value.ref 328)] 3) #[]
noncomputable def ob_326 (P : Params) : Obj := Obj.mk (Value.type "type") none (Data.cls (ClassData.mk "Context" [Value.type "object"] [Value.ref 326, Value.type "object"] 325 "Context" true [] [] false none false)) #[none, none, some (Value.str "Context" 558), some (Value.str "Context" 566), some (Value.builtin "object.__new__"), some (Value.bool true)]
noncomputable def ob_327 (P : Params) : Obj := Obj.mk (Value.type "getset_descriptor") none (Data.fields #[Value.str "__dict__" 628, Value.ref 326, Value.builtin "function.__dict__", Value.builtin "function.__dict__#set"]) #[]
noncomputable def ob_328 (P : Params) : Obj := Obj.mk (Value.type "getset_descriptor") none (Data.fields #[Value.str "__weakref__" 630, Value.ref 326, Value.builtin "ExceptionGroup.__weakref__", Value.none]) #[]
noncomputable def ob_329 (P : Params) : Obj := Obj.mk (Value.type "super") none (Data.fields #[Value.ref 326, Value.ref 326, Value.ref 326]) #[]
noncomputable def ob_330 (P : Params) : Obj := Obj.mk (Value.type "builtin_function_or_method") none (Data.fields #[Value.builtin "object.__init_subclass__", Value.ref 326]) #[]
noncomputable def ob_331 (P : Params) : Obj := Obj.mk (Value.type "tuple") none (Data.seq #[]) #[]
noncomputable def ob_332 (P : Params) : Obj := Obj.mk Value.none none (Data.fields #[]) #[]
noncomputable def ob_333 (P : Params) : Obj := Obj.mk Value.none none (fnAt (at1 8) rfl "_law_splice" 0 [] Value.none Value.none Value.none Value.none none Value.none Value.none) #[]
noncomputable def ob_334 (P : Params) : Obj := Obj.mk (Value.type "code") none (Data.fields #[Value.str "_law_splice" 636, Value.str "_law_splice" 637, Value.str "/claim/cut.py" 638, Value.int 199 0, Value.int 3 0, Value.int 0 0, Value.int 0 0, Value.int 3 0, Value.ref 331, Value.bool true, Value.int 181 0, Value.ref 332, Value.none, Value.none, Value.none, Value.ref 333, Value.int 639 0, Value.int 199 0, Value.str "/claim/cut.py" 640]) #[]
noncomputable def ob_335 (P : Params) : Obj := Obj.mk (Value.type "function") none (fnAt (at1 8) rfl "_law_splice" 3 [] Value.none Value.none Value.none (Value.str "law_iu0014_01" 634) none (Value.ref 334) Value.none) #[]
noncomputable def ob_336 (P : Params) : Obj := Obj.mk (Value.type "tuple") none (Data.seq #[]) #[]
noncomputable def ob_337 (P : Params) : Obj := Obj.mk Value.none none (Data.fields #[]) #[]
noncomputable def ob_338 (P : Params) : Obj := Obj.mk Value.none none (fnAt (at1 9) rfl "_law_near" 0 [] Value.none Value.none Value.none Value.none none Value.none Value.none) #[]
noncomputable def ob_339 (P : Params) : Obj := Obj.mk (Value.type "code") none (Data.fields #[Value.str "_law_near" 642, Value.str "_law_near" 643, Value.str "/claim/cut.py" 644, Value.int 211 0, Value.int 3 0, Value.int 0 0, Value.int 0 0, Value.int 3 0, Value.ref 336, Value.bool true, Value.int 181 0, Value.ref 337, Value.none, Value.none, Value.none, Value.ref 338, Value.int 645 0, Value.int 211 0, Value.str "/claim/cut.py" 646]) #[]
noncomputable def ob_340 (P : Params) : Obj := Obj.mk (Value.type "function") none (fnAt (at1 9) rfl "_law_near" 3 [] Value.none Value.none Value.none (Value.str "law_iu0014_01" 634) none (Value.ref 339) Value.none) #[]
noncomputable def ob_341 (P : Params) : Obj := Obj.mk (Value.type "tuple") none (Data.seq #[]) #[]
noncomputable def ob_342 (P : Params) : Obj := Obj.mk Value.none none (Data.fields #[]) #[]
noncomputable def ob_343 (P : Params) : Obj := Obj.mk (Value.type "tuple") none (Data.seq #[Value.str "a" 651]) #[]
noncomputable def ob_344 (P : Params) : Obj := Obj.mk (Value.type "tuple") none (Data.seq #[]) #[]
noncomputable def ob_345 (P : Params) : Obj := Obj.mk Value.none none (fnAt (at1 10) rfl "_law_other" 0 [] Value.none Value.none Value.none Value.none none Value.none Value.none) #[]
noncomputable def ob_346 (P : Params) : Obj := Obj.mk (Value.type "code") none (Data.fields #[Value.str "_law_other" 648, Value.str "_law_other" 649, Value.str "/claim/cut.py" 650, Value.int 214 0, Value.int 1 0, Value.int 0 0, Value.int 0 0, Value.int 3 0, Value.ref 341, Value.bool true, Value.int 181 0, Value.ref 342, Value.none, Value.ref 343, Value.ref 344, Value.ref 345, Value.int 652 0, Value.int 214 0, Value.str "/claim/cut.py" 653]) #[]
noncomputable def ob_347 (P : Params) : Obj := Obj.mk (Value.type "function") none (fnAt (at1 10) rfl "_law_other" 3 [] Value.none Value.none Value.none (Value.str "law_iu0014_01" 634) none (Value.ref 346) Value.none) #[]
noncomputable def ob_348 (P : Params) : Obj := Obj.mk (Value.type "tuple") none (Data.seq #[]) #[]
noncomputable def ob_349 (P : Params) : Obj := Obj.mk Value.none none (Data.fields #[]) #[]
noncomputable def ob_350 (P : Params) : Obj := Obj.mk (Value.type "tuple") none (Data.seq #[Value.str "script" 658, Value.str "context" 659, Value.str "edges" 660, Value.str "starts" 661, Value.str "rings" 662, Value.str "k" 663, Value.str "edge" 664, Value.str "deed" 665, Value.str "a" 666, Value.str "b" 667, Value.str "place" 668, Value.str "behind" 669, Value.str "other" 670]) #[]
noncomputable def ob_351 (P : Params) : Obj := Obj.mk (Value.type "tuple") none (Data.seq #[]) #[]
noncomputable def ob_352 (P : Params) : Obj := Obj.mk Value.none none (fnAt (at1 11) rfl "law" 0 [] Value.none Value.none Value.none Value.none none Value.none Value.none) #[]
noncomputable def ob_353 (P : Params) : Obj := Obj.mk (Value.type "code") none (Data.fields #[Value.str "law" 655, Value.str "law" 656, Value.str "/claim/cut.py" 657, Value.int 216 0, Value.int 1 0, Value.int 0 0, Value.int 0 0, Value.int 3 0, Value.ref 348, Value.bool true, Value.int 181 0, Value.ref 349, Value.none, Value.ref 350, Value.ref 351, Value.ref 352, Value.int 671 0, Value.int 216 0, Value.str "/claim/cut.py" 672]) #[]
noncomputable def ob_354 (P : Params) : Obj := Obj.mk (Value.type "function") none (fnAt (at1 11) rfl "law" 3 [] Value.none Value.none Value.none (Value.str "law_iu0014_01" 634) none (Value.ref 353) Value.none) #[]
noncomputable def oc_44 (P : Params) : Obj := Obj.mk Value.none none (Data.fields #[]) #[]
noncomputable def t0 (P : Params) : BT := .node (boot_o_0 P) (.node (boot_o_1 P) (.node (boot_o_3 P) (.node (boot_o_7 P) .nil .nil) (.node (ob_11 P) .nil .nil)) (.node (boot_o_5 P) (.node (boot_o_9 P) .nil .nil) (.node (ob_13 P) .nil .nil))) (.node (boot_o_2 P) (.node (boot_o_4 P) (.node (boot_o_8 P) .nil .nil) (.node (oc_44 P) .nil .nil)) (.node (boot_o_6 P) (.node (boot_o_10 P) .nil .nil) (.node (ob_14 P) .nil .nil)))
noncomputable def oc_49 (P : Params) : Obj := Obj.mk (Value.type "dict") none (Data.dict #[DictEntry.mk (PyData.keyHash P "__name__") (Value.str "__name__" 165) (Value.str "sect.core.delaunay.quad_edge" 194), DictEntry.mk (PyData.keyHash P "__doc__") (Value.str "__doc__" 166) Value.none, DictEntry.mk (PyData.keyHash P "__package__") (Value.str "__package__" 167) Value.none, DictEntry.mk (PyData.keyHash P "__loader__") (Value.str "__loader__" 168) (Value.builtin "__main__.__loader__#opaque"), DictEntry.mk (PyData.keyHash P "__spec__") (Value.str "__spec__" 169) Value.none, DictEntry.mk (PyData.keyHash P "__annotations__") (Value.str "__annotations__" 170) (Value.ref 6), DictEntry.mk (PyData.keyHash P "__builtins__") (Value.str "__builtins__" 171) (Value.ref 4), DictEntry.mk (PyData.keyHash P "__file__") (Value.str "__file__" 173) (Value.str "/claim/cut.py" 172), DictEntry.mk (PyData.keyHash P "__cached__") (Value.str "__cached__" 174) Value.none, DictEntry.mk (PyData.keyHash P "_wall") (Value.str "_wall" 193) (Value.ref 21)] 10) #[]
noncomputable def oc_50 (P : Params) : Obj := Obj.mk Value.none none (Data.fields #[Value.int 1 0, Value.int 0 0, Value.ref 20]) #[]
noncomputable def t1 (P : Params) : BT := .node (boot_o_0 P) (.node (boot_o_1 P) (.node (oc_49 P) (.node (boot_o_7 P) (.node (ob_15 P) .nil .nil) .nil) (.node (ob_11 P) (.node (ob_19 P) .nil .nil) .nil)) (.node (boot_o_5 P) (.node (boot_o_9 P) (.node (ob_17 P) .nil .nil) .nil) (.node (ob_13 P) (.node (ob_21 P) .nil .nil) .nil))) (.node (boot_o_2 P) (.node (boot_o_4 P) (.node (boot_o_8 P) (.node (ob_16 P) .nil .nil) .nil) (.node (oc_50 P) (.node (ob_20 P) .nil .nil) .nil)) (.node (boot_o_6 P) (.node (boot_o_10 P) (.node (ob_18 P) .nil .nil) .nil) (.node (ob_14 P) .nil .nil)))
noncomputable def oc_58 (P : Params) : Obj := Obj.mk (Value.type "dict") none (Data.dict #[DictEntry.mk (PyData.keyHash P "__name__") (Value.str "__name__" 165) (Value.str "sect.core.delaunay.quad_edge" 194), DictEntry.mk (PyData.keyHash P "__doc__") (Value.str "__doc__" 166) Value.none, DictEntry.mk (PyData.keyHash P "__package__") (Value.str "__package__" 167) Value.none, DictEntry.mk (PyData.keyHash P "__loader__") (Value.str "__loader__" 168) (Value.builtin "__main__.__loader__#opaque"), DictEntry.mk (PyData.keyHash P "__spec__") (Value.str "__spec__" 169) Value.none, DictEntry.mk (PyData.keyHash P "__annotations__") (Value.str "__annotations__" 170) (Value.ref 6), DictEntry.mk (PyData.keyHash P "__builtins__") (Value.str "__builtins__" 171) (Value.ref 4), DictEntry.mk (PyData.keyHash P "__file__") (Value.str "__file__" 173) (Value.str "/claim/cut.py" 172), DictEntry.mk (PyData.keyHash P "__cached__") (Value.str "__cached__" 174) Value.none, DictEntry.mk (PyData.keyHash P "_wall") (Value.str "_wall" 193) (Value.ref 21), DictEntry.mk (PyData.keyHash P "QuadEdge") (Value.str "QuadEdge" 383) (Value.ref 156)] 11) #[]
noncomputable def oc_59 (P : Params) : Obj := Obj.mk Value.none none (Data.fields #[Value.int 1 0, Value.int 0 0, Value.ref 20, Value.int 5 0, Value.int 0 0, Value.ref 27]) #[]
noncomputable def t2 (P : Params) : BT := .node (boot_o_0 P) (.node (boot_o_1 P) (.node (oc_58 P) (.node (boot_o_7 P) (.node (ob_15 P) (.node (ob_31 P) (.node (ob_63 P) (.node (ob_127 P) .nil .nil) .nil) (.node (ob_95 P) (.node (ob_159 P) .nil .nil) .nil)) (.node (ob_47 P) (.node (ob_79 P) (.node (ob_143 P) .nil .nil) .nil) (.node (ob_111 P) .nil .nil))) (.node (ob_23 P) (.node (ob_39 P) (.node (ob_71 P) (.node (ob_135 P) .nil .nil) .nil) (.node (ob_103 P) .nil .nil)) (.node (ob_55 P) (.node (ob_87 P) (.node (ob_151 P) .nil .nil) .nil) (.node (ob_119 P) .nil .nil)))) (.node (ob_11 P) (.node (ob_19 P) (.node (ob_35 P) (.node (ob_67 P) (.node (ob_131 P) .nil .nil) .nil) (.node (ob_99 P) .nil .nil)) (.node (ob_51 P) (.node (ob_83 P) (.node (ob_147 P) .nil .nil) .nil) (.node (ob_115 P) .nil .nil))) (.node (ob_27 P) (.node (ob_43 P) (.node (ob_75 P) (.node (ob_139 P) .nil .nil) .nil) (.node (ob_107 P) .nil .nil)) (.node (ob_59 P) (.node (ob_91 P) (.node (ob_155 P) .nil .nil) .nil) (.node (ob_123 P) .nil .nil))))) (.node (boot_o_5 P) (.node (boot_o_9 P) (.node (ob_17 P) (.node (ob_33 P) (.node (ob_65 P) (.node (ob_129 P) .nil .nil) .nil) (.node (ob_97 P) .nil .nil)) (.node (ob_49 P) (.node (ob_81 P) (.node (ob_145 P) .nil .nil) .nil) (.node (ob_113 P) .nil .nil))) (.node (ob_25 P) (.node (ob_41 P) (.node (ob_73 P) (.node (ob_137 P) .nil .nil) .nil) (.node (ob_105 P) .nil .nil)) (.node (ob_57 P) (.node (ob_89 P) (.node (ob_153 P) .nil .nil) .nil) (.node (ob_121 P) .nil .nil)))) (.node (ob_13 P) (.node (ob_21 P) (.node (ob_37 P) (.node (ob_69 P) (.node (ob_133 P) .nil .nil) .nil) (.node (ob_101 P) .nil .nil)) (.node (ob_53 P) (.node (ob_85 P) (.node (ob_149 P) .nil .nil) .nil) (.node (ob_117 P) .nil .nil))) (.node (ob_29 P) (.node (ob_45 P) (.node (ob_77 P) (.node (ob_141 P) .nil .nil) .nil) (.node (ob_109 P) .nil .nil)) (.node (ob_61 P) (.node (ob_93 P) (.node (ob_157 P) .nil .nil) .nil) (.node (ob_125 P) .nil .nil)))))) (.node (boot_o_2 P) (.node (boot_o_4 P) (.node (boot_o_8 P) (.node (ob_16 P) (.node (ob_32 P) (.node (ob_64 P) (.node (ob_128 P) .nil .nil) .nil) (.node (ob_96 P) (.node (ob_160 P) .nil .nil) .nil)) (.node (ob_48 P) (.node (ob_80 P) (.node (ob_144 P) .nil .nil) .nil) (.node (ob_112 P) .nil .nil))) (.node (ob_24 P) (.node (ob_40 P) (.node (ob_72 P) (.node (ob_136 P) .nil .nil) .nil) (.node (ob_104 P) .nil .nil)) (.node (ob_56 P) (.node (ob_88 P) (.node (ob_152 P) .nil .nil) .nil) (.node (ob_120 P) .nil .nil)))) (.node (oc_59 P) (.node (ob_20 P) (.node (ob_36 P) (.node (ob_68 P) (.node (ob_132 P) .nil .nil) .nil) (.node (ob_100 P) .nil .nil)) (.node (ob_52 P) (.node (ob_84 P) (.node (ob_148 P) .nil .nil) .nil) (.node (ob_116 P) .nil .nil))) (.node (ob_28 P) (.node (ob_44 P) (.node (ob_76 P) (.node (ob_140 P) .nil .nil) .nil) (.node (ob_108 P) .nil .nil)) (.node (ob_60 P) (.node (ob_92 P) (.node (ob_156 P) .nil .nil) .nil) (.node (ob_124 P) .nil .nil))))) (.node (boot_o_6 P) (.node (boot_o_10 P) (.node (ob_18 P) (.node (ob_34 P) (.node (ob_66 P) (.node (ob_130 P) .nil .nil) .nil) (.node (ob_98 P) .nil .nil)) (.node (ob_50 P) (.node (ob_82 P) (.node (ob_146 P) .nil .nil) .nil) (.node (ob_114 P) .nil .nil))) (.node (ob_26 P) (.node (ob_42 P) (.node (ob_74 P) (.node (ob_138 P) .nil .nil) .nil) (.node (ob_106 P) .nil .nil)) (.node (ob_58 P) (.node (ob_90 P) (.node (ob_154 P) .nil .nil) .nil) (.node (ob_122 P) .nil .nil)))) (.node (ob_14 P) (.node (ob_22 P) (.node (ob_38 P) (.node (ob_70 P) (.node (ob_134 P) .nil .nil) .nil) (.node (ob_102 P) .nil .nil)) (.node (ob_54 P) (.node (ob_86 P) (.node (ob_150 P) .nil .nil) .nil) (.node (ob_118 P) .nil .nil))) (.node (ob_30 P) (.node (ob_46 P) (.node (ob_78 P) (.node (ob_142 P) .nil .nil) .nil) (.node (ob_110 P) .nil .nil)) (.node (ob_62 P) (.node (ob_94 P) (.node (ob_158 P) .nil .nil) .nil) (.node (ob_126 P) .nil .nil))))))
noncomputable def oc_341 (P : Params) : Obj := Obj.mk (Value.type "dict") none (Data.dict #[DictEntry.mk (PyData.keyHash P "__name__") (Value.str "__name__" 165) (Value.str "sect.core.hints" 384), DictEntry.mk (PyData.keyHash P "__doc__") (Value.str "__doc__" 166) Value.none, DictEntry.mk (PyData.keyHash P "__package__") (Value.str "__package__" 167) Value.none, DictEntry.mk (PyData.keyHash P "__loader__") (Value.str "__loader__" 168) (Value.builtin "__main__.__loader__#opaque"), DictEntry.mk (PyData.keyHash P "__spec__") (Value.str "__spec__" 169) Value.none, DictEntry.mk (PyData.keyHash P "__annotations__") (Value.str "__annotations__" 170) (Value.ref 6), DictEntry.mk (PyData.keyHash P "__builtins__") (Value.str "__builtins__" 171) (Value.ref 4), DictEntry.mk (PyData.keyHash P "__file__") (Value.str "__file__" 173) (Value.str "/claim/cut.py" 172), DictEntry.mk (PyData.keyHash P "__cached__") (Value.str "__cached__" 174) Value.none, DictEntry.mk (PyData.keyHash P "_wall") (Value.str "_wall" 193) (Value.ref 21), DictEntry.mk (PyData.keyHash P "QuadEdge") (Value.str "QuadEdge" 383) (Value.ref 156), DictEntry.mk (PyData.keyHash P "_tuplegetter") (Value.str "_tuplegetter" 442) (Value.ref 199)] 12) #[]
noncomputable def oc_342 (P : Params) : Obj := Obj.mk Value.none none (Data.fields #[Value.int 1 0, Value.int 0 0, Value.ref 20, Value.int 5 0, Value.int 0 0, Value.ref 27, Value.int 118 0, Value.int 0 0, Value.ref 166]) #[]
noncomputable def t3 (P : Params) : BT := .node (boot_o_0 P) (.node (boot_o_1 P) (.node (oc_341 P) (.node (boot_o_7 P) (.node (ob_15 P) (.node (ob_31 P) (.node (ob_63 P) (.node (ob_127 P) .nil .nil) (.node (ob_191 P) .nil .nil)) (.node (ob_95 P) (.node (ob_159 P) .nil .nil) .nil)) (.node (ob_47 P) (.node (ob_79 P) (.node (ob_143 P) .nil .nil) .nil) (.node (ob_111 P) (.node (ob_175 P) .nil .nil) .nil))) (.node (ob_23 P) (.node (ob_39 P) (.node (ob_71 P) (.node (ob_135 P) .nil .nil) (.node (ob_199 P) .nil .nil)) (.node (ob_103 P) (.node (ob_167 P) .nil .nil) .nil)) (.node (ob_55 P) (.node (ob_87 P) (.node (ob_151 P) .nil .nil) .nil) (.node (ob_119 P) (.node (ob_183 P) .nil .nil) .nil)))) (.node (ob_11 P) (.node (ob_19 P) (.node (ob_35 P) (.node (ob_67 P) (.node (ob_131 P) .nil .nil) (.node (ob_195 P) .nil .nil)) (.node (ob_99 P) (.node (ob_163 P) .nil .nil) .nil)) (.node (ob_51 P) (.node (ob_83 P) (.node (ob_147 P) .nil .nil) .nil) (.node (ob_115 P) (.node (ob_179 P) .nil .nil) .nil))) (.node (ob_27 P) (.node (ob_43 P) (.node (ob_75 P) (.node (ob_139 P) .nil .nil) (.node (ob_203 P) .nil .nil)) (.node (ob_107 P) (.node (ob_171 P) .nil .nil) .nil)) (.node (ob_59 P) (.node (ob_91 P) (.node (ob_155 P) .nil .nil) .nil) (.node (ob_123 P) (.node (ob_187 P) .nil .nil) .nil))))) (.node (boot_o_5 P) (.node (boot_o_9 P) (.node (ob_17 P) (.node (ob_33 P) (.node (ob_65 P) (.node (ob_129 P) .nil .nil) (.node (ob_193 P) .nil .nil)) (.node (ob_97 P) (.node (ob_161 P) .nil .nil) .nil)) (.node (ob_49 P) (.node (ob_81 P) (.node (ob_145 P) .nil .nil) .nil) (.node (ob_113 P) (.node (ob_177 P) .nil .nil) .nil))) (.node (ob_25 P) (.node (ob_41 P) (.node (ob_73 P) (.node (ob_137 P) .nil .nil) (.node (ob_201 P) .nil .nil)) (.node (ob_105 P) (.node (ob_169 P) .nil .nil) .nil)) (.node (ob_57 P) (.node (ob_89 P) (.node (ob_153 P) .nil .nil) .nil) (.node (ob_121 P) (.node (ob_185 P) .nil .nil) .nil)))) (.node (ob_13 P) (.node (ob_21 P) (.node (ob_37 P) (.node (ob_69 P) (.node (ob_133 P) .nil .nil) (.node (ob_197 P) .nil .nil)) (.node (ob_101 P) (.node (ob_165 P) .nil .nil) .nil)) (.node (ob_53 P) (.node (ob_85 P) (.node (ob_149 P) .nil .nil) .nil) (.node (ob_117 P) (.node (ob_181 P) .nil .nil) .nil))) (.node (ob_29 P) (.node (ob_45 P) (.node (ob_77 P) (.node (ob_141 P) .nil .nil) .nil) (.node (ob_109 P) (.node (ob_173 P) .nil .nil) .nil)) (.node (ob_61 P) (.node (ob_93 P) (.node (ob_157 P) .nil .nil) .nil) (.node (ob_125 P) (.node (ob_189 P) .nil .nil) .nil)))))) (.node (boot_o_2 P) (.node (boot_o_4 P) (.node (boot_o_8 P) (.node (ob_16 P) (.node (ob_32 P) (.node (ob_64 P) (.node (ob_128 P) .nil .nil) (.node (ob_192 P) .nil .nil)) (.node (ob_96 P) (.node (ob_160 P) .nil .nil) .nil)) (.node (ob_48 P) (.node (ob_80 P) (.node (ob_144 P) .nil .nil) .nil) (.node (ob_112 P) (.node (ob_176 P) .nil .nil) .nil))) (.node (ob_24 P) (.node (ob_40 P) (.node (ob_72 P) (.node (ob_136 P) .nil .nil) (.node (ob_200 P) .nil .nil)) (.node (ob_104 P) (.node (ob_168 P) .nil .nil) .nil)) (.node (ob_56 P) (.node (ob_88 P) (.node (ob_152 P) .nil .nil) .nil) (.node (ob_120 P) (.node (ob_184 P) .nil .nil) .nil)))) (.node (oc_342 P) (.node (ob_20 P) (.node (ob_36 P) (.node (ob_68 P) (.node (ob_132 P) .nil .nil) (.node (ob_196 P) .nil .nil)) (.node (ob_100 P) (.node (ob_164 P) .nil .nil) .nil)) (.node (ob_52 P) (.node (ob_84 P) (.node (ob_148 P) .nil .nil) .nil) (.node (ob_116 P) (.node (ob_180 P) .nil .nil) .nil))) (.node (ob_28 P) (.node (ob_44 P) (.node (ob_76 P) (.node (ob_140 P) .nil .nil) .nil) (.node (ob_108 P) (.node (ob_172 P) .nil .nil) .nil)) (.node (ob_60 P) (.node (ob_92 P) (.node (ob_156 P) .nil .nil) .nil) (.node (ob_124 P) (.node (ob_188 P) .nil .nil) .nil))))) (.node (boot_o_6 P) (.node (boot_o_10 P) (.node (ob_18 P) (.node (ob_34 P) (.node (ob_66 P) (.node (ob_130 P) .nil .nil) (.node (ob_194 P) .nil .nil)) (.node (ob_98 P) (.node (ob_162 P) .nil .nil) .nil)) (.node (ob_50 P) (.node (ob_82 P) (.node (ob_146 P) .nil .nil) .nil) (.node (ob_114 P) (.node (ob_178 P) .nil .nil) .nil))) (.node (ob_26 P) (.node (ob_42 P) (.node (ob_74 P) (.node (ob_138 P) .nil .nil) (.node (ob_202 P) .nil .nil)) (.node (ob_106 P) (.node (ob_170 P) .nil .nil) .nil)) (.node (ob_58 P) (.node (ob_90 P) (.node (ob_154 P) .nil .nil) .nil) (.node (ob_122 P) (.node (ob_186 P) .nil .nil) .nil)))) (.node (ob_14 P) (.node (ob_22 P) (.node (ob_38 P) (.node (ob_70 P) (.node (ob_134 P) .nil .nil) (.node (ob_198 P) .nil .nil)) (.node (ob_102 P) (.node (ob_166 P) .nil .nil) .nil)) (.node (ob_54 P) (.node (ob_86 P) (.node (ob_150 P) .nil .nil) .nil) (.node (ob_118 P) (.node (ob_182 P) .nil .nil) .nil))) (.node (ob_30 P) (.node (ob_46 P) (.node (ob_78 P) (.node (ob_142 P) .nil .nil) .nil) (.node (ob_110 P) (.node (ob_174 P) .nil .nil) .nil)) (.node (ob_62 P) (.node (ob_94 P) (.node (ob_158 P) .nil .nil) .nil) (.node (ob_126 P) (.node (ob_190 P) .nil .nil) .nil))))))
noncomputable def oc_386 (P : Params) : Obj := Obj.mk (Value.type "dict") none (Data.dict #[DictEntry.mk (PyData.keyHash P "__name__") (Value.str "__name__" 165) (Value.str "sect.core.hints" 384), DictEntry.mk (PyData.keyHash P "__doc__") (Value.str "__doc__" 166) Value.none, DictEntry.mk (PyData.keyHash P "__package__") (Value.str "__package__" 167) Value.none, DictEntry.mk (PyData.keyHash P "__loader__") (Value.str "__loader__" 168) (Value.builtin "__main__.__loader__#opaque"), DictEntry.mk (PyData.keyHash P "__spec__") (Value.str "__spec__" 169) Value.none, DictEntry.mk (PyData.keyHash P "__annotations__") (Value.str "__annotations__" 170) (Value.ref 6), DictEntry.mk (PyData.keyHash P "__builtins__") (Value.str "__builtins__" 171) (Value.ref 4), DictEntry.mk (PyData.keyHash P "__file__") (Value.str "__file__" 173) (Value.str "/claim/cut.py" 172), DictEntry.mk (PyData.keyHash P "__cached__") (Value.str "__cached__" 174) Value.none, DictEntry.mk (PyData.keyHash P "_wall") (Value.str "_wall" 193) (Value.ref 21), DictEntry.mk (PyData.keyHash P "QuadEdge") (Value.str "QuadEdge" 383) (Value.ref 156), DictEntry.mk (PyData.keyHash P "_tuplegetter") (Value.str "_tuplegetter" 442) (Value.ref 199), DictEntry.mk (PyData.keyHash P "Point") (Value.str "Point" 557) (Value.ref 271)] 13) #[]
noncomputable def oc_387 (P : Params) : Obj := Obj.mk Value.none none (Data.fields #[Value.int 1 0, Value.int 0 0, Value.ref 20, Value.int 5 0, Value.int 0 0, Value.ref 27, Value.int 118 0, Value.int 0 0, Value.ref 166, Value.int 136 0, Value.int 0 0, Value.ref 210]) #[]
noncomputable def t4 (P : Params) : BT := .node (boot_o_0 P) (.node (boot_o_1 P) (.node (oc_386 P) (.node (boot_o_7 P) (.node (ob_15 P) (.node (ob_31 P) (.node (ob_63 P) (.node (ob_127 P) (.node (ob_255 P) .nil .nil) .nil) (.node (ob_191 P) .nil .nil)) (.node (ob_95 P) (.node (ob_159 P) .nil .nil) (.node (ob_223 P) .nil .nil))) (.node (ob_47 P) (.node (ob_79 P) (.node (ob_143 P) (.node (ob_271 P) .nil .nil) .nil) (.node (ob_207 P) .nil .nil)) (.node (ob_111 P) (.node (ob_175 P) .nil .nil) (.node (ob_239 P) .nil .nil)))) (.node (ob_23 P) (.node (ob_39 P) (.node (ob_71 P) (.node (ob_135 P) (.node (ob_263 P) .nil .nil) .nil) (.node (ob_199 P) .nil .nil)) (.node (ob_103 P) (.node (ob_167 P) .nil .nil) (.node (ob_231 P) .nil .nil))) (.node (ob_55 P) (.node (ob_87 P) (.node (ob_151 P) .nil .nil) (.node (ob_215 P) .nil .nil)) (.node (ob_119 P) (.node (ob_183 P) .nil .nil) (.node (ob_247 P) .nil .nil))))) (.node (ob_11 P) (.node (ob_19 P) (.node (ob_35 P) (.node (ob_67 P) (.node (ob_131 P) (.node (ob_259 P) .nil .nil) .nil) (.node (ob_195 P) .nil .nil)) (.node (ob_99 P) (.node (ob_163 P) .nil .nil) (.node (ob_227 P) .nil .nil))) (.node (ob_51 P) (.node (ob_83 P) (.node (ob_147 P) .nil .nil) (.node (ob_211 P) .nil .nil)) (.node (ob_115 P) (.node (ob_179 P) .nil .nil) (.node (ob_243 P) .nil .nil)))) (.node (ob_27 P) (.node (ob_43 P) (.node (ob_75 P) (.node (ob_139 P) (.node (ob_267 P) .nil .nil) .nil) (.node (ob_203 P) .nil .nil)) (.node (ob_107 P) (.node (ob_171 P) .nil .nil) (.node (ob_235 P) .nil .nil))) (.node (ob_59 P) (.node (ob_91 P) (.node (ob_155 P) .nil .nil) (.node (ob_219 P) .nil .nil)) (.node (ob_123 P) (.node (ob_187 P) .nil .nil) (.node (ob_251 P) .nil .nil)))))) (.node (boot_o_5 P) (.node (boot_o_9 P) (.node (ob_17 P) (.node (ob_33 P) (.node (ob_65 P) (.node (ob_129 P) (.node (ob_257 P) .nil .nil) .nil) (.node (ob_193 P) .nil .nil)) (.node (ob_97 P) (.node (ob_161 P) .nil .nil) (.node (ob_225 P) .nil .nil))) (.node (ob_49 P) (.node (ob_81 P) (.node (ob_145 P) (.node (ob_273 P) .nil .nil) .nil) (.node (ob_209 P) .nil .nil)) (.node (ob_113 P) (.node (ob_177 P) .nil .nil) (.node (ob_241 P) .nil .nil)))) (.node (ob_25 P) (.node (ob_41 P) (.node (ob_73 P) (.node (ob_137 P) (.node (ob_265 P) .nil .nil) .nil) (.node (ob_201 P) .nil .nil)) (.node (ob_105 P) (.node (ob_169 P) .nil .nil) (.node (ob_233 P) .nil .nil))) (.node (ob_57 P) (.node (ob_89 P) (.node (ob_153 P) .nil .nil) (.node (ob_217 P) .nil .nil)) (.node (ob_121 P) (.node (ob_185 P) .nil .nil) (.node (ob_249 P) .nil .nil))))) (.node (ob_13 P) (.node (ob_21 P) (.node (ob_37 P) (.node (ob_69 P) (.node (ob_133 P) (.node (ob_261 P) .nil .nil) .nil) (.node (ob_197 P) .nil .nil)) (.node (ob_101 P) (.node (ob_165 P) .nil .nil) (.node (ob_229 P) .nil .nil))) (.node (ob_53 P) (.node (ob_85 P) (.node (ob_149 P) .nil .nil) (.node (ob_213 P) .nil .nil)) (.node (ob_117 P) (.node (ob_181 P) .nil .nil) (.node (ob_245 P) .nil .nil)))) (.node (ob_29 P) (.node (ob_45 P) (.node (ob_77 P) (.node (ob_141 P) (.node (ob_269 P) .nil .nil) .nil) (.node (ob_205 P) .nil .nil)) (.node (ob_109 P) (.node (ob_173 P) .nil .nil) (.node (ob_237 P) .nil .nil))) (.node (ob_61 P) (.node (ob_93 P) (.node (ob_157 P) .nil .nil) (.node (ob_221 P) .nil .nil)) (.node (ob_125 P) (.node (ob_189 P) .nil .nil) (.node (ob_253 P) .nil .nil))))))) (.node (boot_o_2 P) (.node (boot_o_4 P) (.node (boot_o_8 P) (.node (ob_16 P) (.node (ob_32 P) (.node (ob_64 P) (.node (ob_128 P) (.node (ob_256 P) .nil .nil) .nil) (.node (ob_192 P) .nil .nil)) (.node (ob_96 P) (.node (ob_160 P) .nil .nil) (.node (ob_224 P) .nil .nil))) (.node (ob_48 P) (.node (ob_80 P) (.node (ob_144 P) (.node (ob_272 P) .nil .nil) .nil) (.node (ob_208 P) .nil .nil)) (.node (ob_112 P) (.node (ob_176 P) .nil .nil) (.node (ob_240 P) .nil .nil)))) (.node (ob_24 P) (.node (ob_40 P) (.node (ob_72 P) (.node (ob_136 P) (.node (ob_264 P) .nil .nil) .nil) (.node (ob_200 P) .nil .nil)) (.node (ob_104 P) (.node (ob_168 P) .nil .nil) (.node (ob_232 P) .nil .nil))) (.node (ob_56 P) (.node (ob_88 P) (.node (ob_152 P) .nil .nil) (.node (ob_216 P) .nil .nil)) (.node (ob_120 P) (.node (ob_184 P) .nil .nil) (.node (ob_248 P) .nil .nil))))) (.node (oc_387 P) (.node (ob_20 P) (.node (ob_36 P) (.node (ob_68 P) (.node (ob_132 P) (.node (ob_260 P) .nil .nil) .nil) (.node (ob_196 P) .nil .nil)) (.node (ob_100 P) (.node (ob_164 P) .nil .nil) (.node (ob_228 P) .nil .nil))) (.node (ob_52 P) (.node (ob_84 P) (.node (ob_148 P) .nil .nil) (.node (ob_212 P) .nil .nil)) (.node (ob_116 P) (.node (ob_180 P) .nil .nil) (.node (ob_244 P) .nil .nil)))) (.node (ob_28 P) (.node (ob_44 P) (.node (ob_76 P) (.node (ob_140 P) (.node (ob_268 P) .nil .nil) .nil) (.node (ob_204 P) .nil .nil)) (.node (ob_108 P) (.node (ob_172 P) .nil .nil) (.node (ob_236 P) .nil .nil))) (.node (ob_60 P) (.node (ob_92 P) (.node (ob_156 P) .nil .nil) (.node (ob_220 P) .nil .nil)) (.node (ob_124 P) (.node (ob_188 P) .nil .nil) (.node (ob_252 P) .nil .nil)))))) (.node (boot_o_6 P) (.node (boot_o_10 P) (.node (ob_18 P) (.node (ob_34 P) (.node (ob_66 P) (.node (ob_130 P) (.node (ob_258 P) .nil .nil) .nil) (.node (ob_194 P) .nil .nil)) (.node (ob_98 P) (.node (ob_162 P) .nil .nil) (.node (ob_226 P) .nil .nil))) (.node (ob_50 P) (.node (ob_82 P) (.node (ob_146 P) (.node (ob_274 P) .nil .nil) .nil) (.node (ob_210 P) .nil .nil)) (.node (ob_114 P) (.node (ob_178 P) .nil .nil) (.node (ob_242 P) .nil .nil)))) (.node (ob_26 P) (.node (ob_42 P) (.node (ob_74 P) (.node (ob_138 P) (.node (ob_266 P) .nil .nil) .nil) (.node (ob_202 P) .nil .nil)) (.node (ob_106 P) (.node (ob_170 P) .nil .nil) (.node (ob_234 P) .nil .nil))) (.node (ob_58 P) (.node (ob_90 P) (.node (ob_154 P) .nil .nil) (.node (ob_218 P) .nil .nil)) (.node (ob_122 P) (.node (ob_186 P) .nil .nil) (.node (ob_250 P) .nil .nil))))) (.node (ob_14 P) (.node (ob_22 P) (.node (ob_38 P) (.node (ob_70 P) (.node (ob_134 P) (.node (ob_262 P) .nil .nil) .nil) (.node (ob_198 P) .nil .nil)) (.node (ob_102 P) (.node (ob_166 P) .nil .nil) (.node (ob_230 P) .nil .nil))) (.node (ob_54 P) (.node (ob_86 P) (.node (ob_150 P) .nil .nil) (.node (ob_214 P) .nil .nil)) (.node (ob_118 P) (.node (ob_182 P) .nil .nil) (.node (ob_246 P) .nil .nil)))) (.node (ob_30 P) (.node (ob_46 P) (.node (ob_78 P) (.node (ob_142 P) (.node (ob_270 P) .nil .nil) .nil) (.node (ob_206 P) .nil .nil)) (.node (ob_110 P) (.node (ob_174 P) .nil .nil) (.node (ob_238 P) .nil .nil))) (.node (ob_62 P) (.node (ob_94 P) (.node (ob_158 P) .nil .nil) (.node (ob_222 P) .nil .nil)) (.node (ob_126 P) (.node (ob_190 P) .nil .nil) (.node (ob_254 P) .nil .nil)))))))
noncomputable def oc_512 (P : Params) : Obj := Obj.mk (Value.type "dict") none (Data.dict #[DictEntry.mk (PyData.keyHash P "__name__") (Value.str "__name__" 165) (Value.str "law_iu0014_01" 634), DictEntry.mk (PyData.keyHash P "__doc__") (Value.str "__doc__" 166) Value.none, DictEntry.mk (PyData.keyHash P "__package__") (Value.str "__package__" 167) Value.none, DictEntry.mk (PyData.keyHash P "__loader__") (Value.str "__loader__" 168) (Value.builtin "__main__.__loader__#opaque"), DictEntry.mk (PyData.keyHash P "__spec__") (Value.str "__spec__" 169) Value.none, DictEntry.mk (PyData.keyHash P "__annotations__") (Value.str "__annotations__" 170) (Value.ref 6), DictEntry.mk (PyData.keyHash P "__builtins__") (Value.str "__builtins__" 171) (Value.ref 4), DictEntry.mk (PyData.keyHash P "__file__") (Value.str "__file__" 173) (Value.str "/claim/cut.py" 172), DictEntry.mk (PyData.keyHash P "__cached__") (Value.str "__cached__" 174) Value.none, DictEntry.mk (PyData.keyHash P "_wall") (Value.str "_wall" 193) (Value.ref 21), DictEntry.mk (PyData.keyHash P "QuadEdge") (Value.str "QuadEdge" 383) (Value.ref 156), DictEntry.mk (PyData.keyHash P "_tuplegetter") (Value.str "_tuplegetter" 442) (Value.ref 199), DictEntry.mk (PyData.keyHash P "Point") (Value.str "Point" 557) (Value.ref 271), DictEntry.mk (PyData.keyHash P "Context") (Value.str "Context" 633) (Value.ref 326)] 14) #[]
noncomputable def oc_513 (P : Params) : Obj := Obj.mk Value.none none (Data.fields #[Value.int 1 0, Value.int 0 0, Value.ref 20, Value.int 5 0, Value.int 0 0, Value.ref 27, Value.int 118 0, Value.int 0 0, Value.ref 166, Value.int 136 0, Value.int 0 0, Value.ref 210, Value.int 178 0, Value.int 0 0, Value.ref 280]) #[]
noncomputable def t5 (P : Params) : BT := .node (boot_o_0 P) (.node (boot_o_1 P) (.node (oc_512 P) (.node (boot_o_7 P) (.node (ob_15 P) (.node (ob_31 P) (.node (ob_63 P) (.node (ob_127 P) (.node (ob_255 P) .nil .nil) .nil) (.node (ob_191 P) (.node (ob_319 P) .nil .nil) .nil)) (.node (ob_95 P) (.node (ob_159 P) (.node (ob_287 P) .nil .nil) .nil) (.node (ob_223 P) .nil .nil))) (.node (ob_47 P) (.node (ob_79 P) (.node (ob_143 P) (.node (ob_271 P) .nil .nil) .nil) (.node (ob_207 P) .nil .nil)) (.node (ob_111 P) (.node (ob_175 P) (.node (ob_303 P) .nil .nil) .nil) (.node (ob_239 P) .nil .nil)))) (.node (ob_23 P) (.node (ob_39 P) (.node (ob_71 P) (.node (ob_135 P) (.node (ob_263 P) .nil .nil) .nil) (.node (ob_199 P) (.node (ob_327 P) .nil .nil) .nil)) (.node (ob_103 P) (.node (ob_167 P) (.node (ob_295 P) .nil .nil) .nil) (.node (ob_231 P) .nil .nil))) (.node (ob_55 P) (.node (ob_87 P) (.node (ob_151 P) (.node (ob_279 P) .nil .nil) .nil) (.node (ob_215 P) .nil .nil)) (.node (ob_119 P) (.node (ob_183 P) (.node (ob_311 P) .nil .nil) .nil) (.node (ob_247 P) .nil .nil))))) (.node (ob_11 P) (.node (ob_19 P) (.node (ob_35 P) (.node (ob_67 P) (.node (ob_131 P) (.node (ob_259 P) .nil .nil) .nil) (.node (ob_195 P) (.node (ob_323 P) .nil .nil) .nil)) (.node (ob_99 P) (.node (ob_163 P) (.node (ob_291 P) .nil .nil) .nil) (.node (ob_227 P) .nil .nil))) (.node (ob_51 P) (.node (ob_83 P) (.node (ob_147 P) (.node (ob_275 P) .nil .nil) .nil) (.node (ob_211 P) .nil .nil)) (.node (ob_115 P) (.node (ob_179 P) (.node (ob_307 P) .nil .nil) .nil) (.node (ob_243 P) .nil .nil)))) (.node (ob_27 P) (.node (ob_43 P) (.node (ob_75 P) (.node (ob_139 P) (.node (ob_267 P) .nil .nil) .nil) (.node (ob_203 P) .nil .nil)) (.node (ob_107 P) (.node (ob_171 P) (.node (ob_299 P) .nil .nil) .nil) (.node (ob_235 P) .nil .nil))) (.node (ob_59 P) (.node (ob_91 P) (.node (ob_155 P) (.node (ob_283 P) .nil .nil) .nil) (.node (ob_219 P) .nil .nil)) (.node (ob_123 P) (.node (ob_187 P) (.node (ob_315 P) .nil .nil) .nil) (.node (ob_251 P) .nil .nil)))))) (.node (boot_o_5 P) (.node (boot_o_9 P) (.node (ob_17 P) (.node (ob_33 P) (.node (ob_65 P) (.node (ob_129 P) (.node (ob_257 P) .nil .nil) .nil) (.node (ob_193 P) (.node (ob_321 P) .nil .nil) .nil)) (.node (ob_97 P) (.node (ob_161 P) (.node (ob_289 P) .nil .nil) .nil) (.node (ob_225 P) .nil .nil))) (.node (ob_49 P) (.node (ob_81 P) (.node (ob_145 P) (.node (ob_273 P) .nil .nil) .nil) (.node (ob_209 P) .nil .nil)) (.node (ob_113 P) (.node (ob_177 P) (.node (ob_305 P) .nil .nil) .nil) (.node (ob_241 P) .nil .nil)))) (.node (ob_25 P) (.node (ob_41 P) (.node (ob_73 P) (.node (ob_137 P) (.node (ob_265 P) .nil .nil) .nil) (.node (ob_201 P) (.node (ob_329 P) .nil .nil) .nil)) (.node (ob_105 P) (.node (ob_169 P) (.node (ob_297 P) .nil .nil) .nil) (.node (ob_233 P) .nil .nil))) (.node (ob_57 P) (.node (ob_89 P) (.node (ob_153 P) (.node (ob_281 P) .nil .nil) .nil) (.node (ob_217 P) .nil .nil)) (.node (ob_121 P) (.node (ob_185 P) (.node (ob_313 P) .nil .nil) .nil) (.node (ob_249 P) .nil .nil))))) (.node (ob_13 P) (.node (ob_21 P) (.node (ob_37 P) (.node (ob_69 P) (.node (ob_133 P) (.node (ob_261 P) .nil .nil) .nil) (.node (ob_197 P) (.node (ob_325 P) .nil .nil) .nil)) (.node (ob_101 P) (.node (ob_165 P) (.node (ob_293 P) .nil .nil) .nil) (.node (ob_229 P) .nil .nil))) (.node (ob_53 P) (.node (ob_85 P) (.node (ob_149 P) (.node (ob_277 P) .nil .nil) .nil) (.node (ob_213 P) .nil .nil)) (.node (ob_117 P) (.node (ob_181 P) (.node (ob_309 P) .nil .nil) .nil) (.node (ob_245 P) .nil .nil)))) (.node (ob_29 P) (.node (ob_45 P) (.node (ob_77 P) (.node (ob_141 P) (.node (ob_269 P) .nil .nil) .nil) (.node (ob_205 P) .nil .nil)) (.node (ob_109 P) (.node (ob_173 P) (.node (ob_301 P) .nil .nil) .nil) (.node (ob_237 P) .nil .nil))) (.node (ob_61 P) (.node (ob_93 P) (.node (ob_157 P) (.node (ob_285 P) .nil .nil) .nil) (.node (ob_221 P) .nil .nil)) (.node (ob_125 P) (.node (ob_189 P) (.node (ob_317 P) .nil .nil) .nil) (.node (ob_253 P) .nil .nil))))))) (.node (boot_o_2 P) (.node (boot_o_4 P) (.node (boot_o_8 P) (.node (ob_16 P) (.node (ob_32 P) (.node (ob_64 P) (.node (ob_128 P) (.node (ob_256 P) .nil .nil) .nil) (.node (ob_192 P) (.node (ob_320 P) .nil .nil) .nil)) (.node (ob_96 P) (.node (ob_160 P) (.node (ob_288 P) .nil .nil) .nil) (.node (ob_224 P) .nil .nil))) (.node (ob_48 P) (.node (ob_80 P) (.node (ob_144 P) (.node (ob_272 P) .nil .nil) .nil) (.node (ob_208 P) .nil .nil)) (.node (ob_112 P) (.node (ob_176 P) (.node (ob_304 P) .nil .nil) .nil) (.node (ob_240 P) .nil .nil)))) (.node (ob_24 P) (.node (ob_40 P) (.node (ob_72 P) (.node (ob_136 P) (.node (ob_264 P) .nil .nil) .nil) (.node (ob_200 P) (.node (ob_328 P) .nil .nil) .nil)) (.node (ob_104 P) (.node (ob_168 P) (.node (ob_296 P) .nil .nil) .nil) (.node (ob_232 P) .nil .nil))) (.node (ob_56 P) (.node (ob_88 P) (.node (ob_152 P) (.node (ob_280 P) .nil .nil) .nil) (.node (ob_216 P) .nil .nil)) (.node (ob_120 P) (.node (ob_184 P) (.node (ob_312 P) .nil .nil) .nil) (.node (ob_248 P) .nil .nil))))) (.node (oc_513 P) (.node (ob_20 P) (.node (ob_36 P) (.node (ob_68 P) (.node (ob_132 P) (.node (ob_260 P) .nil .nil) .nil) (.node (ob_196 P) (.node (ob_324 P) .nil .nil) .nil)) (.node (ob_100 P) (.node (ob_164 P) (.node (ob_292 P) .nil .nil) .nil) (.node (ob_228 P) .nil .nil))) (.node (ob_52 P) (.node (ob_84 P) (.node (ob_148 P) (.node (ob_276 P) .nil .nil) .nil) (.node (ob_212 P) .nil .nil)) (.node (ob_116 P) (.node (ob_180 P) (.node (ob_308 P) .nil .nil) .nil) (.node (ob_244 P) .nil .nil)))) (.node (ob_28 P) (.node (ob_44 P) (.node (ob_76 P) (.node (ob_140 P) (.node (ob_268 P) .nil .nil) .nil) (.node (ob_204 P) .nil .nil)) (.node (ob_108 P) (.node (ob_172 P) (.node (ob_300 P) .nil .nil) .nil) (.node (ob_236 P) .nil .nil))) (.node (ob_60 P) (.node (ob_92 P) (.node (ob_156 P) (.node (ob_284 P) .nil .nil) .nil) (.node (ob_220 P) .nil .nil)) (.node (ob_124 P) (.node (ob_188 P) (.node (ob_316 P) .nil .nil) .nil) (.node (ob_252 P) .nil .nil)))))) (.node (boot_o_6 P) (.node (boot_o_10 P) (.node (ob_18 P) (.node (ob_34 P) (.node (ob_66 P) (.node (ob_130 P) (.node (ob_258 P) .nil .nil) .nil) (.node (ob_194 P) (.node (ob_322 P) .nil .nil) .nil)) (.node (ob_98 P) (.node (ob_162 P) (.node (ob_290 P) .nil .nil) .nil) (.node (ob_226 P) .nil .nil))) (.node (ob_50 P) (.node (ob_82 P) (.node (ob_146 P) (.node (ob_274 P) .nil .nil) .nil) (.node (ob_210 P) .nil .nil)) (.node (ob_114 P) (.node (ob_178 P) (.node (ob_306 P) .nil .nil) .nil) (.node (ob_242 P) .nil .nil)))) (.node (ob_26 P) (.node (ob_42 P) (.node (ob_74 P) (.node (ob_138 P) (.node (ob_266 P) .nil .nil) .nil) (.node (ob_202 P) (.node (ob_330 P) .nil .nil) .nil)) (.node (ob_106 P) (.node (ob_170 P) (.node (ob_298 P) .nil .nil) .nil) (.node (ob_234 P) .nil .nil))) (.node (ob_58 P) (.node (ob_90 P) (.node (ob_154 P) (.node (ob_282 P) .nil .nil) .nil) (.node (ob_218 P) .nil .nil)) (.node (ob_122 P) (.node (ob_186 P) (.node (ob_314 P) .nil .nil) .nil) (.node (ob_250 P) .nil .nil))))) (.node (ob_14 P) (.node (ob_22 P) (.node (ob_38 P) (.node (ob_70 P) (.node (ob_134 P) (.node (ob_262 P) .nil .nil) .nil) (.node (ob_198 P) (.node (ob_326 P) .nil .nil) .nil)) (.node (ob_102 P) (.node (ob_166 P) (.node (ob_294 P) .nil .nil) .nil) (.node (ob_230 P) .nil .nil))) (.node (ob_54 P) (.node (ob_86 P) (.node (ob_150 P) (.node (ob_278 P) .nil .nil) .nil) (.node (ob_214 P) .nil .nil)) (.node (ob_118 P) (.node (ob_182 P) (.node (ob_310 P) .nil .nil) .nil) (.node (ob_246 P) .nil .nil)))) (.node (ob_30 P) (.node (ob_46 P) (.node (ob_78 P) (.node (ob_142 P) (.node (ob_270 P) .nil .nil) .nil) (.node (ob_206 P) .nil .nil)) (.node (ob_110 P) (.node (ob_174 P) (.node (ob_302 P) .nil .nil) .nil) (.node (ob_238 P) .nil .nil))) (.node (ob_62 P) (.node (ob_94 P) (.node (ob_158 P) (.node (ob_286 P) .nil .nil) .nil) (.node (ob_222 P) .nil .nil)) (.node (ob_126 P) (.node (ob_190 P) (.node (ob_318 P) .nil .nil) .nil) (.node (ob_254 P) .nil .nil)))))))
noncomputable def t6 (P : Params) : BT := .node (boot_o_0 P) (.node (boot_o_1 P) (.node (ob_3 P) (.node (boot_o_7 P) (.node (ob_15 P) (.node (ob_31 P) (.node (ob_63 P) (.node (ob_127 P) (.node (ob_255 P) .nil .nil) .nil) (.node (ob_191 P) (.node (ob_319 P) .nil .nil) .nil)) (.node (ob_95 P) (.node (ob_159 P) (.node (ob_287 P) .nil .nil) .nil) (.node (ob_223 P) (.node (ob_351 P) .nil .nil) .nil))) (.node (ob_47 P) (.node (ob_79 P) (.node (ob_143 P) (.node (ob_271 P) .nil .nil) .nil) (.node (ob_207 P) (.node (ob_335 P) .nil .nil) .nil)) (.node (ob_111 P) (.node (ob_175 P) (.node (ob_303 P) .nil .nil) .nil) (.node (ob_239 P) .nil .nil)))) (.node (ob_23 P) (.node (ob_39 P) (.node (ob_71 P) (.node (ob_135 P) (.node (ob_263 P) .nil .nil) .nil) (.node (ob_199 P) (.node (ob_327 P) .nil .nil) .nil)) (.node (ob_103 P) (.node (ob_167 P) (.node (ob_295 P) .nil .nil) .nil) (.node (ob_231 P) .nil .nil))) (.node (ob_55 P) (.node (ob_87 P) (.node (ob_151 P) (.node (ob_279 P) .nil .nil) .nil) (.node (ob_215 P) (.node (ob_343 P) .nil .nil) .nil)) (.node (ob_119 P) (.node (ob_183 P) (.node (ob_311 P) .nil .nil) .nil) (.node (ob_247 P) .nil .nil))))) (.node (ob_11 P) (.node (ob_19 P) (.node (ob_35 P) (.node (ob_67 P) (.node (ob_131 P) (.node (ob_259 P) .nil .nil) .nil) (.node (ob_195 P) (.node (ob_323 P) .nil .nil) .nil)) (.node (ob_99 P) (.node (ob_163 P) (.node (ob_291 P) .nil .nil) .nil) (.node (ob_227 P) .nil .nil))) (.node (ob_51 P) (.node (ob_83 P) (.node (ob_147 P) (.node (ob_275 P) .nil .nil) .nil) (.node (ob_211 P) (.node (ob_339 P) .nil .nil) .nil)) (.node (ob_115 P) (.node (ob_179 P) (.node (ob_307 P) .nil .nil) .nil) (.node (ob_243 P) .nil .nil)))) (.node (ob_27 P) (.node (ob_43 P) (.node (ob_75 P) (.node (ob_139 P) (.node (ob_267 P) .nil .nil) .nil) (.node (ob_203 P) (.node (ob_331 P) .nil .nil) .nil)) (.node (ob_107 P) (.node (ob_171 P) (.node (ob_299 P) .nil .nil) .nil) (.node (ob_235 P) .nil .nil))) (.node (ob_59 P) (.node (ob_91 P) (.node (ob_155 P) (.node (ob_283 P) .nil .nil) .nil) (.node (ob_219 P) (.node (ob_347 P) .nil .nil) .nil)) (.node (ob_123 P) (.node (ob_187 P) (.node (ob_315 P) .nil .nil) .nil) (.node (ob_251 P) .nil .nil)))))) (.node (boot_o_5 P) (.node (boot_o_9 P) (.node (ob_17 P) (.node (ob_33 P) (.node (ob_65 P) (.node (ob_129 P) (.node (ob_257 P) .nil .nil) .nil) (.node (ob_193 P) (.node (ob_321 P) .nil .nil) .nil)) (.node (ob_97 P) (.node (ob_161 P) (.node (ob_289 P) .nil .nil) .nil) (.node (ob_225 P) (.node (ob_353 P) .nil .nil) .nil))) (.node (ob_49 P) (.node (ob_81 P) (.node (ob_145 P) (.node (ob_273 P) .nil .nil) .nil) (.node (ob_209 P) (.node (ob_337 P) .nil .nil) .nil)) (.node (ob_113 P) (.node (ob_177 P) (.node (ob_305 P) .nil .nil) .nil) (.node (ob_241 P) .nil .nil)))) (.node (ob_25 P) (.node (ob_41 P) (.node (ob_73 P) (.node (ob_137 P) (.node (ob_265 P) .nil .nil) .nil) (.node (ob_201 P) (.node (ob_329 P) .nil .nil) .nil)) (.node (ob_105 P) (.node (ob_169 P) (.node (ob_297 P) .nil .nil) .nil) (.node (ob_233 P) .nil .nil))) (.node (ob_57 P) (.node (ob_89 P) (.node (ob_153 P) (.node (ob_281 P) .nil .nil) .nil) (.node (ob_217 P) (.node (ob_345 P) .nil .nil) .nil)) (.node (ob_121 P) (.node (ob_185 P) (.node (ob_313 P) .nil .nil) .nil) (.node (ob_249 P) .nil .nil))))) (.node (ob_13 P) (.node (ob_21 P) (.node (ob_37 P) (.node (ob_69 P) (.node (ob_133 P) (.node (ob_261 P) .nil .nil) .nil) (.node (ob_197 P) (.node (ob_325 P) .nil .nil) .nil)) (.node (ob_101 P) (.node (ob_165 P) (.node (ob_293 P) .nil .nil) .nil) (.node (ob_229 P) .nil .nil))) (.node (ob_53 P) (.node (ob_85 P) (.node (ob_149 P) (.node (ob_277 P) .nil .nil) .nil) (.node (ob_213 P) (.node (ob_341 P) .nil .nil) .nil)) (.node (ob_117 P) (.node (ob_181 P) (.node (ob_309 P) .nil .nil) .nil) (.node (ob_245 P) .nil .nil)))) (.node (ob_29 P) (.node (ob_45 P) (.node (ob_77 P) (.node (ob_141 P) (.node (ob_269 P) .nil .nil) .nil) (.node (ob_205 P) (.node (ob_333 P) .nil .nil) .nil)) (.node (ob_109 P) (.node (ob_173 P) (.node (ob_301 P) .nil .nil) .nil) (.node (ob_237 P) .nil .nil))) (.node (ob_61 P) (.node (ob_93 P) (.node (ob_157 P) (.node (ob_285 P) .nil .nil) .nil) (.node (ob_221 P) (.node (ob_349 P) .nil .nil) .nil)) (.node (ob_125 P) (.node (ob_189 P) (.node (ob_317 P) .nil .nil) .nil) (.node (ob_253 P) .nil .nil))))))) (.node (boot_o_2 P) (.node (boot_o_4 P) (.node (boot_o_8 P) (.node (ob_16 P) (.node (ob_32 P) (.node (ob_64 P) (.node (ob_128 P) (.node (ob_256 P) .nil .nil) .nil) (.node (ob_192 P) (.node (ob_320 P) .nil .nil) .nil)) (.node (ob_96 P) (.node (ob_160 P) (.node (ob_288 P) .nil .nil) .nil) (.node (ob_224 P) (.node (ob_352 P) .nil .nil) .nil))) (.node (ob_48 P) (.node (ob_80 P) (.node (ob_144 P) (.node (ob_272 P) .nil .nil) .nil) (.node (ob_208 P) (.node (ob_336 P) .nil .nil) .nil)) (.node (ob_112 P) (.node (ob_176 P) (.node (ob_304 P) .nil .nil) .nil) (.node (ob_240 P) .nil .nil)))) (.node (ob_24 P) (.node (ob_40 P) (.node (ob_72 P) (.node (ob_136 P) (.node (ob_264 P) .nil .nil) .nil) (.node (ob_200 P) (.node (ob_328 P) .nil .nil) .nil)) (.node (ob_104 P) (.node (ob_168 P) (.node (ob_296 P) .nil .nil) .nil) (.node (ob_232 P) .nil .nil))) (.node (ob_56 P) (.node (ob_88 P) (.node (ob_152 P) (.node (ob_280 P) .nil .nil) .nil) (.node (ob_216 P) (.node (ob_344 P) .nil .nil) .nil)) (.node (ob_120 P) (.node (ob_184 P) (.node (ob_312 P) .nil .nil) .nil) (.node (ob_248 P) .nil .nil))))) (.node (ob_12 P) (.node (ob_20 P) (.node (ob_36 P) (.node (ob_68 P) (.node (ob_132 P) (.node (ob_260 P) .nil .nil) .nil) (.node (ob_196 P) (.node (ob_324 P) .nil .nil) .nil)) (.node (ob_100 P) (.node (ob_164 P) (.node (ob_292 P) .nil .nil) .nil) (.node (ob_228 P) .nil .nil))) (.node (ob_52 P) (.node (ob_84 P) (.node (ob_148 P) (.node (ob_276 P) .nil .nil) .nil) (.node (ob_212 P) (.node (ob_340 P) .nil .nil) .nil)) (.node (ob_116 P) (.node (ob_180 P) (.node (ob_308 P) .nil .nil) .nil) (.node (ob_244 P) .nil .nil)))) (.node (ob_28 P) (.node (ob_44 P) (.node (ob_76 P) (.node (ob_140 P) (.node (ob_268 P) .nil .nil) .nil) (.node (ob_204 P) (.node (ob_332 P) .nil .nil) .nil)) (.node (ob_108 P) (.node (ob_172 P) (.node (ob_300 P) .nil .nil) .nil) (.node (ob_236 P) .nil .nil))) (.node (ob_60 P) (.node (ob_92 P) (.node (ob_156 P) (.node (ob_284 P) .nil .nil) .nil) (.node (ob_220 P) (.node (ob_348 P) .nil .nil) .nil)) (.node (ob_124 P) (.node (ob_188 P) (.node (ob_316 P) .nil .nil) .nil) (.node (ob_252 P) .nil .nil)))))) (.node (boot_o_6 P) (.node (boot_o_10 P) (.node (ob_18 P) (.node (ob_34 P) (.node (ob_66 P) (.node (ob_130 P) (.node (ob_258 P) .nil .nil) .nil) (.node (ob_194 P) (.node (ob_322 P) .nil .nil) .nil)) (.node (ob_98 P) (.node (ob_162 P) (.node (ob_290 P) .nil .nil) .nil) (.node (ob_226 P) (.node (ob_354 P) .nil .nil) .nil))) (.node (ob_50 P) (.node (ob_82 P) (.node (ob_146 P) (.node (ob_274 P) .nil .nil) .nil) (.node (ob_210 P) (.node (ob_338 P) .nil .nil) .nil)) (.node (ob_114 P) (.node (ob_178 P) (.node (ob_306 P) .nil .nil) .nil) (.node (ob_242 P) .nil .nil)))) (.node (ob_26 P) (.node (ob_42 P) (.node (ob_74 P) (.node (ob_138 P) (.node (ob_266 P) .nil .nil) .nil) (.node (ob_202 P) (.node (ob_330 P) .nil .nil) .nil)) (.node (ob_106 P) (.node (ob_170 P) (.node (ob_298 P) .nil .nil) .nil) (.node (ob_234 P) .nil .nil))) (.node (ob_58 P) (.node (ob_90 P) (.node (ob_154 P) (.node (ob_282 P) .nil .nil) .nil) (.node (ob_218 P) (.node (ob_346 P) .nil .nil) .nil)) (.node (ob_122 P) (.node (ob_186 P) (.node (ob_314 P) .nil .nil) .nil) (.node (ob_250 P) .nil .nil))))) (.node (ob_14 P) (.node (ob_22 P) (.node (ob_38 P) (.node (ob_70 P) (.node (ob_134 P) (.node (ob_262 P) .nil .nil) .nil) (.node (ob_198 P) (.node (ob_326 P) .nil .nil) .nil)) (.node (ob_102 P) (.node (ob_166 P) (.node (ob_294 P) .nil .nil) .nil) (.node (ob_230 P) .nil .nil))) (.node (ob_54 P) (.node (ob_86 P) (.node (ob_150 P) (.node (ob_278 P) .nil .nil) .nil) (.node (ob_214 P) (.node (ob_342 P) .nil .nil) .nil)) (.node (ob_118 P) (.node (ob_182 P) (.node (ob_310 P) .nil .nil) .nil) (.node (ob_246 P) .nil .nil)))) (.node (ob_30 P) (.node (ob_46 P) (.node (ob_78 P) (.node (ob_142 P) (.node (ob_270 P) .nil .nil) .nil) (.node (ob_206 P) (.node (ob_334 P) .nil .nil) .nil)) (.node (ob_110 P) (.node (ob_174 P) (.node (ob_302 P) .nil .nil) .nil) (.node (ob_238 P) .nil .nil))) (.node (ob_62 P) (.node (ob_94 P) (.node (ob_158 P) (.node (ob_286 P) .nil .nil) .nil) (.node (ob_222 P) (.node (ob_350 P) .nil .nil) .nil)) (.node (ob_126 P) (.node (ob_190 P) (.node (ob_318 P) .nil .nil) .nil) (.node (ob_254 P) .nil .nil)))))))
noncomputable def H0 (P : Params) : Heap := Heap.mk (Array.mk [(boot_o_0 P), (boot_o_1 P), (boot_o_2 P), (boot_o_3 P), (boot_o_4 P), (boot_o_5 P), (boot_o_6 P), (boot_o_7 P), (boot_o_8 P), (boot_o_9 P), (boot_o_10 P), (ob_11 P), (oc_44 P), (ob_13 P), (ob_14 P)]) (Life.mk [] [] [] 0 [] [] false #[] [] 0 false false false 0 [2000, 10, 10] false 0 true [] [] 0 false)
noncomputable def H1 (P : Params) : Heap := Heap.mk (Array.mk (boot_o_0 P :: boot_o_1 P :: boot_o_2 P :: ob_3 P :: boot_o_4 P :: boot_o_5 P :: boot_o_6 P :: boot_o_7 P :: boot_o_8 P :: boot_o_9 P :: boot_o_10 P :: ob_11 P :: ob_12 P :: ob_13 P :: ob_14 P :: ob_15 P :: ob_16 P :: ob_17 P :: ob_18 P :: ob_19 P :: ob_20 P :: ob_21 P :: ob_22 P :: ob_23 P :: ob_24 P :: ob_25 P :: ob_26 P :: ob_27 P :: ob_28 P :: ob_29 P :: ob_30 P :: ob_31 P :: ob_32 P :: ob_33 P :: ob_34 P :: ob_35 P :: ob_36 P :: ob_37 P :: ob_38 P :: ob_39 P :: ob_40 P :: ob_41 P :: ob_42 P :: ob_43 P :: ob_44 P :: ob_45 P :: ob_46 P :: ob_47 P :: ob_48 P :: ob_49 P :: ob_50 P :: ob_51 P :: ob_52 P :: ob_53 P :: ob_54 P :: ob_55 P :: ob_56 P :: ob_57 P :: ob_58 P :: ob_59 P :: ob_60 P :: ob_61 P :: ob_62 P :: ob_63 P :: ob_64 P :: ob_65 P :: ob_66 P :: ob_67 P :: ob_68 P :: ob_69 P :: ob_70 P :: ob_71 P :: ob_72 P :: ob_73 P :: ob_74 P :: ob_75 P :: ob_76 P :: ob_77 P :: ob_78 P :: ob_79 P :: ob_80 P :: ob_81 P :: ob_82 P :: ob_83 P :: ob_84 P :: ob_85 P :: ob_86 P :: ob_87 P :: ob_88 P :: ob_89 P :: ob_90 P :: ob_91 P :: ob_92 P :: ob_93 P :: ob_94 P :: ob_95 P :: ob_96 P :: ob_97 P :: ob_98 P :: ob_99 P :: ob_100 P :: ob_101 P :: ob_102 P :: ob_103 P :: ob_104 P :: ob_105 P :: ob_106 P :: ob_107 P :: ob_108 P :: ob_109 P :: ob_110 P :: ob_111 P :: ob_112 P :: ob_113 P :: ob_114 P :: ob_115 P :: ob_116 P :: ob_117 P :: ob_118 P :: ob_119 P :: ob_120 P :: ob_121 P :: ob_122 P :: ob_123 P :: ob_124 P :: ob_125 P :: ob_126 P :: ob_127 P :: ob_128 P :: ob_129 P :: ob_130 P :: ob_131 P :: ob_132 P :: ob_133 P :: ob_134 P :: ob_135 P :: ob_136 P :: ob_137 P :: ob_138 P :: ob_139 P :: ob_140 P :: ob_141 P :: ob_142 P :: ob_143 P :: ob_144 P :: ob_145 P :: ob_146 P :: ob_147 P :: ob_148 P :: ob_149 P :: ob_150 P :: ob_151 P :: ob_152 P :: ob_153 P :: ob_154 P :: ob_155 P :: ob_156 P :: ob_157 P :: ob_158 P :: ob_159 P :: ob_160 P :: ob_161 P :: ob_162 P :: ob_163 P :: ob_164 P :: ob_165 P :: ob_166 P :: ob_167 P :: ob_168 P :: ob_169 P :: ob_170 P :: ob_171 P :: ob_172 P :: ob_173 P :: ob_174 P :: ob_175 P :: ob_176 P :: ob_177 P :: ob_178 P :: ob_179 P :: ob_180 P :: ob_181 P :: ob_182 P :: ob_183 P :: ob_184 P :: ob_185 P :: ob_186 P :: ob_187 P :: ob_188 P :: ob_189 P :: ob_190 P :: ob_191 P :: ob_192 P :: ob_193 P :: ob_194 P :: ob_195 P :: ob_196 P :: ob_197 P :: ob_198 P :: ob_199 P :: ob_200 P :: ob_201 P :: ob_202 P :: ob_203 P :: ob_204 P :: ob_205 P :: ob_206 P :: ob_207 P :: ob_208 P :: ob_209 P :: ob_210 P :: ob_211 P :: ob_212 P :: ob_213 P :: ob_214 P :: ob_215 P :: ob_216 P :: ob_217 P :: ob_218 P :: ob_219 P :: ob_220 P :: ob_221 P :: ob_222 P :: ob_223 P :: ob_224 P :: ob_225 P :: ob_226 P :: ob_227 P :: ob_228 P :: ob_229 P :: ob_230 P :: ob_231 P :: ob_232 P :: ob_233 P :: ob_234 P :: ob_235 P :: ob_236 P :: ob_237 P :: ob_238 P :: ob_239 P :: ob_240 P :: ob_241 P :: ob_242 P :: ob_243 P :: ob_244 P :: ob_245 P :: ob_246 P :: ob_247 P :: ob_248 P :: ob_249 P :: ob_250 P :: ob_251 P :: ob_252 P :: ob_253 P :: ob_254 P :: ob_255 P :: ob_256 P :: ob_257 P :: ob_258 P :: ob_259 P :: ob_260 P :: ob_261 P :: ob_262 P :: ob_263 P :: ob_264 P :: ob_265 P :: ob_266 P :: ob_267 P :: ob_268 P :: ob_269 P :: ob_270 P :: ob_271 P :: ob_272 P :: ob_273 P :: ob_274 P :: ob_275 P :: ob_276 P :: ob_277 P :: ob_278 P :: ob_279 P :: ob_280 P :: ob_281 P :: ob_282 P :: ob_283 P :: ob_284 P :: ob_285 P :: ob_286 P :: ob_287 P :: ob_288 P :: ob_289 P :: ob_290 P :: ob_291 P :: ob_292 P :: ob_293 P :: ob_294 P :: ob_295 P :: ob_296 P :: ob_297 P :: ob_298 P :: ob_299 P :: ob_300 P :: ob_301 P :: ob_302 P :: ob_303 P :: ob_304 P :: ob_305 P :: ob_306 P :: ob_307 P :: ob_308 P :: ob_309 P :: ob_310 P :: ob_311 P :: ob_312 P :: ob_313 P :: ob_314 P :: ob_315 P :: ob_316 P :: ob_317 P :: ob_318 P :: ob_319 P :: ob_320 P :: ob_321 P :: ob_322 P :: ob_323 P :: ob_324 P :: ob_325 P :: ob_326 P :: ob_327 P :: ob_328 P :: ob_329 P :: ob_330 P :: ob_331 P :: ob_332 P :: ob_333 P :: ob_334 P :: ob_335 P :: ob_336 P :: ob_337 P :: ob_338 P :: ob_339 P :: ob_340 P :: ob_341 P :: ob_342 P :: ob_343 P :: ob_344 P :: ob_345 P :: ob_346 P :: ob_347 P :: ob_348 P :: ob_349 P :: ob_350 P :: ob_351 P :: ob_352 P :: ob_353 P :: ob_354 P :: [])) {}
noncomputable def K (P : Params) : Frag := (nat_lit 2, boot_o_2 P) :: (nat_lit 3, ob_3 P) :: (nat_lit 15, ob_15 P) :: (nat_lit 17, ob_17 P) :: (nat_lit 18, ob_18 P) :: (nat_lit 20, ob_20 P) :: (nat_lit 21, ob_21 P) :: (nat_lit 29, ob_29 P) :: (nat_lit 31, ob_31 P) :: (nat_lit 32, ob_32 P) :: (nat_lit 34, ob_34 P) :: (nat_lit 35, ob_35 P) :: (nat_lit 36, ob_36 P) :: (nat_lit 37, ob_37 P) :: (nat_lit 38, ob_38 P) :: (nat_lit 39, ob_39 P) :: (nat_lit 41, ob_41 P) :: (nat_lit 42, ob_42 P) :: (nat_lit 44, ob_44 P) :: (nat_lit 45, ob_45 P) :: (nat_lit 46, ob_46 P) :: (nat_lit 47, ob_47 P) :: (nat_lit 49, ob_49 P) :: (nat_lit 50, ob_50 P) :: (nat_lit 52, ob_52 P) :: (nat_lit 53, ob_53 P) :: (nat_lit 54, ob_54 P) :: (nat_lit 55, ob_55 P) :: (nat_lit 57, ob_57 P) :: (nat_lit 58, ob_58 P) :: (nat_lit 60, ob_60 P) :: (nat_lit 61, ob_61 P) :: (nat_lit 62, ob_62 P) :: (nat_lit 63, ob_63 P) :: (nat_lit 65, ob_65 P) :: (nat_lit 66, ob_66 P) :: (nat_lit 68, ob_68 P) :: (nat_lit 69, ob_69 P) :: (nat_lit 70, ob_70 P) :: (nat_lit 71, ob_71 P) :: (nat_lit 73, ob_73 P) :: (nat_lit 74, ob_74 P) :: (nat_lit 76, ob_76 P) :: (nat_lit 77, ob_77 P) :: (nat_lit 78, ob_78 P) :: (nat_lit 79, ob_79 P) :: (nat_lit 81, ob_81 P) :: (nat_lit 82, ob_82 P) :: (nat_lit 84, ob_84 P) :: (nat_lit 85, ob_85 P) :: (nat_lit 86, ob_86 P) :: (nat_lit 87, ob_87 P) :: (nat_lit 89, ob_89 P) :: (nat_lit 90, ob_90 P) :: (nat_lit 92, ob_92 P) :: (nat_lit 93, ob_93 P) :: (nat_lit 94, ob_94 P) :: (nat_lit 95, ob_95 P) :: (nat_lit 97, ob_97 P) :: (nat_lit 98, ob_98 P) :: (nat_lit 100, ob_100 P) :: (nat_lit 101, ob_101 P) :: (nat_lit 102, ob_102 P) :: (nat_lit 103, ob_103 P) :: (nat_lit 105, ob_105 P) :: (nat_lit 106, ob_106 P) :: (nat_lit 108, ob_108 P) :: (nat_lit 109, ob_109 P) :: (nat_lit 110, ob_110 P) :: (nat_lit 111, ob_111 P) :: (nat_lit 112, ob_112 P) :: (nat_lit 114, ob_114 P) :: (nat_lit 115, ob_115 P) :: (nat_lit 117, ob_117 P) :: (nat_lit 118, ob_118 P) :: (nat_lit 119, ob_119 P) :: (nat_lit 121, ob_121 P) :: (nat_lit 122, ob_122 P) :: (nat_lit 124, ob_124 P) :: (nat_lit 125, ob_125 P) :: (nat_lit 126, ob_126 P) :: (nat_lit 128, ob_128 P) :: (nat_lit 129, ob_129 P) :: (nat_lit 131, ob_131 P) :: (nat_lit 132, ob_132 P) :: (nat_lit 133, ob_133 P) :: (nat_lit 135, ob_135 P) :: (nat_lit 136, ob_136 P) :: (nat_lit 138, ob_138 P) :: (nat_lit 139, ob_139 P) :: (nat_lit 140, ob_140 P) :: (nat_lit 142, ob_142 P) :: (nat_lit 143, ob_143 P) :: (nat_lit 145, ob_145 P) :: (nat_lit 146, ob_146 P) :: (nat_lit 147, ob_147 P) :: (nat_lit 149, ob_149 P) :: (nat_lit 150, ob_150 P) :: (nat_lit 152, ob_152 P) :: (nat_lit 153, ob_153 P) :: (nat_lit 154, ob_154 P) :: (nat_lit 155, ob_155 P) :: (nat_lit 156, ob_156 P) :: (nat_lit 157, ob_157 P) :: (nat_lit 158, ob_158 P) :: (nat_lit 168, ob_168 P) :: (nat_lit 170, ob_170 P) :: (nat_lit 171, ob_171 P) :: (nat_lit 173, ob_173 P) :: (nat_lit 174, ob_174 P) :: (nat_lit 175, ob_175 P) :: (nat_lit 176, ob_176 P) :: (nat_lit 178, ob_178 P) :: (nat_lit 179, ob_179 P) :: (nat_lit 181, ob_181 P) :: (nat_lit 182, ob_182 P) :: (nat_lit 183, ob_183 P) :: (nat_lit 185, ob_185 P) :: (nat_lit 186, ob_186 P) :: (nat_lit 188, ob_188 P) :: (nat_lit 189, ob_189 P) :: (nat_lit 190, ob_190 P) :: (nat_lit 192, ob_192 P) :: (nat_lit 193, ob_193 P) :: (nat_lit 195, ob_195 P) :: (nat_lit 196, ob_196 P) :: (nat_lit 197, ob_197 P) :: (nat_lit 198, ob_198 P) :: (nat_lit 199, ob_199 P) :: (nat_lit 200, ob_200 P) :: (nat_lit 201, ob_201 P) :: (nat_lit 204, ob_204 P) :: (nat_lit 207, ob_207 P) :: (nat_lit 212, ob_212 P) :: (nat_lit 213, ob_213 P) :: (nat_lit 214, ob_214 P) :: (nat_lit 215, ob_215 P) :: (nat_lit 217, ob_217 P) :: (nat_lit 218, ob_218 P) :: (nat_lit 220, ob_220 P) :: (nat_lit 221, ob_221 P) :: (nat_lit 222, ob_222 P) :: (nat_lit 224, ob_224 P) :: (nat_lit 225, ob_225 P) :: (nat_lit 227, ob_227 P) :: (nat_lit 228, ob_228 P) :: (nat_lit 229, ob_229 P) :: (nat_lit 230, ob_230 P) :: (nat_lit 231, ob_231 P) :: (nat_lit 232, ob_232 P) :: (nat_lit 233, ob_233 P) :: (nat_lit 235, ob_235 P) :: (nat_lit 236, ob_236 P) :: (nat_lit 238, ob_238 P) :: (nat_lit 239, ob_239 P) :: (nat_lit 240, ob_240 P) :: (nat_lit 242, ob_242 P) :: (nat_lit 243, ob_243 P) :: (nat_lit 245, ob_245 P) :: (nat_lit 246, ob_246 P) :: (nat_lit 247, ob_247 P) :: (nat_lit 249, ob_249 P) :: (nat_lit 250, ob_250 P) :: (nat_lit 252, ob_252 P) :: (nat_lit 253, ob_253 P) :: (nat_lit 254, ob_254 P) :: (nat_lit 256, ob_256 P) :: (nat_lit 257, ob_257 P) :: (nat_lit 259, ob_259 P) :: (nat_lit 260, ob_260 P) :: (nat_lit 261, ob_261 P) :: (nat_lit 262, ob_262 P) :: (nat_lit 263, ob_263 P) :: (nat_lit 265, ob_265 P) :: (nat_lit 266, ob_266 P) :: (nat_lit 268, ob_268 P) :: (nat_lit 270, ob_270 P) :: (nat_lit 271, ob_271 P) :: (nat_lit 272, ob_272 P) :: (nat_lit 282, ob_282 P) :: (nat_lit 284, ob_284 P) :: (nat_lit 285, ob_285 P) :: (nat_lit 287, ob_287 P) :: (nat_lit 288, ob_288 P) :: (nat_lit 289, ob_289 P) :: (nat_lit 291, ob_291 P) :: (nat_lit 292, ob_292 P) :: (nat_lit 294, ob_294 P) :: (nat_lit 295, ob_295 P) :: (nat_lit 296, ob_296 P) :: (nat_lit 298, ob_298 P) :: (nat_lit 299, ob_299 P) :: (nat_lit 301, ob_301 P) :: (nat_lit 302, ob_302 P) :: (nat_lit 303, ob_303 P) :: (nat_lit 305, ob_305 P) :: (nat_lit 306, ob_306 P) :: (nat_lit 308, ob_308 P) :: (nat_lit 309, ob_309 P) :: (nat_lit 310, ob_310 P) :: (nat_lit 312, ob_312 P) :: (nat_lit 313, ob_313 P) :: (nat_lit 315, ob_315 P) :: (nat_lit 316, ob_316 P) :: (nat_lit 317, ob_317 P) :: (nat_lit 319, ob_319 P) :: (nat_lit 320, ob_320 P) :: (nat_lit 322, ob_322 P) :: (nat_lit 323, ob_323 P) :: (nat_lit 324, ob_324 P) :: (nat_lit 325, ob_325 P) :: (nat_lit 326, ob_326 P) :: (nat_lit 327, ob_327 P) :: (nat_lit 328, ob_328 P) :: (nat_lit 331, ob_331 P) :: (nat_lit 334, ob_334 P) :: (nat_lit 335, ob_335 P) :: (nat_lit 336, ob_336 P) :: (nat_lit 339, ob_339 P) :: (nat_lit 340, ob_340 P) :: (nat_lit 341, ob_341 P) :: (nat_lit 343, ob_343 P) :: (nat_lit 344, ob_344 P) :: (nat_lit 346, ob_346 P) :: (nat_lit 347, ob_347 P) :: (nat_lit 348, ob_348 P) :: (nat_lit 350, ob_350 P) :: (nat_lit 351, ob_351 P) :: (nat_lit 353, ob_353 P) :: (nat_lit 354, ob_354 P) :: []
noncomputable def ads : List Addr := 2 :: 3 :: 15 :: 17 :: 18 :: 20 :: 21 :: 29 :: 31 :: 32 :: 34 :: 35 :: 36 :: 37 :: 38 :: 39 :: 41 :: 42 :: 44 :: 45 :: 46 :: 47 :: 49 :: 50 :: 52 :: 53 :: 54 :: 55 :: 57 :: 58 :: 60 :: 61 :: 62 :: 63 :: 65 :: 66 :: 68 :: 69 :: 70 :: 71 :: 73 :: 74 :: 76 :: 77 :: 78 :: 79 :: 81 :: 82 :: 84 :: 85 :: 86 :: 87 :: 89 :: 90 :: 92 :: 93 :: 94 :: 95 :: 97 :: 98 :: 100 :: 101 :: 102 :: 103 :: 105 :: 106 :: 108 :: 109 :: 110 :: 111 :: 112 :: 114 :: 115 :: 117 :: 118 :: 119 :: 121 :: 122 :: 124 :: 125 :: 126 :: 128 :: 129 :: 131 :: 132 :: 133 :: 135 :: 136 :: 138 :: 139 :: 140 :: 142 :: 143 :: 145 :: 146 :: 147 :: 149 :: 150 :: 152 :: 153 :: 154 :: 155 :: 156 :: 157 :: 158 :: 168 :: 170 :: 171 :: 173 :: 174 :: 175 :: 176 :: 178 :: 179 :: 181 :: 182 :: 183 :: 185 :: 186 :: 188 :: 189 :: 190 :: 192 :: 193 :: 195 :: 196 :: 197 :: 198 :: 199 :: 200 :: 201 :: 204 :: 207 :: 212 :: 213 :: 214 :: 215 :: 217 :: 218 :: 220 :: 221 :: 222 :: 224 :: 225 :: 227 :: 228 :: 229 :: 230 :: 231 :: 232 :: 233 :: 235 :: 236 :: 238 :: 239 :: 240 :: 242 :: 243 :: 245 :: 246 :: 247 :: 249 :: 250 :: 252 :: 253 :: 254 :: 256 :: 257 :: 259 :: 260 :: 261 :: 262 :: 263 :: 265 :: 266 :: 268 :: 270 :: 271 :: 272 :: 282 :: 284 :: 285 :: 287 :: 288 :: 289 :: 291 :: 292 :: 294 :: 295 :: 296 :: 298 :: 299 :: 301 :: 302 :: 303 :: 305 :: 306 :: 308 :: 309 :: 310 :: 312 :: 313 :: 315 :: 316 :: 317 :: 319 :: 320 :: 322 :: 323 :: 324 :: 325 :: 326 :: 327 :: 328 :: 331 :: 334 :: 335 :: 336 :: 339 :: 340 :: 341 :: 343 :: 344 :: 346 :: 347 :: 348 :: 350 :: 351 :: 353 :: 354 :: []
noncomputable def view : Program := PySem.W.view PySem.Challenge.pw_iu0014_01 [0, 2, 4, 5, 6, 8, 9, 10, 11]
noncomputable abbrev pE : Program := PySem.Challenge.pw_iu0014_01
noncomputable def env : Env := { scope := PySem.Challenge.pw_iu0014_01.main.scope, locals := mainNs, globals := mainNs, cells := [], code := .ref 13, frame := some 14 }
noncomputable abbrev cE : Code := .body (behindTheImports pE) env
noncomputable abbrev p0 : Pos := ⟨0, 0, 0, 0⟩
noncomputable def sts (i k : Nat) : List Stmt := ((behindTheImports pE).drop i).take k
noncomputable abbrev ST (t : BT) (n k : Nat) (os : OsState) : SharedT := { tree := t, n := n, life := {}, gens := #[], drawn := {}, toks := k, os := os }
theorem fast {p : Program} {w : World} {n₀ : Nat} {ann : Option Value} {b n : Nat} {s : SharedT} {t : Thread} {r : Option (Flow × SharedT × Code × Pos)}
    (h : PySem.W.Fast.tw10110043849684766642 PySem.W.Fast.tw14364793385576792824 p w n₀ ann b n s t = r) : segRunT treeTable p w n₀ ann b n s t = r := by
  rw [PySem.W.Fast.te10110043849684766642, PySem.W.Fast.te14364793385576792824]; exact h
theorem q0 (w : World) (os : OsState) : topGo treeTable pE w 11 (some (.ref 6)) 12 ⟨boot_heap w.params, #[], boot_drawn, boot_toks, os⟩ (topStub pE) = some (⟨H0 w.params, #[], {}, 187, os⟩, ⟨denote treeTable cE, cE, p0, [topFrame p0]⟩) := by kernel_rfl
theorem qb (w : World) (os : OsState) : segRun treeTable pE w 11 (some (.ref 6)) 1 1 ⟨H0 w.params, #[], {}, 187, os⟩ (blockOf (behindTheImports pE) env cE p0 [topFrame p0]) = some (.next, (ST (t0 w.params) 15 187 os).abs, cE, p0) := by kernel_rfl
theorem q1 (w : World) (os : OsState) : segRunT treeTable pE w 11 (some (.ref 6)) 1 39 (ST (t0 w.params) 15 187 os) (piecesOf (sts 0 2) env cE p0 [topFrame p0]) = some (.next, ST (t1 w.params) 22 196 os, cE, ⟨4, 0, 4, 8⟩) := fast (by kernel_rfl)
theorem q2 (w : World) (os : OsState) : segRunT treeTable pE w 11 (some (.ref 6)) 1 1402 (ST (t1 w.params) 22 196 os) (piecesOf (sts 2 1) env cE ⟨4, 0, 4, 8⟩ [topFrame p0]) = some (.next, ST (t2 w.params) 161 384 os, cE, ⟨5, 0, 116, 16⟩) := fast (by kernel_rfl)
theorem q3 (w : World) (os : OsState) : segRunT treeTable pE w 11 (some (.ref 6)) 1 333 (ST (t2 w.params) 161 384 os) (piecesOf (sts 3 2) env cE ⟨5, 0, 116, 16⟩ [topFrame p0]) = some (.next, ST (t3 w.params) 204 443 os, cE, ⟨118, 0, 135, 54⟩) := fast (by kernel_rfl)
theorem q4 (w : World) (os : OsState) : segRunT treeTable pE w 11 (some (.ref 6)) 1 900 (ST (t3 w.params) 204 443 os) (piecesOf (sts 5 1) env cE ⟨118, 0, 135, 54⟩ [topFrame p0]) = some (.next, ST (t4 w.params) 275 558 os, cE, ⟨136, 0, 177, 51⟩) := fast (by kernel_rfl)
theorem q5 (w : World) (os : OsState) : segRunT treeTable pE w 11 (some (.ref 6)) 1 401 (ST (t4 w.params) 275 558 os) (piecesOf (sts 6 2) env cE ⟨136, 0, 177, 51⟩ [topFrame p0]) = some (.next, ST (t5 w.params) 331 636 os, cE, ⟨198, 0, 198, 8⟩) := fast (by kernel_rfl)
theorem q6 (w : World) (os : OsState) : segRunT treeTable pE w 11 (some (.ref 6)) 1 123 (ST (t5 w.params) 331 636 os) (piecesOf (sts 8 4) env cE ⟨198, 0, 198, 8⟩ [topFrame p0]) = some (.next, ST (t6 w.params) 355 674 os, cE, ⟨216, 0, 247, 15⟩) := fast (by kernel_rfl)
theorem qf (w : World) (os : OsState) : topRun treeTable pE w 11 (some (.ref 6)) 2 (ST (t6 w.params) 355 674 os).abs (restOf [] env cE ⟨216, 0, 247, 15⟩ [topFrame p0]) = some ⟨H1 w.params, #[], {}, 674, os⟩ := by kernel_rfl
theorem bodyIs (w : World) (N : Nat) (s : Shared) : topRun treeTable pE w 11 (some (.ref 6)) N s (restOf (behindTheImports pE) env cE p0 [topFrame p0]) = topRun treeTable pE w 11 (some (.ref 6)) N s (restOf (sts 0 2 ++ (sts 2 1 ++ (sts 3 2 ++ (sts 5 1 ++ (sts 6 2 ++ (sts 8 4 ++ [])))))) env cE p0 [topFrame p0]) := by kernel_rfl
theorem run (w : World) (os : OsState) : topRun treeTable pE w 11 (some (.ref 6)) (12 + (1 + (39 + (1402 + (333 + (900 + (401 + (123 + 2)))))))) ⟨boot_heap w.params, #[], boot_drawn, boot_toks, os⟩ (topStub pE) = some ⟨H1 w.params, #[], {}, 674, os⟩ :=
  go_top (q0 w os) (piece_block (qb w os) ((bodyIs w _ _).trans (piece_app (segRun_of (q1 w os)) (piece_app (segRun_of (q2 w os)) (piece_app (segRun_of (q3 w os)) (piece_app (segRun_of (q4 w os)) (piece_app (segRun_of (q5 w os)) (piece_app (segRun_of (q6 w os)) (qf w os)))))))))
theorem op1 : opening pE = plainProg pE.main.scope.names := by kernel_rfl
theorem op2 (s : Shared) : fenceModules? pE s = some s := by kernel_rfl
theorem size (w : World) : ((boot_heap w.params).isNs mainGlobals && (#[] : Array GenState).size == 0, (boot_heap w.params).objs.size, (boot_heap w.params).nsMap mainGlobals "__annotations__") = (true, 11, some (.ref 6)) := by kernel_rfl
noncomputable abbrev loose : List Str := ["QuadEdge", "_tuplegetter", "Point"]
noncomputable abbrev XT (s : Shared) : Bool := xlAt view [] s && recOk PySem.Challenge.rw_iu0014_01.row.toRowW.records s
theorem adsOk (P : Params) : ads = (K P).map (·.1) := by kernel_rfl
noncomputable abbrev HK : Hook := kHook K ads adsOk
theorem look1 (w : World) (os : OsState) : (staticsOk (importedModules pE.main.body) (boot_heap w.params) (H1 w.params) && namesBound pE (H1 w.params) && gensDone ⟨H1 w.params, #[], {}, 674, os⟩ && laidKept (boot_heap w.params) (H1 w.params)) = true := by kernel_rfl
theorem look2 (w : World) (os : OsState) : openSeen view loose (importedModules pE.main.body) XT true ⟨H1 w.params, #[], {}, 674, os⟩ = openGood view loose := by kernel_rfl
theorem look3 (w : World) (os : OsState) : HK.obs ⟨H1 w.params, #[], {}, 674, os⟩ = HK.val w := by kernel_rfl
theorem left : LeftO pE view loose XT HK.obs HK.val 6510 :=
  LeftO.of_pieces (boot_open op1 rfl op2) size run rfl (fun w => funext fun os => Prod.ext (look1 w os) (Prod.ext (look2 w os) (look3 w os)))
theorem looksFast : PySem.W.Fast.tw12908688711261696721 PySem.Challenge.pw_iu0014_01 = true := by kernel_rfl
theorem looks : looksOpen PySem.Challenge.rw_iu0014_01.row.prog = true := by rw [PySem.W.Fast.te12908688711261696721]; exact looksFast
theorem wellSaid : PySem.Challenge.rw_iu0014_01.wellSaid = true := by
  unfold OpenLaw.wellSaid OpenRow.wellSaid OpenRow.partSaid
  repeat' (with_reducible apply look_both)
  all_goals (first | with_reducible exact looks | kernel_rfl)

end Mine.Hd

end

section
open PySem PySem.W PyProof.Rows
namespace Mine

theorem kfill : PySem.Challenge.rw_iu0014_01 = PySem.Challenge.rw_iu0014_01 ∧ Mine.Hd.K = Mine.Hd.K := by
  k_fill
  exact ⟨rfl, rfl⟩

abbrev prg : Program := PySem.Challenge.rw_iu0014_01.row.prog

abbrev Led := List (Addr × Obj)
def oth (i : Nat) : Nat := if i % 2 = 0 then i + 1 else i - 1
def upd (f : Nat → Nat) (i k : Nat) : Nat → Nat := fun j => if j = i then k else f j
def Cl (n : Nat) (f : Nat → Nat) : Prop := ∀ c, c < n → f c < n
theorem Cl.upd {n : Nat} {f : Nat → Nat} {i k : Nat} (h : Cl n f) (hk : k < n) : Cl n (upd f i k) := by
  intro c hc
  unfold Mine.upd
  split
  · exact hk
  · exact h c hc

def ents (w : World) (t : Nat → Tok) (ctx nx rot st : Value) : List DictEntry :=
  [⟨PyData.keyHash w.params ("_context" : Str), .str ("_context" : Str) (t 0), ctx⟩,
   ⟨PyData.keyHash w.params ("_left_from_start" : Str), .str ("_left_from_start" : Str) (t 1), nx⟩,
   ⟨PyData.keyHash w.params ("_rotated" : Str), .str ("_rotated" : Str) (t 2), rot⟩,
   ⟨PyData.keyHash w.params ("_start" : Str), .str ("_start" : Str) (t 3), st⟩]
abbrev eobj (w : World) (t : Nat → Tok) (ctx nx rot st : Value) : Obj := dictOf (ents w t ctx nx rot st) 4

structure QG where
  n : Nat
  P : Nat → Addr
  D : Nat → Addr
  dP : Nat → Addr
  dD : Nat → Addr
  S : Nat → Addr
  ctx : Addr
  tP : Nat → Nat → Tok
  tD : Nat → Nat → Tok

structure QM (w : World) (G : QG) (σ ρ : Nat → Nat) (n0 news : Led) : Prop where
  iP : ∀ {i}, i < G.n → (G.P i, instObj 156 (G.dP i)) ∈ news
  iD : ∀ {i}, i < G.n → (G.D i, instObj 156 (G.dD i)) ∈ news
  eP : ∀ {i}, i < G.n → (G.dP i, eobj w (G.tP i) (.ref G.ctx) (.ref (G.P (σ i))) (.ref (G.D i)) (.ref (G.S i))) ∈ news
  eD : ∀ {i}, i < G.n → (G.dD i, eobj w (G.tD i) (.ref G.ctx) (.ref (G.D (ρ i))) (.ref (G.P (oth i))) .none) ∈ news
  jP : ∀ {i j}, i < G.n → j < G.n → G.dP i = G.dP j → i = j
  jD : ∀ {i j}, i < G.n → j < G.n → G.dD i = G.dD j → i = j
  jX : ∀ {i j}, i < G.n → j < G.n → G.dP i ≠ G.dD j
  cσ : Cl G.n σ
  cρ : Cl G.n ρ
  cO : Cl G.n oth
  kp : ∀ p ∈ n0, p.2.cls ≠ .type "dict" → p ∈ news

theorem QM.mono {w : World} {G : QG} {σ ρ : Nat → Nat} {n0 news news' : Led} (q : QM w G σ ρ n0 news) (h : ∀ p ∈ news, p ∈ news') : QM w G σ ρ n0 news' where
  iP hi := h _ (q.iP hi)
  iD hi := h _ (q.iD hi)
  eP hi := h _ (q.eP hi)
  eD hi := h _ (q.eD hi)
  jP := q.jP
  jD := q.jD
  jX := q.jX
  cσ := q.cσ
  cρ := q.cρ
  cO := q.cO
  kp p hp hc := h _ (q.kp p hp hc)
theorem QM.cons {w : World} {G : QG} {σ ρ : Nat → Nat} {n0 news : Led} {p : Addr × Obj} (q : QM w G σ ρ n0 news) : QM w G σ ρ n0 (p :: news) := q.mono fun _ h => .tail _ h

def updL (d : Addr) (o : Obj) (news : Led) : Led := (d, o) :: news.filter (fun p => decide (p.1 ≠ d))
theorem updL_mem {d : Addr} {o o' : Obj} {b : Addr} {news : Led} (h : (b, o') ∈ news) (hb : b ≠ d) : (b, o') ∈ updL d o news :=
  .tail _ (List.mem_filter.mpr ⟨h, by simpa using hb⟩)
theorem updL_off {d : Addr} {news : Led} : ∀ p ∈ news.filter (fun p => decide (p.1 ≠ d)), p.1 ≠ d := fun p hp => by
  simpa using (List.mem_filter.mp hp).2
theorem updL_pre {h₀ h : Heap} {L d : Addr} {o : Obj} {news : Led} (N : News h₀ L h news) (hm : (d, o) ∈ news) : News h₀ L h ((d, o) :: news.filter (fun p => decide (p.1 ≠ d))) := fun p hp => by
  rcases List.mem_cons.mp hp with rfl | hp
  · exact N _ hm
  · exact N _ (List.mem_filter.mp hp).1
theorem led_inj {h₀ h : Heap} {L d : Addr} {o o' : Obj} {news : Led} (N : News h₀ L h news) (h1 : (d, o) ∈ news) (h2 : (d, o') ∈ news) : o = o' := by
  have a := (N _ h1).1
  have b := (N _ h2).1
  rw [a] at b
  exact Option.some.inj b

section
variable {w : World} {G : QG} {σ ρ : Nat → Nat} {n0 news : Led} {A : Around} {E : Value → Shared → Prop} {s : Shared} {h₀ : Heap} {L : Addr} {m : Str → Option Value}

theorem QM.keepD {h : Heap} {d : Addr} {o : Obj} (q : QM w G σ ρ n0 news) (N : News h₀ L h news) {es : List DictEntry} {k : Nat} (hd : (d, dictOf es k) ∈ news) : ∀ p ∈ n0, p.2.cls ≠ .type "dict" → p ∈ updL d o news := by
  intro p hp hc
  refine updL_mem (q.kp p hp hc) fun e => hc ?_
  have := led_inj N (show (d, p.2) ∈ news from e ▸ q.kp p hp hc) hd
  rw [this]

theorem QM.setP {h : Heap} (q : QM w G σ ρ n0 news) (N : News h₀ L h news) {i k : Nat} (hi : i < G.n) (hk : k < G.n) :
    QM w G (upd σ i k) ρ n0 (updL (G.dP i) (eobj w (G.tP i) (.ref G.ctx) (.ref (G.P k)) (.ref (G.D i)) (.ref (G.S i))) news) where
  iP {j} hj := updL_mem (q.iP hj) fun e => by have := led_inj N (e ▸ q.iP hj) (q.eP hi); cases congrArg Obj.cls this
  iD {j} hj := updL_mem (q.iD hj) fun e => by have := led_inj N (e ▸ q.iD hj) (q.eP hi); cases congrArg Obj.cls this
  eP {j} hj := by
    by_cases e : j = i
    · subst e; simp only [upd, if_true]; exact .head _
    · simp only [upd, if_neg e]
      exact updL_mem (q.eP hj) fun z => e (q.jP hj hi z)
  eD {j} hj := updL_mem (q.eD hj) fun e => q.jX hi hj e.symm
  jP := q.jP
  jD := q.jD
  jX := q.jX
  cσ := q.cσ.upd hk
  cρ := q.cρ
  cO := q.cO
  kp := q.keepD N (q.eP hi)
theorem QM.setD {h : Heap} (q : QM w G σ ρ n0 news) (N : News h₀ L h news) {i k : Nat} (hi : i < G.n) (hk : k < G.n) :
    QM w G σ (upd ρ i k) n0 (updL (G.dD i) (eobj w (G.tD i) (.ref G.ctx) (.ref (G.D k)) (.ref (G.P (oth i))) .none) news) where
  iP {j} hj := updL_mem (q.iP hj) fun e => by have := led_inj N (e ▸ q.iP hj) (q.eD hi); cases congrArg Obj.cls this
  iD {j} hj := updL_mem (q.iD hj) fun e => by have := led_inj N (e ▸ q.iD hj) (q.eD hi); cases congrArg Obj.cls this
  eD {j} hj := by
    by_cases e : j = i
    · subst e; simp only [upd, if_true]; exact .head _
    · simp only [upd, if_neg e]
      exact updL_mem (q.eD hj) fun z => e (q.jD hj hi z)
  eP {j} hj := updL_mem (q.eP hj) fun e => q.jX hj hi e
  jP := q.jP
  jD := q.jD
  jX := q.jX
  cσ := q.cσ
  cρ := q.cρ.upd hk
  cO := q.cO
  kp := q.keepD N (q.eD hi)

set_option maxRecDepth 100000 in
set_option maxHeartbeats 8000000 in
theorem set_P {i k : Nat} {Q : Unit → Shared → Prop} (F : Fr h₀ L s.heap m) (X : Frag.In (Mine.Hd.K w.params) h₀) (N : News h₀ L s.heap news) (q : QM w G σ ρ n0 news) (hi : i < G.n) (hk : k < G.n)
    (h : ∀ h' news', Fr h₀ L h' m → News h₀ L h' news' → QM w G (upd σ i k) ρ n0 news' → Q () { s with heap := h', toks := s.toks + 2 }) :
    wpAny (model prg w) A (setAttr (.ref (G.P i)) ("_left_from_start" : Str) (.ref (G.P k))) Q E s := by
  refine set_dict (K := Mine.Hd.K w.params) (C := 156) (dx := G.dP i) (es := ents w (G.tP i) (.ref G.ctx) (.ref (G.P (σ i))) (.ref (G.D i)) (.ref (G.S i))) (n := 4) (es' := ents w (G.tP i) (.ref G.ctx) (.ref (G.P k)) (.ref (G.D i)) (.ref (G.S i))) (n' := 4)
    F X (updL_pre N (q.eP hi)) (PySem.W.InstAt.of_news N (q.iP hi) (q.eP hi)) rfl ?_ ?_ ?_ ?_ ?_ ?_ (Upd.head updL_off) ?_ ?_
  · k_is
  · k_is
  · k_is
  · k_is
  · rfl
  · rfl
  · exact Nat.le_of_ble_eq_true rfl
  · intro h' F' N'
    exact h h' _ F' N' (q.setP N hi hk)
set_option maxRecDepth 100000 in
set_option maxHeartbeats 8000000 in
theorem set_D {i k : Nat} {Q : Unit → Shared → Prop} (F : Fr h₀ L s.heap m) (X : Frag.In (Mine.Hd.K w.params) h₀) (N : News h₀ L s.heap news) (q : QM w G σ ρ n0 news) (hi : i < G.n) (hk : k < G.n)
    (h : ∀ h' news', Fr h₀ L h' m → News h₀ L h' news' → QM w G σ (upd ρ i k) n0 news' → Q () { s with heap := h', toks := s.toks + 2 }) :
    wpAny (model prg w) A (setAttr (.ref (G.D i)) ("_left_from_start" : Str) (.ref (G.D k))) Q E s := by
  refine set_dict (K := Mine.Hd.K w.params) (C := 156) (dx := G.dD i) (es := ents w (G.tD i) (.ref G.ctx) (.ref (G.D (ρ i))) (.ref (G.P (oth i))) .none) (n := 4) (es' := ents w (G.tD i) (.ref G.ctx) (.ref (G.D k)) (.ref (G.P (oth i))) .none) (n' := 4)
    F X (updL_pre N (q.eD hi)) (PySem.W.InstAt.of_news N (q.iD hi) (q.eD hi)) rfl ?_ ?_ ?_ ?_ ?_ ?_ (Upd.head updL_off) ?_ ?_
  · k_is
  · k_is
  · k_is
  · k_is
  · rfl
  · rfl
  · exact Nat.le_of_ble_eq_true rfl
  · intro h' F' N'
    exact h h' _ F' N' (q.setD N hi hk)
end

local macro_rules | `(tactic| k_room) => `(tactic| ktr_room)
local macro_rules | `(tactic| k_enter) => `(tactic| (refine' code_def ?k1 ?k2 ?k3 ?k4 ?k5 ?kA ?kF ?kK ?k6 ?k7 ?k8 ?k9 ?kB ?_ ?c2 ?c3 ?c4 ?c5; (case kA => exact rfl); (case kF => exact rfl); (case kK => first | exact rfl | assumption); (case k1 => k_asm); (case k2 => k_asm); (case k3 => k_asm); (case k4 => k_asm); (case k5 => k_asm); (case k6 => k_is); (case k7 => k_is); (case k8 => ktr_room); (case k9 => first | exact BindsTo.of_eq rfl | exact binds_K (by k_in) rfl (by k_is) rfl rfl rfl | fail "k_enter: no rule for these arguments"); (case c5 => decide); (case kB => exact locs rfl); (case c2 => exact rfl); (case c3 => exact rfl); (case c4 => exact rfl); k_whole; intro g' L' h' FG' F' N' B' X' T'; (try dsimp only); (try k_fold)))
local macro_rules | `(tactic| ktr_rel) => `(tactic| first | assumption | exact QM.cσ (by assumption) _ (by ktr_rel) | exact QM.cρ (by assumption) _ (by ktr_rel) | exact QM.cO (by assumption) _ (by ktr_rel))
local macro_rules | `(tactic| k_mem) => `(tactic| first | exact QM.iP (by assumption) (by ktr_rel) | exact QM.iD (by assumption) (by ktr_rel) | exact QM.eP (by assumption) (by ktr_rel) | exact QM.eD (by assumption) (by ktr_rel))
local macro_rules | `(tactic| walk_at "setAttr ref") => `(tactic| (k_here; k_dflt (first
  | (refine' set_P ?k1 ?k2 ?k3 ?k4 ?k5 ?k6 ?_; (case k1 => k_asm); (case k2 => k_asm); (case k3 => k_asm); (case k4 => first | assumption | exact QM.cons (by assumption) | exact QM.cons (QM.cons (by assumption))); (case k5 => ktr_rel); (case k6 => ktr_rel))
  | (refine' set_D ?k1 ?k2 ?k3 ?k4 ?k5 ?k6 ?_; (case k1 => k_asm); (case k2 => k_asm); (case k3 => k_asm); (case k4 => first | assumption | exact QM.cons (by assumption) | exact QM.cons (QM.cons (by assumption))); (case k5 => ktr_rel); (case k6 => ktr_rel))); intro h' news' F' N' q'; (try k_sweep)))

set_option maxRecDepth 100000 in
set_option maxHeartbeats 8000000 in
theorem splice_ {w : World} {p : Program} {loose : List Str} {mean : ExcName → Option Value} {mg mb : Str → Option Value}
    {dp un : Nat} {gd : Option (List Code)} {cn : Str} {cs : Scope} {a : Addr} {ccd : Value} {cl : List (Str × Addr)} {outer : List Env} {A₀ : Around} {base h₀ : Heap} {L : Addr} {m : Str → Option Value} {n0 news : Led} {s : Shared}
    {Q E : Value → Shared → Prop} {G : QG} {σ ρ : Nat → Nat} {i j : Nat}
    (B : Below A₀ base outer h₀) (F : Fr h₀ L s.heap m) (X : Frag.In (Mine.Hd.K w.params) h₀) (N : News h₀ L s.heap news) (T : Top p loose mean mg mb h₀) (hk : cs.kind = .function)
    (hd : dp + 2 < recursionLimit) (hu : un + 16 < cLine)
    (q : QM w G σ ρ n0 news) (hi : i < G.n) (hj : j < G.n)
    (ret : ∀ h' tk' news', Fr h₀ L h' m → News h₀ L h' news' → QM w G (upd (upd σ i (σ j)) j (σ i)) (upd (upd ρ (σ i) (ρ (σ j))) (σ j) (ρ (σ i))) n0 news' → Q .none { s with heap := h', toks := tk' }) :
    wpAny (model prg w) (ktrTop dp un gd cn cs L a ccd cl outer) (call (.ref 146) [.ref (G.P i), .ref (G.P j)]) Q E s := by
  refine wpAny_call ?_
  k_dflt k_enter
  k_steps
  exact ret _ _ _ (by assumption) (by assumption) (by assumption)

local macro_rules | `(tactic| walk_at "call ref") => `(tactic| (k_here; (with_reducible show wpAny _ _ (call (Value.ref 146) _) _ _ _); k_dflt (refine' splice_ ?k1 ?k2 ?k3 ?k4 ?k5 ?kK ?kd ?ku ?kq ?ki ?kj ?_; (case k1 => k_asm); (case k2 => k_asm); (case k3 => k_asm); (case k4 => k_asm); (case k5 => k_asm); (case kK => first | exact rfl | assumption); (case kd => ktr_room); (case ku => ktr_units); (case kq => first | assumption | exact QM.cons (by assumption) | exact QM.cons (QM.cons (by assumption))); (case ki => ktr_rel); (case kj => ktr_rel)); intro h' tk' news' F' N' q'; (try dsimp only); (try k_sweep)))

set_option maxRecDepth 100000 in
set_option maxHeartbeats 8000000 in
theorem delete_ {w : World} {p : Program} {loose : List Str} {mean : ExcName → Option Value} {mg mb : Str → Option Value}
    {dp un : Nat} {gd : Option (List Code)} {cn : Str} {cs : Scope} {a : Addr} {ccd : Value} {cl : List (Str × Addr)} {outer : List Env} {A₀ : Around} {base h₀ : Heap} {L : Addr} {m : Str → Option Value} {n0 news : Led} {s : Shared}
    {Q E : Value → Shared → Prop} {G : QG} {σ ρ σ₁ ρ₁ σ₂ ρ₂ : Nat → Nat} {i : Nat}
    (B : Below A₀ base outer h₀) (F : Fr h₀ L s.heap m) (X : Frag.In (Mine.Hd.K w.params) h₀) (N : News h₀ L s.heap news) (T : Top p loose mean mg mb h₀) (hk : cs.kind = .function)
    (hd : dp + 4 < recursionLimit) (hu : un + 32 < cLine)
    (q : QM w G σ ρ n0 news) (hi : i < G.n)
    (e1 : σ₁ = upd (upd σ i (σ (oth (ρ i)))) (oth (ρ i)) (σ i)) (e2 : ρ₁ = upd (upd ρ (σ i) (ρ (σ (oth (ρ i))))) (σ (oth (ρ i))) (ρ (σ i)))
    (e3 : σ₂ = upd (upd σ₁ (oth i) (σ₁ (oth (ρ₁ (oth i))))) (oth (ρ₁ (oth i))) (σ₁ (oth i))) (e4 : ρ₂ = upd (upd ρ₁ (σ₁ (oth i)) (ρ₁ (σ₁ (oth (ρ₁ (oth i)))))) (σ₁ (oth (ρ₁ (oth i)))) (ρ₁ (σ₁ (oth i))))
    (ret : ∀ h' tk' news', Fr h₀ L h' m → News h₀ L h' news' → QM w G σ₂ ρ₂ n0 news' → Q .none { s with heap := h', toks := tk' }) :
    wpAny (model prg w) (ktrTop dp un gd cn cs L a ccd cl outer) (call (.ref 132) [.ref (G.P i)]) Q E s := by
  subst e1 e2 e3 e4
  refine wpAny_call ?_
  k_dflt k_enter
  k_steps
  exact ret _ _ _ (by assumption) (by assumption) (by assumption)
end Mine

end

section
open PySem PySem.W PyProof.Rows
namespace Mine
theorem kfill2 : PySem.Challenge.rw_iu0014_01 = PySem.Challenge.rw_iu0014_01 ∧ Mine.Hd.K = Mine.Hd.K := by
  k_fill
  exact ⟨rfl, rfl⟩
local macro_rules | `(tactic| k_room) => `(tactic| ktr_room)
local macro_rules | `(tactic| k_enter) => `(tactic| (refine' code_def ?k1 ?k2 ?k3 ?k4 ?k5 ?kA ?kF ?kK ?k6 ?k7 ?k8 ?k9 ?kB ?_ ?c2 ?c3 ?c4 ?c5; (case kA => exact rfl); (case kF => exact rfl); (case kK => first | exact rfl | assumption); (case k1 => k_asm); (case k2 => k_asm); (case k3 => k_asm); (case k4 => k_asm); (case k5 => k_asm); (case k6 => k_is); (case k7 => k_is); (case k8 => ktr_room); (case k9 => first | exact BindsTo.of_eq rfl | exact binds_K (by k_in) rfl (by k_is) rfl rfl rfl | fail "k_enter: no rule for these arguments"); (case c5 => decide); (case kB => exact locs rfl); (case c2 => exact rfl); (case c3 => exact rfl); (case c4 => exact rfl); k_whole; intro g' L' h' FG' F' N' B' X' T'; (try dsimp only); (try k_fold)))

theorem news_drop0 {h₀ h : Heap} {L : Addr} {x : Addr × Obj} {l : Led} (N : News h₀ L h (x :: l)) : News h₀ L h l := fun p hp => N p (.tail _ hp)
theorem news_drop4 {h₀ h : Heap} {L : Addr} {a b c d x : Addr × Obj} {l : Led} (N : News h₀ L h (a :: b :: c :: d :: x :: l)) : News h₀ L h (a :: b :: c :: d :: l) := fun p hp => N p (by
  simp only [List.mem_cons] at hp ⊢
  rcases hp with h | h | h | h | h <;> simp [h])
def tk4 (a b c d : Tok) : Nat → Tok := fun k => match k with | 0 => a | 1 => b | 2 => c | _ => d
set_option maxRecDepth 100000 in
set_option maxHeartbeats 8000000 in
theorem mk0_ {w : World} {p : Program} {loose : List Str} {mean : ExcName → Option Value} {mg mb : Str → Option Value}
    {dp un : Nat} {gd : Option (List Code)} {cn : Str} {cs : Scope} {a : Addr} {ccd : Value} {cl : List (Str × Addr)} {outer : List Env} {A₀ : Around} {base h₀ : Heap} {L : Addr} {m : Str → Option Value} {news : Led} {s : Shared}
    {Q E : Value → Shared → Prop} {ctx : Addr}
    (B : Below A₀ base outer h₀) (F : Fr h₀ L s.heap m) (X : Frag.In (Mine.Hd.K w.params) h₀) (N : News h₀ L s.heap news) (T : Top p loose mean mg mb h₀) (hk : cs.kind = .function)
    (hd : dp + 3 < recursionLimit) (hu : un + 16 < cLine)
    (ret : ∀ x dx t h' tk', Fr h₀ L h' m → News h₀ L h' ((x, instObj 156 dx) :: (dx, eobj w t (.ref ctx) .none .none .none) :: news) → (∀ p ∈ news, p.1 < dx) → dx < x → Q (.ref x) { s with heap := h', toks := tk' }) :
    wpAny (model prg w) (ktrTop dp un gd cn cs L a ccd cl outer) (call (.ref 156) [] [(("context" : Str), .ref ctx)]) Q E s := by
  k_steps
  rename News _ _ _ _ => kN'
  exact ret _ _ (tk4 _ _ _ _) _ _ (by assumption) (fun p hp => kN' p (.tail _ hp)) (by assumption) (by assumption)
set_option maxRecDepth 100000 in
set_option maxHeartbeats 8000000 in
theorem mk1_ {w : World} {p : Program} {loose : List Str} {mean : ExcName → Option Value} {mg mb : Str → Option Value}
    {dp un : Nat} {gd : Option (List Code)} {cn : Str} {cs : Scope} {a : Addr} {ccd : Value} {cl : List (Str × Addr)} {outer : List Env} {A₀ : Around} {base h₀ : Heap} {L : Addr} {m : Str → Option Value} {news : Led} {s : Shared}
    {Q E : Value → Shared → Prop} {ctx S1 : Addr}
    (B : Below A₀ base outer h₀) (F : Fr h₀ L s.heap m) (X : Frag.In (Mine.Hd.K w.params) h₀) (N : News h₀ L s.heap news) (T : Top p loose mean mg mb h₀) (hk : cs.kind = .function)
    (hd : dp + 3 < recursionLimit) (hu : un + 16 < cLine)
    (ret : ∀ x dx t h' tk', Fr h₀ L h' m → News h₀ L h' ((x, instObj 156 dx) :: (dx, eobj w t (.ref ctx) .none .none (.ref S1)) :: news) → (∀ p ∈ news, p.1 < dx) → dx < x → Q (.ref x) { s with heap := h', toks := tk' }) :
    wpAny (model prg w) (ktrTop dp un gd cn cs L a ccd cl outer) (call (.ref 156) [.ref S1] [(("context" : Str), .ref ctx)]) Q E s := by
  k_steps
  rename News _ _ _ _ => kN'
  exact ret _ _ (tk4 _ _ _ _) _ _ (by assumption) (fun p hp => kN' p (.tail _ hp)) (by assumption) (by assumption)

local macro_rules | `(tactic| walk_at "call ref") => `(tactic| (k_here; (with_reducible show wpAny _ _ (call (Value.ref 156) _ _) _ _ _); k_dflt (first
  | (refine' mk0_ ?k1 ?k2 ?k3 ?k4 ?k5 ?kK ?kd ?ku ?_; (case k1 => k_asm); (case k2 => k_asm); (case k3 => k_asm); (case k4 => k_asm); (case k5 => k_asm); (case kK => first | exact rfl | assumption); (case kd => ktr_room); (case ku => ktr_units))
  | (refine' mk1_ ?k1 ?k2 ?k3 ?k4 ?k5 ?kK ?kd ?ku ?_; (case k1 => k_asm); (case k2 => k_asm); (case k3 => k_asm); (case k4 => k_asm); (case k5 => k_asm); (case kK => first | exact rfl | assumption); (case kd => ktr_room); (case ku => ktr_units))); intro x' d' t' h' tk' F' N' l1 l2; (try k_lt l1); (try k_lt2 l2); (try dsimp only); (try k_sweep)))

set_option maxRecDepth 100000 in
set_option maxHeartbeats 8000000 in
theorem fe_ {w : World} {p : Program} {loose : List Str} {mean : ExcName → Option Value} {mg mb : Str → Option Value}
    {dp un : Nat} {gd : Option (List Code)} {cn : Str} {cs : Scope} {a : Addr} {ccd : Value} {cl : List (Str × Addr)} {outer : List Env} {A₀ : Around} {base h₀ : Heap} {L : Addr} {m : Str → Option Value} {news : Led} {s : Shared}
    {R : Result → Shared → Prop} {S1 S2 ctx : Addr}
    (B : Below A₀ base outer h₀) (F : Fr h₀ L s.heap m) (X : Frag.In (Mine.Hd.K w.params) h₀) (N : News h₀ L s.heap news) (T : Top p loose mean mg mb h₀) (hk : cs.kind = .function)
    (hd : dp + 5 < recursionLimit) (hu : un + 32 < cLine)
    (ret : ∀ r dr o do_ q dq u du t1 t2 t3 t4 h' tk', Fr h₀ L h' m →
      News h₀ L h' ((u, instObj 156 du) :: (du, eobj w t4 (.ref ctx) (.ref q) (.ref r) .none) :: (q, instObj 156 dq) :: (dq, eobj w t3 (.ref ctx) (.ref u) (.ref o) .none) ::
        (o, instObj 156 do_) :: (do_, eobj w t2 (.ref ctx) (.ref o) (.ref u) (.ref S2)) :: (r, instObj 156 dr) :: (dr, eobj w t1 (.ref ctx) (.ref r) (.ref q) (.ref S1)) :: news) →
      (∀ p ∈ news, p.1 < dr) → dr < do_ → do_ < dq → dq < du → R (.ok (.ret (.ref r))) { s with heap := h', toks := tk' }) :
    codeAny (model prg w) (ktrTop dp un gd cn cs L a ccd cl outer) (.call (.ref 35) ⟨[.ref 156, .ref S1, .ref S2], [(("context" : Str), .ref ctx)]⟩) R s := by
  k_dflt k_enter
  k_steps
  rename News _ _ _ _ => kN'
  exact ret _ _ _ _ _ _ _ _ _ _ _ _ _ _ (by assumption) (news_drop4 (news_drop0 kN')) (by assumption) (ltN (by omega)) (ltN (by omega)) (ltN (by omega))
end Mine

end

section
open PySem PySem.W PyProof.Rows
namespace Mine
theorem kfill3 : PySem.Challenge.rw_iu0014_01 = PySem.Challenge.rw_iu0014_01 ∧ Mine.Hd.K = Mine.Hd.K := by
  k_fill
  exact ⟨rfl, rfl⟩
local macro_rules | `(tactic| k_room) => `(tactic| ktr_room)
local macro_rules | `(tactic| k_enter) => `(tactic| (refine' code_def ?k1 ?k2 ?k3 ?k4 ?k5 ?kA ?kF ?kK ?k6 ?k7 ?k8 ?k9 ?kB ?_ ?c2 ?c3 ?c4 ?c5; (case kA => exact rfl); (case kF => exact rfl); (case kK => first | exact rfl | assumption); (case k1 => k_asm); (case k2 => k_asm); (case k3 => k_asm); (case k4 => k_asm); (case k5 => k_asm); (case k6 => k_is); (case k7 => k_is); (case k8 => ktr_room); (case k9 => first | exact BindsTo.of_eq rfl | exact binds_K (by k_in) rfl (by k_is) rfl rfl rfl | fail "k_enter: no rule for these arguments"); (case c5 => decide); (case kB => exact locs rfl); (case c2 => exact rfl); (case c3 => exact rfl); (case c4 => exact rfl); k_whole; intro g' L' h' FG' F' N' B' X' T'; (try dsimp only); (try k_fold)))

def ext2 {α : Type} (f : Nat → α) (n : Nat) (a b : α) : Nat → α := fun i => if i = n then a else if i = n + 1 then b else f i
theorem ext2_lt {α : Type} {f : Nat → α} {n i : Nat} {a b : α} (h : i < n) : ext2 f n a b i = f i := by
  unfold ext2; rw [if_neg (by omega), if_neg (by omega)]
theorem ext2_0 {α : Type} {f : Nat → α} {n : Nat} {a b : α} : ext2 f n a b n = a := by unfold ext2; rw [if_pos rfl]
theorem ext2_1 {α : Type} {f : Nat → α} {n : Nat} {a b : α} : ext2 f n a b (n + 1) = b := by unfold ext2; rw [if_neg (by omega), if_pos rfl]
theorem two_cases {n i : Nat} (h : i < n + 2) : i < n ∨ i = n ∨ i = n + 1 := by omega

theorem ext2_inj {f : Nat → Nat} {n a b : Nat} (hf : ∀ i j, i < n → j < n → f i = f j → i = j) (hb : ∀ i, i < n → f i < a) (hab : a < b) {i j : Nat} (hi : i < n + 2) (hj : j < n + 2) (e : ext2 f n a b i = ext2 f n a b j) : i = j := by
  rcases two_cases hi with h | rfl | rfl <;> rcases two_cases hj with h' | rfl | rfl
  · rw [ext2_lt h, ext2_lt h'] at e; exact hf _ _ h h' e
  · rw [ext2_lt h, ext2_0] at e; have := hb _ h; omega
  · rw [ext2_lt h, ext2_1] at e; have := hb _ h; omega
  · rw [ext2_lt h', ext2_0] at e; have := hb _ h'; omega
  · rfl
  · rw [ext2_0, ext2_1] at e; omega
  · rw [ext2_lt h', ext2_1] at e; have := hb _ h'; omega
  · rw [ext2_0, ext2_1] at e; omega
  · rfl
theorem ext2_ne {f g : Nat → Nat} {n a b c d : Nat} (hf : ∀ i j, i < n → j < n → f i ≠ g j) (hb : ∀ i, i < n → f i < a) (hg : ∀ i, i < n → g i < a) (hab : a < b) (hbc : b < c) (hcd : c < d) {i j : Nat} (hi : i < n + 2) (hj : j < n + 2) : ext2 f n a b i ≠ ext2 g n c d j := by
  intro e
  rcases two_cases hi with h | rfl | rfl <;> rcases two_cases hj with h' | rfl | rfl
  · rw [ext2_lt h, ext2_lt h'] at e; exact hf _ _ h h' e
  · rw [ext2_lt h, ext2_0] at e; have := hb _ h; omega
  · rw [ext2_lt h, ext2_1] at e; have := hb _ h; omega
  · rw [ext2_lt h', ext2_0] at e; have := hg _ h'; omega
  · rw [ext2_0, ext2_0] at e; omega
  · rw [ext2_0, ext2_1] at e; omega
  · rw [ext2_lt h', ext2_1] at e; have := hg _ h'; omega
  · rw [ext2_0, ext2_1] at e; omega
  · rw [ext2_1, ext2_1] at e; omega

structure Ext (G G' : QG) (S1 S2 : Addr) : Prop where
  n : G'.n = G.n + 2
  P : ∀ {i}, i < G.n → G'.P i = G.P i
  S : ∀ {i}, i < G.n → G'.S i = G.S i
  c : G'.ctx = G.ctx
  S0 : G'.S G.n = S1
  S1 : G'.S (G.n + 1) = S2
theorem Ext.lt {G G' : QG} {S1 S2 : Addr} {i : Nat} (x : Ext G G' S1 S2) (h : i < G.n) : i < G'.n := by rw [x.n]; omega
theorem Ext.l0 {G G' : QG} {S1 S2 : Addr} (x : Ext G G' S1 S2) : G.n < G'.n := by rw [x.n]; omega

def QG.ext (G : QG) (r dr o do_ q dq u du S1 S2 : Addr) (t1 t2 t3 t4 : Nat → Tok) : QG where
  n := G.n + 2
  P := ext2 G.P G.n r o
  D := ext2 G.D G.n q u
  dP := ext2 G.dP G.n dr do_
  dD := ext2 G.dD G.n dq du
  S := ext2 G.S G.n S1 S2
  ctx := G.ctx
  tP := ext2 G.tP G.n t1 t2
  tD := ext2 G.tD G.n t3 t4

theorem QM.ext {w : World} {G : QG} {σ ρ : Nat → Nat} {n0 news : Led} {r dr o do_ q dq u du S1 S2 : Addr} {t1 t2 t3 t4 : Nat → Tok} (Q : QM w G σ ρ n0 news) (hev : G.n % 2 = 0)
    (l1 : ∀ p ∈ news, p.1 < dr) (l2 : dr < do_) (l3 : do_ < dq) (l4 : dq < du) :
    QM w (G.ext r dr o do_ q dq u du S1 S2 t1 t2 t3 t4) (ext2 σ G.n G.n (G.n + 1)) (ext2 ρ G.n (G.n + 1) G.n) n0
      ((u, instObj 156 du) :: (du, eobj w t4 (.ref G.ctx) (.ref q) (.ref r) .none) :: (q, instObj 156 dq) :: (dq, eobj w t3 (.ref G.ctx) (.ref u) (.ref o) .none) ::
        (o, instObj 156 do_) :: (do_, eobj w t2 (.ref G.ctx) (.ref o) (.ref u) (.ref S2)) :: (r, instObj 156 dr) :: (dr, eobj w t1 (.ref G.ctx) (.ref r) (.ref q) (.ref S1)) :: news) := by
  have o0 : oth G.n = G.n + 1 := by unfold oth; rw [if_pos hev]
  have o1 : oth (G.n + 1) = G.n := by unfold oth; rw [if_neg (by omega)]; omega
  have up : ∀ {p : Addr × Obj}, p ∈ news → p ∈ ((u, instObj 156 du) :: (du, eobj w t4 (.ref G.ctx) (.ref q) (.ref r) .none) :: (q, instObj 156 dq) :: (dq, eobj w t3 (.ref G.ctx) (.ref u) (.ref o) .none) ::
        (o, instObj 156 do_) :: (do_, eobj w t2 (.ref G.ctx) (.ref o) (.ref u) (.ref S2)) :: (r, instObj 156 dr) :: (dr, eobj w t1 (.ref G.ctx) (.ref r) (.ref q) (.ref S1)) :: news) :=
    fun h => .tail _ (.tail _ (.tail _ (.tail _ (.tail _ (.tail _ (.tail _ (.tail _ h)))))))
  have bP : ∀ {i}, i < G.n → G.dP i < dr := fun h => l1 _ (Q.eP h)
  have bD : ∀ {i}, i < G.n → G.dD i < dr := fun h => l1 _ (Q.eD h)
  have clo : Cl (G.n + 2) oth := by
    intro c hc
    rcases two_cases hc with h | rfl | rfl
    · have := Q.cO c h; omega
    · rw [o0]; omega
    · rw [o1]; omega
  constructor
  · intro i hi
    rcases two_cases hi with h | rfl | rfl
    · simp only [QG.ext, ext2_lt h]; exact up (Q.iP h)
    · simp only [QG.ext, ext2_0]; simp
    · simp only [QG.ext, ext2_1]; simp
  · intro i hi
    rcases two_cases hi with h | rfl | rfl
    · simp only [QG.ext, ext2_lt h]; exact up (Q.iD h)
    · simp only [QG.ext, ext2_0]; simp
    · simp only [QG.ext, ext2_1]; simp
  · intro i hi
    rcases two_cases hi with h | rfl | rfl
    · simp only [QG.ext, ext2_lt h, ext2_lt (Q.cσ i h)]; exact up (Q.eP h)
    · simp only [QG.ext, ext2_0]; simp
    · simp only [QG.ext, ext2_1]; simp
  · intro i hi
    rcases two_cases hi with h | rfl | rfl
    · simp only [QG.ext, ext2_lt h, ext2_lt (Q.cρ i h), ext2_lt (Q.cO i h)]; exact up (Q.eD h)
    · simp only [QG.ext, ext2_0, o0, ext2_1]; simp
    · simp only [QG.ext, ext2_1, o1, ext2_0]; simp
  · intro i j hi hj e
    exact ext2_inj (fun i j a b => Q.jP a b) (fun i h => bP h) l2 hi hj e
  · intro i j hi hj e
    exact ext2_inj (fun i j a b => Q.jD a b) (fun i h => Nat.lt_trans (bD h) (Nat.lt_trans l2 l3)) l4 hi hj e
  · intro i j hi hj
    exact ext2_ne (fun i j a b => Q.jX a b) (fun i h => bP h) (fun i h => bD h) l2 l3 l4 hi hj
  · intro c hc
    rcases two_cases hc with h | rfl | rfl
    · simp only [ext2_lt h]; have := Q.cσ c h; simp only [QG.ext]; omega
    · simp only [ext2_0, QG.ext]; omega
    · simp only [ext2_1, QG.ext]; omega
  · intro c hc
    rcases two_cases hc with h | rfl | rfl
    · simp only [ext2_lt h]; have := Q.cρ c h; simp only [QG.ext]; omega
    · simp only [ext2_0, QG.ext]; omega
    · simp only [ext2_1, QG.ext]; omega
  · exact clo
  · intro p hp hc
    exact up (Q.kp p hp hc)

def spσ (σ : Nat → Nat) (i j : Nat) : Nat → Nat := upd (upd σ i (σ j)) j (σ i)
def spρ (σ ρ : Nat → Nat) (i j : Nat) : Nat → Nat := upd (upd ρ (σ i) (ρ (σ j))) (σ j) (ρ (σ i))

theorem spliceE_ {w : World} {p : Program} {loose : List Str} {mean : ExcName → Option Value} {mg mb : Str → Option Value}
    {dp un : Nat} {gd : Option (List Code)} {cn : Str} {cs : Scope} {a : Addr} {ccd : Value} {cl : List (Str × Addr)} {outer : List Env} {A₀ : Around} {base h₀ : Heap} {L : Addr} {m : Str → Option Value} {n0 news : Led} {s : Shared} {G : QG} {σ ρ : Nat → Nat}
    {Q E : Value → Shared → Prop} {i j : Nat} {x y : Addr}
    (B : Below A₀ base outer h₀) (F : Fr h₀ L s.heap m) (X : Frag.In (Mine.Hd.K w.params) h₀) (N : News h₀ L s.heap news) (T : Top p loose mean mg mb h₀) (hk : cs.kind = .function)
    (hd : dp + 2 < recursionLimit) (hu : un + 16 < cLine)
    (q : QM w G σ ρ n0 news) (hi : i < G.n) (hj : j < G.n) (hx : x = G.P i) (hy : y = G.P j)
    (ret : ∀ h' tk' news', Fr h₀ L h' m → News h₀ L h' news' → QM w G (spσ σ i j) (spρ σ ρ i j) n0 news' → Q .none { s with heap := h', toks := tk' }) :
    wpAny (model prg w) (ktrTop dp un gd cn cs L a ccd cl outer) (call (.ref 146) [.ref x, .ref y]) Q E s := by
  subst hx hy
  exact splice_ B F X N T hk hd hu q hi hj ret

theorem fe2_ {w : World} {p : Program} {loose : List Str} {mean : ExcName → Option Value} {mg mb : Str → Option Value}
    {dp un : Nat} {gd : Option (List Code)} {cn : Str} {cs : Scope} {a : Addr} {ccd : Value} {cl : List (Str × Addr)} {outer : List Env} {A₀ : Around} {base h₀ : Heap} {L : Addr} {m : Str → Option Value} {n0 news : Led} {s : Shared} {G : QG} {σ ρ : Nat → Nat}
    {R : Result → Shared → Prop} {S1 S2 ctx : Addr}
    (B : Below A₀ base outer h₀) (F : Fr h₀ L s.heap m) (X : Frag.In (Mine.Hd.K w.params) h₀) (N : News h₀ L s.heap news) (T : Top p loose mean mg mb h₀) (hk : cs.kind = .function)
    (hd : dp + 5 < recursionLimit) (hu : un + 32 < cLine) (q : QM w G σ ρ n0 news) (hev : G.n % 2 = 0) (hc : ctx = G.ctx)
    (ret : ∀ G' h' tk' news', Fr h₀ L h' m → News h₀ L h' news' → (∀ p ∈ news, p ∈ news') → Ext G G' S1 S2 → QM w G σ ρ n0 news' → QM w G' (ext2 σ G.n G.n (G.n + 1)) (ext2 ρ G.n (G.n + 1) G.n) n0 news' →
      R (.ok (.ret (.ref (G'.P G.n)))) { s with heap := h', toks := tk' }) :
    codeAny (model prg w) (ktrTop dp un gd cn cs L a ccd cl outer) (.call (.ref 35) ⟨[.ref 156, .ref S1, .ref S2], [(("context" : Str), .ref ctx)]⟩) R s := by
  subst hc
  refine fe_ B F X N T hk hd hu fun r dr o do_ q' dq u du t1 t2 t3 t4 h' tk' F' N' l1 l2 l3 l4 => ?_
  have up : ∀ p ∈ news, p ∈ ((u, instObj 156 du) :: (du, eobj w t4 (.ref G.ctx) (.ref q') (.ref r) .none) :: (q', instObj 156 dq) :: (dq, eobj w t3 (.ref G.ctx) (.ref u) (.ref o) .none) ::
        (o, instObj 156 do_) :: (do_, eobj w t2 (.ref G.ctx) (.ref o) (.ref u) (.ref S2)) :: (r, instObj 156 dr) :: (dr, eobj w t1 (.ref G.ctx) (.ref r) (.ref q') (.ref S1)) :: news) :=
    fun _ h => .tail _ (.tail _ (.tail _ (.tail _ (.tail _ (.tail _ (.tail _ (.tail _ h)))))))
  have Z := ret (G.ext r dr o do_ q' dq u du S1 S2 t1 t2 t3 t4) h' tk' _ F' N' up ⟨rfl, fun h => ext2_lt h, fun h => ext2_lt h, rfl, ext2_0, ext2_1⟩ (q.mono up) (q.ext hev l1 l2 l3 l4)
  have e : (G.ext r dr o do_ q' dq u du S1 S2 t1 t2 t3 t4).P G.n = r := ext2_0
  rw [e] at Z
  exact Z

theorem callWith_MKW {M : Model} {A : Around} {E : Value → Shared → Prop} {s : Shared} {K : Frag} {h₀ : Heap} {L : Addr} {news : Led} {env : Env} {pos : Pos} {q g : Addr} {self : Value} {first : List Value} {Q : Value → Shared → Prop} {e : Expr} {rest : List Expr} {kws : List Keyword}
    (_X : K.In h₀) (_N : News h₀ L s.heap news) (_q : (q, methodObj (.ref g) self) ∈ news) (hf : fnIn K g = true) (hall : (backToKw pos (keywordEach kws env)).all (·.1.isSome) = true)
    (h : wpAny M A (spliced (backTo pos (starEach (e :: rest) env))) (fun vs s₁ => wpAny M A (evalAll ((backToKw pos (keywordEach kws env)).map (·.2)))
      (fun ks s₂ => MethP K q g self s₂.heap ∧ wpAny M A (call (.ref q) (first ++ vs) (((backToKw pos (keywordEach kws env)).filterMap (·.1)).zip ks)) Q E s₂) E s₁) E s)
    (hplain : ((backTo pos (starEach (e :: rest) env)).any (·.1) || (backToKw pos (keywordEach kws env)).any (·.1.isNone)) = false := by rfl) (he : starEach (e :: rest) env = (false, eval e env) :: starEach rest env := by rfl) :
    wpAny M A (callWith pos (.ref q) first (backTo pos (starEach (e :: rest) env)) (backToKw pos (keywordEach kws env))) Q E s :=
  callWith_of hplain (keeps_M hf) (evalArgs_kw2 hall h he)
local macro_rules | `(tactic| walk_at "callWith ref") => `(tactic| (k_here; k_dflt (refine' callWith_MKW ?k1 ?k2 ?k3 ?k4 ?k5 ?_; (case k1 => k_asm); (case k2 => k_asm); (case k3 => k_mem); (case k4 => k_is); (case k5 => exact rfl); k_whole)))
local macro_rules | `(tactic| ktr_rel) => `(tactic| first | assumption | exact Ext.l0 (by assumption) | exact Ext.lt (by assumption) (by assumption) | exact QM.cO (by assumption) _ (by assumption))
local macro_rules | `(tactic| k_mem) => `(tactic| first | exact QM.iP (by assumption) (by ktr_rel) | exact QM.iD (by assumption) (by ktr_rel) | exact QM.eP (by assumption) (by ktr_rel) | exact QM.eD (by assumption) (by ktr_rel))
local macro_rules | `(tactic| walk_at "call ref") => `(tactic| (k_here; k_dflt (refine' call_meth ?k1 ?k2 ?_; (case k1 => k_asm); (case k2 => k_mem); k_whole; k_enter)))
local macro_rules | `(tactic| walk_at "call ref") => `(tactic| (k_here; (with_reducible show wpAny _ _ (call (Value.ref 146) _) _ _ _); k_dflt (refine' spliceE_ ?k1 ?k2 ?k3 ?k4 ?k5 ?kK ?kd ?ku ?kq ?ki ?kj ?kx ?ky ?_; (case k1 => k_asm); (case k2 => k_asm); (case k3 => k_asm); (case k4 => k_asm); (case k5 => k_asm); (case kK => first | exact rfl | assumption); (case kd => ktr_room); (case ku => ktr_units); (case kq => first | assumption | exact QM.cons (by assumption) | exact QM.cons (QM.cons (by assumption))); (case kx => first | exact rfl | exact (Ext.P (by assumption) (by ktr_rel)).symm); (case ky => first | exact rfl | exact (Ext.P (by assumption) (by ktr_rel)).symm); (case ki => ktr_rel); (case kj => ktr_rel)); intro h' tk' news' F' N' q'; (try dsimp only); (try k_sweep)))
local macro_rules | `(tactic| k_enter) => `(tactic| ((with_reducible show codeAny _ _ (.call (.ref 35) _) _ _); refine' fe2_ ?k1 ?k2 ?k3 ?k4 ?k5 ?kK ?kd ?ku ?kq ?ke ?kc ?_; (case k1 => k_asm); (case k2 => k_asm); (case k3 => k_asm); (case k4 => k_asm); (case k5 => k_asm); (case kK => first | exact rfl | assumption); (case kd => ktr_room); (case ku => ktr_units); (case kq => first | assumption | exact QM.cons (by assumption) | exact QM.cons (QM.cons (by assumption))); (case ke => assumption); (case kc => exact rfl); intro G' h' tk' news' F' N' up' x' qo' q'; have z1' := Ext.l0 x'; have z2' := QM.cO q' _ z1'; (try dsimp only); (try k_sweep); (try k_fold)))

set_option maxRecDepth 100000 in
set_option maxHeartbeats 8000000 in
theorem connect_ {w : World} {p : Program} {loose : List Str} {mean : ExcName → Option Value} {mg mb : Str → Option Value}
    {dp un : Nat} {gd : Option (List Code)} {cn : Str} {cs : Scope} {a : Addr} {ccd : Value} {cl : List (Str × Addr)} {outer : List Env} {A₀ : Around} {base h₀ : Heap} {L : Addr} {m : Str → Option Value} {n0 news : Led} {s : Shared} {G : QG} {σ ρ : Nat → Nat}
    {Q E : Value → Shared → Prop} {i j : Nat}
    (B : Below A₀ base outer h₀) (F : Fr h₀ L s.heap m) (X : Frag.In (Mine.Hd.K w.params) h₀) (N : News h₀ L s.heap news) (T : Top p loose mean mg mb h₀) (hk : cs.kind = .function)
    (hd : dp + 7 < recursionLimit) (hu : un + 64 < cLine)
    (q : QM w G σ ρ n0 news) (hi : i < G.n) (hj : j < G.n) (hev : G.n % 2 = 0)
    (ret : ∀ G' h' tk' news', Fr h₀ L h' m → News h₀ L h' news' → Ext G G' (G.S (oth i)) (G.S j) →
      QM w G' (spσ (spσ (ext2 σ G.n G.n (G.n + 1)) G.n (oth (ρ (oth i)))) (oth G.n) j) (spρ (spσ (ext2 σ G.n G.n (G.n + 1)) G.n (oth (ρ (oth i)))) (spρ (ext2 σ G.n G.n (G.n + 1)) (ext2 ρ G.n (G.n + 1) G.n) G.n (oth (ρ (oth i)))) (oth G.n) j) n0 news' →
      Q (.ref (G'.P G.n)) { s with heap := h', toks := tk' }) :
    wpAny (model prg w) (ktrTop dp un gd cn cs L a ccd cl outer) (call (.ref 125) [.ref (G.P i), .ref (G.P j)]) Q E s := by
  have c1 := q.cO _ hi
  have c2 := q.cρ _ c1
  have c3 := q.cO _ c2
  refine wpAny_call ?_
  k_dflt k_enter
  k_steps

  exact ret _ _ _ _ (by assumption) (by assumption) (by assumption) (by assumption)
end Mine

end

section
open PySem PySem.W PyProof.Rows PySem.Calls
namespace Mine
theorem kfill4 : PySem.Challenge.rw_iu0014_01 = PySem.Challenge.rw_iu0014_01 ∧ Mine.Hd.K = Mine.Hd.K := by
  k_fill
  exact ⟨rfl, rfl⟩
set_option maxRecDepth 100000
set_option maxHeartbeats 8000000
theorem made271 {w : World} {M : Model} {h : Heap} (X : Frag.In (Mine.Hd.K w.params) h) : Looks M h (Bind.madeBy (.ref 271)) none :=
  Looks.of_peek X (by kernel_rfl)
theorem best271 {w : World} {M : Model} {h : Heap} (X : Frag.In (Mine.Hd.K w.params) h) : Looks M h (Builtin.Slots.bestBase [.type "tuple"]) (.type "tuple") :=
  Looks.of_peek X (by kernel_rfl)

theorem sb271 {w : World} {M : Model} {h : Heap} (X : Frag.In (Mine.Hd.K w.params) h) : Looks M h (Bind.staticBase (.ref 271)) (.type "tuple") :=
  Looks.of_peek X (by kernel_rfl)
theorem mh271 {w : World} {M : Model} {h : Heap} (X : Frag.In (Mine.Hd.K w.params) h) : Looks M h (Bind.madeHere "tuple.__new__" (.ref 271)) () :=
  Looks.of_peek X (by kernel_rfl)
theorem it271 {w : World} {M : Model} {h : Heap} (X : Frag.In (Mine.Hd.K w.params) h) : Looks M h (isType (.ref 271)) true :=
  Looks.of_peek X (by kernel_rfl)
theorem tl271 {w : World} {M : Model} {h : Heap} (X : Frag.In (Mine.Hd.K w.params) h) : Looks M h (typeLookup (.ref 271) "__init__") (some (.builtin "object.__init__")) :=
  looks_findIn X (by k_is)
theorem st271 {w : World} {M : Model} {h : Heap} (X : Frag.In (Mine.Hd.K w.params) h) : Looks M h (isSubtype (.ref 271) (.type "tuple")) true :=
  looks_subIn X (by k_is)
theorem cb271 {w : World} {M : Model} {h : Heap} (X : Frag.In (Mine.Hd.K w.params) h) (v : Value) : Looks M h (checkBuiltinCall "tuple.__new__" ⟨[.ref 271, v], []⟩) () :=
  Looks.of_peek X (by kernel_rfl)

theorem hd271 {w : World} {M : Model} {h : Heap} (X : Frag.In (Mine.Hd.K w.params) h) : Looks M h (classHasDel 271) false :=
  Looks.of_peek X (by kernel_rfl)
theorem news_drop12 {h₀ h : Heap} {L : Addr} {x a b : Addr × Obj} {l : Led} (N : News h₀ L h (x :: a :: b :: l)) : News h₀ L h (x :: l) := fun p hp => N p (by
  simp only [List.mem_cons] at hp ⊢
  rcases hp with h | h <;> simp [h])
abbrev ptObj (pd : Addr) (items : Array Value) : Obj := { cls := .ref 271, dict := some pd, data := .seq items }
abbrev tupObj (items : Array Value) : Obj := { cls := .type "tuple", data := .seq items }

theorem tnew_ {w : World} {A : Around} {E : Value → Shared → Prop} {s : Shared} {h₀ : Heap} {L : Addr} {m : Str → Option Value} {news : Led} {Q : Value → Shared → Prop} {tup : Addr} {x y : Value}
    (F : Fr h₀ L s.heap m) (X₀ : Frag.In (Mine.Hd.K w.params) h₀) (N : News h₀ L s.heap news) (ht : (tup, tupObj #[x, y]) ∈ news)
    (h : ∀ pt pd h', Fr h₀ L h' m → News h₀ L h' ((pt, ptObj pd #[x, y]) :: (pd, emptyDict) :: news) → (∀ p ∈ news, p.1 < pd) → pd < pt → Q (.ref pt) { s with heap := h' }) :
    wpAny (model prg w) A (call (.builtin "tuple.__new__") [.ref 271, .ref tup]) Q E s := by
  have X := X₀.keeps F.keep
  refine wpAny_call (codeAny_call_builtin_code (Code.quiet_builtin _ (by decide +kernel)) ((cb271 X _).here ?_))
  refine codeAny_builtin PySem.F.entry_tuple_new ?_
  have L1 := it271 (M := model prg w) X
  have L2 := st271 (M := model prg w) X
  have L3 := mh271 (M := model prg w) X
  have L4 := tl271 (M := model prg w) X
  have hT := (N _ ht).1
  unfold Builtin.«tuple.__new__»
  obtain ⟨hh, g, d, t, os⟩ := s
  repeat (first | with_reducible refine wpAny_collect_seq tup (.inr rfl) hT rfl rfl ?_ | simp only [Bool.false_eq_true, if_false, Bool.not_true, beq_self_eq_true, if_true] | lk)
  intro h' hk
  have F' := F.keeps hk
  have N' : News h₀ L h' news := fun p hp => ⟨hk _ _ (N p hp).1, (N p hp).2⟩
  have N2 := (N'.push F' emptyDict).push (F'.push _) (ptObj h'.objs.size #[x, y])
  rw [Heap.size_push] at N2
  refine wpAny_bind (wpAny_pure (wpAny_bind (wpAny_alloc (wpAny_bind ?_))))
  unfold newObj
  dsimp only
  rw [if_neg (show ¬ ((#[x, y] : Array Value).size > sizeLine) by rw [sizeLine_eq]; show ¬ (2 > _); decide)]
  unfold newObjAsIs
  refine wpAny_bind (wpAny_alloc ?_)
  have XX := X.keeps (fun b o e => Heap.get?_push_of_some (ptObj h'.objs.size #[x, y]) (Heap.get?_push_of_some emptyDict (hk b o e)))
  refine wpAny_bind ((hd271 (M := model prg w) XX).here ?_)
  refine wpAny_pure (wpAny_pure ?_)
  have z := h (h'.objs.size + 1) h'.objs.size _ ((F'.push _).push _) N2 (fun p hp => Heap.lt_size (N' p hp).1) (Nat.lt_succ_self _)
  show Q _ _
  rw [Heap.size_push]
  exact z
local macro_rules | `(tactic| k_room) => `(tactic| ktr_room)
local macro_rules | `(tactic| k_enter) => `(tactic| (refine' code_def ?k1 ?k2 ?k3 ?k4 ?k5 ?kA ?kF ?kK ?k6 ?k7 ?k8 ?k9 ?kB ?_ ?c2 ?c3 ?c4 ?c5; (case kA => exact rfl); (case kF => exact rfl); (case kK => first | exact rfl | assumption); (case k1 => k_asm); (case k2 => k_asm); (case k3 => k_asm); (case k4 => k_asm); (case k5 => k_asm); (case k6 => k_is); (case k7 => k_is); (case k8 => ktr_room); (case k9 => first | exact BindsTo.of_eq rfl | exact binds_K (by k_in) rfl (by k_is) rfl rfl rfl | fail "k_enter: no rule for these arguments"); (case c5 => decide); (case kB => exact locs rfl); (case c2 => exact rfl); (case c3 => exact rfl); (case c4 => exact rfl); k_whole; intro g' L' h' FG' F' N' B' X' T'; (try dsimp only); (try k_fold)))


theorem meta_tup : typeOf (.type "tuple") = pure (.type "type") := by kernel_rfl
local macro_rules | `(tactic| walk_at "getMethod type:tuple") => `(tactic| (k_here; refine' method_type ?F ?X ?m (by decide +kernel) ?e ?h ?_; (case F => k_asm); (case X => k_asm); (case m => exact meta_tup); (case e => k_dflt k_is); (case h => k_handed)))
local macro_rules | `(tactic| walk_at "call builtin:tuple.__new__") => `(tactic| (k_here; k_dflt (refine' tnew_ ?k1 ?k2 ?k3 ?k4 ?_; (case k1 => k_asm); (case k2 => k_asm); (case k3 => k_asm); (case k4 => k_mem); intro pt' pd' h' F' N' l1 l2; (try k_lt l1); (try k_lt2 l2); (try k_sweep))))
set_option maxRecDepth 100000 in
set_option maxHeartbeats 8000000 in
theorem pnew_ {w : World} {p : Program} {loose : List Str} {mean : ExcName → Option Value} {mg mb : Str → Option Value}
    {dp un : Nat} {gd : Option (List Code)} {cn : Str} {cs : Scope} {a : Addr} {ccd : Value} {cl : List (Str × Addr)} {outer : List Env} {A₀ : Around} {base h₀ : Heap} {L : Addr} {m : Str → Option Value} {news : Led} {s : Shared}
    {R : Result → Shared → Prop} {x y : Value}
    (B : Below A₀ base outer h₀) (F : Fr h₀ L s.heap m) (X : Frag.In (Mine.Hd.K w.params) h₀) (N : News h₀ L s.heap news) (T : Top p loose mean mg mb h₀) (hk : cs.kind = .function)
    (hd : dp + 3 < recursionLimit) (hu : un + 16 < cLine)
    (ret : ∀ pt pd h' tk', Fr h₀ L h' m → News h₀ L h' ((pt, ptObj pd #[x, y]) :: news) → R (.ok (.ret (.ref pt))) { s with heap := h', toks := tk' }) :
    codeAny (model prg w) (ktrTop dp un gd cn cs L a ccd cl outer) (.call (.ref 221) ⟨[.ref 271, x, y], []⟩) R s := by
  k_dflt k_enter
  repeat' (first | (k_unfold; (try dsimp only)) | walk1 | (dsimp only; walk1))
  rename News _ _ _ _ => kN'
  exact ret _ _ _ _ (by assumption) (news_drop12 kN')

theorem under_tc {dp un : Nat} {gd : Option (List Code)} {cn : Str} {cs : Scope} {a L C : Addr} {ccd : Value} {cl : List (Str × Addr)} {outer : List Env} {rest : List Value} {kw : List (Str × Value)} :
    (ktrTop dp un gd cn cs L a ccd cl outer).under (Code.builtin "type.__call__" ⟨.ref C :: rest, kw⟩) = ktrTop (dp + 1) (un + 1) gd cn cs L a ccd cl outer := by
  rfl
theorem gn271 {w : World} {A : Around} {E : Value → Shared → Prop} {s : Shared} {h₀ : Heap} {L : Addr} {m : Str → Option Value} {Q : Value → Shared → Prop} {ex : Bool}
    (F : Fr h₀ L s.heap m) (X₀ : Frag.In (Mine.Hd.K w.params) h₀) (h : Q (.ref 221) { s with toks := s.toks + 1 }) :
    wpAny (model prg w) A (getAttr (.ref 271) ("__new__" : Str) ex) Q E s :=
  cls_sm F X₀ (by k_is) (by k_is) (by k_is) (by k_is) (by k_handed) h

theorem point_ {w : World} {p : Program} {loose : List Str} {mean : ExcName → Option Value} {mg mb : Str → Option Value}
    {dp un : Nat} {gd : Option (List Code)} {cn : Str} {cs : Scope} {a : Addr} {ccd : Value} {cl : List (Str × Addr)} {outer : List Env} {A₀ : Around} {base h₀ : Heap} {L : Addr} {m : Str → Option Value} {news : Led} {s : Shared}
    {Q E : Value → Shared → Prop} {x y : Value}
    (B : Below A₀ base outer h₀) (F : Fr h₀ L s.heap m) (X : Frag.In (Mine.Hd.K w.params) h₀) (N : News h₀ L s.heap news) (T : Top p loose mean mg mb h₀) (hk : cs.kind = .function)
    (hd : dp + 6 < recursionLimit) (hu : un + 32 < cLine)
    (ret : ∀ pt pd h' tk', Fr h₀ L h' m → News h₀ L h' ((pt, ptObj pd #[x, y]) :: news) → Q (.ref pt) { s with heap := h', toks := tk' }) :
    wpAny (model prg w) (ktrTop dp un gd cn cs L a ccd cl outer) (call (.ref 271) [x, y]) Q E s := by
  have XX := X.keeps F.keep
  refine wpAny_call (codeAny_of_tree ?_)
  obtain ⟨hh, g, d, t, os⟩ := s
  have hC : ∃ oc od cd sl, (Mine.Hd.K w.params).lookup 271 = some ⟨oc, od, .cls cd, sl⟩ := ⟨_, _, _, _, by k_is⟩
  obtain ⟨oc, od, cd, sl, hC⟩ := hC
  have hC' := XX _ _ hC
  have call : Looks (model prg w) hh (specialOf (.ref 271) "__call__") (some (.builtin "type.__call__")) := looks_specialIn XX (by k_is)
  have typ : Looks (model prg w) hh (isInstance (.ref 271) (.type "type")) true := looks_instIn XX (by k_is)
  show wpAny _ _ (callAny (.ref 271) _) _ _ _
  refine nd_load hC' ?_
  show wpAny _ _ (callAny.viaDunder (.ref 271) _) _ _ _
  unfold callAny.viaDunder
  refine wpAny_bind (call.at ?_)
  dsimp only
  rw [tc_bind]
  refine wpAny_bind (wpAny_pure (wpAny_bind (wpAny_pure ?_)))
  refine wpAny_pure (a := Fin.again (.call (.builtin "type.__call__") ⟨[.ref 271, x, y], []⟩)) (And.intro rfl ?_)
  refine codeAny_call_builtin_at (Code.quiet_builtin _ (by decide +kernel)) entry_typeCall (check_slot tc_kind tc_split typ (tc_args _ _ _) ?_)
  unfold Builtin.«type.__call__»
  have hm : Looks (model prg w) hh (mroOf (.ref 271)) [.ref 271, .type "tuple", .type "object"] := Looks.of_peek XX (by kernel_rfl)
  have L1 := made271 (M := model prg w) XX
  repeat (first | with_reducible refine gn271 F X ?_ | with_reducible refine wpAny_call ?_ | simp only [Bool.false_eq_true, if_false, List.isEmpty_cons] | lk)
  rw [under_tc]
  refine pnew_ B F X N T hk (by omega) (by omega) fun pt pd h' tk' F' N' => ?_
  have X' := X.keeps F'.keep
  have t1 : Looks (model prg w) h' (typeOf (.ref pt)) (.ref 271) := (Looks.ld (N' _ (.head _)).1).andThen .now
  have t2 : Looks (model prg w) h' (isSubtype (.ref 271) (.ref 271)) true := looks_subIn X' (by k_is)
  have t3 := tl271 (M := model prg w) X'
  have t4 := made271 (M := model prg w) X'
  have t5 : Looks (model prg w) h' (isInstance (.ref pt) (.type "object")) true := t1.andThen (looks_subIn X' (by k_is))
  dsimp only
  unfold isInstance callSpecial? specialOf
  repeat (first | with_reducible refine wpAny_call ?_ | simp only [Bool.not_true, Bool.false_eq_true, if_false, oi_bind] | lk)
  refine codeAny_call_builtin oi_plain entry_oi (@check_slot (model prg w) _ _ _ "object.__init__" "object" "__init__" (.ref pt) [x, y] [] _ oi_kind oi_split t5 (by unfold argsOk; kernel_rfl) ?_)
  unfold Builtin.«object.__init__»
  repeat lk
  exact ret _ pd _ _ F' N'
end Mine

end

section
open PySem PySem.W PyProof.Rows PySem.Calls
namespace Mine
theorem kfill5 : PySem.Challenge.rw_iu0014_01 = PySem.Challenge.rw_iu0014_01 ∧ Mine.Hd.K = Mine.Hd.K := by
  k_fill
  exact ⟨rfl, rfl⟩
set_option maxRecDepth 100000
set_option maxHeartbeats 8000000
theorem ptne_ {w : World} {A : Around} {E : Value → Shared → Prop} {s : Shared} {h₀ : Heap} {L : Addr} {m : Str → Option Value} {Q : Value → Shared → Prop} {S pd : Addr} {x y : Value}
    (hu : A.units < cLine) (F : Fr h₀ L s.heap m) (X₀ : Frag.In (Mine.Hd.K w.params) h₀) (hS : s.heap.get? S = some (ptObj pd #[x, y]))
    (h : Q (.bool false) s) :
    wpAny (model prg w) A (compareOp .NotEq (.ref S) (.ref S)) Q E s := by
  have X := X₀.keeps F.keep
  refine cmp_ofNotEq ?_
  have t1 : Looks (model prg w) s.heap (typeOf (.ref S)) (.ref 271) := (Looks.ld hS).andThen .now
  have t2 : Looks (model prg w) s.heap (typeLookup (.ref 271) "__ne__") (some (.builtin "tuple.__ne__")) := looks_findIn X (by k_is)
  have t3 : Looks (model prg w) s.heap (isInstance (.ref S) (.type "tuple")) true := t1.andThen (looks_subIn X (by k_is))
  have run : ∀ A' E' (Q' : Value → Shared → Prop), Q' (.bool false) s → wpAny (model prg w) A' (call (.builtin "tuple.__ne__") [.ref S, .ref S]) Q' E' s := by
    intro A' E' Q' hq
    refine wpAny_call (codeAny_call_builtin PySem.F.slot_tuple_ne.plain PySem.F.entry_tuple_ne (@check_slot (model prg w) _ _ _ "tuple.__ne__" "tuple" "__ne__" (.ref S) [.ref S] [] _ (by decide +kernel) (by decide +kernel) t3 (PySem.F.args_tuple_ne_2 _ _) ?_))
    obtain ⟨hh, g, d, t, os⟩ := s
    repeat (first | simp only [Bool.not_true, Bool.false_eq_true, if_false, beq_self_eq_true, if_true] | lk)
    exact hq
  have b1 : Looks (model prg w) s.heap (bindSpecial (.builtin "tuple.__ne__") (.ref S)) (.builtin "tuple.__ne__", [.ref S]) := Looks.of_pure (PySem.F.slot_tuple_ne.bind _)
  have one : wpAny (model prg w) A (tryCompare (.ref S) (cmpInfo .NotEq).2.1 (.ref S)) (fun r s' => r = some (.bool false) ∧ Q (.bool false) s') E s := by
    unfold tryCompare
    simp only [callSpecialIfBound?, bindSpecialIfBound?]
    refine wpAny_bind (wpAny_holding (wpAny_bind (wpAny_bind (wpAny_bind (t1.here (t2.here ?_))))))
    refine wpAny_bind (wpAny_askSetting (wpAny_ite ?_))
    have fin : wpAny (model prg w) A (call (.builtin "tuple.__ne__") ([.ref S] ++ [.ref S]) >>= fun v => pure (some v)) (fun a s' => wpAny (model prg w) A (match a with | some .notImplemented | none => pure none | some v => pure (some v)) (fun r s' => r = some (.bool false) ∧ Q (.bool false) s') E s') E s :=
      wpAny_bind (run _ _ _ (wpAny_pure (wpAny_pure ⟨rfl, h⟩)))
    split
    · exact wpAny_bind (b1.here (wpAny_pure (by exact fin)))
    · exact wpAny_tryCatch (wpAny_bind (b1.here (wpAny_pure (by exact fin))))
  unfold richCompare
  simp only [oneThing_ref]
  refine wpAny_holding (wpAny_bind (wpAny_cRoomFor hu ?_))
  refine wpAny_bind (t1.here (wpAny_bind (t1.here ?_)))
  simp only [bne_self_eq_false, Bool.false_eq_true, if_false, Bool.not_false, if_true]
  refine wpAny_bind (wpAny_pure ?_)
  simp only [Bool.false_eq_true, if_false]
  refine wpAny_bind (wpAny_mono one (fun r s' z => ?_) fun _ _ e => e)
  obtain ⟨rfl, hq⟩ := z
  exact wpAny_pure hq
end Mine

end

section
open PySem PySem.W PyProof.Rows PySem.Calls
namespace Mine
abbrev lob (vs : List Value) (c : Nat) : Obj := { cls := .type "list", data := .seq vs.toArray c }
def zints (xs : List Nat) : List Int := xs.map (fun n : Nat => (n : Int))
def IntL (news : Led) (l : Addr) (xs : List Nat) : Prop := ∃ vs c, (l, lob vs c) ∈ news ∧ IntsAre vs (zints xs)
def RefL (news : Led) (l : Addr) (ls : List Addr) : Prop := ∃ c, (l, lob (ls.map Value.ref) c) ∈ news
def Sm (xs : List Nat) : Prop := xs.length ≤ 64 ∧ ∀ x ∈ xs, x < 64
abbrev Zs := List (Addr × List Nat)
structure RR (news : Led) (r : Addr) (Z : Zs) : Prop where
  top : RefL news r (Z.map (·.1))
  row : ∀ z ∈ Z, IntL news z.1 z.2
theorem IntL.mono {news news' : Led} {l : Addr} {xs : List Nat} (h : ∀ p ∈ news, p.2.cls ≠ .type "dict" → p ∈ news') (x : IntL news l xs) : IntL news' l xs := by
  obtain ⟨vs, c, hm, hi⟩ := x
  exact ⟨vs, c, h _ hm (fun e => absurd (Value.type.inj e) (by decide)), hi⟩
theorem IntL.cons {news : Led} {l : Addr} {xs : List Nat} {p : Addr × Obj} (x : IntL news l xs) : IntL (p :: news) l xs := x.mono fun _ h _ => .tail _ h
theorem IntL.here {news : Led} {l : Addr} {xs : List Nat} {vs : List Value} {c : Nat} (x : IntsAre vs (zints xs)) : IntL ((l, lob vs c) :: news) l xs := ⟨vs, c, .head _, x⟩
theorem RefL.mono {news news' : Led} {l : Addr} {xs : List Addr} (h : ∀ p ∈ news, p.2.cls ≠ .type "dict" → p ∈ news') (x : RefL news l xs) : RefL news' l xs := by
  obtain ⟨c, hm⟩ := x
  exact ⟨c, h _ hm (fun e => absurd (Value.type.inj e) (by decide))⟩
theorem RR.mono {news news' : Led} {l : Addr} {Z : Zs} (h : ∀ p ∈ news, p.2.cls ≠ .type "dict" → p ∈ news') (x : RR news l Z) : RR news' l Z := ⟨x.top.mono h, fun z hz => (x.row z hz).mono h⟩

theorem zints_length (xs : List Nat) : (zints xs).length = xs.length := by simp [zints]
theorem zints_any (xs : List Nat) (a : Nat) : (zints xs).any (· == (a : Int)) = decide (a ∈ xs) := by
  induction xs with
  | nil => rfl
  | cons x r ih =>
    show (((x : Int) == (a : Int)) || (zints r).any (· == (a : Int))) = _
    rw [ih]
    by_cases h : x = a
    · subst h; simp
    · have h' : ¬ (x : Int) = (a : Int) := by omega
      have h2 : ¬ a = x := fun e => h e.symm
      simp [h', h2]
theorem zints_idxOf (xs : List Nat) (a : Nat) : (zints xs).idxOf (a : Int) = xs.idxOf a := by
  induction xs with
  | nil => rfl
  | cons x r ih =>
    show ((x : Int) :: zints r).idxOf (a : Int) = _
    rw [List.idxOf_cons, List.idxOf_cons, ih]
    by_cases h : x = a
    · subst h; simp
    · have h' : ¬ (x : Int) = (a : Int) := by omega
      have e1 : ((x : Int) == (a : Int)) = false := by simpa using h'
      have e2 : (x == a) = false := by simpa using h
      rw [e1, e2]
theorem zints_mem {xs : List Nat} {a : Nat} (h : a ∈ xs) : (a : Int) ∈ zints xs := List.mem_map.mpr ⟨a, h, rfl⟩
theorem zints_drop (xs : List Nat) (k : Nat) : (zints xs).drop k = zints (xs.drop k) := by simp [zints, List.map_drop]
theorem zints_take (xs : List Nat) (k : Nat) : (zints xs).take k = zints (xs.take k) := by simp [zints, List.map_take]
theorem zints_append (xs ys : List Nat) : zints xs ++ zints ys = zints (xs ++ ys) := by simp [zints]
theorem zints_getD (xs : List Nat) (k : Nat) : (zints xs).getD k 0 = ((xs.getD k 0 : Nat) : Int) := by
  simp only [List.getD_eq_getElem?_getD, zints, List.getElem?_map]
  cases xs[k]? <;> rfl

theorem weight_small {n : Nat} (h : n < 64) : (PyData.int (n : Int)).weight ≤ 8 := by
  have key : ∀ m, m < 64 → (PyData.int (Int.ofNat m)).weight ≤ 8 := by decide +kernel
  exact key n h
theorem lay_weight : ∀ xs : List Nat, (∀ x ∈ xs, x < 64) → PyData.weightAll ((zints xs).map PyData.int) ≤ 9 * xs.length
  | [], _ => by simp [zints, PyData.weightAll]
  | x :: r, h => by
    have h1 := weight_small (h x (.head _))
    have h2 := lay_weight r fun y hy => h y (.tail _ hy)
    show PyData.weightAll (PyData.int (x : Int) :: (zints r).map PyData.int) ≤ _
    simp only [PyData.weightAll, List.length_cons] at h1 ⊢
    omega
theorem lay_depth : ∀ ns : List Int, PyData.depthAll (ns.map PyData.int) ≤ 1
  | [] => by simp [PyData.depthAll]
  | x :: r => by
    have := lay_depth r
    simp only [List.map_cons, PyData.depthAll, PyData.depth]
    omega
theorem lay_can : ∀ ns : List Int, PyData.canLayAll0 (ns.map PyData.int) = true
  | [] => by simp [PyData.canLayAll0]
  | x :: r => by simp only [List.map_cons, PyData.canLayAll0, PyData.canLay0, lay_can r, Bool.and_self]
theorem lay_small {xs : List Nat} (h : Sm xs) : PyData.layable0 (.list ((zints xs).map PyData.int)) = true := by
  have h1 := lay_weight xs h.2
  have h2 := lay_depth (zints xs)
  have h3 := lay_can (zints xs)
  have h4 := h.1
  show (PyData.canLayAll0 _ && decide (PyData.depth _ ≤ 64) && decide (PyData.weight _ ≤ 2 ^ 20)) = true
  have e : (2 : Nat) ^ 20 = 1048576 := by decide
  refine Bool.and_eq_true_iff.mpr ⟨Bool.and_eq_true_iff.mpr ⟨h3, decide_eq_true ?_⟩, decide_eq_true ?_⟩
  · simp only [PyData.depth]; omega
  · simp only [PyData.weight]; rw [e]; omega

section
variable {w : World} {A : Around} {E : Value → Shared → Prop} {s : Shared} {h₀ : Heap} {L : Addr} {m : Str → Option Value} {news : Led} {l : Addr} {xs : List Nat} {Q : Value → Shared → Prop}
theorem in_row {a : Nat} {t : Tok} (N : News h₀ L s.heap news) (hl : IntL news l xs) (h : Q (.bool (decide (a ∈ xs))) s) : wpAny (model prg w) A (compareOp .In (.int (a : Int) t) (.ref l)) Q E s := by
  obtain ⟨vs, c, hm, hi⟩ := hl
  exact in_list_ints (News.isList N hm) hi (by rw [zints_any]; exact h)
theorem notin_row {a : Nat} {t : Tok} (N : News h₀ L s.heap news) (hl : IntL news l xs) (h : Q (.bool (!decide (a ∈ xs))) s) : wpAny (model prg w) A (compareOp .NotIn (.int (a : Int) t) (.ref l)) Q E s := by
  obtain ⟨vs, c, hm, hi⟩ := hl
  exact notin_list_ints (News.isList N hm) hi (by rw [zints_any]; exact h)
theorem index_row {a : Nat} {t : Tok} (N : News h₀ L s.heap news) (hl : IntL news l xs) (hs : Sm xs) (ha : a ∈ xs) (h : Q (.int ((xs.idxOf a : Nat) : Int) s.toks) { s with toks := s.toks + 1 }) :
    wpAny (model prg w) A (call (.builtin "list.index") [.ref l, .int (a : Int) t]) Q E s := by
  obtain ⟨vs, c, hm, hi⟩ := hl
  exact index_list_ints (News.isList N hm) hi (lay_small hs) (zints_mem ha) (by rw [zints_idxOf]; exact h)
theorem len_row (N : News h₀ L s.heap news) (hl : IntL news l xs) (hs : xs.length < 2 ^ 62) (h : Q (.int ((xs.length : Nat) : Int) (s.toks + 1)) { s with toks := s.toks + 1 + 1 }) :
    wpAny (model prg w) A (call (.builtin "len") [.ref l]) Q E s := by
  obtain ⟨vs, c, hm, hi⟩ := hl
  exact len_ints_fit (News.isList N hm) hi (by rw [zints_length]; exact hs) (by rw [zints_length]; exact h)
theorem item_row {value slice : Expr} {k : Int} {u : Tok} (N : News h₀ L s.heap news) (hl : IntL news l xs) (h0 : 0 ≤ k) (h1 : k < xs.length) (hs : xs.length < 2 ^ 62) (h : ∀ t, Q (.int ((xs.getD k.toNat 0 : Nat) : Int) t) s)
    (hsub : subscripted slice false (.ref l) (.int k u) = operate [.ref l, .int k u] (getItem (.ref l) (.int k u))) (hg : ∀ r, letTemporaryGo value (.ref l) r = pure ()) :
    wpAny (model prg w) A (subscriptTail value slice (.ref l) (.int k u)) Q E s := by
  obtain ⟨vs, c, hm, hi⟩ := hl
  exact item_list_ints (News.isList N hm) hi h0 (by rw [zints_length]; exact h1) (by omega) (fun t => by rw [zints_getD]; exact h t) hsub hg
theorem cat_row {b : Addr} {ys : List Nat} (F : Fr h₀ L s.heap m) (N : News h₀ L s.heap news) (hl : IntL news l xs) (hb : IntL news b ys) (hz : xs.length + ys.length ≤ 1000)
    (h : ∀ D vs h', Fr h₀ L h' m → News h₀ L h' ((D, lob vs 0) :: news) → IntL ((D, lob vs 0) :: news) D (xs ++ ys) → Q (.ref D) { s with heap := h' }) :
    wpAny (model prg w) A (binaryOp .Add (.ref l) (.ref b)) Q E s := by
  obtain ⟨vs, c, hm, hi⟩ := hl
  obtain ⟨ws, d, hm2, hi2⟩ := hb
  refine add_lists_ints F N (News.isList N hm) (News.isList N hm2) hi hi2 (fun h' F' N' hj => h _ (vs ++ ws) h' F' N' (IntL.here (by rw [← zints_append]; exact hj))) (by rw [zints_length, zints_length, sizeLine_eq]; omega)
theorem slice_row {ms : List Nat} {value slice : Expr} {vl vu : Value} {lo hi : Option Int} (F : Fr h₀ L s.heap m) (N : News h₀ L s.heap news) (hl : IntL news l xs) (pl : IsPart vl lo) (pu : IsPart vu hi)
    (hp : ∀ vs, IntsAre vs (zints xs) → IntsAre (slicePick vs.toArray lo hi none).toList (zints ms)) (hz : xs.length ≤ 1000)
    (h : ∀ D vs h', Fr h₀ L h' m → News h₀ L h' ((D, lob vs 0) :: news) → IntL ((D, lob vs 0) :: news) D ms → Q (.ref D) { s with heap := h' })
    (hs : subscripted slice false (.ref l) (.ref s.heap.objs.size) = operate [.ref s.heap.objs.size, .ref l] (getItem (.ref l) (.ref s.heap.objs.size))) (ht : ∀ r, letTemporaryGo value (.ref l) r = pure ()) :
    wpAny (model prg w) A (subscriptTail value slice (.ref l) (.ref s.heap.objs.size)) Q E { s with heap := s.heap.push { cls := .type "slice", data := .fields #[vl, vu, .none] } } := by
  obtain ⟨vs, c, hm, hi'⟩ := hl
  refine kmk_slice F N (News.isList N hm) pl pu (fun D h' F' N' _ => ?_) hs ht (by rw [kmk_size_eq hi', zints_length, sizeLine_eq]; omega)
  have e : listOf (slicePick vs.toArray lo hi none) 0 = lob (slicePick vs.toArray lo hi none).toList 0 := by
    show ({ cls := .type "list", data := .seq (slicePick vs.toArray lo hi none) 0 } : Obj) = _
    rw [Array.toArray_toList]
  rw [e] at N'
  exact h D _ h' F' N' (IntL.here (hp vs hi'))
theorem pick_from {x : Int} (h0 : 0 ≤ x) : ∀ vs, IntsAre vs (zints xs) → IntsAre (slicePick vs.toArray (some x) none none).toList (zints (xs.drop x.toNat)) := fun vs hi => by
  rw [← zints_drop]; exact slice_ints_fromW hi h0
theorem pick_upto {x : Int} (h0 : 0 ≤ x) : ∀ vs, IntsAre vs (zints xs) → IntsAre (slicePick vs.toArray none (some x) none).toList (zints (xs.take x.toNat)) := fun vs hi => by
  rw [← zints_take]; exact slice_ints_uptoW hi h0
theorem pick_both {x y : Int} (h0 : 0 ≤ x) (h1 : x ≤ y) (h2 : y ≤ xs.length) : ∀ vs, IntsAre vs (zints xs) → IntsAre (slicePick vs.toArray (some x) (some y) none).toList (zints ((xs.drop x.toNat).take (y - x).toNat)) := fun vs hi => by
  rw [← zints_take, ← zints_drop]; exact slice_ints hi h0 h1 (by rw [zints_length]; exact h2)
end
end Mine

end

section
open PySem PySem.W PyProof.Rows PySem.Calls
namespace Mine
theorem kfillb2 : PySem.Challenge.rw_iu0014_01 = PySem.Challenge.rw_iu0014_01 ∧ Mine.Hd.K = Mine.Hd.K := by
  k_fill
  exact ⟨rfl, rfl⟩
abbrev zref (Z : Zs) : List Value := (Z.map (·.1)).map Value.ref
open LCg LCt in
theorem comp_rest {w : World} {A : Around} {h₀ : Heap} {L : Addr} {m : Str → Option Value} {env : Env} {ct elt : Expr} {x : Str} {scope : Scope} {cl : List (Str × Addr)} {s : Shared} {S : Led → Prop} {Fin : List Value → Led → Prop} {news : Led} (Z : Zs) (p : List Nat → Bool)
    (hS : S news)
    (test : ∀ z ∈ Z, ∀ I oI C oC D ys m₂ h tk (E' : Value → Shared → Prop) (Qt : Bool → Shared → Prop), NsObj oC m₂ → m₂ x = some (.ref z.1) → Fr h₀ L h m → News h₀ L h ((I, oI) :: (C, oC) :: (D, lst ys) :: news) →
      (∀ h' tk', Fr h₀ L h' m → News h₀ L h' ((I, oI) :: (C, oC) :: (D, lst ys) :: news) → Qt (p z.2) { s with heap := h', toks := tk' }) →
      wpAny (model prg w) A (isTrue ct (compEnvC scope cl C env) (eval ct (compEnvC scope cl C env))) Qt E' { s with heap := h, toks := tk })
    (item : ∀ z ∈ Z, ∀ I oI C oC D ys m₂ h tk (E' : Value → Shared → Prop) (Qt : Value → Shared → Prop), NsObj oC m₂ → m₂ x = some (.ref z.1) → Fr h₀ L h m → News h₀ L h ((I, oI) :: (C, oC) :: (D, lst ys) :: news) →
      (∀ h' tk', Fr h₀ L h' m → News h₀ L h' ((I, oI) :: (C, oC) :: (D, lst ys) :: news) → Qt (.ref z.1) { s with heap := h', toks := tk' }) →
      wpAny (model prg w) A (eval elt (compEnvC scope cl C env)) Qt E' { s with heap := h, toks := tk }) :
    ∀ k i ys, i + k = Z.length → Fin (ys ++ zref ((Z.drop i).filter fun z => p z.2)) news → CompRestT prg w A h₀ L m env ct elt x scope cl s S (fun i v => (zref Z).toArray[i]? = some v) Fin k i ys news := by
  intro k
  induction k with
  | zero =>
    intro i ys hi hf
    refine CompRestT.zero ?_
    rw [List.drop_of_length_le (by omega)] at hf
    simpa using hf
  | succ k ih =>
    intro i ys hi hf
    refine CompRestT.succ ?_
    intro v I oI C oC D m₂ h tk E' hv hC hx F N off _
    have hlt : i < Z.length := by omega
    have e0 : v = .ref Z[i].1 := by
      have hv' : (zref Z)[i]? = some v := by simpa using hv
      rw [List.getElem?_map, List.getElem?_map, List.getElem?_eq_getElem hlt] at hv'
      exact (Option.some.inj hv').symm
    subst e0
    have hz : Z[i] ∈ Z := List.getElem_mem _
    have hd : Z.drop i = Z[i] :: Z.drop (i + 1) := List.drop_eq_getElem_cons hlt
    rw [hd, List.filter_cons] at hf
    refine test Z[i] hz I oI C oC D ys m₂ h tk E' _ hC hx F N fun h' tk' F' N' => ?_
    cases hp : p Z[i].2 with
    | true =>
      simp only [hp, if_true] at hf ⊢
      refine item Z[i] hz I oI C oC D ys m₂ h' tk' E' _ hC hx F' N' fun h2 tk2 F2 N2 => ?_
      refine CompEnd.intro (s₁ := { s with heap := h, toks := tk }) F2 N2 news (fun _ hp => hp) off hS (ih (i + 1) _ (by omega) ?_)
      simpa using hf
    | false =>
      simp only [hp, Bool.false_eq_true, if_false] at hf ⊢
      exact CompEnd.intro (s₁ := { s with heap := h, toks := tk }) F' N' news (fun _ hp => hp) off hS (ih (i + 1) _ (by omega) hf)
end Mine

end

section
open PySem PySem.W PyProof.Rows PySem.Calls
namespace Mine
theorem kfillb3 : PySem.Challenge.rw_iu0014_01 = PySem.Challenge.rw_iu0014_01 ∧ Mine.Hd.K = Mine.Hd.K := by
  k_fill
  exact ⟨rfl, rfl⟩
def Stop (P : Prop) : Prop := P
theorem Stop.out {P : Prop} (h : Stop P) : P := h
local macro_rules | `(tactic| k_room) => `(tactic| ktr_room)
local macro_rules | `(tactic| k_enter) => `(tactic| (refine' code_defC ?k1 ?k2 ?k3 ?k4 ?k5 ?kA ?kF ?kK ?k6 ?k7 ?k8 ?k9 ?kB ?kD ?_ ?c2 ?c3 ?c4; (case kA => exact rfl); (case kF => exact rfl); (case kK => first | exact rfl | assumption); (case k1 => k_asm); (case k2 => k_asm); (case k3 => k_asm); (case k4 => k_asm); (case k5 => k_asm); (case k6 => k_is); (case k7 => k_is); (case k8 => ktr_room); (case k9 => first | exact BindsTo.of_eq rfl | exact binds_K (by k_in) rfl (by k_is) rfl rfl rfl | fail "k_enter: no rule for these arguments"); (case kB => exact rfl); (case kD => decide +kernel); (case c2 => exact rfl); (case c3 => exact rfl); (case c4 => exact rfl); k_whole; intro g' L' h' tk' cells' FG' F' N' Y' B' X' T' l1; (try k_lt l1); k_cells Y'; (try simp only [List.cons_append, List.nil_append] at N'); (try dsimp only); (try k_lift B'); (try k_fold)))
local macro_rules | `(tactic| k_enter) => `(tactic| (refine' code_def ?k1 ?k2 ?k3 ?k4 ?k5 ?kA ?kF ?kK ?k6 ?k7 ?k8 ?k9 ?kB ?_ ?c2 ?c3 ?c4 ?c5; (case kA => exact rfl); (case kF => exact rfl); (case kK => first | exact rfl | assumption); (case k1 => k_asm); (case k2 => k_asm); (case k3 => k_asm); (case k4 => k_asm); (case k5 => k_asm); (case k6 => k_is); (case k7 => k_is); (case k8 => ktr_room); (case k9 => first | exact BindsTo.of_eq rfl | exact binds_K (by k_in) rfl (by k_is) rfl rfl rfl | fail "k_enter: no rule for these arguments"); (case c5 => decide); (case kB => exact locs rfl); (case c2 => exact rfl); (case c3 => exact rfl); (case c4 => exact rfl); k_whole; intro g' L' h' FG' F' N' B' X' T'; (try dsimp only); (try k_fold)))
local macro_rules | `(tactic| walk_at "eval ListComp") => `(tactic| (refine Stop.out ?_))
local macro_rules | `(tactic| walk_at "exec Assign cons ListComp") => `(tactic| (refine Stop.out ?_))

local macro_rules | `(tactic| ktr_rel) => `(tactic| first | assumption | exact IntL.cons (by ktr_rel))
local macro_rules | `(tactic| walk_at "compareOp In int ref") => `(tactic| (k_here; k_dflt (refine' in_row ?k1 ?k2 ?_; (case k1 => k_asm); (case k2 => ktr_rel))))
local macro_rules | `(tactic| walk_at "compareOp NotIn int ref") => `(tactic| (k_here; k_dflt (refine' notin_row ?k1 ?k2 ?_; (case k1 => k_asm); (case k2 => ktr_rel))))

theorem method_row {w : World} {A : Around} {E : Value → Shared → Prop} {s : Shared} {h₀ : Heap} {L : Addr} {news : Led} {l : Addr} {xs : List Nat} {pl : Sem Bool} {Q : Value × List Value → Shared → Prop}
    (N : News h₀ L s.heap news) (hl : IntL news l xs) (h : Q (.builtin "list.index", [.ref l]) s) : wpAny (model prg w) A (getMethod (.ref l) (Str.ofString "index") pl) Q E s := by
  obtain ⟨vs, c, hm, hi⟩ := hl
  exact kf_method (its := vs.toArray) (n := c) N hm PySem.F.slot_list_index PySem.F.type_list_index h
local macro_rules | `(tactic| walk_at "getMethod ref") => `(tactic| (k_here; (with_reducible show wpAny _ _ (getMethod (Value.ref _) (PySem.Str.ofString "index") _) _ _ _); k_dflt (refine' method_row ?k1 ?k2 ?_; (case k1 => k_asm); (case k2 => ktr_rel))))
local macro_rules | `(tactic| walk_at "subscriptTail") => `(tactic| (k_here; (with_reducible show wpAny _ _ (subscriptTail _ _ (Value.ref _) (Value.int _ _)) _ _ _); (with_unfolding_all refine' item_row ?k1 ?k2 ?k3 ?k4 ?k5 ?_ ?k6 ?k7; (case k1 => k_asm); (case k2 => ktr_rel); (case k3 => ktr_unf); (case k4 => ktr_unf); (case k5 => omega); (case k6 => with_unfolding_all rfl); (case k7 => (intro _; with_unfolding_all rfl))); intro ti'))
local macro_rules | `(tactic| ktr_unf) => `(tactic| first | omega | exact fmod_lo _ (by omega) | exact fmod_hi _ (by omega))
local macro_rules | `(tactic| walk_at "call builtin:list.index") => `(tactic| (k_here; k_dflt (refine' index_row ?k1 ?k2 ?k3 ?k4 ?_; (case k1 => k_asm); (case k2 => ktr_rel); (case k3 => assumption); (case k4 => assumption))))
local macro_rules | `(tactic| walk_at "call builtin:len") => `(tactic| (k_here; (with_reducible show wpAny _ _ (call (Value.builtin "len") [Value.ref _]) _ _ _); k_dflt (refine' len_row ?k1 ?k2 ?k3 ?_; (case k1 => k_asm); (case k2 => ktr_rel); (case k3 => omega))))
theorem filt_head (Z : Zs) (p : List Nat → Bool) (h : ∃ z ∈ Z, p z.2 = true) : ∃ z0 zt, Z.filter (fun z => p z.2) = z0 :: zt ∧ z0 ∈ Z ∧ p z0.2 = true ∧ (Z.map (·.2)).find? p = some z0.2 := by
  induction Z with
  | nil => obtain ⟨z, hz, _⟩ := h; cases hz
  | cons z r ih =>
    cases hp : p z.2 with
    | true => exact ⟨z, r.filter (fun z => p z.2), by simp [hp], .head _, hp, by simp [hp]⟩
    | false =>
      obtain ⟨y, hy, hy2⟩ := h
      have hy' : y ∈ r := by
        rcases List.mem_cons.mp hy with rfl | h'
        · rw [hp] at hy2; cases hy2
        · exact h'
      obtain ⟨z0, zt, e1, e2, e3, e4⟩ := ih ⟨y, hy', hy2⟩
      exact ⟨z0, zt, by simp [hp, e1], .tail _ e2, e3, by simp [hp, e4]⟩
def nearN (R : List (List Nat)) (a : Nat) (st : Int) : Nat :=
  match R.find? fun x => decide (a ∈ x) with
  | some x => x.getD (Int.fmod ((x.idxOf a : Int) + st) x.length).toNat 0
  | none => 0

set_option maxRecDepth 100000 in
set_option maxHeartbeats 8000000 in
theorem near_ {w : World} {p : Program} {loose : List Str} {mean : ExcName → Option Value} {mg mb : Str → Option Value}
    {dp un : Nat} {gd : Option (List Code)} {cn : Str} {cs : Scope} {fa : Addr} {ccd : Value} {cl : List (Str × Addr)} {outer : List Env} {A₀ : Around} {base h₀ : Heap} {L : Addr} {m : Str → Option Value} {news : Led} {s : Shared}
    {Q E : Value → Shared → Prop} {r : Addr} {Z : Zs} {a : Nat} {st : Int} {t1 t2 : Tok}
    (B : Below A₀ base outer h₀) (F : Fr h₀ L s.heap m) (X : Frag.In (Mine.Hd.K w.params) h₀) (N : News h₀ L s.heap news) (T : Top p loose mean mg mb h₀) (hk : cs.kind = .function)
    (hd : dp + 2 < recursionLimit) (hu : un + 16 < cLine)
    (hr : RR news r Z) (hZ : Z.length ≤ 64) (hsm : ∀ z ∈ Z, Sm z.2) (ha : ∃ z ∈ Z, a ∈ z.2) (hst : -1 ≤ st ∧ st ≤ 1)
    (ret : ∀ t h' tk', Fr h₀ L h' m → News h₀ L h' news → Q (.int ((nearN (Z.map (·.2)) a st : Nat) : Int) t) { s with heap := h', toks := tk' }) :
    wpAny (model prg w) (ktrTop dp un gd cn cs L fa ccd cl outer) (call (.ref 340) [.ref r, .int (a : Int) t1, .int st t2]) Q E s := by
  obtain ⟨⟨c, hc⟩, hrow⟩ := hr
  refine wpAny_call ?_
  (first | k_dflt k_enter | fail "no enter")
  k_steps
  dsimp only [Stop]
  k_dflt (refine LCt.ListComp_T (F₀ := by k_asm) (by with_unfolding_all rfl) (by decide) (by rfl) (by decide) (by rfl) ?_)
  walk1
  rename News _ _ _ _ => N1
  refine LCt.CompSrcT.ledger (its := (zref Z).toArray) (k := c) (by rfl) (by k_asm) N1 (.tail _ hc) (by simp [sizeLine_eq]; omega) ?_
  intro g'
  refine comp_rest Z (fun x => decide (a ∈ x)) (.inr ⟨_, .tail _ hc, rfl, _, rfl⟩) ?test ?item _ 0 [] (by simp) ?fin
  case test =>
    clear N1
    intro z hz I oI C oC D ys m₂ h tk E' Qt hC hx F' N' hq
    have hI := hrow z hz
    k_steps
    exact hq _ _ (by assumption) (by assumption)
  case item =>
    clear N1
    intro z hz I oI C oC D ys m₂ h tk E' Qt hC hx F' N' hq
    k_steps
    exact hq _ _ (by assumption) (by assumption)
  case fin =>
    obtain ⟨z0, zt, f1, f2, f3, f4⟩ := filt_head Z (fun x => decide (a ∈ x)) (by obtain ⟨z, hz, hz2⟩ := ha; exact ⟨z, hz, by simpa using hz2⟩)
    clear N1
    intro D h' tk' F' N' _
    rw [List.drop_zero, f1] at N'
    rw [List.nil_append] at N'
    replace N' := (show News _ _ _ ((D, LCg.lst (Value.ref z0.1 :: zref zt)) :: _) from N')
    have hI := hrow z0 f2
    have hS := hsm z0 f2
    have hm : a ∈ z0.2 := by simpa using f3
    have hl : z0.2.length < 2 ^ 62 := by have := hS.1; omega
    have hp : 0 < z0.2.length := List.length_pos_of_mem hm
    have hx : z0.2.idxOf a < z0.2.length := List.idxOf_lt_length_iff.mpr hm
    have hz := hS.1
    dsimp only
    k_steps
    have e : nearN (Z.map (·.2)) a st = z0.2.getD (Int.fmod ((z0.2.idxOf a : Int) + st) z0.2.length).toNat 0 := by unfold nearN; rw [f4]
    rw [← e]
    exact ret _ _ _ (by assumption) (fun p hp => (by assumption : News h₀ L _ _) p (.tail _ (.tail _ hp)))
end Mine

end

section
open PySem PySem.W PyProof.Rows PySem.Calls
namespace Mine
theorem kfillb4 : PySem.Challenge.rw_iu0014_01 = PySem.Challenge.rw_iu0014_01 ∧ Mine.Hd.K = Mine.Hd.K := by
  k_fill
  exact ⟨rfl, rfl⟩
local macro_rules | `(tactic| k_room) => `(tactic| ktr_room)
local macro_rules | `(tactic| k_enter) => `(tactic| (refine' code_defC ?k1 ?k2 ?k3 ?k4 ?k5 ?kA ?kF ?kK ?k6 ?k7 ?k8 ?k9 ?kB ?kD ?_ ?c2 ?c3 ?c4; (case kA => exact rfl); (case kF => exact rfl); (case kK => first | exact rfl | assumption); (case k1 => k_asm); (case k2 => k_asm); (case k3 => k_asm); (case k4 => k_asm); (case k5 => k_asm); (case k6 => k_is); (case k7 => k_is); (case k8 => ktr_room); (case k9 => first | exact BindsTo.of_eq rfl | exact binds_K (by k_in) rfl (by k_is) rfl rfl rfl | fail "k_enter: no rule for these arguments"); (case kB => exact rfl); (case kD => decide +kernel); (case c2 => exact rfl); (case c3 => exact rfl); (case c4 => exact rfl); k_whole; intro g' L' h' tk' cells' FG' F' N' Y' B' X' T' l1; (try k_lt l1); k_cells Y'; (try simp only [List.cons_append, List.nil_append] at N'); (try dsimp only); (try k_lift B'); (try k_fold)))
local macro_rules | `(tactic| k_enter) => `(tactic| (refine' code_def ?k1 ?k2 ?k3 ?k4 ?k5 ?kA ?kF ?kK ?k6 ?k7 ?k8 ?k9 ?kB ?_ ?c2 ?c3 ?c4 ?c5; (case kA => exact rfl); (case kF => exact rfl); (case kK => first | exact rfl | assumption); (case k1 => k_asm); (case k2 => k_asm); (case k3 => k_asm); (case k4 => k_asm); (case k5 => k_asm); (case k6 => k_is); (case k7 => k_is); (case k8 => ktr_room); (case k9 => first | exact BindsTo.of_eq rfl | exact binds_K (by k_in) rfl (by k_is) rfl rfl rfl | fail "k_enter: no rule for these arguments"); (case c5 => decide); (case kB => exact locs rfl); (case c2 => exact rfl); (case c3 => exact rfl); (case c4 => exact rfl); k_whole; intro g' L' h' FG' F' N' B' X' T'; (try dsimp only); (try k_fold)))
local macro_rules | `(tactic| walk_at "eval ListComp") => `(tactic| (refine Stop.out ?_))
local macro_rules | `(tactic| walk_at "exec Assign cons ListComp") => `(tactic| (refine Stop.out ?_))

theorem oth_even {a : Nat} (h : Int.fmod (a : Int) 2 = 0) : (a : Int) + 1 = ((oth a : Nat) : Int) := by
  rw [Int.fmod_eq_emod_of_nonneg _ (by omega)] at h
  unfold oth
  rw [if_pos (by omega)]
  omega
theorem oth_odd {a : Nat} (h : Int.fmod (a : Int) 2 ≠ 0) : (a : Int) - 1 = ((oth a : Nat) : Int) := by
  rw [Int.fmod_eq_emod_of_nonneg _ (by omega)] at h
  unfold oth
  rw [if_neg (by omega)]
  omega
set_option maxRecDepth 100000 in
set_option maxHeartbeats 8000000 in
theorem other_ {w : World} {p : Program} {loose : List Str} {mean : ExcName → Option Value} {mg mb : Str → Option Value}
    {dp un : Nat} {gd : Option (List Code)} {cn : Str} {cs : Scope} {fa : Addr} {ccd : Value} {cl : List (Str × Addr)} {outer : List Env} {A₀ : Around} {base h₀ : Heap} {L : Addr} {m : Str → Option Value} {news : Led} {s : Shared}
    {Q E : Value → Shared → Prop} {a : Nat} {t1 : Tok}
    (B : Below A₀ base outer h₀) (F : Fr h₀ L s.heap m) (X : Frag.In (Mine.Hd.K w.params) h₀) (N : News h₀ L s.heap news) (T : Top p loose mean mg mb h₀) (hk : cs.kind = .function)
    (hd : dp + 2 < recursionLimit) (hu : un + 16 < cLine) (ha : a < 64)
    (ret : ∀ t h' tk', Fr h₀ L h' m → News h₀ L h' news → Q (.int ((oth a : Nat) : Int) t) { s with heap := h', toks := tk' }) :
    wpAny (model prg w) (ktrTop dp un gd cn cs L fa ccd cl outer) (call (.ref 347) [.int (a : Int) t1]) Q E s := by
  refine wpAny_call ?_
  (first | k_dflt k_enter | fail "no enter")
  k_steps
  · rw [oth_even (by assumption)]; exact ret _ _ _ (by assumption) (by assumption)
  · rw [oth_odd (by assumption)]; exact ret _ _ _ (by assumption) (by assumption)

theorem IntL.one {news : Led} {l : Addr} {a : Nat} {t : Tok} {c : Nat} : IntL ((l, lob [.int (a : Int) t] c) :: news) l [a] := IntL.here (xs := [a]) (.cons _ _ .nil)
theorem pick_fromN {xs : List Nat} {k : Nat} : ∀ vs, IntsAre vs (zints xs) → IntsAre (slicePick vs.toArray (some (k : Int)) none none).toList (zints (xs.drop k)) := pick_from (x := (k : Int)) (by omega)
theorem pick_uptoN {xs : List Nat} {k : Nat} : ∀ vs, IntsAre vs (zints xs) → IntsAre (slicePick vs.toArray none (some (k : Int)) none).toList (zints (xs.take k)) := pick_upto (x := (k : Int)) (by omega)
theorem pick_fromS {xs : List Nat} {k : Nat} : ∀ vs, IntsAre vs (zints xs) → IntsAre (slicePick vs.toArray (some ((k : Int) + 1)) none none).toList (zints (xs.drop (k + 1))) := pick_fromN (k := k + 1)
theorem pick_from1 {xs : List Nat} : ∀ vs, IntsAre vs (zints xs) → IntsAre (slicePick vs.toArray (some 1) none none).toList (zints (xs.drop 1)) := pick_fromN (k := 1)
theorem pick_1N {xs : List Nat} {k : Nat} (h1 : 1 ≤ k) (h2 : k ≤ xs.length) : ∀ vs, IntsAre vs (zints xs) → IntsAre (slicePick vs.toArray (some 1) (some (k : Int)) none).toList (zints ((xs.drop 1).take (k - 1))) := fun vs hi => by
  have h := pick_both (xs := xs) (x := 1) (y := (k : Int)) (by omega) (by omega) (by omega) vs hi
  have e : ((k : Int) - 1).toNat = k - 1 := by omega
  rw [e] at h
  exact h
theorem rot_head {xs : List Nat} {a : Nat} (ha : a ∈ xs) : xs.drop (xs.idxOf a) ++ xs.take (xs.idxOf a) = a :: (xs.drop (xs.idxOf a + 1) ++ xs.take (xs.idxOf a)) := by
  have h : xs.idxOf a < xs.length := List.idxOf_lt_length_iff.mpr ha
  rw [List.drop_eq_getElem_cons h, List.getElem_idxOf h, List.cons_append]
theorem rot_pos {xs : List Nat} {a b : Nat} (ha : a ∈ xs) (hab : a ≠ b) : 1 ≤ (xs.drop (xs.idxOf a) ++ xs.take (xs.idxOf a)).idxOf b := by
  rw [rot_head ha, List.idxOf_cons]
  have e : (a == b) = false := by simpa using hab
  rw [e]
  simp
theorem pick_rot {xs : List Nat} {a b : Nat} (ha : a ∈ xs) (hab : a ≠ b) : ∀ vs, IntsAre vs (zints (xs.drop (xs.idxOf a) ++ xs.take (xs.idxOf a))) →
    IntsAre (slicePick vs.toArray (some 1) (some (((xs.drop (xs.idxOf a) ++ xs.take (xs.idxOf a)).idxOf b : Nat) : Int)) none).toList (zints (((xs.drop (xs.idxOf a) ++ xs.take (xs.idxOf a)).drop 1).take ((xs.drop (xs.idxOf a) ++ xs.take (xs.idxOf a)).idxOf b - 1))) :=
  pick_1N (rot_pos ha hab) List.idxOf_le_length
theorem rot_sm {xs : List Nat} {a : Nat} (h : Sm xs) : Sm (xs.drop (xs.idxOf a) ++ xs.take (xs.idxOf a)) := by
  refine ⟨?_, fun x hx => ?_⟩
  · have := h.1
    simp only [List.length_append, List.length_drop, List.length_take]
    omega
  · rcases List.mem_append.mp hx with h' | h'
    · exact h.2 x (List.mem_of_mem_drop h')
    · exact h.2 x (List.mem_of_mem_take h')
theorem refcat_ {w : World} {A : Around} {E : Value → Shared → Prop} {s : Shared} {h₀ : Heap} {L : Addr} {m : Str → Option Value} {news : Led} {l b : Addr} {vs ws : List Value} {c d : Nat} {Q : Value → Shared → Prop}
    (F : Fr h₀ L s.heap m) (N : News h₀ L s.heap news) (hl : (l, lob vs c) ∈ news) (hb : (b, lob ws d) ∈ news) (hz : vs.length + ws.length ≤ 1000)
    (h : ∀ D h', Fr h₀ L h' m → News h₀ L h' ((D, lob (vs ++ ws) 0) :: news) → Q (.ref D) { s with heap := h' }) :
    wpAny (model prg w) A (binaryOp .Add (.ref l) (.ref b)) Q E s :=
  add_lists F N (News.isList N hl) (News.isList N hb) (fun h' F' N' => h _ h' F' N') (by rw [sizeLine_eq]; omega)
local macro_rules | `(tactic| ktr_rel) => `(tactic| first | assumption | exact IntL.one | exact IntL.cons (by ktr_rel))
local macro_rules | `(tactic| ktr_unf) => `(tactic| first | omega | exact fmod_lo _ (by omega) | exact fmod_hi _ (by omega) | ((simp only [List.length_append, List.length_drop, List.length_take, List.length_cons, List.length_nil, List.length_map]); omega))
local macro_rules | `(tactic| walk_at "subscriptTail Name Slice ref ref") => `(tactic| (k_here; (with_reducible show wpAny _ _ (subscriptTail _ (PySem.Expr.Slice _ _ none _) (Value.ref _) (Value.ref _)) _ _ _); k_dflt (refine' slice_row ?F ?N ?l ?p ?q ?h ?z ?_ ?s ?t; (case F => k_asm); (case N => k_asm); (case l => ktr_rel); (case p => kmk_part); (case q => kmk_part); (case h => first | with_reducible exact pick_fromN | with_reducible exact pick_uptoN | with_reducible exact pick_from1 | with_reducible exact pick_fromS | with_reducible exact pick_rot (by assumption) (by assumption) | exact pick_from1 | exact pick_rot (by assumption) (by assumption)); (case z => ktr_unf); (case s => with_unfolding_all rfl); (case t => kmk_pure)); intro D' vs' h' F' N' i'; (try k_sweep)))
local macro_rules | `(tactic| walk_at "binaryOp Add ref ref") => `(tactic| (k_here; (with_reducible show wpAny _ _ (binaryOp _ (Value.ref _) (Value.ref _)) _ _ _); k_dflt (refine' refcat_ ?F ?N ?a ?b ?z ?_; (case F => k_asm); (case N => k_asm); (case a => k_mem); (case b => k_mem); (case z => ktr_unf); intro D' h' F' N'; (try k_sweep))))
local macro_rules | `(tactic| walk_at "binaryOp Add ref ref") => `(tactic| (k_here; (with_reducible show wpAny _ _ (binaryOp _ (Value.ref _) (Value.ref _)) _ _ _); k_dflt (refine' cat_row ?F ?N ?a ?b ?z ?_; (case F => k_asm); (case N => k_asm); (case a => ktr_rel); (case b => ktr_rel); (case z => ktr_unf); intro D' vs' h' F' N' i'; (try k_sweep))))
local macro_rules | `(tactic| walk_at "compareOp In int ref") => `(tactic| (k_here; k_dflt (refine' in_row ?k1 ?k2 ?_; (case k1 => k_asm); (case k2 => ktr_rel))))
local macro_rules | `(tactic| walk_at "compareOp NotIn int ref") => `(tactic| (k_here; k_dflt (refine' notin_row ?k1 ?k2 ?_; (case k1 => k_asm); (case k2 => ktr_rel))))
local macro_rules | `(tactic| walk_at "getMethod ref") => `(tactic| (k_here; (with_reducible show wpAny _ _ (getMethod (Value.ref _) (PySem.Str.ofString "index") _) _ _ _); k_dflt (refine' method_row ?k1 ?k2 ?_; (case k1 => k_asm); (case k2 => ktr_rel))))
local macro_rules | `(tactic| walk_at "call builtin:list.index") => `(tactic| (k_here; k_dflt (refine' index_row ?k1 ?k2 ?k3 ?k4 ?_; (case k1 => k_asm); (case k2 => ktr_rel); (case k3 => assumption); (case k4 => assumption))))

def rotN (xs : List Nat) (a : Nat) : List Nat := xs.drop (xs.idxOf a) ++ xs.take (xs.idxOf a)
def ringOf (R : List (List Nat)) (a : Nat) : List Nat := (R.find? fun x => decide (a ∈ x)).getD []
def spliceN (R : List (List Nat)) (a b : Nat) : List (List Nat) :=
  if a = b then R else
  if b ∈ rotN (ringOf R a) a then
    R.filter (fun x => !decide (a ∈ x) && !decide (b ∈ x)) ++ [[a] ++ (rotN (ringOf R a) a).drop ((rotN (ringOf R a) a).idxOf b + 1), [b] ++ ((rotN (ringOf R a) a).drop 1).take ((rotN (ringOf R a) a).idxOf b - 1)]
  else
    R.filter (fun x => !decide (a ∈ x) && !decide (b ∈ x)) ++ [[a] ++ (rotN (ringOf R b) b).drop 1 ++ [b] ++ (rotN (ringOf R a) a).drop 1]

theorem rr_two {ledger : Led} {D d1 d2 : Addr} {c : Nat} {Y : Zs} {x1 x2 : List Nat} (hm : (D, lob (zref Y ++ [.ref d1, .ref d2]) c) ∈ ledger) (hY : ∀ z ∈ Y, IntL ledger z.1 z.2) (h1 : IntL ledger d1 x1) (h2 : IntL ledger d2 x2) :
    RR ledger D (Y ++ [(d1, x1), (d2, x2)]) := by
  refine ⟨⟨c, ?_⟩, fun z hz => ?_⟩
  · have e : ((Y ++ [(d1, x1), (d2, x2)]).map (·.1)).map Value.ref = zref Y ++ [.ref d1, .ref d2] := by simp
    rw [e]; exact hm
  · rcases List.mem_append.mp hz with h | h
    · exact hY z h
    · rcases List.mem_cons.mp h with rfl | h
      · exact h1
      · rw [List.mem_singleton.mp h]; exact h2
theorem rr_one {ledger : Led} {D d1 : Addr} {c : Nat} {Y : Zs} {x1 : List Nat} (hm : (D, lob (zref Y ++ [.ref d1]) c) ∈ ledger) (hY : ∀ z ∈ Y, IntL ledger z.1 z.2) (h1 : IntL ledger d1 x1) :
    RR ledger D (Y ++ [(d1, x1)]) := by
  refine ⟨⟨c, ?_⟩, fun z hz => ?_⟩
  · have e : ((Y ++ [(d1, x1)]).map (·.1)).map Value.ref = zref Y ++ [.ref d1] := by simp
    rw [e]; exact hm
  · rcases List.mem_append.mp hz with h | h
    · exact hY z h
    · rw [List.mem_singleton.mp h]; exact h1
theorem rest_eq {Z : Zs} {p : List Nat → Bool} {Y : Zs} (hY : List.filter (fun z : Addr × List Nat => p z.2) Z = Y) : (Z.map (·.2)).filter p = Y.map (·.2) := by
  rw [← hY, List.filter_map]; rfl
theorem spliceN_in {Z Y : Zs} {a b : Nat} {xs : List Nat} {d1 d2 : Addr} (hab : a ≠ b) (f4 : (Z.map (·.2)).find? (fun x => decide (a ∈ x)) = some xs) (hb : b ∈ xs.drop (xs.idxOf a) ++ xs.take (xs.idxOf a))
    (hY : List.filter (fun z : Addr × List Nat => (fun x => !decide (a ∈ x) && !decide (b ∈ x)) z.2) Z = Y) :
    (Y ++ [(d1, [a] ++ (xs.drop (xs.idxOf a) ++ xs.take (xs.idxOf a)).drop ((xs.drop (xs.idxOf a) ++ xs.take (xs.idxOf a)).idxOf b + 1)),
      (d2, [b] ++ ((xs.drop (xs.idxOf a) ++ xs.take (xs.idxOf a)).drop 1).take ((xs.drop (xs.idxOf a) ++ xs.take (xs.idxOf a)).idxOf b - 1))]).map (·.2) = spliceN (Z.map (·.2)) a b := by
  have e : ringOf (Z.map (·.2)) a = xs := by unfold ringOf; rw [f4]; rfl
  unfold spliceN
  rw [if_neg hab, e, if_pos (show b ∈ rotN xs a from hb), rest_eq hY, List.map_append]
  rfl
theorem spliceN_out {Z Y : Zs} {a b : Nat} {xs ys : List Nat} {d1 : Addr} (hab : a ≠ b) (f4 : (Z.map (·.2)).find? (fun x => decide (a ∈ x)) = some xs) (f5 : (Z.map (·.2)).find? (fun x => decide (b ∈ x)) = some ys) (hb : ¬ b ∈ xs.drop (xs.idxOf a) ++ xs.take (xs.idxOf a))
    (hY : List.filter (fun z : Addr × List Nat => (fun x => !decide (a ∈ x) && !decide (b ∈ x)) z.2) Z = Y) :
    (Y ++ [(d1, [a] ++ (ys.drop (ys.idxOf b) ++ ys.take (ys.idxOf b)).drop 1 ++ [b] ++ (xs.drop (xs.idxOf a) ++ xs.take (xs.idxOf a)).drop 1)]).map (·.2) = spliceN (Z.map (·.2)) a b := by
  have e : ringOf (Z.map (·.2)) a = xs := by unfold ringOf; rw [f4]; rfl
  have e2 : ringOf (Z.map (·.2)) b = ys := by unfold ringOf; rw [f5]; rfl
  unfold spliceN
  rw [if_neg hab, e, e2, if_neg (show ¬ b ∈ rotN xs a from hb), rest_eq hY, List.map_append]
  rfl

set_option maxRecDepth 100000 in
set_option maxHeartbeats 8000000 in
theorem lsplice_ {w : World} {p : Program} {loose : List Str} {mean : ExcName → Option Value} {mg mb : Str → Option Value}
    {dp un : Nat} {gd : Option (List Code)} {cn : Str} {cs : Scope} {fa : Addr} {ccd : Value} {cl : List (Str × Addr)} {outer : List Env} {A₀ : Around} {base h₀ : Heap} {L : Addr} {m : Str → Option Value} {news : Led} {s : Shared}
    {Q E : Value → Shared → Prop} {r : Addr} {Z : Zs} {a b : Nat} {t1 t2 : Tok}
    (B : Below A₀ base outer h₀) (F : Fr h₀ L s.heap m) (X : Frag.In (Mine.Hd.K w.params) h₀) (N : News h₀ L s.heap news) (T : Top p loose mean mg mb h₀) (hk : cs.kind = .function)
    (hd : dp + 2 < recursionLimit) (hu : un + 16 < cLine)
    (hr : RR news r Z) (hZ : Z.length ≤ 64) (hsm : ∀ z ∈ Z, Sm z.2) (ha : ∃ z ∈ Z, a ∈ z.2) (hb : ∃ z ∈ Z, b ∈ z.2)
    (ret : ∀ r' Z' h' tk' news', Fr h₀ L h' m → News h₀ L h' news' → (∀ p ∈ news, p ∈ news') → RR news' r' Z' → Z'.map (·.2) = spliceN (Z.map (·.2)) a b → Q (.ref r') { s with heap := h', toks := tk' }) :
    wpAny (model prg w) (ktrTop dp un gd cn cs L fa ccd cl outer) (call (.ref 335) [.ref r, .int (a : Int) t1, .int (b : Int) t2]) Q E s := by
  obtain ⟨⟨c, hc⟩, hrow⟩ := id hr
  refine wpAny_call ?_
  (first | k_dflt k_enter | fail "no enter")
  k_steps
  · have hab : a = b := by omega
    exact ret r Z _ _ _ (by assumption) (fun p hp => (by assumption : News h₀ L _ _) p (.tail _ (.tail _ hp))) (fun _ h => h) hr (by unfold spliceN; rw [if_pos hab])
  have hab : a ≠ b := by omega
  dsimp only [Stop]
  k_dflt (refine LCt.Assign_ListComp_T (F₀ := by k_asm) (by rfl) (by with_unfolding_all rfl) (by with_unfolding_all rfl) (by decide) (by rfl) (by decide) (by rfl) (by rfl) (by rfl) ?_)
  walk1
  rename News _ _ _ _ => N1
  refine LCt.CompSrcT.ledger (its := (zref Z).toArray) (k := c) (by rfl) (by k_asm) N1 (.tail _ (.tail _ hc)) (by simp [sizeLine_eq]; omega) ?_
  intro g'
  refine comp_rest Z (fun x => !decide (a ∈ x) && !decide (b ∈ x)) (.inr ⟨_, .tail _ (.tail _ hc), rfl, _, rfl⟩) ?test ?item _ 0 [] (by simp) ?fin
  case test =>
    clear N1
    intro z hz I oI C oC D ys m₂ h tk E' Qt hC hx F' N' hq
    have hI := hrow z hz
    k_steps
    · rename_i u1
      have e : (!decide (a ∈ z.2) && !decide (b ∈ z.2)) = false := by simp [u1]
      rw [e] at hq
      exact hq _ _ (by assumption) (by assumption)
    · rename_i u1 u2
      have e : (!decide (a ∈ z.2) && !decide (b ∈ z.2)) = false := by simp [u2]
      rw [e] at hq
      exact hq _ _ (by assumption) (by assumption)
    · rename_i u1 u2
      have e : (!decide (a ∈ z.2) && !decide (b ∈ z.2)) = true := by simp [u1, u2]
      rw [e] at hq
      exact hq _ _ (by assumption) (by assumption)
  case item =>
    clear N1
    intro z hz I oI C oC D ys m₂ h tk E' Qt hC hx F' N' hq
    k_steps
    exact hq _ _ (by assumption) (by assumption)
  case fin =>
    clear N1
    intro D1 h1 tk1 F1 N1 _
    rw [List.drop_zero, List.nil_append] at N1
    generalize hY : List.filter (fun z : Addr × List Nat => (fun x => !decide (a ∈ x) && !decide (b ∈ x)) z.2) Z = Y at N1
    have hYl : Y.length ≤ 64 := by rw [← hY]; exact Nat.le_trans (List.length_filter_le _ _) hZ
    have hYs : ∀ z ∈ Y, z ∈ Z := by intro z hz; rw [← hY] at hz; exact (List.mem_filter.mp hz).1
    dsimp only
    k_steps
    dsimp only [Stop]
    k_dflt (refine LCt.ListComp_T (F₀ := by k_asm) (by with_unfolding_all rfl) (by decide) (by rfl) (by decide) (by rfl) ?_)
    walk1
    refine LCt.CompSrcT.ledger (its := (zref Z).toArray) (k := c) (by rfl) (by k_asm) N1 (.tail _ (.tail _ (.tail _ hc))) (by simp [sizeLine_eq]; omega) ?_
    intro g2'
    refine comp_rest Z (fun x => decide (a ∈ x)) (.inr ⟨_, .tail _ (.tail _ (.tail _ hc)), rfl, _, rfl⟩) ?test2 ?item2 _ 0 [] (by simp) ?fin2
    case test2 =>
      clear N1
      intro z hz I oI C oC D ys m₂ h tk E' Qt hC hx F' N' hq
      have hI := hrow z hz
      k_steps
      exact hq _ _ (by assumption) (by assumption)
    case item2 =>
      clear N1
      intro z hz I oI C oC D ys m₂ h tk E' Qt hC hx F' N' hq
      k_steps
      exact hq _ _ (by assumption) (by assumption)
    obtain ⟨z0, zt, f1, f2, f3, f4⟩ := filt_head Z (fun x => decide (a ∈ x)) (by obtain ⟨z, hz, hz2⟩ := ha; exact ⟨z, hz, by simpa using hz2⟩)
    clear N1 F1
    intro D2 h2 tk2 F2 N2 _
    rw [List.drop_zero, f1, List.nil_append] at N2
    replace N2 := (show News _ _ _ ((D2, LCg.lst (Value.ref z0.1 :: zref zt)) :: _) from N2)
    have hI := hrow z0 f2
    have hS := hsm z0 f2
    have hm : a ∈ z0.2 := by simpa using f3
    have hl : z0.2.length < 2 ^ 62 := by have := hS.1; omega
    have hx : z0.2.idxOf a < z0.2.length := List.idxOf_lt_length_iff.mpr hm
    have hz := hS.1
    dsimp only
    have hS1 := rot_sm (a := a) hS
    k_steps
    · refine ret _ _ _ _ _ (by assumption) (by assumption) (fun p hp => by repeat (first | exact hp | apply List.Mem.tail)) (rr_two (List.Mem.head _) (fun z hz => by have := hrow z (hYs z hz); ktr_rel) (by ktr_rel) (by ktr_rel)) (spliceN_in hab f4 (by assumption) hY)
    have hnb : ¬ b ∈ z0.2.drop (z0.2.idxOf a) ++ z0.2.take (z0.2.idxOf a) := by assumption
    dsimp only [Stop]
    k_dflt (refine LCt.ListComp_T (F₀ := by k_asm) (by with_unfolding_all rfl) (by decide) (by rfl) (by decide) (by rfl) ?_)
    walk1
    rename News _ _ _ _ => N3
    refine LCt.CompSrcT.ledger (its := (zref Z).toArray) (k := c) (by rfl) (by k_asm) N3 (by repeat (first | exact hc | apply List.Mem.tail)) (by simp [sizeLine_eq]; omega) ?_
    intro g3'
    refine comp_rest Z (fun x => decide (b ∈ x)) (.inr ⟨_, (by repeat (first | exact hc | apply List.Mem.tail)), rfl, _, rfl⟩) ?test3 ?item3 _ 0 [] (by simp) ?fin3
    case test3 =>
      clear N3
      intro z hz I oI C oC D ys m₂ h tk E' Qt hC hx F' N' hq
      have hI := hrow z hz
      k_steps
      exact hq _ _ (by assumption) (by assumption)
    case item3 =>
      clear N3
      intro z hz I oI C oC D ys m₂ h tk E' Qt hC hx F' N' hq
      k_steps
      exact hq _ _ (by assumption) (by assumption)
    obtain ⟨z1, zt1, u1, u2, u3, u4⟩ := filt_head Z (fun x => decide (b ∈ x)) (by obtain ⟨z, hz, hz2⟩ := hb; exact ⟨z, hz, by simpa using hz2⟩)
    clear N3
    intro D3 h3 tk3 F3 N3 _
    rw [List.drop_zero, u1, List.nil_append] at N3
    replace N3 := (show News _ _ _ ((D3, LCg.lst (Value.ref z1.1 :: zref zt1)) :: _) from N3)
    have hI1 := hrow z1 u2
    have hS2 := hsm z1 u2
    have hm2 : b ∈ z1.2 := by simpa using u3
    have hl2 : z1.2.length < 2 ^ 62 := by have := hS2.1; omega
    have hx2 : z1.2.idxOf b < z1.2.length := List.idxOf_lt_length_iff.mpr hm2
    have hz2 := hS2.1
    dsimp only
    k_steps
    refine ret _ _ _ _ _ (by assumption) (by assumption) (fun p hp => by repeat (first | exact hp | apply List.Mem.tail)) (rr_one (List.Mem.head _) (fun z hz => by have := hrow z (hYs z hz); ktr_rel) (by ktr_rel)) (spliceN_out hab f4 u4 hnb hY)
end Mine

end

section
open PySem PySem.W PyProof.Rows PySem.Calls
namespace Mine

def Path (σ : Nat → Nat) : Nat → List Nat → Nat → Prop
  | a, [], b => σ a = b
  | a, x :: xs, b => σ a = x ∧ Path σ x xs b
def Cyc (σ : Nat → Nat) (xs : List Nat) : Prop := ∃ a t, xs = a :: t ∧ Path σ a t a
theorem Path.append {σ : Nat → Nat} : ∀ {a : Nat} {xs : List Nat} {y : Nat} {ys : List Nat} {b : Nat}, Path σ a (xs ++ y :: ys) b ↔ Path σ a xs y ∧ Path σ y ys b
  | a, [], y, ys, b => Iff.rfl
  | a, x :: xs, y, ys, b => by
    show (σ a = x ∧ Path σ x (xs ++ y :: ys) b) ↔ (σ a = x ∧ Path σ x xs y) ∧ Path σ y ys b
    rw [Path.append]
    exact ⟨fun ⟨h1, h2, h3⟩ => ⟨⟨h1, h2⟩, h3⟩, fun ⟨⟨h1, h2⟩, h3⟩ => ⟨h1, h2, h3⟩⟩
theorem Path.swap {σ σ' : Nat → Nat} : ∀ {p p' : Nat} {xs : List Nat} {q : Nat}, Path σ p xs q → σ' p' = σ p → (∀ x ∈ xs, σ' x = σ x) → Path σ' p' xs q
  | p, p', [], q, h, e, _ => by show σ' p' = q; rw [e]; exact h
  | p, p', x :: xs, q, h, e, hx => ⟨by rw [e]; exact h.1, h.2.swap (hx x (.head _)) fun y hy => hx y (.tail _ hy)⟩
theorem Cyc.rot {σ : Nat → Nat} {xs ys : List Nat} (h : Cyc σ (xs ++ ys)) : Cyc σ (ys ++ xs) := by
  obtain ⟨a, t, e, hp⟩ := h
  cases xs with
  | nil => rw [List.append_nil]; exact ⟨a, t, e, hp⟩
  | cons x xs =>
    cases ys with
    | nil => rw [List.append_nil] at e; exact ⟨a, t, by simpa using e, hp⟩
    | cons y ys =>
      rw [List.cons_append] at e
      injection e with e1 e2
      subst e1 e2
      obtain ⟨h1, h2⟩ := Path.append.mp hp
      exact ⟨y, ys ++ x :: xs, rfl, Path.append.mpr ⟨h2, h1⟩⟩
theorem Path.get {σ : Nat → Nat} : ∀ {a : Nat} {t : List Nat} {b : Nat}, Path σ a t b → ∀ i, i < t.length + 1 → σ ((a :: t).getD i 0) = ((a :: t) ++ [b]).getD (i + 1) 0
  | a, [], b, h, 0, _ => h
  | a, [], b, h, i + 1, hi => by simp at hi
  | a, x :: xs, b, h, 0, _ => h.1
  | a, x :: xs, b, h, i + 1, hi => Path.get h.2 i (by simpa using hi)
theorem Cyc.get {σ : Nat → Nat} {xs : List Nat} (h : Cyc σ xs) (i : Nat) (hi : i < xs.length) : σ (xs.getD i 0) = xs.getD ((i + 1) % xs.length) 0 := by
  obtain ⟨a, t, rfl, hp⟩ := h
  rw [List.length_cons] at hi
  rw [hp.get i hi]
  by_cases h1 : i + 1 < (a :: t).length
  · rw [Nat.mod_eq_of_lt h1, List.getD_eq_getElem?_getD, List.getD_eq_getElem?_getD, List.getElem?_append_left h1]
  · have e : i + 1 = (a :: t).length := by rw [List.length_cons] at h1 ⊢; omega
    rw [e, Nat.mod_self, List.getD_eq_getElem?_getD, List.getElem?_append_right (Nat.le_refl _), Nat.sub_self]
    rfl

structure Inv (n : Nat) (σ τ : Nat → Nat) (R : List (List Nat)) : Prop where
  cnt : ∀ x, R.flatten.count x = if x < n then 1 else 0
  len : R.flatten.length = n
  cyc : ∀ xs ∈ R, Cyc σ xs
  st : ∀ c, c < n → σ (τ c) = c
  ts : ∀ c, c < n → τ (σ c) = c
  cσ : Cl n σ
  cτ : Cl n τ

section
variable {n : Nat} {σ τ : Nat → Nat} {R : List (List Nat)}
theorem Inv.has (v : Inv n σ τ R) {a : Nat} (ha : a < n) : ∃ xs ∈ R, a ∈ xs := by
  have h := v.cnt a
  rw [if_pos ha] at h
  have : a ∈ R.flatten := List.count_pos_iff.mp (by omega)
  exact List.mem_flatten.mp this
theorem Inv.lt (v : Inv n σ τ R) {a : Nat} {xs : List Nat} (hx : xs ∈ R) (ha : a ∈ xs) : a < n := by
  have h := v.cnt a
  have : a ∈ R.flatten := List.mem_flatten.mpr ⟨xs, hx, ha⟩
  have h2 := List.count_pos_iff.mpr this
  by_cases hn : a < n
  · exact hn
  · rw [if_neg hn] at h; omega
theorem flat_split {R1 R2 : List (List Nat)} {xs : List Nat} (v : Nat) : (R1 ++ xs :: R2).flatten.count v = R1.flatten.count v + xs.count v + R2.flatten.count v := by
  simp [List.count_append]; omega
theorem flat_len {R1 R2 : List (List Nat)} {xs : List Nat} : (R1 ++ xs :: R2).flatten.length = R1.flatten.length + xs.length + R2.flatten.length := by
  simp only [List.flatten_append, List.flatten_cons, List.length_append]; omega
theorem Inv.rowLen (v : Inv n σ τ R) {xs : List Nat} (hx : xs ∈ R) : xs.length ≤ n := by
  obtain ⟨R1, R2, rfl⟩ := List.append_of_mem hx
  have h := v.len
  rw [flat_len] at h
  omega
theorem len_le_flatten : ∀ R : List (List Nat), (∀ xs ∈ R, 1 ≤ xs.length) → R.length ≤ R.flatten.length
  | [], _ => Nat.zero_le _
  | x :: r, h => by
    have h1 := h x (.head _)
    have h2 := len_le_flatten r fun y hy => h y (.tail _ hy)
    simp only [List.length_cons, List.flatten_cons, List.length_append]
    omega
theorem Inv.rows (v : Inv n σ τ R) : R.length ≤ n := by
  have := len_le_flatten R fun xs hx => by obtain ⟨a, t, rfl, _⟩ := v.cyc xs hx; simp
  rw [v.len] at this
  exact this
theorem Inv.sm (v : Inv n σ τ R) (hn : n ≤ 12) {xs : List Nat} (hx : xs ∈ R) : Sm xs := ⟨by have := v.rowLen hx; omega, fun a ha => by have := v.lt hx ha; omega⟩

theorem ringOf_mem {a : Nat} (h : ∃ xs ∈ R, a ∈ xs) : ringOf R a ∈ R ∧ a ∈ ringOf R a ∧ R.find? (fun x => decide (a ∈ x)) = some (ringOf R a) := by
  obtain ⟨xs, hx, ha⟩ := h
  cases hf : R.find? (fun x => decide (a ∈ x)) with
  | none =>
    have := List.find?_eq_none.mp hf xs hx
    simp [ha] at this
  | some y =>
    have e : ringOf R a = y := by unfold ringOf; rw [hf]; rfl
    rw [e]
    exact ⟨List.mem_of_find?_eq_some hf, by simpa using List.find?_some hf, rfl⟩

theorem idx_getD {xs : List Nat} {a : Nat} (ha : a ∈ xs) : xs.getD (xs.idxOf a) 0 = a := by
  have h : xs.idxOf a < xs.length := List.idxOf_lt_length_iff.mpr ha
  rw [List.getD_eq_getElem?_getD, List.getElem?_eq_getElem h, Option.getD_some, List.getElem_idxOf h]

theorem Inv.near1 (v : Inv n σ τ R) {a : Nat} (ha : a < n) : nearN R a 1 = σ a := by
  obtain ⟨h1, h2, h3⟩ := ringOf_mem (v.has ha)
  unfold nearN
  rw [h3]
  dsimp only
  have hl : (ringOf R a).idxOf a < (ringOf R a).length := List.idxOf_lt_length_iff.mpr h2
  have c := (v.cyc _ h1).get _ hl
  rw [idx_getD h2] at c
  rw [c]
  congr 1
theorem Inv.nearM (v : Inv n σ τ R) {a : Nat} (ha : a < n) : nearN R a (-1) = τ a := by
  obtain ⟨h1, h2, h3⟩ := ringOf_mem (v.has ha)
  unfold nearN
  rw [h3]
  dsimp only
  have hl : (ringOf R a).idxOf a < (ringOf R a).length := List.idxOf_lt_length_iff.mpr h2
  rw [Int.fmod_eq_emod_of_nonneg _ (by omega)]
  generalize hk : ((((ringOf R a).idxOf a : Nat) : Int) + -1) % ((ringOf R a).length : Int) = k
  have k0 : 0 ≤ k := by rw [← hk]; exact Int.emod_nonneg _ (by omega)
  have k1 : k < (ringOf R a).length := by rw [← hk]; exact Int.emod_lt_of_pos _ (by omega)
  have c := (v.cyc _ h1).get k.toNat (by omega)
  have e : (k.toNat + 1) % (ringOf R a).length = (ringOf R a).idxOf a := by
    by_cases hz : (ringOf R a).idxOf a = 0
    · have : k = (ringOf R a).length - 1 := by
        rw [← hk, hz]
        rw [show ((0 : Nat) : Int) + -1 = -1 from rfl]
        have q : (-1 : Int) % ((ringOf R a).length : Int) = ((-1) + ((ringOf R a).length : Int)) % ((ringOf R a).length : Int) := by rw [Int.add_emod_right]
        rw [q, Int.emod_eq_of_lt (by omega) (by omega)]
        omega
      have q : k.toNat + 1 = (ringOf R a).length := by omega
      rw [q, Nat.mod_self, hz]
    · have : k = ((ringOf R a).idxOf a : Int) - 1 := by rw [← hk, Int.emod_eq_of_lt (by omega) (by omega)]; omega
      have q : k.toNat + 1 = (ringOf R a).idxOf a := by omega
      rw [q, Nat.mod_eq_of_lt hl]
  rw [e, idx_getD h2] at c
  have hm : (ringOf R a).getD k.toNat 0 ∈ ringOf R a := by
    rw [List.getD_eq_getElem?_getD, List.getElem?_eq_getElem (by omega), Option.getD_some]
    exact List.getElem_mem _
  have q := v.ts _ (v.lt h1 hm)
  rw [c] at q
  exact q.symm

def spτ (σ τ : Nat → Nat) (a b : Nat) : Nat → Nat := upd (upd τ (σ a) b) (σ b) a

theorem Inv.spCl (v : Inv n σ τ R) {a b : Nat} (ha : a < n) (hb : b < n) : Cl n (spσ σ a b) ∧ Cl n (spτ σ τ a b) :=
  ⟨(v.cσ.upd (v.cσ b hb)).upd (v.cσ a ha), (v.cτ.upd hb).upd ha⟩
theorem Inv.inj (v : Inv n σ τ R) {c d : Nat} (hc : c < n) (hd : d < n) (e : σ c = σ d) : c = d := by
  have h1 := v.ts c hc
  rw [e, v.ts d hd] at h1
  exact h1.symm
theorem Inv.spTs (v : Inv n σ τ R) {a b : Nat} (ha : a < n) (hb : b < n) : ∀ c, c < n → spτ σ τ a b (spσ σ a b c) = c := by
  intro c hc
  unfold spτ spσ upd
  by_cases h1 : c = b
  · subst h1
    simp only [if_true]
    by_cases h2 : σ a = σ c
    · rw [if_pos h2]; exact v.inj ha hc h2
    · rw [if_neg h2]
  · by_cases h2 : c = a
    · subst h2
      simp only [if_neg h1, if_true]
    · simp only [if_neg h1, if_neg h2]
      have h3 : ¬ σ c = σ b := fun e => h1 (v.inj hc hb e)
      have h4 : ¬ σ c = σ a := fun e => h2 (v.inj hc ha e)
      simp only [if_neg h3, if_neg h4]
      exact v.ts c hc
theorem Inv.spSt (v : Inv n σ τ R) {a b : Nat} (ha : a < n) (hb : b < n) : ∀ c, c < n → spσ σ a b (spτ σ τ a b c) = c := by
  intro c hc
  unfold spτ spσ upd
  by_cases h1 : c = σ b
  · subst h1
    simp only [if_true]
    by_cases h2 : a = b
    · subst h2; simp
    · simp only [if_neg h2]
  · by_cases h2 : c = σ a
    · subst h2
      simp only [if_neg h1, if_true]
    · simp only [if_neg h1, if_neg h2]
      have h3 : ¬ τ c = b := fun e => h1 (by rw [← e, v.st c hc])
      have h4 : ¬ τ c = a := fun e => h2 (by rw [← e, v.st c hc])
      simp only [if_neg h3, if_neg h4]
      exact v.st c hc

theorem spσ_a {a b : Nat} (hab : a ≠ b) : spσ σ a b a = σ b := by unfold spσ upd; rw [if_neg hab, if_pos rfl]
theorem spσ_b {a b : Nat} : spσ σ a b b = σ a := by unfold spσ upd; rw [if_pos rfl]
theorem spσ_o {a b c : Nat} (h1 : c ≠ a) (h2 : c ≠ b) : spσ σ a b c = σ c := by unfold spσ upd; rw [if_neg h2, if_neg h1]
theorem Cyc.same {σ' : Nat → Nat} {xs : List Nat} (h : Cyc σ xs) (e : ∀ x ∈ xs, σ' x = σ x) : Cyc σ' xs := by
  obtain ⟨a, t, rfl, hp⟩ := h
  exact ⟨a, t, rfl, hp.swap (e a (.head _)) fun x hx => e x (.tail _ hx)⟩

theorem rot_count (xs : List Nat) (a v : Nat) : (rotN xs a).count v = xs.count v := by
  unfold rotN
  rw [List.count_append, Nat.add_comm, ← List.count_append, List.take_append_drop]
theorem rot_len (xs : List Nat) (a : Nat) : (rotN xs a).length = xs.length := by
  unfold rotN
  simp only [List.length_append, List.length_drop, List.length_take]; omega
theorem rot_cyc {xs : List Nat} {a : Nat} (h : Cyc σ xs) : Cyc σ (rotN xs a) := by
  unfold rotN
  apply Cyc.rot
  rw [List.take_append_drop]
  exact h
theorem rot_cons {xs : List Nat} {a : Nat} (ha : a ∈ xs) : rotN xs a = a :: (rotN xs a).drop 1 := by
  have e := rot_head ha
  unfold rotN
  rw [e]; rfl
theorem rot_mem {xs : List Nat} {a v : Nat} : v ∈ rotN xs a ↔ v ∈ xs := by
  rw [← List.count_pos_iff, rot_count, List.count_pos_iff]

theorem splice_inv (v : Inv n σ τ R) {a b : Nat} (ha : a < n) (hb : b < n) : Inv n (spσ σ a b) (spτ σ τ a b) (spliceN R a b) := by
  by_cases hab : a = b
  · subst hab
    have e1 : spσ σ a a = σ := by
      funext c; unfold spσ upd
      by_cases h : c = a
      · subst h; simp
      · simp [h]
    have e2 : spτ σ τ a a = τ := by
      funext c; unfold spτ upd
      by_cases h : c = σ a
      · subst h; simp [v.ts a ha]
      · simp [h]
    have e3 : spliceN R a a = R := by unfold spliceN; rw [if_pos rfl]
    rw [e1, e2, e3]
    exact v
  obtain ⟨o1, o2, _⟩ := ringOf_mem (v.has ha)
  obtain ⟨w1, w2, _⟩ := ringOf_mem (v.has hb)
  have core : ∀ R', (∀ x, R'.flatten.count x = R.flatten.count x) → R'.flatten.length = R.flatten.length → (∀ xs ∈ R', Cyc (spσ σ a b) xs) → Inv n (spσ σ a b) (spτ σ τ a b) R' := fun R' c1 c2 c3 =>
    ⟨fun x => by rw [c1, v.cnt], by rw [c2, v.len], c3, v.spSt ha hb, v.spTs ha hb, (v.spCl ha hb).1, (v.spCl ha hb).2⟩
  generalize hone : ringOf R a = one at o1 o2
  generalize htwo : ringOf R b = two at w1 w2
  obtain ⟨R1, R2, rfl⟩ := List.append_of_mem o1
  have key : ∀ x, (R1 ++ R2).flatten.count x + one.count x = if x < n then 1 else 0 := by
    intro x
    have h := v.cnt x
    rw [flat_split] at h
    rw [← h, List.flatten_append, List.count_append]
    omega
  have leq : (R1 ++ R2).flatten.length + one.length = n := by
    have h := v.len
    rw [flat_len] at h
    rw [List.flatten_append, List.length_append]
    omega
  have noA : ∀ xs ∈ R1 ++ R2, a ∉ xs := by
    intro xs hx hm
    have h := key a
    rw [if_pos ha] at h
    have h1 : 0 < one.count a := List.count_pos_iff.mpr o2
    have h2 : 0 < (R1 ++ R2).flatten.count a := List.count_pos_iff.mpr (List.mem_flatten.mpr ⟨xs, hx, hm⟩)
    omega
  have hc1 := v.cyc one o1
  have hone1 : rotN one a = a :: (rotN one a).drop 1 := rot_cons o2
  generalize hS : (rotN one a).drop 1 = S at hone1
  have cnt1 : ∀ x, one.count x = (a :: S).count x := fun x => by rw [← rot_count one a, hone1]
  have len1 : one.length = (a :: S).length := by rw [← rot_len one a, hone1]
  have p1 : Path σ a S a := by
    obtain ⟨a', t, e, hp⟩ := rot_cyc (a := a) hc1
    rw [hone1] at e
    injection e with e1 e2
    subst e1 e2
    exact hp
  have aS : a ∉ S := by
    intro hm
    have h := key a
    rw [cnt1, if_pos ha, List.count_cons_self] at h
    have := List.count_pos_iff.mpr hm
    omega
  have hfil : (R1 ++ one :: R2).filter (fun x => !decide (a ∈ x) && !decide (b ∈ x)) = (R1 ++ R2).filter (fun x => !decide (b ∈ x)) := by
    have q : ∀ L : List (List Nat), (∀ xs ∈ L, a ∉ xs) → L.filter (fun x => !decide (a ∈ x) && !decide (b ∈ x)) = L.filter (fun x => !decide (b ∈ x)) := by
      intro L hL
      apply List.filter_congr
      intro x hx
      simp [hL x hx]
    rw [List.filter_append, List.filter_cons, if_neg (by simp [o2]), List.filter_append, q R1 fun x h => noA x (List.mem_append.mpr (.inl h)), q R2 fun x h => noA x (List.mem_append.mpr (.inr h))]
  unfold spliceN
  rw [if_neg hab, hone, htwo, hfil, hone1]
  by_cases hbo : b ∈ S
  · -- one ring is cut in two
    have hb1 : b ∈ a :: S := .tail _ hbo
    rw [if_pos hb1]
    have noB : ∀ xs ∈ R1 ++ R2, b ∉ xs := by
      intro xs hx hm
      have h := key b
      rw [if_pos hb, cnt1] at h
      have h1 : 0 < (a :: S).count b := List.count_pos_iff.mpr hb1
      have h2 : 0 < (R1 ++ R2).flatten.count b := List.count_pos_iff.mpr (List.mem_flatten.mpr ⟨xs, hx, hm⟩)
      omega
    have hrest : (R1 ++ R2).filter (fun x => !decide (b ∈ x)) = R1 ++ R2 := by
      apply List.filter_eq_self.mpr
      intro x hx
      simp [noB x hx]
    rw [hrest]
    have hidx : (a :: S).idxOf b = S.idxOf b + 1 := by
      rw [List.idxOf_cons]
      have e : (a == b) = false := by simpa using hab
      rw [e]; rfl
    have hj : S.idxOf b < S.length := List.idxOf_lt_length_iff.mpr hbo
    have hspl : S = S.take (S.idxOf b) ++ b :: S.drop (S.idxOf b + 1) := by
      conv => lhs; rw [← List.take_append_drop (S.idxOf b) S]
      rw [List.drop_eq_getElem_cons hj, List.getElem_idxOf hj]
    have e1 : (a :: S).drop ((a :: S).idxOf b + 1) = S.drop (S.idxOf b + 1) := by rw [hidx]; rfl
    have e2 : ((a :: S).drop 1).take ((a :: S).idxOf b - 1) = S.take (S.idxOf b) := by rw [hidx]; rfl
    rw [e1, e2]
    generalize hA : S.take (S.idxOf b) = A at hspl
    generalize hC : S.drop (S.idxOf b + 1) = C at hspl
    have p1' := p1
    rw [hspl] at p1'
    obtain ⟨pA, pC⟩ := Path.append.mp p1'
    have bAC : ∀ x, x ∈ A ∨ x ∈ C → x ≠ a ∧ x ≠ b := by
      intro x hx
      refine ⟨fun e => aS (by rw [hspl, ← e]; rcases hx with h | h <;> simp [h]), fun e => ?_⟩
      have h := key b
      rw [if_pos hb, cnt1, List.count_cons, hspl, List.count_append, List.count_cons_self] at h
      subst e
      rcases hx with h' | h' <;> have := List.count_pos_iff.mpr h' <;> omega
    refine core _ (fun x => ?_) ?_ ?_
    · rw [flat_split (R1 := R1) (R2 := R2), cnt1, hspl]
      simp only [List.flatten_append, List.flatten_cons, List.flatten_nil, List.count_append, List.count_cons, List.count_nil]
      omega
    · rw [flat_len (R1 := R1) (R2 := R2), len1, hspl]
      simp only [List.flatten_append, List.flatten_cons, List.flatten_nil, List.length_append, List.length_cons, List.length_nil]
      omega
    · intro xs hx
      rcases List.mem_append.mp hx with h | h
      · have h' : xs ∈ R1 ++ one :: R2 := by rcases List.mem_append.mp h with q | q <;> simp [q]
        exact (v.cyc xs h').same fun x hx' => spσ_o (fun e => noA xs h (e ▸ hx')) (fun e => noB xs h (e ▸ hx'))
      · rcases List.mem_cons.mp h with rfl | h
        · exact ⟨a, C, rfl, pC.swap (spσ_a hab) fun x hx => spσ_o (bAC x (.inr hx)).1 (bAC x (.inr hx)).2⟩
        · rw [List.mem_singleton.mp h]
          exact ⟨b, A, rfl, pA.swap spσ_b fun x hx => spσ_o (bAC x (.inl hx)).1 (bAC x (.inl hx)).2⟩
  · -- two rings are joined
    have hb1 : b ∉ a :: S := by
      intro h
      rcases List.mem_cons.mp h with h | h
      · exact hab h.symm
      · exact hbo h
    rw [if_neg hb1]
    have hbone : b ∉ one := fun h => hb1 (by rw [← hone1]; exact rot_mem.mpr h)
    have w1' : two ∈ R1 ++ R2 := by
      rcases List.mem_append.mp w1 with h | h
      · exact List.mem_append.mpr (.inl h)
      · rcases List.mem_cons.mp h with h | h
        · rw [h] at w2; exact absurd w2 hbone
        · exact List.mem_append.mpr (.inr h)
    have cycL : ∀ xs ∈ R1 ++ R2, Cyc σ xs := by
      intro xs hx
      exact v.cyc xs (by rcases List.mem_append.mp hx with q | q <;> simp [q])
    have flatR : ∀ x, (R1 ++ one :: R2).flatten.count x = (R1 ++ R2).flatten.count x + one.count x := fun x => by
      rw [flat_split, List.flatten_append, List.count_append]; omega
    have flatRl : (R1 ++ one :: R2).flatten.length = (R1 ++ R2).flatten.length + one.length := by
      rw [flat_len, List.flatten_append, List.length_append]; omega
    generalize hL : R1 ++ R2 = L at *
    obtain ⟨L1, L2, rfl⟩ := List.append_of_mem w1'
    have key2 : ∀ x, (L1 ++ L2).flatten.count x + two.count x + one.count x = if x < n then 1 else 0 := by
      intro x
      have h := key x
      rw [flat_split] at h
      rw [List.flatten_append, List.count_append]
      omega
    have noB : ∀ xs ∈ L1 ++ L2, b ∉ xs := by
      intro xs hx hm
      have h := key2 b
      rw [if_pos hb] at h
      have h1 : 0 < two.count b := List.count_pos_iff.mpr w2
      have h2 : 0 < (L1 ++ L2).flatten.count b := List.count_pos_iff.mpr (List.mem_flatten.mpr ⟨xs, hx, hm⟩)
      omega
    have hrest : (L1 ++ two :: L2).filter (fun x => !decide (b ∈ x)) = L1 ++ L2 := by
      rw [List.filter_append, List.filter_cons, if_neg (by simp [w2]), List.filter_eq_self.mpr, List.filter_eq_self.mpr]
      · intro x hx; simp [noB x (List.mem_append.mpr (.inr hx))]
      · intro x hx; simp [noB x (List.mem_append.mpr (.inl hx))]
    rw [hrest]
    have hc2 := cycL two w1'
    have htwo1 : rotN two b = b :: (rotN two b).drop 1 := rot_cons w2
    generalize hT : (rotN two b).drop 1 = T' at htwo1
    have cnt2 : ∀ x, two.count x = (b :: T').count x := fun x => by rw [← rot_count two b, htwo1]
    have len2 : two.length = (b :: T').length := by rw [← rot_len two b, htwo1]
    have p2 : Path σ b T' b := by
      obtain ⟨a', t, e, hp⟩ := rot_cyc (a := b) hc2
      rw [htwo1] at e
      injection e with e1 e2
      subst e1 e2
      exact hp
    have offS : ∀ x ∈ S, x ≠ a ∧ x ≠ b := fun x hx => ⟨fun e => aS (e ▸ hx), fun e => hbo (e ▸ hx)⟩
    have offT : ∀ x ∈ T', x ≠ a ∧ x ≠ b := by
      intro x hx
      refine ⟨fun e => ?_, fun e => ?_⟩
      · have h := key2 a
        rw [if_pos ha, cnt1, cnt2, List.count_cons_self, List.count_cons] at h
        have := List.count_pos_iff.mpr (e ▸ hx : a ∈ T')
        omega
      · have h := key2 b
        rw [if_pos hb, cnt2, List.count_cons_self] at h
        have := List.count_pos_iff.mpr (e ▸ hx : b ∈ T')
        omega
    have e3 : (a :: S).drop 1 = S := rfl
    rw [e3]
    refine core _ (fun x => ?_) ?_ ?_
    · rw [flatR, flat_split (R1 := L1) (R2 := L2) (xs := two), cnt1, cnt2]
      simp only [List.flatten_append, List.flatten_cons, List.flatten_nil, List.count_append, List.count_cons, List.count_nil]
      omega
    · rw [flatRl, flat_len (R1 := L1) (R2 := L2) (xs := two), len1, len2]
      simp only [List.flatten_append, List.flatten_cons, List.flatten_nil, List.length_append, List.length_cons, List.length_nil]
      omega
    · intro xs hx
      rcases List.mem_append.mp hx with h | h
      · have h' : xs ∈ L1 ++ two :: L2 := by rcases List.mem_append.mp h with q | q <;> simp [q]
        exact (cycL xs h').same fun x hx' => spσ_o (fun e => noA xs h' (e ▸ hx')) (fun e => noB xs h (e ▸ hx'))
      · rw [List.mem_singleton.mp h]
        refine ⟨a, T' ++ b :: S, by simp, Path.append.mpr ⟨p2.swap (spσ_a hab) fun x hx => spσ_o (offT x hx).1 (offT x hx).2, p1.swap spσ_b fun x hx => spσ_o (offS x hx).1 (offS x hx).2⟩⟩
end
end Mine

end

section
open PySem PySem.W PyProof.Rows PySem.Calls
namespace Mine
abbrev RI : Value := .type "range_iterator"
def Keep (news news' : Led) : Prop := ∀ p ∈ news, p.2.cls ≠ .type "dict" → p ∈ news'
theorem Keep.trans {a b c : Led} (h : Keep a b) (k : Keep b c) : Keep a c := fun p hp hc => k p (h p hp hc) hc
theorem Keep.of {a b : Led} (h : ∀ p ∈ a, p ∈ b) : Keep a b := fun p hp _ => h p hp

def TurnEndR (h₀ : Heap) (L : Addr) (nw : Led) (J : (Str → Option Value) → Led → Prop) (s₁ s₂ : Shared) : Prop :=
  ∃ h' tk m' nw', s₂ = { s₁ with heap := h', toks := tk } ∧ Fr h₀ L h' m' ∧ News h₀ L h' nw' ∧ Keep nw nw' ∧ J m' nw'
def TurnPostR (h₀ : Heap) (L : Addr) (nw : Led) (J : (Str → Option Value) → Led → Prop) (s₁ : Shared) (Q : Flow → Shared → Prop) (f : Flow) (s₂ : Shared) : Prop :=
  match f with
  | .ret v => Q (.ret v) s₂
  | .brk => Q .next s₂
  | _ => TurnEndR h₀ L nw J s₁ s₂

theorem iter_rng {prog : Program} {w : World} {A : Around} {E : Value → Shared → Prop} {s : Shared} {env : Env} {h₀ : Heap} {x : Str} {body : List Stmt} {Q : Flow → Shared → Prop}
    {r : Addr} {a₀ b₀ st : Int} {t₀ u₀ v₀ : Tok} {n : Nat} {m₀ : Str → Option Value} {news : Led} (J : Nat → (Str → Option Value) → Led → Prop)
    (hh : A.handled = none) (hr : IsRange s.heap r a₀ b₀ st t₀ u₀ v₀) (hsmall : Builtin.Range.small a₀ b₀ st = true) (hn : Builtin.Range.rangeSize a₀ b₀ st = (n : Int)) (F : Fr h₀ env.locals s.heap m₀) (N : News h₀ env.locals s.heap news)
    (stab : ∀ i m nw nw', J i m nw → (∀ p ∈ nw, p.2.cls ≠ RI → p ∈ nw') → J i m nw') (hj : J 0 m₀ news)
    (turn : ∀ i t m₁ nw h tk, i < n → J i m₁ nw → Fr h₀ env.locals h (fun y => if y = x then some (.int (a₀ + (i : Int) * st) t) else m₁ y) → News h₀ env.locals h nw →
      wpAny (model prog w) A (execs body env) (TurnPostR h₀ env.locals nw (J (i + 1)) { s with heap := h, toks := tk } Q) E { s with heap := h, toks := tk })
    (done : ∀ m₁ nw h tk, J n m₁ nw → Fr h₀ env.locals h m₁ → News h₀ env.locals h nw → Q .next { s with heap := h, toks := tk }) :
    wpAny (model prog w) A (pyIter (.ref r)) (fun it s₂ => LoopAtV prog w A h₀ env x body Q E it s₂) E s := by
  refine wpAny_pyIter_range hr hsmall ?_
  have W : Walks prog w A s.heap.objs.size [s.heap.objs.size] [s.heap.objs.size] n (fun i v => i < n ∧ ∃ t, v = .int (a₀ + i * st) t)
      (fun i h => IsRangeIter h s.heap.objs.size (a₀ + (i : Nat) * st) ((n : Int) - (i : Nat)) st) := (Walks.range hh _ a₀ st n).bound
  refine ⟨s.heap.objs.size, _, _, n, _, _, m₀, news, J, rfl, W, ?_, ?_, ?_, (by show IsRangeIter _ _ _ _ _; rw [hn]; simpa using Heap.get?_push_size _ rfl), F.push _, (fun p hp => ⟨Heap.get?_push_of_some _ (N p hp).1, (N p hp).2⟩), hj, ?_, ?_⟩
  · intro hm
    exact absurd F.ns.lt ((List.mem_singleton.mp hm) ▸ Nat.lt_irrefl _)
  · intro b hb
    rw [List.mem_singleton.mp hb]
    exact next_is_new F
  · intro p hp hI
    exact absurd (Heap.lt_size (N p hp).1) ((List.mem_singleton.mp hI) ▸ Nat.lt_irrefl _)
  · rintro i v m₁ news₁ s₁ own ⟨hh', tk', rfl⟩ hin ⟨_, t, rfl⟩ hJ hoff hown hown2 hall hst F₁ N₁
    have hst' : hh'.get? s.heap.objs.size = some _ := hst
    have hio := hall s.heap.objs.size (List.mem_singleton.mpr rfl) (next_is_new F) _ hst'
    refine wpAny_mono (turn i t m₁ (own ++ news₁) hh' tk' hin (stab _ _ _ _ hJ fun p hp _ => List.mem_append.mpr (.inr hp)) F₁ N₁) (fun f s₂ p => ?_) fun _ _ e => e
    have fin : TurnEndR h₀ env.locals (own ++ news₁) (J (i + 1)) { s with heap := hh', toks := tk' } s₂ → LoopStepU h₀ env.locals [s.heap.objs.size] own (J (i + 1)) { s with heap := hh', toks := tk' } .next s₂ := by
      rintro ⟨h', tk, m', nw', e, F', N', hk, hJ'⟩
      have hio' := hk _ (List.mem_append.mpr (.inl hio)) (fun e => absurd (Value.type.inj e) (by decide))
      have hown' : ∀ p ∈ own, p ∈ nw' := by
        intro p hp
        have e1 := List.mem_singleton.mp (hown p hp)
        have e2 := hown2 p hp
        rw [e1, hst'] at e2
        have e3 : p = (s.heap.objs.size, _) := Prod.ext e1 (Option.some.inj e2).symm
        rw [e3]
        exact hio'
      refine ⟨rfl, h', tk, m', nw'.filter (fun p => decide (p.1 ≠ s.heap.objs.size)), e, F', fun p hp => ?_, fun p hp hI => ?_, stab _ _ _ _ hJ' fun p hp hc => ?_⟩
      · rcases List.mem_append.mp hp with h | h
        · exact N' p (hown' p h)
        · exact N' p (List.mem_filter.mp h).1
      · have q := (List.mem_filter.mp hp).2
        simp only [ne_eq, decide_eq_true_eq] at q
        exact q (List.mem_singleton.mp hI)
      · refine List.mem_filter.mpr ⟨hp, ?_⟩
        simp only [ne_eq, decide_eq_true_eq]
        intro e1
        have e2 := (N' p hp).1
        rw [e1, (N' _ hio').1] at e2
        exact hc (by rw [← Option.some.inj e2])
    cases f with
    | ret v => exact .ret p
    | brk => exact .brk p
    | next => exact .next (fin p)
    | cont => exact .cont (fin p)
  · rintro h' tk m' news' F' N' _ hJ
    exact done m' news' h' tk hJ F' N'

theorem QM.monoC {w : World} {G : QG} {σ ρ : Nat → Nat} {n0 news news' : Led} (q : QM w G σ ρ n0 news) (h : ∀ p ∈ news, p.2.cls ≠ RI → p ∈ news') (h0 : ∀ p ∈ n0, p.2.cls ≠ RI) : QM w G σ ρ n0 news' where
  iP hi := h _ (q.iP hi) (by intro e; cases e)
  iD hi := h _ (q.iD hi) (by intro e; cases e)
  eP hi := h _ (q.eP hi) (fun e => absurd (Value.type.inj e) (by decide))
  eD hi := h _ (q.eD hi) (fun e => absurd (Value.type.inj e) (by decide))
  jP := q.jP
  jD := q.jD
  jX := q.jX
  cσ := q.cσ
  cρ := q.cρ
  cO := q.cO
  kp p hp hc := h _ (q.kp p hp hc) (h0 p hp)
theorem QM.self {w : World} {G : QG} {σ ρ : Nat → Nat} {n0 news : Led} (q : QM w G σ ρ n0 news) : QM w G σ ρ news news where
  iP hi := q.iP hi
  iD hi := q.iD hi
  eP hi := q.eP hi
  eD hi := q.eD hi
  jP := q.jP
  jD := q.jD
  jX := q.jX
  cσ := q.cσ
  cρ := q.cρ
  cO := q.cO
  kp p hp _ := hp

/-- a list of refs f 0 .. f (n-1) -/
def rtab (f : Nat → Addr) (n : Nat) : List Value := (List.range n).map fun i => Value.ref (f i)
theorem rtab_len (f : Nat → Addr) (n : Nat) : (rtab f n).length = n := by simp [rtab]
theorem rtab_get {f : Nat → Addr} {n i : Nat} (h : i < n) : (rtab f n)[i]? = some (.ref (f i)) := by
  unfold rtab
  rw [List.getElem?_map, List.getElem?_range h]; rfl
theorem rtab_two {f g : Nat → Addr} {n : Nat} {x y : Addr} (h : ∀ {i}, i < n → g i = f i) (hx : g n = x) (hy : g (n + 1) = y) : rtab f n ++ [.ref x, .ref y] = rtab g (n + 2) := by
  unfold rtab
  rw [List.range_succ, List.range_succ]
  simp only [List.map_append, List.map_cons, List.map_nil, hx, hy, List.append_assoc, List.cons_append, List.nil_append]
  congr 1
  apply List.map_congr_left
  intro i hi
  rw [h (List.mem_range.mp hi)]

theorem oth_oth (x : Nat) : oth (oth x) = x := by unfold oth; split <;> split <;> omega
theorem oth_lt {n x : Nat} (hn : n % 2 = 0) (h : x < n) : oth x < n := by unfold oth; split <;> omega

def orho (τ : Nat → Nat) : Nat → Nat := fun c => oth (τ c)
theorem orho_sp {σ τ : Nat → Nat} {a b : Nat} (ha : τ (σ a) = a) (hb : τ (σ b) = b) : spρ σ (orho τ) a b = orho (spτ σ τ a b) := by
  funext c
  unfold spρ spτ orho upd
  by_cases h1 : c = σ b
  · simp only [h1, if_true, ha]
  · simp only [if_neg h1]
    by_cases h2 : c = σ a
    · simp only [h2, if_true, hb]
    · simp only [if_neg h2]
theorem orho_ext {τ : Nat → Nat} {n : Nat} (hn : n % 2 = 0) : ext2 (orho τ) n (n + 1) n = orho (ext2 τ n n (n + 1)) := by
  funext c
  unfold ext2 orho
  by_cases h1 : c = n
  · simp only [h1, if_true]; unfold oth; rw [if_pos hn]
  · simp only [if_neg h1]
    by_cases h2 : c = n + 1
    · simp only [h2, if_true]; unfold oth; rw [if_neg (by omega)]; omega
    · simp only [if_neg h2]
theorem Inv.ext {n : Nat} {σ τ : Nat → Nat} {R : List (List Nat)} (v : Inv n σ τ R) : Inv (n + 2) (ext2 σ n n (n + 1)) (ext2 τ n n (n + 1)) (R ++ [[n], [n + 1]]) where
  cnt x := by
    have h := v.cnt x
    simp only [List.flatten_append, List.flatten_cons, List.flatten_nil, List.count_append, List.count_cons, List.count_nil, beq_iff_eq]
    rw [h]
    (repeat' split) <;> omega
  len := by
    simp only [List.flatten_append, List.flatten_cons, List.flatten_nil, List.length_append, List.length_cons, List.length_nil, v.len]
  cyc xs hx := by
    rcases List.mem_append.mp hx with h | h
    · exact (v.cyc xs h).same fun y hy => ext2_lt (v.lt h hy)
    · rcases List.mem_cons.mp h with rfl | h
      · exact ⟨n, [], rfl, ext2_0⟩
      · rw [List.mem_singleton.mp h]
        exact ⟨n + 1, [], rfl, ext2_1⟩
  st c hc := by
    rcases two_cases hc with h | rfl | rfl
    · rw [ext2_lt h, ext2_lt (v.cτ c h)]; exact v.st c h
    · rw [ext2_0, ext2_0]
    · rw [ext2_1, ext2_1]
  ts c hc := by
    rcases two_cases hc with h | rfl | rfl
    · rw [ext2_lt h, ext2_lt (v.cσ c h)]; exact v.ts c h
    · rw [ext2_0, ext2_0]
    · rw [ext2_1, ext2_1]
  cσ c hc := by
    rcases two_cases hc with h | rfl | rfl
    · rw [ext2_lt h]; have := v.cσ c h; omega
    · rw [ext2_0]; omega
    · rw [ext2_1]; omega
  cτ c hc := by
    rcases two_cases hc with h | rfl | rfl
    · rw [ext2_lt h]; have := v.cτ c h; omega
    · rw [ext2_0]; omega
    · rw [ext2_1]; omega
theorem Inv.rho {n : Nat} {σ τ : Nat → Nat} {R : List (List Nat)} (v : Inv n σ τ R) {a b : Nat} (ha : a < n) (hb : b < n) : spρ σ (orho τ) a b = orho (spτ σ τ a b) := orho_sp (v.ts a ha) (v.ts b hb)
end Mine

end

section
open PySem PySem.W PyProof.Rows PySem.Calls
namespace Mine
abbrev lay (scr ctx eL sL rL : Addr) (m' : Str → Option Value) : Str → Option Value := fun y =>
  if y = Str.ofString "rings" then some (.ref rL) else if y = Str.ofString "starts" then some (.ref sL) else if y = Str.ofString "edges" then some (.ref eL)
  else if y = Str.ofString "context" then some (.ref ctx) else if y = Str.ofString "script" then some (.ref scr) else m' y
theorem lay_of {scr ctx eL sL rL : Addr} {m : Str → Option Value} (h1 : m (Str.ofString "rings") = some (.ref rL)) (h2 : m (Str.ofString "starts") = some (.ref sL)) (h3 : m (Str.ofString "edges") = some (.ref eL))
    (h4 : m (Str.ofString "context") = some (.ref ctx)) (h5 : m (Str.ofString "script") = some (.ref scr)) : m = lay scr ctx eL sL rL m := by
  funext y
  unfold lay
  repeat' split
  all_goals first | rfl | (subst_vars; assumption)
theorem RR.monoC {news news' : Led} {l : Addr} {Z : Zs} (h : ∀ p ∈ news, p.2.cls ≠ RI → p ∈ news') (x : RR news l Z) : RR news' l Z := by
  obtain ⟨⟨c, hc⟩, hr⟩ := x
  refine ⟨⟨c, h _ hc (fun e => absurd (Value.type.inj e) (by decide))⟩, fun z hz => ?_⟩
  obtain ⟨vs, c, hm, hi⟩ := hr z hz
  exact ⟨vs, c, h _ hm (fun e => absurd (Value.type.inj e) (by decide)), hi⟩
structure JN (w : World) (ctx : Addr) (nw : Led) (G : QG) (σ τ : Nat → Nat) (Z : Zs) (eL sL rL : Addr) : Prop where
  ev : G.n % 2 = 0
  le : G.n ≤ 12
  cx : G.ctx = ctx
  q : QM w G σ (orho τ) [] nw
  v : Inv G.n σ τ (Z.map (·.2))
  r : RR nw rL Z
  e : ∃ c, (eL, lob (rtab G.P G.n) c) ∈ nw
  s : ∃ c, (sL, lob (rtab G.S G.n) c) ∈ nw
  p : ∀ i, i < G.n → ∃ pd x y, (G.S i, ptObj pd #[x, y]) ∈ nw
def J1 (w : World) (scr ctx : Addr) (n : Nat) (m : Str → Option Value) (nw : Led) : Prop :=
  ∃ G σ τ Z eL sL rL m', m = lay scr ctx eL sL rL m' ∧ G.n = n ∧ JN w ctx nw G σ τ Z eL sL rL
theorem JN.mono {w : World} {ctx : Addr} {nw nw' : Led} {G : QG} {σ τ : Nat → Nat} {Z : Zs} {eL sL rL : Addr} (j : JN w ctx nw G σ τ Z eL sL rL) (h : ∀ p ∈ nw, p.2.cls ≠ RI → p ∈ nw') : JN w ctx nw' G σ τ Z eL sL rL where
  ev := j.ev
  le := j.le
  cx := j.cx
  q := j.q.monoC h (fun _ hp => nomatch hp)
  v := j.v
  r := j.r.monoC h
  e := by obtain ⟨c, hc⟩ := j.e; exact ⟨c, h _ hc (fun e => absurd (Value.type.inj e) (by decide))⟩
  s := by obtain ⟨c, hc⟩ := j.s; exact ⟨c, h _ hc (fun e => absurd (Value.type.inj e) (by decide))⟩
  p i hi := by obtain ⟨pd, x, y, hc⟩ := j.p i hi; exact ⟨pd, x, y, h _ hc (by intro e; cases e)⟩
theorem J1.mono {w : World} {scr ctx : Addr} {n : Nat} {m : Str → Option Value} {nw nw' : Led} (j : J1 w scr ctx n m nw) (h : ∀ p ∈ nw, p.2.cls ≠ RI → p ∈ nw') : J1 w scr ctx n m nw' := by
  obtain ⟨G, σ, τ, Z, eL, sL, rL, m', e, e2, k⟩ := j
  exact ⟨G, σ, τ, Z, eL, sL, rL, m', e, e2, k.mono h⟩
theorem IntL.at {news : Led} {l : Addr} {z : Int} {t : Tok} {c n : Nat} (h : (l, lob [.int z t] c) ∈ news) (e : z = (n : Int)) : IntL news l [n] := by
  subst e
  exact ⟨_, c, h, .cons _ _ .nil⟩
theorem item_tab {prog : Program} {w : World} {A : Around} {E : Value → Shared → Prop} {s : Shared} {h₀ : Heap} {L : Addr} {news : Led} {l : Addr} {vs : List Value} {c : Nat} {k : Int} {u : Tok} {x : Value} {value slice : Expr} {Q : Value → Shared → Prop}
    (N : News h₀ L s.heap news) (hm : (l, lob vs c) ∈ news) (h0 : 0 ≤ k) (hk : k < 1000) (hx : vs[k.toNat]? = some x) (h : Q x s)
    (hs : subscripted slice false (.ref l) (.int k u) = operate [.ref l, .int k u] (getItem (.ref l) (.int k u))) (hg : ∀ r, letTemporaryGo value (.ref l) r = pure ()) :
    wpAny (model prog w) A (subscriptTail value slice (.ref l) (.int k u)) Q E s :=
  PyProof.Rows.item_listL (News.isList N hm) h0 (by omega) hx h hs hg
theorem len_tab {prog : Program} {w : World} {A : Around} {E : Value → Shared → Prop} {s : Shared} {h₀ : Heap} {L : Addr} {news : Led} {l : Addr} {f : Nat → Addr} {n c : Nat} {Q : Value → Shared → Prop}
    (N : News h₀ L s.heap news) (hm : (l, lob (rtab f n) c) ∈ news) (hn : n ≤ 1000) (h : Q (.int (n : Int) (s.toks + 1)) { s with toks := s.toks + 1 + 1 }) :
    wpAny (model prog w) A (call (.builtin "len") [.ref l]) Q E s := by
  have e : (rtab f n).toArray.size = n := by simp [rtab_len]
  exact PyProof.Rows.len_list (News.isList N hm) (by rw [e]; omega) (by rw [e]; exact h)
theorem rtab_app0 {f : Nat → Addr} {n : Nat} {x y : Value} {k : Int} (e : k = (n : Int)) : (rtab f n ++ [x, y])[k.toNat]? = some x := by
  subst e
  rw [Int.toNat_natCast, List.getElem?_append_right (by rw [rtab_len]; omega), rtab_len, Nat.sub_self]; rfl
theorem rtab_app1 {f : Nat → Addr} {n : Nat} {x y : Value} {k : Int} (e : k = (n : Int) + 1) : (rtab f n ++ [x, y])[k.toNat]? = some y := by
  subst e
  have e2 : ((n : Int) + 1).toNat = n + 1 := by omega
  rw [e2, List.getElem?_append_right (by rw [rtab_len]; omega), rtab_len, Nat.add_sub_cancel_left]; rfl
theorem rtab_getI {f : Nat → Addr} {n i : Nat} (h : i < n) : (rtab f n)[((i : Nat) : Int).toNat]? = some (.ref (f i)) := by
  rw [Int.toNat_natCast]; exact rtab_get h
end Mine

end

section
open PySem PySem.W PyProof.Rows PySem.Calls
namespace Mine
def G0 (ctx : Addr) : QG := { n := 0, P := fun _ => 0, D := fun _ => 0, dP := fun _ => 0, dD := fun _ => 0, S := fun _ => 0, ctx := ctx, tP := fun _ _ => 0, tD := fun _ _ => 0 }
theorem Inv.zero : Inv 0 id id [] where
  cnt x := by simp
  len := rfl
  cyc xs hx := nomatch hx
  st c hc := rfl
  ts c hc := rfl
  cσ c hc := hc
  cτ c hc := hc
theorem JN.zero {w : World} {ctx : Addr} {nw : Led} {eL sL rL : Addr} (he : (eL, lob [] 0) ∈ nw) (hs : (sL, lob [] 0) ∈ nw) (hr : (rL, lob [] 0) ∈ nw) : JN w ctx nw (G0 ctx) id id [] eL sL rL where
  ev := rfl
  le := by show 0 ≤ 12; omega
  cx := rfl
  q := ⟨fun h => absurd h (Nat.not_lt_zero _), fun h => absurd h (Nat.not_lt_zero _), fun h => absurd h (Nat.not_lt_zero _), fun h => absurd h (Nat.not_lt_zero _), fun h => absurd h (Nat.not_lt_zero _), fun h => absurd h (Nat.not_lt_zero _), fun h => absurd h (Nat.not_lt_zero _),
    fun _ h => absurd h (Nat.not_lt_zero _), fun _ h => absurd h (Nat.not_lt_zero _), fun _ h => absurd h (Nat.not_lt_zero _), fun _ h => nomatch h⟩
  v := Inv.zero
  r := ⟨⟨0, hr⟩, fun _ h => nomatch h⟩
  e := ⟨0, he⟩
  s := ⟨0, hs⟩
  p i h := absurd h (Nat.not_lt_zero _)

theorem TurnPostR.go {h₀ : Heap} {L : Addr} {nw : Led} {J : (Str → Option Value) → Led → Prop} {s₁ s₂ : Shared} {Q : Flow → Shared → Prop} {h' : Heap} {tk : Tok} {m' : Str → Option Value} {nw' : Led} (e : s₂ = { s₁ with heap := h', toks := tk }) (F : Fr h₀ L h' m') (N : News h₀ L h' nw') (k : Keep nw nw') (j : J m' nw') : TurnPostR h₀ L nw J s₁ Q .next s₂ :=
  ⟨h', tk, m', nw', e, F, N, k, j⟩

theorem iter_first {prog : Program} {w : World} {A : Around} {E : Value → Shared → Prop} {s : Shared} {env : Env} {h₀ : Heap} {x : Str} {body : List Stmt} {Q : Flow → Shared → Prop}
    {r : Addr} {t₀ u₀ v₀ : Tok} {m₀ : Str → Option Value} {news : Led} {scr ctx eL sL rL : Addr}
    (hh : A.handled = none) (hr : IsRange s.heap r 0 3 1 t₀ u₀ v₀) (F : Fr h₀ env.locals s.heap m₀) (N : News h₀ env.locals s.heap news)
    (h1 : m₀ (Str.ofString "rings") = some (.ref rL)) (h2 : m₀ (Str.ofString "starts") = some (.ref sL)) (h3 : m₀ (Str.ofString "edges") = some (.ref eL)) (h4 : m₀ (Str.ofString "context") = some (.ref ctx)) (h5 : m₀ (Str.ofString "script") = some (.ref scr))
    (me : (eL, lob [] 0) ∈ news) (ms : (sL, lob [] 0) ∈ news) (mr : (rL, lob [] 0) ∈ news)
    (turn : ∀ (i : Nat) t G σ τ Z eL sL rL m' nw h tk, i < 3 → G.n = 2 * i → JN w ctx nw G σ τ Z eL sL rL → Fr h₀ env.locals h (fun y => if y = x then some (.int (i : Int) t) else lay scr ctx eL sL rL m' y) → News h₀ env.locals h nw →
      wpAny (model prog w) A (execs body env) (TurnPostR h₀ env.locals nw (J1 w scr ctx (2 * (i + 1))) { s with heap := h, toks := tk } Q) E { s with heap := h, toks := tk })
    (done : ∀ G σ τ Z eL sL rL m' nw h tk, G.n = 6 → JN w ctx nw G σ τ Z eL sL rL → Fr h₀ env.locals h (lay scr ctx eL sL rL m') → News h₀ env.locals h nw → Q .next { s with heap := h, toks := tk }) :
    wpAny (model prog w) A (pyIter (.ref r)) (fun it s₂ => LoopAtV prog w A h₀ env x body Q E it s₂) E s := by
  refine iter_rng (n := 3) (fun i m nw => J1 w scr ctx (2 * i) m nw) hh hr (by decide) (by decide) F N (fun i m nw nw' j h => j.mono h) ⟨_, _, _, _, _, _, _, _, lay_of h1 h2 h3 h4 h5, rfl, JN.zero me ms mr⟩ ?_ ?_
  · rintro i t m₁ nw h tk hi ⟨G, σ, τ, Z, eL, sL, rL, m', rfl, hn, j⟩ F N
    refine turn i t G σ τ Z eL sL rL m' nw h tk hi hn j ?_ N
    have e : (0 : Int) + (i : Int) * 1 = (i : Int) := by omega
    rw [e] at F
    exact F
  · rintro m₁ nw h tk ⟨G, σ, τ, Z, eL, sL, rL, m', rfl, hn, j⟩ F N
    exact done G σ τ Z eL sL rL m' nw h tk hn j F N

theorem iter_main {prog : Program} {w : World} {A : Around} {E : Value → Shared → Prop} {s : Shared} {env : Env} {h₀ : Heap} {x : Str} {body : List Stmt} {Q : Flow → Shared → Prop}
    {r : Addr} {t₀ u₀ v₀ : Tok} {m₀ : Str → Option Value} {news : Led} {scr ctx eL sL rL : Addr} {G : QG} {σ τ : Nat → Nat} {Z : Zs} {b₀ : Int}
    (hh : A.handled = none) (hr : IsRange s.heap r 0 b₀ 3 t₀ u₀ v₀) (hb : b₀ ≤ 28 ∧ -2 ≤ b₀) (F : Fr h₀ env.locals s.heap m₀) (N : News h₀ env.locals s.heap news)
    (h1 : m₀ (Str.ofString "rings") = some (.ref rL)) (h2 : m₀ (Str.ofString "starts") = some (.ref sL)) (h3 : m₀ (Str.ofString "edges") = some (.ref eL)) (h4 : m₀ (Str.ofString "context") = some (.ref ctx)) (h5 : m₀ (Str.ofString "script") = some (.ref scr))
    (h6 : 6 ≤ G.n) (hj : JN w ctx news G σ τ Z eL sL rL)
    (turn : ∀ i t G σ τ Z eL sL rL m' nw h tk, ((i : Nat) : Int) * 3 < b₀ → 6 ≤ G.n → JN w ctx nw G σ τ Z eL sL rL → Fr h₀ env.locals h (fun y => if y = x then some (.int ((i : Int) * 3) t) else lay scr ctx eL sL rL m' y) → News h₀ env.locals h nw →
      wpAny (model prog w) A (execs body env) (TurnPostR h₀ env.locals nw (fun m nw => ∃ n, 6 ≤ n ∧ J1 w scr ctx n m nw) { s with heap := h, toks := tk } Q) E { s with heap := h, toks := tk })
    (done : ∀ G σ τ Z eL sL rL m' nw h tk, 6 ≤ G.n → JN w ctx nw G σ τ Z eL sL rL → Fr h₀ env.locals h (lay scr ctx eL sL rL m') → News h₀ env.locals h nw → Q .next { s with heap := h, toks := tk }) :
    wpAny (model prog w) A (pyIter (.ref r)) (fun it s₂ => LoopAtV prog w A h₀ env x body Q E it s₂) E s := by
  have hsz : Builtin.Range.rangeSize 0 b₀ 3 = (((Builtin.Range.rangeSize 0 b₀ 3).toNat : Nat) : Int) := by
    have : 0 ≤ Builtin.Range.rangeSize 0 b₀ 3 := by
      unfold Builtin.Range.rangeSize
      (repeat' split) <;> omega
    omega
  have hlt : ∀ i : Nat, i < (Builtin.Range.rangeSize 0 b₀ 3).toNat → (i : Int) * 3 < b₀ := by
    intro i hi
    have h' : (i : Int) < Builtin.Range.rangeSize 0 b₀ 3 := by omega
    revert h'
    unfold Builtin.Range.rangeSize
    (repeat' split) <;> omega
  have hsm : Builtin.Range.small 0 b₀ 3 = true := by
    unfold Builtin.Range.small Builtin.Range.rangeSize
    simp only [Builtin.Range.rangeFitsLong, Bool.and_eq_true, Bool.or_eq_true, decide_eq_true_eq, beq_iff_eq, show (3 : Int) > 0 by decide, if_true]
    split <;> omega
  refine iter_rng (n := (Builtin.Range.rangeSize 0 b₀ 3).toNat) (fun _ m nw => ∃ n, 6 ≤ n ∧ J1 w scr ctx n m nw) hh hr hsm hsz F N ?_ ⟨_, h6, _, _, _, _, _, _, _, _, lay_of h1 h2 h3 h4 h5, rfl, hj⟩ ?_ ?_
  · rintro i m nw nw' ⟨n, hn, j⟩ h
    exact ⟨n, hn, j.mono h⟩
  · rintro i t m₁ nw h tk hi ⟨n, h6, G, σ, τ, Z, eL, sL, rL, m', rfl, hn, j⟩ F N
    refine turn i t G σ τ Z eL sL rL m' nw h tk (hlt i hi) (by omega) j ?_ N
    have e : (0 : Int) + (i : Int) * 3 = (i : Int) * 3 := by omega
    rw [e] at F
    exact F
  · rintro m₁ nw h tk ⟨n, h6, G, σ, τ, Z, eL, sL, rL, m', rfl, hn, j⟩ F N
    exact done G σ τ Z eL sL rL m' nw h tk (by omega) j F N

theorem iter_last {prog : Program} {w : World} {A : Around} {E : Value → Shared → Prop} {s : Shared} {env : Env} {h₀ : Heap} {x : Str} {body : List Stmt} {Q : Flow → Shared → Prop}
    {r : Addr} {t₀ u₀ v₀ : Tok} {m₀ : Str → Option Value} {news : Led} {scr ctx eL sL rL : Addr} {G : QG} {σ τ : Nat → Nat} {Z : Zs}
    (hh : A.handled = none) (hr : IsRange s.heap r 0 (G.n : Int) 1 t₀ u₀ v₀) (F : Fr h₀ env.locals s.heap m₀) (N : News h₀ env.locals s.heap news)
    (h1 : m₀ (Str.ofString "rings") = some (.ref rL)) (h2 : m₀ (Str.ofString "starts") = some (.ref sL)) (h3 : m₀ (Str.ofString "edges") = some (.ref eL)) (h4 : m₀ (Str.ofString "context") = some (.ref ctx)) (h5 : m₀ (Str.ofString "script") = some (.ref scr))
    (hj : JN w ctx news G σ τ Z eL sL rL)
    (turn : ∀ i t m' nw h tk, i < G.n → JN w ctx nw G σ τ Z eL sL rL → Fr h₀ env.locals h (fun y => if y = x then some (.int (i : Int) t) else lay scr ctx eL sL rL m' y) → News h₀ env.locals h nw →
      wpAny (model prog w) A (execs body env) (TurnPostR h₀ env.locals nw (fun m nw => (∃ m', m = lay scr ctx eL sL rL m') ∧ JN w ctx nw G σ τ Z eL sL rL) { s with heap := h, toks := tk } Q) E { s with heap := h, toks := tk })
    (done : ∀ m' nw h tk, Fr h₀ env.locals h m' → News h₀ env.locals h nw → Q .next { s with heap := h, toks := tk }) :
    wpAny (model prog w) A (pyIter (.ref r)) (fun it s₂ => LoopAtV prog w A h₀ env x body Q E it s₂) E s := by
  have hsz : Builtin.Range.rangeSize 0 (G.n : Int) 1 = ((G.n : Nat) : Int) := by
    unfold Builtin.Range.rangeSize
    (repeat' split) <;> omega
  have hsm : Builtin.Range.small 0 (G.n : Int) 1 = true := by
    have := hj.le
    exact small_one (by omega) (by omega) (by omega) (by omega)
  refine iter_rng (n := G.n) (fun _ m nw => (∃ m', m = lay scr ctx eL sL rL m') ∧ JN w ctx nw G σ τ Z eL sL rL) hh hr hsm hsz F N ?_ ⟨⟨_, lay_of h1 h2 h3 h4 h5⟩, hj⟩ ?_ ?_
  · rintro i m nw nw' ⟨hm, j⟩ h
    exact ⟨hm, j.mono h⟩
  · rintro i t m₁ nw h tk hi ⟨⟨m', rfl⟩, j⟩ F N
    refine turn i t m' nw h tk hi j ?_ N
    have e : (0 : Int) + (i : Int) * 1 = (i : Int) := by omega
    rw [e] at F
    exact F
  · rintro m₁ nw h tk ⟨⟨m', rfl⟩, j⟩ F N
    exact done _ nw h tk F N
end Mine

end

section
open PySem PySem.W PyProof.Rows PySem.Calls
namespace Mine
theorem JN.ext {w : World} {ctx : Addr} {nw nw' news' n0 : Led} {G G' : QG} {σ τ : Nat → Nat} {Z : Zs} {eL sL rL eL' sL' rL' S1 S2 d1 d2 pd1 pd2 : Addr} {c4 c5 c6 c7 c8 : Nat} {z1 z2 : Int} {t1 t2 : Tok} {x1 y1 x2 y2 : Value}
    (j : JN w ctx nw G σ τ Z eL sL rL) (hlt : G.n + 2 ≤ 12) (x : Ext G G' S1 S2) (q : QM w G' (ext2 σ G.n G.n (G.n + 1)) (ext2 (orho τ) G.n (G.n + 1) G.n) n0 news') (hsub : ∀ p ∈ news', p ∈ nw') (hk : Keep nw nw')
    (he : (eL', lob (rtab G.P G.n ++ [.ref (G'.P G.n), .ref (G'.P (oth G.n))]) c4) ∈ nw') (hs : (sL', lob (rtab G.S G.n ++ [.ref S1, .ref S2]) c5) ∈ nw') (hr : (rL', lob ((Z.map (·.1)).map Value.ref ++ [.ref d1, .ref d2]) c6) ∈ nw')
    (i1 : (d1, lob [.int z1 t1] c7) ∈ nw') (i2 : (d2, lob [.int z2 t2] c8) ∈ nw') (e1 : z1 = (G.n : Int)) (e2 : z2 = ((G.n + 1 : Nat) : Int)) (p1 : (S1, ptObj pd1 #[x1, y1]) ∈ nw') (p2 : (S2, ptObj pd2 #[x2, y2]) ∈ nw') :
    JN w ctx nw' G' (ext2 σ G.n G.n (G.n + 1)) (ext2 τ G.n G.n (G.n + 1)) (Z ++ [(d1, [G.n]), (d2, [G.n + 1])]) eL' sL' rL' where
  ev := by rw [x.n]; have := j.ev; omega
  le := by rw [x.n]; omega
  cx := by rw [x.c]; exact j.cx
  q := by
    have q2 := q.mono hsub
    rw [orho_ext j.ev] at q2
    exact { iP := q2.iP, iD := q2.iD, eP := q2.eP, eD := q2.eD, jP := q2.jP, jD := q2.jD, jX := q2.jX, cσ := q2.cσ, cρ := q2.cρ, cO := q2.cO, kp := fun _ h => nomatch h }
  v := by
    rw [x.n]
    have := j.v.ext
    simpa using this
  r := rr_two hr (fun z hz => (j.r.row z hz).mono hk) (IntL.at i1 e1) (IntL.at i2 e2)
  e := by
    refine ⟨c4, ?_⟩
    have o0 : oth G.n = G.n + 1 := by unfold oth; rw [if_pos j.ev]
    have e := rtab_two (f := G.P) (g := G'.P) (n := G.n) (fun h => x.P h) rfl rfl
    rw [x.n, ← e, ← o0]
    exact he
  s := by
    refine ⟨c5, ?_⟩
    have e := rtab_two (f := G.S) (g := G'.S) (n := G.n) (fun h => x.S h) x.S0 x.S1
    rw [x.n, ← e]
    exact hs
  p i hi := by
    rw [x.n] at hi
    rcases two_cases hi with h | rfl | rfl
    · rw [x.S h]
      obtain ⟨pd, a, b, hm⟩ := j.p i h
      exact ⟨pd, a, b, hk _ hm (by intro e; cases e)⟩
    · rw [x.S0]; exact ⟨_, _, _, p1⟩
    · rw [x.S1]; exact ⟨_, _, _, p2⟩
end Mine

end

section
open PySem PySem.W PyProof.Rows PySem.Calls
namespace Mine
theorem mod_nat {prog : Program} {w : World} {A : Around} {E : Value → Shared → Prop} {s : Shared} {Q : Value → Shared → Prop} {a : Int} {n : Nat} {t u : Tok} (hn : 0 < n) (h : ∀ c : Nat, c < n → Q (.int (c : Int) s.toks) { s with toks := s.toks + 1 }) :
    wpAny (model prog w) A (binaryOp .Mod (.int a t) (.int (n : Int) u)) Q E s := by
  refine PyProof.Rows.mod_int (by omega) ?_
  have h0 : 0 ≤ Int.fmod a (n : Int) := fmod_lo a (by omega)
  have h1 : Int.fmod a (n : Int) < (n : Int) := fmod_hi a (by omega)
  have e : Int.fmod a (n : Int) = (((Int.fmod a (n : Int)).toNat : Nat) : Int) := by omega
  rw [e]
  exact h _ (by omega)
end Mine

end

section
open PySem PySem.W PyProof.Rows PySem.Calls
namespace Mine
section
variable {w : World} {p : Program} {loose : List Str} {mean : ExcName → Option Value} {mg mb : Str → Option Value}
    {dp un : Nat} {gd : Option (List Code)} {cn : Str} {cs : Scope} {fa : Addr} {ccd : Value} {cl : List (Str × Addr)} {outer : List Env} {A₀ : Around} {base h₀ : Heap} {L : Addr} {m : Str → Option Value} {n0 news : Led} {s : Shared}
    {Q E : Value → Shared → Prop} {r : Addr} {Z : Zs} {a b n : Nat} {st : Int} {t1 t2 : Tok} {σ τ : Nat → Nat} {G : QG}
theorem Z_len (v : Inv n σ τ (Z.map (·.2))) : Z.length ≤ n := by simpa using v.rows
theorem Z_sm (v : Inv n σ τ (Z.map (·.2))) (hn : n ≤ 12) : ∀ z ∈ Z, Sm z.2 := fun z hz => v.sm hn (List.mem_map.mpr ⟨z, hz, rfl⟩)
theorem Z_has (v : Inv n σ τ (Z.map (·.2))) (ha : a < n) : ∃ z ∈ Z, a ∈ z.2 := by
  obtain ⟨xs, hx, hm⟩ := v.has ha
  obtain ⟨z, hz, rfl⟩ := List.mem_map.mp hx
  exact ⟨z, hz, hm⟩
theorem nearM_ (B : Below A₀ base outer h₀) (F : Fr h₀ L s.heap m) (X : Frag.In (Mine.Hd.K w.params) h₀) (N : News h₀ L s.heap news) (T : Top p loose mean mg mb h₀) (hk : cs.kind = .function)
    (hd : dp + 2 < recursionLimit) (hu : un + 16 < cLine) (hr : RR news r Z) (v : Inv n σ τ (Z.map (·.2))) (hn : n ≤ 12) (ha : a < n) (hst : st = -1)
    (ret : ∀ t h' tk', Fr h₀ L h' m → News h₀ L h' news → Q (.int ((τ a : Nat) : Int) t) { s with heap := h', toks := tk' }) :
    wpAny (model prg w) (ktrTop dp un gd cn cs L fa ccd cl outer) (call (.ref 340) [.ref r, .int (a : Int) t1, .int st t2]) Q E s := by
  subst hst
  refine near_ B F X N T hk hd hu hr (Nat.le_trans (Z_len v) (by omega)) (Z_sm v hn) (Z_has v ha) (by decide) ?_
  rw [v.nearM ha]
  exact ret
theorem near1_ (B : Below A₀ base outer h₀) (F : Fr h₀ L s.heap m) (X : Frag.In (Mine.Hd.K w.params) h₀) (N : News h₀ L s.heap news) (T : Top p loose mean mg mb h₀) (hk : cs.kind = .function)
    (hd : dp + 2 < recursionLimit) (hu : un + 16 < cLine) (hr : RR news r Z) (v : Inv n σ τ (Z.map (·.2))) (hn : n ≤ 12) (ha : a < n) (hst : st = 1)
    (ret : ∀ t h' tk', Fr h₀ L h' m → News h₀ L h' news → Q (.int ((σ a : Nat) : Int) t) { s with heap := h', toks := tk' }) :
    wpAny (model prg w) (ktrTop dp un gd cn cs L fa ccd cl outer) (call (.ref 340) [.ref r, .int (a : Int) t1, .int st t2]) Q E s := by
  subst hst
  refine near_ B F X N T hk hd hu hr (Nat.le_trans (Z_len v) (by omega)) (Z_sm v hn) (Z_has v ha) (by decide) ?_
  rw [v.near1 ha]
  exact ret
theorem lspliceV_ (B : Below A₀ base outer h₀) (F : Fr h₀ L s.heap m) (X : Frag.In (Mine.Hd.K w.params) h₀) (N : News h₀ L s.heap news) (T : Top p loose mean mg mb h₀) (hk : cs.kind = .function)
    (hd : dp + 2 < recursionLimit) (hu : un + 16 < cLine) (hr : RR news r Z) (v : Inv n σ τ (Z.map (·.2))) (hn : n ≤ 12) (ha : a < n) (hb : b < n)
    (ret : ∀ r' Z' h' tk' news', Fr h₀ L h' m → News h₀ L h' news' → (∀ p ∈ news, p ∈ news') → RR news' r' Z' → Inv n (spσ σ a b) (spτ σ τ a b) (Z'.map (·.2)) → Q (.ref r') { s with heap := h', toks := tk' }) :
    wpAny (model prg w) (ktrTop dp un gd cn cs L fa ccd cl outer) (call (.ref 335) [.ref r, .int (a : Int) t1, .int (b : Int) t2]) Q E s := by
  refine lsplice_ B F X N T hk hd hu hr (Nat.le_trans (Z_len v) (by omega)) (Z_sm v hn) (Z_has v ha) (Z_has v hb) fun r' Z' h' tk' news' F' N' u R e => ret r' Z' h' tk' news' F' N' u R ?_
  rw [e]
  exact splice_inv v ha hb
theorem spliceV_ (B : Below A₀ base outer h₀) (F : Fr h₀ L s.heap m) (X : Frag.In (Mine.Hd.K w.params) h₀) (N : News h₀ L s.heap news) (T : Top p loose mean mg mb h₀) (hk : cs.kind = .function)
    (hd : dp + 2 < recursionLimit) (hu : un + 16 < cLine) {R : List (List Nat)} (q : QM w G σ (orho τ) n0 news) (v : Inv G.n σ τ R) (ha : a < G.n) (hb : b < G.n)
    (ret : ∀ h' tk' news', Fr h₀ L h' m → News h₀ L h' news' → QM w G (spσ σ a b) (orho (spτ σ τ a b)) n0 news' → Q .none { s with heap := h', toks := tk' }) :
    wpAny (model prg w) (ktrTop dp un gd cn cs L fa ccd cl outer) (call (.ref 146) [.ref (G.P a), .ref (G.P b)]) Q E s := by
  refine splice_ B F X N T hk hd hu q ha hb fun h' tk' news' F' N' q' => ret h' tk' news' F' N' ?_
  rw [← v.rho ha hb]
  exact q'
theorem deleteV_ (B : Below A₀ base outer h₀) (F : Fr h₀ L s.heap m) (X : Frag.In (Mine.Hd.K w.params) h₀) (N : News h₀ L s.heap news) (T : Top p loose mean mg mb h₀) (hk : cs.kind = .function)
    (hd : dp + 4 < recursionLimit) (hu : un + 32 < cLine) {R : List (List Nat)} (q : QM w G σ (orho τ) n0 news) (v : Inv G.n σ τ R) (ha : a < G.n)
    (ret : ∀ h' tk' news', Fr h₀ L h' m → News h₀ L h' news' →
      QM w G (spσ (spσ σ a (τ a)) (oth a) (spτ σ τ a (τ a) (oth a))) (orho (spτ (spσ σ a (τ a)) (spτ σ τ a (τ a)) (oth a) (spτ σ τ a (τ a) (oth a)))) n0 news' → Q .none { s with heap := h', toks := tk' }) :
    wpAny (model prg w) (ktrTop dp un gd cn cs L fa ccd cl outer) (call (.ref 132) [.ref (G.P a)]) Q E s := by
  have o1 : ∀ f x, oth (orho f x) = f x := fun f x => oth_oth _
  have v1 := splice_inv v ha (v.cτ a ha)
  have ho := q.cO a ha
  refine delete_ (σ₁ := spσ σ a (τ a)) (ρ₁ := orho (spτ σ τ a (τ a))) B F X N T hk hd hu q ha ?_ ?_ ?_ ?_ ret
  · rw [o1]; rfl
  · rw [o1]; exact (v.rho ha (v.cτ a ha)).symm
  · rw [o1]; rfl
  · rw [o1]; exact (v1.rho ho (v1.cτ _ ho)).symm
theorem connectV_ (B : Below A₀ base outer h₀) (F : Fr h₀ L s.heap m) (X : Frag.In (Mine.Hd.K w.params) h₀) (N : News h₀ L s.heap news) (T : Top p loose mean mg mb h₀) (hk : cs.kind = .function)
    (hd : dp + 7 < recursionLimit) (hu : un + 64 < cLine) {R : List (List Nat)} (q : QM w G σ (orho τ) n0 news) (v : Inv G.n σ τ R) (ha : a < G.n) (hb : b < G.n) (hev : G.n % 2 = 0)
    (ret : ∀ G' h' tk' news', Fr h₀ L h' m → News h₀ L h' news' → Ext G G' (G.S (oth a)) (G.S b) →
      QM w G' (spσ (spσ (ext2 σ G.n G.n (G.n + 1)) G.n (τ (oth a))) (G.n + 1) b)
        (orho (spτ (spσ (ext2 σ G.n G.n (G.n + 1)) G.n (τ (oth a))) (spτ (ext2 σ G.n G.n (G.n + 1)) (ext2 τ G.n G.n (G.n + 1)) G.n (τ (oth a))) (G.n + 1) b)) n0 news' →
      Q (.ref (G'.P G.n)) { s with heap := h', toks := tk' }) :
    wpAny (model prg w) (ktrTop dp un gd cn cs L fa ccd cl outer) (call (.ref 125) [.ref (G.P a), .ref (G.P b)]) Q E s := by
  have o1 : ∀ f x, oth (orho f x) = f x := fun f x => oth_oth _
  have o0 : oth G.n = G.n + 1 := by unfold oth; rw [if_pos hev]
  have ho := q.cO a ha
  have hc := v.cτ _ ho
  have v0 := v.ext
  have v1 := splice_inv v0 (a := G.n) (b := τ (oth a)) (by omega) (by omega)
  refine connect_ B F X N T hk hd hu q ha hb hev fun G' h' tk' news' F' N' x q' => ret G' h' tk' news' F' N' x ?_
  rw [o1, o0, orho_ext hev, v0.rho (a := G.n) (b := τ (oth a)) (by omega) (by omega), v1.rho (a := G.n + 1) (b := b) (by omega) (by omega)] at q'
  exact q'
end
end Mine

end

section
open PySem PySem.W PyProof.Rows PySem.Calls
namespace Mine
theorem Keep.lob {nw nw' : Led} {l : Addr} {vs : List Value} {c : Nat} (k : Keep nw nw') (h : (l, lob vs c) ∈ nw) : (l, lob vs c) ∈ nw' := k _ h (fun e => absurd (Value.type.inj e) (by decide))
section
variable {w : World} {p : Program} {loose : List Str} {mean : ExcName → Option Value} {mg mb : Str → Option Value}
    {dp un : Nat} {gd : Option (List Code)} {cn : Str} {cs : Scope} {fa : Addr} {ccd : Value} {cl : List (Str × Addr)} {outer : List Env} {A₀ : Around} {base h₀ : Heap} {L : Addr} {m : Str → Option Value} {nw news : Led} {s : Shared}
    {Q E : Value → Shared → Prop} {Z : Zs} {a b n : Nat} {σ τ : Nat → Nat} {G : QG} {ctx eL sL rL : Addr} {c1 c2 : Nat}
theorem spliceJ_ (B : Below A₀ base outer h₀) (F : Fr h₀ L s.heap m) (X : Frag.In (Mine.Hd.K w.params) h₀) (N : News h₀ L s.heap news) (T : Top p loose mean mg mb h₀) (hk : cs.kind = .function)
    (hd : dp + 2 < recursionLimit) (hu : un + 16 < cLine) (j : JN w ctx nw G σ τ Z eL sL rL) (hs : ∀ p ∈ nw, p ∈ news) (ha : a < G.n) (hb : b < G.n)
    (ret : ∀ h' tk' news', Fr h₀ L h' m → News h₀ L h' news' → Keep nw news' → QM w G (spσ σ a b) (orho (spτ σ τ a b)) nw news' → RR news' rL Z → a < G.n → b < G.n → Q .none { s with heap := h', toks := tk' }) :
    wpAny (model prg w) (ktrTop dp un gd cn cs L fa ccd cl outer) (call (.ref 146) [.ref (G.P a), .ref (G.P b)]) Q E s :=
  spliceV_ B F X N T hk hd hu (j.q.self.mono hs) j.v ha hb fun h' tk' news' F' N' q' => ret h' tk' news' F' N' q'.kp q' (j.r.mono q'.kp) ha hb
theorem deleteJ_ (B : Below A₀ base outer h₀) (F : Fr h₀ L s.heap m) (X : Frag.In (Mine.Hd.K w.params) h₀) (N : News h₀ L s.heap news) (T : Top p loose mean mg mb h₀) (hk : cs.kind = .function)
    (hd : dp + 4 < recursionLimit) (hu : un + 32 < cLine) (j : JN w ctx nw G σ τ Z eL sL rL) (hs : ∀ p ∈ nw, p ∈ news) (ha : a < G.n)
    (ret : ∀ h' tk' news', Fr h₀ L h' m → News h₀ L h' news' → Keep nw news' →
      QM w G (spσ (spσ σ a (τ a)) (oth a) (spτ σ τ a (τ a) (oth a))) (orho (spτ (spσ σ a (τ a)) (spτ σ τ a (τ a)) (oth a) (spτ σ τ a (τ a) (oth a)))) nw news' → RR news' rL Z →
      a < G.n → oth a < G.n → τ a < G.n → spτ σ τ a (τ a) (oth a) < G.n → Q .none { s with heap := h', toks := tk' }) :
    wpAny (model prg w) (ktrTop dp un gd cn cs L fa ccd cl outer) (call (.ref 132) [.ref (G.P a)]) Q E s :=
  deleteV_ B F X N T hk hd hu (j.q.self.mono hs) j.v ha fun h' tk' news' F' N' q' => ret h' tk' news' F' N' q'.kp q' (j.r.mono q'.kp) ha (j.q.cO a ha) (j.v.cτ a ha)
    ((splice_inv j.v ha (j.v.cτ a ha)).cτ _ (j.q.cO a ha))
theorem connectJ_ (B : Below A₀ base outer h₀) (F : Fr h₀ L s.heap m) (X : Frag.In (Mine.Hd.K w.params) h₀) (N : News h₀ L s.heap news) (T : Top p loose mean mg mb h₀) (hk : cs.kind = .function)
    (hd : dp + 7 < recursionLimit) (hu : un + 64 < cLine) (j : JN w ctx nw G σ τ Z eL sL rL) (hs : ∀ p ∈ nw, p ∈ news) (ha : a < G.n) (hb : b < G.n)
    (me : (eL, lob (rtab G.P G.n) c1) ∈ nw) (ms : (sL, lob (rtab G.S G.n) c2) ∈ nw)
    (ret : ∀ G' h' tk' news', Fr h₀ L h' m → News h₀ L h' news' → Keep nw news' → Ext G G' (G.S (oth a)) (G.S b) →
      QM w G' (spσ (spσ (ext2 σ G.n G.n (G.n + 1)) G.n (τ (oth a))) (G.n + 1) b)
        (orho (spτ (spσ (ext2 σ G.n G.n (G.n + 1)) G.n (τ (oth a))) (spτ (ext2 σ G.n G.n (G.n + 1)) (ext2 τ G.n G.n (G.n + 1)) G.n (τ (oth a))) (G.n + 1) b)) nw news' → RR news' rL Z →
      (eL, lob (rtab G.P G.n) c1) ∈ news' → (sL, lob (rtab G.S G.n) c2) ∈ news' → a < G.n → b < G.n → oth a < G.n → τ (oth a) < G.n → G.n < G'.n → oth G.n < G'.n → oth G.n = G.n + 1 →
      Q (.ref (G'.P G.n)) { s with heap := h', toks := tk' }) :
    wpAny (model prg w) (ktrTop dp un gd cn cs L fa ccd cl outer) (call (.ref 125) [.ref (G.P a), .ref (G.P b)]) Q E s :=
  connectV_ B F X N T hk hd hu (j.q.self.mono hs) j.v ha hb j.ev fun G' h' tk' news' F' N' x q' => ret G' h' tk' news' F' N' q'.kp x q' (j.r.mono q'.kp) (Keep.lob q'.kp me) (Keep.lob q'.kp ms) ha hb (j.q.cO a ha) (j.v.cτ _ (j.q.cO a ha)) x.l0 (q'.cO _ x.l0)
    (by unfold oth; rw [if_pos j.ev])
end
theorem JN.fin {w : World} {ctx : Addr} {nw nw1 nw' : Led} {G : QG} {σ τ σ' τ' : Nat → Nat} {Z Z' : Zs} {eL sL rL rL' : Addr} (j : JN w ctx nw G σ τ Z eL sL rL) (q : QM w G σ' (orho τ') nw nw1) (hs : ∀ p ∈ nw1, p ∈ nw') (v : Inv G.n σ' τ' (Z'.map (·.2))) (R : RR nw' rL' Z') :
    JN w ctx nw' G σ' τ' Z' eL sL rL' where
  ev := j.ev
  le := j.le
  cx := j.cx
  q := by
    have q2 := q.mono hs
    exact { iP := q2.iP, iD := q2.iD, eP := q2.eP, eD := q2.eD, jP := q2.jP, jD := q2.jD, jX := q2.jX, cσ := q2.cσ, cρ := q2.cρ, cO := q2.cO, kp := fun _ h => nomatch h }
  v := v
  r := R
  e := by obtain ⟨c, hc⟩ := j.e; exact ⟨c, hs _ (Keep.lob q.kp hc)⟩
  s := by obtain ⟨c, hc⟩ := j.s; exact ⟨c, hs _ (Keep.lob q.kp hc)⟩
  p i hi := by obtain ⟨pd, x, y, hc⟩ := j.p i hi; exact ⟨pd, x, y, hs _ (q.kp _ hc (by intro e; cases e))⟩
theorem JN.con {w : World} {ctx : Addr} {nw nw1 nw' : Led} {G G' : QG} {σ τ σ' τ' : Nat → Nat} {Z Z' : Zs} {eL sL rL eL' sL' rL' : Addr} {a b c4 c5 : Nat} (j : JN w ctx nw G σ τ Z eL sL rL) (hlt : G.n + 2 ≤ 12) (x : Ext G G' (G.S (oth a)) (G.S b)) (ha : oth a < G.n) (hb : b < G.n)
    (q : QM w G' σ' (orho τ') nw nw1) (hs : ∀ p ∈ nw1, p ∈ nw') (v : Inv (G.n + 2) σ' τ' (Z'.map (·.2))) (R : RR nw' rL' Z')
    (he : (eL', lob (rtab G.P G.n ++ [.ref (G'.P G.n), .ref (G'.P (oth G.n))]) c4) ∈ nw') (hs2 : (sL', lob (rtab G.S G.n ++ [.ref (G.S (oth a)), .ref (G.S b)]) c5) ∈ nw') :
    JN w ctx nw' G' σ' τ' Z' eL' sL' rL' where
  ev := by rw [x.n]; have := j.ev; omega
  le := by rw [x.n]; omega
  cx := by rw [x.c]; exact j.cx
  q := by
    have q2 := q.mono hs
    exact { iP := q2.iP, iD := q2.iD, eP := q2.eP, eD := q2.eD, jP := q2.jP, jD := q2.jD, jX := q2.jX, cσ := q2.cσ, cρ := q2.cρ, cO := q2.cO, kp := fun _ h => nomatch h }
  v := by rw [x.n]; exact v
  r := R
  e := by
    refine ⟨c4, ?_⟩
    have o0 : oth G.n = G.n + 1 := by unfold oth; rw [if_pos j.ev]
    have e := rtab_two (f := G.P) (g := G'.P) (n := G.n) (fun h => x.P h) rfl rfl
    rw [x.n, ← e, ← o0]
    exact he
  s := by
    refine ⟨c5, ?_⟩
    have e := rtab_two (f := G.S) (g := G'.S) (n := G.n) (fun h => x.S h) x.S0 x.S1
    rw [x.n, ← e]
    exact hs2
  p i hi := by
    rw [x.n] at hi
    have pt : ∀ k, k < G.n → ∃ pd a b, (G.S k, ptObj pd #[a, b]) ∈ nw' := fun k h => by
      obtain ⟨pd, a, b, hm⟩ := j.p k h
      exact ⟨pd, a, b, hs _ (q.kp _ hm (by intro e; cases e))⟩
    rcases two_cases hi with h | rfl | rfl
    · rw [x.S h]; exact pt _ h
    · rw [x.S0]; exact pt _ ha
    · rw [x.S1]; exact pt _ hb
end Mine

end

section
open PySem PySem.W PyProof.Rows PySem.Calls
namespace Mine
local macro_rules | `(tactic| k_room) => `(tactic| ktr_room)
local macro_rules | `(tactic| kcj_all) => `(tactic| kcj_in)
local macro_rules | `(tactic| walk_at "exec For Name Call cons nil") => `(tactic| (refine Stop.out ?_))
local macro_rules | `(tactic| walk_at "pyIter ref") => `(tactic| (refine Stop.out ?_))
local macro_rules | `(tactic| walk_at "TurnPostR") => `(tactic| (refine Stop.out ?_))
local macro_rules | `(tactic| walk_at "call builtin:len") => `(tactic| (k_here; (with_reducible show wpAny _ _ (call (Value.builtin "len") [Value.ref _]) _ _ _); k_dflt (refine' len_tab ?k1 ?k2 ?k3 ?_; (case k1 => k_asm); (case k2 => k_mem); (case k3 => omega))))
local macro_rules | `(tactic| walk_at "binaryOp Mod int int") => `(tactic| (k_here; (with_reducible show wpAny _ _ (binaryOp _ (Value.int _ _) (Value.int (Nat.cast (QG.n _)) _)) _ _ _); refine' mod_nat ?k1 ?_; (case k1 => omega); intro c' hc'))
local macro_rules | `(tactic| walk_at "callWith ref") => `(tactic| (k_here; k_dflt (refine' callWith_MKW ?k1 ?k2 ?k3 ?k4 ?k5 ?_; (case k1 => k_asm); (case k2 => k_asm); (case k3 => k_mem); (case k4 => k_is); (case k5 => exact rfl); k_whole)))
local macro_rules | `(tactic| ktr_rel) => `(tactic| first | assumption | omega | exact Ext.l0 (by assumption) | exact Ext.lt (by assumption) (by assumption) | exact QM.cO (by assumption) _ (by assumption))
local macro_rules | `(tactic| k_mem) => `(tactic| (repeat (with_reducible refine List.mem_cons_of_mem _ ?_)); first | assumption | exact QM.iP (by assumption) (by ktr_rel) | exact QM.iD (by assumption) (by ktr_rel) | exact QM.eP (by assumption) (by ktr_rel) | exact QM.eD (by assumption) (by ktr_rel))
local macro_rules | `(tactic| ktr_unf) => `(tactic| ((try simp only [rtab_len, List.length_cons, List.length_nil, List.length_map]); omega))
local macro_rules | `(tactic| walk_at "binaryOp Add ref ref") => `(tactic| (k_here; (with_reducible show wpAny _ _ (binaryOp _ (Value.ref _) (Value.ref _)) _ _ _); k_dflt (refine' refcat_ ?F ?N ?a ?b ?z ?_; (case F => k_asm); (case N => k_asm); (case a => k_mem); (case b => k_mem); (case z => ktr_unf); intro D' h' F' N'; (try k_sweep))))
local macro_rules | `(tactic| walk_at "subscriptTail") => `(tactic| (k_here; (with_reducible show wpAny _ _ (subscriptTail _ _ (Value.ref _) (Value.int _ _)) _ _ _); (with_unfolding_all refine' item_tab ?k1 ?k2 ?k3 ?k4 ?k5 ?_ ?k6 ?k7; (case k1 => k_asm); (case k2 => k_mem); (case k3 => omega); (case k4 => omega); (case k5 => first | exact rtab_app0 (by omega) | exact rtab_app1 (by omega) | exact rtab_getI (by ktr_rel)); (case k6 => with_unfolding_all rfl); (case k7 => (intro _; with_unfolding_all rfl)))))
local macro_rules | `(tactic| walk_at "call ref") => `(tactic| (k_here; k_dflt (refine' call_meth ?k1 ?k2 ?_; (case k1 => k_asm); (case k2 => k_mem); k_whole; refine Stop.out ?_)))
local macro_rules | `(tactic| walk_at "call ref") => `(tactic| (k_here; (with_reducible show wpAny _ _ (call (Value.ref 271) _) _ _ _); k_dflt (refine' point_ ?k1 ?k2 ?k3 ?k4 ?k5 ?kK ?kd ?ku ?_; (case k1 => k_asm); (case k2 => k_asm); (case k3 => k_asm); (case k4 => k_asm); (case k5 => k_asm); (case kK => exact rfl); (case kd => ktr_room); (case ku => ktr_units)); intro pt' pd' h' tk' F' N'; (try dsimp only); (try k_sweep)))
local macro_rules | `(tactic| k_enter) => `(tactic| ((with_reducible show codeAny _ _ (.call (.ref 35) _) _ _); refine' fe2_ ?k1 ?k2 ?k3 ?k4 ?k5 ?kK ?kd ?ku ?kq ?ke ?kc ?_; (case k1 => k_asm); (case k2 => k_asm); (case k3 => k_asm); (case k4 => k_asm); (case k5 => k_asm); (case kK => first | exact rfl | assumption); (case kd => ktr_room); (case ku => ktr_units); (case kq => (refine' QM.mono ?qqm ?hhm; (case qqm => assumption); (intro p hp; (repeat (with_reducible refine List.mem_cons_of_mem _ ?_)); exact hp))); (case ke => assumption); (case kc => first | exact rfl | (symm; assumption)); intro G' h' tk' news' F' N' up' x' qo' q'; have z1' := Ext.l0 x'; have z2' := QM.cO q' _ z1'; (try dsimp only); (try k_sweep); (try k_fold)))
local macro_rules | `(tactic| walk_at "call ref") => `(tactic| (k_here; (first | (with_reducible show wpAny _ _ (call (Value.ref 132) _) _ _ _) | (with_reducible show wpAny _ _ (call (Value.ref 125) _) _ _ _) | (with_reducible show wpAny _ _ (call (Value.ref 146) _) _ _ _) | (with_reducible show wpAny _ _ (call (Value.ref 335) _) _ _ _) | (with_reducible show wpAny _ _ (call (Value.ref 340) _) _ _ _)); refine Stop.out ?_))
local macro_rules | `(tactic| walk_at "call ref") => `(tactic| (k_here; (with_reducible show wpAny _ _ (call (Value.ref 340) _) _ _ _); k_dflt (refine' nearM_ ?k1 ?k2 ?k3 ?k4 ?k5 ?kK ?kd ?ku ?kr ?kv ?kn ?ka ?kst ?_; (case k1 => k_asm); (case k2 => k_asm); (case k3 => k_asm); (case k4 => k_asm); (case k5 => k_asm); (case kK => exact rfl); (case kd => ktr_room); (case ku => ktr_units); (case kst => first | exact rfl | decide); (case kr => (refine' RR.mono ?hhm ?qqm; (case qqm => assumption); (case hhm => (intro p hp _; (repeat (with_reducible refine List.mem_cons_of_mem _ ?_)); exact hp)))); (case kv => assumption); (case kn => omega); (case ka => first | assumption | omega)); intro tz' h' tk' F' N'; (try dsimp only); (try k_sweep)))
local macro_rules | `(tactic| walk_at "call ref") => `(tactic| (k_here; (with_reducible show wpAny _ _ (call (Value.ref 335) [Value.ref _, Value.int (Nat.cast _) _, Value.int (Nat.cast _) _]) _ _ _); k_dflt (refine' lspliceV_ ?k1 ?k2 ?k3 ?k4 ?k5 ?kK ?kd ?ku ?kr ?kv ?kn ?ka ?kb ?_; (case k1 => k_asm); (case k2 => k_asm); (case k3 => k_asm); (case k4 => k_asm); (case k5 => k_asm); (case kK => exact rfl); (case kd => ktr_room); (case ku => ktr_units); (case kr => (refine' RR.mono ?hhm ?qqm; (case qqm => assumption); (case hhm => (intro p hp _; (repeat (with_reducible refine List.mem_cons_of_mem _ ?_)); exact hp)))); (case kv => assumption); (case kn => omega); (case ka => first | assumption | omega); (case kb => first | assumption | omega)); intro r' Z' h' tk' news' F' N' up' R' v'; (try dsimp only); (try k_sweep)))
local macro_rules | `(tactic| walk_at "call ref") => `(tactic| (k_here; (with_reducible show wpAny _ _ (call (Value.ref 347) [Value.int (Nat.cast _) _]) _ _ _); k_dflt (refine' other_ ?k1 ?k2 ?k3 ?k4 ?k5 ?kK ?kd ?ku ?ka ?_; (case k1 => k_asm); (case k2 => k_asm); (case k3 => k_asm); (case k4 => k_asm); (case k5 => k_asm); (case kK => exact rfl); (case kd => ktr_room); (case ku => ktr_units); (case ka => omega)); intro tz' h' tk' F' N'; (try dsimp only); (try k_sweep)))
theorem isnot_eq {prog : Program} {w : World} {A : Around} {E : Value → Shared → Prop} {s : Shared} {Q : Value → Shared → Prop} {x y : Addr} (e : x = y) (h : Q (.bool false) s) : wpAny (model prog w) A (compareOp .IsNot (.ref x) (.ref y)) Q E s := by
  subst e
  exact wpAny_isNot_ref_self h
local macro_rules | `(tactic| walk_at "compareOp IsNot ref ref") => `(tactic| ((refine' isnot_eq ?e ?_); (case e => first | with_reducible exact rfl | (simp only [orho, oth_oth]))))
theorem ptneN_ {w : World} {A : Around} {E : Value → Shared → Prop} {s : Shared} {h₀ : Heap} {L : Addr} {m : Str → Option Value} {Q : Value → Shared → Prop} {S pd : Addr} {x y : Value} {news : Led}
    (hu : A.units < cLine) (F : Fr h₀ L s.heap m) (X₀ : Frag.In (Mine.Hd.K w.params) h₀) (N : News h₀ L s.heap news) (hm : (S, ptObj pd #[x, y]) ∈ news) (h : Q (.bool false) s) :
    wpAny (model prg w) A (compareOp .NotEq (.ref S) (.ref S)) Q E s := ptne_ hu F X₀ (N _ hm).1 h
local macro_rules | `(tactic| walk_at "compareOp NotEq ref ref") => `(tactic| (k_here; (with_reducible show wpAny _ _ (compareOp CmpOp.NotEq (Value.ref _) (Value.ref _)) _ _ _); k_dflt (refine' ptneN_ ?hu ?F ?X ?N ?m ?_; (case hu => ktr_units); (case F => k_asm); (case X => k_asm); (case N => k_asm); (case m => ((repeat (with_reducible refine List.mem_cons_of_mem _ ?_)); assumption)))))
local macro_rules | `(tactic| walk_at "call ref") => `(tactic| (k_here; (with_reducible show wpAny _ _ (call (Value.ref 340) [_, _, Value.int 1 _]) _ _ _); k_dflt (refine' near1_ ?k1 ?k2 ?k3 ?k4 ?k5 ?kK ?kd ?ku ?kr ?kv ?kn ?ka ?kst ?_; (case k1 => k_asm); (case k2 => k_asm); (case k3 => k_asm); (case k4 => k_asm); (case k5 => k_asm); (case kK => exact rfl); (case kd => ktr_room); (case ku => ktr_units); (case kst => first | exact rfl | decide); (case kr => (refine' RR.mono ?hhm ?qqm; (case qqm => assumption); (case hhm => (intro p hp _; (repeat (with_reducible refine List.mem_cons_of_mem _ ?_)); exact hp)))); (case kv => assumption); (case kn => omega); (case ka => first | assumption | omega)); intro tz' h' tk' F' N'; (try dsimp only); (try k_sweep)))
set_option maxRecDepth 100000 in
set_option maxHeartbeats 40000000 in
theorem law_ : PySem.Challenge.rw_iu0014_01.Holds := by
  w_on
  refine holds_law Mine.Hd.wellSaid fun said => ?_
  refine holds_open (q := Mine.Hd.view) (loose := Mine.Hd.loose) (Xt := Mine.Hd.XT) (XP := XL Mine.Hd.view []) (Yf := Hook.obs (kHook Mine.Hd.K Mine.Hd.ads Mine.Hd.adsOk)) (Ya := Hook.val (kHook Mine.Hd.K Mine.Hd.ads Mine.Hd.adsOk)) (YP := Hook.says (kHook Mine.Hd.K Mine.Hd.ads Mine.Hd.adsOk)) (N := 6510) Mine.Hd.left (Hook.of (kHook Mine.Hd.K Mine.Hd.ads Mine.Hd.adsOk)) (Hook.keeps (kHook Mine.Hd.K Mine.Hd.ads Mine.Hd.adsOk)) (fun s e => xl_of s (Bool.and_eq_true_iff.mp e).1) XL.keeps (by rfl) (by rfl) (by rfl) (fun s e => recFacts_of (Bool.and_eq_true_iff.mp e).2) (by rfl) (by first | assumption | decide +kernel) (by decide +kernel) ⟨rfl, rfl, rfl, rfl, rfl, by decide +kernel⟩ ?hw ?hc
  case hw => w_witness2
  clear said
  k_go0
  all_goals (try k_fold)
  k_steps
  dsimp only [Stop]
  rename Fr _ _ _ _ => F0
  with_unfolding_all refine' For_invVF F0 ?k1 ?k2 ?_
  case k1 => exact rfl
  case k2 => exact rfl
  k_whole
  k_steps
  dsimp only [Stop]
  rename IsRange _ _ _ _ _ _ _ _ => R1
  rename Fr _ _ _ _ => F1
  rename News _ _ _ _ => N1

  with_unfolding_all refine iter_first (by rfl) R1 F1 N1 (by rfl) (by rfl) (by rfl) (by rfl) (by rfl) (by repeat (first | exact List.Mem.head _ | apply List.Mem.tail)) (by repeat (first | exact List.Mem.head _ | apply List.Mem.tail)) (by repeat (first | exact List.Mem.head _ | apply List.Mem.tail)) ?turn ?_
  case turn =>
    clear N1 F1 R1
    intro i t G σ τ Z eL sL rL m' nw h tk hi hn j F N
    have hev := j.ev
    have hle := j.le
    have hcx := j.cx
    have q := j.q.self
    obtain ⟨c1, he⟩ := j.e
    obtain ⟨c2, hs⟩ := j.s
    obtain ⟨⟨c3, hr⟩, hrow⟩ := j.r
    k_steps
    dsimp only [Stop]
    refine' fe2_ ?qk1 ?qk2 ?qk3 ?qk4 ?qk5 ?qkK ?qkd ?qku ?qkq ?qke ?qkc ?_
    case qk1 => k_asm
    case qk2 => k_asm
    case qk3 => k_asm
    case qk4 => k_asm
    case qk5 => k_asm
    case qkK => exact rfl
    case qkd => ktr_room
    case qku => ktr_units
    case qkq => (refine' QM.mono ?qqm ?hhm; (case qqm => assumption); (intro p hp; (repeat (with_reducible refine List.mem_cons_of_mem _ ?_)); exact hp))
    case qke => assumption
    case qkc => symm; assumption
    intro G' h' tk' news' F' N' up' x' qo' q'
    have z1' := Ext.l0 x'
    have z2' := QM.cO q' _ z1'
    (try dsimp only)
    (try k_sweep)
    (try k_fold)
    have he2 := up' _ (by k_mem : (eL, lob (rtab G.P G.n) c1) ∈ _)
    have hr2 := up' _ (by k_mem : (rL, lob ((Z.map (·.1)).map Value.ref) c3) ∈ _)
    clear he hr qo'
    have hZ : Z.length ≤ G.n := by simpa using j.v.rows
    k_steps
    dsimp only [Stop]
    refine' TurnPostR.go rfl (by k_asm) (by k_asm) ?keep ⟨G', _, _, _, _, _, _, _, lay_of rfl rfl rfl rfl rfl, (by have := x'.n; omega), JN.ext j (by omega) x' q' ?hsub ?hkp ?he ?hs ?hr ?i1 ?i2 ?e1 ?e2 ?p1 ?p2⟩
    case keep => intro p hp _; repeat (first | exact hp | exact up' _ hp | refine List.mem_cons_of_mem _ ?_ | refine up' _ ?_)
    case hkp => intro p hp _; repeat (first | exact hp | exact up' _ hp | refine List.mem_cons_of_mem _ ?_ | refine up' _ ?_)
    case hsub => intro p hp; repeat (first | exact hp | refine List.mem_cons_of_mem _ ?_)
    all_goals (repeat (first | exact List.Mem.head _ | refine List.Mem.tail _ ?_ | refine up' _ ?_))
    all_goals omega
  clear N1 F1 R1
  intro G σ τ Z eL sL rL m' nw h tk hn j F N
  dsimp only
  k_steps
  dsimp only [Stop]
  rename Fr _ _ _ _ => F1
  with_unfolding_all refine' For_invVF F1 ?k1b ?k2b ?_
  case k1b => exact rfl
  case k2b => exact rfl
  k_whole
  k_steps
  dsimp only [Stop]
  rename IsRange _ _ _ _ _ _ _ _ => R2
  rename Fr _ _ _ _ => F2
  rename News _ _ _ _ => N2
  with_unfolding_all refine iter_main (by rfl) R2 (by omega) F2 N2 (by rfl) (by rfl) (by rfl) (by rfl) (by rfl) (by omega) (j.mono (by intro p hp _; repeat (first | exact hp | refine List.mem_cons_of_mem _ ?_))) ?turn2 ?_
  case turn2 =>
    clear R2 F2 N2 j hn

    intro i t G σ τ Z eL sL rL m' nw h tk hi h6 j F N
    have hev := j.ev
    have hle := j.le
    have hcx := j.cx
    have q := j.q.self
    have hR := j.r
    have hV := j.v
    obtain ⟨c1, he⟩ := j.e
    obtain ⟨c2, hs⟩ := j.s
    k_steps
    · dsimp only [Stop]
      refine' deleteJ_ ?wk1 ?wk2 ?wk3 ?wk4 ?wk5 ?wkK ?wkd ?wku j ?ws ?wa ?_
      case wk1 => k_asm
      case wk2 => k_asm
      case wk3 => k_asm
      case wk4 => k_asm
      case wk5 => k_asm
      case wkK => exact rfl
      case wkd => ktr_room
      case wku => ktr_units
      case ws => intro p hp; repeat (first | exact hp | refine List.mem_cons_of_mem _ ?_)
      case wa => assumption
      intro h1 tk1 news1 F1 N1 kp1 q1 R1 ha ho ht ht1
      (try dsimp only)
      (try k_sweep)
      clear he hs q
      k_steps
      dsimp only [Stop]
      rename RR _ _ _ => R9
      rename Inv _ _ _ _ => v9
      refine' TurnPostR.go rfl (by k_asm) (by k_asm) ?dkeep ⟨_, h6, G, _, _, _, _, _, _, _, lay_of rfl rfl rfl rfl rfl, rfl, JN.fin j q1 ?dhs v9 ?dR⟩
      case dkeep => intro p hp hc; have hp' := kp1 p hp hc; repeat (first | exact hp' | refine List.mem_cons_of_mem _ ?_ | apply_assumption)
      case dhs => intro p hp; repeat (first | exact hp | refine List.mem_cons_of_mem _ ?_ | apply_assumption)
      case dR => exact R9
    · dsimp only [Stop]
      refine' connectJ_ ?yk1 ?yk2 ?yk3 ?yk4 ?yk5 ?ykK ?ykd ?yku j ?ys ?ya ?yb he hs ?_
      case yk1 => k_asm
      case yk2 => k_asm
      case yk3 => k_asm
      case yk4 => k_asm
      case yk5 => k_asm
      case ykK => exact rfl
      case ykd => ktr_room
      case yku => ktr_units
      case ys => intro p hp; repeat (first | exact hp | refine List.mem_cons_of_mem _ ?_)
      case ya => assumption
      case yb => assumption
      intro G' h1 tk1 news1 F1 N1 kp1 x1 q1 R1 he1 hs1 ha hb ho ht z1 z2 o1
      (try dsimp only)
      (try k_sweep)
      clear he hs q
      have hZ := Z_len j.v
      obtain ⟨⟨c3, hr1⟩, hrow1⟩ := id R1
      k_steps
      dsimp only [Stop]
      rename News _ _ _ _ => N3
      refine' lspliceV_ (Z := Z ++ [(_, [G.n]), (_, [G.n + 1])]) (n := G.n + 2) (σ := ext2 σ G.n G.n (G.n + 1)) (τ := ext2 τ G.n G.n (G.n + 1)) ?zk1 ?zk2 ?zk3 N3 ?zk5 ?zkK ?zkd ?zku (rr_two (List.Mem.head _) ?zrow (IntL.at ?zm1 rfl) (IntL.at ?zm2 ?ze2)) ?zv ?zn ?za ?zb ?_
      case zk1 => k_asm
      case zk2 => k_asm
      case zk3 => k_asm
      case zk5 => k_asm
      case zkK => exact rfl
      case zkd => ktr_room
      case zku => ktr_units
      case zrow => intro z hz; refine (hrow1 z hz).mono ?_; intro p hp _; repeat (first | exact hp | refine List.mem_cons_of_mem _ ?_)
      case zm1 => repeat (first | exact List.Mem.head _ | refine List.Mem.tail _ ?_)
      case zm2 => repeat (first | exact List.Mem.head _ | refine List.Mem.tail _ ?_)
      case ze2 => first | rfl | omega
      case zv => rw [List.map_append]; exact j.v.ext
      case zn => omega
      case za => omega
      case zb => omega
      intro r2 Z2 h2 tk2 news2 F2 N2 up2 R2 v2
      (try dsimp only)
      (try k_sweep)

      k_steps
      dsimp only [Stop]
      refine' lspliceV_ (a := G.n + 1) (n := G.n + 2) ?uk1 ?uk2 ?uk3 ?uk4 ?uk5 ?ukK ?ukd ?uku R2 v2 ?un ?ua ?ub ?_
      case uk1 => k_asm
      case uk2 => k_asm
      case uk3 => k_asm
      case uk4 => k_asm
      case uk5 => k_asm
      case ukK => exact rfl
      case ukd => ktr_room
      case uku => ktr_units
      case un => omega
      case ua => omega
      case ub => omega
      intro r3 Z3 h3 tk3 news3 F3 N3 up3 R3 v3
      (try dsimp only)
      (try k_sweep)
      k_steps
      dsimp only [Stop]
      have xn := x1.n
      refine' TurnPostR.go rfl (by k_asm) (by k_asm) ?fkeep ⟨_, ?f6, G', _, _, _, _, _, _, _, lay_of rfl rfl rfl rfl rfl, rfl, JN.con j (by omega) x1 ho hb q1 ?fhs v3 R3 ?fhe ?fhs2⟩
      case fkeep => intro p hp hc; have hp' := kp1 p hp hc; repeat (first | exact hp' | refine List.mem_cons_of_mem _ ?_ | refine up3 _ ?_ | refine up2 _ ?_)
      case fhs => intro p hp; repeat (first | exact hp | refine List.mem_cons_of_mem _ ?_ | refine up3 _ ?_ | refine up2 _ ?_)
      case f6 => omega
      case fhe => repeat (first | exact List.Mem.head _ | refine List.Mem.tail _ ?_ | refine up3 _ ?_ | refine up2 _ ?_)
      case fhs2 => repeat (first | exact List.Mem.head _ | refine List.Mem.tail _ ?_ | refine up3 _ ?_ | refine up2 _ ?_)
    all_goals (
      dsimp only [Stop]
      refine' spliceJ_ ?xk1 ?xk2 ?xk3 ?xk4 ?xk5 ?xkK ?xkd ?xku j ?xs ?xa ?xb ?_
      case xk1 => k_asm
      case xk2 => k_asm
      case xk3 => k_asm
      case xk4 => k_asm
      case xk5 => k_asm
      case xkK => exact rfl
      case xkd => ktr_room
      case xku => ktr_units
      case xs => intro p hp; repeat (first | exact hp | refine List.mem_cons_of_mem _ ?_)
      case xa => assumption
      case xb => assumption
      intro h1 tk1 news1 F1 N1 kp1 q1 R1 ha hb
      (try dsimp only)
      (try k_sweep)
      clear he hs q
      k_steps
      dsimp only [Stop]
      rename RR _ _ _ => R9
      rename Inv _ _ _ _ => v9
      refine' TurnPostR.go rfl (by k_asm) (by k_asm) ?ekeep ⟨_, h6, G, _, _, _, _, _, _, _, lay_of rfl rfl rfl rfl rfl, rfl, JN.fin j q1 ?ehs v9 ?eR⟩
      case ekeep => intro p hp hc; have hp' := kp1 p hp hc; repeat (first | exact hp' | refine List.mem_cons_of_mem _ ?_ | apply_assumption)
      case ehs => intro p hp; repeat (first | exact hp | refine List.mem_cons_of_mem _ ?_ | apply_assumption)
      case eR => exact R9)
  clear R2 F2 N2 j hn
  intro G σ τ Z eL sL rL m' nw h tk h6 j F N
  have hle := j.le
  obtain ⟨c1, he⟩ := j.e
  dsimp only
  k_steps
  dsimp only [Stop]
  rename Fr _ _ _ _ => F1
  with_unfolding_all refine' For_invVF F1 ?k1c ?k2c ?_
  case k1c => exact rfl
  case k2c => exact rfl
  k_whole
  k_steps
  dsimp only [Stop]
  rename IsRange _ _ _ _ _ _ _ _ => R3
  rename Fr _ _ _ _ => F3
  rename News _ _ _ _ => N3
  with_unfolding_all refine iter_last (G := G) (by rfl) R3 F3 N3 (by rfl) (by rfl) (by rfl) (by rfl) (by rfl) (j.mono (by intro p hp _; repeat (first | exact hp | refine List.mem_cons_of_mem _ ?_))) ?turn3 ?_
  case turn3 =>
    clear R3 F3 N3 j he
    intro i t m' nw h tk hi j F N
    have hev := j.ev
    have hcx := j.cx
    have q := j.q
    have hR := j.r
    have hV := j.v
    obtain ⟨c1, he⟩ := j.e
    obtain ⟨c2, hs⟩ := j.s
    have f3 := q.cO i hi
    have f1 := q.cσ i hi
    have f2 := hV.cτ i hi
    have f4 := hV.cτ _ f3
    have f5 := q.cσ _ f3
    have f6 := q.cρ i hi
    have f7 := q.cO _ f6
    have f8 := q.cρ _ f3
    have f9 := q.cO _ f8
    obtain ⟨pd1, px1, py1, hp1⟩ := j.p i hi
    obtain ⟨pd2, px2, py2, hp2⟩ := j.p _ f3
    k_steps
    dsimp only [Stop]
    refine' TurnPostR.go rfl (by k_asm) (by k_asm) ?gk ⟨⟨_, lay_of rfl rfl rfl rfl rfl⟩, j.mono ?gm⟩
    case gk => intro p hp hc; repeat (first | exact hp | refine List.mem_cons_of_mem _ ?_)
    case gm => intro p hp hc; repeat (first | exact hp | refine List.mem_cons_of_mem _ ?_)
  clear R3 F3 N3
  intro m' nw h tk F N
  dsimp only
  k_steps
end Mine

end

set_option maxRecDepth 100000 in
theorem PySem.Challenge.cw_iu0014_01_holds : PySem.Challenge.rw_iu0014_01.Holds :=
  Mine.law_
