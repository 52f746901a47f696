import PyProof.Rows.All
import Wide.All
import OpenK.AllK
import Wide.FinOn
import PySem.Challenge.RW_ja0046_01
open List.Mem renaming tail → mtl, head → mhd
open List renaming mem_cons_of_mem → mcm
open PySem PySem.W PySem.Spec PySem.Calls PyProof.Rows
set_option Elab.async false
set_option maxRecDepth 100000
set_option maxHeartbeats 8000000
set_option linter.all false
namespace Mhd
noncomputable def PP : Program := PySem.Challenge.rw_ja0046_01.row.toRowW.1
noncomputable def BB : List Stmt := behindTheImports PP
noncomputable def at_ : List Stmt → Nat → Stmt
  | [], _ => .Pass default
  | s :: _, 0 => s
  | _ :: r, n + 1 => at_ r n
noncomputable def kid : Stmt → List Stmt
  | .ClassDef _ _ _ b _ _ _ _ _ _ _ => b
  | .FunctionDef _ _ b _ _ _ _ _ _ _ => b
  | _ => []
noncomputable def nav : List Stmt → List Nat → Stmt
  | l, [] => at_ l 0
  | l, [i] => at_ l i
  | l, i :: r => nav (kid (at_ l i)) r
noncomputable def fpar : Stmt → Arguments | .FunctionDef _ a _ _ _ _ _ _ _ _ => a | _ => default
noncomputable def fbod : Stmt → List Stmt | .FunctionDef _ _ b _ _ _ _ _ _ _ => b | _ => []
noncomputable def fsco : Stmt → Scope | .FunctionDef _ _ _ _ _ _ s _ _ _ => s | _ => default
noncomputable def docOf : List Stmt → Str | .Expr (.Constant (.str x) _ _) _ :: _ => x | _ => default
noncomputable def D (l : List Nat) : Str := docOf (kid (nav BB l))
noncomputable def fd (l : List Nat) (q : Str) (g : Addr) (cl : List (Str × Addr)) (dV kV doc pm : Value) (an : Option Addr) (c ct : Value) (bi : Addr) (nm : Str) : Data :=
  .func ⟨nm, q, fpar (nav BB l), .stmts (fbod (nav BB l)), fsco (nav BB l), g, cl, dV, kV, doc, pm, an, c, ct, bi⟩
noncomputable def S (s : Str) (t : Nat) : Value := .str s t
noncomputable def I (i : Int) : Value := .int i 0
noncomputable def R (a : Nat) : Value := .ref a
noncomputable def Y (s : String) : Value := .type s
noncomputable def U (s : String) : Value := .builtin s
noncomputable def O : Value := .none
noncomputable def T : Value := .bool true
noncomputable def F : Value := .bool false
noncomputable def PLAIN : Data := .plain
noncomputable def E (P : Params) (s : Str) (t : Nat) (v : Value) : DictEntry := ⟨PyData.keyHash P s, .str s t, v⟩
noncomputable def tu (l : List Value) : Obj := ⟨.type "tuple", none, .seq l.toArray 0, #[]⟩
noncomputable def fl (l : List Value) : Obj := ⟨.none, none, .fields l.toArray, #[]⟩
noncomputable def co (l : List Value) : Obj := ⟨.type "code", none, .fields l.toArray, #[]⟩
noncomputable def bf (l : List Value) : Obj := ⟨.type "builtin_function_or_method", none, .fields l.toArray, #[]⟩
noncomputable def pr (l : List Value) : Obj := ⟨.type "property", none, .fields l.toArray, #[]⟩
noncomputable def dc (n : Nat) (l : List DictEntry) : Obj := ⟨.type "dict", none, .dict l.toArray n, #[]⟩
noncomputable def bld : BT → Nat → List Obj → BT
  | t, _, [] => t
  | t, n, o :: r => bld (t.ins n o) (n + 1) r
noncomputable def put : BT → List (Nat × Obj) → BT
  | t, [] => t
  | t, (a, o) :: r => put (t.set a fun _ => o) r
noncomputable def sl (a n : Nat) : List Stmt := (BB.drop a).take n
noncomputable def St (t : Params → BT) (n k : Nat) (w : World) (os : OsState) : SharedT := ⟨t w.params, n, {}, #[], {}, k, os⟩
noncomputable def env0 : Env := { scope := PP.main.scope, locals := mainNs, globals := mainNs, cells := [], code := .ref 13, frame := some 14 }
noncomputable def cE : Code := .body BB env0
noncomputable def p0 : Pos := ⟨0, 0, 0, 0⟩
noncomputable def fr0 : List Frame := [topFrame p0]
noncomputable def n0 : Str := .ofString "<module>"
noncomputable def n1 : Str := .ofString "/claim/cut.py"
noncomputable def n2 : Str := .ofString "__main__"
noncomputable def n3 : Str := .ofString "k"
noncomputable def n4 : Str := .ofString "_wall"
noncomputable def n5 : Str := .ofString "__name__"
noncomputable def n6 : Str := .ofString "__doc__"
noncomputable def n7 : Str := .ofString "__package__"
noncomputable def n8 : Str := .ofString "__loader__"
noncomputable def n9 : Str := .ofString "__spec__"
noncomputable def n10 : Str := .ofString "__annotations__"
noncomputable def n11 : Str := .ofString "__builtins__"
noncomputable def n12 : Str := .ofString "__file__"
noncomputable def n13 : Str := .ofString "__cached__"
noncomputable def n14 : Str := .ofString "sect.core.hints"
noncomputable def n15 : Str := .ofString "__module__"
noncomputable def n16 : Str := .ofString "__qualname__"
noncomputable def n17 : Str := .ofString "_tuplegetter"
noncomputable def n18 : Str := .ofString "__firstlineno__"
noncomputable def n19 : Str := .ofString "__init__"
noncomputable def n20 : Str := .ofString "__get__"
noncomputable def n21 : Str := .ofString "__set__"
noncomputable def n22 : Str := .ofString "__delete__"
noncomputable def n23 : Str := .ofString "__static_attributes__"
noncomputable def n24 : Str := .ofString "self"
noncomputable def n25 : Str := .ofString "index"
noncomputable def n26 : Str := .ofString "doc"
noncomputable def n27 : Str := .ofString "_tuplegetter.__init__"
noncomputable def n28 : Str := .ofString "obj"
noncomputable def n29 : Str := .ofString "objtype"
noncomputable def n30 : Str := .ofString "_tuplegetter.__get__"
noncomputable def n31 : Str := .ofString "value"
noncomputable def n32 : Str := .ofString "_tuplegetter.__set__"
noncomputable def n33 : Str := .ofString "_tuplegetter.__delete__"
noncomputable def n34 : Str := .ofString "__dict__"
noncomputable def n35 : Str := .ofString "__weakref__"
noncomputable def n36 : Str := .ofString "Point"
noncomputable def n37 : Str := D [3]
noncomputable def n38 : Str := .ofString "__slots__"
noncomputable def n39 : Str := .ofString "_fields"
noncomputable def n40 : Str := .ofString "_field_defaults"
noncomputable def n41 : Str := .ofString "__new__"
noncomputable def n42 : Str := .ofString "_make"
noncomputable def n43 : Str := .ofString "_replace"
noncomputable def n44 : Str := .ofString "__replace__"
noncomputable def n45 : Str := .ofString "__repr__"
noncomputable def n46 : Str := .ofString "_asdict"
noncomputable def n47 : Str := .ofString "__getnewargs__"
noncomputable def n48 : Str := .ofString "__match_args__"
noncomputable def n49 : Str := .ofString "x"
noncomputable def n50 : Str := .ofString "y"
noncomputable def n51 : Str := .ofString "__classcell__"
noncomputable def n52 : Str := .ofString "_cls"
noncomputable def n53 : Str := .ofString "Point.__new__"
noncomputable def n54 : Str := D [3, 4]
noncomputable def n55 : Str := .ofString "cls"
noncomputable def n56 : Str := .ofString "iterable"
noncomputable def n57 : Str := .ofString "result"
noncomputable def n58 : Str := .ofString "Point._make"
noncomputable def n59 : Str := D [3, 5]
noncomputable def n60 : Str := .ofString "__class__"
noncomputable def n61 : Str := .ofString "kwds"
noncomputable def n62 : Str := .ofString "Point._replace"
noncomputable def n63 : Str := D [3, 6]
noncomputable def n64 : Str := .ofString "Point.__repr__"
noncomputable def n65 : Str := D [3, 8]
noncomputable def n66 : Str := .ofString "Point._asdict"
noncomputable def n67 : Str := .ofString "Point.__getnewargs__"
noncomputable def n68 : Str := D [3, 10]
noncomputable def n69 : Str := .ofString "Alias for field number 0"
noncomputable def n70 : Str := .ofString "Alias for field number 1"
noncomputable def n71 : Str := .ofString "Kind"
noncomputable def n72 : Str := D [4]
noncomputable def n73 : Str := .ofString "__bool__"
noncomputable def n74 : Str := .ofString "Kind.__init__"
noncomputable def n75 : Str := .ofString "Kind.__bool__"
noncomputable def n76 : Str := .ofString "Orientation"
noncomputable def n77 : Str := .ofString "CLOCKWISE"
noncomputable def n78 : Str := .ofString "COLLINEAR"
noncomputable def n79 : Str := .ofString "COUNTERCLOCKWISE"
noncomputable def n80 : Str := .ofString "Location"
noncomputable def n81 : Str := .ofString "EXTERIOR"
noncomputable def n82 : Str := .ofString "BOUNDARY"
noncomputable def n83 : Str := .ofString "INTERIOR"
noncomputable def n84 : Str := .ofString "Context"
noncomputable def n85 : Str := D [7]
noncomputable def n86 : Str := .ofString "point_cls"
noncomputable def n87 : Str := .ofString "contour_cls"
noncomputable def n88 : Str := .ofString "contour_box"
noncomputable def n89 : Str := .ofString "segments_box"
noncomputable def n90 : Str := .ofString "angle_orientation"
noncomputable def n91 : Str := .ofString "locate_point_in_point_point_point_circle"
noncomputable def n92 : Str := .ofString "Context.point_cls"
noncomputable def n93 : Str := .ofString "vertices"
noncomputable def n94 : Str := .ofString "Context.contour_cls"
noncomputable def n95 : Str := .ofString "contour"
noncomputable def n96 : Str := .ofString "Context.contour_box"
noncomputable def n97 : Str := .ofString "segments"
noncomputable def n98 : Str := .ofString "Context.segments_box"
noncomputable def n99 : Str := .ofString "vertex"
noncomputable def n100 : Str := .ofString "first"
noncomputable def n101 : Str := .ofString "second"
noncomputable def n102 : Str := .ofString "product"
noncomputable def n103 : Str := .ofString "Context.angle_orientation"
noncomputable def n104 : Str := D [7, 5]
noncomputable def n105 : Str := .ofString "point"
noncomputable def n106 : Str := .ofString "third"
noncomputable def n107 : Str := .ofString "a_x"
noncomputable def n108 : Str := .ofString "a_y"
noncomputable def n109 : Str := .ofString "b_x"
noncomputable def n110 : Str := .ofString "b_y"
noncomputable def n111 : Str := .ofString "c_x"
noncomputable def n112 : Str := .ofString "c_y"
noncomputable def n113 : Str := .ofString "Context.locate_point_in_point_point_point_circle"
noncomputable def n114 : Str := D [7, 6]
noncomputable def n115 : Str := .ofString "amount"
noncomputable def n116 : Str := .ofString "denominations"
noncomputable def n117 : Str := .ofString "twos"
noncomputable def n118 : Str := .ofString "coin_change"
noncomputable def n119 : Str := D [8]
noncomputable def n120 : Str := .ofString "sect.core.utils"
noncomputable def n121 : Str := .ofString "elements"
noncomputable def n122 : Str := .ofString "pairwise"
noncomputable def n123 : Str := .ofString "sect.core.delaunay.quad_edge"
noncomputable def n124 : Str := .ofString "QuadEdge"
noncomputable def n125 : Str := D [12]
noncomputable def n126 : Str := .ofString "from_endpoints"
noncomputable def n127 : Str := .ofString "context"
noncomputable def n128 : Str := .ofString "end"
noncomputable def n129 : Str := .ofString "left_from_end"
noncomputable def n130 : Str := .ofString "left_from_start"
noncomputable def n131 : Str := .ofString "opposite"
noncomputable def n132 : Str := .ofString "right_from_end"
noncomputable def n133 : Str := .ofString "right_from_start"
noncomputable def n134 : Str := .ofString "rotated"
noncomputable def n135 : Str := .ofString "start"
noncomputable def n136 : Str := .ofString "connect"
noncomputable def n137 : Str := .ofString "delete"
noncomputable def n138 : Str := .ofString "orientation_of"
noncomputable def n139 : Str := .ofString "splice"
noncomputable def n140 : Str := .ofString "swap"
noncomputable def n141 : Str := .ofString "triple_rotated"
noncomputable def n142 : Str := .ofString "QuadEdge.from_endpoints"
noncomputable def n143 : Str := D [12, 1]
noncomputable def n144 : Str := .ofString "QuadEdge.context"
noncomputable def n145 : Str := .ofString "QuadEdge.end"
noncomputable def n146 : Str := D [12, 3]
noncomputable def n147 : Str := .ofString "QuadEdge.left_from_end"
noncomputable def n148 : Str := D [12, 4]
noncomputable def n149 : Str := .ofString "QuadEdge.left_from_start"
noncomputable def n150 : Str := D [12, 5]
noncomputable def n151 : Str := .ofString "QuadEdge.opposite"
noncomputable def n152 : Str := D [12, 6]
noncomputable def n153 : Str := .ofString "QuadEdge.right_from_end"
noncomputable def n154 : Str := D [12, 7]
noncomputable def n155 : Str := .ofString "QuadEdge.right_from_start"
noncomputable def n156 : Str := D [12, 8]
noncomputable def n157 : Str := .ofString "QuadEdge.rotated"
noncomputable def n158 : Str := D [12, 9]
noncomputable def n159 : Str := .ofString "QuadEdge.start"
noncomputable def n160 : Str := D [12, 10]
noncomputable def n161 : Str := .ofString "QuadEdge.__init__"
noncomputable def n162 : Str := .ofString "other"
noncomputable def n163 : Str := .ofString "QuadEdge.connect"
noncomputable def n164 : Str := D [12, 12]
noncomputable def n165 : Str := .ofString "QuadEdge.delete"
noncomputable def n166 : Str := D [12, 13]
noncomputable def n167 : Str := .ofString "QuadEdge.orientation_of"
noncomputable def n168 : Str := D [12, 14]
noncomputable def n169 : Str := .ofString "alpha"
noncomputable def n170 : Str := .ofString "beta"
noncomputable def n171 : Str := .ofString "QuadEdge.splice"
noncomputable def n172 : Str := D [12, 15]
noncomputable def n173 : Str := .ofString "QuadEdge.swap"
noncomputable def n174 : Str := .ofString "_context"
noncomputable def n175 : Str := .ofString "_left_from_start"
noncomputable def n176 : Str := .ofString "_rotated"
noncomputable def n177 : Str := .ofString "_start"
noncomputable def n178 : Str := .ofString "sect.core.delaunay.utils"
noncomputable def n179 : Str := .ofString "number"
noncomputable def n180 : Str := .ofString "ceil_log2"
noncomputable def n181 : Str := .ofString "values"
noncomputable def n182 : Str := .ofString "to_distinct"
noncomputable def n183 : Str := .ofString "sect.core.delaunay.triangulation"
noncomputable def n184 : Str := .ofString "Triangulation"
noncomputable def n185 : Str := D [17]
noncomputable def n186 : Str := .ofString "delaunay"
noncomputable def n187 : Str := .ofString "triangles"
noncomputable def n188 : Str := .ofString "_initialize_triangulation"
noncomputable def n189 : Str := .ofString "Triangulation.delaunay"
noncomputable def n190 : Str := D [17, 1]
noncomputable def n191 : Str := .ofString "left_side"
noncomputable def n192 : Str := .ofString "right_side"
noncomputable def n193 : Str := .ofString "Triangulation.__init__"
noncomputable def n194 : Str := .ofString "edge"
noncomputable def n195 : Str := .ofString "Triangulation.delete"
noncomputable def n196 : Str := D [17, 3]
noncomputable def n197 : Str := .ofString "Triangulation.triangles"
noncomputable def n198 : Str := .ofString "points"
noncomputable def n199 : Str := .ofString "Triangulation._initialize_triangulation"
noncomputable def n200 : Str := .ofString "_triangular_holes_vertices"
noncomputable def n201 : Str := .ofString "base_edge"
noncomputable def n202 : Str := .ofString "point_in_circle_locator"
noncomputable def n203 : Str := .ofString "left_candidate"
noncomputable def n204 : Str := .ofString "right_candidate"
noncomputable def n205 : Str := .ofString "find_base_edge"
noncomputable def n206 : Str := .ofString "merge"
noncomputable def n207 : Str := .ofString "next_candidate"
noncomputable def n208 : Str := .ofString "to_left_candidate"
noncomputable def n209 : Str := .ofString "to_right_candidate"
noncomputable def n210 : Str := .ofString "base_cases"
noncomputable def n211 : Str := .ofString "sorted_points"
noncomputable def n212 : Str := .ofString "first_edge"
noncomputable def n213 : Str := .ofString "triangulate_two_points"
noncomputable def n214 : Str := .ofString "left_point"
noncomputable def n215 : Str := .ofString "mid_point"
noncomputable def n216 : Str := .ofString "right_point"
noncomputable def n217 : Str := .ofString "second_edge"
noncomputable def n218 : Str := .ofString "orientation"
noncomputable def n219 : Str := .ofString "third_edge"
noncomputable def n220 : Str := .ofString "triangulate_three_points"
noncomputable def n221 : Str := .ofString "law_ja0046_01"
noncomputable def n222 : Str := .ofString "script"
noncomputable def n223 : Str := .ofString "size"
noncomputable def n224 : Str := .ofString "place"
noncomputable def n225 : Str := .ofString "_law_points"
noncomputable def n226 : Str := .ofString "a"
noncomputable def n227 : Str := .ofString "b"
noncomputable def n228 : Str := .ofString "c"
noncomputable def n229 : Str := .ofString "_law_turn"
noncomputable def n230 : Str := .ofString "cut"
noncomputable def n231 : Str := .ofString "away"
noncomputable def n232 : Str := .ofString "_law_halves"
noncomputable def n233 : Str := .ofString "_law_made"
noncomputable def n234 : Str := .ofString "left"
noncomputable def n235 : Str := .ofString "right"
noncomputable def n236 : Str := .ofString "turn"
noncomputable def n237 : Str := .ofString "law"
noncomputable def B0 (P : Params) : List Obj := [boot_o_0 P, boot_o_1 P, boot_o_2 P, boot_o_3 P, boot_o_4 P, boot_o_5 P, boot_o_6 P, boot_o_7 P, boot_o_8 P, boot_o_9 P, boot_o_10 P]
noncomputable def T0 (P : Params) : BT := (bld (bld .nil 0 (B0 P)) 11 [tu [],
  fl [],
  co [(S n0 182),(S n0 183),(S n1 184),(I 1),(I 0),(I 0),(I 0),(I 0),(R 11),F,(I 181),(R 12),O,O,O,O,(I 185),(I 1),(S n1 186)],
  ⟨(Y "frame"), none, PLAIN, #[(some (R 13)),(some (R 3)),(some (R 3)),none,(some (S n2 164)),none,(some (R 0))]⟩])
noncomputable def T1 (P : Params) : BT := (put (bld (T0 P) 15 [tu [],
  fl [],
  tu [(S n3 190)],
  tu [],
  ⟨O, none, (fd [0] n4 0 [] O O O O none O O 0 n4), #[]⟩,
  co [(S n4 187),(S n4 188),(S n1 189),(I 1),(I 1),(I 0),(I 0),(I 3),(R 15),T,(I 181),(R 16),O,(R 17),(R 18),(R 19),(I 191),(I 1),(S n1 192)],
  ⟨(Y "function"), none, (fd [0] n4 3 [] O O O (S n2 164) none (R 20) O 0 n4), #[]⟩,
  tu [],
  bf [(U "type.__prepare__"),(Y "type")],
  dc 8 [E P n15 203 (S n14 194),E P n16 205 (S n17 204),E P n18 207 (.int 5 206),E P n19 216 (R 35),E P n20 225 (R 43),E P n21 234 (R 50),E P n22 242 (R 57),E P n23 245 (R 58)],
  tu [],
  fl [(I 7),(I 4),(R 34),(I 11),(I 4),(R 42),(I 18),(I 4),(R 49),(I 21),(I 4),(R 56)],
  co [(S n17 198),(S n17 199),(S n1 200),(I 5),(I 0),(I 0),(I 0),(I 0),(R 25),F,(I 181),(R 26),O,O,O,O,(I 201),(I 5),(S n1 202)],
  ⟨(Y "frame"), none, PLAIN, #[(some (R 27)),(some (R 3)),(some (R 24)),none,(some (S n14 194)),none,(some (R 0))]⟩,
  tu [],
  fl [],
  tu [(S n24 211),(S n25 212),(S n26 213)],
  tu [],
  ⟨O, none, (fd [2, 0] n27 0 [] O O O O none O O 0 n19), #[]⟩,
  co [(S n19 208),(S n27 209),(S n1 210),(I 7),(I 3),(I 0),(I 0),(I 3),(R 29),T,(I 181),(R 30),O,(R 31),(R 32),(R 33),(I 214),(I 7),(S n1 215)],
  ⟨(Y "function"), none, (fd [2, 0] n27 3 [] O O O (S n14 194) none (R 34) O 0 n19), #[]⟩,
  tu [O],
  tu [],
  fl [],
  tu [(S n24 220),(S n28 221),(S n29 222)],
  tu [],
  ⟨O, none, (fd [2, 1] n30 0 [] O O O O none O O 0 n20), #[]⟩,
  co [(S n20 217),(S n30 218),(S n1 219),(I 11),(I 3),(I 0),(I 0),(I 3),(R 37),T,(I 181),(R 38),O,(R 39),(R 40),(R 41),(I 223),(I 11),(S n1 224)],
  ⟨(Y "function"), none, (fd [2, 1] n30 3 [] (R 36) O O (S n14 194) none (R 42) O 0 n20), #[]⟩,
  tu [],
  fl [],
  tu [(S n24 229),(S n28 230),(S n31 231)],
  tu [],
  ⟨O, none, (fd [2, 2] n32 0 [] O O O O none O O 0 n21), #[]⟩,
  co [(S n21 226),(S n32 227),(S n1 228),(I 18),(I 3),(I 0),(I 0),(I 3),(R 44),T,(I 181),(R 45),O,(R 46),(R 47),(R 48),(I 232),(I 18),(S n1 233)],
  ⟨(Y "function"), none, (fd [2, 2] n32 3 [] O O O (S n14 194) none (R 49) O 0 n21), #[]⟩,
  tu [],
  fl [],
  tu [(S n24 238),(S n28 239)],
  tu [],
  ⟨O, none, (fd [2, 3] n33 0 [] O O O O none O O 0 n22), #[]⟩,
  co [(S n22 235),(S n33 236),(S n1 237),(I 21),(I 2),(I 0),(I 0),(I 3),(R 51),T,(I 181),(R 52),O,(R 53),(R 54),(R 55),(I 240),(I 21),(S n1 241)],
  ⟨(Y "function"), none, (fd [2, 3] n33 3 [] O O O (S n14 194) none (R 56) O 0 n22), #[]⟩,
  tu [(S n6 243),(S n25 244)],
  dc 4 [E P n15 203 (S n14 194),E P n18 207 (.int 5 206),E P n19 216 (R 35),E P n20 225 (R 43),E P n21 234 (R 50),E P n22 242 (R 57),E P n23 245 (R 58),E P n34 247 (R 61),E P n35 249 (R 62),E P n6 250 O],
  ⟨(Y "type"), none, (.cls ⟨n17, [(Y "object")], [(R 60),(Y "object")], 59, n17, true, [], [], false, none, false⟩), #[none,none,(some (S n17 196)),(some (S n17 204)),(some (U "object.__new__")),(some T)]⟩,
  ⟨(Y "getset_descriptor"), none, (.fields #[(S n34 246),(R 60),(U "function.__dict__"),(U "function.__dict__#set")]), #[]⟩,
  ⟨(Y "getset_descriptor"), none, (.fields #[(S n35 248),(R 60),(U "ExceptionGroup.__weakref__"),O]), #[]⟩,
  ⟨(Y "super"), none, (.fields #[(R 60),(R 60),(R 60)]), #[]⟩,
  bf [(U "object.__init_subclass__"),(R 60)]]) [(3, dc 11 [E P n5 165 (S n14 194),E P n6 166 O,E P n7 167 O,E P n8 168 (U "__main__.__loader__#opaque"),E P n9 169 O,E P n10 170 (R 6),E P n11 171 (R 4),E P n12 173 (S n1 172),E P n13 174 O,E P n4 193 (R 21),E P n17 252 (R 60)]), (12, fl [(I 1),(I 0),(R 20),(I 5),(I 0),(R 27)])])
noncomputable def p1 : Pos := ⟨5,0,22,54⟩
noncomputable def T2 (P : Params) : BT := (put (bld (T1 P) 65 [tu [(Y "tuple")],
  bf [(U "type.__prepare__"),(Y "type")],
  dc 19 [E P n15 260 (S n14 194),E P n16 262 (S n36 261),E P n18 264 (.int 23 263),E P n6 266 (S n37 265),E P n38 268 (R 73),E P n39 271 (R 74),E P n40 272 (R 75),E P n41 282 (R 82),E P n42 304 (R 91),E P n43 315 (R 100),E P n44 316 (R 100),E P n45 324 (R 107),E P n46 331 (R 114),E P n47 339 (R 121),E P n48 342 (R 122),E P n49 352 (R 124),E P n50 362 (R 127),E P n23 363 (R 129),E P n51 364 (R 68)],
  ⟨(Y "cell"), none, (.cell (some (R 132))), #[]⟩,
  tu [],
  fl [(I 29),(I 4),(R 81),(I 34),(I 4),(R 88),(I 41),(I 4),(R 99),(I 52),(I 4),(R 106),(I 56),(I 4),(R 113),(I 59),(I 4),(R 120)],
  co [(S n36 255),(S n36 256),(S n1 257),(I 23),(I 0),(I 0),(I 0),(I 0),(R 69),F,(I 181),(R 70),O,O,O,O,(I 258),(I 23),(S n1 259)],
  ⟨(Y "frame"), none, PLAIN, #[(some (R 71)),(some (R 3)),(some (R 67)),none,(some (S n14 194)),none,(some (R 0))]⟩,
  tu [],
  tu [(S n49 269),(S n50 270)],
  dc 0 [],
  tu [],
  fl [],
  tu [(S n52 276),(S n49 277),(S n50 278)],
  tu [],
  ⟨O, none, (fd [3, 4] n53 0 [] O O O O none O O 0 n41), #[]⟩,
  co [(S n41 273),(S n53 274),(S n1 275),(I 29),(I 3),(I 0),(I 0),(I 3),(R 76),T,(I 181),(R 77),O,(R 78),(R 79),(R 80),(I 279),(I 29),(S n1 280)],
  ⟨(Y "function"), none, (fd [3, 4] n53 3 [] O O (S n54 281) (S n14 194) none (R 81) O 0 n41), #[]⟩,
  tu [],
  fl [],
  tu [(S n55 286),(S n56 287),(S n57 288)],
  tu [],
  ⟨O, none, (fd [3, 5] n58 0 [] O O O O none O O 0 n42), #[]⟩,
  co [(S n42 283),(S n58 284),(S n1 285),(I 33),(I 2),(I 0),(I 0),(I 3),(R 83),T,(I 181),(R 84),O,(R 85),(R 86),(R 87),(I 289),(I 33),(S n1 290)],
  ⟨(Y "function"), none, (fd [3, 5] n58 3 [] O O (S n59 291) (S n14 194) (some 92) (R 88) O 0 n42), #[]⟩,
  dc 5 [E P n15 293 (S n14 194),E P n5 296 (S n42 295),E P n16 299 (S n58 298),E P n6 301 (S n59 291),E P n10 303 (R 92)],
  ⟨(Y "classmethod"), some 90, (.fields #[(R 89),F]), #[]⟩,
  dc 0 [],
  tu [(R 68)],
  tu [(S n60 308)],
  fl [],
  tu [(S n24 309),(S n61 310),(S n57 311)],
  tu [],
  ⟨O, none, (fd [3, 6] n62 0 [] O O O O none O O 0 n43), #[]⟩,
  co [(S n43 305),(S n62 306),(S n1 307),(I 41),(I 1),(I 1),(I 0),(I 11),(R 94),T,(I 181),(R 95),O,(R 96),(R 97),(R 98),(I 312),(I 41),(S n1 313)],
  ⟨(Y "function"), none, (fd [3, 6] n62 3 [(n60,68)] O O (S n63 314) (S n14 194) none (R 99) (R 93) 0 n43), #[]⟩,
  tu [],
  fl [],
  tu [(S n24 320)],
  tu [],
  ⟨O, none, (fd [3, 8] n64 0 [] O O O O none O O 0 n45), #[]⟩,
  co [(S n45 317),(S n64 318),(S n1 319),(I 52),(I 1),(I 0),(I 0),(I 3),(R 101),T,(I 181),(R 102),O,(R 103),(R 104),(R 105),(I 321),(I 52),(S n1 322)],
  ⟨(Y "function"), none, (fd [3, 8] n64 3 [] O O (S n65 323) (S n14 194) none (R 106) O 0 n45), #[]⟩,
  tu [],
  fl [],
  tu [(S n24 328)],
  tu [],
  ⟨O, none, (fd [3, 9] n66 0 [] O O O O none O O 0 n46), #[]⟩,
  co [(S n46 325),(S n66 326),(S n1 327),(I 56),(I 1),(I 0),(I 0),(I 3),(R 108),T,(I 181),(R 109),O,(R 110),(R 111),(R 112),(I 329),(I 56),(S n1 330)],
  ⟨(Y "function"), none, (fd [3, 9] n66 3 [] O O O (S n14 194) none (R 113) O 0 n46), #[]⟩,
  tu [],
  fl [],
  tu [(S n24 335)],
  tu [],
  ⟨O, none, (fd [3, 10] n67 0 [] O O O O none O O 0 n47), #[]⟩,
  co [(S n47 332),(S n67 333),(S n1 334),(I 59),(I 1),(I 0),(I 0),(I 3),(R 115),T,(I 181),(R 116),O,(R 117),(R 118),(R 119),(I 336),(I 59),(S n1 337)],
  ⟨(Y "function"), none, (fd [3, 10] n67 3 [] O O (S n68 338) (S n14 194) none (R 120) O 0 n47), #[]⟩,
  tu [(S n49 340),(S n50 341)],
  dc 2 [E P n25 349 (.int 0 343),E P n6 351 (S n69 344)],
  ⟨(R 60), some 123, PLAIN, #[]⟩,
  ⟨(Y "frame"), none, (.dict #[E P n24 345 (R 124),E P n25 346 (.int 0 343),E P n26 347 (S n69 344)] 3), #[]⟩,
  dc 2 [E P n25 359 (.int 1 353),E P n6 361 (S n70 354)],
  ⟨(R 60), some 126, PLAIN, #[]⟩,
  ⟨(Y "frame"), none, (.dict #[E P n24 355 (R 127),E P n25 356 (.int 1 353),E P n26 357 (S n70 354)] 3), #[]⟩,
  tu [],
  ⟨(Y "list"), none, (.seq #[] 0), #[]⟩,
  dc 2 [E P n15 260 (S n14 194),E P n18 264 (.int 23 263),E P n6 266 (S n37 265),E P n38 268 (R 73),E P n39 271 (R 74),E P n40 272 (R 75),E P n41 282 (R 133),E P n42 304 (R 91),E P n43 315 (R 100),E P n44 316 (R 100),E P n45 324 (R 107),E P n46 331 (R 114),E P n47 339 (R 121),E P n48 342 (R 122),E P n49 352 (R 124),E P n50 362 (R 127),E P n23 363 (R 129)],
  ⟨(Y "type"), none, (.cls ⟨n36, [(Y "tuple")], [(R 132),(Y "tuple"),(Y "object")], 131, n36, false, [], [], false, none, false⟩), #[(some (R 65)),none,(some (S n36 253)),(some (S n36 261)),(some O),(some F)]⟩,
  ⟨(Y "staticmethod"), none, (.fields #[(R 82)]), #[]⟩,
  ⟨(Y "super"), none, (.fields #[(R 132),(R 132),(R 132)]), #[]⟩,
  bf [(U "object.__init_subclass__"),(R 132)]]) [(3, dc 12 [E P n5 165 (S n14 194),E P n6 166 O,E P n7 167 O,E P n8 168 (U "__main__.__loader__#opaque"),E P n9 169 O,E P n10 170 (R 6),E P n11 171 (R 4),E P n12 173 (S n1 172),E P n13 174 O,E P n4 193 (R 21),E P n17 252 (R 60),E P n36 367 (R 132)]), (12, fl [(I 1),(I 0),(R 20),(I 5),(I 0),(R 27),(I 23),(I 0),(R 71)])])
noncomputable def p2 : Pos := ⟨23,0,64,51⟩
noncomputable def T3 (P : Params) : BT := (put (bld (T2 P) 136 [tu [],
  bf [(U "type.__prepare__"),(Y "type")],
  dc 7 [E P n15 375 (S n14 194),E P n16 377 (S n71 376),E P n18 379 (.int 65 378),E P n6 381 (S n72 380),E P n19 390 (R 149),E P n73 397 (R 156),E P n23 399 (R 157)],
  tu [],
  fl [(I 68),(I 4),(R 148),(I 71),(I 4),(R 155)],
  co [(S n71 370),(S n71 371),(S n1 372),(I 65),(I 0),(I 0),(I 0),(I 0),(R 139),F,(I 181),(R 140),O,O,O,O,(I 373),(I 65),(S n1 374)],
  ⟨(Y "frame"), none, PLAIN, #[(some (R 141)),(some (R 3)),(some (R 138)),none,(some (S n14 194)),none,(some (R 0))]⟩,
  tu [],
  fl [],
  tu [(S n24 386),(S n31 387)],
  tu [],
  ⟨O, none, (fd [4, 1] n74 0 [] O O O O none O O 0 n19), #[]⟩,
  co [(S n19 383),(S n74 384),(S n1 385),(I 68),(I 2),(I 0),(I 0),(I 3),(R 143),T,(I 181),(R 144),O,(R 145),(R 146),(R 147),(I 388),(I 68),(S n1 389)],
  ⟨(Y "function"), none, (fd [4, 1] n74 3 [] O O O (S n14 194) none (R 148) O 0 n19), #[]⟩,
  tu [],
  fl [],
  tu [(S n24 394)],
  tu [],
  ⟨O, none, (fd [4, 2] n75 0 [] O O O O none O O 0 n73), #[]⟩,
  co [(S n73 391),(S n75 392),(S n1 393),(I 71),(I 1),(I 0),(I 0),(I 3),(R 150),T,(I 181),(R 151),O,(R 152),(R 153),(R 154),(I 395),(I 71),(S n1 396)],
  ⟨(Y "function"), none, (fd [4, 2] n75 3 [] O O O (S n14 194) none (R 155) O 0 n73), #[]⟩,
  tu [(S n31 398)],
  dc 3 [E P n15 375 (S n14 194),E P n18 379 (.int 65 378),E P n6 381 (S n72 380),E P n19 390 (R 149),E P n73 397 (R 156),E P n23 399 (R 157),E P n34 401 (R 160),E P n35 403 (R 161)],
  ⟨(Y "type"), none, (.cls ⟨n71, [(Y "object")], [(R 159),(Y "object")], 158, n71, true, [], [], false, none, false⟩), #[none,none,(some (S n71 368)),(some (S n71 376)),(some (U "object.__new__")),(some T)]⟩,
  ⟨(Y "getset_descriptor"), none, (.fields #[(S n34 400),(R 159),(U "function.__dict__"),(U "function.__dict__#set")]), #[]⟩,
  ⟨(Y "getset_descriptor"), none, (.fields #[(S n35 402),(R 159),(U "ExceptionGroup.__weakref__"),O]), #[]⟩,
  ⟨(Y "super"), none, (.fields #[(R 159),(R 159),(R 159)]), #[]⟩,
  bf [(U "object.__init_subclass__"),(R 159)]]) [(3, dc 13 [E P n5 165 (S n14 194),E P n6 166 O,E P n7 167 O,E P n8 168 (U "__main__.__loader__#opaque"),E P n9 169 O,E P n10 170 (R 6),E P n11 171 (R 4),E P n12 173 (S n1 172),E P n13 174 O,E P n4 193 (R 21),E P n17 252 (R 60),E P n36 367 (R 132),E P n71 405 (R 159)]), (12, fl [(I 1),(I 0),(R 20),(I 5),(I 0),(R 27),(I 23),(I 0),(R 71),(I 65),(I 0),(R 141)])])
noncomputable def p3 : Pos := ⟨65,0,72,30⟩
noncomputable def T4 (P : Params) : BT := (put (bld (T3 P) 164 [tu [],
  bf [(U "type.__prepare__"),(Y "type")],
  dc 7 [E P n15 413 (S n14 194),E P n16 415 (S n76 414),E P n18 417 (.int 73 416),E P n77 424 (R 172),E P n78 430 (R 175),E P n79 436 (R 178),E P n23 437 (R 180)],
  tu [],
  fl [],
  co [(S n76 408),(S n76 409),(S n1 410),(I 73),(I 0),(I 0),(I 0),(I 0),(R 167),F,(I 181),(R 168),O,O,O,O,(I 411),(I 73),(S n1 412)],
  ⟨(Y "frame"), none, PLAIN, #[(some (R 169)),(some (R 3)),(some (R 166)),none,(some (S n14 194)),none,(some (R 0))]⟩,
  dc 1 [E P n31 423 (.int (-1) 419)],
  ⟨(R 159), some 171, PLAIN, #[]⟩,
  ⟨(Y "frame"), none, (.dict #[E P n24 420 (R 172),E P n31 421 (.int (-1) 419)] 2), #[]⟩,
  dc 1 [E P n31 429 (.int 0 425)],
  ⟨(R 159), some 174, PLAIN, #[]⟩,
  ⟨(Y "frame"), none, (.dict #[E P n24 426 (R 175),E P n31 427 (.int 0 425)] 2), #[]⟩,
  dc 1 [E P n31 435 (.int 1 431)],
  ⟨(R 159), some 177, PLAIN, #[]⟩,
  ⟨(Y "frame"), none, (.dict #[E P n24 432 (R 178),E P n31 433 (.int 1 431)] 2), #[]⟩,
  tu [],
  dc 4 [E P n15 413 (S n14 194),E P n18 417 (.int 73 416),E P n77 424 (R 172),E P n78 430 (R 175),E P n79 436 (R 178),E P n23 437 (R 180),E P n34 439 (R 183),E P n35 441 (R 184),E P n6 442 O],
  ⟨(Y "type"), none, (.cls ⟨n76, [(Y "object")], [(R 182),(Y "object")], 181, n76, true, [], [], false, none, false⟩), #[none,none,(some (S n76 406)),(some (S n76 414)),(some (U "object.__new__")),(some T)]⟩,
  ⟨(Y "getset_descriptor"), none, (.fields #[(S n34 438),(R 182),(U "function.__dict__"),(U "function.__dict__#set")]), #[]⟩,
  ⟨(Y "getset_descriptor"), none, (.fields #[(S n35 440),(R 182),(U "ExceptionGroup.__weakref__"),O]), #[]⟩,
  ⟨(Y "super"), none, (.fields #[(R 182),(R 182),(R 182)]), #[]⟩,
  bf [(U "object.__init_subclass__"),(R 182)]]) [(3, dc 14 [E P n5 165 (S n14 194),E P n6 166 O,E P n7 167 O,E P n8 168 (U "__main__.__loader__#opaque"),E P n9 169 O,E P n10 170 (R 6),E P n11 171 (R 4),E P n12 173 (S n1 172),E P n13 174 O,E P n4 193 (R 21),E P n17 252 (R 60),E P n36 367 (R 132),E P n71 405 (R 159),E P n76 444 (R 182)]), (12, fl [(I 1),(I 0),(R 20),(I 5),(I 0),(R 27),(I 23),(I 0),(R 71),(I 65),(I 0),(R 141),(I 73),(I 0),(R 169)])])
noncomputable def p4 : Pos := ⟨73,0,76,30⟩
noncomputable def T5 (P : Params) : BT := (put (bld (T4 P) 187 [tu [],
  bf [(U "type.__prepare__"),(Y "type")],
  dc 7 [E P n15 452 (S n14 194),E P n16 454 (S n80 453),E P n18 456 (.int 77 455),E P n81 462 (R 195),E P n82 468 (R 198),E P n83 474 (R 201),E P n23 475 (R 203)],
  tu [],
  fl [],
  co [(S n80 447),(S n80 448),(S n1 449),(I 77),(I 0),(I 0),(I 0),(I 0),(R 190),F,(I 181),(R 191),O,O,O,O,(I 450),(I 77),(S n1 451)],
  ⟨(Y "frame"), none, PLAIN, #[(some (R 192)),(some (R 3)),(some (R 189)),none,(some (S n14 194)),none,(some (R 0))]⟩,
  dc 1 [E P n31 461 (.int 0 457)],
  ⟨(R 159), some 194, PLAIN, #[]⟩,
  ⟨(Y "frame"), none, (.dict #[E P n24 458 (R 195),E P n31 459 (.int 0 457)] 2), #[]⟩,
  dc 1 [E P n31 467 (.int 1 463)],
  ⟨(R 159), some 197, PLAIN, #[]⟩,
  ⟨(Y "frame"), none, (.dict #[E P n24 464 (R 198),E P n31 465 (.int 1 463)] 2), #[]⟩,
  dc 1 [E P n31 473 (.int 2 469)],
  ⟨(R 159), some 200, PLAIN, #[]⟩,
  ⟨(Y "frame"), none, (.dict #[E P n24 470 (R 201),E P n31 471 (.int 2 469)] 2), #[]⟩,
  tu [],
  dc 4 [E P n15 452 (S n14 194),E P n18 456 (.int 77 455),E P n81 462 (R 195),E P n82 468 (R 198),E P n83 474 (R 201),E P n23 475 (R 203),E P n34 477 (R 206),E P n35 479 (R 207),E P n6 480 O],
  ⟨(Y "type"), none, (.cls ⟨n80, [(Y "object")], [(R 205),(Y "object")], 204, n80, true, [], [], false, none, false⟩), #[none,none,(some (S n80 445)),(some (S n80 453)),(some (U "object.__new__")),(some T)]⟩,
  ⟨(Y "getset_descriptor"), none, (.fields #[(S n34 476),(R 205),(U "function.__dict__"),(U "function.__dict__#set")]), #[]⟩,
  ⟨(Y "getset_descriptor"), none, (.fields #[(S n35 478),(R 205),(U "ExceptionGroup.__weakref__"),O]), #[]⟩,
  ⟨(Y "super"), none, (.fields #[(R 205),(R 205),(R 205)]), #[]⟩,
  bf [(U "object.__init_subclass__"),(R 205)]]) [(3, dc 15 [E P n5 165 (S n14 194),E P n6 166 O,E P n7 167 O,E P n8 168 (U "__main__.__loader__#opaque"),E P n9 169 O,E P n10 170 (R 6),E P n11 171 (R 4),E P n12 173 (S n1 172),E P n13 174 O,E P n4 193 (R 21),E P n17 252 (R 60),E P n36 367 (R 132),E P n71 405 (R 159),E P n76 444 (R 182),E P n80 482 (R 205)]), (12, fl [(I 1),(I 0),(R 20),(I 5),(I 0),(R 27),(I 23),(I 0),(R 71),(I 65),(I 0),(R 141),(I 73),(I 0),(R 169),(I 77),(I 0),(R 192)])])
noncomputable def p5 : Pos := ⟨77,0,80,22⟩
noncomputable def T6 (P : Params) : BT := (put (bld (T5 P) 210 [tu [],
  bf [(U "type.__prepare__"),(Y "type")],
  dc 11 [E P n15 490 (S n14 194),E P n16 492 (S n84 491),E P n18 494 (.int 81 493),E P n6 496 (S n85 495),E P n86 506 (R 223),E P n87 514 (R 230),E P n88 522 (R 237),E P n89 530 (R 244),E P n90 542 (R 251),E P n91 561 (R 258),E P n23 562 (R 259)],
  tu [],
  fl [(I 84),(I 4),(R 222),(I 87),(I 4),(R 229),(I 90),(I 4),(R 236),(I 93),(I 4),(R 243),(I 96),(I 4),(R 250),(I 105),(I 4),(R 257)],
  co [(S n84 485),(S n84 486),(S n1 487),(I 81),(I 0),(I 0),(I 0),(I 0),(R 213),F,(I 181),(R 214),O,O,O,O,(I 488),(I 81),(S n1 489)],
  ⟨(Y "frame"), none, PLAIN, #[(some (R 215)),(some (R 3)),(some (R 212)),none,(some (S n14 194)),none,(some (R 0))]⟩,
  tu [],
  fl [],
  tu [(S n24 501),(S n49 502),(S n50 503)],
  tu [],
  ⟨O, none, (fd [7, 1] n92 0 [] O O O O none O O 0 n86), #[]⟩,
  co [(S n86 498),(S n92 499),(S n1 500),(I 84),(I 3),(I 0),(I 0),(I 3),(R 217),T,(I 181),(R 218),O,(R 219),(R 220),(R 221),(I 504),(I 84),(S n1 505)],
  ⟨(Y "function"), none, (fd [7, 1] n92 3 [] O O O (S n14 194) none (R 222) O 0 n86), #[]⟩,
  tu [],
  fl [],
  tu [(S n24 510),(S n93 511)],
  tu [],
  ⟨O, none, (fd [7, 2] n94 0 [] O O O O none O O 0 n87), #[]⟩,
  co [(S n87 507),(S n94 508),(S n1 509),(I 87),(I 2),(I 0),(I 0),(I 3),(R 224),T,(I 181),(R 225),O,(R 226),(R 227),(R 228),(I 512),(I 87),(S n1 513)],
  ⟨(Y "function"), none, (fd [7, 2] n94 3 [] O O O (S n14 194) none (R 229) O 0 n87), #[]⟩,
  tu [],
  fl [],
  tu [(S n24 518),(S n95 519)],
  tu [],
  ⟨O, none, (fd [7, 3] n96 0 [] O O O O none O O 0 n88), #[]⟩,
  co [(S n88 515),(S n96 516),(S n1 517),(I 90),(I 2),(I 0),(I 0),(I 3),(R 231),T,(I 181),(R 232),O,(R 233),(R 234),(R 235),(I 520),(I 90),(S n1 521)],
  ⟨(Y "function"), none, (fd [7, 3] n96 3 [] O O O (S n14 194) none (R 236) O 0 n88), #[]⟩,
  tu [],
  fl [],
  tu [(S n24 526),(S n97 527)],
  tu [],
  ⟨O, none, (fd [7, 4] n98 0 [] O O O O none O O 0 n89), #[]⟩,
  co [(S n89 523),(S n98 524),(S n1 525),(I 93),(I 2),(I 0),(I 0),(I 3),(R 238),T,(I 181),(R 239),O,(R 240),(R 241),(R 242),(I 528),(I 93),(S n1 529)],
  ⟨(Y "function"), none, (fd [7, 4] n98 3 [] O O O (S n14 194) none (R 243) O 0 n89), #[]⟩,
  tu [],
  fl [],
  tu [(S n24 534),(S n99 535),(S n100 536),(S n101 537),(S n102 538)],
  tu [],
  ⟨O, none, (fd [7, 5] n103 0 [] O O O O none O O 0 n90), #[]⟩,
  co [(S n90 531),(S n103 532),(S n1 533),(I 96),(I 4),(I 0),(I 0),(I 3),(R 245),T,(I 181),(R 246),O,(R 247),(R 248),(R 249),(I 539),(I 96),(S n1 540)],
  ⟨(Y "function"), none, (fd [7, 5] n103 3 [] O O (S n104 541) (S n14 194) none (R 250) O 0 n90), #[]⟩,
  tu [],
  fl [],
  tu [(S n24 546),(S n105 547),(S n100 548),(S n101 549),(S n106 550),(S n107 551),(S n108 552),(S n109 553),(S n110 554),(S n111 555),(S n112 556),(S n102 557)],
  tu [],
  ⟨O, none, (fd [7, 6] n113 0 [] O O O O none O O 0 n91), #[]⟩,
  co [(S n91 543),(S n113 544),(S n1 545),(I 105),(I 5),(I 0),(I 0),(I 3),(R 252),T,(I 181),(R 253),O,(R 254),(R 255),(R 256),(I 558),(I 105),(S n1 559)],
  ⟨(Y "function"), none, (fd [7, 6] n113 3 [] O O (S n114 560) (S n14 194) none (R 257) O 0 n91), #[]⟩,
  tu [],
  dc 3 [E P n15 490 (S n14 194),E P n18 494 (.int 81 493),E P n6 496 (S n85 495),E P n86 506 (R 223),E P n87 514 (R 230),E P n88 522 (R 237),E P n89 530 (R 244),E P n90 542 (R 251),E P n91 561 (R 258),E P n23 562 (R 259),E P n34 564 (R 262),E P n35 566 (R 263)],
  ⟨(Y "type"), none, (.cls ⟨n84, [(Y "object")], [(R 261),(Y "object")], 260, n84, true, [], [], false, none, false⟩), #[none,none,(some (S n84 483)),(some (S n84 491)),(some (U "object.__new__")),(some T)]⟩,
  ⟨(Y "getset_descriptor"), none, (.fields #[(S n34 563),(R 261),(U "function.__dict__"),(U "function.__dict__#set")]), #[]⟩,
  ⟨(Y "getset_descriptor"), none, (.fields #[(S n35 565),(R 261),(U "ExceptionGroup.__weakref__"),O]), #[]⟩,
  ⟨(Y "super"), none, (.fields #[(R 261),(R 261),(R 261)]), #[]⟩,
  bf [(U "object.__init_subclass__"),(R 261)],
  tu [],
  fl [],
  tu [(S n115 572),(S n116 573),(S n117 574)],
  tu [],
  ⟨O, none, (fd [8] n118 0 [] O O O O none O O 0 n118), #[]⟩,
  co [(S n118 569),(S n118 570),(S n1 571),(I 116),(I 2),(I 0),(I 0),(I 3),(R 266),T,(I 181),(R 267),O,(R 268),(R 269),(R 270),(I 575),(I 116),(S n1 576)],
  ⟨(Y "function"), none, (fd [8] n118 3 [] O O (S n119 577) (S n14 194) none (R 271) O 0 n118), #[]⟩,
  tu [],
  fl [],
  tu [(S n56 584),(S n121 585),(S n25 586)],
  tu [],
  ⟨O, none, (fd [10] n122 0 [] O O O O none O O 0 n122), #[]⟩,
  co [(S n122 581),(S n122 582),(S n1 583),(I 123),(I 1),(I 0),(I 0),(I 35),(R 273),T,(I 181),(R 274),O,(R 275),(R 276),(R 277),(I 587),(I 123),(S n1 588)],
  ⟨(Y "function"), none, (fd [10] n122 3 [] O O O (S n120 579) none (R 278) O 0 n122), #[]⟩]) [(3, dc 18 [E P n5 165 (S n123 590),E P n6 166 O,E P n7 167 O,E P n8 168 (U "__main__.__loader__#opaque"),E P n9 169 O,E P n10 170 (R 6),E P n11 171 (R 4),E P n12 173 (S n1 172),E P n13 174 O,E P n4 193 (R 21),E P n17 252 (R 60),E P n36 367 (R 132),E P n71 405 (R 159),E P n76 444 (R 182),E P n80 482 (R 205),E P n84 568 (R 261),E P n118 578 (R 272),E P n122 589 (R 279)]), (12, fl [(I 1),(I 0),(R 20),(I 5),(I 0),(R 27),(I 23),(I 0),(R 71),(I 65),(I 0),(R 141),(I 73),(I 0),(R 169),(I 77),(I 0),(R 192),(I 81),(I 0),(R 215),(I 116),(I 0),(R 271),(I 123),(I 0),(R 278)])])
noncomputable def p6 : Pos := ⟨127,0,127,8⟩
noncomputable def T7 (P : Params) : BT := (put (bld (T6 P) 280 [tu [],
  bf [(U "type.__prepare__"),(Y "type")],
  dc 21 [E P n15 599 (S n123 590),E P n16 601 (S n124 600),E P n18 603 (.int 128 602),E P n6 605 (S n125 604),E P n126 633 (R 295),E P n127 641 (R 304),E P n128 650 (R 312),E P n129 659 (R 320),E P n130 668 (R 328),E P n131 677 (R 336),E P n132 686 (R 344),E P n133 695 (R 352),E P n134 704 (R 360),E P n135 713 (R 368),E P n19 724 (R 376),E P n136 734 (R 383),E P n137 742 (R 390),E P n138 751 (R 397),E P n139 762 (R 404),E P n140 769 (R 411),E P n23 774 (R 412)],
  tu [],
  fl [(I 139),(I 4),(R 292),(I 154),(I 4),(R 302),(I 158),(I 4),(R 310),(I 165),(I 4),(R 318),(I 172),(I 4),(R 326),(I 179),(I 4),(R 334),(I 186),(I 4),(R 342),(I 193),(I 4),(R 350),(I 200),(I 4),(R 358),(I 207),(I 4),(R 366),(I 213),(I 4),(R 375),(I 216),(I 4),(R 382),(I 223),(I 4),(R 389),(I 228),(I 4),(R 396),(I 232),(I 4),(R 403),(I 239),(I 4),(R 410)],
  co [(S n124 594),(S n124 595),(S n1 596),(I 128),(I 0),(I 0),(I 0),(I 0),(R 283),F,(I 181),(R 284),O,O,O,O,(I 597),(I 128),(S n1 598)],
  ⟨(Y "frame"), none, PLAIN, #[(some (R 285)),(some (R 3)),(some (R 282)),none,(some (S n123 590)),none,(some (R 0))]⟩,
  tu [],
  fl [],
  tu [(S n55 610),(S n135 611),(S n128 612),(S n127 613),(S n57 614),(S n131 615),(S n134 616),(S n141 617)],
  tu [],
  ⟨O, none, (fd [12, 1] n142 0 [] O O O O none O O 0 n126), #[]⟩,
  co [(S n126 607),(S n142 608),(S n1 609),(I 138),(I 3),(I 0),(I 1),(I 3),(R 287),T,(I 181),(R 288),O,(R 289),(R 290),(R 291),(I 618),(I 138),(S n1 619)],
  ⟨(Y "function"), none, (fd [12, 1] n142 3 [] O O (S n143 620) (S n123 590) (some 296) (R 292) O 0 n126), #[]⟩,
  dc 5 [E P n15 622 (S n123 590),E P n5 625 (S n126 624),E P n16 628 (S n142 627),E P n6 630 (S n143 620),E P n10 632 (R 296)],
  ⟨(Y "classmethod"), some 294, (.fields #[(R 293),F]), #[]⟩,
  dc 0 [],
  tu [],
  fl [],
  tu [(S n24 637)],
  tu [],
  ⟨O, none, (fd [12, 2] n144 0 [] O O O O none O O 0 n127), #[]⟩,
  co [(S n127 634),(S n144 635),(S n1 636),(I 153),(I 1),(I 0),(I 0),(I 3),(R 297),T,(I 181),(R 298),O,(R 299),(R 300),(R 301),(I 638),(I 153),(S n1 639)],
  ⟨(Y "function"), none, (fd [12, 2] n144 3 [] O O O (S n123 590) none (R 302) O 0 n127), #[]⟩,
  pr [(R 303),O,O,O,(S n127 641),F],
  tu [],
  fl [],
  tu [(S n24 645)],
  tu [],
  ⟨O, none, (fd [12, 3] n145 0 [] O O O O none O O 0 n128), #[]⟩,
  co [(S n128 642),(S n145 643),(S n1 644),(I 157),(I 1),(I 0),(I 0),(I 3),(R 305),T,(I 181),(R 306),O,(R 307),(R 308),(R 309),(I 646),(I 157),(S n1 647)],
  ⟨(Y "function"), none, (fd [12, 3] n145 3 [] O O (S n146 648) (S n123 590) none (R 310) O 0 n128), #[]⟩,
  pr [(R 311),O,O,(S n146 648),(S n128 650),T],
  tu [],
  fl [],
  tu [(S n24 654)],
  tu [],
  ⟨O, none, (fd [12, 4] n147 0 [] O O O O none O O 0 n129), #[]⟩,
  co [(S n129 651),(S n147 652),(S n1 653),(I 164),(I 1),(I 0),(I 0),(I 3),(R 313),T,(I 181),(R 314),O,(R 315),(R 316),(R 317),(I 655),(I 164),(S n1 656)],
  ⟨(Y "function"), none, (fd [12, 4] n147 3 [] O O (S n148 657) (S n123 590) none (R 318) O 0 n129), #[]⟩,
  pr [(R 319),O,O,(S n148 657),(S n129 659),T],
  tu [],
  fl [],
  tu [(S n24 663)],
  tu [],
  ⟨O, none, (fd [12, 5] n149 0 [] O O O O none O O 0 n130), #[]⟩,
  co [(S n130 660),(S n149 661),(S n1 662),(I 171),(I 1),(I 0),(I 0),(I 3),(R 321),T,(I 181),(R 322),O,(R 323),(R 324),(R 325),(I 664),(I 171),(S n1 665)],
  ⟨(Y "function"), none, (fd [12, 5] n149 3 [] O O (S n150 666) (S n123 590) none (R 326) O 0 n130), #[]⟩,
  pr [(R 327),O,O,(S n150 666),(S n130 668),T],
  tu [],
  fl [],
  tu [(S n24 672)],
  tu [],
  ⟨O, none, (fd [12, 6] n151 0 [] O O O O none O O 0 n131), #[]⟩,
  co [(S n131 669),(S n151 670),(S n1 671),(I 178),(I 1),(I 0),(I 0),(I 3),(R 329),T,(I 181),(R 330),O,(R 331),(R 332),(R 333),(I 673),(I 178),(S n1 674)],
  ⟨(Y "function"), none, (fd [12, 6] n151 3 [] O O (S n152 675) (S n123 590) none (R 334) O 0 n131), #[]⟩,
  pr [(R 335),O,O,(S n152 675),(S n131 677),T],
  tu [],
  fl [],
  tu [(S n24 681)],
  tu [],
  ⟨O, none, (fd [12, 7] n153 0 [] O O O O none O O 0 n132), #[]⟩,
  co [(S n132 678),(S n153 679),(S n1 680),(I 185),(I 1),(I 0),(I 0),(I 3),(R 337),T,(I 181),(R 338),O,(R 339),(R 340),(R 341),(I 682),(I 185),(S n1 683)],
  ⟨(Y "function"), none, (fd [12, 7] n153 3 [] O O (S n154 684) (S n123 590) none (R 342) O 0 n132), #[]⟩,
  pr [(R 343),O,O,(S n154 684),(S n132 686),T],
  tu [],
  fl [],
  tu [(S n24 690)],
  tu [],
  ⟨O, none, (fd [12, 8] n155 0 [] O O O O none O O 0 n133), #[]⟩,
  co [(S n133 687),(S n155 688),(S n1 689),(I 192),(I 1),(I 0),(I 0),(I 3),(R 345),T,(I 181),(R 346),O,(R 347),(R 348),(R 349),(I 691),(I 192),(S n1 692)],
  ⟨(Y "function"), none, (fd [12, 8] n155 3 [] O O (S n156 693) (S n123 590) none (R 350) O 0 n133), #[]⟩,
  pr [(R 351),O,O,(S n156 693),(S n133 695),T],
  tu [],
  fl [],
  tu [(S n24 699)],
  tu [],
  ⟨O, none, (fd [12, 9] n157 0 [] O O O O none O O 0 n134), #[]⟩,
  co [(S n134 696),(S n157 697),(S n1 698),(I 199),(I 1),(I 0),(I 0),(I 3),(R 353),T,(I 181),(R 354),O,(R 355),(R 356),(R 357),(I 700),(I 199),(S n1 701)],
  ⟨(Y "function"), none, (fd [12, 9] n157 3 [] O O (S n158 702) (S n123 590) none (R 358) O 0 n134), #[]⟩,
  pr [(R 359),O,O,(S n158 702),(S n134 704),T],
  tu [],
  fl [],
  tu [(S n24 708)],
  tu [],
  ⟨O, none, (fd [12, 10] n159 0 [] O O O O none O O 0 n135), #[]⟩,
  co [(S n135 705),(S n159 706),(S n1 707),(I 206),(I 1),(I 0),(I 0),(I 3),(R 361),T,(I 181),(R 362),O,(R 363),(R 364),(R 365),(I 709),(I 206),(S n1 710)],
  ⟨(Y "function"), none, (fd [12, 10] n159 3 [] O O (S n160 711) (S n123 590) none (R 366) O 0 n135), #[]⟩,
  pr [(R 367),O,O,(S n160 711),(S n135 713),T],
  tu [O,O,O],
  tu [],
  fl [],
  tu [(S n24 717),(S n135 718),(S n130 719),(S n134 720),(S n127 721)],
  tu [],
  ⟨O, none, (fd [12, 11] n161 0 [] O O O O none O O 0 n19), #[]⟩,
  co [(S n19 714),(S n161 715),(S n1 716),(I 213),(I 4),(I 0),(I 1),(I 3),(R 370),T,(I 181),(R 371),O,(R 372),(R 373),(R 374),(I 722),(I 213),(S n1 723)],
  ⟨(Y "function"), none, (fd [12, 11] n161 3 [] (R 369) O O (S n123 590) none (R 375) O 0 n19), #[]⟩,
  tu [],
  fl [],
  tu [(S n24 728),(S n162 729),(S n57 730)],
  tu [],
  ⟨O, none, (fd [12, 12] n163 0 [] O O O O none O O 0 n136), #[]⟩,
  co [(S n136 725),(S n163 726),(S n1 727),(I 216),(I 2),(I 0),(I 0),(I 3),(R 377),T,(I 181),(R 378),O,(R 379),(R 380),(R 381),(I 731),(I 216),(S n1 732)],
  ⟨(Y "function"), none, (fd [12, 12] n163 3 [] O O (S n164 733) (S n123 590) none (R 382) O 0 n136), #[]⟩,
  tu [],
  fl [],
  tu [(S n24 738)],
  tu [],
  ⟨O, none, (fd [12, 13] n165 0 [] O O O O none O O 0 n137), #[]⟩,
  co [(S n137 735),(S n165 736),(S n1 737),(I 223),(I 1),(I 0),(I 0),(I 3),(R 384),T,(I 181),(R 385),O,(R 386),(R 387),(R 388),(I 739),(I 223),(S n1 740)],
  ⟨(Y "function"), none, (fd [12, 13] n165 3 [] O O (S n166 741) (S n123 590) none (R 389) O 0 n137), #[]⟩,
  tu [],
  fl [],
  tu [(S n24 746),(S n105 747)],
  tu [],
  ⟨O, none, (fd [12, 14] n167 0 [] O O O O none O O 0 n138), #[]⟩,
  co [(S n138 743),(S n167 744),(S n1 745),(I 228),(I 2),(I 0),(I 0),(I 3),(R 391),T,(I 181),(R 392),O,(R 393),(R 394),(R 395),(I 748),(I 228),(S n1 749)],
  ⟨(Y "function"), none, (fd [12, 14] n167 3 [] O O (S n168 750) (S n123 590) none (R 396) O 0 n138), #[]⟩,
  tu [],
  fl [],
  tu [(S n24 755),(S n162 756),(S n169 757),(S n170 758)],
  tu [],
  ⟨O, none, (fd [12, 15] n171 0 [] O O O O none O O 0 n139), #[]⟩,
  co [(S n139 752),(S n171 753),(S n1 754),(I 232),(I 2),(I 0),(I 0),(I 3),(R 398),T,(I 181),(R 399),O,(R 400),(R 401),(R 402),(I 759),(I 232),(S n1 760)],
  ⟨(Y "function"), none, (fd [12, 15] n171 3 [] O O (S n172 761) (S n123 590) none (R 403) O 0 n139), #[]⟩,
  tu [],
  fl [],
  tu [(S n24 766)],
  tu [],
  ⟨O, none, (fd [12, 16] n173 0 [] O O O O none O O 0 n140), #[]⟩,
  co [(S n140 763),(S n173 764),(S n1 765),(I 239),(I 1),(I 0),(I 0),(I 3),(R 405),T,(I 181),(R 406),O,(R 407),(R 408),(R 409),(I 767),(I 239),(S n1 768)],
  ⟨(Y "function"), none, (fd [12, 16] n173 3 [] O O O (S n123 590) none (R 410) O 0 n140), #[]⟩,
  tu [(S n174 770),(S n175 771),(S n176 772),(S n177 773)],
  dc 3 [E P n15 599 (S n123 590),E P n18 603 (.int 128 602),E P n6 605 (S n125 604),E P n126 633 (R 295),E P n127 641 (R 304),E P n128 650 (R 312),E P n129 659 (R 320),E P n130 668 (R 328),E P n131 677 (R 336),E P n132 686 (R 344),E P n133 695 (R 352),E P n134 704 (R 360),E P n135 713 (R 368),E P n19 724 (R 376),E P n136 734 (R 383),E P n137 742 (R 390),E P n138 751 (R 397),E P n139 762 (R 404),E P n140 769 (R 411),E P n23 774 (R 412),E P n34 776 (R 415),E P n35 778 (R 416)],
  ⟨(Y "type"), none, (.cls ⟨n124, [(Y "object")], [(R 414),(Y "object")], 413, n124, true, [], [], false, none, false⟩), #[none,none,(some (S n124 592)),(some (S n124 600)),(some (U "object.__new__")),(some T)]⟩,
  ⟨(Y "getset_descriptor"), none, (.fields #[(S n34 775),(R 414),(U "function.__dict__"),(U "function.__dict__#set")]), #[]⟩,
  ⟨(Y "getset_descriptor"), none, (.fields #[(S n35 777),(R 414),(U "ExceptionGroup.__weakref__"),O]), #[]⟩,
  ⟨(Y "super"), none, (.fields #[(R 414),(R 414),(R 414)]), #[]⟩,
  bf [(U "object.__init_subclass__"),(R 414)]]) [(3, dc 19 [E P n5 165 (S n123 590),E P n6 166 O,E P n7 167 O,E P n8 168 (U "__main__.__loader__#opaque"),E P n9 169 O,E P n10 170 (R 6),E P n11 171 (R 4),E P n12 173 (S n1 172),E P n13 174 O,E P n4 193 (R 21),E P n17 252 (R 60),E P n36 367 (R 132),E P n71 405 (R 159),E P n76 444 (R 182),E P n80 482 (R 205),E P n84 568 (R 261),E P n118 578 (R 272),E P n122 589 (R 279),E P n124 780 (R 414)]), (12, fl [(I 1),(I 0),(R 20),(I 5),(I 0),(R 27),(I 23),(I 0),(R 71),(I 65),(I 0),(R 141),(I 73),(I 0),(R 169),(I 77),(I 0),(R 192),(I 81),(I 0),(R 215),(I 116),(I 0),(R 271),(I 123),(I 0),(R 278),(I 128),(I 0),(R 285)])])
noncomputable def p7 : Pos := ⟨128,0,240,16⟩
noncomputable def T8 (P : Params) : BT := (put (bld (T7 P) 419 [tu [],
  fl [],
  tu [(S n179 786)],
  tu [],
  ⟨O, none, (fd [14] n180 0 [] O O O O none O O 0 n180), #[]⟩,
  co [(S n180 783),(S n180 784),(S n1 785),(I 242),(I 1),(I 0),(I 0),(I 3),(R 419),T,(I 181),(R 420),O,(R 421),(R 422),(R 423),(I 787),(I 242),(S n1 788)],
  ⟨(Y "function"), none, (fd [14] n180 3 [] O O O (S n178 781) none (R 424) O 0 n180), #[]⟩,
  tu [],
  fl [],
  tu [(S n181 793),(S n57 794),(S n31 795)],
  tu [],
  ⟨O, none, (fd [15] n182 0 [] O O O O none O O 0 n182), #[]⟩,
  co [(S n182 790),(S n182 791),(S n1 792),(I 244),(I 1),(I 0),(I 0),(I 3),(R 426),T,(I 181),(R 427),O,(R 428),(R 429),(R 430),(I 796),(I 244),(S n1 797)],
  ⟨(Y "function"), none, (fd [15] n182 3 [] O O O (S n178 781) none (R 431) O 0 n182), #[]⟩]) [(3, dc 21 [E P n5 165 (S n183 799),E P n6 166 O,E P n7 167 O,E P n8 168 (U "__main__.__loader__#opaque"),E P n9 169 O,E P n10 170 (R 6),E P n11 171 (R 4),E P n12 173 (S n1 172),E P n13 174 O,E P n4 193 (R 21),E P n17 252 (R 60),E P n36 367 (R 132),E P n71 405 (R 159),E P n76 444 (R 182),E P n80 482 (R 205),E P n84 568 (R 261),E P n118 578 (R 272),E P n122 589 (R 279),E P n124 780 (R 414),E P n180 789 (R 425),E P n182 798 (R 432)]), (12, fl [(I 1),(I 0),(R 20),(I 5),(I 0),(R 27),(I 23),(I 0),(R 71),(I 65),(I 0),(R 141),(I 73),(I 0),(R 169),(I 77),(I 0),(R 192),(I 81),(I 0),(R 215),(I 116),(I 0),(R 271),(I 123),(I 0),(R 278),(I 128),(I 0),(R 285),(I 242),(I 0),(R 424),(I 244),(I 0),(R 431)])])
noncomputable def p8 : Pos := ⟨250,0,250,8⟩
noncomputable def T9 (P : Params) : BT := (put (bld (T8 P) 433 [tu [],
  bf [(U "type.__prepare__"),(Y "type")],
  dc 10 [E P n15 808 (S n183 799),E P n16 810 (S n184 809),E P n18 812 (.int 251 811),E P n6 814 (S n185 813),E P n186 834 (R 446),E P n19 844 (R 454),E P n137 853 (R 461),E P n187 860 (R 468),E P n188 881 (R 477),E P n23 886 (R 479)],
  tu [],
  fl [(I 255),(I 4),(R 443),(I 280),(I 4),(R 453),(I 284),(I 4),(R 460),(I 292),(I 4),(R 467),(I 296),(I 4),(R 474)],
  co [(S n184 803),(S n184 804),(S n1 805),(I 251),(I 0),(I 0),(I 0),(I 0),(R 436),F,(I 181),(R 437),O,O,O,O,(I 806),(I 251),(S n1 807)],
  ⟨(Y "frame"), none, PLAIN, #[(some (R 438)),(some (R 3)),(some (R 435)),none,(some (S n183 799)),none,(some (R 0))]⟩,
  tu [],
  fl [],
  ⟨O, none, (fd [17, 1] n189 0 [] O O O O none O O 0 n186), #[]⟩,
  co [(S n186 816),(S n189 817),(S n1 818),(I 254),(I 2),(I 0),(I 1),(I 3),(R 440),T,(I 181),(R 441),O,O,O,(R 442),(I 819),(I 254),(S n1 820)],
  ⟨(Y "function"), none, (fd [17, 1] n189 3 [] O O (S n190 821) (S n183 799) (some 447) (R 443) O 0 n186), #[]⟩,
  dc 5 [E P n15 823 (S n183 799),E P n5 826 (S n186 825),E P n16 829 (S n189 828),E P n6 831 (S n190 821),E P n10 833 (R 447)],
  ⟨(Y "classmethod"), some 445, (.fields #[(R 444),F]), #[]⟩,
  dc 0 [],
  tu [],
  fl [],
  tu [(S n24 838),(S n191 839),(S n192 840),(S n127 841)],
  tu [],
  ⟨O, none, (fd [17, 2] n193 0 [] O O O O none O O 0 n19), #[]⟩,
  co [(S n19 835),(S n193 836),(S n1 837),(I 280),(I 4),(I 0),(I 0),(I 3),(R 448),T,(I 181),(R 449),O,(R 450),(R 451),(R 452),(I 842),(I 280),(S n1 843)],
  ⟨(Y "function"), none, (fd [17, 2] n193 3 [] O O O (S n183 799) none (R 453) O 0 n19), #[]⟩,
  tu [],
  fl [],
  tu [(S n24 848),(S n194 849)],
  tu [],
  ⟨O, none, (fd [17, 3] n195 0 [] O O O O none O O 0 n137), #[]⟩,
  co [(S n137 845),(S n195 846),(S n1 847),(I 284),(I 2),(I 0),(I 0),(I 3),(R 455),T,(I 181),(R 456),O,(R 457),(R 458),(R 459),(I 850),(I 284),(S n1 851)],
  ⟨(Y "function"), none, (fd [17, 3] n195 3 [] O O (S n196 852) (S n183 799) none (R 460) O 0 n137), #[]⟩,
  tu [],
  fl [],
  tu [(S n24 857)],
  tu [],
  ⟨O, none, (fd [17, 4] n197 0 [] O O O O none O O 0 n187), #[]⟩,
  co [(S n187 854),(S n197 855),(S n1 856),(I 292),(I 1),(I 0),(I 0),(I 3),(R 462),T,(I 181),(R 463),O,(R 464),(R 465),(R 466),(I 858),(I 292),(S n1 859)],
  ⟨(Y "function"), none, (fd [17, 4] n197 3 [] O O O (S n183 799) none (R 467) O 0 n187), #[]⟩,
  tu [],
  fl [],
  tu [(S n55 864),(S n198 865),(S n127 866)],
  tu [],
  ⟨O, none, (fd [17, 5] n199 0 [] O O O O none O O 0 n188), #[]⟩,
  co [(S n188 861),(S n199 862),(S n1 863),(I 295),(I 3),(I 0),(I 0),(I 3),(R 469),T,(I 181),(R 470),O,(R 471),(R 472),(R 473),(I 867),(I 295),(S n1 868)],
  ⟨(Y "function"), none, (fd [17, 5] n199 3 [] O O O (S n183 799) (some 478) (R 474) O 0 n188), #[]⟩,
  dc 5 [E P n15 870 (S n183 799),E P n5 873 (S n188 872),E P n16 876 (S n199 875),E P n6 878 O,E P n10 880 (R 478)],
  ⟨(Y "classmethod"), some 476, (.fields #[(R 475),F]), #[]⟩,
  dc 0 [],
  tu [(S n200 882),(S n127 883),(S n191 884),(S n192 885)],
  dc 3 [E P n15 808 (S n183 799),E P n18 812 (.int 251 811),E P n6 814 (S n185 813),E P n186 834 (R 446),E P n19 844 (R 454),E P n137 853 (R 461),E P n187 860 (R 468),E P n188 881 (R 477),E P n23 886 (R 479),E P n34 888 (R 482),E P n35 890 (R 483)],
  ⟨(Y "type"), none, (.cls ⟨n184, [(Y "object")], [(R 481),(Y "object")], 480, n184, true, [], [], false, none, false⟩), #[none,none,(some (S n184 801)),(some (S n184 809)),(some (U "object.__new__")),(some T)]⟩,
  ⟨(Y "getset_descriptor"), none, (.fields #[(S n34 887),(R 481),(U "function.__dict__"),(U "function.__dict__#set")]), #[]⟩,
  ⟨(Y "getset_descriptor"), none, (.fields #[(S n35 889),(R 481),(U "ExceptionGroup.__weakref__"),O]), #[]⟩,
  ⟨(Y "super"), none, (.fields #[(R 481),(R 481),(R 481)]), #[]⟩,
  bf [(U "object.__init_subclass__"),(R 481)]]) [(3, dc 22 [E P n5 165 (S n183 799),E P n6 166 O,E P n7 167 O,E P n8 168 (U "__main__.__loader__#opaque"),E P n9 169 O,E P n10 170 (R 6),E P n11 171 (R 4),E P n12 173 (S n1 172),E P n13 174 O,E P n4 193 (R 21),E P n17 252 (R 60),E P n36 367 (R 132),E P n71 405 (R 159),E P n76 444 (R 182),E P n80 482 (R 205),E P n84 568 (R 261),E P n118 578 (R 272),E P n122 589 (R 279),E P n124 780 (R 414),E P n180 789 (R 425),E P n182 798 (R 432),E P n184 892 (R 481)]), (12, fl [(I 1),(I 0),(R 20),(I 5),(I 0),(R 27),(I 23),(I 0),(R 71),(I 65),(I 0),(R 141),(I 73),(I 0),(R 169),(I 77),(I 0),(R 192),(I 81),(I 0),(R 215),(I 116),(I 0),(R 271),(I 123),(I 0),(R 278),(I 128),(I 0),(R 285),(I 242),(I 0),(R 424),(I 244),(I 0),(R 431),(I 251),(I 0),(R 438)])])
noncomputable def p9 : Pos := ⟨251,0,299,56⟩
noncomputable def T10 (P : Params) : BT := (put (bld (T9 P) 486 [tu [],
  fl [],
  tu [(S n201 896),(S n202 897),(S n203 898),(S n204 899)],
  tu [],
  ⟨O, none, (fd [18] n136 0 [] O O O O none O O 0 n136), #[]⟩,
  co [(S n136 893),(S n136 894),(S n1 895),(I 300),(I 2),(I 0),(I 0),(I 3),(R 486),T,(I 181),(R 487),O,(R 488),(R 489),(R 490),(I 900),(I 300),(S n1 901)],
  ⟨(Y "function"), none, (fd [18] n136 3 [] O O O (S n183 799) none (R 491) O 0 n136), #[]⟩,
  tu [],
  fl [],
  tu [(S n100 906),(S n101 907),(S n201 908)],
  tu [],
  ⟨O, none, (fd [19] n205 0 [] O O O O none O O 0 n205), #[]⟩,
  co [(S n205 903),(S n205 904),(S n1 905),(I 306),(I 2),(I 0),(I 0),(I 3),(R 493),T,(I 181),(R 494),O,(R 495),(R 496),(R 497),(I 909),(I 306),(S n1 910)],
  ⟨(Y "function"), none, (fd [19] n205 3 [] O O O (S n183 799) none (R 498) O 0 n205), #[]⟩,
  tu [],
  fl [],
  tu [(S n100 915),(S n101 916)],
  tu [],
  ⟨O, none, (fd [20] n206 0 [] O O O O none O O 0 n206), #[]⟩,
  co [(S n206 912),(S n206 913),(S n1 914),(I 320),(I 2),(I 0),(I 0),(I 3),(R 500),T,(I 181),(R 501),O,(R 502),(R 503),(R 504),(I 917),(I 320),(S n1 918)],
  ⟨(Y "function"), none, (fd [20] n206 3 [] O O O (S n183 799) none (R 505) O 0 n206), #[]⟩,
  tu [],
  fl [],
  tu [(S n201 923),(S n202 924),(S n57 925),(S n207 926)],
  tu [],
  ⟨O, none, (fd [21] n208 0 [] O O O O none O O 0 n208), #[]⟩,
  co [(S n208 920),(S n208 921),(S n1 922),(I 323),(I 2),(I 0),(I 0),(I 3),(R 507),T,(I 181),(R 508),O,(R 509),(R 510),(R 511),(I 927),(I 323),(S n1 928)],
  ⟨(Y "function"), none, (fd [21] n208 3 [] O O O (S n183 799) none (R 512) O 0 n208), #[]⟩,
  tu [],
  fl [],
  tu [(S n201 933),(S n202 934),(S n57 935),(S n207 936)],
  tu [],
  ⟨O, none, (fd [22] n209 0 [] O O O O none O O 0 n209), #[]⟩,
  co [(S n209 930),(S n209 931),(S n1 932),(I 332),(I 2),(I 0),(I 0),(I 3),(R 514),T,(I 181),(R 515),O,(R 516),(R 517),(R 518),(I 937),(I 332),(S n1 938)],
  ⟨(Y "function"), none, (fd [22] n209 3 [] O O O (S n183 799) none (R 519) O 0 n209), #[]⟩,
  tu [(.int 2 940),(.int 3 941)],
  tu [],
  fl [],
  tu [(S n211 946),(S n127 947),(S n212 948)],
  tu [],
  ⟨O, none, (fd [24] n213 0 [] O O O O none O O 0 n213), #[]⟩,
  co [(S n213 943),(S n213 944),(S n1 945),(I 342),(I 2),(I 0),(I 0),(I 3),(R 522),T,(I 181),(R 523),O,(R 524),(R 525),(R 526),(I 949),(I 342),(S n1 950)],
  ⟨(Y "function"), none, (fd [24] n213 3 [] O O O (S n183 799) none (R 527) O 0 n213), #[]⟩,
  tu [],
  fl [],
  tu [(S n211 955),(S n127 956),(S n214 957),(S n215 958),(S n216 959),(S n212 960),(S n217 961),(S n218 962),(S n219 963)],
  tu [],
  ⟨O, none, (fd [25] n220 0 [] O O O O none O O 0 n220), #[]⟩,
  co [(S n220 952),(S n220 953),(S n1 954),(I 345),(I 2),(I 0),(I 0),(I 3),(R 529),T,(I 181),(R 530),O,(R 531),(R 532),(R 533),(I 964),(I 345),(S n1 965)],
  ⟨(Y "function"), none, (fd [25] n220 3 [] O O O (S n183 799) none (R 534) O 0 n220), #[]⟩,
  tu [],
  fl [],
  tu [(S n222 972),(S n223 973),(S n198 974),(S n3 975),(S n224 976)],
  tu [],
  ⟨O, none, (fd [27] n225 0 [] O O O O none O O 0 n225), #[]⟩,
  co [(S n225 969),(S n225 970),(S n1 971),(I 359),(I 1),(I 0),(I 0),(I 3),(R 536),T,(I 181),(R 537),O,(R 538),(R 539),(R 540),(I 977),(I 359),(S n1 978)],
  ⟨(Y "function"), none, (fd [27] n225 3 [] O O O (S n221 967) none (R 541) O 0 n225), #[]⟩,
  tu [],
  fl [],
  tu [(S n226 983),(S n227 984),(S n228 985)],
  tu [],
  ⟨O, none, (fd [28] n229 0 [] O O O O none O O 0 n229), #[]⟩,
  co [(S n229 980),(S n229 981),(S n1 982),(I 370),(I 3),(I 0),(I 0),(I 3),(R 543),T,(I 181),(R 544),O,(R 545),(R 546),(R 547),(I 986),(I 370),(S n1 987)],
  ⟨(Y "function"), none, (fd [28] n229 3 [] O O O (S n221 967) none (R 548) O 0 n229), #[]⟩,
  tu [],
  fl [],
  tu [(S n222 992),(S n198 993),(S n230 994),(S n231 995)],
  tu [],
  ⟨O, none, (fd [29] n232 0 [] O O O O none O O 0 n232), #[]⟩,
  co [(S n232 989),(S n232 990),(S n1 991),(I 372),(I 1),(I 0),(I 0),(I 3),(R 550),T,(I 181),(R 551),O,(R 552),(R 553),(R 554),(I 996),(I 372),(S n1 997)],
  ⟨(Y "function"), none, (fd [29] n232 3 [] O O O (S n221 967) none (R 555) O 0 n232), #[]⟩,
  tu [],
  fl [],
  ⟨O, none, (fd [30] n233 0 [] O O O O none O O 0 n233), #[]⟩,
  co [(S n233 999),(S n233 1000),(S n1 1001),(I 377),(I 3),(I 0),(I 0),(I 3),(R 557),T,(I 181),(R 558),O,O,O,(R 559),(I 1002),(I 377),(S n1 1003)],
  ⟨(Y "function"), none, (fd [30] n233 3 [] O O O (S n221 967) none (R 560) O 0 n233), #[]⟩,
  tu [],
  fl [],
  tu [(S n222 1008),(S n234 1009),(S n235 1010),(S n231 1011),(S n127 1012),(S n194 1013),(S n135 1014),(S n128 1015),(S n224 1016),(S n236 1017)],
  tu [],
  ⟨O, none, (fd [31] n237 0 [] O O O O none O O 0 n237), #[]⟩,
  co [(S n237 1005),(S n237 1006),(S n1 1007),(I 379),(I 1),(I 0),(I 0),(I 3),(R 562),T,(I 181),(R 563),O,(R 564),(R 565),(R 566),(I 1018),(I 379),(S n1 1019)],
  ⟨(Y "function"), none, (fd [31] n237 3 [] O O O (S n221 967) none (R 567) O 0 n237), #[]⟩]) [(3, dc 35 [E P n5 165 (S n221 967),E P n6 166 O,E P n7 167 O,E P n8 168 (U "__main__.__loader__#opaque"),E P n9 169 O,E P n10 170 (R 6),E P n11 171 (R 4),E P n12 173 (S n1 172),E P n13 174 O,E P n4 193 (R 21),E P n17 252 (R 60),E P n36 367 (R 132),E P n71 405 (R 159),E P n76 444 (R 182),E P n80 482 (R 205),E P n84 568 (R 261),E P n118 578 (R 272),E P n122 589 (R 279),E P n124 780 (R 414),E P n180 789 (R 425),E P n182 798 (R 432),E P n184 892 (R 481),E P n136 902 (R 492),E P n205 911 (R 499),E P n206 919 (R 506),E P n208 929 (R 513),E P n209 939 (R 520),E P n210 942 (R 521),E P n213 951 (R 528),E P n220 966 (R 535),E P n225 979 (R 542),E P n229 988 (R 549),E P n232 998 (R 556),E P n233 1004 (R 561),E P n237 1020 (R 568)]), (12, fl [(I 1),(I 0),(R 20),(I 5),(I 0),(R 27),(I 23),(I 0),(R 71),(I 65),(I 0),(R 141),(I 73),(I 0),(R 169),(I 77),(I 0),(R 192),(I 81),(I 0),(R 215),(I 116),(I 0),(R 271),(I 123),(I 0),(R 278),(I 128),(I 0),(R 285),(I 242),(I 0),(R 424),(I 244),(I 0),(R 431),(I 251),(I 0),(R 438),(I 300),(I 0),(R 491),(I 306),(I 0),(R 498),(I 320),(I 0),(R 505),(I 323),(I 0),(R 512),(I 332),(I 0),(R 519),(I 342),(I 0),(R 527),(I 345),(I 0),(R 534),(I 359),(I 0),(R 541),(I 370),(I 0),(R 548),(I 372),(I 0),(R 555),(I 377),(I 0),(R 560),(I 379),(I 0),(R 567)])])
noncomputable def p10 : Pos := ⟨379,0,390,15⟩
theorem q1 : ∀ w : World, (fun os => segRunT treeTable PP w 11 (some (.ref 6)) 1 362 (St T0 15 187 w os) (piecesOf (sl 0 3) env0 cE p0 fr0)) = fun os => some (Flow.next, St T1 65 253 w os, cE, p1) := by
  rw [Fast.te10110043849684766642, Fast.te14364793385576792824]; intro w; kernel_rfl
theorem q2 : ∀ w : World, (fun os => segRunT treeTable PP w 11 (some (.ref 6)) 1 900 (St T1 65 253 w os) (piecesOf (sl 3 1) env0 cE p1 fr0)) = fun os => some (Flow.next, St T2 136 368 w os, cE, p2) := by
  rw [Fast.te10110043849684766642, Fast.te14364793385576792824]; intro w; kernel_rfl
theorem q3 : ∀ w : World, (fun os => segRunT treeTable PP w 11 (some (.ref 6)) 1 258 (St T2 136 368 w os) (piecesOf (sl 4 1) env0 cE p2 fr0)) = fun os => some (Flow.next, St T3 164 406 w os, cE, p3) := by
  rw [Fast.te10110043849684766642, Fast.te14364793385576792824]; intro w; kernel_rfl
theorem q4 : ∀ w : World, (fun os => segRunT treeTable PP w 11 (some (.ref 6)) 1 525 (St T3 164 406 w os) (piecesOf (sl 5 1) env0 cE p3 fr0)) = fun os => some (Flow.next, St T4 187 445 w os, cE, p4) := by
  rw [Fast.te10110043849684766642, Fast.te14364793385576792824]; intro w; kernel_rfl
theorem q5 : ∀ w : World, (fun os => segRunT treeTable PP w 11 (some (.ref 6)) 1 520 (St T4 187 445 w os) (piecesOf (sl 6 1) env0 cE p4 fr0)) = fun os => some (Flow.next, St T5 210 483 w os, cE, p5) := by
  rw [Fast.te10110043849684766642, Fast.te14364793385576792824]; intro w; kernel_rfl
theorem q6 : ∀ w : World, (fun os => segRunT treeTable PP w 11 (some (.ref 6)) 1 483 (St T5 210 483 w os) (piecesOf (sl 7 5) env0 cE p5 fr0)) = fun os => some (Flow.next, St T6 280 592 w os, cE, p6) := by
  rw [Fast.te10110043849684766642, Fast.te14364793385576792824]; intro w; kernel_rfl
theorem q7 : ∀ w : World, (fun os => segRunT treeTable PP w 11 (some (.ref 6)) 1 1403 (St T6 280 592 w os) (piecesOf (sl 12 1) env0 cE p6 fr0)) = fun os => some (Flow.next, St T7 419 781 w os, cE, p7) := by
  rw [Fast.te10110043849684766642, Fast.te14364793385576792824]; intro w; kernel_rfl
theorem q8 : ∀ w : World, (fun os => segRunT treeTable PP w 11 (some (.ref 6)) 1 79 (St T7 419 781 w os) (piecesOf (sl 13 4) env0 cE p7 fr0)) = fun os => some (Flow.next, St T8 433 801 w os, cE, p8) := by
  rw [Fast.te10110043849684766642, Fast.te14364793385576792824]; intro w; kernel_rfl
theorem q9 : ∀ w : World, (fun os => segRunT treeTable PP w 11 (some (.ref 6)) 1 622 (St T8 433 801 w os) (piecesOf (sl 17 1) env0 cE p8 fr0)) = fun os => some (Flow.next, St T9 486 893 w os, cE, p9) := by
  rw [Fast.te10110043849684766642, Fast.te14364793385576792824]; intro w; kernel_rfl
theorem q10 : ∀ w : World, (fun os => segRunT treeTable PP w 11 (some (.ref 6)) 1 407 (St T9 486 893 w os) (piecesOf (sl 18 14) env0 cE p9 fr0)) = fun os => some (Flow.next, St T10 569 1021 w os, cE, p10) := by
  rw [Fast.te10110043849684766642, Fast.te14364793385576792824]; intro w; kernel_rfl
noncomputable def HF (P : Params) : Heap := absHeap (T10 P) 569 {}
noncomputable def QQ : Program := view PP [0, 2, 3, 4, 5, 6, 7, 8, 10, 12, 14, 15, 17, 18, 19, 20, 21, 22, 23, 24, 25, 27, 28, 29, 30, 31]
noncomputable def LL : List Str := [.ofString "_tuplegetter", .ofString "Point", .ofString "Orientation", .ofString "Location", .ofString "QuadEdge", .ofString "Triangulation"]
theorem preG (w : World) (os : OsState) : topGo treeTable PP w 11 (some (.ref 6)) 12 ⟨boot_heap w.params, #[], boot_drawn, boot_toks, os⟩ (topStub PP) = some ((St T0 15 187 w os).abs, ⟨denote treeTable cE, cE, p0, fr0⟩) := by
  rw [Fast.te15667345088766844465, Fast.te14364793385576792824, Fast.te11892475500146522536]; kernel_rfl
theorem blkG (w : World) (os : OsState) : segRun treeTable PP w 11 (some (.ref 6)) 1 1 (St T0 15 187 w os).abs (blockOf BB env0 cE p0 fr0) = some (.next, (St T0 15 187 w os).abs, cE, p0) := by
  rw [Fast.te14374325043358763698, Fast.te14364793385576792824]; kernel_rfl
theorem finG (w : World) (os : OsState) : topRun treeTable PP w 11 (some (.ref 6)) 2 (St T10 569 1021 w os).abs ⟨doneF .next, cE, p10, fr0⟩ = some (St T10 569 1021 w os).abs := by
  rw [Fast.te14082659384304107361, Fast.te14364793385576792824]; kernel_rfl
theorem bodyG : BB = sl 0 3 ++ (sl 3 1 ++ (sl 4 1 ++ (sl 5 1 ++ (sl 6 1 ++ (sl 7 5 ++ (sl 12 1 ++ (sl 13 4 ++ (sl 17 1 ++ (sl 18 14 ++ ([])))))))))) := by kernel_rfl
theorem runG (w : World) (os : OsState) : topRun treeTable PP w 11 (some (.ref 6)) (12 + (1 + (362 + (900 + (258 + (525 + (520 + (483 + (1403 + (79 + (622 + (407 + (2))))))))))))) ⟨boot_heap w.params, #[], boot_drawn, boot_toks, os⟩ (topStub PP) = some (St T10 569 1021 w os).abs := by
  refine go_top (preG w os) (piece_block (blkG w os) ?_)
  rw [bodyG]
  exact piece_app (segRun_of (congrFun (q1 w) os)) (piece_app (segRun_of (congrFun (q2 w) os)) (piece_app (segRun_of (congrFun (q3 w) os)) (piece_app (segRun_of (congrFun (q4 w) os)) (piece_app (segRun_of (congrFun (q5 w) os)) (piece_app (segRun_of (congrFun (q6 w) os)) (piece_app (segRun_of (congrFun (q7 w) os)) (piece_app (segRun_of (congrFun (q8 w) os)) (piece_app (segRun_of (congrFun (q9 w) os)) (piece_app (segRun_of (congrFun (q10 w) os)) (piece_nil (finG w os)))))))))))
theorem openG : ∀ w : World, (fencedOpening treeTable PP w 11224).map (fun s => (s.heap, s.gens, s.drawn, s.toks)) = some (boot_heap w.params, Array.mk [], boot_drawn, boot_toks) :=
  boot_open (by kernel_rfl) (by decide) (fun s => by kernel_rfl)
theorem sizeG : ∀ w : World, ((boot_heap w.params).isNs mainGlobals && (#[] : Array GenState).size == 0, (boot_heap w.params).objs.size, (boot_heap w.params).nsMap mainGlobals "__annotations__") = (true, 11, some (.ref 6)) := by
  intro w; kernel_rfl
theorem look1 (w : World) (os : OsState) : (staticsOk (importedModules PP.main.body) (boot_heap w.params) (HF w.params) && namesBound PP (HF w.params) && gensDone ⟨HF w.params, #[], {}, 1021, os⟩ && laidKept (boot_heap w.params) (HF w.params)) = true := by kernel_rfl
theorem look2 (w : World) (os : OsState) : openSeen QQ LL (importedModules PP.main.body) (fun s => xlAt QQ [] s && recOk (RowW.records PySem.Challenge.rw_ja0046_01.row.toRowW) s) true ⟨HF w.params, #[], {}, 1021, os⟩ = openGood QQ LL := by
  rw [Fast.te4187177175401517315]; kernel_rfl
theorem stG (w : World) (os : OsState) : (St T10 569 1021 w os).abs = ⟨HF w.params, #[], {}, 1021, os⟩ := by kernel_rfl
theorem runH (w : World) (os : OsState) : topRun treeTable PP w 11 (some (.ref 6)) (12 + (1 + (362 + (900 + (258 + (525 + (520 + (483 + (1403 + (79 + (622 + (407 + (2))))))))))))) ⟨boot_heap w.params, #[], boot_drawn, boot_toks, os⟩ (topStub PP) = some ⟨HF w.params, #[], {}, 1021, os⟩ := (runG w os).trans (congrArg some (stG w os))
theorem leG : Nat.ble (12 + (1 + (362 + (900 + (258 + (525 + (520 + (483 + (1403 + (79 + (622 + (407 + (2))))))))))))) 11224 = true := by kernel_rfl
theorem leftG {α : Type} {Yf : Shared → α} {Ya : World → α} (h : ∀ (w : World) (os : OsState), Yf ⟨HF w.params, #[], {}, 1021, os⟩ = Ya w) :
    LeftO PP QQ LL (fun s => xlAt QQ [] s && recOk (RowW.records PySem.Challenge.rw_ja0046_01.row.toRowW) s) Yf Ya 11224 :=
  LeftO.of_pieces (H₀ := boot_heap) (gs₀ := #[]) (d₀ := boot_drawn) (k₀ := boot_toks) (m₀ := 11) (ann := some (.ref 6)) (M := 12 + (1 + (362 + (900 + (258 + (525 + (520 + (483 + (1403 + (79 + (622 + (407 + (2))))))))))))) (H₁ := HF) (gs₁ := #[]) (d₁ := {}) (k₁ := 1021) openG sizeG runH leG (fun w => funext fun os => looks_pair (look1 w os) (looks_pair (look2 w os) (h w os)))
theorem saidG : PySem.Challenge.rw_ja0046_01.wellSaid = true := by
  rw [Fast.te9446332074065402090]; kernel_rfl
theorem okG : (chainsOk QQ && opensWell PySem.Challenge.rw_ja0046_01.row.prog && (frees PySem.Challenge.rw_ja0046_01.row.toRowW && PySem.Challenge.rw_ja0046_01.row.within.isEmpty)) = true := by kernel_rfl
theorem bareG : PySem.Challenge.rw_ja0046_01.row.prog.bare := ⟨rfl, rfl, rfl, rfl, rfl, by decide +kernel⟩
theorem topG (H : Hook) {d : DefRec} {kwd : List (Str × Expr)} (hdef : defOf QQ PySem.Challenge.rw_ja0046_01.row.toRowW.name = some (d, kwd)) (hp : PySem.Challenge.rw_ja0046_01.row.prog.theDef PySem.Challenge.rw_ja0046_01.row.toRowW.name = some (d.params, d.body, d.scope)) (hk : kwWritten? d.params.kwonlyargs d.params.kw_defaults = some kwd)
    (h : ∀ (w : World) (os : OsState), H.obs ⟨HF w.params, #[], {}, 1021, os⟩ = H.val w) (said : PySem.Challenge.rw_ja0046_01.row.wellSaid = true) (hw : PySem.Challenge.rw_ja0046_01.row.toRowW.promised)
    (call : WalkO QQ LL (XL QQ []) H.says PySem.Challenge.rw_ja0046_01.row.toRowW d kwd fun f vs => PySem.call f vs) : PySem.Challenge.rw_ja0046_01.row.Holds :=
  holds_open (r := PySem.Challenge.rw_ja0046_01.row) (q := QQ) (loose := LL) (Xt := fun s => xlAt QQ [] s && recOk (RowW.records PySem.Challenge.rw_ja0046_01.row.toRowW) s) (XP := XL QQ []) (Yf := H.obs) (Ya := H.val) (YP := H.says) (N := 11224) (leftG h) H.of H.keeps (fun s e => xl_of s (Bool.and_eq_true_iff.mp e).1) XL.keeps hdef hp hk (fun s e => recFacts_of (Bool.and_eq_true_iff.mp e).2) (by kernel_rfl) said okG bareG hw call
end Mhd
namespace Mine
local macro_rules | `(tactic| o_law) => `(tactic| refine holds_law Mhd.saidG fun said => ?_)
local macro_rules | `(tactic| o_head $H) => `(tactic| refine Mhd.topG $H (by rfl) (by rfl) (by rfl) (fun w os => by kernel_rfl) (by assumption) ?hw ?hc)
open_top hd for PySem.Challenge.rw_ja0046_01
local macro_rules | `(tactic| walk_at $s:str) => `(tactic| k_extra $s)
section
variable {prog : Program} {w : World} {p : Program} {loose : List Str} {mean : ExcName → Option Value} {mg mb : Str → Option Value}
  {dp un : Nat} {gd : Option (List Code)} {cn : Str} {cs : Scope} {L a : Addr} {ccd : Value} {cl : List (Str × Addr)} {outer : List Env}
  {A₀ : Around} {base h₀ : Heap} {m : Str → Option Value} {news : List (Addr × Obj)} {s : Shared} {Q E : Value → Shared → Prop}
theorem at0 {α : Type} {x  : α} {l : List α} : x ∈ x :: l := mhd _
theorem at1 {α : Type} {x a1 : α} {l : List α} : x ∈ a1 :: x :: l := mtl _ at0
theorem at2 {α : Type} {x a1 a2 : α} {l : List α} : x ∈ a1 :: a2 :: x :: l := mtl _ at1
theorem at3 {α : Type} {x a1 a2 a3 : α} {l : List α} : x ∈ a1 :: a2 :: a3 :: x :: l := mtl _ at2
theorem at4 {α : Type} {x a1 a2 a3 a4 : α} {l : List α} : x ∈ a1 :: a2 :: a3 :: a4 :: x :: l := mtl _ at3
theorem at5 {α : Type} {x a1 a2 a3 a4 a5 : α} {l : List α} : x ∈ a1 :: a2 :: a3 :: a4 :: a5 :: x :: l := mtl _ at4
theorem at6 {α : Type} {x a1 a2 a3 a4 a5 a6 : α} {l : List α} : x ∈ a1 :: a2 :: a3 :: a4 :: a5 :: a6 :: x :: l := mtl _ at5
theorem at7 {α : Type} {x a1 a2 a3 a4 a5 a6 a7 : α} {l : List α} : x ∈ a1 :: a2 :: a3 :: a4 :: a5 :: a6 :: a7 :: x :: l := mtl _ at6
theorem at8 {α : Type} {x a1 a2 a3 a4 a5 a6 a7 a8 : α} {l : List α} : x ∈ a1 :: a2 :: a3 :: a4 :: a5 :: a6 :: a7 :: a8 :: x :: l := mtl _ at7
theorem at9 {α : Type} {x a1 a2 a3 a4 a5 a6 a7 a8 a9 : α} {l : List α} : x ∈ a1 :: a2 :: a3 :: a4 :: a5 :: a6 :: a7 :: a8 :: a9 :: x :: l := mtl _ at8
theorem at10 {α : Type} {x a1 a2 a3 a4 a5 a6 a7 a8 a9 a10 : α} {l : List α} : x ∈ a1 :: a2 :: a3 :: a4 :: a5 :: a6 :: a7 :: a8 :: a9 :: a10 :: x :: l := mtl _ at9
theorem at11 {α : Type} {x a1 a2 a3 a4 a5 a6 a7 a8 a9 a10 a11 : α} {l : List α} : x ∈ a1 :: a2 :: a3 :: a4 :: a5 :: a6 :: a7 :: a8 :: a9 :: a10 :: a11 :: x :: l := mtl _ at10
theorem at12 {α : Type} {x a1 a2 a3 a4 a5 a6 a7 a8 a9 a10 a11 a12 : α} {l : List α} : x ∈ a1 :: a2 :: a3 :: a4 :: a5 :: a6 :: a7 :: a8 :: a9 :: a10 :: a11 :: a12 :: x :: l := mtl _ at11
theorem at13 {α : Type} {x a1 a2 a3 a4 a5 a6 a7 a8 a9 a10 a11 a12 a13 : α} {l : List α} : x ∈ a1 :: a2 :: a3 :: a4 :: a5 :: a6 :: a7 :: a8 :: a9 :: a10 :: a11 :: a12 :: a13 :: x :: l := mtl _ at12
theorem at14 {α : Type} {x a1 a2 a3 a4 a5 a6 a7 a8 a9 a10 a11 a12 a13 a14 : α} {l : List α} : x ∈ a1 :: a2 :: a3 :: a4 :: a5 :: a6 :: a7 :: a8 :: a9 :: a10 :: a11 :: a12 :: a13 :: a14 :: x :: l := mtl _ at13
theorem up1 {α : Type} {x a1 : α} {l : List α} (h : x ∈ l) : x ∈ a1 :: l := mtl _ h
theorem up2 {α : Type} {x a1 a2 : α} {l : List α} (h : x ∈ l) : x ∈ a1 :: a2 :: l := mtl _ (up1 h)
theorem up3 {α : Type} {x a1 a2 a3 : α} {l : List α} (h : x ∈ l) : x ∈ a1 :: a2 :: a3 :: l := mtl _ (up2 h)
theorem up4 {α : Type} {x a1 a2 a3 a4 : α} {l : List α} (h : x ∈ l) : x ∈ a1 :: a2 :: a3 :: a4 :: l := mtl _ (up3 h)
theorem up5 {α : Type} {x a1 a2 a3 a4 a5 : α} {l : List α} (h : x ∈ l) : x ∈ a1 :: a2 :: a3 :: a4 :: a5 :: l := mtl _ (up4 h)
theorem up6 {α : Type} {x a1 a2 a3 a4 a5 a6 : α} {l : List α} (h : x ∈ l) : x ∈ a1 :: a2 :: a3 :: a4 :: a5 :: a6 :: l := mtl _ (up5 h)
local macro_rules | `(tactic| k_inst) => `(tactic| k_extra "inst9")
example : True := by
  k_with "inst9" => first | ((with_reducible show InstAt _ (@OfNat.ofNat _ _ _) _ _ _); refine InstAt.of_K (by first | assumption | exact Frag.In.keeps (by k_asm) (Fr.keep (by k_asm))) (by k_is) (by k_is)) | (refine InstAt.of_news (by k_asm) (by k_mem) (by k_mem))
  trivial
example : True := by
  w_top off
  trivial
noncomputable def Tag9 {P : Prop} (_ : P) : Prop := True
theorem Tag9.get {P : Prop} {p : P} (_ : Tag9 p) : P := p
theorem neU1 {x : Nat} : x + 1 ≠ x := Nat.succ_ne_self x
theorem neU2 {x : Nat} : x + 1 + 1 ≠ x := by omega
theorem neU3 {x : Nat} : x + 1 + 1 + 1 ≠ x := by omega
theorem neU4 {x : Nat} : x + 1 + 1 + 1 + 1 ≠ x := by omega
theorem neD1 {x : Nat} : x ≠ x + 1 := Ne.symm neU1
theorem neD2 {x : Nat} : x ≠ x + 1 + 1 := Ne.symm neU2
theorem neD3 {x : Nat} : x ≠ x + 1 + 1 + 1 := Ne.symm neU3
theorem neD4 {x : Nat} : x ≠ x + 1 + 1 + 1 + 1 := Ne.symm neU4
theorem gtA1 {q : Prop} {a b : Nat} (h : a < b ∧ q) : b ≠ a := Nat.ne_of_gt h.1
theorem gtA2 {p1 q : Prop} {a b : Nat} (h : p1 ∧ a < b ∧ q) : b ≠ a := Nat.ne_of_gt h.2.1
theorem gtA3 {p1 p2 q : Prop} {a b : Nat} (h : p1 ∧ p2 ∧ a < b ∧ q) : b ≠ a := Nat.ne_of_gt h.2.2.1
theorem gtA4 {p1 p2 p3 q : Prop} {a b : Nat} (h : p1 ∧ p2 ∧ p3 ∧ a < b ∧ q) : b ≠ a := Nat.ne_of_gt h.2.2.2.1
theorem gtA5 {p1 p2 p3 p4 q : Prop} {a b : Nat} (h : p1 ∧ p2 ∧ p3 ∧ p4 ∧ a < b ∧ q) : b ≠ a := Nat.ne_of_gt h.2.2.2.2.1
theorem gtA6 {p1 p2 p3 p4 p5 q : Prop} {a b : Nat} (h : p1 ∧ p2 ∧ p3 ∧ p4 ∧ p5 ∧ a < b ∧ q) : b ≠ a := Nat.ne_of_gt h.2.2.2.2.2.1
theorem gtA7 {p1 p2 p3 p4 p5 p6 q : Prop} {a b : Nat} (h : p1 ∧ p2 ∧ p3 ∧ p4 ∧ p5 ∧ p6 ∧ a < b ∧ q) : b ≠ a := Nat.ne_of_gt h.2.2.2.2.2.2.1
theorem gtA8 {p1 p2 p3 p4 p5 p6 p7 q : Prop} {a b : Nat} (h : p1 ∧ p2 ∧ p3 ∧ p4 ∧ p5 ∧ p6 ∧ p7 ∧ a < b ∧ q) : b ≠ a := Nat.ne_of_gt h.2.2.2.2.2.2.2.1
theorem gtA9 {p1 p2 p3 p4 p5 p6 p7 p8 q : Prop} {a b : Nat} (h : p1 ∧ p2 ∧ p3 ∧ p4 ∧ p5 ∧ p6 ∧ p7 ∧ p8 ∧ a < b ∧ q) : b ≠ a := Nat.ne_of_gt h.2.2.2.2.2.2.2.2.1
theorem gtA10 {p1 p2 p3 p4 p5 p6 p7 p8 p9 q : Prop} {a b : Nat} (h : p1 ∧ p2 ∧ p3 ∧ p4 ∧ p5 ∧ p6 ∧ p7 ∧ p8 ∧ p9 ∧ a < b ∧ q) : b ≠ a := Nat.ne_of_gt h.2.2.2.2.2.2.2.2.2.1
theorem gtA11 {p1 p2 p3 p4 p5 p6 p7 p8 p9 p10 q : Prop} {a b : Nat} (h : p1 ∧ p2 ∧ p3 ∧ p4 ∧ p5 ∧ p6 ∧ p7 ∧ p8 ∧ p9 ∧ p10 ∧ a < b ∧ q) : b ≠ a := Nat.ne_of_gt h.2.2.2.2.2.2.2.2.2.2.1
theorem gtA12 {p1 p2 p3 p4 p5 p6 p7 p8 p9 p10 p11 q : Prop} {a b : Nat} (h : p1 ∧ p2 ∧ p3 ∧ p4 ∧ p5 ∧ p6 ∧ p7 ∧ p8 ∧ p9 ∧ p10 ∧ p11 ∧ a < b ∧ q) : b ≠ a := Nat.ne_of_gt h.2.2.2.2.2.2.2.2.2.2.2.1
theorem room2 {d a b k : Nat} (h : d + k < recursionLimit) (e : Nat.ble (a + b) k = true) : d + a + b < recursionLimit := by have := Nat.le_of_ble_eq_true e; omega
theorem room1 {d a k : Nat} (h : d + k < recursionLimit) (e : Nat.ble a k = true) : d + a < recursionLimit := by have := Nat.le_of_ble_eq_true e; omega
theorem room0 {d k : Nat} (h : d + k < recursionLimit) : d < recursionLimit := by omega
theorem unit2 {d a b k : Nat} (h : d + k < cLine) (e : Nat.ble (a + b) k = true) : d + a + b < cLine := by have := Nat.le_of_ble_eq_true e; omega
theorem unit1 {d a k : Nat} (h : d + k < cLine) (e : Nat.ble a k = true) : d + a < cLine := by have := Nat.le_of_ble_eq_true e; omega
theorem unit0 {d k : Nat} (h : d + k < cLine) : d < cLine := by omega
theorem cells_five {cm : Str → Option Value} {n₁ n₂ n₃ n₄ n₅ : Str} {c₁ c₂ c₃ c₄ c₅ : Addr} {cells : List (Addr × Obj)} (x : CellsAre cm [(n₁, c₁), (n₂, c₂), (n₃, c₃), (n₄, c₄), (n₅, c₅)] cells) :
    ∃ o₁ o₂ o₃ o₄ o₅, cells = [(c₁, o₁), (c₂, o₂), (c₃, o₃), (c₄, o₄), (c₅, o₅)] ∧ o₁.data = .cell (cm n₁) ∧ o₂.data = .cell (cm n₂) ∧ o₃.data = .cell (cm n₃) ∧ o₄.data = .cell (cm n₄) ∧ o₅.data = .cell (cm n₅) := by
  cases x with | cons h r => obtain ⟨o₂, o₃, o₄, o₅, rfl, h₂, h₃, h₄, h₅⟩ := r.four; exact ⟨_, o₂, o₃, o₄, o₅, rfl, h, h₂, h₃, h₄, h₅⟩
noncomputable abbrev ERec := Nat × Nat × Option Nat
noncomputable abbrev edgeD (P : Params) (t1 t2 t3 t4 : Tok) (c l r st : Value) : List DictEntry :=
  [⟨PyData.keyHash P (Str.ofString "_context"), .str (Str.ofString "_context") t1, c⟩,
   ⟨PyData.keyHash P (Str.ofString "_left_from_start"), .str (Str.ofString "_left_from_start") t2, l⟩,
   ⟨PyData.keyHash P (Str.ofString "_rotated"), .str (Str.ofString "_rotated") t3, r⟩,
   ⟨PyData.keyHash P (Str.ofString "_start"), .str (Str.ofString "_start") t4, st⟩]
noncomputable def SVal (pts : List Addr) : Option Nat → Value → Prop
  | none, v => v = .none
  | some k, v => ∃ a, pts[k]? = some a ∧ v = .ref a
noncomputable def EdgeDict (P : Params) (news : List (Addr × Obj)) (cx : Addr) (pts : List Addr) (al : List (Addr × Addr)) (d : Addr) (e : ERec) : Prop :=
  ∃ t1 t2 t3 t4 la ld ra rd sv, al[e.1]? = some (la, ld) ∧ al[e.2.1]? = some (ra, rd) ∧ SVal pts e.2.2 sv ∧
    (d, dictOf (edgeD P t1 t2 t3 t4 (.ref cx) (.ref la) (.ref ra) sv) 4) ∈ news
noncomputable abbrev ptObj (d : Addr) (x : Int) (t : Tok) (y : Int) (u : Tok) : Obj := { cls := .ref 132, dict := some d, data := .seq #[.int x t, .int y u] }
noncomputable def PtIn (news : List (Addr × Obj)) (a : Addr) (x : Int) (t : Tok) (y : Int) (u : Tok) : Prop := ∃ d, (a, ptObj d x t y u) ∈ news ∧ (d, dictOf [] 0) ∈ news
theorem PtIn.mono {news news' : List (Addr × Obj)} {a : Addr} {x y : Int} {t u : Tok} (m : PtIn news a x t y u) (hs : ∀ p ∈ news, p ∈ news') : PtIn news' a x t y u := let ⟨d, m1, m2⟩ := m; ⟨d, hs _ m1, hs _ m2⟩
structure Rep (P : Params) (news : List (Addr × Obj)) (cx : Addr) (pts : List Addr) (xy : Nat → Int × Int) (al : List (Addr × Addr)) (st : List ERec) : Prop where
  len : al.length = st.length
  nd : ∀ (i j : Nat) (a a' d : Addr), al[i]? = some (a, d) → al[j]? = some (a', d) → i = j
  inst : ∀ (i : Nat) (a d : Addr), al[i]? = some (a, d) → (a, instObj 414 d) ∈ news
  dict : ∀ (i : Nat) (a d : Addr) (e : ERec), al[i]? = some (a, d) → st[i]? = some e → EdgeDict P news cx pts al d e
  pin : ∀ (k : Nat) (a : Addr), pts[k]? = some a → ∃ t u, PtIn news a (xy k).1 t (xy k).2 u
  bnd : ∀ k : Nat, (-2 ^ 60 < (xy k).1 ∧ (xy k).1 < 2 ^ 60) ∧ (-2 ^ 60 < (xy k).2 ∧ (xy k).2 < 2 ^ 60)
  ctx : ∃ dcx, (cx, instObj 261 dcx) ∈ news ∧ (dcx, dictOf [] 0) ∈ news
noncomputable def nth9 (st : List ERec) : Nat → Option ERec := @List.rec ERec (fun _ => Nat → Option ERec) (fun _ => none) (fun e _ f i => @Nat.rec (fun _ => Option ERec) (some e) (fun i _ => f i) i) st
theorem nth_q : ∀ (st : List ERec) (i : Nat), nth9 st i = st[i]?
  | [], _ => rfl
  | _ :: _, 0 => rfl
  | _ :: r, i + 1 => nth_q r i
noncomputable def lfs (st : List ERec) (i : Nat) : Nat := match nth9 st i with | some e => e.1 | none => 0
noncomputable def rot (st : List ERec) (i : Nat) : Nat := match nth9 st i with | some e => e.2.1 | none => 0
noncomputable def org (st : List ERec) (i : Nat) : Option Nat := match nth9 st i with | some e => e.2.2 | none => none
theorem EdgeDict.mono {P : Params} {news news' : List (Addr × Obj)} {cx : Addr} {pts : List Addr} {al : List (Addr × Addr)} {d : Addr} {e : ERec} (hs : ∀ p ∈ news, p ∈ news') : EdgeDict P news cx pts al d e → EdgeDict P news' cx pts al d e :=
  Exists.imp fun _ => Exists.imp fun _ => Exists.imp fun _ => Exists.imp fun _ => Exists.imp fun _ => Exists.imp fun _ => Exists.imp fun _ => Exists.imp fun _ => Exists.imp fun _ => And.imp id (And.imp id (And.imp id (hs _)))
theorem Rep.mono {P : Params} {news news' : List (Addr × Obj)} {cx : Addr} {pts : List Addr} {xy : Nat → Int × Int} {al : List (Addr × Addr)} {st : List ERec} (R : Rep P news cx pts xy al st) (hs : ∀ p ∈ news, p ∈ news') : Rep P news' cx pts xy al st where
  len := R.len
  nd := R.nd
  inst := fun i a d h => hs _ (R.inst i a d h)
  dict := fun i a d e h1 h2 => (R.dict i a d e h1 h2).mono hs
  pin := fun k a h => let ⟨t, u, m⟩ := R.pin k a h; ⟨t, u, m.mono hs⟩
  bnd := R.bnd
  ctx := let ⟨dcx, m1, m2⟩ := R.ctx; ⟨dcx, hs _ m1, hs _ m2⟩
theorem Rep.at {P : Params} {news : List (Addr × Obj)} {cx : Addr} {pts : List Addr} {xy : Nat → Int × Int} {al : List (Addr × Addr)} {st : List ERec} (R : Rep P news cx pts xy al st) {i : Nat} {a d : Addr} (h : al[i]? = some (a, d)) :
    (a, instObj 414 d) ∈ news ∧ ∃ t1 t2 t3 t4 la ld ra rd sv, al[lfs st i]? = some (la, ld) ∧ al[rot st i]? = some (ra, rd) ∧ SVal pts (org st i) sv ∧
      (d, dictOf (edgeD P t1 t2 t3 t4 (.ref cx) (.ref la) (.ref ra) sv) 4) ∈ news := by
  refine ⟨R.inst _ _ _ h, ?_⟩
  have hl : i < st.length := by
    rw [← R.len]; exact (List.getElem?_eq_some_iff.mp h).1
  have he : st[i]? = some st[i] := List.getElem?_eq_getElem hl
  obtain ⟨t1, t2, t3, t4, la, ld, ra, rd, sv, x1, x2, x3, x4⟩ := R.dict i a d _ h he
  exact ⟨t1, t2, t3, t4, la, ld, ra, rd, sv, by unfold lfs; rw [nth_q, he]; exact x1, by unfold rot; rw [nth_q, he]; exact x2, by unfold org; rw [nth_q, he]; exact x3, x4⟩
local macro_rules | `(tactic| k_enter) => `(tactic| k_extra "e9")
example : True := by
  k_with "e9" => (first | (refine code_def (by k_asm) (by k_asm) (by k_asm) (by k_asm) (by k_asm) rfl rfl (by first | exact rfl | assumption) (by k_is) (by k_is) (by ktr_room) (by first | exact BindsTo.of_eq rfl | refine kp_binds (by k_in) (by exact fun _ => rfl)) (by exact locs rfl) ?_ (by exact rfl) (by exact rfl) (by exact rfl) (by decide); k_whole; intro _ _ _ _ _ _ _ _ _; (try dsimp only); (try k_fold)) | (refine code_defC (by k_asm) (by k_asm) (by k_asm) (by k_asm) (by k_asm) rfl rfl (by first | exact rfl | assumption) (by k_is) (by k_is) (by ktr_room) (by first | exact BindsTo.of_eq rfl | refine kp_binds (by k_in) (by exact fun _ => rfl)) (by exact rfl) (by decide +kernel) ?_ (by exact rfl) (by exact rfl) (by exact rfl); k_whole; intro _ _ _ _ _ _ _ N' Y' _ _ _ l1; (try k_lt l1); (try dsimp only); (try k_fold); (first | k_cells Y' | (obtain ⟨_, _, _, _, _, hE', _, _, _, _, _⟩ := cells_five Y'; subst hE'; clear Y')); (try simp only [List.cons_append, List.nil_append] at N'); (try dsimp only); (try k_fold); (try (revert N'; intro _)); (try (revert l1; intro _))))
  trivial
local macro_rules | `(tactic| k_ne) => `(tactic| k_extra "ne9")
example : True := by
  k_with "ne9" => (refine neN ?_; (try dsimp only); with_reducible first | exact neU1 | exact neU2 | exact neU3 | exact neU4 | exact neD1 | exact neD2 | exact neD3 | exact neD4 | exact Nat.ne_of_gt ‹_› | exact Nat.ne_of_lt ‹_› | exact gtA1 ‹_› | exact Ne.symm (gtA1 ‹_›) | exact gtA2 ‹_› | exact Ne.symm (gtA2 ‹_›) | exact gtA3 ‹_› | exact Ne.symm (gtA3 ‹_›) | exact gtA4 ‹_› | exact Ne.symm (gtA4 ‹_›) | exact gtA5 ‹_› | exact Ne.symm (gtA5 ‹_›) | exact gtA6 ‹_› | exact Ne.symm (gtA6 ‹_›) | exact gtA7 ‹_› | exact Ne.symm (gtA7 ‹_›) | exact gtA8 ‹_› | exact Ne.symm (gtA8 ‹_›) | exact gtA9 ‹_› | exact Ne.symm (gtA9 ‹_›) | exact gtA10 ‹_› | exact Ne.symm (gtA10 ‹_›) | exact gtA11 ‹_› | exact Ne.symm (gtA11 ‹_›) | exact gtA12 ‹_› | exact Ne.symm (gtA12 ‹_›))
  trivial
theorem raw_rotated {t1 t2 t3 t4 : Tok} {c l r st : Value} {e d ra : Addr} {expr : Bool} (B : Below A₀ base outer h₀) (F : Fr h₀ L s.heap m) (X : (hd.heap_1 w.params).In h₀) (N : News h₀ L s.heap news) (T : Top p loose mean mg mb h₀) (hk : cs.kind = .function) (hroom : dp + 2 < recursionLimit)
   (hr : r = .ref ra) (m1 : (e, instObj 414 d) ∈ news) (m2 : (d, dictOf (edgeD w.params t1 t2 t3 t4 c l r st) 4) ∈ news)
   (ret : ∀ h' tk', Fr h₀ L h' m → News h₀ L h' news → Q (.ref ra) { s with heap := h', toks := tk' }) :
   wpAny (model prog w) (ktrTop dp un gd cn cs L a ccd cl outer) (getAttr (.ref e) "rotated" expr) Q E s := by
  subst hr
  k_dflt (refine' get_prop ?k1 ?k2 ?k3 ?k4 ?k5 ?k6 ?k7 ?k8 ?k9 ?_; (case k1 => k_asm); (case k2 => k_asm); (case k3 => k_inst); (case k4 => k_is); (case k5 => k_is); (case k6 => k_is); (case k7 => k_is); (case k8 => k_is); (case k9 => k_is); k_whole)
  k_dflt k_enter
  k_steps
  all_goals exact ret _ _ (by k_asm) (by k_asm)
theorem raw_left_from_start {t1 t2 t3 t4 : Tok} {c l r st : Value} {e d ra : Addr} {expr : Bool} (B : Below A₀ base outer h₀) (F : Fr h₀ L s.heap m) (X : (hd.heap_1 w.params).In h₀) (N : News h₀ L s.heap news) (T : Top p loose mean mg mb h₀) (hk : cs.kind = .function) (hroom : dp + 2 < recursionLimit)
   (hr : l = .ref ra) (m1 : (e, instObj 414 d) ∈ news) (m2 : (d, dictOf (edgeD w.params t1 t2 t3 t4 c l r st) 4) ∈ news)
   (ret : ∀ h' tk', Fr h₀ L h' m → News h₀ L h' news → Q (.ref ra) { s with heap := h', toks := tk' }) :
   wpAny (model prog w) (ktrTop dp un gd cn cs L a ccd cl outer) (getAttr (.ref e) "left_from_start" expr) Q E s := by
  subst hr
  k_dflt (refine' get_prop ?k1 ?k2 ?k3 ?k4 ?k5 ?k6 ?k7 ?k8 ?k9 ?_; (case k1 => k_asm); (case k2 => k_asm); (case k3 => k_inst); (case k4 => k_is); (case k5 => k_is); (case k6 => k_is); (case k7 => k_is); (case k8 => k_is); (case k9 => k_is); k_whole)
  k_dflt k_enter
  k_steps
  all_goals exact ret _ _ (by k_asm) (by k_asm)
theorem raw_start {t1 t2 t3 t4 : Tok} {c l r st : Value} {e d ra : Addr} {expr : Bool} (B : Below A₀ base outer h₀) (F : Fr h₀ L s.heap m) (X : (hd.heap_1 w.params).In h₀) (N : News h₀ L s.heap news) (T : Top p loose mean mg mb h₀) (hk : cs.kind = .function) (hroom : dp + 2 < recursionLimit)
   (hr : st = .ref ra) (m1 : (e, instObj 414 d) ∈ news) (m2 : (d, dictOf (edgeD w.params t1 t2 t3 t4 c l r st) 4) ∈ news)
   (ret : ∀ h' tk', Fr h₀ L h' m → News h₀ L h' news → Q (.ref ra) { s with heap := h', toks := tk' }) :
   wpAny (model prog w) (ktrTop dp un gd cn cs L a ccd cl outer) (getAttr (.ref e) "start" expr) Q E s := by
  subst hr
  k_dflt (refine' get_prop ?k1 ?k2 ?k3 ?k4 ?k5 ?k6 ?k7 ?k8 ?k9 ?_; (case k1 => k_asm); (case k2 => k_asm); (case k3 => k_inst); (case k4 => k_is); (case k5 => k_is); (case k6 => k_is); (case k7 => k_is); (case k8 => k_is); (case k9 => k_is); k_whole)
  k_dflt k_enter
  k_steps
  all_goals exact ret _ _ (by k_asm) (by k_asm)
theorem raw_context {t1 t2 t3 t4 : Tok} {c l r st : Value} {e d ra : Addr} {expr : Bool} (B : Below A₀ base outer h₀) (F : Fr h₀ L s.heap m) (X : (hd.heap_1 w.params).In h₀) (N : News h₀ L s.heap news) (T : Top p loose mean mg mb h₀) (hk : cs.kind = .function) (hroom : dp + 2 < recursionLimit)
   (hr : c = .ref ra) (m1 : (e, instObj 414 d) ∈ news) (m2 : (d, dictOf (edgeD w.params t1 t2 t3 t4 c l r st) 4) ∈ news)
   (ret : ∀ h' tk', Fr h₀ L h' m → News h₀ L h' news → Q (.ref ra) { s with heap := h', toks := tk' }) :
   wpAny (model prog w) (ktrTop dp un gd cn cs L a ccd cl outer) (getAttr (.ref e) "context" expr) Q E s := by
  subst hr
  k_dflt (refine' get_prop ?k1 ?k2 ?k3 ?k4 ?k5 ?k6 ?k7 ?k8 ?k9 ?_; (case k1 => k_asm); (case k2 => k_asm); (case k3 => k_inst); (case k4 => k_is); (case k5 => k_is); (case k6 => k_is); (case k7 => k_is); (case k8 => k_is); (case k9 => k_is); k_whole)
  k_dflt k_enter
  k_steps
  all_goals exact ret _ _ (by k_asm) (by k_asm)
theorem g_rotated {cx : Addr} {pts : List Addr} {xy : Nat → Int × Int} {al : List (Addr × Addr)} {st : List ERec} {i : Nat} {e d : Addr} {expr : Bool} (B : Below A₀ base outer h₀) (F : Fr h₀ L s.heap m) (X : (hd.heap_1 w.params).In h₀) (N : News h₀ L s.heap news) (T : Top p loose mean mg mb h₀) (hk : cs.kind = .function) (R : Rep w.params news cx pts xy al st) (hi : al[i]? = some (e, d)) (hroom : dp + 2 < recursionLimit)
   (ret : ∀ h' tk' b bd, Fr h₀ L h' m → News h₀ L h' news → al[rot st i]? = some (b, bd) → Q (.ref b) { s with heap := h', toks := tk' }) :
   wpAny (model prog w) (ktrTop dp un gd cn cs L a ccd cl outer) (getAttr (.ref e) "rotated" expr) Q E s := by
  obtain ⟨m1, t1, t2, t3, t4, la, ld, ra, rd, sv, x1, x2, x3, m2⟩ := R.at hi
  exact raw_rotated B F X N T hk hroom rfl m1 m2 fun h' tk' F' N' => ret h' tk' _ _ F' N' x2
theorem g_left_from_start {cx : Addr} {pts : List Addr} {xy : Nat → Int × Int} {al : List (Addr × Addr)} {st : List ERec} {i : Nat} {e d : Addr} {expr : Bool} (B : Below A₀ base outer h₀) (F : Fr h₀ L s.heap m) (X : (hd.heap_1 w.params).In h₀) (N : News h₀ L s.heap news) (T : Top p loose mean mg mb h₀) (hk : cs.kind = .function) (R : Rep w.params news cx pts xy al st) (hi : al[i]? = some (e, d)) (hroom : dp + 2 < recursionLimit)
   (ret : ∀ h' tk' b bd, Fr h₀ L h' m → News h₀ L h' news → al[lfs st i]? = some (b, bd) → Q (.ref b) { s with heap := h', toks := tk' }) :
   wpAny (model prog w) (ktrTop dp un gd cn cs L a ccd cl outer) (getAttr (.ref e) "left_from_start" expr) Q E s := by
  obtain ⟨m1, t1, t2, t3, t4, la, ld, ra, rd, sv, x1, x2, x3, m2⟩ := R.at hi
  exact raw_left_from_start B F X N T hk hroom rfl m1 m2 fun h' tk' F' N' => ret h' tk' _ _ F' N' x1
theorem g_start {cx : Addr} {pts : List Addr} {xy : Nat → Int × Int} {al : List (Addr × Addr)} {st : List ERec} {i k : Nat} {e d : Addr} {expr : Bool} (B : Below A₀ base outer h₀) (F : Fr h₀ L s.heap m) (X : (hd.heap_1 w.params).In h₀) (N : News h₀ L s.heap news) (T : Top p loose mean mg mb h₀) (hk : cs.kind = .function) (R : Rep w.params news cx pts xy al st) (hi : al[i]? = some (e, d)) (ho : org st i = some k) (hroom : dp + 2 < recursionLimit)
   (ret : ∀ h' tk' b, Fr h₀ L h' m → News h₀ L h' news → pts[k]? = some b → Q (.ref b) { s with heap := h', toks := tk' }) :
   wpAny (model prog w) (ktrTop dp un gd cn cs L a ccd cl outer) (getAttr (.ref e) "start" expr) Q E s := by
  obtain ⟨m1, t1, t2, t3, t4, la, ld, ra, rd, sv, x1, x2, x3, m2⟩ := R.at hi
  rw [ho] at x3
  obtain ⟨pa, hp, rfl⟩ := x3
  exact raw_start B F X N T hk hroom rfl m1 m2 fun h' tk' F' N' => ret h' tk' _ F' N' hp
theorem g_context {cx : Addr} {pts : List Addr} {xy : Nat → Int × Int} {al : List (Addr × Addr)} {st : List ERec} {i : Nat} {e d : Addr} {expr : Bool} (B : Below A₀ base outer h₀) (F : Fr h₀ L s.heap m) (X : (hd.heap_1 w.params).In h₀) (N : News h₀ L s.heap news) (T : Top p loose mean mg mb h₀) (hk : cs.kind = .function) (R : Rep w.params news cx pts xy al st) (hi : al[i]? = some (e, d)) (hroom : dp + 2 < recursionLimit)
   (ret : ∀ h' tk', Fr h₀ L h' m → News h₀ L h' news → Q (.ref cx) { s with heap := h', toks := tk' }) :
   wpAny (model prog w) (ktrTop dp un gd cn cs L a ccd cl outer) (getAttr (.ref e) "context" expr) Q E s := by
  obtain ⟨m1, t1, t2, t3, t4, la, ld, ra, rd, sv, x1, x2, x3, m2⟩ := R.at hi
  exact raw_context B F X N T hk hroom rfl m1 m2 ret
local macro_rules | `(tactic| ktr_room) => `(tactic| k_extra "room9")
example : True := by
  k_with "room9" => (first | exact room2 ‹_› (by exact rfl) | exact room1 ‹_› (by exact rfl) | exact room0 ‹_›)
  trivial
local macro_rules | `(tactic| ktr_units) => `(tactic| k_extra "units9")
example : True := by
  k_with "units9" => (first | exact unit2 ‹_› (by exact rfl) | exact unit1 ‹_› (by exact rfl) | exact unit0 ‹_›)
  trivial
example : True := by
  w_top off
  k_with "execs cons" => w_strict (refine wpAny_execs_cons ?_; (try k_fold))
  k_with "eval BinOp" => w_strict (k_fold)
  k_with "eval Call" => w_strict (k_fold)
  k_with "eval Call Attribute" => w_strict (k_fold)
  k_with "eval Attribute Name" => w_strict (k_fold)
  k_with "eval Subscript" => w_strict (k_fold)
  k_with "eval Attribute Attribute" => w_strict (k_fold)
  k_with "getAttr ref" => w_strict (k_fold)
  k_with "eval Tuple" => w_strict (k_fold)
  k_with "assignInOrder" => w_strict (k_fold)
  k_with "exec Assign" => w_strict (k_fold)
  k_with "isTrue BoolOp" => w_strict (k_fold)
  k_with "isTrue Compare" => w_strict (k_fold)
  k_with "callWith ref" => w_strict (k_fold)
  k_with "getAttr ref" => w_strict (k_here; (with_reducible show wpAny _ _ (getAttr (Value.ref _) (Str.ofString "rotated") _) _ _ _); k_dflt (refine g_rotated (by k_asm) (by k_asm) (by k_asm) (by k_asm) (by k_asm) (by first | exact rfl | assumption) (by (first | assumption | exact Rep.mono ‹_› (by intro p9 hp9; first | exact mtl _ hp9 | exact mtl _ (mtl _ hp9) | exact mtl _ (mtl _ (mtl _ hp9))))) ‹_›  (by ktr_room) ?_; k_whole); intro _ _ _ _ _ _ _; (try k_sweep))
  k_with "getAttr ref" => w_strict (k_here; (with_reducible show wpAny _ _ (getAttr (Value.ref _) (Str.ofString "left_from_start") _) _ _ _); k_dflt (refine g_left_from_start (by k_asm) (by k_asm) (by k_asm) (by k_asm) (by k_asm) (by first | exact rfl | assumption) (by (first | assumption | exact Rep.mono ‹_› (by intro p9 hp9; first | exact mtl _ hp9 | exact mtl _ (mtl _ hp9) | exact mtl _ (mtl _ (mtl _ hp9))))) ‹_›  (by ktr_room) ?_; k_whole); intro _ _ _ _ _ _ _; (try k_sweep))
  k_with "getAttr ref" => w_strict (k_here; (with_reducible show wpAny _ _ (getAttr (Value.ref _) (Str.ofString "context") _) _ _ _); k_dflt (refine g_context (by k_asm) (by k_asm) (by k_asm) (by k_asm) (by k_asm) (by first | exact rfl | assumption) (by (first | assumption | exact Rep.mono ‹_› (by intro p9 hp9; first | exact mtl _ hp9 | exact mtl _ (mtl _ hp9) | exact mtl _ (mtl _ (mtl _ hp9))))) ‹_›  (by ktr_room) ?_; k_whole); intro _ _ _ _; (try k_sweep))
  k_with "getAttr ref" => w_strict (k_here; (with_reducible show wpAny _ _ (getAttr (Value.ref _) (Str.ofString "start") _) _ _ _); k_dflt (refine g_start (by k_asm) (by k_asm) (by k_asm) (by k_asm) (by k_asm) (by first | exact rfl | assumption) (by (first | assumption | exact Rep.mono ‹_› (by intro p9 hp9; first | exact mtl _ hp9 | exact mtl _ (mtl _ hp9) | exact mtl _ (mtl _ (mtl _ hp9))))) ‹_› ‹_› (by ktr_room) ?_; k_whole); intro _ _ _ _ _ _; (try k_sweep))
  trivial
theorem g_opposite {cx : Addr} {pts : List Addr} {xy : Nat → Int × Int} {al : List (Addr × Addr)} {st : List ERec} {i : Nat} {e d : Addr} {expr : Bool} (B : Below A₀ base outer h₀) (F : Fr h₀ L s.heap m) (X : (hd.heap_1 w.params).In h₀) (N : News h₀ L s.heap news) (T : Top p loose mean mg mb h₀) (hk : cs.kind = .function) (R : Rep w.params news cx pts xy al st) (hi : al[i]? = some (e, d)) (hroom : dp + 4 < recursionLimit)
   (ret : ∀ h' tk' b bd, Fr h₀ L h' m → News h₀ L h' news → al[(rot st (rot st i))]? = some (b, bd) → Q (.ref b) { s with heap := h', toks := tk' }) :
   wpAny (model prog w) (ktrTop dp un gd cn cs L a ccd cl outer) (getAttr (.ref e) "opposite" expr) Q E s := by
  obtain h9 : Tag9 (P := wpAny (model prog w) (ktrTop dp un gd cn cs L a ccd cl outer) (getAttr (.ref e) "opposite" expr) Q E s) (by
    obtain ⟨m1, t1, t2, t3, t4, la, ld, ra, rd, sv, x1, x2, x3, m2⟩ := R.at hi
    k_dflt (refine' get_prop ?k1 ?k2 ?k3 ?k4 ?k5 ?k6 ?k7 ?k8 ?k9 ?_; (case k1 => k_asm); (case k2 => k_asm); (case k3 => k_inst); (case k4 => k_is); (case k5 => k_is); (case k6 => k_is); (case k7 => k_is); (case k8 => k_is); (case k9 => k_is); k_whole)
    clear x1 x2 x3 m1 m2
    k_dflt k_enter
    k_steps
    all_goals exact ret _ _ _ _ (by k_asm) (by k_asm) (by assumption)) := trivial
  unfold id at h9; exact h9.get
example : True := by
  k_with "getAttr ref" => w_strict (k_here; (with_reducible show wpAny _ _ (getAttr (Value.ref _) (Str.ofString "opposite") _) _ _ _); k_dflt (refine g_opposite (by k_asm) (by k_asm) (by k_asm) (by k_asm) (by k_asm) (by first | exact rfl | assumption) (by (first | assumption | exact Rep.mono ‹_› (by intro p9 hp9; first | exact mtl _ hp9 | exact mtl _ (mtl _ hp9) | exact mtl _ (mtl _ (mtl _ hp9))))) ‹_›  (by ktr_room) ?_; k_whole); intro _ _ _ _ _ _ _; (try k_sweep))
  trivial
theorem g_left_from_end {cx : Addr} {pts : List Addr} {xy : Nat → Int × Int} {al : List (Addr × Addr)} {st : List ERec} {i : Nat} {e d : Addr} {expr : Bool} (B : Below A₀ base outer h₀) (F : Fr h₀ L s.heap m) (X : (hd.heap_1 w.params).In h₀) (N : News h₀ L s.heap news) (T : Top p loose mean mg mb h₀) (hk : cs.kind = .function) (R : Rep w.params news cx pts xy al st) (hi : al[i]? = some (e, d)) (hroom : dp + 6 < recursionLimit)
   (ret : ∀ h' tk' b bd, Fr h₀ L h' m → News h₀ L h' news → al[(rot st (lfs st (rot st (rot st (rot st i)))))]? = some (b, bd) → Q (.ref b) { s with heap := h', toks := tk' }) :
   wpAny (model prog w) (ktrTop dp un gd cn cs L a ccd cl outer) (getAttr (.ref e) "left_from_end" expr) Q E s := by
  obtain h9 : Tag9 (P := wpAny (model prog w) (ktrTop dp un gd cn cs L a ccd cl outer) (getAttr (.ref e) "left_from_end" expr) Q E s) (by
    obtain ⟨m1, t1, t2, t3, t4, la, ld, ra, rd, sv, x1, x2, x3, m2⟩ := R.at hi
    k_dflt (refine' get_prop ?k1 ?k2 ?k3 ?k4 ?k5 ?k6 ?k7 ?k8 ?k9 ?_; (case k1 => k_asm); (case k2 => k_asm); (case k3 => k_inst); (case k4 => k_is); (case k5 => k_is); (case k6 => k_is); (case k7 => k_is); (case k8 => k_is); (case k9 => k_is); k_whole)
    clear x1 x2 x3 m1 m2
    k_dflt k_enter
    k_steps
    all_goals exact ret _ _ _ _ (by k_asm) (by k_asm) (by assumption)) := trivial
  unfold id at h9; exact h9.get
theorem g_right_from_start {cx : Addr} {pts : List Addr} {xy : Nat → Int × Int} {al : List (Addr × Addr)} {st : List ERec} {i : Nat} {e d : Addr} {expr : Bool} (B : Below A₀ base outer h₀) (F : Fr h₀ L s.heap m) (X : (hd.heap_1 w.params).In h₀) (N : News h₀ L s.heap news) (T : Top p loose mean mg mb h₀) (hk : cs.kind = .function) (R : Rep w.params news cx pts xy al st) (hi : al[i]? = some (e, d)) (hroom : dp + 6 < recursionLimit)
   (ret : ∀ h' tk' b bd, Fr h₀ L h' m → News h₀ L h' news → al[(rot st (lfs st (rot st i)))]? = some (b, bd) → Q (.ref b) { s with heap := h', toks := tk' }) :
   wpAny (model prog w) (ktrTop dp un gd cn cs L a ccd cl outer) (getAttr (.ref e) "right_from_start" expr) Q E s := by
  obtain h9 : Tag9 (P := wpAny (model prog w) (ktrTop dp un gd cn cs L a ccd cl outer) (getAttr (.ref e) "right_from_start" expr) Q E s) (by
    obtain ⟨m1, t1, t2, t3, t4, la, ld, ra, rd, sv, x1, x2, x3, m2⟩ := R.at hi
    k_dflt (refine' get_prop ?k1 ?k2 ?k3 ?k4 ?k5 ?k6 ?k7 ?k8 ?k9 ?_; (case k1 => k_asm); (case k2 => k_asm); (case k3 => k_inst); (case k4 => k_is); (case k5 => k_is); (case k6 => k_is); (case k7 => k_is); (case k8 => k_is); (case k9 => k_is); k_whole)
    clear x1 x2 x3 m1 m2
    k_dflt k_enter
    k_steps
    all_goals exact ret _ _ _ _ (by k_asm) (by k_asm) (by assumption)) := trivial
  unfold id at h9; exact h9.get
theorem g_right_from_end {cx : Addr} {pts : List Addr} {xy : Nat → Int × Int} {al : List (Addr × Addr)} {st : List ERec} {i : Nat} {e d : Addr} {expr : Bool} (B : Below A₀ base outer h₀) (F : Fr h₀ L s.heap m) (X : (hd.heap_1 w.params).In h₀) (N : News h₀ L s.heap news) (T : Top p loose mean mg mb h₀) (hk : cs.kind = .function) (R : Rep w.params news cx pts xy al st) (hi : al[i]? = some (e, d)) (hroom : dp + 6 < recursionLimit)
   (ret : ∀ h' tk' b bd, Fr h₀ L h' m → News h₀ L h' news → al[lfs st (rot st (rot st i))]? = some (b, bd) → Q (.ref b) { s with heap := h', toks := tk' }) :
   wpAny (model prog w) (ktrTop dp un gd cn cs L a ccd cl outer) (getAttr (.ref e) "right_from_end" expr) Q E s := by
  obtain h9 : Tag9 (P := wpAny (model prog w) (ktrTop dp un gd cn cs L a ccd cl outer) (getAttr (.ref e) "right_from_end" expr) Q E s) (by
    obtain ⟨m1, t1, t2, t3, t4, la, ld, ra, rd, sv, x1, x2, x3, m2⟩ := R.at hi
    k_dflt (refine' get_prop ?k1 ?k2 ?k3 ?k4 ?k5 ?k6 ?k7 ?k8 ?k9 ?_; (case k1 => k_asm); (case k2 => k_asm); (case k3 => k_inst); (case k4 => k_is); (case k5 => k_is); (case k6 => k_is); (case k7 => k_is); (case k8 => k_is); (case k9 => k_is); k_whole)
    clear x1 x2 x3 m1 m2
    k_dflt k_enter
    k_steps
    all_goals exact ret _ _ _ _ (by k_asm) (by k_asm) (by assumption)) := trivial
  unfold id at h9; exact h9.get
theorem g_end {cx : Addr} {pts : List Addr} {xy : Nat → Int × Int} {al : List (Addr × Addr)} {st : List ERec} {i k : Nat} {e d : Addr} {expr : Bool} (B : Below A₀ base outer h₀) (F : Fr h₀ L s.heap m) (X : (hd.heap_1 w.params).In h₀) (N : News h₀ L s.heap news) (T : Top p loose mean mg mb h₀) (hk : cs.kind = .function) (R : Rep w.params news cx pts xy al st) (hi : al[i]? = some (e, d)) (ho : org st (rot st (rot st i)) = some k) (hroom : dp + 6 < recursionLimit)
   (ret : ∀ h' tk' b, Fr h₀ L h' m → News h₀ L h' news → pts[k]? = some b → Q (.ref b) { s with heap := h', toks := tk' }) :
   wpAny (model prog w) (ktrTop dp un gd cn cs L a ccd cl outer) (getAttr (.ref e) "end" expr) Q E s := by
  obtain h9 : Tag9 (P := wpAny (model prog w) (ktrTop dp un gd cn cs L a ccd cl outer) (getAttr (.ref e) "end" expr) Q E s) (by
    obtain ⟨m1, t1, t2, t3, t4, la, ld, ra, rd, sv, x1, x2, x3, m2⟩ := R.at hi
    k_dflt (refine' get_prop ?k1 ?k2 ?k3 ?k4 ?k5 ?k6 ?k7 ?k8 ?k9 ?_; (case k1 => k_asm); (case k2 => k_asm); (case k3 => k_inst); (case k4 => k_is); (case k5 => k_is); (case k6 => k_is); (case k7 => k_is); (case k8 => k_is); (case k9 => k_is); k_whole)
    clear x1 x2 x3 m1 m2
    k_dflt k_enter
    k_steps
    all_goals exact ret _ _ _ (by k_asm) (by k_asm) (by assumption)) := trivial
  unfold id at h9; exact h9.get
example : True := by
  w_top off
  trivial
noncomputable def setL (st : List ERec) : Nat → Nat → List ERec := @List.rec ERec (fun _ => Nat → Nat → List ERec) (fun _ _ => []) (fun e r f i j => @Nat.rec (fun _ => List ERec) ((j, e.2) :: r) (fun i _ => e :: f i j) i) st
theorem setL_q : ∀ (st : List ERec) (i j : Nat), setL st i j = st.modify i fun e => (j, e.2)
  | [], 0, _ => rfl
  | [], _ + 1, _ => rfl
  | _ :: _, 0, _ => rfl
  | e :: r, i + 1, j => congrArg (e :: ·) (setL_q r i j)
noncomputable def splice (st : List ERec) (i j : Nat) : List ERec :=
  let st1 := setL (setL st i (lfs st j)) j (lfs st i)
  setL (setL st1 (rot st (lfs st i)) (lfs st1 (rot st (lfs st j)))) (rot st (lfs st j)) (lfs st1 (rot st (lfs st i)))
noncomputable def Step (al : List (Addr × Addr)) (news : List (Addr × Obj)) (al' : List (Addr × Addr)) (news' : List (Addr × Obj)) : Prop :=
  (∀ (i : Nat) (x : Addr × Addr), al[i]? = some x → al'[i]? = some x) ∧ ∀ p ∈ news, p.1 ∉ al.map (·.2) → p ∈ news' ∧ p.1 ∉ al'.map (·.2)
theorem Step.refl {al : List (Addr × Addr)} {news : List (Addr × Obj)} : Step al news al news := ⟨fun _ _ h => h, fun _ h n => ⟨h, n⟩⟩
theorem Step.up {al al' : List (Addr × Addr)} {n n' : List (Addr × Obj)} {i : Nat} {x : Addr × Addr} (s : Step al n al' n') (h : al[i]? = some x) : al'[i]? = some x := s.1 i x h
theorem Step.trans {al al1 al2 : List (Addr × Addr)} {n n1 n2 : List (Addr × Obj)} (x : Step al n al1 n1) (y : Step al1 n1 al2 n2) : Step al n al2 n2 :=
  ⟨fun i a h => y.1 i a (x.1 i a h), fun p hp hn => let ⟨a, b⟩ := x.2 p hp hn; y.2 p a b⟩
theorem Step.sub {al al1 : List (Addr × Addr)} {n n0 n1 : List (Addr × Obj)} (hs : ∀ p ∈ n0, p ∈ n) (x : Step al n al1 n1) : Step al n0 al1 n1 :=
  ⟨x.1, fun p hp hn => x.2 p (hs p hp) hn⟩
theorem Step.comp {al al1 al2 : List (Addr × Addr)} {n n1 n1' n2 : List (Addr × Obj)} (x : Step al n al1 n1) (y : Step al1 n1' al2 n2) (hs : ∀ p ∈ n1, p ∈ n1') : Step al n al2 n2 := x.trans (y.sub hs)
theorem Step.comp1 {al al1 al2 : List (Addr × Addr)} {n n1 n2 : List (Addr × Obj)} {q1 : Addr × Obj} (x : Step al n al1 n1) (y : Step al1 (q1 :: n1) al2 n2) : Step al n al2 n2 := x.comp y fun _ h => .tail _ h
theorem Step.comp2 {al al1 al2 : List (Addr × Addr)} {n n1 n2 : List (Addr × Obj)} {q1 q2 : Addr × Obj} (x : Step al n al1 n1) (y : Step al1 (q1 :: q2 :: n1) al2 n2) : Step al n al2 n2 := x.comp y fun _ h => .tail _ (.tail _ h)
theorem Step.comp3 {al al1 al2 : List (Addr × Addr)} {n n1 n2 : List (Addr × Obj)} {q1 q2 q3 : Addr × Obj} (x : Step al n al1 n1) (y : Step al1 (q1 :: q2 :: q3 :: n1) al2 n2) : Step al n al2 n2 := x.comp y fun _ h => .tail _ (.tail _ (.tail _ h))
theorem Step.comp4 {al al1 al2 : List (Addr × Addr)} {n n1 n2 : List (Addr × Obj)} {q1 q2 q3 q4 : Addr × Obj} (x : Step al n al1 n1) (y : Step al1 (q1 :: q2 :: q3 :: q4 :: n1) al2 n2) : Step al n al2 n2 := x.comp y fun _ h => .tail _ (.tail _ (.tail _ (.tail _ h)))
theorem setL_len (st : List ERec) (i j : Nat) : (setL st i j).length = st.length := by simp [setL_q]
theorem Rep.setL {P : Params} {h₀ h : Heap} {L : Addr} {news : List (Addr × Obj)} {cx : Addr} {pts : List Addr} {xy : Nat → Int × Int} {al : List (Addr × Addr)} {st : List ERec} {i j : Nat} {a d b bd : Addr}
    (R : Rep P news cx pts xy al st) (N : News h₀ L h news) (hi : al[i]? = some (a, d)) (hj : al[j]? = some (b, bd)) {t1 t2 t3 t4 : Tok} {la ld ra rd : Addr} {sv : Value}
    (x1 : al[lfs st i]? = some (la, ld)) (x2 : al[rot st i]? = some (ra, rd)) (x3 : SVal pts (org st i) sv)
    (m2 : (d, dictOf (edgeD P t1 t2 t3 t4 (.ref cx) (.ref la) (.ref ra) sv) 4) ∈ news) :
    Rep P ((d, dictOf (edgeD P t1 t2 t3 t4 (.ref cx) (.ref b) (.ref ra) sv) 4) :: news.filter fun p => decide (p.1 ≠ d)) cx pts xy al (setL st i j) ∧
      Step al news al ((d, dictOf (edgeD P t1 t2 t3 t4 (.ref cx) (.ref b) (.ref ra) sv) 4) :: news.filter fun p => decide (p.1 ≠ d)) := by
  have hne : ∀ {k : Nat} {a' d' : Addr}, al[k]? = some (a', d') → k ≠ i → d' ≠ d := by
    intro k a' d' hk hki e
    subst e
    exact hki (R.nd _ _ _ _ _ hk hi)
  have hdm : d ∈ al.map (·.2) := by
    have := List.mem_of_getElem? hi
    exact List.mem_map.mpr ⟨_, this, rfl⟩
  refine ⟨⟨R.len.trans (setL_len st i j).symm, R.nd, fun k a' d' hk => ?_, fun k a' d' e hk he => ?_, fun k pa hp => ?_, R.bnd, ?_⟩, fun _ _ h => h, fun p hp hn => ⟨?_, hn⟩⟩
  · refine mtl _ (List.mem_filter.mpr ⟨R.inst k a' d' hk, decide_eq_true ?_⟩)
    intro e
    have y1 := (N _ (R.inst k a' d' hk)).1
    have y2 := (N _ m2).1
    have e' : a' = d := e
    rw [e'] at y1
    rw [y1] at y2
    cases y2
  · by_cases q : k = i
    · subst q
      rw [hi] at hk
      cases hk
      rw [setL_q] at he
      rw [List.getElem?_modify] at he
      simp only [if_true] at he
      cases hs : st[k]? with
      | none => rw [hs] at he; cases he
      | some e0 =>
        rw [hs] at he
        obtain rfl : (j, e0.2) = e := Option.some.inj he
        have r1 : rot st k = e0.2.1 := by unfold rot; rw [nth_q, hs]
        have r2 : org st k = e0.2.2 := by unfold org; rw [nth_q, hs]
        exact ⟨t1, t2, t3, t4, b, bd, ra, rd, sv, hj, r1 ▸ x2, r2 ▸ x3, .head _⟩
    · rw [setL_q] at he
      rw [List.getElem?_modify] at he
      simp only [if_neg (fun h : i = k => q h.symm)] at he
      replace he : st[k]? = some e := by cases hs : st[k]? with | none => rw [hs] at he; exact he | some e0 => rw [hs] at he; exact he
      obtain ⟨t1', t2', t3', t4', la', ld', ra', rd', sv', z1, z2, z3, z4⟩ := R.dict k a' d' e hk he
      exact ⟨t1', t2', t3', t4', la', ld', ra', rd', sv', z1, z2, z3, .tail _ (List.mem_filter.mpr ⟨z4, decide_eq_true (hne hk q)⟩)⟩
  · obtain ⟨t, u, dp9, mp, mpd⟩ := R.pin k pa hp
    refine ⟨t, u, dp9, mtl _ (List.mem_filter.mpr ⟨mp, decide_eq_true fun e => ?_⟩), mtl _ (List.mem_filter.mpr ⟨mpd, decide_eq_true fun e => ?_⟩)⟩
    · have y1 := (N _ mp).1
      have y2 := (N _ m2).1
      have e' : pa = d := e
      rw [e'] at y1
      rw [y1] at y2
      cases y2
    · have y1 := (N _ mpd).1
      have y2 := (N _ m2).1
      have e' : dp9 = d := e
      rw [e'] at y1
      rw [y1] at y2
      cases y2
  · obtain ⟨dcx, c1, c2⟩ := R.ctx
    refine ⟨dcx, mtl _ (List.mem_filter.mpr ⟨c1, decide_eq_true fun e => ?_⟩), mtl _ (List.mem_filter.mpr ⟨c2, decide_eq_true fun e => ?_⟩)⟩
    · have y1 := (N _ c1).1
      have y2 := (N _ m2).1
      have e' : cx = d := e
      rw [e'] at y1
      rw [y1] at y2
      cases y2
    · have y1 := (N _ c2).1
      have y2 := (N _ m2).1
      have e' : dcx = d := e
      rw [e'] at y1
      rw [y1] at y2
      cases y2
  · exact mtl _ (List.mem_filter.mpr ⟨hp, decide_eq_true fun e => hn (by rw [e]; exact hdm)⟩)
theorem g_setL {A : Around} {cx : Addr} {pts : List Addr} {xy : Nat → Int × Int} {al : List (Addr × Addr)} {st : List ERec} {Q : Unit → Shared → Prop} {i j : Nat} {e d b bd : Addr} (F : Fr h₀ L s.heap m) (X : (hd.heap_1 w.params).In h₀) (N : News h₀ L s.heap news) (R : Rep w.params news cx pts xy al st) (hi : al[i]? = some (e, d)) (hj : al[j]? = some (b, bd))
   (ret : ∀ h' tk' news', Fr h₀ L h' m → News h₀ L h' news' → Rep w.params news' cx pts xy al (setL st i j) → Step al news al news' → Q () { s with heap := h', toks := tk' }) :
   wpAny (model prog w) A (setAttr (.ref e) "_left_from_start" (.ref b)) Q E s := by
  obtain ⟨m1, t1, t2, t3, t4, la, ld, ra, rd, sv, x1, x2, x3, m2⟩ := R.at hi
  obtain ⟨R', S'⟩ := R.setL N hi hj x1 x2 x3 m2
  have N2 : News h₀ L s.heap ((d, dictOf (edgeD w.params t1 t2 t3 t4 (.ref cx) (.ref la) (.ref ra) sv) 4) :: news.filter fun p => decide (p.1 ≠ d)) := fun p hp => by
    rcases List.mem_cons.mp hp with rfl | hp
    · exact N _ m2
    · exact N _ (List.mem_filter.mp hp).1
  have I : InstAt s.heap e (instObj 414 d) 414 (some (dictOf (edgeD w.params t1 t2 t3 t4 (.ref cx) (.ref la) (.ref ra) sv) 4)) := InstAt.of_news N m1 m2
  k_dflt (refine' set_dict ?k1 ?k2 ?k3 I ?k5 ?k6 ?k7 ?k8 ?k9 ?k10 ?k11 ?k12 ?k13 ?_; (case k1 => exact F); (case k2 => exact X); (case k3 => exact N2); (case k5 => exact rfl); (case k6 => k_is); (case k7 => k_is); (case k8 => k_is); (case k9 => k_is); (case k10 => k_get); (case k11 => k_put); (case k12 => exact Upd.head fun p hp => of_decide_eq_true (List.mem_filter.mp hp).2); (case k13 => exact Nat.le_of_ble_eq_true rfl); k_whole)
  intro h' F' N'
  exact ret h' _ _ F' N' R' S'
example : True := by
  w_top off
  k_with "getAttr ref" => w_strict (k_here; (with_reducible show wpAny _ _ (getAttr (Value.ref _) (Str.ofString "rotated") _) _ _ _); k_dflt (refine g_rotated (by k_asm) (by k_asm) (by k_asm) (by k_asm) (by k_asm) (by first | exact rfl | assumption) (by (first | assumption | exact Rep.mono ‹_› (by intro p9 hp9; first | exact mtl _ hp9 | exact mtl _ (mtl _ hp9) | exact mtl _ (mtl _ (mtl _ hp9))))) (by (first | assumption | exact Step.up ‹_› ‹_›))  (by ktr_room) ?_; k_whole); intro _ _ _ _ _ _ _; (try k_sweep))
  k_with "getAttr ref" => w_strict (k_here; (with_reducible show wpAny _ _ (getAttr (Value.ref _) (Str.ofString "left_from_start") _) _ _ _); k_dflt (refine g_left_from_start (by k_asm) (by k_asm) (by k_asm) (by k_asm) (by k_asm) (by first | exact rfl | assumption) (by (first | assumption | exact Rep.mono ‹_› (by intro p9 hp9; first | exact mtl _ hp9 | exact mtl _ (mtl _ hp9) | exact mtl _ (mtl _ (mtl _ hp9))))) (by (first | assumption | exact Step.up ‹_› ‹_›))  (by ktr_room) ?_; k_whole); intro _ _ _ _ _ _ _; (try k_sweep))
  k_with "getAttr ref" => w_strict (k_here; (with_reducible show wpAny _ _ (getAttr (Value.ref _) (Str.ofString "context") _) _ _ _); k_dflt (refine g_context (by k_asm) (by k_asm) (by k_asm) (by k_asm) (by k_asm) (by first | exact rfl | assumption) (by (first | assumption | exact Rep.mono ‹_› (by intro p9 hp9; first | exact mtl _ hp9 | exact mtl _ (mtl _ hp9) | exact mtl _ (mtl _ (mtl _ hp9))))) (by (first | assumption | exact Step.up ‹_› ‹_›))  (by ktr_room) ?_; k_whole); intro _ _ _ _; (try k_sweep))
  k_with "getAttr ref" => w_strict (k_here; (with_reducible show wpAny _ _ (getAttr (Value.ref _) (Str.ofString "start") _) _ _ _); k_dflt (refine g_start (by k_asm) (by k_asm) (by k_asm) (by k_asm) (by k_asm) (by first | exact rfl | assumption) (by (first | assumption | exact Rep.mono ‹_› (by intro p9 hp9; first | exact mtl _ hp9 | exact mtl _ (mtl _ hp9) | exact mtl _ (mtl _ (mtl _ hp9))))) (by (first | assumption | exact Step.up ‹_› ‹_›)) ‹_› (by ktr_room) ?_; k_whole); intro _ _ _ _ _ _; (try k_sweep))
  k_with "getAttr ref" => w_strict (k_here; (with_reducible show wpAny _ _ (getAttr (Value.ref _) (Str.ofString "opposite") _) _ _ _); k_dflt (refine g_opposite (by k_asm) (by k_asm) (by k_asm) (by k_asm) (by k_asm) (by first | exact rfl | assumption) (by (first | assumption | exact Rep.mono ‹_› (by intro p9 hp9; first | exact mtl _ hp9 | exact mtl _ (mtl _ hp9) | exact mtl _ (mtl _ (mtl _ hp9))))) (by (first | assumption | exact Step.up ‹_› ‹_›))  (by ktr_room) ?_; k_whole); intro _ _ _ _ _ _ _; (try k_sweep))
  k_with "getAttr ref" => w_strict (k_here; (with_reducible show wpAny _ _ (getAttr (Value.ref _) (Str.ofString "left_from_end") _) _ _ _); k_dflt (refine g_left_from_end (by k_asm) (by k_asm) (by k_asm) (by k_asm) (by k_asm) (by first | exact rfl | assumption) (by (first | assumption | exact Rep.mono ‹_› (by intro p9 hp9; first | exact mtl _ hp9 | exact mtl _ (mtl _ hp9) | exact mtl _ (mtl _ (mtl _ hp9))))) (by (first | assumption | exact Step.up ‹_› ‹_›))  (by ktr_room) ?_; k_whole); intro _ _ _ _ _ _ _; (try k_sweep))
  k_with "getAttr ref" => w_strict (k_here; (with_reducible show wpAny _ _ (getAttr (Value.ref _) (Str.ofString "right_from_start") _) _ _ _); k_dflt (refine g_right_from_start (by k_asm) (by k_asm) (by k_asm) (by k_asm) (by k_asm) (by first | exact rfl | assumption) (by (first | assumption | exact Rep.mono ‹_› (by intro p9 hp9; first | exact mtl _ hp9 | exact mtl _ (mtl _ hp9) | exact mtl _ (mtl _ (mtl _ hp9))))) (by (first | assumption | exact Step.up ‹_› ‹_›))  (by ktr_room) ?_; k_whole); intro _ _ _ _ _ _ _; (try k_sweep))
  k_with "getAttr ref" => w_strict (k_here; (with_reducible show wpAny _ _ (getAttr (Value.ref _) (Str.ofString "right_from_end") _) _ _ _); k_dflt (refine g_right_from_end (by k_asm) (by k_asm) (by k_asm) (by k_asm) (by k_asm) (by first | exact rfl | assumption) (by (first | assumption | exact Rep.mono ‹_› (by intro p9 hp9; first | exact mtl _ hp9 | exact mtl _ (mtl _ hp9) | exact mtl _ (mtl _ (mtl _ hp9))))) (by (first | assumption | exact Step.up ‹_› ‹_›))  (by ktr_room) ?_; k_whole); intro _ _ _ _ _ _ _; (try k_sweep))
  k_with "getAttr ref" => w_strict (k_here; (with_reducible show wpAny _ _ (getAttr (Value.ref _) (Str.ofString "end") _) _ _ _); k_dflt (refine g_end (by k_asm) (by k_asm) (by k_asm) (by k_asm) (by k_asm) (by first | exact rfl | assumption) (by (first | assumption | exact Rep.mono ‹_› (by intro p9 hp9; first | exact mtl _ hp9 | exact mtl _ (mtl _ hp9) | exact mtl _ (mtl _ (mtl _ hp9))))) (by (first | assumption | exact Step.up ‹_› ‹_›)) ‹_› (by ktr_room) ?_; k_whole); intro _ _ _ _ _ _; (try k_sweep))
  k_with "setAttr ref" => w_strict (k_here; (with_reducible show wpAny _ _ (setAttr (Value.ref _) (Str.ofString "_left_from_start") _) _ _ _); k_dflt (refine g_setL (by k_asm) (by k_asm) (by k_asm) (by (first | assumption | exact Rep.mono ‹_› (by intro p9 hp9; first | exact mtl _ hp9 | exact mtl _ (mtl _ hp9) | exact mtl _ (mtl _ (mtl _ hp9))))) (by (first | assumption | exact Step.up ‹_› ‹_›)) (by (first | assumption | exact Step.up ‹_› ‹_›)) ?_; k_whole); (rename Rep _ _ _ _ _ _ _ => rOld9; rename Step _ _ _ _ => sOld9); intro _ _ _ _ _ _ S'; (first | replace S' := Step.trans sOld9 S' | replace S' := Step.comp1 sOld9 S' | replace S' := Step.comp2 sOld9 S' | replace S' := Step.comp3 sOld9 S' | replace S' := Step.comp4 sOld9 S'); clear rOld9 sOld9; (try k_sweep); (try (revert S'; intro _)))
  trivial
theorem g_splice {cx : Addr} {pts : List Addr} {xy : Nat → Int × Int} {al : List (Addr × Addr)} {st : List ERec} {i j : Nat} {e d b bd : Addr} (B : Below A₀ base outer h₀) (F : Fr h₀ L s.heap m) (X : (hd.heap_1 w.params).In h₀) (N : News h₀ L s.heap news) (T : Top p loose mean mg mb h₀) (hk : cs.kind = .function) (R : Rep w.params news cx pts xy al st) (hi : al[i]? = some (e, d)) (hj : al[j]? = some (b, bd)) (hroom : dp + 4 < recursionLimit)
   (ret : ∀ h' tk' news', Fr h₀ L h' m → News h₀ L h' news' → Rep w.params news' cx pts xy al (splice st i j) → Step al news al news' → Q .none { s with heap := h', toks := tk' }) :
   wpAny (model prog w) (ktrTop dp un gd cn cs L a ccd cl outer) (call (.ref 404) [.ref e, .ref b]) Q E s := by
  obtain h9 : Tag9 (P := wpAny (model prog w) (ktrTop dp un gd cn cs L a ccd cl outer) (call (.ref 404) [.ref e, .ref b]) Q E s) (by
    refine wpAny_call ?_
    have S0 : Step al news al news := Step.refl
    k_dflt k_enter
    k_steps
    all_goals exact ret _ _ _ (by k_asm) (by k_asm) (by assumption) (by assumption)) := trivial
  unfold id at h9; exact h9.get
example : True := by
  w_top off
  trivial
noncomputable def mkE (st : List ERec) (i j : Nat) : List ERec :=
  st ++ [(st.length, st.length + 2, some i), (st.length + 1, st.length + 3, some j), (st.length + 3, st.length + 1, none), (st.length + 2, st.length, none)]
theorem Rep.lt {P : Params} {news : List (Addr × Obj)} {cx : Addr} {pts : List Addr} {xy : Nat → Int × Int} {al : List (Addr × Addr)} {st : List ERec} (R : Rep P news cx pts xy al st) {x : Addr × Addr} (hx : x ∈ al) : ∃ o, (x.2, o) ∈ news := by
  obtain ⟨i, hi⟩ := List.mem_iff_getElem?.mp hx
  obtain ⟨_, t1, t2, t3, t4, la, ld, ra, rd, sv, _, _, _, m2⟩ := R.at (i := i) (a := x.1) (d := x.2) hi
  exact ⟨_, m2⟩
theorem app_get {al l : List (Addr × Addr)} {i : Nat} {x : Addr × Addr} (h : al[i]? = some x) : (al ++ l)[i]? = some x := by
  rw [List.getElem?_append_left (List.getElem?_eq_some_iff.mp h).1]; exact h
theorem Rep.mk4 {P : Params} {news news' : List (Addr × Obj)} {cx : Addr} {pts : List Addr} {xy : Nat → Int × Int} {al : List (Addr × Addr)} {st : List ERec} {i j : Nat} {pa pb : Addr}
    (R : Rep P news cx pts xy al st) (hi : pts[i]? = some pa) (hj : pts[j]? = some pb) (hs : ∀ p ∈ news, p ∈ news')
    {x1 d1 x2 d2 x3 d3 x4 d4 : Addr} {a1 a2 a3 a4 b1 b2 b3 b4 c1 c2 c3 c4 e1 e2 e3 e4 : Tok}
    (o1 : AllLt d1 news) (o2 : AllLt d2 news) (o3 : AllLt d3 news) (o4 : AllLt d4 news) (l1 : @LT.lt Nat _ d1 d2) (l2 : @LT.lt Nat _ d2 d3) (l3 : @LT.lt Nat _ d3 d4)
    (i1 : (x1, instObj 414 d1) ∈ news') (i2 : (x2, instObj 414 d2) ∈ news') (i3 : (x3, instObj 414 d3) ∈ news') (i4 : (x4, instObj 414 d4) ∈ news')
    (m1 : (d1, dictOf (edgeD P a1 a2 a3 a4 (.ref cx) (.ref x1) (.ref x3) (.ref pa)) 4) ∈ news')
    (m2 : (d2, dictOf (edgeD P b1 b2 b3 b4 (.ref cx) (.ref x2) (.ref x4) (.ref pb)) 4) ∈ news')
    (m3 : (d3, dictOf (edgeD P c1 c2 c3 c4 (.ref cx) (.ref x4) (.ref x2) .none) 4) ∈ news')
    (m4 : (d4, dictOf (edgeD P e1 e2 e3 e4 (.ref cx) (.ref x3) (.ref x1) .none) 4) ∈ news') :
    Rep P news' cx pts xy (al ++ [(x1, d1), (x2, d2), (x3, d3), (x4, d4)]) (mkE st i j) ∧ Step al news (al ++ [(x1, d1), (x2, d2), (x3, d3), (x4, d4)]) news' ∧
      (al ++ [(x1, d1), (x2, d2), (x3, d3), (x4, d4)])[st.length]? = some (x1, d1) := by
  have off : ∀ {d : Addr}, AllLt d news → ∀ {k : Nat} {a d' : Addr}, al[k]? = some (a, d') → d' ≠ d := by
    intro d o k a d' h e
    obtain ⟨ob, hob⟩ := R.lt (List.mem_of_getElem? h)
    exact Nat.ne_of_lt (tb_ltOf o _ hob) e
  have hP : [(x1, d1), (x2, d2), (x3, d3), (x4, d4)].Pairwise fun a b => @LT.lt Nat _ a.2 b.2 :=
    .cons (List.forall_mem_cons.mpr ⟨l1, List.forall_mem_cons.mpr ⟨Nat.lt_trans l1 l2, List.forall_mem_cons.mpr ⟨Nat.lt_trans l1 (Nat.lt_trans l2 l3), fun _ h => absurd h List.not_mem_nil⟩⟩⟩)
      (.cons (List.forall_mem_cons.mpr ⟨l2, List.forall_mem_cons.mpr ⟨Nat.lt_trans l2 l3, fun _ h => absurd h List.not_mem_nil⟩⟩)
        (.cons (List.forall_mem_cons.mpr ⟨l3, fun _ h => absurd h List.not_mem_nil⟩) (.cons (fun _ h => absurd h List.not_mem_nil) .nil)))
  have g : ∀ (k : Nat), (al ++ [(x1, d1), (x2, d2), (x3, d3), (x4, d4)])[st.length + k]? = [(x1, d1), (x2, d2), (x3, d3), (x4, d4)][k]? := by
    intro k
    rw [← R.len, List.getElem?_append_right (Nat.le_add_right _ _), Nat.add_sub_cancel_left]
  have gs : ∀ (k : Nat), (mkE st i j)[st.length + k]? = [(st.length, st.length + 2, some i), (st.length + 1, st.length + 3, some j), (st.length + 3, st.length + 1, none), (st.length + 2, st.length, none)][k]? := by
    intro k
    unfold mkE
    rw [List.getElem?_append_right (Nat.le_add_right _ _), Nat.add_sub_cancel_left]
  have hst : ∀ k, k < st.length → (mkE st i j)[k]? = st[k]? := fun k h => by unfold mkE; exact List.getElem?_append_left h
  have hle : (al ++ [(x1, d1), (x2, d2), (x3, d3), (x4, d4)]).length = (mkE st i j).length := by
    unfold mkE
    rw [List.length_append, List.length_append, R.len]; rfl
  have hup : ∀ (k : Nat) (x : Addr × Addr), al[k]? = some x → (al ++ [(x1, d1), (x2, d2), (x3, d3), (x4, d4)])[k]? = some x := fun k x h => app_get h
  have hlo : ∀ (k : Nat) (x : Addr × Addr), k < st.length → (al ++ [(x1, d1), (x2, d2), (x3, d3), (x4, d4)])[k]? = some x → al[k]? = some x := fun k x q h => by
    rw [List.getElem?_append_left (by rw [R.len]; exact q)] at h; exact h
  have hnm : ∀ p ∈ news, p.1 ∉ al.map (·.2) → p.1 ∉ (al ++ [(x1, d1), (x2, d2), (x3, d3), (x4, d4)]).map (·.2) := fun p hp hn => by
    simp only [List.map_append, List.map_cons, List.map_nil, List.mem_append, List.mem_cons, List.not_mem_nil, or_false, not_or]
    exact ⟨hn, Nat.ne_of_lt (tb_ltOf o1 p hp), Nat.ne_of_lt (tb_ltOf o2 p hp), Nat.ne_of_lt (tb_ltOf o3 p hp), Nat.ne_of_lt (tb_ltOf o4 p hp)⟩
  generalize al ++ [(x1, d1), (x2, d2), (x3, d3), (x4, d4)] = al' at *
  generalize mkE st i j = st' at *
  have e0 : al'[st.length]? = some (x1, d1) := g 0
  have hnew : ∀ (n : Nat) (x : Addr × Addr), [(x1, d1), (x2, d2), (x3, d3), (x4, d4)][n]? = some x → (x.1, instObj 414 x.2) ∈ news' ∧ AllLt x.2 news ∧ ∀ e, st'[st.length + n]? = some e → EdgeDict P news' cx pts al' x.2 e := by
    intro n x h
    match n, h with
    | 0, h => cases h; exact ⟨i1, o1, fun e he => by rw [gs 0] at he; cases he; exact ⟨_, _, _, _, _, _, _, _, _, g 0, g 2, ⟨_, hi, rfl⟩, m1⟩⟩
    | 1, h => cases h; exact ⟨i2, o2, fun e he => by rw [gs 1] at he; cases he; exact ⟨_, _, _, _, _, _, _, _, _, g 1, g 3, ⟨_, hj, rfl⟩, m2⟩⟩
    | 2, h => cases h; exact ⟨i3, o3, fun e he => by rw [gs 2] at he; cases he; exact ⟨_, _, _, _, _, _, _, _, _, g 3, g 1, rfl, m3⟩⟩
    | 3, h => cases h; exact ⟨i4, o4, fun e he => by rw [gs 3] at he; cases he; exact ⟨_, _, _, _, _, _, _, _, _, g 2, g 0, rfl, m4⟩⟩
    | n + 4, h => simp at h
  clear gs hi hj i1 i2 i3 i4 m1 m2 m3 m4 o1 o2 o3 o4 l1 l2 l3
  generalize [(x1, d1), (x2, d2), (x3, d3), (x4, d4)] = N4 at *
  have split : ∀ {k : Nat} {x : Addr × Addr}, al'[k]? = some x → (k < st.length ∧ al[k]? = some x) ∨ ∃ n, k = st.length + n ∧ N4[n]? = some x := by
    intro k x h
    by_cases q : k < st.length
    · exact .inl ⟨q, hlo k x q h⟩
    · obtain ⟨n, rfl⟩ := Nat.exists_eq_add_of_le (Nat.le_of_not_lt q)
      exact .inr ⟨n, rfl, (g n).symm.trans h⟩
  have inj4 : ∀ (n n' : Nat) (a a' d : Addr), N4[n]? = some (a, d) → N4[n']? = some (a', d) → n = n' := by
    intro n n' a a' d h h'
    obtain ⟨q, e⟩ := List.getElem?_eq_some_iff.mp h
    obtain ⟨q', e'⟩ := List.getElem?_eq_some_iff.mp h'
    rcases Nat.lt_trichotomy n n' with z | z | z
    · have y := List.pairwise_iff_getElem.mp hP n n' q q' z
      rw [e, e'] at y; exact absurd y (Nat.lt_irrefl _)
    · exact z
    · have y := List.pairwise_iff_getElem.mp hP n' n q' q z
      rw [e, e'] at y; exact absurd y (Nat.lt_irrefl _)
  refine ⟨⟨hle, ?_, ?_, ?_, fun k a h => let ⟨t, u, m⟩ := R.pin k a h; ⟨t, u, m.mono hs⟩, R.bnd, let ⟨dcx, m1, m2⟩ := R.ctx; ⟨dcx, hs _ m1, hs _ m2⟩⟩, ⟨hup, fun p hp hn => ⟨hs p hp, hnm p hp hn⟩⟩, ?_⟩
  · intro k k' a a' d hq hq'
    rcases split hq with ⟨_, h⟩ | ⟨n, rfl, h⟩ <;> rcases split hq' with ⟨_, h'⟩ | ⟨n', rfl, h'⟩
    · exact R.nd _ _ _ _ _ h h'
    · exact absurd rfl (off (hnew _ _ h').2.1 h)
    · exact absurd rfl (off (hnew _ _ h).2.1 h')
    · rw [inj4 _ _ _ _ _ h h']
  · intro k a d hq
    rcases split hq with ⟨_, h⟩ | ⟨n, rfl, h⟩
    · exact hs _ (R.inst _ _ _ h)
    · exact (hnew _ _ h).1
  · intro k a d e hq he
    rcases split hq with ⟨hk, h⟩ | ⟨n, rfl, h⟩
    · rw [hst k hk] at he
      obtain ⟨t1, t2, t3, t4, la, ld, ra, rd, sv, z1, z2, z3, z4⟩ := R.dict k a d e h he
      exact ⟨t1, t2, t3, t4, la, ld, ra, rd, sv, hup _ _ z1, hup _ _ z2, z3, hs _ z4⟩
    · exact (hnew _ _ h).2.2 e he
  · exact e0
theorem Rep.mk4c {C : Prop} {P : Params} {news news' : List (Addr × Obj)} {cx : Addr} {pts : List Addr} {xy : Nat → Int × Int} {al : List (Addr × Addr)} {st : List ERec} {i j : Nat} {pa pb : Addr}
    {x1 d1 x2 d2 x3 d3 x4 d4 : Addr} {a1 a2 a3 a4 b1 b2 b3 b4 c1 c2 c3 c4 e1 e2 e3 e4 : Tok}
    (R : Rep P news cx pts xy al st) (hi : pts[i]? = some pa) (hj : pts[j]? = some pb)
    (i1 : (x1, instObj 414 d1) ∈ news') (m1 : (d1, dictOf (edgeD P a1 a2 a3 a4 (.ref cx) (.ref x1) (.ref x3) (.ref pa)) 4) ∈ news')
    (i3 : (x3, instObj 414 d3) ∈ news') (m3 : (d3, dictOf (edgeD P c1 c2 c3 c4 (.ref cx) (.ref x4) (.ref x2) .none) 4) ∈ news')
    (i2 : (x2, instObj 414 d2) ∈ news') (m2 : (d2, dictOf (edgeD P b1 b2 b3 b4 (.ref cx) (.ref x2) (.ref x4) (.ref pb)) 4) ∈ news')
    (i4 : (x4, instObj 414 d4) ∈ news') (m4 : (d4, dictOf (edgeD P e1 e2 e3 e4 (.ref cx) (.ref x3) (.ref x1) .none) 4) ∈ news')
    (o1 : AllLt d1 news) (o2 : AllLt d2 news) (o3 : AllLt d3 news) (o4 : AllLt d4 news) (l1 : @LT.lt Nat _ d1 d2) (l2 : @LT.lt Nat _ d2 d3) (l3 : @LT.lt Nat _ d3 d4)
    (hs : ∀ p ∈ news, p ∈ news')
    (k : Rep P news' cx pts xy (al ++ [(x1, d1), (x2, d2), (x3, d3), (x4, d4)]) (mkE st i j) → Step al news (al ++ [(x1, d1), (x2, d2), (x3, d3), (x4, d4)]) news' →
      (al ++ [(x1, d1), (x2, d2), (x3, d3), (x4, d4)])[st.length]? = some (x1, d1) → C) : C :=
  let ⟨r1, r2, r3⟩ := Rep.mk4 R hi hj hs o1 o2 o3 o4 l1 l2 l3 i1 i2 i3 i4 m1 m2 m3 m4
  k r1 r2 r3
theorem g_new_s {cx pa : Addr} (B : Below A₀ base outer h₀) (F : Fr h₀ L s.heap m) (X : (hd.heap_1 w.params).In h₀) (N : News h₀ L s.heap news) (T : Top p loose mean mg mb h₀) (hk : cs.kind = .function) (hroom : dp + 4 < recursionLimit)
   (ret : ∀ h' tk' x d t1 t2 t3 t4, Fr h₀ L h' m → News h₀ L h' ((x, instObj 414 d) :: (d, dictOf (edgeD w.params t1 t2 t3 t4 (.ref cx) .none .none (.ref pa)) 4) :: news) → (∀ p ∈ news, p.1 < d) → @LT.lt Nat _ d x → Q (.ref x) { s with heap := h', toks := tk' }) :
   wpAny (model prog w) (ktrTop dp un gd cn cs L a ccd cl outer) (call (.ref 414) [.ref pa] [(Str.ofString "context", .ref cx)]) Q E s := by
  obtain h9 : Tag9 (P := wpAny (model prog w) (ktrTop dp un gd cn cs L a ccd cl outer) (call (.ref 414) [.ref pa] [(Str.ofString "context", .ref cx)]) Q E s) (by
    k_dflt (refine' call_cls ?k1 ?k2 ?k3 ?k4 ?k5 ?k6 ?_; (case k1 => k_asm); (case k2 => k_asm); (case k3 => k_asm); (case k4 => k_is); (case k5 => k_is); (case k6 => k_is); k_whole)
    intro x' d' h' F' N' l1 l2
    have l3 := l1
    (try k_lt l1)
    k_lt2 l2
    k_dflt k_enter
    k_steps
    all_goals exact ret _ _ _ _ _ _ _ _ (by k_asm) (News.perm (by assumption) fun p9 hp9 => mtl _ hp9) l3 l2) := trivial
  unfold id at h9; exact h9.get
theorem g_new_n {cx : Addr} (B : Below A₀ base outer h₀) (F : Fr h₀ L s.heap m) (X : (hd.heap_1 w.params).In h₀) (N : News h₀ L s.heap news) (T : Top p loose mean mg mb h₀) (hk : cs.kind = .function) (hroom : dp + 4 < recursionLimit)
   (ret : ∀ h' tk' x d t1 t2 t3 t4, Fr h₀ L h' m → News h₀ L h' ((x, instObj 414 d) :: (d, dictOf (edgeD w.params t1 t2 t3 t4 (.ref cx) .none .none (.none)) 4) :: news) → (∀ p ∈ news, p.1 < d) → @LT.lt Nat _ d x → Q (.ref x) { s with heap := h', toks := tk' }) :
   wpAny (model prog w) (ktrTop dp un gd cn cs L a ccd cl outer) (call (.ref 414) [] [(Str.ofString "context", .ref cx)]) Q E s := by
  obtain h9 : Tag9 (P := wpAny (model prog w) (ktrTop dp un gd cn cs L a ccd cl outer) (call (.ref 414) [] [(Str.ofString "context", .ref cx)]) Q E s) (by
    k_dflt (refine' call_cls ?k1 ?k2 ?k3 ?k4 ?k5 ?k6 ?_; (case k1 => k_asm); (case k2 => k_asm); (case k3 => k_asm); (case k4 => k_is); (case k5 => k_is); (case k6 => k_is); k_whole)
    intro x' d' h' F' N' l1 l2
    have l3 := l1
    (try k_lt l1)
    k_lt2 l2
    k_dflt k_enter
    k_steps
    all_goals exact ret _ _ _ _ _ _ _ _ (by k_asm) (News.perm (by assumption) fun p9 hp9 => mtl _ hp9) l3 l2) := trivial
  unfold id at h9; exact h9.get
example : True := by
  k_with "call ref" => w_strict (k_here; (with_reducible show wpAny _ _ (call (Value.ref 414) [Value.ref _] _) _ _ _); k_dflt (refine g_new_s (by k_asm) (by k_asm) (by k_asm) (by k_asm) (by k_asm) (by first | exact rfl | assumption) (by ktr_room) ?_; k_whole); intro _ _ _ _ _ _ _ _ _ _ l1 l2; (try k_lt l1); k_lt2 l2; (try k_sweep); (try (revert l1; intro _)); (try (revert l2; intro _)))
  k_with "call ref" => w_strict (k_here; (show wpAny _ _ (call (Value.ref 414) [] _) _ _ _); k_dflt (refine g_new_n (by k_asm) (by k_asm) (by k_asm) (by k_asm) (by k_asm) (by first | exact rfl | assumption) (by ktr_room) ?_; k_whole); intro _ _ _ _ _ _ _ _ _ _ l1 l2; (try k_lt l1); k_lt2 l2; (try k_sweep); (try (revert l1; intro _)); (try (revert l2; intro _)))
  trivial
theorem c_from_endpoints {Rr : Result → Shared → Prop} {cx : Addr} {pts : List Addr} {xy : Nat → Int × Int} {al : List (Addr × Addr)} {st : List ERec} {i j : Nat} {pa pb : Addr} (B : Below A₀ base outer h₀) (F : Fr h₀ L s.heap m) (X : (hd.heap_1 w.params).In h₀) (N : News h₀ L s.heap news) (T : Top p loose mean mg mb h₀) (hk : cs.kind = .function) (R : Rep w.params news cx pts xy al st) (hi : pts[i]? = some pa) (hj : pts[j]? = some pb) (hroom : dp + 6 < recursionLimit)
   (ret : ∀ h' tk' news' al' a d, Fr h₀ L h' m → News h₀ L h' news' → Rep w.params news' cx pts xy al' (mkE st i j) → Step al news al' news' → al'[st.length]? = some (a, d) → Rr (.ok (.ret (.ref a))) { s with heap := h', toks := tk' }) :
   codeAny (model prog w) (ktrTop dp un gd cn cs L a ccd cl outer) (.call (.ref 293) ⟨[.ref 414, .ref pa, .ref pb], [(Str.ofString "context", .ref cx)]⟩) Rr s := by
  obtain h9 : Tag9 (P := codeAny (model prog w) (ktrTop dp un gd cn cs L a ccd cl outer) (.call (.ref 293) ⟨[.ref 414, .ref pa, .ref pb], [(Str.ofString "context", .ref cx)]⟩) Rr s) (by
    have S0 : Step al news al news := Step.refl
    k_dflt k_enter
    k_steps
    all_goals (
      k_dflt (refine' Rep.mk4c R hi hj ?i1 ?m1 ?i3 ?m3 ?i2 ?m2 ?i4 ?m4 ?o1 ?o2 ?o3 ?o4 ?l1 ?l2 ?l3 ?hs (fun r1 r2 r3 => ret _ _ _ _ _ _ ?f ?n r1 r2 r3); (case f => k_asm); (case n => k_asm); (case i1 => k_mem); (case m1 => k_mem); (case i3 => k_mem); (case m3 => k_mem); (case i2 => k_mem); (case m2 => k_mem); (case i4 => k_mem); (case m4 => k_mem); (case hs => intro p9 hp9; (repeat refine mtl _ ?_); exact hp9); (case o1 => (first | tbn_find | exact allLt_of (by assumption))); (case o2 => (first | tbn_find | exact allLt_of (by assumption))); (case o3 => (first | tbn_find | exact allLt_of (by assumption))); (case o4 => (first | tbn_find | exact allLt_of (by assumption))); (case l1 => omega); (case l2 => omega); (case l3 => omega)))) := trivial
  unfold id at h9; exact h9.get
theorem g_from_endpoints {cx : Addr} {pts : List Addr} {xy : Nat → Int × Int} {al : List (Addr × Addr)} {st : List ERec} {i j : Nat} {pa pb : Addr} (B : Below A₀ base outer h₀) (F : Fr h₀ L s.heap m) (X : (hd.heap_1 w.params).In h₀) (N : News h₀ L s.heap news) (T : Top p loose mean mg mb h₀) (hk : cs.kind = .function) (R : Rep w.params news cx pts xy al st) (hi : pts[i]? = some pa) (hj : pts[j]? = some pb) (hroom : dp + 6 < recursionLimit)
   (ret : ∀ h' tk' news' al' a d, Fr h₀ L h' m → News h₀ L h' news' → Rep w.params news' cx pts xy al' (mkE st i j) → Step al news al' news' → al'[st.length]? = some (a, d) → Q (.ref a) { s with heap := h', toks := tk' }) :
   wpAny (model prog w) (ktrTop dp un gd cn cs L a ccd cl outer) (call (.ref 293) [.ref 414, .ref pa, .ref pb] [(Str.ofString "context", .ref cx)]) Q E s := by
  exact wpAny_call (c_from_endpoints B F X N T hk R hi hj hroom ret)
example : True := by
  w_top off
  k_with "call ref" => w_strict (k_here; (with_reducible show wpAny _ _ (call (Value.ref 404) [Value.ref _, Value.ref _] _) _ _ _); k_dflt (refine g_splice (by k_asm) (by k_asm) (by k_asm) (by k_asm) (by k_asm) (by first | exact rfl | assumption) (by (first | assumption | exact Rep.mono ‹_› (by intro p9 hp9; first | exact mtl _ hp9 | exact mtl _ (mtl _ hp9) | exact mtl _ (mtl _ (mtl _ hp9))))) (by (first | assumption | exact Step.up ‹_› ‹_›)) (by (first | assumption | exact Step.up ‹_› ‹_›)) (by ktr_room) ?_; k_whole); (rename Rep _ _ _ _ _ _ _ => rOld9; rename Step _ _ _ _ => sOld9); intro _ _ _ _ _ _ S'; (first | replace S' := Step.trans sOld9 S' | replace S' := Step.comp1 sOld9 S' | replace S' := Step.comp2 sOld9 S' | replace S' := Step.comp3 sOld9 S' | replace S' := Step.comp4 sOld9 S'); clear rOld9 sOld9; (try k_sweep); (try (revert S'; intro _)))
  trivial
noncomputable def opp (st : List ERec) (i : Nat) : Nat := rot st (rot st i)
noncomputable def rfs (st : List ERec) (i : Nat) : Nat := rot st (lfs st (rot st i))
noncomputable def lfe (st : List ERec) (i : Nat) : Nat := rot st (lfs st (rot st (rot st (rot st i))))
noncomputable def rfe (st : List ERec) (i : Nat) : Nat := lfs st (rot st (rot st i))
noncomputable def deleteE (st : List ERec) (i : Nat) : List ERec :=
  let st1 := splice st i (rfs st i)
  splice st1 (opp st1 i) (rfs st1 (opp st1 i))
theorem g_meth_splice {A : Around} {Q : Value × List Value → Shared → Prop} {pl : Sem Bool} {cx : Addr} {pts : List Addr} {xy : Nat → Int × Int} {al : List (Addr × Addr)} {st : List ERec} {i : Nat} {e d : Addr} (F : Fr h₀ L s.heap m) (X : (hd.heap_1 w.params).In h₀) (N : News h₀ L s.heap news) (R : Rep w.params news cx pts xy al st) (hi : al[i]? = some (e, d))
   (h : Q (.ref 404, [.ref e]) s) : wpAny (model prog w) A (getMethod (.ref e) "splice" pl) Q E s := by
  obtain ⟨m1, t1, t2, t3, t4, la, ld, ra, rd, sv, x1, x2, x3, m2⟩ := R.at hi
  k_dflt (refine' method_inst F X (InstAt.of_news N m1 m2) ?k4 ?k5 ?k6 ?k7 h; (case k4 => k_is); (case k5 => k_is); (case k6 => k_is); (case k7 => k_get))
theorem g_meth_connect {A : Around} {Q : Value × List Value → Shared → Prop} {pl : Sem Bool} {cx : Addr} {pts : List Addr} {xy : Nat → Int × Int} {al : List (Addr × Addr)} {st : List ERec} {i : Nat} {e d : Addr} (F : Fr h₀ L s.heap m) (X : (hd.heap_1 w.params).In h₀) (N : News h₀ L s.heap news) (R : Rep w.params news cx pts xy al st) (hi : al[i]? = some (e, d))
   (h : Q (.ref 383, [.ref e]) s) : wpAny (model prog w) A (getMethod (.ref e) "connect" pl) Q E s := by
  obtain ⟨m1, t1, t2, t3, t4, la, ld, ra, rd, sv, x1, x2, x3, m2⟩ := R.at hi
  k_dflt (refine' method_inst F X (InstAt.of_news N m1 m2) ?k4 ?k5 ?k6 ?k7 h; (case k4 => k_is); (case k5 => k_is); (case k6 => k_is); (case k7 => k_get))
theorem g_meth_delete {A : Around} {Q : Value × List Value → Shared → Prop} {pl : Sem Bool} {cx : Addr} {pts : List Addr} {xy : Nat → Int × Int} {al : List (Addr × Addr)} {st : List ERec} {i : Nat} {e d : Addr} (F : Fr h₀ L s.heap m) (X : (hd.heap_1 w.params).In h₀) (N : News h₀ L s.heap news) (R : Rep w.params news cx pts xy al st) (hi : al[i]? = some (e, d))
   (h : Q (.ref 390, [.ref e]) s) : wpAny (model prog w) A (getMethod (.ref e) "delete" pl) Q E s := by
  obtain ⟨m1, t1, t2, t3, t4, la, ld, ra, rd, sv, x1, x2, x3, m2⟩ := R.at hi
  k_dflt (refine' method_inst F X (InstAt.of_news N m1 m2) ?k4 ?k5 ?k6 ?k7 h; (case k4 => k_is); (case k5 => k_is); (case k6 => k_is); (case k7 => k_get))
theorem g_meth_orientation_of {A : Around} {Q : Value × List Value → Shared → Prop} {pl : Sem Bool} {cx : Addr} {pts : List Addr} {xy : Nat → Int × Int} {al : List (Addr × Addr)} {st : List ERec} {i : Nat} {e d : Addr} (F : Fr h₀ L s.heap m) (X : (hd.heap_1 w.params).In h₀) (N : News h₀ L s.heap news) (R : Rep w.params news cx pts xy al st) (hi : al[i]? = some (e, d))
   (h : Q (.ref 397, [.ref e]) s) : wpAny (model prog w) A (getMethod (.ref e) "orientation_of" pl) Q E s := by
  obtain ⟨m1, t1, t2, t3, t4, la, ld, ra, rd, sv, x1, x2, x3, m2⟩ := R.at hi
  k_dflt (refine' method_inst F X (InstAt.of_news N m1 m2) ?k4 ?k5 ?k6 ?k7 h; (case k4 => k_is); (case k5 => k_is); (case k6 => k_is); (case k7 => k_get))
example : True := by
  k_with "getMethod ref" => w_strict (k_here; (with_reducible show wpAny _ _ (getMethod (Value.ref _) (Str.ofString "splice") _) _ _ _); k_dflt (refine g_meth_splice (by k_asm) (by k_asm) (by k_asm) (by (first | assumption | exact Rep.mono ‹_› (by intro p9 hp9; first | exact mtl _ hp9 | exact mtl _ (mtl _ hp9) | exact mtl _ (mtl _ (mtl _ hp9))))) (by (first | assumption | exact Step.up ‹_› ‹_›)) ?_; k_whole))
  k_with "getMethod ref" => w_strict (k_here; (with_reducible show wpAny _ _ (getMethod (Value.ref _) (Str.ofString "connect") _) _ _ _); k_dflt (refine g_meth_connect (by k_asm) (by k_asm) (by k_asm) (by (first | assumption | exact Rep.mono ‹_› (by intro p9 hp9; first | exact mtl _ hp9 | exact mtl _ (mtl _ hp9) | exact mtl _ (mtl _ (mtl _ hp9))))) (by (first | assumption | exact Step.up ‹_› ‹_›)) ?_; k_whole))
  k_with "getMethod ref" => w_strict (k_here; (with_reducible show wpAny _ _ (getMethod (Value.ref _) (Str.ofString "delete") _) _ _ _); k_dflt (refine g_meth_delete (by k_asm) (by k_asm) (by k_asm) (by (first | assumption | exact Rep.mono ‹_› (by intro p9 hp9; first | exact mtl _ hp9 | exact mtl _ (mtl _ hp9) | exact mtl _ (mtl _ (mtl _ hp9))))) (by (first | assumption | exact Step.up ‹_› ‹_›)) ?_; k_whole))
  k_with "getMethod ref" => w_strict (k_here; (with_reducible show wpAny _ _ (getMethod (Value.ref _) (Str.ofString "orientation_of") _) _ _ _); k_dflt (refine g_meth_orientation_of (by k_asm) (by k_asm) (by k_asm) (by (first | assumption | exact Rep.mono ‹_› (by intro p9 hp9; first | exact mtl _ hp9 | exact mtl _ (mtl _ hp9) | exact mtl _ (mtl _ (mtl _ hp9))))) (by (first | assumption | exact Step.up ‹_› ‹_›)) ?_; k_whole))
  trivial
theorem g_delete {cx : Addr} {pts : List Addr} {xy : Nat → Int × Int} {al : List (Addr × Addr)} {st : List ERec} {i : Nat} {e d : Addr} (B : Below A₀ base outer h₀) (F : Fr h₀ L s.heap m) (X : (hd.heap_1 w.params).In h₀) (N : News h₀ L s.heap news) (T : Top p loose mean mg mb h₀) (hk : cs.kind = .function) (R : Rep w.params news cx pts xy al st) (hi : al[i]? = some (e, d)) (hroom : dp + 8 < recursionLimit)
   (ret : ∀ h' tk' news', Fr h₀ L h' m → News h₀ L h' news' → Rep w.params news' cx pts xy al (deleteE st i) → Step al news al news' → Q .none { s with heap := h', toks := tk' }) :
   wpAny (model prog w) (ktrTop dp un gd cn cs L a ccd cl outer) (call (.ref 390) [.ref e]) Q E s := by
  obtain h9 : Tag9 (P := wpAny (model prog w) (ktrTop dp un gd cn cs L a ccd cl outer) (call (.ref 390) [.ref e]) Q E s) (by
    refine wpAny_call ?_
    have S0 : Step al news al news := Step.refl
    k_dflt k_enter
    k_steps
    all_goals exact ret _ _ _ (by k_asm) (by k_asm) (by assumption) (by assumption)) := trivial
  unfold id at h9; exact h9.get
example : True := by
  w_top off
  trivial
theorem callWith_MKW {M : Model} {A : Around} {Q E : Value → Shared → Prop} {s : Shared} {K : Frag} {h₀ : Heap} {L : Addr} {news : List (Addr × Obj)} {env : Env} {pos : Pos} {q g : Addr} {self : Value} {first : List Value} {e : Expr} {rest : List Expr} {kws : List Keyword} (_X : K.In h₀) (_N : News h₀ L s.heap news) (_q : (q, methodObj (.ref g) self) ∈ news) (hf : fnIn K g = true) (hall : (backToKw pos (keywordEach kws env)).all (·.1.isSome) = true)
    (h : wpAny M A (spliced (backTo pos (starEach (e :: rest) env))) (fun vs s₁ => wpAny M A (evalAll ((backToKw pos (keywordEach kws env)).map (·.2)))
      (fun ks s₂ => MethP K q g self s₂.heap ∧ wpAny M A (call (.ref q) (first ++ vs) (((backToKw pos (keywordEach kws env)).filterMap (·.1)).zip ks)) Q E s₂) E s₁) E s)
    (hplain : ((backTo pos (starEach (e :: rest) env)).any (·.1) || (backToKw pos (keywordEach kws env)).any (·.1.isNone)) = false := by rfl) (he : starEach (e :: rest) env = (false, eval e env) :: starEach rest env := by rfl) :
    wpAny M A (callWith pos (.ref q) first (backTo pos (starEach (e :: rest) env)) (backToKw pos (keywordEach kws env))) Q E s :=
  callWith_of hplain (keeps_M hf) (evalArgs_kw2 hall h he)
noncomputable def connectE (st : List ERec) (i j s e : Nat) : List ERec :=
  let st1 := mkE st s e
  let st2 := splice st1 st.length (lfe st1 i)
  splice st2 (opp st2 st.length) j
theorem g_meth_from {A : Around} {Q : Value × List Value → Shared → Prop} {pl : Sem Bool} {cx : Addr} {pts : List Addr} {xy : Nat → Int × Int} {al : List (Addr × Addr)} {st : List ERec} {i : Nat} {e d : Addr} (F : Fr h₀ L s.heap m) (X : (hd.heap_1 w.params).In h₀) (N : News h₀ L s.heap news) (R : Rep w.params news cx pts xy al st) (hi : al[i]? = some (e, d))
   (h : ∀ q h', Fr h₀ L h' m → News h₀ L h' ((q, methodObj (.ref 293) (.ref 414)) :: news) → (∀ r ∈ news, r.1 < q) → Q (.ref q, []) { s with heap := h', toks := s.toks + 1 }) : wpAny (model prog w) A (getMethod (.ref e) "from_endpoints" pl) Q E s := by
  obtain ⟨m1, t1, t2, t3, t4, la, ld, ra, rd, sv, x1, x2, x3, m2⟩ := R.at hi
  k_dflt (refine' kmu_cm (p := 295) F X N (InstAt.of_news N m1 m2) ?k5 ?k6 ?k7 ?k8 ?k9 ?k10 ?k11 ?k12 ?k13 h; (case k5 => k_is); (case k6 => k_is); (case k7 => k_is); (case k8 => k_is); (case k9 => k_is); (case k10 => k_is); (case k11 => decide +kernel); (case k12 => k_get); (case k13 => k_is))
example : True := by
  k_with "callWith ref" => w_strict (k_here; k_dflt (refine callWith_MKW (by k_asm) (by k_asm) (by k_mem) (by k_is) (by exact rfl) ?_; k_whole))
  k_with "getMethod ref" => w_strict (k_here; (with_reducible show wpAny _ _ (getMethod (Value.ref _) (Str.ofString "from_endpoints") _) _ _ _); k_dflt (refine g_meth_from (by k_asm) (by k_asm) (by k_asm) (by (first | assumption | exact Rep.mono ‹_› (by intro p9 hp9; first | exact mtl _ hp9 | exact mtl _ (mtl _ hp9) | exact mtl _ (mtl _ (mtl _ hp9))))) (by (first | assumption | exact Step.up ‹_› ‹_›)) ?_; k_whole); intro _ _ _ _ l1; (try k_lt l1); (try k_sweep); (try (revert l1; intro _)))
  k_with "call ref" => w_strict (k_here; k_dflt (refine call_meth (by k_asm) (by k_mem) ?_; k_whole; refine c_from_endpoints (by k_asm) (by k_asm) (by k_asm) (by k_asm) (by k_asm) (by first | exact rfl | assumption) (by (first | assumption | exact Rep.mono ‹_› (by intro p9 hp9; first | exact mtl _ hp9 | exact mtl _ (mtl _ hp9) | exact mtl _ (mtl _ (mtl _ hp9))))) (by (first | assumption | exact Step.up ‹_› ‹_›)) (by (first | assumption | exact Step.up ‹_› ‹_›)) (by ktr_room) ?_; k_whole); (rename Rep _ _ _ _ _ _ _ => rOld9; rename Step _ _ _ _ => sOld9); intro _ _ _ _ _ _ _ _ _ S' _; (first | replace S' := Step.trans sOld9 S' | replace S' := Step.comp1 sOld9 S' | replace S' := Step.comp2 sOld9 S' | replace S' := Step.comp3 sOld9 S' | replace S' := Step.comp4 sOld9 S'); clear rOld9 sOld9; (try k_sweep); (try (revert S'; intro _)))
  trivial
theorem g_connect {cx : Addr} {pts : List Addr} {xy : Nat → Int × Int} {al : List (Addr × Addr)} {st : List ERec} {i j s1 e1 : Nat} {e d b bd : Addr} (B : Below A₀ base outer h₀) (F : Fr h₀ L s.heap m) (X : (hd.heap_1 w.params).In h₀) (N : News h₀ L s.heap news) (T : Top p loose mean mg mb h₀) (hk : cs.kind = .function) (R : Rep w.params news cx pts xy al st) (hi : al[i]? = some (e, d)) (hj : al[j]? = some (b, bd)) (hs1 : org st (rot st (rot st i)) = some s1) (he1 : org st j = some e1) (hroom : dp + 10 < recursionLimit)
   (ret : ∀ h' tk' news' al' a d, Fr h₀ L h' m → News h₀ L h' news' → Rep w.params news' cx pts xy al' (connectE st i j s1 e1) → Step al news al' news' → al'[st.length]? = some (a, d) → Q (.ref a) { s with heap := h', toks := tk' }) :
   wpAny (model prog w) (ktrTop dp un gd cn cs L a ccd cl outer) (call (.ref 383) [.ref e, .ref b]) Q E s := by
  obtain h9 : Tag9 (P := wpAny (model prog w) (ktrTop dp un gd cn cs L a ccd cl outer) (call (.ref 383) [.ref e, .ref b]) Q E s) (by
    refine wpAny_call ?_
    have S0 : Step al news al news := Step.refl
    k_dflt k_enter
    k_steps
    all_goals exact ret _ _ _ _ _ _ (by k_asm) (by k_asm) (by assumption) (by assumption) (by assumption)) := trivial
  unfold id at h9; exact h9.get
example : True := by
  w_top off
  k_with_none
  k_with "inst9" => first | ((with_reducible show InstAt _ (@OfNat.ofNat _ _ _) _ _ _); refine InstAt.of_K (by first | assumption | exact Frag.In.keeps (by k_asm) (Fr.keep (by k_asm))) (by k_is) (by k_is)) | (refine InstAt.of_news (by k_asm) (by k_mem) (by k_mem))
  k_with "e9" => (first | (refine code_def (by k_asm) (by k_asm) (by k_asm) (by k_asm) (by k_asm) rfl rfl (by first | exact rfl | assumption) (by k_is) (by k_is) (by ktr_room) (by first | exact BindsTo.of_eq rfl | refine kp_binds (by k_in) (by exact fun _ => rfl)) (by exact locs rfl) ?_ (by exact rfl) (by exact rfl) (by exact rfl) (by decide); k_whole; intro _ _ _ _ _ _ _ _ _; (try dsimp only); (try k_fold)) | (refine code_defC (by k_asm) (by k_asm) (by k_asm) (by k_asm) (by k_asm) rfl rfl (by first | exact rfl | assumption) (by k_is) (by k_is) (by ktr_room) (by first | exact BindsTo.of_eq rfl | refine kp_binds (by k_in) (by exact fun _ => rfl)) (by exact rfl) (by decide +kernel) ?_ (by exact rfl) (by exact rfl) (by exact rfl); k_whole; intro _ _ _ _ _ _ _ N' Y' _ _ _ l1; (try k_lt l1); (try dsimp only); (try k_fold); (first | k_cells Y' | (obtain ⟨_, _, _, _, _, hE', _, _, _, _, _⟩ := cells_five Y'; subst hE'; clear Y')); (try simp only [List.cons_append, List.nil_append] at N'); (try dsimp only); (try k_fold); (try (revert N'; intro _)); (try (revert l1; intro _))))
  k_with "ne9" => (refine neN ?_; (try dsimp only); with_reducible first | exact neU1 | exact neU2 | exact neU3 | exact neU4 | exact neD1 | exact neD2 | exact neD3 | exact neD4 | exact Nat.ne_of_gt ‹_› | exact Nat.ne_of_lt ‹_› | exact gtA1 ‹_› | exact Ne.symm (gtA1 ‹_›) | exact gtA2 ‹_› | exact Ne.symm (gtA2 ‹_›) | exact gtA3 ‹_› | exact Ne.symm (gtA3 ‹_›) | exact gtA4 ‹_› | exact Ne.symm (gtA4 ‹_›) | exact gtA5 ‹_› | exact Ne.symm (gtA5 ‹_›) | exact gtA6 ‹_› | exact Ne.symm (gtA6 ‹_›) | exact gtA7 ‹_› | exact Ne.symm (gtA7 ‹_›) | exact gtA8 ‹_› | exact Ne.symm (gtA8 ‹_›) | exact gtA9 ‹_› | exact Ne.symm (gtA9 ‹_›) | exact gtA10 ‹_› | exact Ne.symm (gtA10 ‹_›) | exact gtA11 ‹_› | exact Ne.symm (gtA11 ‹_›) | exact gtA12 ‹_› | exact Ne.symm (gtA12 ‹_›))
  k_with "room9" => (first | exact room2 ‹_› (by exact rfl) | exact room1 ‹_› (by exact rfl) | exact room0 ‹_›)
  k_with "units9" => (first | exact unit2 ‹_› (by exact rfl) | exact unit1 ‹_› (by exact rfl) | exact unit0 ‹_›)
  k_with "execs cons" => w_strict (refine wpAny_execs_cons ?_; (try k_fold))
  k_with "eval BinOp" => w_strict (k_fold)
  k_with "eval Call" => w_strict (k_fold)
  k_with "eval Call Attribute" => w_strict (k_fold)
  k_with "eval Attribute Name" => w_strict (k_fold)
  k_with "eval Subscript" => w_strict (k_fold)
  k_with "eval Attribute Attribute" => w_strict (k_fold)
  k_with "getAttr ref" => w_strict (k_fold)
  k_with "eval Tuple" => w_strict (k_fold)
  k_with "assignInOrder" => w_strict (k_fold)
  k_with "exec Assign" => w_strict (k_fold)
  k_with "isTrue BoolOp" => w_strict (k_fold)
  k_with "isTrue Compare" => w_strict (k_fold)
  k_with "callWith ref" => w_strict (k_fold)
  trivial
theorem tgb_run {prog : Program} {w : World} {A : Around} {E : Value → Shared → Prop} {s : Shared} {K : Frag} {x C : Addr} {ox : Obj} {od : Option Obj} {name : Str} {g a : Value} {tk : Tok} {Q : Fin → Shared → Prop} (X : K.In s.heap) (I : InstAt s.heap x ox C od)
    (hf : findObj K C od name = some (.bind g a)) (h : wpAny (model prog w) A (holding [a] (call g [a, .ref x, .ref C]) >>= ret) Q E s) :
    wpAny (model prog w) A (Builtin.«object.__getattribute__» ⟨[.ref x, .str name tk], []⟩) Q E s := by
  obtain ⟨hh', gg, d, t, os⟩ := s
  have L0 := I.type (M := model prog w)
  have L1 := looks_find (M := model prog w) X I hf
  unfold Builtin.«object.__getattribute__»
  refine wpAny_bind (wpAny_pure (wpAny_bind (wpAny_pure (wpAny_bind (L0.at (wpAny_bind (L1.at ?_)))))))
  exact h
theorem get_bind_tup {prog : Program} {w : World} {A : Around} {E : Value → Shared → Prop} {s : Shared} {K : Frag} {x C : Addr} {ox : Obj} {od : Option Obj} {name : Str} {expr : Bool} {g a : Value} {Q : Value → Shared → Prop} (X : K.In s.heap) (I : InstAt s.heap x ox C od)
    (hga : findIn K (.ref C) "__getattribute__" = some (some (.builtin "tuple.__getattribute__"))) (hk : findIn K (.ref C) "__getattr__" = some none) (hsub : subIn K (.ref C) (.type "tuple") = some true) (hf : findObj K C od name = some (.bind g a))
    (h : wpAny (model prog w) A.in1 (call g [a, .ref x, .ref C]) (fun v s' => wpAny (model prog w) A (handedOut v) Q E s') (fun _ _ => False) { s with toks := s.toks + 1 }) :
    wpAny (model prog w) A (getAttr (.ref x) name expr) Q E s := by
  obtain h9 : Tag9 (P := wpAny (model prog w) A (getAttr (.ref x) name expr) Q E s) (by
    have ht := I.type (M := model prog w)
    have hb : Looks (model prog w) s.heap (hookBefore (.ref C)) none := looks_hook X (by rw [if_pos (show onTheHeap (.ref C) = true from rfl)]; exact hk)
    refine wpAny_bind (wpAny_mkText (wpAny_holding (wpAny_bind (ht _ _ _ _ (fun _ _ e => e) (wpAny_bind (looks_findIn X hga _ _ _ _ (fun _ _ e => e) ?_))))))
    dsimp only
    rw [show (onTheHeap (.ref C) && Value.builtin "tuple.__getattribute__" == Value.builtin "object.__getattribute__") = false from by rw [show (Value.builtin "tuple.__getattribute__" == Value.builtin "object.__getattribute__") = false from by decide +kernel, Bool.and_false], if_neg (by decide)]
    refine wpAny_bind (hb _ _ _ _ (fun _ _ e => e) (wpAny_bind (wpAny_attempt (wpAny_holding ?_))))
    unfold callGetattribute
    rw [show (expr && onTheHeap (Value.builtin "tuple.__getattribute__")) = false from Bool.and_false _, if_neg (by decide)]
    unfold boundAndCalled
    rw [F.slot_tuple_getattribute.bind]
    refine wpAny_bind (wpAny_pure ?_)
    show wpAny _ _ (call (.builtin "tuple.__getattribute__") [.ref x, .str name s.toks]) _ _ _
    refine wpAny_call ?_
    refine codeAny_call_builtin F.slot_tuple_getattribute.plain F.entry_tuple_ga ?_
    refine @check_slot (model prog w) _ _ { s with toks := s.toks + 1 } "tuple.__getattribute__" "tuple" "__getattribute__" (.ref x) [.str name s.toks] [] _ (by decide +kernel) (by decide +kernel) (ht.andThen (looks_subIn X hsub)) (F.args_tuple_getattribute_2 _ _) ?_
    refine tgb_run (s := { s with toks := s.toks + 1 }) X I hf ?_
    refine wpAny_bind (wpAny_holding (wpAny_mono h (fun v s' z => wpAny_pure z) fun _ _ z => z.elim))) := trivial
  unfold id at h9; exact h9.get
theorem findObj_dataN {K : Frag} {C : Addr} {od : Option Obj} {name : Str} {a g : Value} (hc : (clsIn K C).isSome = true) (ha : findIn K (.ref C) name = some (some a)) (hg : specialIn K a "__get__" = some (some g)) (ht : takesIn K a = some true) : findObj K C od name = some (.bind g a) := by
  obtain ⟨cd, hc⟩ := Option.isSome_iff_exists.mp hc
  unfold findObj
  rw [hc, Option.bind_some, ha, Option.bind_some]
  simp [hg, ht]
theorem iss_nested {M : Model} {A : Around} {E : Value → Shared → Prop} {s : Shared} {K : Frag} {C : Addr} {dep : Int} {tk : Tok} {Q : Fin → Shared → Prop} (X : K.In s.heap) (e0 : isClsIn K C = true) (e : subIn K (.ref C) (.type "tuple") = some true) (h : Q (.done (.ret (.bool true))) s) :
    wpAny M A (Builtin.«issubclass.nested» ⟨[.ref C, .type "tuple", .int dep tk], []⟩) Q E s := by
  obtain h9 : Tag9 (P := wpAny M A (Builtin.«issubclass.nested» ⟨[.ref C, .type "tuple", .int dep tk], []⟩) Q E s) (by
    obtain ⟨hh, g, d, tt, os⟩ := s
    have L2 : Looks M hh (isSubtype (.ref C) (.type "tuple")) true := looks_subIn X e
    have L0 : Looks M hh (typeOf (.type "tuple")) (.type "type") := Looks.of_pure rfl
    unfold isClsIn clsIn at e0
    unfold Builtin.«issubclass.nested»
    refine wpAny_bind (L0.at ?_)
    rw [if_pos (by decide)]
    k_delta "plainIsSubclass"
    split at e0
    · rename_i ho
      unfold isType
      have hld := X _ _ ho
      repeat lk
      exact h
    · cases e0) := trivial
  unfold id at h9; exact h9.get
theorem iss_call {prog : Program} {w : World} {A : Around} {E : Value → Shared → Prop} {s : Shared} {K : Frag} {C : Addr} {Q : Value → Shared → Prop} (X : K.In s.heap) (e0 : isClsIn K C = true) (e : subIn K (.ref C) (.type "tuple") = some true) (h : Q (.bool true) s) :
    wpAny (model prog w) A (call (.builtin "issubclass") [.ref C, .type "tuple"]) Q E s :=
  call_issubclass (S := fun _ R s => K.In s.heap ∧ R (.ok (.ret (.bool true))) s) (fun _ _ _ _ _ hs => issubclass_outer (iss_nested hs.1 e0 e hs.2)) ⟨X, h⟩
theorem tgi_call {prog : Program} {w : World} {A : Around} {E : Value → Shared → Prop} {s : Shared} {K : Frag} {C t : Addr} {items : Array Value} {d : Option Addr} {n : Nat} {sl : Array (Option Value)} {od : Option Obj} {k : Int} {u : Tok} {j : Nat} {x : Value} {Q : Value → Shared → Prop}
    (X : K.In s.heap) (I : InstAt s.heap t ⟨.ref C, d, .seq items n, sl⟩ C od) (e : subIn K (.ref C) (.type "tuple") = some true)
    (hlo : -(2 ^ 63) ≤ k) (hhi : k < 2 ^ 63) (hj : seqIndex? k items.size = some j) (hx : items[j]? = some x) (h : Q x s) : wpAny (model prog w) A (call (.builtin "tuple.__getitem__") [.ref t, .int k u]) Q E s := by
  obtain h9 : Tag9 (P := wpAny (model prog w) A (call (.builtin "tuple.__getitem__") [.ref t, .int k u]) Q E s) (by
    have ht := I.type (M := model prog w)
    refine wpAny_call (codeAny_call_builtin F.slot_tuple_getitem.plain F.entry_tuple_getitem ?_)
    refine @check_slot (model prog w) _ _ s "tuple.__getitem__" "tuple" "__getitem__" (.ref t) [.int k u] [] _ (by decide +kernel) (by decide +kernel) (ht.andThen (looks_subIn X e)) (F.args_tuple_getitem_2 _ _) ?_
    show wpAny _ _ (Builtin.Tuple.tupleItemsOf (.ref t) >>= _) _ _ s
    refine wpAny_bind ?_
    unfold Builtin.Tuple.tupleItemsOf
    refine wpAny_bind (wpAny_seqItems I.at_ rfl (wpAny_pure ?_))
    refine wpAny_bind (wpAny_typeOf (typeIs_int s k u) ?_)
    rw [if_neg (by decide)]
    refine wpAny_bind (wpAny_specialOf (T := "int") (typeIs_int s k u) int_index ?_)
    rw [if_neg (by simp)]
    refine wpAny_bind (wpAny_of_eq (a := k) rfl ?_)
    rw [if_neg (by simp only [Bool.or_eq_true, decide_eq_true_eq]; omega)]
    simp only [hj, Option.bind_some, hx]
    exact wpAny_pure h) := trivial
  unfold id at h9; exact h9.get
theorem ty_tuple : typeOf (.type "tuple") = pure (.type "type") := by kernel_rfl
theorem pt_at {h₀ h : Heap} {L pa : Addr} {news : List (Addr × Obj)} {x y : Int} {t u : Tok} (N : News h₀ L h news) (m1 : PtIn news pa x t y u) : InstAt h pa (ptObj m1.choose x t y u) 132 (some (dictOf [] 0)) := ⟨(N _ m1.choose_spec.1).1, rfl, rfl, (N _ m1.choose_spec.2).1⟩
theorem pt_gi0 {prog : Program} {w : World} {A : Around} {E : Value → Shared → Prop} {s : Shared} {K : Frag} {h₀ : Heap} {L pa : Addr} {news : List (Addr × Obj)} {x y : Int} {t u v : Tok} {Q : Value → Shared → Prop} (X : K.In s.heap) (N : News h₀ L s.heap news) (m1 : PtIn news pa x t y u)
    (e : subIn K (.ref 132) (.type "tuple") = some true) (h : Q (.int x t) s) : wpAny (model prog w) A (call (.builtin "tuple.__getitem__") [.ref pa, .int 0 v]) Q E s := tgi_call (j := 0) X (pt_at N m1) e (by decide) (by decide) rfl rfl h
theorem pt_gi1 {prog : Program} {w : World} {A : Around} {E : Value → Shared → Prop} {s : Shared} {K : Frag} {h₀ : Heap} {L pa : Addr} {news : List (Addr × Obj)} {x y : Int} {t u v : Tok} {Q : Value → Shared → Prop} (X : K.In s.heap) (N : News h₀ L s.heap news) (m1 : PtIn news pa x t y u)
    (e : subIn K (.ref 132) (.type "tuple") = some true) (h : Q (.int y u) s) : wpAny (model prog w) A (call (.builtin "tuple.__getitem__") [.ref pa, .int 1 v]) Q E s := tgi_call (j := 1) X (pt_at N m1) e (by decide) (by decide) rfl rfl h
theorem fc_tuple (P : Params) : findCls (hd.heap_1 P) (.type "tuple") (.type "type") "__getitem__" = some (.val (.builtin "tuple.__getitem__")) := by k_dflt k_is
theorem stub_tuple : Manifest.isStub "tuple" = false := by decide +kernel
theorem tuple_method {prog : Program} {w : World} {A : Around} {E : Value → Shared → Prop} {s : Shared} {h₀ : Heap} {L : Addr} {m : Str → Option Value} {pl : Sem Bool} {Q : Value × List Value → Shared → Prop} (F : Fr h₀ L s.heap m) (X : (hd.heap_1 w.params).In h₀)
    (h : Q (.builtin "tuple.__getitem__", []) { s with toks := s.toks + 1 }) : wpAny (model prog w) A (getMethod (.type "tuple") "__getitem__" pl) Q E s := by
  refine method_type (K := hd.heap_1 w.params) (T := "tuple") (v := .builtin "tuple.__getitem__") (name := "__getitem__") F X ?a ?b ?c ?d h
  case a => exact ty_tuple
  case b => exact stub_tuple
  case c => exact fc_tuple _
  case d => decide +kernel
example : True := by
  k_with "call type:type" => w_strict (k_here; (with_reducible show wpAny _ _ (call (Value.type "type") [Value.ref _]) _ _ _); k_dflt (refine kto_own (pt_at (by k_asm) ‹_›) ?_; k_whole))
  k_with "call builtin:issubclass" => w_strict (k_here; k_dflt (refine iss_call (by k_in) (by k_is) (by k_is) ?_; k_whole))
  k_with "getMethod type:tuple" => w_strict (k_here; k_dflt (refine tuple_method (by k_asm) (by k_asm) ?_; k_whole))
  k_with "call builtin:tuple.__getitem__" => w_strict (k_here; (first | ((with_reducible show wpAny _ _ (call (Value.builtin "tuple.__getitem__") [Value.ref _, Value.int 0 _]) _ _ _); k_dflt (refine pt_gi0 (by k_in) (by k_asm) ‹_› (by k_is) ?_; k_whole)) | ((with_reducible show wpAny _ _ (call (Value.builtin "tuple.__getitem__") [Value.ref _, Value.int 1 _]) _ _ _); k_dflt (refine pt_gi1 (by k_in) (by k_asm) ‹_› (by k_is) ?_; k_whole))))
  k_with "getAttr ref" => w_strict (k_here; (with_reducible show wpAny _ _ (getAttr (Value.ref _) (Str.ofString "index") _) _ _ _); k_dflt (refine get_own (by k_asm) (by k_asm) (InstAt.of_K (by k_in) (by k_is) (by k_is)) (by k_is) (by k_is) (by k_is) (by k_is) (by k_get) (by k_handed) ?_; k_whole))
  trivial
theorem raw_x {pa : Addr} {x y : Int} {t u : Tok} {expr : Bool} (B : Below A₀ base outer h₀) (F : Fr h₀ L s.heap m) (X : (hd.heap_1 w.params).In h₀) (N : News h₀ L s.heap news) (T : Top p loose mean mg mb h₀) (hk : cs.kind = .function) (hroom : dp + 4 < recursionLimit) (hu : un + 50 < cLine) (m1 : PtIn news pa x t y u)
   (ret : ∀ h' tk', Fr h₀ L h' m → News h₀ L h' news → Q (.int x t) { s with heap := h', toks := tk' }) :
   wpAny (model prog w) (ktrTop dp un gd cn cs L a ccd cl outer) (getAttr (.ref pa) "x" expr) Q E s := by
  obtain h9 : Tag9 (P := wpAny (model prog w) (ktrTop dp un gd cn cs L a ccd cl outer) (getAttr (.ref pa) "x" expr) Q E s) (by
    k_dflt (refine' get_bind_tup (K := hd.heap_1 w.params) (g := .ref 43) (a := .ref 124) (X.keeps F.keep) (pt_at N m1) ?k1 ?k2 ?k3 (findObj_dataN (show isClsIn (hd.heap_1 w.params) 132 = true from ?k4) ?k5 ?k6 ?k7) ?_; (case k1 => k_is); (case k2 => k_is); (case k3 => k_is); (case k4 => k_is); (case k5 => k_is); (case k6 => k_is); (case k7 => k_is))
    refine wpAny_call ?_
    k_dflt k_enter
    k_steps
    all_goals exact ret _ _ (by k_asm) (by k_asm)) := trivial
  unfold id at h9; exact h9.get
theorem raw_y {pa : Addr} {x y : Int} {t u : Tok} {expr : Bool} (B : Below A₀ base outer h₀) (F : Fr h₀ L s.heap m) (X : (hd.heap_1 w.params).In h₀) (N : News h₀ L s.heap news) (T : Top p loose mean mg mb h₀) (hk : cs.kind = .function) (hroom : dp + 4 < recursionLimit) (hu : un + 50 < cLine) (m1 : PtIn news pa x t y u)
   (ret : ∀ h' tk', Fr h₀ L h' m → News h₀ L h' news → Q (.int y u) { s with heap := h', toks := tk' }) :
   wpAny (model prog w) (ktrTop dp un gd cn cs L a ccd cl outer) (getAttr (.ref pa) "y" expr) Q E s := by
  obtain h9 : Tag9 (P := wpAny (model prog w) (ktrTop dp un gd cn cs L a ccd cl outer) (getAttr (.ref pa) "y" expr) Q E s) (by
    k_dflt (refine' get_bind_tup (K := hd.heap_1 w.params) (g := .ref 43) (a := .ref 127) (X.keeps F.keep) (pt_at N m1) ?k1 ?k2 ?k3 (findObj_dataN (show isClsIn (hd.heap_1 w.params) 132 = true from ?k4) ?k5 ?k6 ?k7) ?_; (case k1 => k_is); (case k2 => k_is); (case k3 => k_is); (case k4 => k_is); (case k5 => k_is); (case k6 => k_is); (case k7 => k_is))
    refine wpAny_call ?_
    k_dflt k_enter
    k_steps
    all_goals exact ret _ _ (by k_asm) (by k_asm)) := trivial
  unfold id at h9; exact h9.get
example : True := by
  w_top off
  k_with "getAttr ref" => w_strict (k_here; (with_reducible show wpAny _ _ (getAttr (Value.ref _) (Str.ofString "rotated") _) _ _ _); k_dflt (refine g_rotated (by k_asm) (by k_asm) (by k_asm) (by k_asm) (by k_asm) (by first | exact rfl | assumption) (by (first | assumption | exact Rep.mono ‹_› (by intro p9 hp9; first | exact mtl _ hp9 | exact mtl _ (mtl _ hp9) | exact mtl _ (mtl _ (mtl _ hp9))))) (by (first | assumption | exact Step.up ‹_› ‹_›))  (by ktr_room) ?_; k_whole); intro _ _ _ _ _ _ _; (try k_sweep))
  k_with "getAttr ref" => w_strict (k_here; (with_reducible show wpAny _ _ (getAttr (Value.ref _) (Str.ofString "left_from_start") _) _ _ _); k_dflt (refine g_left_from_start (by k_asm) (by k_asm) (by k_asm) (by k_asm) (by k_asm) (by first | exact rfl | assumption) (by (first | assumption | exact Rep.mono ‹_› (by intro p9 hp9; first | exact mtl _ hp9 | exact mtl _ (mtl _ hp9) | exact mtl _ (mtl _ (mtl _ hp9))))) (by (first | assumption | exact Step.up ‹_› ‹_›))  (by ktr_room) ?_; k_whole); intro _ _ _ _ _ _ _; (try k_sweep))
  k_with "getAttr ref" => w_strict (k_here; (with_reducible show wpAny _ _ (getAttr (Value.ref _) (Str.ofString "context") _) _ _ _); k_dflt (refine g_context (by k_asm) (by k_asm) (by k_asm) (by k_asm) (by k_asm) (by first | exact rfl | assumption) (by (first | assumption | exact Rep.mono ‹_› (by intro p9 hp9; first | exact mtl _ hp9 | exact mtl _ (mtl _ hp9) | exact mtl _ (mtl _ (mtl _ hp9))))) (by (first | assumption | exact Step.up ‹_› ‹_›))  (by ktr_room) ?_; k_whole); intro _ _ _ _; (try k_sweep))
  k_with "getAttr ref" => w_strict (k_here; (with_reducible show wpAny _ _ (getAttr (Value.ref _) (Str.ofString "start") _) _ _ _); k_dflt (refine g_start (by k_asm) (by k_asm) (by k_asm) (by k_asm) (by k_asm) (by first | exact rfl | assumption) (by (first | assumption | exact Rep.mono ‹_› (by intro p9 hp9; first | exact mtl _ hp9 | exact mtl _ (mtl _ hp9) | exact mtl _ (mtl _ (mtl _ hp9))))) (by (first | assumption | exact Step.up ‹_› ‹_›)) ‹_› (by ktr_room) ?_; k_whole); intro _ _ _ _ _ _; (try k_sweep))
  k_with "getAttr ref" => w_strict (k_here; (with_reducible show wpAny _ _ (getAttr (Value.ref _) (Str.ofString "opposite") _) _ _ _); k_dflt (refine g_opposite (by k_asm) (by k_asm) (by k_asm) (by k_asm) (by k_asm) (by first | exact rfl | assumption) (by (first | assumption | exact Rep.mono ‹_› (by intro p9 hp9; first | exact mtl _ hp9 | exact mtl _ (mtl _ hp9) | exact mtl _ (mtl _ (mtl _ hp9))))) (by (first | assumption | exact Step.up ‹_› ‹_›))  (by ktr_room) ?_; k_whole); intro _ _ _ _ _ _ _; (try k_sweep))
  k_with "getAttr ref" => w_strict (k_here; (with_reducible show wpAny _ _ (getAttr (Value.ref _) (Str.ofString "left_from_end") _) _ _ _); k_dflt (refine g_left_from_end (by k_asm) (by k_asm) (by k_asm) (by k_asm) (by k_asm) (by first | exact rfl | assumption) (by (first | assumption | exact Rep.mono ‹_› (by intro p9 hp9; first | exact mtl _ hp9 | exact mtl _ (mtl _ hp9) | exact mtl _ (mtl _ (mtl _ hp9))))) (by (first | assumption | exact Step.up ‹_› ‹_›))  (by ktr_room) ?_; k_whole); intro _ _ _ _ _ _ _; (try k_sweep))
  k_with "getAttr ref" => w_strict (k_here; (with_reducible show wpAny _ _ (getAttr (Value.ref _) (Str.ofString "right_from_start") _) _ _ _); k_dflt (refine g_right_from_start (by k_asm) (by k_asm) (by k_asm) (by k_asm) (by k_asm) (by first | exact rfl | assumption) (by (first | assumption | exact Rep.mono ‹_› (by intro p9 hp9; first | exact mtl _ hp9 | exact mtl _ (mtl _ hp9) | exact mtl _ (mtl _ (mtl _ hp9))))) (by (first | assumption | exact Step.up ‹_› ‹_›))  (by ktr_room) ?_; k_whole); intro _ _ _ _ _ _ _; (try k_sweep))
  k_with "getAttr ref" => w_strict (k_here; (with_reducible show wpAny _ _ (getAttr (Value.ref _) (Str.ofString "right_from_end") _) _ _ _); k_dflt (refine g_right_from_end (by k_asm) (by k_asm) (by k_asm) (by k_asm) (by k_asm) (by first | exact rfl | assumption) (by (first | assumption | exact Rep.mono ‹_› (by intro p9 hp9; first | exact mtl _ hp9 | exact mtl _ (mtl _ hp9) | exact mtl _ (mtl _ (mtl _ hp9))))) (by (first | assumption | exact Step.up ‹_› ‹_›))  (by ktr_room) ?_; k_whole); intro _ _ _ _ _ _ _; (try k_sweep))
  k_with "getAttr ref" => w_strict (k_here; (with_reducible show wpAny _ _ (getAttr (Value.ref _) (Str.ofString "end") _) _ _ _); k_dflt (refine g_end (by k_asm) (by k_asm) (by k_asm) (by k_asm) (by k_asm) (by first | exact rfl | assumption) (by (first | assumption | exact Rep.mono ‹_› (by intro p9 hp9; first | exact mtl _ hp9 | exact mtl _ (mtl _ hp9) | exact mtl _ (mtl _ (mtl _ hp9))))) (by (first | assumption | exact Step.up ‹_› ‹_›)) ‹_› (by ktr_room) ?_; k_whole); intro _ _ _ _ _ _; (try k_sweep))
  k_with "getAttr ref" => w_strict (k_here; (with_reducible show wpAny _ _ (getAttr (Value.ref _) (Str.ofString "x") _) _ _ _); k_dflt (refine raw_x (by k_asm) (by k_asm) (by k_asm) (by k_asm) (by k_asm) (by first | exact rfl | assumption) (by ktr_room) (by ktr_units) (by first | assumption | exact PtIn.mono ‹_› (by intro p9 hp9; first | exact mtl _ hp9 | exact mtl _ (mtl _ hp9) | exact mtl _ (mtl _ (mtl _ hp9)))) ?_; k_whole); intro _ _ _ _; (try k_sweep))
  k_with "getAttr ref" => w_strict (k_here; (with_reducible show wpAny _ _ (getAttr (Value.ref _) (Str.ofString "y") _) _ _ _); k_dflt (refine raw_y (by k_asm) (by k_asm) (by k_asm) (by k_asm) (by k_asm) (by first | exact rfl | assumption) (by ktr_room) (by ktr_units) (by first | assumption | exact PtIn.mono ‹_› (by intro p9 hp9; first | exact mtl _ hp9 | exact mtl _ (mtl _ hp9) | exact mtl _ (mtl _ (mtl _ hp9)))) ?_; k_whole); intro _ _ _ _; (try k_sweep))
  k_with "getMethod ref" => w_strict (k_here; (with_reducible show wpAny _ _ (getMethod (Value.ref _) (Str.ofString "splice") _) _ _ _); k_dflt (refine g_meth_splice (by k_asm) (by k_asm) (by k_asm) (by (first | assumption | exact Rep.mono ‹_› (by intro p9 hp9; first | exact mtl _ hp9 | exact mtl _ (mtl _ hp9) | exact mtl _ (mtl _ (mtl _ hp9))))) (by (first | assumption | exact Step.up ‹_› ‹_›)) ?_; k_whole))
  k_with "getMethod ref" => w_strict (k_here; (with_reducible show wpAny _ _ (getMethod (Value.ref _) (Str.ofString "connect") _) _ _ _); k_dflt (refine g_meth_connect (by k_asm) (by k_asm) (by k_asm) (by (first | assumption | exact Rep.mono ‹_› (by intro p9 hp9; first | exact mtl _ hp9 | exact mtl _ (mtl _ hp9) | exact mtl _ (mtl _ (mtl _ hp9))))) (by (first | assumption | exact Step.up ‹_› ‹_›)) ?_; k_whole))
  k_with "getMethod ref" => w_strict (k_here; (with_reducible show wpAny _ _ (getMethod (Value.ref _) (Str.ofString "delete") _) _ _ _); k_dflt (refine g_meth_delete (by k_asm) (by k_asm) (by k_asm) (by (first | assumption | exact Rep.mono ‹_› (by intro p9 hp9; first | exact mtl _ hp9 | exact mtl _ (mtl _ hp9) | exact mtl _ (mtl _ (mtl _ hp9))))) (by (first | assumption | exact Step.up ‹_› ‹_›)) ?_; k_whole))
  k_with "getMethod ref" => w_strict (k_here; (with_reducible show wpAny _ _ (getMethod (Value.ref _) (Str.ofString "orientation_of") _) _ _ _); k_dflt (refine g_meth_orientation_of (by k_asm) (by k_asm) (by k_asm) (by (first | assumption | exact Rep.mono ‹_› (by intro p9 hp9; first | exact mtl _ hp9 | exact mtl _ (mtl _ hp9) | exact mtl _ (mtl _ (mtl _ hp9))))) (by (first | assumption | exact Step.up ‹_› ‹_›)) ?_; k_whole))
  trivial
noncomputable abbrev crs (vx vy ax ay bx b_y : Int) : Int := (ax - vx) * (b_y - vy) - (ay - vy) * (bx - vx)
noncomputable abbrev cr (xy : Nat → Int × Int) (i j k : Nat) : Int := crs (xy i).1 (xy i).2 (xy j).1 (xy j).2 (xy k).1 (xy k).2
noncomputable def oriA (c : Int) : Addr := if 0 < c then 178 else if c < 0 then 172 else 175
theorem oriA_pos {c : Int} (h : 0 < c) : oriA c = 178 := if_pos h
theorem oriA_neg {c : Int} (h1 : ¬ 0 < c) (h : c < 0) : oriA c = 172 := (if_neg h1).trans (if_pos h)
theorem oriA_zero {c : Int} (h1 : ¬ 0 < c) (h : ¬ c < 0) : oriA c = 175 := (if_neg h1).trans (if_neg h)
theorem c_angle {pv pa pb cx : Addr} {vx vy ax ay bx by_ : Int} {t1 t2 t3 t4 t5 t6 : Tok} (B : Below A₀ base outer h₀) (F : Fr h₀ L s.heap m) (X : (hd.heap_1 w.params).In h₀) (N : News h₀ L s.heap news) (T : Top p loose mean mg mb h₀) (hk : cs.kind = .function) (hroom : dp + 6 < recursionLimit) (hu : un + 100 < cLine)
   (m1 : PtIn news pv vx t1 vy t2) (m2 : PtIn news pa ax t3 ay t4) (m3 : PtIn news pb bx t5 by_ t6)
   (b1 : -2 ^ 60 < vx ∧ vx < 2 ^ 60) (b2 : -2 ^ 60 < vy ∧ vy < 2 ^ 60) (b3 : -2 ^ 60 < ax ∧ ax < 2 ^ 60) (b4 : -2 ^ 60 < ay ∧ ay < 2 ^ 60) (b5 : -2 ^ 60 < bx ∧ bx < 2 ^ 60) (b6 : -2 ^ 60 < by_ ∧ by_ < 2 ^ 60)
   (ret : ∀ h' tk' , Fr h₀ L h' m → News h₀ L h' news → Q (.ref (oriA (crs vx vy ax ay bx by_))) { s with heap := h', toks := tk' }) :
   wpAny (model prog w) (ktrTop dp un gd cn cs L a ccd cl outer) (call (.ref 251) [.ref cx, .ref pv, .ref pa, .ref pb]) Q E s := by
  obtain h9 : Tag9 (P := wpAny (model prog w) (ktrTop dp un gd cn cs L a ccd cl outer) (call (.ref 251) [.ref cx, .ref pv, .ref pa, .ref pb]) Q E s) (by
    refine wpAny_call ?_
    k_dflt k_enter
    k_steps
    · rw [oriA_pos (c := crs vx vy ax ay bx by_) (by assumption)] at ret; exact ret _ _ (by k_asm) (by k_asm)
    · rw [oriA_neg (c := crs vx vy ax ay bx by_) (by assumption) (by assumption)] at ret; exact ret _ _ (by k_asm) (by k_asm)
    · rw [oriA_zero (c := crs vx vy ax ay bx by_) (by assumption) (by assumption)] at ret; exact ret _ _ (by k_asm) (by k_asm)) := trivial
  unfold id at h9; exact h9.get
theorem g_angle {cx : Addr} {pts : List Addr} {xy : Nat → Int × Int} {al : List (Addr × Addr)} {st : List ERec} {i j k : Nat} {pv pa pb : Addr} (B : Below A₀ base outer h₀) (F : Fr h₀ L s.heap m) (X : (hd.heap_1 w.params).In h₀) (N : News h₀ L s.heap news) (T : Top p loose mean mg mb h₀) (hk : cs.kind = .function) (R : Rep w.params news cx pts xy al st) (hi : pts[i]? = some pv) (hj : pts[j]? = some pa) (hk3 : pts[k]? = some pb) (hroom : dp + 6 < recursionLimit) (hu : un + 100 < cLine)
   (ret : ∀ h' tk' , Fr h₀ L h' m → News h₀ L h' news → Q (.ref (oriA (cr xy i j k))) { s with heap := h', toks := tk' }) :
   wpAny (model prog w) (ktrTop dp un gd cn cs L a ccd cl outer) (call (.ref 251) [.ref cx, .ref pv, .ref pa, .ref pb]) Q E s := by
  obtain ⟨t1, t2, m1⟩ := R.pin _ _ hi
  obtain ⟨t3, t4, m2⟩ := R.pin _ _ hj
  obtain ⟨t5, t6, m3⟩ := R.pin _ _ hk3
  exact c_angle B F X N T hk hroom hu m1 m2 m3 (R.bnd i).1 (R.bnd i).2 (R.bnd j).1 (R.bnd j).2 (R.bnd k).1 (R.bnd k).2 ret
theorem g_cxmeth {A : Around} {Q : Value × List Value → Shared → Prop} {pl : Sem Bool} {cx : Addr} {pts : List Addr} {xy : Nat → Int × Int} {al : List (Addr × Addr)} {st : List ERec} (F : Fr h₀ L s.heap m) (X : (hd.heap_1 w.params).In h₀) (N : News h₀ L s.heap news) (R : Rep w.params news cx pts xy al st)
   (h : Q (.ref 251, [.ref cx]) s) : wpAny (model prog w) A (getMethod (.ref cx) "angle_orientation" pl) Q E s := by
  obtain ⟨dcx, m1, m2⟩ := R.ctx
  k_dflt (refine' method_inst F X (InstAt.of_news N m1 m2) ?k4 ?k5 ?k6 ?k7 h; (case k4 => k_is); (case k5 => k_is); (case k6 => k_is); (case k7 => k_get))
example : True := by
  k_with "getMethod ref" => w_strict (k_here; (with_reducible show wpAny _ _ (getMethod (Value.ref _) (Str.ofString "angle_orientation") _) _ _ _); k_dflt (refine g_cxmeth (by k_asm) (by k_asm) (by k_asm) (by (first | assumption | exact Rep.mono ‹_› (by intro p9 hp9; first | exact mtl _ hp9 | exact mtl _ (mtl _ hp9) | exact mtl _ (mtl _ (mtl _ hp9))))) ?_; k_whole))
  k_with "call ref" => w_strict (k_here; (with_reducible show wpAny _ _ (call (Value.ref 251) [Value.ref _, Value.ref _, Value.ref _, Value.ref _] _) _ _ _); k_dflt (refine g_angle (by k_asm) (by k_asm) (by k_asm) (by k_asm) (by k_asm) (by first | exact rfl | assumption) (by (first | assumption | exact Rep.mono ‹_› (by intro p9 hp9; first | exact mtl _ hp9 | exact mtl _ (mtl _ hp9) | exact mtl _ (mtl _ (mtl _ hp9))))) ‹_› ‹_› ‹_› (by ktr_room) (by ktr_units) ?_; k_whole); intro _ _ _ _; (try k_sweep))
  trivial
theorem g_orient {cx : Addr} {pts : List Addr} {xy : Nat → Int × Int} {al : List (Addr × Addr)} {st : List ERec} {i k s1 e1 : Nat} {e d pc : Addr} (B : Below A₀ base outer h₀) (F : Fr h₀ L s.heap m) (X : (hd.heap_1 w.params).In h₀) (N : News h₀ L s.heap news) (T : Top p loose mean mg mb h₀) (hk : cs.kind = .function) (R : Rep w.params news cx pts xy al st) (hi : al[i]? = some (e, d)) (ho1 : org st i = some s1) (ho2 : org st (rot st (rot st i)) = some e1) (hk3 : pts[k]? = some pc) (hroom : dp + 10 < recursionLimit) (hu : un + 150 < cLine)
   (ret : ∀ h' tk' , Fr h₀ L h' m → News h₀ L h' news → Q (.ref (oriA (cr xy s1 e1 k))) { s with heap := h', toks := tk' }) :
   wpAny (model prog w) (ktrTop dp un gd cn cs L a ccd cl outer) (call (.ref 397) [.ref e, .ref pc]) Q E s := by
  obtain h9 : Tag9 (P := wpAny (model prog w) (ktrTop dp un gd cn cs L a ccd cl outer) (call (.ref 397) [.ref e, .ref pc]) Q E s) (by
    refine wpAny_call ?_
    k_dflt k_enter
    k_steps
    all_goals exact ret _ _ (by k_asm) (by k_asm)) := trivial
  unfold id at h9; exact h9.get
local macro_rules | `(tactic| k_mem) => `(tactic| k_extra "mem9")
example : True := by
  k_with "mem9" => (first | with_reducible assumption | with_reducible exact at0 | with_reducible exact at1 | with_reducible exact at2 | with_reducible exact at3 | with_reducible exact at4 | with_reducible exact at5 | with_reducible exact at6 | with_reducible exact at7 | with_reducible exact at8 | with_reducible exact at9 | with_reducible exact at10 | with_reducible exact at11 | with_reducible exact at12 | with_reducible exact at13 | with_reducible exact at14 | exact up1 (by with_reducible assumption) | exact up2 (by with_reducible assumption) | exact up3 (by with_reducible assumption) | exact up4 (by with_reducible assumption) | exact up5 (by with_reducible assumption) | exact up6 (by with_reducible assumption) | assumption)
  trivial
example : True := by
  w_top off
  trivial
noncomputable def Bd (n : Nat) (x : Int) : Prop := x.natAbs < 2 ^ n
theorem Bd.of {x : Int} (h : -2 ^ 60 < x ∧ x < 2 ^ 60) : Bd 60 x := by unfold Bd; omega
theorem Bd.add {n m : Nat} {x y : Int} (hx : Bd n x) (hy : Bd m y) : Bd (n + m + 1) (x + y) := by
  unfold Bd at *
  have h1 : (x + y).natAbs ≤ x.natAbs + y.natAbs := Int.natAbs_add_le x y
  have h2 : 2 ^ n ≤ 2 ^ (n + m) := Nat.pow_le_pow_right (by decide) (by omega)
  have h3 : 2 ^ m ≤ 2 ^ (n + m) := Nat.pow_le_pow_right (by decide) (by omega)
  rw [Nat.pow_succ]; omega
theorem Bd.sub {n m : Nat} {x y : Int} (hx : Bd n x) (hy : Bd m y) : Bd (n + m + 1) (x - y) := by
  unfold Bd at *
  have h1 : (x - y).natAbs ≤ x.natAbs + y.natAbs := Int.natAbs_sub_le x y
  have h2 : 2 ^ n ≤ 2 ^ (n + m) := Nat.pow_le_pow_right (by decide) (by omega)
  have h3 : 2 ^ m ≤ 2 ^ (n + m) := Nat.pow_le_pow_right (by decide) (by omega)
  rw [Nat.pow_succ]; omega
theorem Bd.mul {n m : Nat} {x y : Int} (hx : Bd n x) (hy : Bd m y) : Bd (n + m) (x * y) := by
  unfold Bd at *
  rw [Int.natAbs_mul, Nat.pow_add]
  exact Nat.mul_lt_mul'' hx hy
theorem Bd.bits {n : Nat} {x : Int} (hx : Bd n x) (hn : n ≤ 2 ^ 20) : Builtin.Int.intBits x ≤ 2 ^ 20 := by
  exact Nat.le_trans (intBits_le hx) hn
theorem Bd.ok {n m : Nat} {x y : Int} (hx : Bd n x) (hy : Bd m y) (hn : n ≤ 2 ^ 20) (hm : m ≤ 2 ^ 20) : IntMulOk x y := IntMulOk.of_bits (hx.bits hn) (hy.bits hm)
theorem Bd.ok1 {x p y q : Int} (h1 : Bd 60 x) (h2 : Bd 60 p) (h3 : Bd 60 y) (h4 : Bd 60 q) : IntMulOk (x - p) (y - q) := (h1.sub h2).ok (h3.sub h4) (by decide) (by decide)
theorem Bd.ok2 {x1 p1 y1 q1 x2 p2 y2 q2 x3 p3 y3 q3 x4 p4 y4 q4 : Int} (h1 : Bd 60 x1) (h2 : Bd 60 p1) (h3 : Bd 60 y1) (h4 : Bd 60 q1) (h5 : Bd 60 x2) (h6 : Bd 60 p2) (h7 : Bd 60 y2) (h8 : Bd 60 q2)
    (h9 : Bd 60 x3) (h10 : Bd 60 p3) (h11 : Bd 60 y3) (h12 : Bd 60 q3) (h13 : Bd 60 x4) (h14 : Bd 60 p4) (h15 : Bd 60 y4) (h16 : Bd 60 q4) :
    IntMulOk ((x1 - p1) * (y1 - q1) + (x2 - p2) * (y2 - q2)) ((x3 - p3) * (y3 - q3) - (x4 - p4) * (y4 - q4)) :=
  (((h1.sub h2).mul (h3.sub h4)).add ((h5.sub h6).mul (h7.sub h8))).ok (((h9.sub h10).mul (h11.sub h12)).sub ((h13.sub h14).mul (h15.sub h16))) (by decide) (by decide)
noncomputable abbrev icp (px py ax ay bx b_y cx cy : Int) : Int :=
  ((ax - px) * (ax - px) + (ay - py) * (ay - py)) * ((bx - px) * (cy - py) - (b_y - py) * (cx - px)) +
    ((bx - px) * (bx - px) + (b_y - py) * (b_y - py)) * ((cx - px) * (ay - py) - (cy - py) * (ax - px)) +
    ((cx - px) * (cx - px) + (cy - py) * (cy - py)) * ((ax - px) * (b_y - py) - (ay - py) * (bx - px))
noncomputable abbrev ic (xy : Nat → Int × Int) (p a b c : Nat) : Int := icp (xy p).1 (xy p).2 (xy a).1 (xy a).2 (xy b).1 (xy b).2 (xy c).1 (xy c).2
noncomputable def locA (c : Int) : Addr := if 0 < c then 201 else if c < 0 then 195 else 198
theorem locA_pos {c : Int} (h : 0 < c) : locA c = 201 := if_pos h
theorem locA_neg {c : Int} (h1 : ¬ 0 < c) (h : c < 0) : locA c = 195 := (if_neg h1).trans (if_pos h)
theorem locA_zero {c : Int} (h1 : ¬ 0 < c) (h : ¬ c < 0) : locA c = 198 := (if_neg h1).trans (if_neg h)
local macro_rules | `(tactic| mul_fits) => `(tactic| k_extra "mul9")
example : True := by
  k_with "mul9" => (first | exact Bd.ok1 ‹_› ‹_› ‹_› ‹_› | exact Bd.ok2 ‹_› ‹_› ‹_› ‹_› ‹_› ‹_› ‹_› ‹_› ‹_› ‹_› ‹_› ‹_› ‹_› ‹_› ‹_› ‹_›)
  trivial
theorem c_loc {Rr : Result → Shared → Prop} {cxa pp pa pb pc : Addr} {px py ax ay bx b_y cx cy : Int} {t1 t2 t3 t4 t5 t6 t7 t8 : Tok} (B : Below A₀ base outer h₀) (F : Fr h₀ L s.heap m) (X : (hd.heap_1 w.params).In h₀) (N : News h₀ L s.heap news) (T : Top p loose mean mg mb h₀) (hk : cs.kind = .function) (hroom : dp + 6 < recursionLimit) (hu : un + 100 < cLine)
   (m1 : PtIn news pp px t1 py t2) (m2 : PtIn news pa ax t3 ay t4) (m3 : PtIn news pb bx t5 b_y t6) (m4 : PtIn news pc cx t7 cy t8)
   (b1 : -2 ^ 60 < px ∧ px < 2 ^ 60) (b2 : -2 ^ 60 < py ∧ py < 2 ^ 60) (b3 : -2 ^ 60 < ax ∧ ax < 2 ^ 60) (b4 : -2 ^ 60 < ay ∧ ay < 2 ^ 60) (b5 : -2 ^ 60 < bx ∧ bx < 2 ^ 60) (b6 : -2 ^ 60 < b_y ∧ b_y < 2 ^ 60) (b7 : -2 ^ 60 < cx ∧ cx < 2 ^ 60) (b8 : -2 ^ 60 < cy ∧ cy < 2 ^ 60)
   (ret : ∀ h' tk' , Fr h₀ L h' m → News h₀ L h' news → Rr (.ok (.ret (.ref (locA (icp px py ax ay bx b_y cx cy))))) { s with heap := h', toks := tk' }) :
   codeAny (model prog w) (ktrTop dp un gd cn cs L a ccd cl outer) (.call (.ref 258) ⟨[.ref cxa, .ref pp, .ref pa, .ref pb, .ref pc], []⟩) Rr s := by
  obtain h9 : Tag9 (P := codeAny (model prog w) (ktrTop dp un gd cn cs L a ccd cl outer) (.call (.ref 258) ⟨[.ref cxa, .ref pp, .ref pa, .ref pb, .ref pc], []⟩) Rr s) (by
    have d1 := Bd.of b1; have d2 := Bd.of b2; have d3 := Bd.of b3; have d4 := Bd.of b4; have d5 := Bd.of b5; have d6 := Bd.of b6; have d7 := Bd.of b7; have d8 := Bd.of b8
    clear b1 b2 b3 b4 b5 b6 b7 b8
    k_dflt k_enter
    k_steps
    · rw [locA_pos (c := icp px py ax ay bx b_y cx cy) (by assumption)] at ret; exact ret _ _ (by k_asm) (by first | k_asm | exact News.perm (by assumption) (by intro p9 hp9; (repeat refine mtl _ ?_); exact hp9))
    · rw [locA_neg (c := icp px py ax ay bx b_y cx cy) (by assumption) (by assumption)] at ret; exact ret _ _ (by k_asm) (by first | k_asm | exact News.perm (by assumption) (by intro p9 hp9; (repeat refine mtl _ ?_); exact hp9))
    · rw [locA_zero (c := icp px py ax ay bx b_y cx cy) (by assumption) (by assumption)] at ret; exact ret _ _ (by k_asm) (by first | k_asm | exact News.perm (by assumption) (by intro p9 hp9; (repeat refine mtl _ ?_); exact hp9))) := trivial
  unfold id at h9; exact h9.get
theorem g_loc {Rr : Result → Shared → Prop} {cx : Addr} {pts : List Addr} {xy : Nat → Int × Int} {al : List (Addr × Addr)} {st : List ERec} {i j k l : Nat} {pp pa pb pc : Addr} (B : Below A₀ base outer h₀) (F : Fr h₀ L s.heap m) (X : (hd.heap_1 w.params).In h₀) (N : News h₀ L s.heap news) (T : Top p loose mean mg mb h₀) (hk : cs.kind = .function) (R : Rep w.params news cx pts xy al st) (h1 : pts[i]? = some pp) (h2 : pts[j]? = some pa) (h3 : pts[k]? = some pb) (h4 : pts[l]? = some pc) (hroom : dp + 6 < recursionLimit) (hu : un + 100 < cLine)
   (ret : ∀ h' tk' , Fr h₀ L h' m → News h₀ L h' news → Rr (.ok (.ret (.ref (locA (ic xy i j k l))))) { s with heap := h', toks := tk' }) :
   codeAny (model prog w) (ktrTop dp un gd cn cs L a ccd cl outer) (.call (.ref 258) ⟨[.ref cx, .ref pp, .ref pa, .ref pb, .ref pc], []⟩) Rr s := by
  obtain ⟨t1, t2, m1⟩ := R.pin _ _ h1
  obtain ⟨t3, t4, m2⟩ := R.pin _ _ h2
  obtain ⟨t5, t6, m3⟩ := R.pin _ _ h3
  obtain ⟨t7, t8, m4⟩ := R.pin _ _ h4
  exact c_loc B F X N T hk hroom hu m1 m2 m3 m4 (R.bnd i).1 (R.bnd i).2 (R.bnd j).1 (R.bnd j).2 (R.bnd k).1 (R.bnd k).2 (R.bnd l).1 (R.bnd l).2 ret
example : True := by
  w_top off
  trivial
inductive Qry where
  | ccw (i j k : Nat)
  | cw (i j k : Nat)
  | inn (p a b c : Nat)
inductive DT (α : Type) where
  | ret (a : α)
  | fail
  | ask (q : Qry) (k : Bool → DT α)
namespace DT
noncomputable def bind {α β : Type} : DT α → (α → DT β) → DT β
  | .ret a, f => f a
  | .fail, _ => .fail
  | .ask q k, f => .ask q fun b => (k b).bind f
noncomputable def run {α : Type} (t : Qry → Bool) : DT α → Option α
  | .ret a => some a
  | .fail => none
  | .ask q k => (k (t q)).run t
theorem run_bind {α β : Type} (t : Qry → Bool) : ∀ (m : DT α) (f : α → DT β), (m.bind f).run t = (m.run t).bind fun a => (f a).run t
  | .ret _, _ => rfl
  | .fail, _ => rfl
  | .ask _ k, f => run_bind t (k _) f
end DT
noncomputable def truth (xy : Nat → Int × Int) : Qry → Bool
  | .ccw i j k => decide (0 < cr xy i j k)
  | .cw i j k => decide (cr xy i j k < 0)
  | .inn p a b c => decide (0 < ic xy p a b c)
noncomputable def dst (st : List ERec) (i : Nat) : Option Nat := org st (rot st (rot st i))
noncomputable def leftLoop : Nat → List ERec → Nat → Nat → DT (List ERec × Nat)
  | 0, _, _, _ => .fail
  | f + 1, st, base, res =>
    match dst st (lfs st res), dst st base, org st base, dst st res with
    | some q, some be, some bs, some re => .ask (.inn q be bs re) fun
      | true => .ask (.cw bs be q) fun
        | true => leftLoop f (deleteE st res) base (lfs st res)
        | false => .ret (st, res)
      | false => .ret (st, res)
    | _, _, _, _ => .fail
noncomputable def rightLoop : Nat → List ERec → Nat → Nat → DT (List ERec × Nat)
  | 0, _, _, _ => .fail
  | f + 1, st, base, res =>
    match dst st (rfs st res), dst st base, org st base, dst st res with
    | some q, some be, some bs, some re => .ask (.inn q be bs re) fun
      | true => .ask (.cw bs be q) fun
        | true => rightLoop f (deleteE st res) base (rfs st res)
        | false => .ret (st, res)
      | false => .ret (st, res)
    | _, _, _, _ => .fail
noncomputable def toLeft (f : Nat) (st : List ERec) (base : Nat) : DT (List ERec × Option Nat) :=
  match dst st (lfs st (opp st base)), org st base, dst st base with
  | some re, some bs, some be => .ask (.cw bs be re) fun
    | true => (leftLoop f st base (lfs st (opp st base))).bind fun x => .ret (x.1, some x.2)
    | false => .ret (st, none)
  | _, _, _ => .fail
noncomputable def toRight (f : Nat) (st : List ERec) (base : Nat) : DT (List ERec × Option Nat) :=
  match dst st (rfs st base), org st base, dst st base with
  | some re, some bs, some be => .ask (.cw bs be re) fun
    | true => (rightLoop f st base (rfs st base)).bind fun x => .ret (x.1, some x.2)
    | false => .ret (st, none)
  | _, _, _ => .fail
noncomputable def MwEnd {σ : Type} (h₀ : Heap) (L : Addr) (s : Shared) (y : Str) (stored : List Str) (val : σ → Value) (Inv : Nat → σ → List (Addr × Obj) → Prop) (m₀ : Str → Option Value) (Q : Flow → Shared → Prop) (n : Nat) (f : Flow) (s₃ : Shared) : Prop :=
  match f with
  | .brk => Q .next s₃
  | .ret v => Q (.ret v) s₃
  | _ => ∃ h' tk m' news' n' a', s₃ = { s with heap := h', toks := tk } ∧ Fr h₀ L h' m' ∧ News h₀ L h' news' ∧ n' < n ∧ Inv n' a' news' ∧ m' y = some (val a') ∧ ∀ x, x ≠ y → stored.contains x = false → m' x = m₀ x
theorem my_while {prog : Program} {w : World} {A : Around} {E : Value → Shared → Prop} {Q : Flow → Shared → Prop} {s : Shared} {env : Env} {h₀ : Heap} {L : Addr} {σ : Type} {test : Expr} {body : List Stmt} {pos : Pos} {m₀ : Str → Option Value} {news : List (Addr × Obj)} (y : Str) (stored : List Str) (val : σ → Value) (Inv : Nat → σ → List (Addr × Obj) → Prop) {n₀ : Nat} {a₀ : σ}
    (F : Fr h₀ L s.heap m₀) (N : News h₀ L s.heap news) (hy : m₀ y = some (val a₀)) (hi : Inv n₀ a₀ news)
    (turn : ∀ n a (u : Str → Option Value) news₁ h tk, Inv n a news₁ → Fr h₀ L h (fun x => if x = y then some (val a) else if stored.contains x then u x else m₀ x) → News h₀ L h news₁ →
      wpAny (model prog w) A (isTrue test env (eval test env)) (fun b s₂ =>
        if b = true then wpAny (model prog w) A (execs body env) (MwEnd h₀ L s y stored val Inv m₀ Q n) E s₂ else Q .next s₂) E { s with heap := h, toks := tk })
    (hE : PassesOwn (model prog w) A env E := by passes_own) :
    wpAny (model prog w) A (exec (.While test body [] pos) env) Q E s := by
  refine While_inv2 (fun n m nx => ∃ a, m y = some (val a) ∧ Inv n a nx ∧ ∀ x, x ≠ y → stored.contains x = false → m x = m₀ x) F N ⟨a₀, hy, hi, fun _ _ _ => rfl⟩ ?_ hE
  rintro n m₁ nx h tk F₁ N₁ ⟨a, hv, hI, hm⟩
  have e : (fun x => if x = y then some (val a) else if stored.contains x then m₁ x else m₀ x) = m₁ := by
    funext x
    by_cases h1 : x = y
    · subst h1; simp [hv]
    · simp only [if_neg h1]
      cases h9 : stored.contains x with
      | true => simp
      | false => simp only [Bool.false_eq_true, if_false]; exact (hm x h1 h9).symm
  refine wpAny_mono (turn n a m₁ nx h tk hI (by rw [e]; exact F₁) N₁) (fun b s₂ p => ?_) fun _ _ x => x
  cases b with
  | false => simpa using p
  | true =>
    simp only [if_true] at p ⊢
    refine wpAny_mono p (fun f s₃ q => ?_) fun _ _ x => x
    cases f with
    | ret v => exact q
    | brk => exact q
    | next =>
      obtain ⟨h', tk', m', news', n', a', rfl, F', N', hn, hI', hv', hm'⟩ := q
      exact ⟨h', tk', m', news', n', rfl, F', N', hn, a', hv', hI', hm'⟩
    | cont =>
      obtain ⟨h', tk', m', news', n', a', rfl, F', N', hn, hI', hv', hm'⟩ := q
      exact ⟨h', tk', m', news', n', rfl, F', N', hn, a', hv', hI', hm'⟩
theorem MwEnd.go {σ : Type} {h₀ : Heap} {L : Addr} {s : Shared} {y : Str} {stored : List Str} {val : σ → Value} {Inv : Nat → σ → List (Addr × Obj) → Prop} {m₀ m' : Str → Option Value} {Q : Flow → Shared → Prop} {n n' : Nat} {a' : σ} {h' : Heap} {tk : Nat} {news' : List (Addr × Obj)}
    (F : Fr h₀ L h' m') (N : News h₀ L h' news') (hn : n' < n) (hI : Inv n' a' news') (hv : m' y = some (val a')) (hm : ∀ x, x ≠ y → stored.contains x = false → m' x = m₀ x) : MwEnd h₀ L s y stored val Inv m₀ Q n .next { s with heap := h', toks := tk } :=
  ⟨h', tk, m', news', n', a', rfl, F, N, hn, hI, hv, hm⟩
theorem is_refs {M : Model} {A : Around} {E : Value → Shared → Prop} {s : Shared} {Q : Value → Shared → Prop} {x y : Addr} {ox oy : Obj} (hx : s.heap.get? x = some ox) (hy : s.heap.get? y = some oy) (hb : ox.cls ≠ Value.type "tuple") (h : Q (.bool (decide (x = y))) s) : wpAny M A (compareOp .Is (.ref x) (.ref y)) Q E s := by
  by_cases e : x = y
  · subst e; rw [decide_eq_true rfl] at h; exact wpAny_is_ref_self h
  · rw [decide_eq_false e] at h; exact kto_is hx hy e hb h
noncomputable def Halt (p : Prop) : Prop := p
theorem Halt.of {p : Prop} (h : Halt p) : p := h
theorem lk172 (P : Params) : (hd.heap_1 P).lookup 172 = some { cls := .ref 159, dict := some 171 } := by k_is
theorem lk175 (P : Params) : (hd.heap_1 P).lookup 175 = some { cls := .ref 159, dict := some 174 } := by k_is
theorem lk178 (P : Params) : (hd.heap_1 P).lookup 178 = some { cls := .ref 159, dict := some 177 } := by k_is
theorem lk195 (P : Params) : (hd.heap_1 P).lookup 195 = some { cls := .ref 159, dict := some 194 } := by k_is
theorem lk198 (P : Params) : (hd.heap_1 P).lookup 198 = some { cls := .ref 159, dict := some 197 } := by k_is
theorem lk201 (P : Params) : (hd.heap_1 P).lookup 201 = some { cls := .ref 159, dict := some 200 } := by k_is
theorem is_ccw {M : Model} {P : Params} {A : Around} {E : Value → Shared → Prop} {s : Shared} {Q : Value → Shared → Prop} {c : Int} (X : (hd.heap_1 P).In s.heap) (h : Q (.bool (decide (0 < c))) s) : wpAny M A (compareOp .Is (.ref (oriA c)) (.ref 178)) Q E s := by
  by_cases h1 : 0 < c
  · rw [decide_eq_true h1] at h; rw [oriA_pos h1]; exact wpAny_is_ref_self h
  · rw [decide_eq_false h1] at h
    by_cases h2 : c < 0
    · rw [oriA_neg h1 h2]; exact kto_is (X _ _ (lk172 P)) (X _ _ (lk178 P)) (by decide) (fun z => by cases z) h
    · rw [oriA_zero h1 h2]; exact kto_is (X _ _ (lk175 P)) (X _ _ (lk178 P)) (by decide) (fun z => by cases z) h
theorem is_cw {M : Model} {P : Params} {A : Around} {E : Value → Shared → Prop} {s : Shared} {Q : Value → Shared → Prop} {c : Int} (X : (hd.heap_1 P).In s.heap) (h : Q (.bool (decide (c < 0))) s) : wpAny M A (compareOp .Is (.ref (oriA c)) (.ref 172)) Q E s := by
  by_cases h1 : 0 < c
  · rw [decide_eq_false (by omega)] at h; rw [oriA_pos h1]; exact kto_is (X _ _ (lk178 P)) (X _ _ (lk172 P)) (by decide) (fun z => by cases z) h
  · by_cases h2 : c < 0
    · rw [decide_eq_true h2] at h; rw [oriA_neg h1 h2]; exact wpAny_is_ref_self h
    · rw [decide_eq_false h2] at h; rw [oriA_zero h1 h2]; exact kto_is (X _ _ (lk175 P)) (X _ _ (lk172 P)) (by decide) (fun z => by cases z) h
theorem isnot_cw {M : Model} {P : Params} {A : Around} {E : Value → Shared → Prop} {s : Shared} {Q : Value → Shared → Prop} {c : Int} (X : (hd.heap_1 P).In s.heap) (h : Q (.bool (!decide (c < 0))) s) : wpAny M A (compareOp .IsNot (.ref (oriA c)) (.ref 172)) Q E s := by
  by_cases h1 : 0 < c
  · rw [decide_eq_false (show ¬ c < 0 by omega)] at h; rw [oriA_pos h1]; exact kto_isnot (X _ _ (lk178 P)) (X _ _ (lk172 P)) (by decide) (fun z => by cases z) h
  · by_cases h2 : c < 0
    · rw [decide_eq_true h2] at h; rw [oriA_neg h1 h2]; exact wpAny_isNot_ref_self h
    · rw [decide_eq_false h2] at h; rw [oriA_zero h1 h2]; exact kto_isnot (X _ _ (lk175 P)) (X _ _ (lk172 P)) (by decide) (fun z => by cases z) h
theorem is_inn {M : Model} {P : Params} {A : Around} {E : Value → Shared → Prop} {s : Shared} {Q : Value → Shared → Prop} {c : Int} (X : (hd.heap_1 P).In s.heap) (h : Q (.bool (decide (0 < c))) s) : wpAny M A (compareOp .Is (.ref (locA c)) (.ref 201)) Q E s := by
  by_cases h1 : 0 < c
  · rw [decide_eq_true h1] at h; rw [locA_pos h1]; exact wpAny_is_ref_self h
  · rw [decide_eq_false h1] at h
    by_cases h2 : c < 0
    · rw [locA_neg h1 h2]; exact kto_is (X _ _ (lk195 P)) (X _ _ (lk201 P)) (by decide) (fun z => by cases z) h
    · rw [locA_zero h1 h2]; exact kto_is (X _ _ (lk198 P)) (X _ _ (lk201 P)) (by decide) (fun z => by cases z) h
section
variable {M : Model} {P : Params} {A : Around} {E : Value → Shared → Prop} {s : Shared} {Q : Value → Shared → Prop} {c : Int}
theorem is_ccw_t (X : (hd.heap_1 P).In s.heap) (hc : 0 < c) (h : Q (.bool true) s) : wpAny M A (compareOp .Is (.ref (oriA c)) (.ref 178)) Q E s := is_ccw X (by rw [decide_eq_true hc]; exact h)
theorem is_ccw_f (X : (hd.heap_1 P).In s.heap) (hc : ¬ 0 < c) (h : Q (.bool false) s) : wpAny M A (compareOp .Is (.ref (oriA c)) (.ref 178)) Q E s := is_ccw X (by rw [decide_eq_false hc]; exact h)
theorem is_cw_t (X : (hd.heap_1 P).In s.heap) (hc : c < 0) (h : Q (.bool true) s) : wpAny M A (compareOp .Is (.ref (oriA c)) (.ref 172)) Q E s := is_cw X (by rw [decide_eq_true hc]; exact h)
theorem is_cw_f (X : (hd.heap_1 P).In s.heap) (hc : ¬ c < 0) (h : Q (.bool false) s) : wpAny M A (compareOp .Is (.ref (oriA c)) (.ref 172)) Q E s := is_cw X (by rw [decide_eq_false hc]; exact h)
theorem isnot_cw_t (X : (hd.heap_1 P).In s.heap) (hc : c < 0) (h : Q (.bool false) s) : wpAny M A (compareOp .IsNot (.ref (oriA c)) (.ref 172)) Q E s := isnot_cw X (by rw [decide_eq_true hc]; exact h)
theorem isnot_cw_f (X : (hd.heap_1 P).In s.heap) (hc : ¬ c < 0) (h : Q (.bool true) s) : wpAny M A (compareOp .IsNot (.ref (oriA c)) (.ref 172)) Q E s := isnot_cw X (by rw [decide_eq_false hc]; exact h)
theorem is_inn_t (X : (hd.heap_1 P).In s.heap) (hc : 0 < c) (h : Q (.bool true) s) : wpAny M A (compareOp .Is (.ref (locA c)) (.ref 201)) Q E s := is_inn X (by rw [decide_eq_true hc]; exact h)
theorem is_inn_f (X : (hd.heap_1 P).In s.heap) (hc : ¬ 0 < c) (h : Q (.bool false) s) : wpAny M A (compareOp .Is (.ref (locA c)) (.ref 201)) Q E s := is_inn X (by rw [decide_eq_false hc]; exact h)
end
noncomputable def CVal (al : List (Addr × Addr)) : Option Nat → Value → Prop
  | none, v => v = .none
  | some r, v => ∃ a d, al[r]? = some (a, d) ∧ v = .ref a
theorem Step.keepq {al al' : List (Addr × Addr)} {n n' : List (Addr × Obj)} {q : Addr} {f v : Value} (s : Step al n al' n') (m : (q, methodObj f v) ∈ n) (hn : q ∉ al.map (·.2)) : (q, methodObj f v) ∈ n' := (s.2 _ m hn).1
theorem cval_none {al : List (Addr × Addr)} {v : Value} (h : CVal al none v) : v = .none := h
theorem cval_some {al : List (Addr × Addr)} {v : Value} {r : Nat} (h : CVal al (some r) v) : ∃ a d, al[r]? = some (a, d) ∧ v = .ref a := h
theorem Rep.off {P : Params} {h₀ h : Heap} {L : Addr} {news : List (Addr × Obj)} {cx : Addr} {pts : List Addr} {xy : Nat → Int × Int} {al : List (Addr × Addr)} {st : List ERec} {q : Addr} {o : Obj}
    (R : Rep P news cx pts xy al st) (N : News h₀ L h news) (m : (q, o) ∈ news) (ho : ∀ es n, o ≠ dictOf es n) : q ∉ al.map (·.2) := by
  intro hm
  obtain ⟨x, hx, rfl⟩ := List.mem_map.mp hm
  obtain ⟨i, hi⟩ := List.mem_iff_getElem?.mp hx
  obtain ⟨_, t1, t2, t3, t4, la, ld, ra, rd, sv, _, _, _, m2⟩ := R.at (i := i) (a := x.1) (d := x.2) hi
  have y1 := (N _ m).1
  have y2 := (N _ m2).1
  rw [y1] at y2
  exact ho _ _ (Option.some.inj y2)
theorem Rep.meth {P : Params} {h₀ h : Heap} {L : Addr} {news news' : List (Addr × Obj)} {cx : Addr} {pts : List Addr} {xy : Nat → Int × Int} {al al' : List (Addr × Addr)} {st : List ERec} {q : Addr} {f v : Value}
    (R : Rep P news cx pts xy al st) (N : News h₀ L h news) (m : (q, methodObj f v) ∈ news) (S : Step al news al' news') : (q, methodObj f v) ∈ news' :=
  (S.2 _ m (R.off N m fun es n z => absurd (congrArg Obj.cls z) (show ¬ Value.type "method" = Value.type "dict" from by decide))).1
example : True := by
  w_top off
  k_with "getAttr ref" => w_strict (k_here; (with_reducible show wpAny _ _ (getAttr (Value.ref _) (Str.ofString "rotated") _) _ _ _); k_dflt (refine g_rotated (by k_asm) (by k_asm) (by k_asm) (by k_asm) (by k_asm) (by first | exact rfl | assumption) (by (first | assumption | exact Rep.mono ‹_› (by intro p9 hp9; first | exact mtl _ hp9 | exact mtl _ (mtl _ hp9) | exact mtl _ (mtl _ (mtl _ hp9))))) (by (first | assumption | exact Step.up ‹_› ‹_›))  (by ktr_room) ?_; k_whole); intro _ _ _ _ _ _ _; (try k_sweep))
  k_with "getAttr ref" => w_strict (k_here; (with_reducible show wpAny _ _ (getAttr (Value.ref _) (Str.ofString "left_from_start") _) _ _ _); k_dflt (refine g_left_from_start (by k_asm) (by k_asm) (by k_asm) (by k_asm) (by k_asm) (by first | exact rfl | assumption) (by (first | assumption | exact Rep.mono ‹_› (by intro p9 hp9; first | exact mtl _ hp9 | exact mtl _ (mtl _ hp9) | exact mtl _ (mtl _ (mtl _ hp9))))) (by (first | assumption | exact Step.up ‹_› ‹_›))  (by ktr_room) ?_; k_whole); intro _ _ _ _ _ _ _; (try k_sweep))
  k_with "getAttr ref" => w_strict (k_here; (with_reducible show wpAny _ _ (getAttr (Value.ref _) (Str.ofString "context") _) _ _ _); k_dflt (refine g_context (by k_asm) (by k_asm) (by k_asm) (by k_asm) (by k_asm) (by first | exact rfl | assumption) (by (first | assumption | exact Rep.mono ‹_› (by intro p9 hp9; first | exact mtl _ hp9 | exact mtl _ (mtl _ hp9) | exact mtl _ (mtl _ (mtl _ hp9))))) (by (first | assumption | exact Step.up ‹_› ‹_›))  (by ktr_room) ?_; k_whole); intro _ _ _ _; (try k_sweep))
  k_with "getAttr ref" => w_strict (k_here; (with_reducible show wpAny _ _ (getAttr (Value.ref _) (Str.ofString "start") _) _ _ _); k_dflt (refine g_start (by k_asm) (by k_asm) (by k_asm) (by k_asm) (by k_asm) (by first | exact rfl | assumption) (by (first | assumption | exact Rep.mono ‹_› (by intro p9 hp9; first | exact mtl _ hp9 | exact mtl _ (mtl _ hp9) | exact mtl _ (mtl _ (mtl _ hp9))))) (by (first | assumption | exact Step.up ‹_› ‹_›)) ‹_› (by ktr_room) ?_; k_whole); intro _ _ _ _ _ _; (try k_sweep))
  k_with "getAttr ref" => w_strict (k_here; (with_reducible show wpAny _ _ (getAttr (Value.ref _) (Str.ofString "opposite") _) _ _ _); k_dflt (refine g_opposite (by k_asm) (by k_asm) (by k_asm) (by k_asm) (by k_asm) (by first | exact rfl | assumption) (by (first | assumption | exact Rep.mono ‹_› (by intro p9 hp9; first | exact mtl _ hp9 | exact mtl _ (mtl _ hp9) | exact mtl _ (mtl _ (mtl _ hp9))))) (by (first | assumption | exact Step.up ‹_› ‹_›))  (by ktr_room) ?_; k_whole); intro _ _ _ _ _ _ _; (try k_sweep))
  k_with "getAttr ref" => w_strict (k_here; (with_reducible show wpAny _ _ (getAttr (Value.ref _) (Str.ofString "left_from_end") _) _ _ _); k_dflt (refine g_left_from_end (by k_asm) (by k_asm) (by k_asm) (by k_asm) (by k_asm) (by first | exact rfl | assumption) (by (first | assumption | exact Rep.mono ‹_› (by intro p9 hp9; first | exact mtl _ hp9 | exact mtl _ (mtl _ hp9) | exact mtl _ (mtl _ (mtl _ hp9))))) (by (first | assumption | exact Step.up ‹_› ‹_›))  (by ktr_room) ?_; k_whole); intro _ _ _ _ _ _ _; (try k_sweep))
  k_with "getAttr ref" => w_strict (k_here; (with_reducible show wpAny _ _ (getAttr (Value.ref _) (Str.ofString "right_from_start") _) _ _ _); k_dflt (refine g_right_from_start (by k_asm) (by k_asm) (by k_asm) (by k_asm) (by k_asm) (by first | exact rfl | assumption) (by (first | assumption | exact Rep.mono ‹_› (by intro p9 hp9; first | exact mtl _ hp9 | exact mtl _ (mtl _ hp9) | exact mtl _ (mtl _ (mtl _ hp9))))) (by (first | assumption | exact Step.up ‹_› ‹_›))  (by ktr_room) ?_; k_whole); intro _ _ _ _ _ _ _; (try k_sweep))
  k_with "getAttr ref" => w_strict (k_here; (with_reducible show wpAny _ _ (getAttr (Value.ref _) (Str.ofString "right_from_end") _) _ _ _); k_dflt (refine g_right_from_end (by k_asm) (by k_asm) (by k_asm) (by k_asm) (by k_asm) (by first | exact rfl | assumption) (by (first | assumption | exact Rep.mono ‹_› (by intro p9 hp9; first | exact mtl _ hp9 | exact mtl _ (mtl _ hp9) | exact mtl _ (mtl _ (mtl _ hp9))))) (by (first | assumption | exact Step.up ‹_› ‹_›))  (by ktr_room) ?_; k_whole); intro _ _ _ _ _ _ _; (try k_sweep))
  k_with "getAttr ref" => w_strict (k_here; (with_reducible show wpAny _ _ (getAttr (Value.ref _) (Str.ofString "end") _) _ _ _); k_dflt (refine g_end (by k_asm) (by k_asm) (by k_asm) (by k_asm) (by k_asm) (by first | exact rfl | assumption) (by (first | assumption | exact Rep.mono ‹_› (by intro p9 hp9; first | exact mtl _ hp9 | exact mtl _ (mtl _ hp9) | exact mtl _ (mtl _ (mtl _ hp9))))) (by (first | assumption | exact Step.up ‹_› ‹_›)) ‹_› (by ktr_room) ?_; k_whole); intro _ _ _ _ _ _; (try k_sweep))
  k_with "getMethod ref" => w_strict (k_here; (with_reducible show wpAny _ _ (getMethod (Value.ref _) (Str.ofString "splice") _) _ _ _); k_dflt (refine g_meth_splice (by k_asm) (by k_asm) (by k_asm) (by (first | assumption | exact Rep.mono ‹_› (by intro p9 hp9; first | exact mtl _ hp9 | exact mtl _ (mtl _ hp9) | exact mtl _ (mtl _ (mtl _ hp9))))) (by (first | assumption | exact Step.up ‹_› ‹_›)) ?_; k_whole))
  k_with "getMethod ref" => w_strict (k_here; (with_reducible show wpAny _ _ (getMethod (Value.ref _) (Str.ofString "connect") _) _ _ _); k_dflt (refine g_meth_connect (by k_asm) (by k_asm) (by k_asm) (by (first | assumption | exact Rep.mono ‹_› (by intro p9 hp9; first | exact mtl _ hp9 | exact mtl _ (mtl _ hp9) | exact mtl _ (mtl _ (mtl _ hp9))))) (by (first | assumption | exact Step.up ‹_› ‹_›)) ?_; k_whole))
  k_with "getMethod ref" => w_strict (k_here; (with_reducible show wpAny _ _ (getMethod (Value.ref _) (Str.ofString "delete") _) _ _ _); k_dflt (refine g_meth_delete (by k_asm) (by k_asm) (by k_asm) (by (first | assumption | exact Rep.mono ‹_› (by intro p9 hp9; first | exact mtl _ hp9 | exact mtl _ (mtl _ hp9) | exact mtl _ (mtl _ (mtl _ hp9))))) (by (first | assumption | exact Step.up ‹_› ‹_›)) ?_; k_whole))
  k_with "getMethod ref" => w_strict (k_here; (with_reducible show wpAny _ _ (getMethod (Value.ref _) (Str.ofString "orientation_of") _) _ _ _); k_dflt (refine g_meth_orientation_of (by k_asm) (by k_asm) (by k_asm) (by (first | assumption | exact Rep.mono ‹_› (by intro p9 hp9; first | exact mtl _ hp9 | exact mtl _ (mtl _ hp9) | exact mtl _ (mtl _ (mtl _ hp9))))) (by (first | assumption | exact Step.up ‹_› ‹_›)) ?_; k_whole))
  k_with "call ref" => w_strict (k_here; (with_reducible show wpAny _ _ (call (Value.ref 397) [Value.ref _, Value.ref _] _) _ _ _); k_dflt (refine g_orient (by k_asm) (by k_asm) (by k_asm) (by k_asm) (by k_asm) (by first | exact rfl | assumption) (by (first | assumption | exact Rep.mono ‹_› (by intro p9 hp9; first | exact mtl _ hp9 | exact mtl _ (mtl _ hp9) | exact mtl _ (mtl _ (mtl _ hp9))))) (by (first | assumption | exact Step.up ‹_› ‹_›)) ‹_› ‹_› ‹_› (by ktr_room) (by ktr_units) ?_; k_whole); intro _ _ _ _; (try k_sweep))
  k_with "call ref" => w_strict (k_here; (with_reducible show wpAny _ _ (call (Value.ref _) [Value.ref _, Value.ref _, Value.ref _, Value.ref _] _) _ _ _); k_dflt (refine call_meth (by k_asm) (by k_mem) ?_; k_whole; refine g_loc (by k_asm) (by k_asm) (by k_asm) (by k_asm) (by k_asm) (by first | exact rfl | assumption) (by (first | assumption | exact Rep.mono ‹_› (by intro p9 hp9; first | exact mtl _ hp9 | exact mtl _ (mtl _ hp9) | exact mtl _ (mtl _ (mtl _ hp9))))) ‹_› ‹_› ‹_› ‹_› (by ktr_room) (by ktr_units) ?_; k_whole); intro _ _ _ _; (try k_sweep))
  k_with "compareOp Is ref ref" => w_strict (k_here; (with_reducible show wpAny _ _ (compareOp CmpOp.Is (Value.ref (oriA _)) (Value.ref _)) _ _ _); k_dflt (first | (refine is_ccw_t (by k_in) ‹_› ?_; k_whole) | (refine is_ccw_f (by k_in) ‹_› ?_; k_whole) | (refine is_cw_t (by k_in) ‹_› ?_; k_whole) | (refine is_cw_f (by k_in) ‹_› ?_; k_whole)))
  k_with "compareOp IsNot ref ref" => w_strict (k_here; (with_reducible show wpAny _ _ (compareOp CmpOp.IsNot (Value.ref (oriA _)) (Value.ref _)) _ _ _); k_dflt (first | (refine isnot_cw_t (by k_in) ‹_› ?_; k_whole) | (refine isnot_cw_f (by k_in) ‹_› ?_; k_whole)))
  k_with "compareOp Is ref ref" => w_strict (k_here; (with_reducible show wpAny _ _ (compareOp CmpOp.Is (Value.ref (locA _)) (Value.ref _)) _ _ _); k_dflt (first | (refine is_inn_t (by k_in) ‹_› ?_; k_whole) | (refine is_inn_f (by k_in) ‹_› ?_; k_whole)))
  k_with "call ref" => w_strict (k_here; (with_reducible show wpAny _ _ (call (Value.ref 390) _ _) _ _ _); k_dflt (refine g_delete (by k_asm) (by k_asm) (by k_asm) (by k_asm) (by k_asm) (by first | exact rfl | assumption) (by (first | assumption | exact Rep.mono ‹_› (by intro p9 hp9; first | exact mtl _ hp9 | exact mtl _ (mtl _ hp9) | exact mtl _ (mtl _ (mtl _ hp9))))) (by (first | assumption | exact Step.up ‹_› ‹_›)) (by ktr_room) ?_; k_whole); (rename Rep _ _ _ _ _ _ _ => rOld9; rename Step _ _ _ _ => sOld9); intro _ _ _ _ _ _ S'; (first | replace S' := Step.trans sOld9 S' | replace S' := Step.comp1 sOld9 S' | replace S' := Step.comp2 sOld9 S' | replace S' := Step.comp3 sOld9 S' | replace S' := Step.comp4 sOld9 S'); clear rOld9 sOld9; (try k_sweep); (try (revert S'; intro _)))
  k_with "exec While" => w_strict ((with_reducible show wpAny _ _ (exec (Stmt.While _ _ _ _) _) _ _ _); refine Halt.of ?_)
  k_with "exec While BoolOp" => w_strict ((with_reducible show wpAny _ _ (exec (Stmt.While _ _ _ _) _) _ _ _); refine Halt.of ?_)
  trivial
theorem g_left {cx : Addr} {pts : List Addr} {xy : Nat → Int × Int} {al : List (Addr × Addr)} {st : List ERec} {fuel i : Nat} {e d q : Addr} {fin : List ERec × Option Nat} (B : Below A₀ base outer h₀) (F : Fr h₀ L s.heap m) (X : (hd.heap_1 w.params).In h₀) (N : News h₀ L s.heap news) (T : Top p loose mean mg mb h₀) (hk : cs.kind = .function) (R : Rep w.params news cx pts xy al st) (hi : al[i]? = some (e, d)) (mq : (q, methodObj (.ref 258) (.ref cx)) ∈ news) (hrun : (toLeft fuel st i).run (truth xy) = some fin) (hroom : dp + 16 < recursionLimit) (hu : un + 300 < cLine)
   (ret : ∀ h' tk' news' v, Fr h₀ L h' m → News h₀ L h' news' → Rep w.params news' cx pts xy al fin.1 → Step al news al news' → CVal al fin.2 v → Q v { s with heap := h', toks := tk' }) :
   wpAny (model prog w) (ktrTop dp un gd cn cs L a ccd cl outer) (call (.ref 513) [.ref e, .ref q]) Q E s := by
  obtain h9 : Tag9 (P := wpAny (model prog w) (ktrTop dp un gd cn cs L a ccd cl outer) (call (.ref 513) [.ref e, .ref q]) Q E s) (by
    unfold toLeft at hrun
    split at hrun
    · rename_i re bs be z1 z2 z3
      by_cases hc : cr xy bs be re < 0
      · simp only [DT.run, truth, decide_eq_true hc] at hrun
        refine wpAny_call ?_
        have S0 : Step al news al news := Step.refl
        have hoff : q ∉ al.map (·.2) := R.off N mq fun es n z => absurd (congrArg Obj.cls z) (show ¬ Value.type "method" = Value.type "dict" from by decide)
        k_dflt k_enter
        k_steps
        unfold Halt
        rw [DT.run_bind] at hrun
        obtain ⟨fin0, hr0, hfin⟩ := Option.bind_eq_some_iff.mp hrun
        cases hfin
        rename (al[lfs st (rot st (rot st i))]? = some (_, _)) => hb
        refine' my_while (σ := List ERec × Nat × Addr × Addr) "result" ["next_candidate"] (fun x => .ref x.2.2.1) (fun n x nx => Rep w.params nx cx pts xy al x.1 ∧ Step al news al nx ∧ al[x.2.1]? = some x.2.2 ∧ (leftLoop n x.1 i x.2.1).run (truth xy) = some fin0 ∧ (q, methodObj (.ref 258) (.ref cx)) ∈ nx)
          (n₀ := fuel) (a₀ := (st, lfs st (opp st i), _, _)) ?F ?N ?hy ⟨R, S0, hb, hr0, mq⟩ ?turn ?hE
        case F => k_asm
        case N => k_asm
        case hy => rfl
        case hE => passes_own
        case turn =>
          intro n x u nx h' tk' hI F' N'
          obtain ⟨st1, r, ra, rd⟩ := x
          obtain ⟨R1, S1, g1, hr, mq1⟩ := hI
          dsimp only at R1 g1 hr F'
          clear R S0 hr0 z1 z2 z3 hc hb
          (try k_fold)
          cases n with
          | zero => cases hr
          | succ n =>
            unfold leftLoop at hr
            split at hr
            · rename_i q0 be0 bs0 re0 y1 y2 y3 y4
              by_cases hin : 0 < ic xy q0 be0 bs0 re0
              · simp only [DT.run, truth, decide_eq_true hin] at hr
                by_cases hcw : cr xy bs0 be0 q0 < 0
                · simp only [DT.run, truth, decide_eq_true hcw] at hr
                  k_steps
                  rename (Step al news al _) => Sx
                  refine' MwEnd.go (a' := (deleteE st1 r, lfs st1 r, ?ra, ?rd)) ?F ?N (Nat.lt_succ_self _) ?hI ?hv ?hm
                  case F => k_asm
                  case N => k_asm
                  case hv => exact rfl
                  case hI => exact ⟨by assumption, Sx, by assumption, hr, (Sx.2 _ mq hoff).1⟩
                  case hm => (intro x9 h9 g9; have g8 := g9; simp only [List.contains_cons, List.contains_nil, Bool.or_false, beq_eq_false_iff_ne, ne_eq] at g8; simp only [if_neg h9, if_neg g8, g9, Bool.false_eq_true, if_false])
                · simp only [DT.run, truth, decide_eq_false hcw] at hr
                  cases hr
                  k_steps
                  all_goals exact ret _ _ _ _ (by k_asm) (by k_asm) (by assumption) (by assumption) ⟨_, _, g1, rfl⟩
              · simp only [DT.run, truth, decide_eq_false hin] at hr
                cases hr
                k_steps
                all_goals exact ret _ _ _ _ (by k_asm) (by k_asm) (by assumption) (by assumption) ⟨_, _, g1, rfl⟩
            · cases hr
      · simp only [DT.run, truth, decide_eq_false hc] at hrun
        cases hrun
        refine wpAny_call ?_
        have S0 : Step al news al news := Step.refl
        k_dflt k_enter
        k_steps
        all_goals exact ret _ _ _ _ (by k_asm) (by k_asm) (by assumption) (by assumption) rfl
    · cases hrun) := trivial
  unfold id at h9; exact h9.get
example : True := by
  w_top off
  trivial
theorem g_right {cx : Addr} {pts : List Addr} {xy : Nat → Int × Int} {al : List (Addr × Addr)} {st : List ERec} {fuel i : Nat} {e d q : Addr} {fin : List ERec × Option Nat} (B : Below A₀ base outer h₀) (F : Fr h₀ L s.heap m) (X : (hd.heap_1 w.params).In h₀) (N : News h₀ L s.heap news) (T : Top p loose mean mg mb h₀) (hk : cs.kind = .function) (R : Rep w.params news cx pts xy al st) (hi : al[i]? = some (e, d)) (mq : (q, methodObj (.ref 258) (.ref cx)) ∈ news) (hrun : (toRight fuel st i).run (truth xy) = some fin) (hroom : dp + 16 < recursionLimit) (hu : un + 300 < cLine)
   (ret : ∀ h' tk' news' v, Fr h₀ L h' m → News h₀ L h' news' → Rep w.params news' cx pts xy al fin.1 → Step al news al news' → CVal al fin.2 v → Q v { s with heap := h', toks := tk' }) :
   wpAny (model prog w) (ktrTop dp un gd cn cs L a ccd cl outer) (call (.ref 520) [.ref e, .ref q]) Q E s := by
  obtain h9 : Tag9 (P := wpAny (model prog w) (ktrTop dp un gd cn cs L a ccd cl outer) (call (.ref 520) [.ref e, .ref q]) Q E s) (by
    unfold toRight at hrun
    split at hrun
    · rename_i re bs be z1 z2 z3
      by_cases hc : cr xy bs be re < 0
      · simp only [DT.run, truth, decide_eq_true hc] at hrun
        refine wpAny_call ?_
        have S0 : Step al news al news := Step.refl
        have hoff : q ∉ al.map (·.2) := R.off N mq fun es n z => absurd (congrArg Obj.cls z) (show ¬ Value.type "method" = Value.type "dict" from by decide)
        k_dflt k_enter
        k_steps
        unfold Halt
        rw [DT.run_bind] at hrun
        obtain ⟨fin0, hr0, hfin⟩ := Option.bind_eq_some_iff.mp hrun
        cases hfin
        rename (al[rot st (lfs st (rot st i))]? = some (_, _)) => hb
        refine' my_while (σ := List ERec × Nat × Addr × Addr) "result" ["next_candidate"] (fun x => .ref x.2.2.1) (fun n x nx => Rep w.params nx cx pts xy al x.1 ∧ Step al news al nx ∧ al[x.2.1]? = some x.2.2 ∧ (rightLoop n x.1 i x.2.1).run (truth xy) = some fin0 ∧ (q, methodObj (.ref 258) (.ref cx)) ∈ nx)
          (n₀ := fuel) (a₀ := (st, rfs st i, _, _)) ?F ?N ?hy ⟨R, S0, hb, hr0, mq⟩ ?turn ?hE
        case F => k_asm
        case N => k_asm
        case hy => rfl
        case hE => passes_own
        case turn =>
          intro n x u nx h' tk' hI F' N'
          obtain ⟨st1, r, ra, rd⟩ := x
          obtain ⟨R1, S1, g1, hr, mq1⟩ := hI
          dsimp only at R1 g1 hr F'
          clear R S0 hr0 z1 z2 z3 hc hb
          (try k_fold)
          cases n with
          | zero => cases hr
          | succ n =>
            unfold rightLoop at hr
            split at hr
            · rename_i q0 be0 bs0 re0 y1 y2 y3 y4
              by_cases hin : 0 < ic xy q0 be0 bs0 re0
              · simp only [DT.run, truth, decide_eq_true hin] at hr
                by_cases hcw : cr xy bs0 be0 q0 < 0
                · simp only [DT.run, truth, decide_eq_true hcw] at hr
                  k_steps
                  rename (Step al news al _) => Sx
                  refine' MwEnd.go (a' := (deleteE st1 r, rfs st1 r, ?ra, ?rd)) ?F ?N (Nat.lt_succ_self _) ?hI ?hv ?hm
                  case F => k_asm
                  case N => k_asm
                  case hv => exact rfl
                  case hI => exact ⟨by assumption, Sx, by assumption, hr, (Sx.2 _ mq hoff).1⟩
                  case hm => (intro x9 h9 g9; have g8 := g9; simp only [List.contains_cons, List.contains_nil, Bool.or_false, beq_eq_false_iff_ne, ne_eq] at g8; simp only [if_neg h9, if_neg g8, g9, Bool.false_eq_true, if_false])
                · simp only [DT.run, truth, decide_eq_false hcw] at hr
                  cases hr
                  k_steps
                  all_goals exact ret _ _ _ _ (by k_asm) (by k_asm) (by assumption) (by assumption) ⟨_, _, g1, rfl⟩
              · simp only [DT.run, truth, decide_eq_false hin] at hr
                cases hr
                k_steps
                all_goals exact ret _ _ _ _ (by k_asm) (by k_asm) (by assumption) (by assumption) ⟨_, _, g1, rfl⟩
            · cases hr
      · simp only [DT.run, truth, decide_eq_false hc] at hrun
        cases hrun
        refine wpAny_call ?_
        have S0 : Step al news al news := Step.refl
        k_dflt k_enter
        k_steps
        all_goals exact ret _ _ _ _ (by k_asm) (by k_asm) (by assumption) (by assumption) rfl
    · cases hrun) := trivial
  unfold id at h9; exact h9.get
noncomputable def conn (st : List ERec) (i j : Nat) : DT (List ERec × Nat) :=
  match dst st i, org st j with
  | some s, some e => .ret (connectE st i j s e, st.length)
  | _, _ => .fail
noncomputable def connectNext (st : List ERec) (base : Nat) : Option Nat → Option Nat → DT (Option (List ERec × Nat))
  | none, none => .ret none
  | none, some r => (conn st r (opp st base)).bind fun x => .ret (some x)
  | some l, none => (conn st (opp st base) (opp st l)).bind fun x => .ret (some x)
  | some l, some r =>
    if l = r then .fail else
    match dst st r, dst st l, dst st base, org st base with
    | some re, some le, some be, some bs => .ask (.inn re le be bs) fun
      | true => (conn st r (opp st base)).bind fun x => .ret (some x)
      | false => (conn st (opp st base) (opp st l)).bind fun x => .ret (some x)
    | _, _, _, _ => .fail
noncomputable def connectLoop (F : Nat) : Nat → List ERec → Nat → DT (List ERec)
  | 0, _, _ => .fail
  | f + 1, st, base =>
    (toLeft F st base).bind fun x => (toRight F x.1 base).bind fun y => (connectNext y.1 base x.2 y.2).bind fun
      | none => .ret y.1
      | some z => connectLoop F f z.1 z.2
theorem Rep.ne {P : Params} {h₀ h : Heap} {L : Addr} {news : List (Addr × Obj)} {cx : Addr} {pts : List Addr} {xy : Nat → Int × Int} {al : List (Addr × Addr)} {st : List ERec} {i j : Nat} {x y dx dy : Addr}
    (R : Rep P news cx pts xy al st) (N : News h₀ L h news) (hi : al[i]? = some (x, dx)) (hj : al[j]? = some (y, dy)) (hne : ¬ i = j) : x ≠ y := by
  rintro rfl
  have y1 := (N _ (R.inst _ _ _ hi)).1
  have y2 := (N _ (R.inst _ _ _ hj)).1
  rw [y1] at y2
  cases y2
  exact hne (R.nd _ _ _ _ _ hi hj)
theorem is_edges {M : Model} {A : Around} {E : Value → Shared → Prop} {s : Shared} {Q : Value → Shared → Prop} {P : Params} {h₀ : Heap} {L : Addr} {news : List (Addr × Obj)} {cx : Addr} {pts : List Addr} {xy : Nat → Int × Int} {al : List (Addr × Addr)} {st : List ERec} {i j : Nat} {x y dx dy : Addr}
    (N : News h₀ L s.heap news) (R : Rep P news cx pts xy al st) (hi : al[i]? = some (x, dx)) (hj : al[j]? = some (y, dy)) (hne : ¬ i = j) (h : Q (.bool false) s) : wpAny M A (compareOp .Is (.ref x) (.ref y)) Q E s :=
  kto_is (N _ (R.inst _ _ _ hi)).1 (N _ (R.inst _ _ _ hj)).1 (R.ne N hi hj hne) (fun z => by cases z) h
example : True := by
  w_top off
  k_with "call ref" => w_strict (k_here; (with_reducible show wpAny _ _ (call (Value.ref _) [Value.ref _, Value.ref _, Value.ref _, Value.ref _] _) _ _ _); k_dflt (refine call_meth (by k_asm) (by k_mem) ?_; k_whole; refine g_loc (by k_asm) (by k_asm) (by k_asm) (by k_asm) (by k_asm) (by first | exact rfl | assumption) (by (first | assumption | exact Rep.mono ‹_› (by intro p9 hp9; first | exact mtl _ hp9 | exact mtl _ (mtl _ hp9) | exact mtl _ (mtl _ (mtl _ hp9))))) ‹_› ‹_› ‹_› ‹_› (by ktr_room) (by ktr_units) ?_; k_whole); intro _ _ _ _; (try k_sweep))
  k_with "compareOp Is ref ref" => w_strict (k_here; (with_reducible show wpAny _ _ (compareOp CmpOp.Is (Value.ref _) (Value.ref _)) _ _ _); k_dflt (refine is_edges (by k_asm) (by (first | assumption | exact Rep.mono ‹_› (by intro p9 hp9; first | exact mtl _ hp9 | exact mtl _ (mtl _ hp9) | exact mtl _ (mtl _ (mtl _ hp9))))) ‹_› ‹_› ‹_› ?_; k_whole))
  k_with "call ref" => w_strict (k_here; (with_reducible show wpAny _ _ (call (Value.ref 513) [Value.ref _, Value.ref _] _) _ _ _); k_dflt (refine g_left (by k_asm) (by k_asm) (by k_asm) (by k_asm) (by k_asm) (by first | exact rfl | assumption) (by (first | assumption | exact Rep.mono ‹_› (by intro p9 hp9; first | exact mtl _ hp9 | exact mtl _ (mtl _ hp9) | exact mtl _ (mtl _ (mtl _ hp9))))) (by (first | assumption | exact Step.up ‹_› ‹_›)) (by k_mem) ‹_› (by ktr_room) (by ktr_units) ?_; k_whole); (rename Rep _ _ _ _ _ _ _ => rOld9; rename Step _ _ _ _ => sOld9); intro _ _ _ _ _ _ R' S' c9; (first | replace S' := Step.trans sOld9 S' | replace S' := Step.comp1 sOld9 S' | replace S' := Step.comp2 sOld9 S' | replace S' := Step.comp3 sOld9 S' | replace S' := Step.comp4 sOld9 S'); clear rOld9 sOld9; (try (have mqx := Step.keepq S' ‹_› ‹_›)); (dsimp only at R' c9); (first | (obtain ⟨a9, d9, g9, hv9⟩ := cval_some c9; subst hv9) | (have hv9 := cval_none c9; subst hv9)); clear c9; (try k_sweep); (try (revert R'; intro _)); (try (revert S'; intro _)); (try (revert mqx; intro _)); (try (revert hv9; intro _)))
  k_with "call ref" => w_strict (k_here; (with_reducible show wpAny _ _ (call (Value.ref 520) [Value.ref _, Value.ref _] _) _ _ _); k_dflt (refine g_right (by k_asm) (by k_asm) (by k_asm) (by k_asm) (by k_asm) (by first | exact rfl | assumption) (by (first | assumption | exact Rep.mono ‹_› (by intro p9 hp9; first | exact mtl _ hp9 | exact mtl _ (mtl _ hp9) | exact mtl _ (mtl _ (mtl _ hp9))))) (by (first | assumption | exact Step.up ‹_› ‹_›)) (by k_mem) ‹_› (by ktr_room) (by ktr_units) ?_; k_whole); (rename Rep _ _ _ _ _ _ _ => rOld9; rename Step _ _ _ _ => sOld9); intro _ _ _ _ _ _ R' S' c9; (first | replace S' := Step.trans sOld9 S' | replace S' := Step.comp1 sOld9 S' | replace S' := Step.comp2 sOld9 S' | replace S' := Step.comp3 sOld9 S' | replace S' := Step.comp4 sOld9 S'); clear rOld9 sOld9; (try (have mqx := Step.keepq S' ‹_› ‹_›)); (dsimp only at R' c9); (first | (obtain ⟨a9, d9, g9, hv9⟩ := cval_some c9; subst hv9) | (have hv9 := cval_none c9; subst hv9)); clear c9; (try k_sweep); (try (revert R'; intro _)); (try (revert S'; intro _)); (try (revert mqx; intro _)); (try (revert hv9; intro _)))
  k_with "call ref" => w_strict (k_here; (with_reducible show wpAny _ _ (call (Value.ref 383) _ _) _ _ _); k_dflt (refine g_connect (by k_asm) (by k_asm) (by k_asm) (by k_asm) (by k_asm) (by first | exact rfl | assumption) (by (first | assumption | exact Rep.mono ‹_› (by intro p9 hp9; first | exact mtl _ hp9 | exact mtl _ (mtl _ hp9) | exact mtl _ (mtl _ (mtl _ hp9))))) (by (first | assumption | exact Step.up ‹_› ‹_›)) (by (first | assumption | exact Step.up ‹_› ‹_›)) ‹_› ‹_› (by ktr_room) ?_; k_whole); (rename Rep _ _ _ _ _ _ _ => rOld9; rename Step _ _ _ _ => sOld9); intro _ _ _ _ _ _ _ _ _ S' _; (first | replace S' := Step.trans sOld9 S' | replace S' := Step.comp1 sOld9 S' | replace S' := Step.comp2 sOld9 S' | replace S' := Step.comp3 sOld9 S' | replace S' := Step.comp4 sOld9 S'); clear rOld9 sOld9; (try k_sweep); (try (revert S'; intro _)))
  trivial
theorem g_connectF {cx : Addr} {pts : List Addr} {xy : Nat → Int × Int} {al : List (Addr × Addr)} {st : List ERec} {F0 fuel i : Nat} {e d q : Addr} {fin : List ERec} (B : Below A₀ base outer h₀) (F : Fr h₀ L s.heap m) (X : (hd.heap_1 w.params).In h₀) (N : News h₀ L s.heap news) (T : Top p loose mean mg mb h₀) (hk : cs.kind = .function) (R : Rep w.params news cx pts xy al st) (hi : al[i]? = some (e, d)) (mq : (q, methodObj (.ref 258) (.ref cx)) ∈ news) (hrun : (connectLoop F0 fuel st i).run (truth xy) = some fin) (hroom : dp + 20 < recursionLimit) (hu : un + 320 < cLine)
   (ret : ∀ h' tk' news' al', Fr h₀ L h' m → News h₀ L h' news' → Rep w.params news' cx pts xy al' fin → Step al news al' news' → Q .none { s with heap := h', toks := tk' }) :
   wpAny (model prog w) (ktrTop dp un gd cn cs L a ccd cl outer) (call (.ref 492) [.ref e, .ref q]) Q E s := by
  obtain h9 : Tag9 (P := wpAny (model prog w) (ktrTop dp un gd cn cs L a ccd cl outer) (call (.ref 492) [.ref e, .ref q]) Q E s) (by
    refine wpAny_call ?_
    have S0 : Step al news al news := Step.refl
    have hoff : q ∉ al.map (·.2) := R.off N mq fun es n z => absurd (congrArg Obj.cls z) (show ¬ Value.type "method" = Value.type "dict" from by decide)
    k_dflt k_enter
    k_steps
    unfold Halt
    refine' my_while (σ := List ERec × Nat × Addr × Addr × List (Addr × Addr)) "base_edge" ["left_candidate", "right_candidate"] (fun x => .ref x.2.2.1) (fun n x nx => Rep w.params nx cx pts xy x.2.2.2.2 x.1 ∧ Step al news x.2.2.2.2 nx ∧ x.2.2.2.2[x.2.1]? = some (x.2.2.1, x.2.2.2.1) ∧ (connectLoop F0 n x.1 x.2.1).run (truth xy) = some fin ∧ (q, methodObj (.ref 258) (.ref cx)) ∈ nx)
      (n₀ := fuel) (a₀ := (st, i, e, d, al)) ?F ?N ?hy ⟨R, S0, hi, hrun, mq⟩ ?turn ?hE
    case F => k_asm
    case N => k_asm
    case hy => rfl
    case hE => passes_own
    case turn =>
      intro n x u nx h' tk' hI F' N'
      obtain ⟨st1, b, ba, bd, al1⟩ := x
      obtain ⟨R1, S1, g1, hr, mq1⟩ := hI
      dsimp only at R1 S1 g1 hr F'
      clear R S0 hrun hi
      (try k_fold)
      cases n with
      | zero => cases hr
      | succ n =>
        unfold connectLoop at hr
        rw [DT.run_bind] at hr
        obtain ⟨x, hl, hr⟩ := Option.bind_eq_some_iff.mp hr
        rw [DT.run_bind] at hr
        obtain ⟨y, hrr, hr⟩ := Option.bind_eq_some_iff.mp hr
        rw [DT.run_bind] at hr
        obtain ⟨z, hz, hr⟩ := Option.bind_eq_some_iff.mp hr
        obtain ⟨st2, lc⟩ := x
        obtain ⟨st3, rc⟩ := y
        dsimp only at hrr hz hr
        cases lc with
        | none =>
          cases rc with
          | none =>
            cases hz
            cases hr
            k_steps
            dsimp only [MwEnd]
            k_steps
            all_goals (refine' ret _ _ _ _ ?F ?N ?R ?S; (case R => assumption); (case S => assumption); (case F => k_asm); (case N => first | k_asm | exact News.perm (by assumption) (by intro p9 hp9; (repeat refine mtl _ ?_); exact hp9)))
          | some r =>
            unfold connectNext conn at hz
            dsimp only at hz
            split at hz
            · rename_i s0 e0 y1 y2
              cases hz
              dsimp only at hr
              unfold dst at y1
              unfold opp at y2
              k_steps
              rename (Step al news _ _) => Sx
              refine' MwEnd.go (a' := (_, _, ?raz1, ?rdz1, _)) ?Fz1 ?Nz1 (Nat.lt_succ_self _) ⟨?Rz1, Sx, ?gz1, hr, (Sx.2 _ mq hoff).1⟩ ?hvz1 ?hmz1
              case Fz1 => k_asm
              case hvz1 => exact rfl
              case Rz1 => assumption
              case Nz1 => first | k_asm | exact News.perm (by assumption) (by intro p9 hp9; (repeat refine mtl _ ?_); exact hp9)
              case gz1 => assumption
              case hmz1 => (intro x9 h9 g9; have g8 := g9; simp only [List.contains_cons, List.contains_nil, Bool.or_false, Bool.or_eq_false_iff, beq_eq_false_iff_ne, ne_eq] at g8; simp only [if_neg h9, if_neg g8.1, if_neg g8.2, g9, Bool.false_eq_true, if_false])
            · cases hz
        | some l =>
          cases rc with
          | none =>
            unfold connectNext conn at hz
            dsimp only at hz
            split at hz
            · rename_i s0 e0 y1 y2
              cases hz
              dsimp only at hr
              unfold dst opp at y1
              unfold opp at y2
              k_steps
              rename (Step al news _ _) => Sx
              refine' MwEnd.go (a' := (_, _, ?raz2, ?rdz2, _)) ?Fz2 ?Nz2 (Nat.lt_succ_self _) ⟨?Rz2, Sx, ?gz2, hr, (Sx.2 _ mq hoff).1⟩ ?hvz2 ?hmz2
              case Fz2 => k_asm
              case hvz2 => exact rfl
              case Rz2 => assumption
              case Nz2 => first | k_asm | exact News.perm (by assumption) (by intro p9 hp9; (repeat refine mtl _ ?_); exact hp9)
              case gz2 => assumption
              case hmz2 => (intro x9 h9 g9; have g8 := g9; simp only [List.contains_cons, List.contains_nil, Bool.or_false, Bool.or_eq_false_iff, beq_eq_false_iff_ne, ne_eq] at g8; simp only [if_neg h9, if_neg g8.1, if_neg g8.2, g9, Bool.false_eq_true, if_false])
            · cases hz
          | some r =>
            unfold connectNext at hz
            dsimp only at hz
            split at hz
            · cases hz
            · rename_i hne
              split at hz
              · rename_i re le be bs w1 w2 w3 w4
                by_cases hin : 0 < ic xy re le be bs
                · simp only [DT.run, truth, decide_eq_true hin] at hz
                  unfold conn at hz
                  split at hz
                  · rename_i s0 e0 y1 y2
                    cases hz
                    dsimp only at hr
                    unfold dst at y1 w1 w2 w3
                    unfold opp at y2
                    rw [w1] at y1; cases y1
                    rw [w3] at y2; cases y2
                    k_steps
                    rename (Step al news _ _) => Sx
                    refine' MwEnd.go (a' := (_, _, ?raz3, ?rdz3, _)) ?Fz3 ?Nz3 (Nat.lt_succ_self _) ⟨?Rz3, Sx, ?gz3, hr, (Sx.2 _ mq hoff).1⟩ ?hvz3 ?hmz3
                    case Fz3 => k_asm
                    case hvz3 => exact rfl
                    case Rz3 => assumption
                    case Nz3 => first | k_asm | exact News.perm (by assumption) (by intro p9 hp9; (repeat refine mtl _ ?_); exact hp9)
                    case gz3 => assumption
                    case hmz3 => (intro x9 h9 g9; have g8 := g9; simp only [List.contains_cons, List.contains_nil, Bool.or_false, Bool.or_eq_false_iff, beq_eq_false_iff_ne, ne_eq] at g8; simp only [if_neg h9, if_neg g8.1, if_neg g8.2, g9, Bool.false_eq_true, if_false])
                  · cases hz
                · simp only [DT.run, truth, decide_eq_false hin] at hz
                  unfold conn at hz
                  split at hz
                  · rename_i s0 e0 y1 y2
                    cases hz
                    dsimp only at hr
                    unfold dst opp at y1
                    unfold dst at w1 w2 w3
                    unfold opp at y2
                    rw [w2] at y2; cases y2
                    k_steps
                    rename (Step al news _ _) => Sx
                    refine' MwEnd.go (a' := (_, _, ?raz4, ?rdz4, _)) ?Fz4 ?Nz4 (Nat.lt_succ_self _) ⟨?Rz4, Sx, ?gz4, hr, (Sx.2 _ mq hoff).1⟩ ?hvz4 ?hmz4
                    case Fz4 => k_asm
                    case hvz4 => exact rfl
                    case Rz4 => assumption
                    case Nz4 => first | k_asm | exact News.perm (by assumption) (by intro p9 hp9; (repeat refine mtl _ ?_); exact hp9)
                    case gz4 => assumption
                    case hmz4 => (intro x9 h9 g9; have g8 := g9; simp only [List.contains_cons, List.contains_nil, Bool.or_false, Bool.or_eq_false_iff, beq_eq_false_iff_ne, ne_eq] at g8; simp only [if_neg h9, if_neg g8.1, if_neg g8.2, g9, Bool.false_eq_true, if_false])
                  · cases hz
              · cases hz) := trivial
  unfold id at h9; exact h9.get
example : True := by
  w_top off
  k_with_none
  k_with "inst9" => first | ((with_reducible show InstAt _ (@OfNat.ofNat _ _ _) _ _ _); refine InstAt.of_K (by first | assumption | exact Frag.In.keeps (by k_asm) (Fr.keep (by k_asm))) (by k_is) (by k_is)) | (refine InstAt.of_news (by k_asm) (by k_mem) (by k_mem))
  k_with "e9" => (first | (refine code_def (by k_asm) (by k_asm) (by k_asm) (by k_asm) (by k_asm) rfl rfl (by first | exact rfl | assumption) (by k_is) (by k_is) (by ktr_room) (by first | exact BindsTo.of_eq rfl | refine kp_binds (by k_in) (by exact fun _ => rfl)) (by exact locs rfl) ?_ (by exact rfl) (by exact rfl) (by exact rfl) (by decide); k_whole; intro _ _ _ _ _ _ _ _ _; (try dsimp only); (try k_fold)) | (refine code_defC (by k_asm) (by k_asm) (by k_asm) (by k_asm) (by k_asm) rfl rfl (by first | exact rfl | assumption) (by k_is) (by k_is) (by ktr_room) (by first | exact BindsTo.of_eq rfl | refine kp_binds (by k_in) (by exact fun _ => rfl)) (by exact rfl) (by decide +kernel) ?_ (by exact rfl) (by exact rfl) (by exact rfl); k_whole; intro _ _ _ _ _ _ _ N' Y' _ _ _ l1; (try k_lt l1); (try dsimp only); (try k_fold); (first | k_cells Y' | (obtain ⟨_, _, _, _, _, hE', _, _, _, _, _⟩ := cells_five Y'; subst hE'; clear Y')); (try simp only [List.cons_append, List.nil_append] at N'); (try dsimp only); (try k_fold); (try (revert N'; intro _)); (try (revert l1; intro _))))
  k_with "ne9" => (refine neN ?_; (try dsimp only); with_reducible first | exact neU1 | exact neU2 | exact neU3 | exact neU4 | exact neD1 | exact neD2 | exact neD3 | exact neD4 | exact Nat.ne_of_gt ‹_› | exact Nat.ne_of_lt ‹_› | exact gtA1 ‹_› | exact Ne.symm (gtA1 ‹_›) | exact gtA2 ‹_› | exact Ne.symm (gtA2 ‹_›) | exact gtA3 ‹_› | exact Ne.symm (gtA3 ‹_›) | exact gtA4 ‹_› | exact Ne.symm (gtA4 ‹_›) | exact gtA5 ‹_› | exact Ne.symm (gtA5 ‹_›) | exact gtA6 ‹_› | exact Ne.symm (gtA6 ‹_›) | exact gtA7 ‹_› | exact Ne.symm (gtA7 ‹_›) | exact gtA8 ‹_› | exact Ne.symm (gtA8 ‹_›) | exact gtA9 ‹_› | exact Ne.symm (gtA9 ‹_›) | exact gtA10 ‹_› | exact Ne.symm (gtA10 ‹_›) | exact gtA11 ‹_› | exact Ne.symm (gtA11 ‹_›) | exact gtA12 ‹_› | exact Ne.symm (gtA12 ‹_›))
  k_with "room9" => (first | exact room2 ‹_› (by exact rfl) | exact room1 ‹_› (by exact rfl) | exact room0 ‹_›)
  k_with "units9" => (first | exact unit2 ‹_› (by exact rfl) | exact unit1 ‹_› (by exact rfl) | exact unit0 ‹_›)
  k_with "mem9" => (first | with_reducible assumption | with_reducible exact at0 | with_reducible exact at1 | with_reducible exact at2 | with_reducible exact at3 | with_reducible exact at4 | with_reducible exact at5 | with_reducible exact at6 | with_reducible exact at7 | with_reducible exact at8 | with_reducible exact at9 | with_reducible exact at10 | with_reducible exact at11 | with_reducible exact at12 | with_reducible exact at13 | with_reducible exact at14 | exact up1 (by with_reducible assumption) | exact up2 (by with_reducible assumption) | exact up3 (by with_reducible assumption) | exact up4 (by with_reducible assumption) | exact up5 (by with_reducible assumption) | exact up6 (by with_reducible assumption) | assumption)
  k_with "mul9" => (first | exact Bd.ok1 ‹_› ‹_› ‹_› ‹_› | exact Bd.ok2 ‹_› ‹_› ‹_› ‹_› ‹_› ‹_› ‹_› ‹_› ‹_› ‹_› ‹_› ‹_› ‹_› ‹_› ‹_› ‹_›)
  k_with "execs cons" => w_strict (refine wpAny_execs_cons ?_; (try k_fold))
  k_with "eval BinOp" => w_strict (k_fold)
  k_with "eval Call" => w_strict (k_fold)
  k_with "eval Call Attribute" => w_strict (k_fold)
  k_with "eval Attribute Name" => w_strict (k_fold)
  k_with "eval Subscript" => w_strict (k_fold)
  k_with "eval Attribute Attribute" => w_strict (k_fold)
  k_with "getAttr ref" => w_strict (k_fold)
  k_with "eval Tuple" => w_strict (k_fold)
  k_with "assignInOrder" => w_strict (k_fold)
  k_with "exec Assign" => w_strict (k_fold)
  k_with "isTrue BoolOp" => w_strict (k_fold)
  k_with "isTrue Compare" => w_strict (k_fold)
  k_with "callWith ref" => w_strict (k_fold)
  trivial
noncomputable abbrev triD (P : Params) (t1 t2 t3 t4 : Tok) (c l r hv : Value) : List DictEntry :=
  [⟨PyData.keyHash P (Str.ofString "context"), .str (Str.ofString "context") t1, c⟩,
   ⟨PyData.keyHash P (Str.ofString "left_side"), .str (Str.ofString "left_side") t2, l⟩,
   ⟨PyData.keyHash P (Str.ofString "right_side"), .str (Str.ofString "right_side") t3, r⟩,
   ⟨PyData.keyHash P (Str.ofString "_triangular_holes_vertices"), .str (Str.ofString "_triangular_holes_vertices") t4, hv⟩]
noncomputable def TAt (P : Params) (news : List (Addr × Obj)) (ta td cx l r : Addr) : Prop :=
  (ta, instObj 481 td) ∈ news ∧ ∃ t1 t2 t3 t4 hv, (td, dictOf (triD P t1 t2 t3 t4 (.ref cx) (.ref l) (.ref r) hv) 4) ∈ news
theorem TAt.mono {P : Params} {news news' : List (Addr × Obj)} {ta td cx l r : Addr} (t : TAt P news ta td cx l r) (hs : ∀ p ∈ news, p ∈ news') : TAt P news' ta td cx l r :=
  let ⟨a, t1, t2, t3, t4, hv, b⟩ := t; ⟨hs _ a, t1, t2, t3, t4, hv, hs _ b⟩
theorem tri_ne_edge {P : Params} {t1 t2 t3 t4 u1 u2 u3 u4 : Tok} {c l r hv c' l' r' sv : Value} {n k : Nat} : dictOf (triD P t1 t2 t3 t4 c l r hv) n ≠ dictOf (edgeD P u1 u2 u3 u4 c' l' r' sv) k := by
  intro h
  have h2 := congrArg (fun o : Obj => match o.data with | .dict es _ => es.toList.head?.map (fun (e : DictEntry) => match e.key with | .str s _ => s | _ => Str.empty) | _ => none) h
  have h3 : some (Str.ofString "context") = some (Str.ofString "_context") := h2
  exact absurd (Option.some.inj h3) (by decide +kernel)
theorem Rep.drop {P : Params} {h₀ h : Heap} {L : Addr} {news news' : List (Addr × Obj)} {cx : Addr} {pts : List Addr} {xy : Nat → Int × Int} {al : List (Addr × Addr)} {st : List ERec} {td : Addr} {t1 t2 t3 t4 : Tok} {c l r hv : Value} {n : Nat}
    (R : Rep P news cx pts xy al st) (N : News h₀ L h news) (m : (td, dictOf (triD P t1 t2 t3 t4 c l r hv) n) ∈ news) (hs : ∀ p ∈ news, p.1 ≠ td → p ∈ news') : Rep P news' cx pts xy al st where
  len := R.len
  nd := R.nd
  inst := fun i a d hi => hs _ (R.inst i a d hi) fun e => by
    have y1 := (N _ (R.inst i a d hi)).1
    have y2 := (N _ m).1
    have e' : a = td := e
    rw [e', y2] at y1
    cases y1
  dict := fun i a d e hi he => by
    obtain ⟨u1, u2, u3, u4, la, ld, ra, rd, sv, z1, z2, z3, z4⟩ := R.dict i a d e hi he
    refine ⟨u1, u2, u3, u4, la, ld, ra, rd, sv, z1, z2, z3, hs _ z4 fun e => ?_⟩
    have y1 := (N _ z4).1
    have y2 := (N _ m).1
    have e' : d = td := e
    rw [e', y2] at y1
    exact tri_ne_edge (Option.some.inj y1)
  pin := fun k a hk => by
    obtain ⟨t, u, dp9, mp, mpd⟩ := R.pin k a hk
    refine ⟨t, u, dp9, hs _ mp fun e => ?_, hs _ mpd fun e => ?_⟩
    · have y1 := (N _ mp).1
      have y2 := (N _ m).1
      have e' : a = td := e
      rw [e', y2] at y1
      cases y1
    · have y1 := (N _ mpd).1
      have y2 := (N _ m).1
      have e' : dp9 = td := e
      rw [e', y2] at y1
      cases y1
  bnd := R.bnd
  ctx := by
    obtain ⟨dcx, c1, c2⟩ := R.ctx
    refine ⟨dcx, hs _ c1 fun e => ?_, hs _ c2 fun e => ?_⟩
    · have y1 := (N _ c1).1
      have y2 := (N _ m).1
      have e' : cx = td := e
      rw [e', y2] at y1
      cases y1
    · have y1 := (N _ c2).1
      have y2 := (N _ m).1
      have e' : dcx = td := e
      rw [e', y2] at y1
      cases y1
theorem Rep.offT {P : Params} {h₀ h : Heap} {L : Addr} {news : List (Addr × Obj)} {cx : Addr} {pts : List Addr} {xy : Nat → Int × Int} {al : List (Addr × Addr)} {st : List ERec} {td : Addr} {t1 t2 t3 t4 : Tok} {c l r hv : Value} {n : Nat}
    (R : Rep P news cx pts xy al st) (N : News h₀ L h news) (m : (td, dictOf (triD P t1 t2 t3 t4 c l r hv) n) ∈ news) : td ∉ al.map (·.2) := by
  intro hm
  obtain ⟨x, hx, e⟩ := List.mem_map.mp hm
  obtain ⟨i, hi⟩ := List.mem_iff_getElem?.mp hx
  obtain ⟨_, u1, u2, u3, u4, la, ld, ra, rd, sv, _, _, _, m2⟩ := R.at (i := i) (a := x.1) (d := x.2) hi
  have y1 := (N _ m).1
  have y2 := (N _ m2).1
  have e' : x.2 = td := e
  rw [e', y1] at y2
  exact tri_ne_edge (Option.some.inj y2)
theorem TAt.off {P : Params} {h₀ h : Heap} {L : Addr} {news : List (Addr × Obj)} {cx : Addr} {pts : List Addr} {xy : Nat → Int × Int} {al : List (Addr × Addr)} {st : List ERec} {ta td l r c : Addr}
    (t : TAt P news ta td c l r) (R : Rep P news cx pts xy al st) (N : News h₀ L h news) : td ∉ al.map (·.2) ∧ ta ∉ al.map (·.2) :=
  let ⟨a, _, _, _, _, _, b⟩ := t
  ⟨R.offT N b, R.off N a fun es n z => absurd (congrArg Obj.cls z) (show ¬ Value.ref 481 = Value.type "dict" from by decide)⟩
theorem TAt.ne {P : Params} {h₀ h : Heap} {L : Addr} {news : List (Addr × Obj)} {ta td l r c ta' td' l' r' c' : Addr}
    (t : TAt P news ta td c l r) (t' : TAt P news ta' td' c' l' r') (N : News h₀ L h news) : ta ≠ td' := by
  obtain ⟨a, _⟩ := t
  obtain ⟨_, _, _, _, _, _, b⟩ := t'
  rintro rfl
  have y1 := (N _ a).1
  have y2 := (N _ b).1
  rw [y1] at y2
  cases y2
theorem TAt.keep {P : Params} {news news' : List (Addr × Obj)} {ta td cx l r : Addr} (t : TAt P news ta td cx l r) {D : Addr} (hs : ∀ p ∈ news, p.1 ≠ D → p ∈ news') (h1 : ta ≠ D) (h2 : td ≠ D) : TAt P news' ta td cx l r :=
  let ⟨a, t1, t2, t3, t4, hv, b⟩ := t; ⟨hs _ a h1, t1, t2, t3, t4, hv, hs _ b h2⟩
theorem TAt.step {P : Params} {news news' : List (Addr × Obj)} {al al' : List (Addr × Addr)} {ta td cx l r : Addr} (t : TAt P news ta td cx l r) (S : Step al news al' news') (ho : td ∉ al.map (·.2) ∧ ta ∉ al.map (·.2)) : TAt P news' ta td cx l r :=
  let ⟨a, t1, t2, t3, t4, hv, b⟩ := t; ⟨(S.2 _ a ho.2).1, t1, t2, t3, t4, hv, (S.2 _ b ho.1).1⟩
noncomputable def StepD (D : List Addr) (al : List (Addr × Addr)) (news : List (Addr × Obj)) (al' : List (Addr × Addr)) (news' : List (Addr × Obj)) : Prop :=
  (∀ (i : Nat) (x : Addr × Addr), al[i]? = some x → al'[i]? = some x) ∧ ∀ p ∈ news, p.1 ∉ al.map (·.2) → p.1 ∉ D → p ∈ news' ∧ p.1 ∉ al'.map (·.2)
theorem StepD.up {D : List Addr} {al al' : List (Addr × Addr)} {n n' : List (Addr × Obj)} {i : Nat} {x : Addr × Addr} (s : StepD D al n al' n') (h : al[i]? = some x) : al'[i]? = some x := s.1 i x h
theorem StepD.refl {D : List Addr} {al : List (Addr × Addr)} {news : List (Addr × Obj)} : StepD D al news al news := ⟨fun _ _ h => h, fun _ h n _ => ⟨h, n⟩⟩
theorem StepD.step {D : List Addr} {al al1 al2 : List (Addr × Addr)} {n n1 n2 : List (Addr × Obj)} (x : StepD D al n al1 n1) (y : Step al1 n1 al2 n2) : StepD D al n al2 n2 :=
  ⟨fun i a h => y.1 i a (x.1 i a h), fun p hp hn hD => let ⟨a, b⟩ := x.2 p hp hn hD; y.2 p a b⟩
theorem StepD.set {D : List Addr} {al al1 : List (Addr × Addr)} {n n1 n2 : List (Addr × Obj)} {td : Addr} (x : StepD D al n al1 n1) (hs : ∀ p ∈ n1, p.1 ≠ td → p ∈ n2) (hm : td ∈ D) : StepD D al n al1 n2 :=
  ⟨x.1, fun p hp hn hD => let ⟨a, b⟩ := x.2 p hp hn hD; ⟨hs p a fun e => hD (by rw [e]; exact hm), b⟩⟩
noncomputable def fbLoop : Nat → List ERec → Nat → Nat → DT (Nat × Nat)
  | 0, _, _, _ => .fail
  | f + 1, st, l, r =>
    match org st r, org st l, dst st l, dst st r with
    | some rs, some ls, some le, some re => .ask (.ccw ls le rs) fun
      | true => fbLoop f st (lfe st l) r
      | false => .ask (.cw rs re ls) fun
        | true => fbLoop f st l (rfe st r)
        | false => .ret (l, r)
    | _, _, _, _ => .fail
theorem g_getT_left_side {A : Around} {expr : Bool} {ta td cxx l r : Addr} (F : Fr h₀ L s.heap m) (X : (hd.heap_1 w.params).In h₀) (N : News h₀ L s.heap news) (T1 : TAt w.params news ta td cxx l r) (h : Q (.ref l) { s with toks := s.toks + 1 }) :
   wpAny (model prog w) A (getAttr (.ref ta) "left_side" expr) Q E s := by
  obtain ⟨m1, t1, t2, t3, t4, hv, m2⟩ := T1
  k_dflt (refine' get_own F X (InstAt.of_news N m1 m2) ?k4 ?k5 ?k6 ?k7 ?k8 ?k9 h; (case k4 => k_is); (case k5 => k_is); (case k6 => k_is); (case k7 => k_is); (case k8 => k_get); (case k9 => rfl))
theorem g_getT_right_side {A : Around} {expr : Bool} {ta td cxx l r : Addr} (F : Fr h₀ L s.heap m) (X : (hd.heap_1 w.params).In h₀) (N : News h₀ L s.heap news) (T1 : TAt w.params news ta td cxx l r) (h : Q (.ref r) { s with toks := s.toks + 1 }) :
   wpAny (model prog w) A (getAttr (.ref ta) "right_side" expr) Q E s := by
  obtain ⟨m1, t1, t2, t3, t4, hv, m2⟩ := T1
  k_dflt (refine' get_own F X (InstAt.of_news N m1 m2) ?k4 ?k5 ?k6 ?k7 ?k8 ?k9 h; (case k4 => k_is); (case k5 => k_is); (case k6 => k_is); (case k7 => k_is); (case k8 => k_get); (case k9 => rfl))
theorem g_getT_context {A : Around} {expr : Bool} {ta td cxx l r : Addr} (F : Fr h₀ L s.heap m) (X : (hd.heap_1 w.params).In h₀) (N : News h₀ L s.heap news) (T1 : TAt w.params news ta td cxx l r) (h : Q (.ref cxx) { s with toks := s.toks + 1 }) :
   wpAny (model prog w) A (getAttr (.ref ta) "context" expr) Q E s := by
  obtain ⟨m1, t1, t2, t3, t4, hv, m2⟩ := T1
  k_dflt (refine' get_own F X (InstAt.of_news N m1 m2) ?k4 ?k5 ?k6 ?k7 ?k8 ?k9 h; (case k4 => k_is); (case k5 => k_is); (case k6 => k_is); (case k7 => k_is); (case k8 => k_get); (case k9 => rfl))
theorem g_setT_left_side {A : Around} {Q : Unit → Shared → Prop} {ta td cxx l r b : Addr} (F : Fr h₀ L s.heap m) (X : (hd.heap_1 w.params).In h₀) (N : News h₀ L s.heap news) (T1 : TAt w.params news ta td cxx l r)
   (ret : ∀ h' tk' news', Fr h₀ L h' m → News h₀ L h' news' → TAt w.params news' ta td cxx b r → (∀ p ∈ news, p.1 ≠ td → p ∈ news') → Q () { s with heap := h', toks := tk' }) :
   wpAny (model prog w) A (setAttr (.ref ta) "left_side" (.ref b)) Q E s := by
  have hne := T1.ne T1 N
  obtain ⟨m1, t1, t2, t3, t4, hv, m2⟩ := T1
  have N2 : News h₀ L s.heap ((td, dictOf (triD w.params t1 t2 t3 t4 (.ref cxx) (.ref l) (.ref r) hv) 4) :: news.filter fun p => decide (p.1 ≠ td)) := fun p hp => by
    rcases List.mem_cons.mp hp with rfl | hp
    · exact N _ m2
    · exact N _ (List.mem_filter.mp hp).1
  k_dflt (refine' set_dict ?k1 ?k2 ?k3 (InstAt.of_news N m1 m2) ?k5 ?k6 ?k7 ?k8 ?k9 ?k10 ?k11 ?k12 ?k13 ?_; (case k1 => exact F); (case k2 => exact X); (case k3 => exact N2); (case k5 => exact rfl); (case k6 => k_is); (case k7 => k_is); (case k8 => k_is); (case k9 => k_is); (case k10 => k_get); (case k11 => k_put); (case k12 => exact Upd.head fun p hp => of_decide_eq_true (List.mem_filter.mp hp).2); (case k13 => exact Nat.le_of_ble_eq_true rfl); k_whole)
  intro h' F' N'
  exact ret h' _ _ F' N' ⟨mtl _ (List.mem_filter.mpr ⟨m1, decide_eq_true hne⟩), t1, t2, t3, t4, hv, .head _⟩ fun p hp hn => mtl _ (List.mem_filter.mpr ⟨hp, decide_eq_true hn⟩)
theorem g_setT_right_side {A : Around} {Q : Unit → Shared → Prop} {ta td cxx l r b : Addr} (F : Fr h₀ L s.heap m) (X : (hd.heap_1 w.params).In h₀) (N : News h₀ L s.heap news) (T1 : TAt w.params news ta td cxx l r)
   (ret : ∀ h' tk' news', Fr h₀ L h' m → News h₀ L h' news' → TAt w.params news' ta td cxx l b → (∀ p ∈ news, p.1 ≠ td → p ∈ news') → Q () { s with heap := h', toks := tk' }) :
   wpAny (model prog w) A (setAttr (.ref ta) "right_side" (.ref b)) Q E s := by
  have hne := T1.ne T1 N
  obtain ⟨m1, t1, t2, t3, t4, hv, m2⟩ := T1
  have N2 : News h₀ L s.heap ((td, dictOf (triD w.params t1 t2 t3 t4 (.ref cxx) (.ref l) (.ref r) hv) 4) :: news.filter fun p => decide (p.1 ≠ td)) := fun p hp => by
    rcases List.mem_cons.mp hp with rfl | hp
    · exact N _ m2
    · exact N _ (List.mem_filter.mp hp).1
  k_dflt (refine' set_dict ?k1 ?k2 ?k3 (InstAt.of_news N m1 m2) ?k5 ?k6 ?k7 ?k8 ?k9 ?k10 ?k11 ?k12 ?k13 ?_; (case k1 => exact F); (case k2 => exact X); (case k3 => exact N2); (case k5 => exact rfl); (case k6 => k_is); (case k7 => k_is); (case k8 => k_is); (case k9 => k_is); (case k10 => k_get); (case k11 => k_put); (case k12 => exact Upd.head fun p hp => of_decide_eq_true (List.mem_filter.mp hp).2); (case k13 => exact Nat.le_of_ble_eq_true rfl); k_whole)
  intro h' F' N'
  exact ret h' _ _ F' N' ⟨mtl _ (List.mem_filter.mpr ⟨m1, decide_eq_true hne⟩), t1, t2, t3, t4, hv, .head _⟩ fun p hp hn => mtl _ (List.mem_filter.mpr ⟨hp, decide_eq_true hn⟩)
example : True := by
  w_top off
  k_with "getAttr ref" => w_strict (k_here; (with_reducible show wpAny _ _ (getAttr (Value.ref _) (Str.ofString "rotated") _) _ _ _); k_dflt (refine g_rotated (by k_asm) (by k_asm) (by k_asm) (by k_asm) (by k_asm) (by first | exact rfl | assumption) (by (first | assumption | exact Rep.mono ‹_› (by intro p9 hp9; first | exact mtl _ hp9 | exact mtl _ (mtl _ hp9) | exact mtl _ (mtl _ (mtl _ hp9))))) (by (first | assumption | exact Step.up ‹_› ‹_›))  (by ktr_room) ?_; k_whole); intro _ _ _ _ _ _ _; (try k_sweep))
  k_with "getAttr ref" => w_strict (k_here; (with_reducible show wpAny _ _ (getAttr (Value.ref _) (Str.ofString "left_from_start") _) _ _ _); k_dflt (refine g_left_from_start (by k_asm) (by k_asm) (by k_asm) (by k_asm) (by k_asm) (by first | exact rfl | assumption) (by (first | assumption | exact Rep.mono ‹_› (by intro p9 hp9; first | exact mtl _ hp9 | exact mtl _ (mtl _ hp9) | exact mtl _ (mtl _ (mtl _ hp9))))) (by (first | assumption | exact Step.up ‹_› ‹_›))  (by ktr_room) ?_; k_whole); intro _ _ _ _ _ _ _; (try k_sweep))
  k_with "getAttr ref" => w_strict (k_here; (with_reducible show wpAny _ _ (getAttr (Value.ref _) (Str.ofString "context") _) _ _ _); k_dflt (refine g_context (by k_asm) (by k_asm) (by k_asm) (by k_asm) (by k_asm) (by first | exact rfl | assumption) (by (first | assumption | exact Rep.mono ‹_› (by intro p9 hp9; first | exact mtl _ hp9 | exact mtl _ (mtl _ hp9) | exact mtl _ (mtl _ (mtl _ hp9))))) (by (first | assumption | exact Step.up ‹_› ‹_›))  (by ktr_room) ?_; k_whole); intro _ _ _ _; (try k_sweep))
  k_with "getAttr ref" => w_strict (k_here; (with_reducible show wpAny _ _ (getAttr (Value.ref _) (Str.ofString "start") _) _ _ _); k_dflt (refine g_start (by k_asm) (by k_asm) (by k_asm) (by k_asm) (by k_asm) (by first | exact rfl | assumption) (by (first | assumption | exact Rep.mono ‹_› (by intro p9 hp9; first | exact mtl _ hp9 | exact mtl _ (mtl _ hp9) | exact mtl _ (mtl _ (mtl _ hp9))))) (by (first | assumption | exact Step.up ‹_› ‹_›)) ‹_› (by ktr_room) ?_; k_whole); intro _ _ _ _ _ _; (try k_sweep))
  k_with "getAttr ref" => w_strict (k_here; (with_reducible show wpAny _ _ (getAttr (Value.ref _) (Str.ofString "opposite") _) _ _ _); k_dflt (refine g_opposite (by k_asm) (by k_asm) (by k_asm) (by k_asm) (by k_asm) (by first | exact rfl | assumption) (by (first | assumption | exact Rep.mono ‹_› (by intro p9 hp9; first | exact mtl _ hp9 | exact mtl _ (mtl _ hp9) | exact mtl _ (mtl _ (mtl _ hp9))))) (by (first | assumption | exact Step.up ‹_› ‹_›))  (by ktr_room) ?_; k_whole); intro _ _ _ _ _ _ _; (try k_sweep))
  k_with "getAttr ref" => w_strict (k_here; (with_reducible show wpAny _ _ (getAttr (Value.ref _) (Str.ofString "left_from_end") _) _ _ _); k_dflt (refine g_left_from_end (by k_asm) (by k_asm) (by k_asm) (by k_asm) (by k_asm) (by first | exact rfl | assumption) (by (first | assumption | exact Rep.mono ‹_› (by intro p9 hp9; first | exact mtl _ hp9 | exact mtl _ (mtl _ hp9) | exact mtl _ (mtl _ (mtl _ hp9))))) (by (first | assumption | exact Step.up ‹_› ‹_›))  (by ktr_room) ?_; k_whole); intro _ _ _ _ _ _ _; (try k_sweep))
  k_with "getAttr ref" => w_strict (k_here; (with_reducible show wpAny _ _ (getAttr (Value.ref _) (Str.ofString "right_from_start") _) _ _ _); k_dflt (refine g_right_from_start (by k_asm) (by k_asm) (by k_asm) (by k_asm) (by k_asm) (by first | exact rfl | assumption) (by (first | assumption | exact Rep.mono ‹_› (by intro p9 hp9; first | exact mtl _ hp9 | exact mtl _ (mtl _ hp9) | exact mtl _ (mtl _ (mtl _ hp9))))) (by (first | assumption | exact Step.up ‹_› ‹_›))  (by ktr_room) ?_; k_whole); intro _ _ _ _ _ _ _; (try k_sweep))
  k_with "getAttr ref" => w_strict (k_here; (with_reducible show wpAny _ _ (getAttr (Value.ref _) (Str.ofString "right_from_end") _) _ _ _); k_dflt (refine g_right_from_end (by k_asm) (by k_asm) (by k_asm) (by k_asm) (by k_asm) (by first | exact rfl | assumption) (by (first | assumption | exact Rep.mono ‹_› (by intro p9 hp9; first | exact mtl _ hp9 | exact mtl _ (mtl _ hp9) | exact mtl _ (mtl _ (mtl _ hp9))))) (by (first | assumption | exact Step.up ‹_› ‹_›))  (by ktr_room) ?_; k_whole); intro _ _ _ _ _ _ _; (try k_sweep))
  k_with "getAttr ref" => w_strict (k_here; (with_reducible show wpAny _ _ (getAttr (Value.ref _) (Str.ofString "end") _) _ _ _); k_dflt (refine g_end (by k_asm) (by k_asm) (by k_asm) (by k_asm) (by k_asm) (by first | exact rfl | assumption) (by (first | assumption | exact Rep.mono ‹_› (by intro p9 hp9; first | exact mtl _ hp9 | exact mtl _ (mtl _ hp9) | exact mtl _ (mtl _ (mtl _ hp9))))) (by (first | assumption | exact Step.up ‹_› ‹_›)) ‹_› (by ktr_room) ?_; k_whole); intro _ _ _ _ _ _; (try k_sweep))
  k_with "getMethod ref" => w_strict (k_here; (with_reducible show wpAny _ _ (getMethod (Value.ref _) (Str.ofString "splice") _) _ _ _); k_dflt (refine g_meth_splice (by k_asm) (by k_asm) (by k_asm) (by (first | assumption | exact Rep.mono ‹_› (by intro p9 hp9; first | exact mtl _ hp9 | exact mtl _ (mtl _ hp9) | exact mtl _ (mtl _ (mtl _ hp9))))) (by (first | assumption | exact Step.up ‹_› ‹_›)) ?_; k_whole))
  k_with "getMethod ref" => w_strict (k_here; (with_reducible show wpAny _ _ (getMethod (Value.ref _) (Str.ofString "connect") _) _ _ _); k_dflt (refine g_meth_connect (by k_asm) (by k_asm) (by k_asm) (by (first | assumption | exact Rep.mono ‹_› (by intro p9 hp9; first | exact mtl _ hp9 | exact mtl _ (mtl _ hp9) | exact mtl _ (mtl _ (mtl _ hp9))))) (by (first | assumption | exact Step.up ‹_› ‹_›)) ?_; k_whole))
  k_with "getMethod ref" => w_strict (k_here; (with_reducible show wpAny _ _ (getMethod (Value.ref _) (Str.ofString "delete") _) _ _ _); k_dflt (refine g_meth_delete (by k_asm) (by k_asm) (by k_asm) (by (first | assumption | exact Rep.mono ‹_› (by intro p9 hp9; first | exact mtl _ hp9 | exact mtl _ (mtl _ hp9) | exact mtl _ (mtl _ (mtl _ hp9))))) (by (first | assumption | exact Step.up ‹_› ‹_›)) ?_; k_whole))
  k_with "getMethod ref" => w_strict (k_here; (with_reducible show wpAny _ _ (getMethod (Value.ref _) (Str.ofString "orientation_of") _) _ _ _); k_dflt (refine g_meth_orientation_of (by k_asm) (by k_asm) (by k_asm) (by (first | assumption | exact Rep.mono ‹_› (by intro p9 hp9; first | exact mtl _ hp9 | exact mtl _ (mtl _ hp9) | exact mtl _ (mtl _ (mtl _ hp9))))) (by (first | assumption | exact Step.up ‹_› ‹_›)) ?_; k_whole))
  k_with "call ref" => w_strict (k_here; (with_reducible show wpAny _ _ (call (Value.ref 397) [Value.ref _, Value.ref _] _) _ _ _); k_dflt (refine g_orient (by k_asm) (by k_asm) (by k_asm) (by k_asm) (by k_asm) (by first | exact rfl | assumption) (by (first | assumption | exact Rep.mono ‹_› (by intro p9 hp9; first | exact mtl _ hp9 | exact mtl _ (mtl _ hp9) | exact mtl _ (mtl _ (mtl _ hp9))))) (by (first | assumption | exact Step.up ‹_› ‹_›)) ‹_› ‹_› ‹_› (by ktr_room) (by ktr_units) ?_; k_whole); intro _ _ _ _; (try k_sweep))
  k_with "compareOp Is ref ref" => w_strict (k_here; (with_reducible show wpAny _ _ (compareOp CmpOp.Is (Value.ref (oriA _)) (Value.ref _)) _ _ _); k_dflt (first | (refine is_ccw_t (by k_in) ‹_› ?_; k_whole) | (refine is_ccw_f (by k_in) ‹_› ?_; k_whole) | (refine is_cw_t (by k_in) ‹_› ?_; k_whole) | (refine is_cw_f (by k_in) ‹_› ?_; k_whole)))
  k_with "compareOp IsNot ref ref" => w_strict (k_here; (with_reducible show wpAny _ _ (compareOp CmpOp.IsNot (Value.ref (oriA _)) (Value.ref _)) _ _ _); k_dflt (first | (refine isnot_cw_t (by k_in) ‹_› ?_; k_whole) | (refine isnot_cw_f (by k_in) ‹_› ?_; k_whole)))
  k_with "compareOp Is ref ref" => w_strict (k_here; (with_reducible show wpAny _ _ (compareOp CmpOp.Is (Value.ref (locA _)) (Value.ref _)) _ _ _); k_dflt (first | (refine is_inn_t (by k_in) ‹_› ?_; k_whole) | (refine is_inn_f (by k_in) ‹_› ?_; k_whole)))
  k_with "exec While" => w_strict ((with_reducible show wpAny _ _ (exec (Stmt.While _ _ _ _) _) _ _ _); refine Halt.of ?_)
  k_with "exec While BoolOp" => w_strict ((with_reducible show wpAny _ _ (exec (Stmt.While _ _ _ _) _) _ _ _); refine Halt.of ?_)
  trivial
section
variable {prog : Program} {w : World} {A : Around} {E : Value → Shared → Prop} {s : Shared} {K : Frag} {pa pb : Addr} {x1 y1 x2 y2 : Int} {t1 u1 t2 u2 : Tok} {d1 d2 : Addr} {od1 od2 : Option Obj}
theorem pt_eq_run {P : Fin → Shared → Prop} (X : K.In s.heap) (Ia : InstAt s.heap pa (ptObj d1 x1 t1 y1 u1) 132 od1) (Ib : InstAt s.heap pb (ptObj d2 x2 t2 y2 u2) 132 od2) (e : subIn K (.ref 132) (.type "tuple") = some true)
    (h : P (.done (.ret (.bool (decide (x1 = x2 ∧ y1 = y2))))) s) : wpAny (model prog w) A (Builtin.«tuple.__eq__» ⟨[.ref pa, .ref pb], []⟩) P E s := by
  obtain h9 : Tag9 (P := wpAny (model prog w) A (Builtin.«tuple.__eq__» ⟨[.ref pa, .ref pb], []⟩) P E s) (by
    have hi : Looks (model prog w) s.heap (isInstance (.ref pb) (.type "tuple")) true := Ib.type.andThen (looks_subIn X e)
    show wpAny _ _ (isInstance (.ref pb) (.type "tuple") >>= _) _ _ s
    refine wpAny_bind (hi.here ?_)
    simp only [Bool.not_true, Bool.false_eq_true, if_false]
    refine wpAny_bind (wpAny_tupleItemsOf Ia.at_ rfl ?_)
    refine wpAny_bind (wpAny_tupleItemsOf Ib.at_ rfl ?_)
    refine wpAny_bind ?_
    show wpAny _ _ (forIn [(Value.int x1 t1, Value.int x2 t2), (Value.int y1 u1, Value.int y2 u2)] _ _) _ _ _
    rw [List.forIn_cons]
    refine wpAny_bind (wpAny_bind (wpAny_eqBool_int ?_))
    by_cases h1 : x1 = x2
    · rw [beq_iff_eq.mpr h1]
      refine wpAny_pure ?_
      dsimp only
      rw [List.forIn_cons]
      refine wpAny_bind (wpAny_bind (wpAny_eqBool_int ?_))
      by_cases h2 : y1 = y2
      · rw [beq_iff_eq.mpr h2]
        refine wpAny_pure ?_
        dsimp only
        rw [List.forIn_nil]
        refine wpAny_pure ?_
        rw [decide_eq_true ⟨h1, h2⟩] at h
        exact wpAny_pure h
      · rw [beq_eq_false_iff_ne.mpr h2]
        rw [decide_eq_false fun z => h2 z.2] at h
        exact wpAny_bind (wpAny_pure (wpAny_pure (wpAny_pure (wpAny_pure h))))
    · rw [beq_eq_false_iff_ne.mpr h1]
      rw [decide_eq_false fun z => h1 z.1] at h
      exact wpAny_bind (wpAny_pure (wpAny_pure (wpAny_pure (wpAny_pure h))))) := trivial
  unfold id at h9; exact h9.get
theorem pt_eq {Q : Value → Shared → Prop} (hu : A.units < cLine) (X : K.In s.heap) (Ia : InstAt s.heap pa (ptObj d1 x1 t1 y1 u1) 132 od1) (Ib : InstAt s.heap pb (ptObj d2 x2 t2 y2 u2) 132 od2) (e : subIn K (.ref 132) (.type "tuple") = some true)
    (hs : findIn K (.ref 132) "__eq__" = some (some (.builtin "tuple.__eq__"))) (h : Q (.bool (decide (x1 = x2 ∧ y1 = y2))) s) : wpAny (model prog w) A (richCompare .Eq (.ref pa) (.ref pb)) Q E s := by
  obtain h9 : Tag9 (P := wpAny (model prog w) A (richCompare .Eq (.ref pa) (.ref pb)) Q E s) (by
    have one : wpAny (model prog w) A (tryCompare (.ref pa) "__eq__" (.ref pb)) (fun r s' => ∃ v, r = some v ∧ Q v s') E s := by
      unfold tryCompare
      refine wpAny_bind ?_
      simp only [callSpecialIfBound?, bindSpecialIfBound?]
      refine wpAny_holding (wpAny_bind (wpAny_bind (wpAny_bind (Ia.type.here ((looks_findIn X hs).here ?_)))))
      refine wpAny_bind (wpAny_askSetting (wpAny_ite ?_))
      have fin : wpAny (model prog w) A (call (.builtin "tuple.__eq__") ([.ref pa] ++ [.ref pb]) >>= fun v => pure (some v)) (fun a s' => wpAny (model prog w) A (match a with | some .notImplemented | none => pure none | some v => pure (some v)) (fun r s' => ∃ v, r = some v ∧ Q v s') E s') E s := by
        refine wpAny_bind (wpAny_call (codeAny_call_builtin F.slot_tuple_eq.plain F.entry_tuple_eq ?_))
        refine @check_slot (model prog w) _ _ s "tuple.__eq__" "tuple" "__eq__" (.ref pa) [.ref pb] [] _ (by decide +kernel) (by decide +kernel) (Ia.type.andThen (looks_subIn X e)) (F.args_tuple_eq_2 _ _) ?_
        exact pt_eq_run X Ia Ib e (wpAny_pure (wpAny_pure ⟨_, rfl, h⟩))
      split
      · exact wpAny_bind (wpAny_of_eq (F.slot_tuple_eq.bind (.ref pa)) (wpAny_pure fin))
      · exact wpAny_tryCatch (wpAny_bind (wpAny_of_eq (F.slot_tuple_eq.bind (.ref pa)) (wpAny_pure fin)))
    unfold richCompare
    simp only [oneThing_ref]
    refine wpAny_holding (wpAny_bind (wpAny_cRoomFor hu ?_))
    refine wpAny_bind (Ia.type.here (wpAny_bind (Ib.type.here ?_)))
    rw [if_neg (by simp)]
    refine wpAny_bind (wpAny_pure ?_)
    simp only [Bool.false_eq_true, if_false]
    refine wpAny_bind (wpAny_mono one (fun r s' z => ?_) fun _ _ e => e)
    obtain ⟨v, rfl, hq⟩ := z
    exact wpAny_pure hq) := trivial
  unfold id at h9; exact h9.get
end
structure TP (P : Params) (news : List (Addr × Obj)) (ta1 td1 c1 l1 r1 ta2 td2 c2 l2 r2 : Addr) : Prop where
  a : TAt P news ta1 td1 c1 l1 r1
  b : TAt P news ta2 td2 c2 l2 r2
  ne : td1 ≠ td2
theorem TP.mono {P : Params} {news news' : List (Addr × Obj)} {ta1 td1 c1 l1 r1 ta2 td2 c2 l2 r2 : Addr} (t : TP P news ta1 td1 c1 l1 r1 ta2 td2 c2 l2 r2) (hs : ∀ p ∈ news, p ∈ news') : TP P news' ta1 td1 c1 l1 r1 ta2 td2 c2 l2 r2 := ⟨t.a.mono hs, t.b.mono hs, t.ne⟩
theorem TP.step {P : Params} {h₀ h : Heap} {L : Addr} {news n0 news' : List (Addr × Obj)} {cx : Addr} {pts : List Addr} {xy : Nat → Int × Int} {al al' : List (Addr × Addr)} {st : List ERec} {ta1 td1 c1 l1 r1 ta2 td2 c2 l2 r2 : Addr}
    (t : TP P news ta1 td1 c1 l1 r1 ta2 td2 c2 l2 r2) (S : Step al n0 al' news') (R : Rep P news cx pts xy al st) (N : News h₀ L h news) (hs : ∀ p ∈ news, p ∈ n0) : TP P news' ta1 td1 c1 l1 r1 ta2 td2 c2 l2 r2 :=
  ⟨t.a.step (S.sub hs) (t.a.off R N), t.b.step (S.sub hs) (t.b.off R N), t.ne⟩
theorem TP.off {P : Params} {h₀ h : Heap} {L : Addr} {news : List (Addr × Obj)} {cx : Addr} {pts : List Addr} {xy : Nat → Int × Int} {al : List (Addr × Addr)} {st : List ERec} {ta1 td1 c1 l1 r1 ta2 td2 c2 l2 r2 : Addr}
    (t : TP P news ta1 td1 c1 l1 r1 ta2 td2 c2 l2 r2) (R : Rep P news cx pts xy al st) (N : News h₀ L h news) : td1 ∉ al.map (·.2) ∧ td2 ∉ al.map (·.2) := ⟨(t.a.off R N).1, (t.b.off R N).1⟩
noncomputable def findBase (f : Nat) (st : List ERec) (fl fr sl sr : Nat) : DT (List ERec × Nat × Nat × Nat × Nat × Nat) :=
  (fbLoop f st fr sl).bind fun x => (conn st (opp st x.2) x.1).bind fun y =>
    match org y.1 x.1, org y.1 fl, org y.1 x.2, org y.1 sr with
    | some a, some b, some c, some d => .ret (y.1, y.2, (if a = b then opp y.1 y.2 else fl), x.1, x.2, (if c = d then y.2 else sr))
    | _, _, _, _ => .fail
theorem pt_eq_lab {prog : Program} {w : World} {A : Around} {E : Value → Shared → Prop} {s : Shared} {h₀ : Heap} {L : Addr} {news : List (Addr × Obj)} {cx : Addr} {pts : List Addr} {xy : Nat → Int × Int} {al : List (Addr × Addr)} {st : List ERec} {i j : Nat} {pa pb : Addr} {Q : Value → Shared → Prop}
    (hu : A.units < cLine) (X : (hd.heap_1 w.params).In s.heap) (N : News h₀ L s.heap news) (R : Rep w.params news cx pts xy al st) (hi : pts[i]? = some pa) (hj : pts[j]? = some pb)
    (hinj : ∀ (i j : Nat) (a b : Addr), pts[i]? = some a → pts[j]? = some b → xy i = xy j → i = j) (h : Q (.bool (decide (i = j))) s) : wpAny (model prog w) A (compareOp .Eq (.ref pa) (.ref pb)) Q E s := by
  obtain ⟨t1, u1, m1⟩ := R.pin _ _ hi
  obtain ⟨t2, u2, m2⟩ := R.pin _ _ hj
  refine cmp_ofEq (pt_eq hu X (pt_at N m1) (pt_at N m2) (by k_is) (by k_is) ?_)
  have e : decide ((xy i).1 = (xy j).1 ∧ (xy i).2 = (xy j).2) = decide (i = j) := by
    by_cases q : i = j
    · subst q; simp
    · rw [decide_eq_false q]
      exact decide_eq_false fun z => q (hinj i j pa pb hi hj (Prod.ext z.1 z.2))
  rw [e]; exact h
theorem pt_eq_t {prog : Program} {w : World} {A : Around} {E : Value → Shared → Prop} {s : Shared} {h₀ : Heap} {L : Addr} {news : List (Addr × Obj)} {cx : Addr} {pts : List Addr} {xy : Nat → Int × Int} {al : List (Addr × Addr)} {st : List ERec} {i j : Nat} {pa pb : Addr} {Q : Value → Shared → Prop}
    (hu : A.units < cLine) (X : (hd.heap_1 w.params).In s.heap) (N : News h₀ L s.heap news) (R : Rep w.params news cx pts xy al st) (hinj : ∀ (i j : Nat) (a b : Addr), pts[i]? = some a → pts[j]? = some b → xy i = xy j → i = j) (hi : pts[i]? = some pa) (hj : pts[j]? = some pb)
    (e : i = j) (h : Q (.bool true) s) : wpAny (model prog w) A (compareOp .Eq (.ref pa) (.ref pb)) Q E s := pt_eq_lab hu X N R hi hj hinj (by rw [decide_eq_true e]; exact h)
theorem pt_eq_f {prog : Program} {w : World} {A : Around} {E : Value → Shared → Prop} {s : Shared} {h₀ : Heap} {L : Addr} {news : List (Addr × Obj)} {cx : Addr} {pts : List Addr} {xy : Nat → Int × Int} {al : List (Addr × Addr)} {st : List ERec} {i j : Nat} {pa pb : Addr} {Q : Value → Shared → Prop}
    (hu : A.units < cLine) (X : (hd.heap_1 w.params).In s.heap) (N : News h₀ L s.heap news) (R : Rep w.params news cx pts xy al st) (hinj : ∀ (i j : Nat) (a b : Addr), pts[i]? = some a → pts[j]? = some b → xy i = xy j → i = j) (hi : pts[i]? = some pa) (hj : pts[j]? = some pb)
    (e : ¬ i = j) (h : Q (.bool false) s) : wpAny (model prog w) A (compareOp .Eq (.ref pa) (.ref pb)) Q E s := pt_eq_lab hu X N R hi hj hinj (by rw [decide_eq_false e]; exact h)
example : True := by
  k_with "call ref" => w_strict (k_here; (with_reducible show wpAny _ _ (call (Value.ref 383) _ _) _ _ _); k_dflt (refine g_connect (by k_asm) (by k_asm) (by k_asm) (by k_asm) (by k_asm) (by first | exact rfl | assumption) (by (first | assumption | exact Rep.mono ‹_› (by intro p9 hp9; first | exact mtl _ hp9 | exact mtl _ (mtl _ hp9) | exact mtl _ (mtl _ (mtl _ hp9))))) ‹_› ‹_› ‹_› ‹_› (by ktr_room) ?_; k_whole); (rename Rep _ _ _ _ _ _ _ => rOld9; rename StepD _ _ _ _ _ => sOld9; rename TP _ _ _ _ _ _ _ _ _ _ _ _ => tOld9; rename News _ _ _ _ => nOld9); intro _ _ _ _ _ _ _ _ _ S' _; (have T' := TP.step tOld9 S' rOld9 nOld9 (fun _ h9 => h9)); (have S'' := StepD.step sOld9 S'); clear rOld9 tOld9 sOld9; (try k_sweep); (try (revert S'; intro _)); (try (revert T'; intro _)); (try (revert S''; intro _)))
  k_with "compareOp Eq ref ref" => w_strict (k_here; k_dflt (refine pt_eq_lab (by ktr_units) (by k_in) (by k_asm) (by (first | assumption | exact Rep.mono ‹_› (by intro p9 hp9; first | exact mtl _ hp9 | exact mtl _ (mtl _ hp9) | exact mtl _ (mtl _ (mtl _ hp9))))) ‹_› ‹_› ‹_› ?_; k_whole))
  trivial
theorem g_setP_a_left_side {A : Around} {Q : Unit → Shared → Prop} {ta1 td1 c1 l1 r1 ta2 td2 c2 l2 r2 b : Addr} (F : Fr h₀ L s.heap m) (X : (hd.heap_1 w.params).In h₀) (N : News h₀ L s.heap news) (t : TP w.params news ta1 td1 c1 l1 r1 ta2 td2 c2 l2 r2)
   (ret : ∀ h' tk' news', Fr h₀ L h' m → News h₀ L h' news' → TP w.params news' ta1 td1 c1 b r1 ta2 td2 c2 l2 r2 → (∀ p ∈ news, p.1 ≠ td1 → p ∈ news') → (∀ {cx : Addr} {pts : List Addr} {xy : Nat → Int × Int} {al : List (Addr × Addr)} {st : List ERec}, Rep w.params news cx pts xy al st → Rep w.params news' cx pts xy al st) → Q () { s with heap := h', toks := tk' }) :
   wpAny (model prog w) A (setAttr (.ref ta1) "left_side" (.ref b)) Q E s := by
  refine g_setT_left_side F X N t.a fun h' tk' news' F' N' T' keep => ret h' tk' news' F' N' ⟨T', t.b.keep keep (t.b.ne t.a N) (Ne.symm t.ne), t.ne⟩ keep fun R => ?_
  obtain ⟨_, _, _, _, _, _, m2⟩ := t.a
  exact R.drop N m2 keep
theorem g_setP_a_right_side {A : Around} {Q : Unit → Shared → Prop} {ta1 td1 c1 l1 r1 ta2 td2 c2 l2 r2 b : Addr} (F : Fr h₀ L s.heap m) (X : (hd.heap_1 w.params).In h₀) (N : News h₀ L s.heap news) (t : TP w.params news ta1 td1 c1 l1 r1 ta2 td2 c2 l2 r2)
   (ret : ∀ h' tk' news', Fr h₀ L h' m → News h₀ L h' news' → TP w.params news' ta1 td1 c1 l1 b ta2 td2 c2 l2 r2 → (∀ p ∈ news, p.1 ≠ td1 → p ∈ news') → (∀ {cx : Addr} {pts : List Addr} {xy : Nat → Int × Int} {al : List (Addr × Addr)} {st : List ERec}, Rep w.params news cx pts xy al st → Rep w.params news' cx pts xy al st) → Q () { s with heap := h', toks := tk' }) :
   wpAny (model prog w) A (setAttr (.ref ta1) "right_side" (.ref b)) Q E s := by
  refine g_setT_right_side F X N t.a fun h' tk' news' F' N' T' keep => ret h' tk' news' F' N' ⟨T', t.b.keep keep (t.b.ne t.a N) (Ne.symm t.ne), t.ne⟩ keep fun R => ?_
  obtain ⟨_, _, _, _, _, _, m2⟩ := t.a
  exact R.drop N m2 keep
theorem g_setP_b_left_side {A : Around} {Q : Unit → Shared → Prop} {ta1 td1 c1 l1 r1 ta2 td2 c2 l2 r2 b : Addr} (F : Fr h₀ L s.heap m) (X : (hd.heap_1 w.params).In h₀) (N : News h₀ L s.heap news) (t : TP w.params news ta1 td1 c1 l1 r1 ta2 td2 c2 l2 r2)
   (ret : ∀ h' tk' news', Fr h₀ L h' m → News h₀ L h' news' → TP w.params news' ta1 td1 c1 l1 r1 ta2 td2 c2 b r2 → (∀ p ∈ news, p.1 ≠ td2 → p ∈ news') → (∀ {cx : Addr} {pts : List Addr} {xy : Nat → Int × Int} {al : List (Addr × Addr)} {st : List ERec}, Rep w.params news cx pts xy al st → Rep w.params news' cx pts xy al st) → Q () { s with heap := h', toks := tk' }) :
   wpAny (model prog w) A (setAttr (.ref ta2) "left_side" (.ref b)) Q E s := by
  refine g_setT_left_side F X N t.b fun h' tk' news' F' N' T' keep => ret h' tk' news' F' N' ⟨t.a.keep keep (t.a.ne t.b N) t.ne, T', t.ne⟩ keep fun R => ?_
  obtain ⟨_, _, _, _, _, _, m2⟩ := t.b
  exact R.drop N m2 keep
theorem g_setP_b_right_side {A : Around} {Q : Unit → Shared → Prop} {ta1 td1 c1 l1 r1 ta2 td2 c2 l2 r2 b : Addr} (F : Fr h₀ L s.heap m) (X : (hd.heap_1 w.params).In h₀) (N : News h₀ L s.heap news) (t : TP w.params news ta1 td1 c1 l1 r1 ta2 td2 c2 l2 r2)
   (ret : ∀ h' tk' news', Fr h₀ L h' m → News h₀ L h' news' → TP w.params news' ta1 td1 c1 l1 r1 ta2 td2 c2 l2 b → (∀ p ∈ news, p.1 ≠ td2 → p ∈ news') → (∀ {cx : Addr} {pts : List Addr} {xy : Nat → Int × Int} {al : List (Addr × Addr)} {st : List ERec}, Rep w.params news cx pts xy al st → Rep w.params news' cx pts xy al st) → Q () { s with heap := h', toks := tk' }) :
   wpAny (model prog w) A (setAttr (.ref ta2) "right_side" (.ref b)) Q E s := by
  refine g_setT_right_side F X N t.b fun h' tk' news' F' N' T' keep => ret h' tk' news' F' N' ⟨t.a.keep keep (t.a.ne t.b N) t.ne, T', t.ne⟩ keep fun R => ?_
  obtain ⟨_, _, _, _, _, _, m2⟩ := t.b
  exact R.drop N m2 keep
example : True := by
  k_with "getAttr ref" => w_strict (k_here; (with_reducible show wpAny _ _ (getAttr (Value.ref _) (Str.ofString "left_side") _) _ _ _); k_dflt (refine g_getT_left_side (by k_asm) (by k_asm) (by k_asm) (by (first | exact TP.a (by (first | assumption | exact TP.mono ‹_› (by intro p9 hp9; first | exact mtl _ hp9 | exact mtl _ (mtl _ hp9)))) | exact TP.b (by (first | assumption | exact TP.mono ‹_› (by intro p9 hp9; first | exact mtl _ hp9 | exact mtl _ (mtl _ hp9)))))) ?_; k_whole))
  k_with "getAttr ref" => w_strict (k_here; (with_reducible show wpAny _ _ (getAttr (Value.ref _) (Str.ofString "right_side") _) _ _ _); k_dflt (refine g_getT_right_side (by k_asm) (by k_asm) (by k_asm) (by (first | exact TP.a (by (first | assumption | exact TP.mono ‹_› (by intro p9 hp9; first | exact mtl _ hp9 | exact mtl _ (mtl _ hp9)))) | exact TP.b (by (first | assumption | exact TP.mono ‹_› (by intro p9 hp9; first | exact mtl _ hp9 | exact mtl _ (mtl _ hp9)))))) ?_; k_whole))
  k_with "getAttr ref" => w_strict (k_here; (with_reducible show wpAny _ _ (getAttr (Value.ref _) (Str.ofString "context") _) _ _ _); k_dflt (refine g_getT_context (by k_asm) (by k_asm) (by k_asm) (by (first | exact TP.a (by (first | assumption | exact TP.mono ‹_› (by intro p9 hp9; first | exact mtl _ hp9 | exact mtl _ (mtl _ hp9)))) | exact TP.b (by (first | assumption | exact TP.mono ‹_› (by intro p9 hp9; first | exact mtl _ hp9 | exact mtl _ (mtl _ hp9)))))) ?_; k_whole))
  k_with "setAttr ref" => w_strict (k_here; (with_reducible show wpAny _ _ (setAttr (Value.ref _) (Str.ofString "left_side") _) _ _ _); k_dflt (refine g_setP_a_left_side (by k_asm) (by k_asm) (by k_asm) (by (first | assumption | exact TP.mono ‹_› (by intro p9 hp9; first | exact mtl _ hp9 | exact mtl _ (mtl _ hp9)))) ?_; k_whole); (rename Rep _ _ _ _ _ _ _ => rOld9; rename StepD _ _ _ _ _ => sOld9; rename TP _ _ _ _ _ _ _ _ _ _ _ _ => tOld9); intro _ _ _ _ _ _ keep9 tr9; (have R' := tr9 rOld9); (have S' := StepD.set sOld9 keep9 (by first | exact List.mem_cons_self .. | exact mcm _ (List.mem_cons_self ..))); clear tr9 keep9 rOld9 sOld9 tOld9; (try k_sweep); (try (revert keep9; intro _)); (try (revert tr9; intro _)); (try (revert R'; intro _)); (try (revert S'; intro _)))
  k_with "setAttr ref" => w_strict (k_here; (with_reducible show wpAny _ _ (setAttr (Value.ref _) (Str.ofString "right_side") _) _ _ _); k_dflt (refine g_setP_a_right_side (by k_asm) (by k_asm) (by k_asm) (by (first | assumption | exact TP.mono ‹_› (by intro p9 hp9; first | exact mtl _ hp9 | exact mtl _ (mtl _ hp9)))) ?_; k_whole); (rename Rep _ _ _ _ _ _ _ => rOld9; rename StepD _ _ _ _ _ => sOld9; rename TP _ _ _ _ _ _ _ _ _ _ _ _ => tOld9); intro _ _ _ _ _ _ keep9 tr9; (have R' := tr9 rOld9); (have S' := StepD.set sOld9 keep9 (by first | exact List.mem_cons_self .. | exact mcm _ (List.mem_cons_self ..))); clear tr9 keep9 rOld9 sOld9 tOld9; (try k_sweep); (try (revert keep9; intro _)); (try (revert tr9; intro _)); (try (revert R'; intro _)); (try (revert S'; intro _)))
  k_with "setAttr ref" => w_strict (k_here; (with_reducible show wpAny _ _ (setAttr (Value.ref _) (Str.ofString "left_side") _) _ _ _); k_dflt (refine g_setP_b_left_side (by k_asm) (by k_asm) (by k_asm) (by (first | assumption | exact TP.mono ‹_› (by intro p9 hp9; first | exact mtl _ hp9 | exact mtl _ (mtl _ hp9)))) ?_; k_whole); (rename Rep _ _ _ _ _ _ _ => rOld9; rename StepD _ _ _ _ _ => sOld9; rename TP _ _ _ _ _ _ _ _ _ _ _ _ => tOld9); intro _ _ _ _ _ _ keep9 tr9; (have R' := tr9 rOld9); (have S' := StepD.set sOld9 keep9 (by first | exact List.mem_cons_self .. | exact mcm _ (List.mem_cons_self ..))); clear tr9 keep9 rOld9 sOld9 tOld9; (try k_sweep); (try (revert keep9; intro _)); (try (revert tr9; intro _)); (try (revert R'; intro _)); (try (revert S'; intro _)))
  k_with "setAttr ref" => w_strict (k_here; (with_reducible show wpAny _ _ (setAttr (Value.ref _) (Str.ofString "right_side") _) _ _ _); k_dflt (refine g_setP_b_right_side (by k_asm) (by k_asm) (by k_asm) (by (first | assumption | exact TP.mono ‹_› (by intro p9 hp9; first | exact mtl _ hp9 | exact mtl _ (mtl _ hp9)))) ?_; k_whole); (rename Rep _ _ _ _ _ _ _ => rOld9; rename StepD _ _ _ _ _ => sOld9; rename TP _ _ _ _ _ _ _ _ _ _ _ _ => tOld9); intro _ _ _ _ _ _ keep9 tr9; (have R' := tr9 rOld9); (have S' := StepD.set sOld9 keep9 (by first | exact List.mem_cons_self .. | exact mcm _ (List.mem_cons_self ..))); clear tr9 keep9 rOld9 sOld9 tOld9; (try k_sweep); (try (revert keep9; intro _)); (try (revert tr9; intro _)); (try (revert R'; intro _)); (try (revert S'; intro _)))
  trivial
theorem g_find {cx : Addr} {pts : List Addr} {xy : Nat → Int × Int} {al : List (Addr × Addr)} {st : List ERec} {f fl fr sl sr : Nat} {ta1 td1 c1 l1 r1 ta2 td2 c2 l2 r2 d1 d2 d3 d4 : Addr} {fin : List ERec × Nat × Nat × Nat × Nat × Nat} (B : Below A₀ base outer h₀) (F : Fr h₀ L s.heap m) (X : (hd.heap_1 w.params).In h₀) (N : News h₀ L s.heap news) (T : Top p loose mean mg mb h₀) (hk : cs.kind = .function) (R : Rep w.params news cx pts xy al st) (t : TP w.params news ta1 td1 c1 l1 r1 ta2 td2 c2 l2 r2)
   (h1 : al[fl]? = some (l1, d1)) (h2 : al[fr]? = some (r1, d2)) (h3 : al[sl]? = some (l2, d3)) (h4 : al[sr]? = some (r2, d4))
   (hinj : ∀ (i j : Nat) (a b : Addr), pts[i]? = some a → pts[j]? = some b → xy i = xy j → i = j)
   (hrun : (findBase f st fl fr sl sr).run (truth xy) = some fin) (hroom : dp + 16 < recursionLimit) (hu : un + 300 < cLine)
   (ret : ∀ h' tk' news' al' b bd x1 e1 x2 e2 x3 e3 x4 e4, Fr h₀ L h' m → News h₀ L h' news' → Rep w.params news' cx pts xy al' fin.1 → StepD [td1, td2] al news al' news' → al'[fin.2.1]? = some (b, bd) →
     TP w.params news' ta1 td1 c1 x1 x2 ta2 td2 c2 x3 x4 → al'[fin.2.2.1]? = some (x1, e1) → al'[fin.2.2.2.1]? = some (x2, e2) → al'[fin.2.2.2.2.1]? = some (x3, e3) → al'[fin.2.2.2.2.2]? = some (x4, e4) → Q (.ref b) { s with heap := h', toks := tk' }) :
   wpAny (model prog w) (ktrTop dp un gd cn cs L a ccd cl outer) (call (.ref 499) [.ref ta1, .ref ta2]) Q E s := by
  obtain h9 : Tag9 (P := wpAny (model prog w) (ktrTop dp un gd cn cs L a ccd cl outer) (call (.ref 499) [.ref ta1, .ref ta2]) Q E s) (by
    unfold findBase at hrun
    rw [DT.run_bind] at hrun
    obtain ⟨x0, hl, hrun⟩ := Option.bind_eq_some_iff.mp hrun
    refine wpAny_call ?_
    have S0 : StepD [td1, td2] al news al news := StepD.refl
    k_dflt k_enter
    k_steps
    unfold Halt
    refine' my_while (σ := Nat × Nat × Addr × Addr × Addr × Addr) "first" [] (fun _ => .ref ta1) (fun n x nx => Rep w.params nx cx pts xy al st ∧ StepD [td1, td2] al news al nx ∧ TP w.params nx ta1 td1 c1 l1 x.2.2.1 ta2 td2 c2 x.2.2.2.2.1 r2 ∧ al[x.1]? = some (x.2.2.1, x.2.2.2.1) ∧ al[x.2.1]? = some (x.2.2.2.2.1, x.2.2.2.2.2) ∧ (fbLoop n st x.1 x.2.1).run (truth xy) = some x0)
      (n₀ := f) (a₀ := (fr, sl, _, _, _, _)) ?F ?N ?hy ⟨R, S0, t, h2, h3, hl⟩ ?turn ?hE
    case F => k_asm
    case N => k_asm
    case hy => rfl
    case hE => passes_own
    case turn =>
      intro n x u nx h' tk' hI F' N'
      obtain ⟨li, ri, la, ld, ra, rd⟩ := x
      obtain ⟨R1, S1, T1, g1, g2, hr⟩ := hI
      dsimp only at T1 g1 g2 hr F'
      clear R S0 t hl h2 h3
      (try k_fold)
      cases n with
      | zero => cases hr
      | succ n =>
        unfold fbLoop at hr
        split at hr
        · rename_i rs ls le re y1 y2 y3 y4
          by_cases hccw : 0 < cr xy ls le rs
          · simp only [DT.run, truth, decide_eq_true hccw] at hr
            k_steps
            refine' MwEnd.go (a' := (_, _, ?pz1, ?qz1, ?uz1, ?vz1)) ?Fz1 ?Nz1 (Nat.lt_succ_self _) ⟨?Rz1, ?Sz1, ?Tz1, ?gz1, ?hz1, hr⟩ ?hvz1 ?hmz1
            case Fz1 => k_asm
            case Nz1 => k_asm
            case Tz1 => assumption
            case Rz1 => assumption
            case Sz1 => assumption
            case gz1 => assumption
            case hz1 => assumption
            case hvz1 => exact rfl
            case hmz1 => (intro x9 h9 g9; simp only [if_neg h9, g9, Bool.false_eq_true, if_false])
          · simp only [DT.run, truth, decide_eq_false hccw] at hr
            by_cases hcw : cr xy rs re ls < 0
            · simp only [DT.run, truth, decide_eq_true hcw] at hr
              k_steps
              refine' MwEnd.go (a' := (_, _, ?pz2, ?qz2, ?uz2, ?vz2)) ?Fz2 ?Nz2 (Nat.lt_succ_self _) ⟨?Rz2, ?Sz2, ?Tz2, ?gz2, ?hz2, hr⟩ ?hvz2 ?hmz2
              case Fz2 => k_asm
              case Nz2 => k_asm
              case Tz2 => assumption
              case Rz2 => assumption
              case Sz2 => assumption
              case gz2 => assumption
              case hz2 => assumption
              case hvz2 => exact rfl
              case hmz2 => (intro x9 h9 g9; simp only [if_neg h9, g9, Bool.false_eq_true, if_false])
            · simp only [DT.run, truth, decide_eq_false hcw] at hr
              cases hr
              dsimp only at hrun
              rw [DT.run_bind] at hrun
              obtain ⟨x1, hc, hrun⟩ := Option.bind_eq_some_iff.mp hrun
              unfold conn at hc
              split at hc
              · rename_i s0 e0 w1 w2
                cases hc
                dsimp only at hrun
                split at hrun
                · rename_i oa ob oc od v1 v2 v3 v4
                  cases hrun
                  unfold dst opp at w1
                  rw [y2] at w2; cases w2
                  k_steps
                  dsimp only [MwEnd]
                  k_steps
                  all_goals (first | rw [if_pos (show oa = ob by assumption)] at ret | rw [if_neg (show ¬ oa = ob by assumption)] at ret)
                  all_goals (first | rw [if_pos (show oc = od by assumption)] at ret | rw [if_neg (show ¬ oc = od by assumption)] at ret)
                  · refine' ret _ _ _ _ _ _ _ _ _ _ _ _ _ _ ?Fy0 ?Ny0 ?Ry0 ?Sy0 ?by0 ?Ty0 ?py0 ?qy0 ?ry0 ?sy0
                    case Fy0 => k_asm
                    case Ny0 => k_asm
                    case Ry0 => assumption
                    case Sy0 => assumption
                    case by0 => assumption
                    case Ty0 => assumption
                    case py0 => first | assumption | exact StepD.up (by assumption) (by assumption)
                    case qy0 => first | assumption | exact StepD.up (by assumption) (by assumption)
                    case ry0 => first | assumption | exact StepD.up (by assumption) (by assumption)
                    case sy0 => first | assumption | exact StepD.up (by assumption) (by assumption)
                  · refine' ret _ _ _ _ _ _ _ _ _ _ _ _ _ _ ?Fy1 ?Ny1 ?Ry1 ?Sy1 ?by1 ?Ty1 ?py1 ?qy1 ?ry1 ?sy1
                    case Fy1 => k_asm
                    case Ny1 => k_asm
                    case Ry1 => assumption
                    case Sy1 => assumption
                    case by1 => assumption
                    case Ty1 => assumption
                    case py1 => first | assumption | exact StepD.up (by assumption) (by assumption)
                    case qy1 => first | assumption | exact StepD.up (by assumption) (by assumption)
                    case ry1 => first | assumption | exact StepD.up (by assumption) (by assumption)
                    case sy1 => first | assumption | exact StepD.up (by assumption) (by assumption)
                  · refine' ret _ _ _ _ _ _ _ _ _ _ _ _ _ _ ?Fy2 ?Ny2 ?Ry2 ?Sy2 ?by2 ?Ty2 ?py2 ?qy2 ?ry2 ?sy2
                    case Fy2 => k_asm
                    case Ny2 => k_asm
                    case Ry2 => assumption
                    case Sy2 => assumption
                    case by2 => assumption
                    case Ty2 => assumption
                    case py2 => first | assumption | exact StepD.up (by assumption) (by assumption)
                    case qy2 => first | assumption | exact StepD.up (by assumption) (by assumption)
                    case ry2 => first | assumption | exact StepD.up (by assumption) (by assumption)
                    case sy2 => first | assumption | exact StepD.up (by assumption) (by assumption)
                  · refine' ret _ _ _ _ _ _ _ _ _ _ _ _ _ _ ?Fy3 ?Ny3 ?Ry3 ?Sy3 ?by3 ?Ty3 ?py3 ?qy3 ?ry3 ?sy3
                    case Fy3 => k_asm
                    case Ny3 => k_asm
                    case Ry3 => assumption
                    case Sy3 => assumption
                    case by3 => assumption
                    case Ty3 => assumption
                    case py3 => first | assumption | exact StepD.up (by assumption) (by assumption)
                    case qy3 => first | assumption | exact StepD.up (by assumption) (by assumption)
                    case ry3 => first | assumption | exact StepD.up (by assumption) (by assumption)
                    case sy3 => first | assumption | exact StepD.up (by assumption) (by assumption)
                · cases hrun
              · cases hc
        · cases hr) := trivial
  unfold id at h9; exact h9.get
example : True := by
  w_top off
  k_with_none
  k_with "inst9" => first | ((with_reducible show InstAt _ (@OfNat.ofNat _ _ _) _ _ _); refine InstAt.of_K (by first | assumption | exact Frag.In.keeps (by k_asm) (Fr.keep (by k_asm))) (by k_is) (by k_is)) | (refine InstAt.of_news (by k_asm) (by k_mem) (by k_mem))
  k_with "e9" => (first | (refine code_def (by k_asm) (by k_asm) (by k_asm) (by k_asm) (by k_asm) rfl rfl (by first | exact rfl | assumption) (by k_is) (by k_is) (by ktr_room) (by first | exact BindsTo.of_eq rfl | refine kp_binds (by k_in) (by exact fun _ => rfl)) (by exact locs rfl) ?_ (by exact rfl) (by exact rfl) (by exact rfl) (by decide); k_whole; intro _ _ _ _ _ _ _ _ _; (try dsimp only); (try k_fold)) | (refine code_defC (by k_asm) (by k_asm) (by k_asm) (by k_asm) (by k_asm) rfl rfl (by first | exact rfl | assumption) (by k_is) (by k_is) (by ktr_room) (by first | exact BindsTo.of_eq rfl | refine kp_binds (by k_in) (by exact fun _ => rfl)) (by exact rfl) (by decide +kernel) ?_ (by exact rfl) (by exact rfl) (by exact rfl); k_whole; intro _ _ _ _ _ _ _ N' Y' _ _ _ l1; (try k_lt l1); (try dsimp only); (try k_fold); (first | k_cells Y' | (obtain ⟨_, _, _, _, _, hE', _, _, _, _, _⟩ := cells_five Y'; subst hE'; clear Y')); (try simp only [List.cons_append, List.nil_append] at N'); (try dsimp only); (try k_fold); (try (revert N'; intro _)); (try (revert l1; intro _))))
  k_with "ne9" => (refine neN ?_; (try dsimp only); with_reducible first | exact neU1 | exact neU2 | exact neU3 | exact neU4 | exact neD1 | exact neD2 | exact neD3 | exact neD4 | exact Nat.ne_of_gt ‹_› | exact Nat.ne_of_lt ‹_› | exact gtA1 ‹_› | exact Ne.symm (gtA1 ‹_›) | exact gtA2 ‹_› | exact Ne.symm (gtA2 ‹_›) | exact gtA3 ‹_› | exact Ne.symm (gtA3 ‹_›) | exact gtA4 ‹_› | exact Ne.symm (gtA4 ‹_›) | exact gtA5 ‹_› | exact Ne.symm (gtA5 ‹_›) | exact gtA6 ‹_› | exact Ne.symm (gtA6 ‹_›) | exact gtA7 ‹_› | exact Ne.symm (gtA7 ‹_›) | exact gtA8 ‹_› | exact Ne.symm (gtA8 ‹_›) | exact gtA9 ‹_› | exact Ne.symm (gtA9 ‹_›) | exact gtA10 ‹_› | exact Ne.symm (gtA10 ‹_›) | exact gtA11 ‹_› | exact Ne.symm (gtA11 ‹_›) | exact gtA12 ‹_› | exact Ne.symm (gtA12 ‹_›))
  k_with "room9" => (first | exact room2 ‹_› (by exact rfl) | exact room1 ‹_› (by exact rfl) | exact room0 ‹_›)
  k_with "units9" => (first | exact unit2 ‹_› (by exact rfl) | exact unit1 ‹_› (by exact rfl) | exact unit0 ‹_›)
  k_with "mem9" => (first | with_reducible assumption | with_reducible exact at0 | with_reducible exact at1 | with_reducible exact at2 | with_reducible exact at3 | with_reducible exact at4 | with_reducible exact at5 | with_reducible exact at6 | with_reducible exact at7 | with_reducible exact at8 | with_reducible exact at9 | with_reducible exact at10 | with_reducible exact at11 | with_reducible exact at12 | with_reducible exact at13 | with_reducible exact at14 | exact up1 (by with_reducible assumption) | exact up2 (by with_reducible assumption) | exact up3 (by with_reducible assumption) | exact up4 (by with_reducible assumption) | exact up5 (by with_reducible assumption) | exact up6 (by with_reducible assumption) | assumption)
  k_with "mul9" => (first | exact Bd.ok1 ‹_› ‹_› ‹_› ‹_› | exact Bd.ok2 ‹_› ‹_› ‹_› ‹_› ‹_› ‹_› ‹_› ‹_› ‹_› ‹_› ‹_› ‹_› ‹_› ‹_› ‹_› ‹_›)
  k_with "execs cons" => w_strict (refine wpAny_execs_cons ?_; (try k_fold))
  k_with "eval BinOp" => w_strict (k_fold)
  k_with "eval Call" => w_strict (k_fold)
  k_with "eval Call Attribute" => w_strict (k_fold)
  k_with "eval Attribute Name" => w_strict (k_fold)
  k_with "eval Subscript" => w_strict (k_fold)
  k_with "eval Attribute Attribute" => w_strict (k_fold)
  k_with "getAttr ref" => w_strict (k_fold)
  k_with "eval Tuple" => w_strict (k_fold)
  k_with "assignInOrder" => w_strict (k_fold)
  k_with "exec Assign" => w_strict (k_fold)
  k_with "isTrue BoolOp" => w_strict (k_fold)
  k_with "isTrue Compare" => w_strict (k_fold)
  k_with "callWith ref" => w_strict (k_fold)
  trivial
theorem TP.step' {P : Params} {h₀ h : Heap} {L : Addr} {news n0 news' : List (Addr × Obj)} {cx : Addr} {pts : List Addr} {xy : Nat → Int × Int} {al al' : List (Addr × Addr)} {st : List ERec} {ta1 td1 c1 l1 r1 ta2 td2 c2 l2 r2 : Addr}
    (t : TP P news ta1 td1 c1 l1 r1 ta2 td2 c2 l2 r2) (S : Step al n0 al' news') (R : Rep P news cx pts xy al st) (N : News h₀ L h n0) (hs : ∀ p ∈ news, p ∈ n0) : TP P news' ta1 td1 c1 l1 r1 ta2 td2 c2 l2 r2 :=
  t.step S R (fun p hp => N p (hs p hp)) hs
theorem StepD.step' {D : List Addr} {al al1 al2 : List (Addr × Addr)} {n n1 n0 n2 : List (Addr × Obj)} (x : StepD D al n al1 n1) (y : Step al1 n0 al2 n2) (hs : ∀ p ∈ n1, p ∈ n0) : StepD D al n al2 n2 := x.step (y.sub hs)
theorem TAt.mk2 {P : Params} {news : List (Addr × Obj)} {x d cx l r : Addr} {t1 t2 t3 t4 : Tok} {hv : Value} : TAt P ((x, instObj 481 d) :: (d, dictOf (triD P t1 t2 t3 t4 (.ref cx) (.ref l) (.ref r) hv) 4) :: news) x d cx l r := ⟨.head _, _, _, _, _, _, .tail _ (.head _)⟩
noncomputable def LtAll (l : List (Addr × Obj)) (d : Addr) : Prop := ∀ p ∈ l, p.1 < d
theorem LtAll.of {l : List (Addr × Obj)} {d : Addr} (h : ∀ p ∈ l, p.1 < d) : LtAll l d := h
theorem StepD.more {D : List Addr} {al al1 : List (Addr × Addr)} {n n1 n2 : List (Addr × Obj)} (x : StepD D al n al1 n1) (hs : ∀ p ∈ n1, p ∈ n2) : StepD D al n al1 n2 :=
  ⟨x.1, fun p hp hn hD => let ⟨a, b⟩ := x.2 p hp hn hD; ⟨hs p a, b⟩⟩
noncomputable def mergeD (f F0 f2 : Nat) (st : List ERec) (fl fr sl sr : Nat) : DT (List ERec × Nat × Nat) :=
  (findBase f st fl fr sl sr).bind fun x => (connectLoop F0 f2 x.1 x.2.1).bind fun y => .ret (y, x.2.2.1, x.2.2.2.2.2)
theorem g_newT {l r cx : Addr} (B : Below A₀ base outer h₀) (F : Fr h₀ L s.heap m) (X : (hd.heap_1 w.params).In h₀) (N : News h₀ L s.heap news) (T : Top p loose mean mg mb h₀) (hk : cs.kind = .function) (hroom : dp + 4 < recursionLimit) (hu : un + 100 < cLine)
   (ret : ∀ h' tk' x d t1 t2 t3 t4 hv, Fr h₀ L h' m → News h₀ L h' ((x, instObj 481 d) :: (d, dictOf (triD w.params t1 t2 t3 t4 (.ref cx) (.ref l) (.ref r) hv) 4) :: news) → (∀ p ∈ news, p.1 < d) → @LT.lt Nat _ d x → Q (.ref x) { s with heap := h', toks := tk' }) :
   wpAny (model prog w) (ktrTop dp un gd cn cs L a ccd cl outer) (call (.ref 481) [.ref l, .ref r, .ref cx]) Q E s := by
  obtain h9 : Tag9 (P := wpAny (model prog w) (ktrTop dp un gd cn cs L a ccd cl outer) (call (.ref 481) [.ref l, .ref r, .ref cx]) Q E s) (by
    k_dflt (refine' call_cls ?k1 ?k2 ?k3 ?k4 ?k5 ?k6 ?_; (case k1 => k_asm); (case k2 => k_asm); (case k3 => k_asm); (case k4 => k_is); (case k5 => k_is); (case k6 => k_is); k_whole)
    intro x' d' h' F' N' l1 l2
    have l3 := l1
    (try k_lt l1)
    k_lt2 l2
    k_dflt k_enter
    k_steps
    all_goals exact ret _ _ _ _ _ _ _ _ _ (by k_asm) (News.perm (by assumption) fun p9 hp9 => mtl _ (mtl _ hp9)) l3 l2) := trivial
  unfold id at h9; exact h9.get
theorem g_cxbound {A : Around} {expr : Bool} {cx : Addr} {pts : List Addr} {xy : Nat → Int × Int} {al : List (Addr × Addr)} {st : List ERec} (F : Fr h₀ L s.heap m) (X : (hd.heap_1 w.params).In h₀) (N : News h₀ L s.heap news) (R : Rep w.params news cx pts xy al st)
   (h : ∀ q h', Fr h₀ L h' m → News h₀ L h' ((q, methodObj (.ref 258) (.ref cx)) :: news) → (∀ p ∈ news, p.1 < q) → Q (.ref q) { s with heap := h', toks := s.toks + 1 }) : wpAny (model prog w) A (getAttr (.ref cx) "locate_point_in_point_point_point_circle" expr) Q E s := by
  obtain ⟨dcx, m1, m2⟩ := R.ctx
  k_dflt (refine' kbm_bound F X N (InstAt.of_news N m1 m2) ?k5 ?k6 ?k7 ?k8 ?k9 ?k10 ?k11 ?k12 h; (case k5 => k_is); (case k6 => k_is); (case k7 => k_is); (case k8 => k_is); (case k9 => k_is); (case k10 => k_is); (case k11 => decide +kernel); (case k12 => k_get))
example : True := by
  k_with "call ref" => w_strict (k_here; (with_reducible show wpAny _ _ (call (Value.ref 499) [Value.ref _, Value.ref _] _) _ _ _); k_dflt (refine g_find (by k_asm) (by k_asm) (by k_asm) (by k_asm) (by k_asm) (by first | exact rfl | assumption) (by (first | assumption | exact Rep.mono ‹_› (by intro p9 hp9; first | exact mtl _ hp9 | exact mtl _ (mtl _ hp9) | exact mtl _ (mtl _ (mtl _ hp9))))) (by (first | assumption | exact TP.mono ‹_› (by intro p9 hp9; first | exact mtl _ hp9 | exact mtl _ (mtl _ hp9)))) ‹_› ‹_› ‹_› ‹_› ‹_› ‹_› (by ktr_room) (by ktr_units) ?_; k_whole); (rename Rep _ _ _ _ _ _ _ => rOld9; rename TP _ _ _ _ _ _ _ _ _ _ _ _ => tOld9); intro _ _ _ _ _ _ _ _ _ _ _ _ _ _ _ _ _ _ _ _ _ _ _ _; clear rOld9 tOld9; (try k_sweep))
  k_with "getAttr ref" => w_strict (k_here; (with_reducible show wpAny _ _ (getAttr (Value.ref _) (Str.ofString "locate_point_in_point_point_point_circle") _) _ _ _); k_dflt (refine g_cxbound (by k_asm) (by k_asm) (by k_asm) (by (first | assumption | exact Rep.mono ‹_› (by intro p9 hp9; first | exact mtl _ hp9 | exact mtl _ (mtl _ hp9) | exact mtl _ (mtl _ (mtl _ hp9))))) ?_; k_whole); intro _ _ _ _ l1; (try k_lt l1); (try k_sweep); (try (revert l1; intro _)))
  k_with "call ref" => w_strict (k_here; (with_reducible show wpAny _ _ (call (Value.ref 492) [Value.ref _, Value.ref _] _) _ _ _); k_dflt (refine g_connectF (by k_asm) (by k_asm) (by k_asm) (by k_asm) (by k_asm) (by first | exact rfl | assumption) (by (first | assumption | exact Rep.mono ‹_› (by intro p9 hp9; first | exact mtl _ hp9 | exact mtl _ (mtl _ hp9) | exact mtl _ (mtl _ (mtl _ hp9))))) ‹_› (by k_mem) ‹_› (by ktr_room) (by ktr_units) ?_; k_whole); (rename Rep _ _ _ _ _ _ _ => rOld9; rename StepD _ _ _ _ _ => sOld9; rename TP _ _ _ _ _ _ _ _ _ _ _ _ => tOld9; rename News _ _ _ _ => nOld9); intro _ _ _ _ _ _ _ S'; (have T' := TP.step' tOld9 S' rOld9 nOld9 (fun _ h9 => mcm _ h9)); (have S'' := StepD.step' sOld9 S' (fun _ h9 => mcm _ h9)); clear rOld9 tOld9 sOld9; (try k_sweep); (try (revert S'; intro _)); (try (revert T'; intro _)); (try (revert S''; intro _)))
  k_with "call ref" => w_strict (k_here; (with_reducible show wpAny _ _ (call (Value.ref 481) [Value.ref _, Value.ref _, Value.ref _] _) _ _ _); k_dflt (refine g_newT (by k_asm) (by k_asm) (by k_asm) (by k_asm) (by k_asm) (by first | exact rfl | assumption) (by ktr_room) (by ktr_units) ?_; k_whole); intro _ _ _ _ _ _ _ _ _ _ _ l1 _; (have lw9 := LtAll.of l1); (try k_sweep); (try (revert l1; intro _)); (try (revert lw9; intro _)))
  k_with "getAttr ref" => w_strict (k_here; (with_reducible show wpAny _ _ (getAttr (Value.ref _) (Str.ofString "left_side") _) _ _ _); k_dflt (refine g_getT_left_side (by k_asm) (by k_asm) (by k_asm) (by (first | exact TP.a (by (first | assumption | exact TP.mono ‹_› (by intro p9 hp9; first | exact mtl _ hp9 | exact mtl _ (mtl _ hp9)))) | exact TP.b (by (first | assumption | exact TP.mono ‹_› (by intro p9 hp9; first | exact mtl _ hp9 | exact mtl _ (mtl _ hp9)))))) ?_; k_whole))
  k_with "getAttr ref" => w_strict (k_here; (with_reducible show wpAny _ _ (getAttr (Value.ref _) (Str.ofString "right_side") _) _ _ _); k_dflt (refine g_getT_right_side (by k_asm) (by k_asm) (by k_asm) (by (first | exact TP.a (by (first | assumption | exact TP.mono ‹_› (by intro p9 hp9; first | exact mtl _ hp9 | exact mtl _ (mtl _ hp9)))) | exact TP.b (by (first | assumption | exact TP.mono ‹_› (by intro p9 hp9; first | exact mtl _ hp9 | exact mtl _ (mtl _ hp9)))))) ?_; k_whole))
  k_with "getAttr ref" => w_strict (k_here; (with_reducible show wpAny _ _ (getAttr (Value.ref _) (Str.ofString "context") _) _ _ _); k_dflt (refine g_getT_context (by k_asm) (by k_asm) (by k_asm) (by (first | exact TP.a (by (first | assumption | exact TP.mono ‹_› (by intro p9 hp9; first | exact mtl _ hp9 | exact mtl _ (mtl _ hp9)))) | exact TP.b (by (first | assumption | exact TP.mono ‹_› (by intro p9 hp9; first | exact mtl _ hp9 | exact mtl _ (mtl _ hp9)))))) ?_; k_whole))
  trivial
theorem g_merge {cx : Addr} {pts : List Addr} {xy : Nat → Int × Int} {al : List (Addr × Addr)} {st : List ERec} {f F0 f2 fl fr sl sr : Nat} {ta1 td1 l1 r1 ta2 td2 c2 l2 r2 d1 d2 d3 d4 : Addr} {fin : List ERec × Nat × Nat} (B : Below A₀ base outer h₀) (F : Fr h₀ L s.heap m) (X : (hd.heap_1 w.params).In h₀) (N : News h₀ L s.heap news) (T : Top p loose mean mg mb h₀) (hk : cs.kind = .function) (R : Rep w.params news cx pts xy al st) (t : TP w.params news ta1 td1 cx l1 r1 ta2 td2 c2 l2 r2)
   (h1 : al[fl]? = some (l1, d1)) (h2 : al[fr]? = some (r1, d2)) (h3 : al[sl]? = some (l2, d3)) (h4 : al[sr]? = some (r2, d4))
   (hinj : ∀ (i j : Nat) (a b : Addr), pts[i]? = some a → pts[j]? = some b → xy i = xy j → i = j)
   (hrun : (mergeD f F0 f2 st fl fr sl sr).run (truth xy) = some fin) (hroom : dp + 24 < recursionLimit) (hu : un + 350 < cLine)
   (ret : ∀ h' tk' news' al' x d lx ld rx rd, Fr h₀ L h' m → News h₀ L h' news' → Rep w.params news' cx pts xy al' fin.1 → StepD [td1, td2] al news al' news' →
     TAt w.params news' x d cx lx rx → al'[fin.2.1]? = some (lx, ld) → al'[fin.2.2]? = some (rx, rd) → (∀ p ∈ news, p.1 ∉ al.map (·.2) → p.1 ∉ [td1, td2] → p.1 < d) → Q (.ref x) { s with heap := h', toks := tk' }) :
   wpAny (model prog w) (ktrTop dp un gd cn cs L a ccd cl outer) (call (.ref 506) [.ref ta1, .ref ta2]) Q E s := by
  obtain h9 : Tag9 (P := wpAny (model prog w) (ktrTop dp un gd cn cs L a ccd cl outer) (call (.ref 506) [.ref ta1, .ref ta2]) Q E s) (by
    unfold mergeD at hrun
    rw [DT.run_bind] at hrun
    obtain ⟨x0, hf, hrun⟩ := Option.bind_eq_some_iff.mp hrun
    rw [DT.run_bind] at hrun
    obtain ⟨y0, hc, hrun⟩ := Option.bind_eq_some_iff.mp hrun
    cases hrun
    refine wpAny_call ?_
    k_dflt k_enter
    k_steps
    rename (StepD _ _ _ _ _) => Sx
    rename (Step _ _ _ _) => Sy
    rename (LtAll _ _) => lx
    refine' ret _ _ _ _ _ _ _ _ _ _ ?Fz ?Nz ?Rz ?Sz ?TAz ?pz ?qz ?frz
    case Fz => k_asm
    case Nz => k_asm
    case Rz => (first | assumption | exact Rep.mono (by assumption) (by intro p9 hp9; first | exact mtl _ hp9 | exact mtl _ (mtl _ hp9) | exact mtl _ (mtl _ (mtl _ hp9))))
    case Sz => exact Sx.more (fun _ h9 => mcm _ (mcm _ h9))
    case TAz => exact TAt.mk2
    case pz => exact Sy.up (by assumption)
    case qz => exact Sy.up (by assumption)
    case frz => exact fun p hp hn hD => lx p (Sx.2 p hp hn hD).1) := trivial
  unfold id at h9; exact h9.get
example : True := by
  w_top off
  k_with_none
  k_with "inst9" => first | ((with_reducible show InstAt _ (@OfNat.ofNat _ _ _) _ _ _); refine InstAt.of_K (by first | assumption | exact Frag.In.keeps (by k_asm) (Fr.keep (by k_asm))) (by k_is) (by k_is)) | (refine InstAt.of_news (by k_asm) (by k_mem) (by k_mem))
  k_with "e9" => (first | (refine code_def (by k_asm) (by k_asm) (by k_asm) (by k_asm) (by k_asm) rfl rfl (by first | exact rfl | assumption) (by k_is) (by k_is) (by ktr_room) (by first | exact BindsTo.of_eq rfl | refine kp_binds (by k_in) (by exact fun _ => rfl)) (by exact locs rfl) ?_ (by exact rfl) (by exact rfl) (by exact rfl) (by decide); k_whole; intro _ _ _ _ _ _ _ _ _; (try dsimp only); (try k_fold)) | (refine code_defC (by k_asm) (by k_asm) (by k_asm) (by k_asm) (by k_asm) rfl rfl (by first | exact rfl | assumption) (by k_is) (by k_is) (by ktr_room) (by first | exact BindsTo.of_eq rfl | refine kp_binds (by k_in) (by exact fun _ => rfl)) (by exact rfl) (by decide +kernel) ?_ (by exact rfl) (by exact rfl) (by exact rfl); k_whole; intro _ _ _ _ _ _ _ N' Y' _ _ _ l1; (try k_lt l1); (try dsimp only); (try k_fold); (first | k_cells Y' | (obtain ⟨_, _, _, _, _, hE', _, _, _, _, _⟩ := cells_five Y'; subst hE'; clear Y')); (try simp only [List.cons_append, List.nil_append] at N'); (try dsimp only); (try k_fold); (try (revert N'; intro _)); (try (revert l1; intro _))))
  k_with "ne9" => (refine neN ?_; (try dsimp only); with_reducible first | exact neU1 | exact neU2 | exact neU3 | exact neU4 | exact neD1 | exact neD2 | exact neD3 | exact neD4 | exact Nat.ne_of_gt ‹_› | exact Nat.ne_of_lt ‹_› | exact gtA1 ‹_› | exact Ne.symm (gtA1 ‹_›) | exact gtA2 ‹_› | exact Ne.symm (gtA2 ‹_›) | exact gtA3 ‹_› | exact Ne.symm (gtA3 ‹_›) | exact gtA4 ‹_› | exact Ne.symm (gtA4 ‹_›) | exact gtA5 ‹_› | exact Ne.symm (gtA5 ‹_›) | exact gtA6 ‹_› | exact Ne.symm (gtA6 ‹_›) | exact gtA7 ‹_› | exact Ne.symm (gtA7 ‹_›) | exact gtA8 ‹_› | exact Ne.symm (gtA8 ‹_›) | exact gtA9 ‹_› | exact Ne.symm (gtA9 ‹_›) | exact gtA10 ‹_› | exact Ne.symm (gtA10 ‹_›) | exact gtA11 ‹_› | exact Ne.symm (gtA11 ‹_›) | exact gtA12 ‹_› | exact Ne.symm (gtA12 ‹_›))
  k_with "room9" => (first | exact room2 ‹_› (by exact rfl) | exact room1 ‹_› (by exact rfl) | exact room0 ‹_›)
  k_with "units9" => (first | exact unit2 ‹_› (by exact rfl) | exact unit1 ‹_› (by exact rfl) | exact unit0 ‹_›)
  k_with "mem9" => (first | with_reducible assumption | with_reducible exact at0 | with_reducible exact at1 | with_reducible exact at2 | with_reducible exact at3 | with_reducible exact at4 | with_reducible exact at5 | with_reducible exact at6 | with_reducible exact at7 | with_reducible exact at8 | with_reducible exact at9 | with_reducible exact at10 | with_reducible exact at11 | with_reducible exact at12 | with_reducible exact at13 | with_reducible exact at14 | exact up1 (by with_reducible assumption) | exact up2 (by with_reducible assumption) | exact up3 (by with_reducible assumption) | exact up4 (by with_reducible assumption) | exact up5 (by with_reducible assumption) | exact up6 (by with_reducible assumption) | assumption)
  k_with "mul9" => (first | exact Bd.ok1 ‹_› ‹_› ‹_› ‹_› | exact Bd.ok2 ‹_› ‹_› ‹_› ‹_› ‹_› ‹_› ‹_› ‹_› ‹_› ‹_› ‹_› ‹_› ‹_› ‹_› ‹_› ‹_›)
  k_with "execs cons" => w_strict (refine wpAny_execs_cons ?_; (try k_fold))
  k_with "eval BinOp" => w_strict (k_fold)
  k_with "eval Call" => w_strict (k_fold)
  k_with "eval Call Attribute" => w_strict (k_fold)
  k_with "eval Attribute Name" => w_strict (k_fold)
  k_with "eval Subscript" => w_strict (k_fold)
  k_with "eval Attribute Attribute" => w_strict (k_fold)
  k_with "getAttr ref" => w_strict (k_fold)
  k_with "eval Tuple" => w_strict (k_fold)
  k_with "assignInOrder" => w_strict (k_fold)
  k_with "exec Assign" => w_strict (k_fold)
  k_with "isTrue BoolOp" => w_strict (k_fold)
  k_with "isTrue Compare" => w_strict (k_fold)
  k_with "callWith ref" => w_strict (k_fold)
  k_with "getAttr ref" => w_strict (k_here; (with_reducible show wpAny _ _ (getAttr (Value.ref _) (Str.ofString "rotated") _) _ _ _); k_dflt (refine g_rotated (by k_asm) (by k_asm) (by k_asm) (by k_asm) (by k_asm) (by first | exact rfl | assumption) (by (first | assumption | exact Rep.mono ‹_› (by intro p9 hp9; first | exact mtl _ hp9 | exact mtl _ (mtl _ hp9) | exact mtl _ (mtl _ (mtl _ hp9))))) (by (first | assumption | exact Step.up ‹_› ‹_›))  (by ktr_room) ?_; k_whole); intro _ _ _ _ _ _ _; (try k_sweep))
  k_with "getAttr ref" => w_strict (k_here; (with_reducible show wpAny _ _ (getAttr (Value.ref _) (Str.ofString "left_from_start") _) _ _ _); k_dflt (refine g_left_from_start (by k_asm) (by k_asm) (by k_asm) (by k_asm) (by k_asm) (by first | exact rfl | assumption) (by (first | assumption | exact Rep.mono ‹_› (by intro p9 hp9; first | exact mtl _ hp9 | exact mtl _ (mtl _ hp9) | exact mtl _ (mtl _ (mtl _ hp9))))) (by (first | assumption | exact Step.up ‹_› ‹_›))  (by ktr_room) ?_; k_whole); intro _ _ _ _ _ _ _; (try k_sweep))
  k_with "getAttr ref" => w_strict (k_here; (with_reducible show wpAny _ _ (getAttr (Value.ref _) (Str.ofString "context") _) _ _ _); k_dflt (refine g_context (by k_asm) (by k_asm) (by k_asm) (by k_asm) (by k_asm) (by first | exact rfl | assumption) (by (first | assumption | exact Rep.mono ‹_› (by intro p9 hp9; first | exact mtl _ hp9 | exact mtl _ (mtl _ hp9) | exact mtl _ (mtl _ (mtl _ hp9))))) (by (first | assumption | exact Step.up ‹_› ‹_›))  (by ktr_room) ?_; k_whole); intro _ _ _ _; (try k_sweep))
  k_with "getAttr ref" => w_strict (k_here; (with_reducible show wpAny _ _ (getAttr (Value.ref _) (Str.ofString "start") _) _ _ _); k_dflt (refine g_start (by k_asm) (by k_asm) (by k_asm) (by k_asm) (by k_asm) (by first | exact rfl | assumption) (by (first | assumption | exact Rep.mono ‹_› (by intro p9 hp9; first | exact mtl _ hp9 | exact mtl _ (mtl _ hp9) | exact mtl _ (mtl _ (mtl _ hp9))))) (by (first | assumption | exact Step.up ‹_› ‹_›)) ‹_› (by ktr_room) ?_; k_whole); intro _ _ _ _ _ _; (try k_sweep))
  k_with "getAttr ref" => w_strict (k_here; (with_reducible show wpAny _ _ (getAttr (Value.ref _) (Str.ofString "opposite") _) _ _ _); k_dflt (refine g_opposite (by k_asm) (by k_asm) (by k_asm) (by k_asm) (by k_asm) (by first | exact rfl | assumption) (by (first | assumption | exact Rep.mono ‹_› (by intro p9 hp9; first | exact mtl _ hp9 | exact mtl _ (mtl _ hp9) | exact mtl _ (mtl _ (mtl _ hp9))))) (by (first | assumption | exact Step.up ‹_› ‹_›))  (by ktr_room) ?_; k_whole); intro _ _ _ _ _ _ _; (try k_sweep))
  k_with "getAttr ref" => w_strict (k_here; (with_reducible show wpAny _ _ (getAttr (Value.ref _) (Str.ofString "left_from_end") _) _ _ _); k_dflt (refine g_left_from_end (by k_asm) (by k_asm) (by k_asm) (by k_asm) (by k_asm) (by first | exact rfl | assumption) (by (first | assumption | exact Rep.mono ‹_› (by intro p9 hp9; first | exact mtl _ hp9 | exact mtl _ (mtl _ hp9) | exact mtl _ (mtl _ (mtl _ hp9))))) (by (first | assumption | exact Step.up ‹_› ‹_›))  (by ktr_room) ?_; k_whole); intro _ _ _ _ _ _ _; (try k_sweep))
  k_with "getAttr ref" => w_strict (k_here; (with_reducible show wpAny _ _ (getAttr (Value.ref _) (Str.ofString "right_from_start") _) _ _ _); k_dflt (refine g_right_from_start (by k_asm) (by k_asm) (by k_asm) (by k_asm) (by k_asm) (by first | exact rfl | assumption) (by (first | assumption | exact Rep.mono ‹_› (by intro p9 hp9; first | exact mtl _ hp9 | exact mtl _ (mtl _ hp9) | exact mtl _ (mtl _ (mtl _ hp9))))) (by (first | assumption | exact Step.up ‹_› ‹_›))  (by ktr_room) ?_; k_whole); intro _ _ _ _ _ _ _; (try k_sweep))
  k_with "getAttr ref" => w_strict (k_here; (with_reducible show wpAny _ _ (getAttr (Value.ref _) (Str.ofString "right_from_end") _) _ _ _); k_dflt (refine g_right_from_end (by k_asm) (by k_asm) (by k_asm) (by k_asm) (by k_asm) (by first | exact rfl | assumption) (by (first | assumption | exact Rep.mono ‹_› (by intro p9 hp9; first | exact mtl _ hp9 | exact mtl _ (mtl _ hp9) | exact mtl _ (mtl _ (mtl _ hp9))))) (by (first | assumption | exact Step.up ‹_› ‹_›))  (by ktr_room) ?_; k_whole); intro _ _ _ _ _ _ _; (try k_sweep))
  k_with "getAttr ref" => w_strict (k_here; (with_reducible show wpAny _ _ (getAttr (Value.ref _) (Str.ofString "end") _) _ _ _); k_dflt (refine g_end (by k_asm) (by k_asm) (by k_asm) (by k_asm) (by k_asm) (by first | exact rfl | assumption) (by (first | assumption | exact Rep.mono ‹_› (by intro p9 hp9; first | exact mtl _ hp9 | exact mtl _ (mtl _ hp9) | exact mtl _ (mtl _ (mtl _ hp9))))) (by (first | assumption | exact Step.up ‹_› ‹_›)) ‹_› (by ktr_room) ?_; k_whole); intro _ _ _ _ _ _; (try k_sweep))
  k_with "getMethod ref" => w_strict (k_here; (with_reducible show wpAny _ _ (getMethod (Value.ref _) (Str.ofString "splice") _) _ _ _); k_dflt (refine g_meth_splice (by k_asm) (by k_asm) (by k_asm) (by (first | assumption | exact Rep.mono ‹_› (by intro p9 hp9; first | exact mtl _ hp9 | exact mtl _ (mtl _ hp9) | exact mtl _ (mtl _ (mtl _ hp9))))) (by (first | assumption | exact Step.up ‹_› ‹_›)) ?_; k_whole))
  k_with "getMethod ref" => w_strict (k_here; (with_reducible show wpAny _ _ (getMethod (Value.ref _) (Str.ofString "connect") _) _ _ _); k_dflt (refine g_meth_connect (by k_asm) (by k_asm) (by k_asm) (by (first | assumption | exact Rep.mono ‹_› (by intro p9 hp9; first | exact mtl _ hp9 | exact mtl _ (mtl _ hp9) | exact mtl _ (mtl _ (mtl _ hp9))))) (by (first | assumption | exact Step.up ‹_› ‹_›)) ?_; k_whole))
  k_with "getMethod ref" => w_strict (k_here; (with_reducible show wpAny _ _ (getMethod (Value.ref _) (Str.ofString "delete") _) _ _ _); k_dflt (refine g_meth_delete (by k_asm) (by k_asm) (by k_asm) (by (first | assumption | exact Rep.mono ‹_› (by intro p9 hp9; first | exact mtl _ hp9 | exact mtl _ (mtl _ hp9) | exact mtl _ (mtl _ (mtl _ hp9))))) (by (first | assumption | exact Step.up ‹_› ‹_›)) ?_; k_whole))
  k_with "getMethod ref" => w_strict (k_here; (with_reducible show wpAny _ _ (getMethod (Value.ref _) (Str.ofString "orientation_of") _) _ _ _); k_dflt (refine g_meth_orientation_of (by k_asm) (by k_asm) (by k_asm) (by (first | assumption | exact Rep.mono ‹_› (by intro p9 hp9; first | exact mtl _ hp9 | exact mtl _ (mtl _ hp9) | exact mtl _ (mtl _ (mtl _ hp9))))) (by (first | assumption | exact Step.up ‹_› ‹_›)) ?_; k_whole))
  k_with "call ref" => w_strict (k_here; k_dflt (refine call_meth (by k_asm) (by k_mem) ?_; k_whole; refine c_from_endpoints (by k_asm) (by k_asm) (by k_asm) (by k_asm) (by k_asm) (by first | exact rfl | assumption) (by (first | assumption | exact Rep.mono ‹_› (by intro p9 hp9; first | exact mtl _ hp9 | exact mtl _ (mtl _ hp9) | exact mtl _ (mtl _ (mtl _ hp9))))) ‹_› ‹_› (by ktr_room) ?_; k_whole); (rename Rep _ _ _ _ _ _ _ => rOld9; rename Step _ _ _ _ => sOld9); intro _ _ _ _ _ _ _ _ _ S' _; (first | replace S' := Step.trans sOld9 S' | replace S' := Step.comp1 sOld9 S' | replace S' := Step.comp2 sOld9 S' | replace S' := Step.comp3 sOld9 S' | replace S' := Step.comp4 sOld9 S'); clear rOld9 sOld9; (try k_sweep); (try (revert S'; intro _)))
  k_with "call ref" => w_strict (k_here; (with_reducible show wpAny _ _ (call (Value.ref 481) [Value.ref _, Value.ref _, Value.ref _] _) _ _ _); k_dflt (refine g_newT (by k_asm) (by k_asm) (by k_asm) (by k_asm) (by k_asm) (by first | exact rfl | assumption) (by ktr_room) (by ktr_units) ?_; k_whole); intro _ _ _ _ _ _ _ _ _ _ _ l1 _; (have lw9 := LtAll.of l1); (try k_sweep); (try (revert l1; intro _)); (try (revert lw9; intro _)))
  trivial
theorem Step.more {al al1 : List (Addr × Addr)} {n n1 n2 : List (Addr × Obj)} (x : Step al n al1 n1) (hs : ∀ p ∈ n1, p ∈ n2) : Step al n al1 n2 := ⟨x.1, fun p hp hn => let ⟨a, b⟩ := x.2 p hp hn; ⟨hs p a, b⟩⟩
section
variable {M : Model} {A : Around} {E : Value → Shared → Prop} {s : Shared}
theorem ks_lone_kw {f : Value} {x : Sem Value} {pos : Pos} {kws : List (Option Str × Sem Value)} {Q : Args → Shared → Prop} (hall : kws.all (·.1.isSome) = true)
    (h : wpAny M A x (fun v s₁ => wpAny M A (evalAll (kws.map (·.2))) (fun ks s₂ => StarOf M A E v (fun vs s₃ => Q ⟨vs, (kws.filterMap (·.1)).zip ks⟩ s₃) s₂) E s₁) E s) :
    wpAny M A (evalArgs f true [(true, (do let v ← x; standAt pos; pure v))] kws) Q E s := by
  unfold evalArgs
  first
    | refine wpAny_bind (wpAny_bind (wpAny_mono h (fun v s₁ h₁ => wpAny_bind (wpAny_standAt (wpAny_pure ?_))) fun _ _ x => x))
    | refine wpAny_bind (wpAny_bind (wpAny_bind (wpAny_mono h (fun v s₁ h₁ => wpAny_bind (wpAny_standAt (wpAny_pure (wpAny_pure ?_)))) fun _ _ x => x)))
  refine wpAny_holding ?_
  dsimp only
  rw [if_pos hall]
  refine wpAny_bind (wpAny_mono h₁ (fun ks s₂ h₂ => ?_) fun _ _ x => x)
  unfold StarOf at h₂
  refine wpAny_bind (wpAny_bind (wpAny_mono h₂ (fun b s₃ h₃ => ?_) fun _ _ x => x))
  obtain ⟨rfl, h₃⟩ := h₃
  have z := wpAny_holding (vs := ((kws.filterMap (·.1)).zip ks).map (·.2)) (wpAny_mono h₃ (fun vs s₄ h₄ => (wpAny_pure h₄ : wpAny M A (pure (⟨vs, (kws.filterMap (·.1)).zip ks⟩ : Args)) Q E s₄)) fun _ _ x => x)
  try simp only [Bool.false_eq_true, if_false]
  first
    | exact z
    | exact wpAny_bind (wpAny_pure z)
theorem ks_call_kw {f : Value} {first : List Value} {pos : Pos} {Q : Value → Shared → Prop} {P : Heap → Prop} {args : List (Bool × Sem Value)} {kws : List (Option Str × Sem Value)} (hst : args.any (·.1) = true)
    (hk : ∀ h, P h → ∃ k, (k = Keeper.frame ∨ k = Keeper.machine ∨ k = Keeper.boundFrame) ∧ Looks M h (keeperOf f) k)
    (h : wpAny M A (evalArgs f true args kws) (fun a s₁ => P s₁.heap ∧ wpAny M A (call f (first ++ a.pos) a.kw) Q E s₁) E s) : wpAny M A (callWith pos f first args kws) Q E s := by
  unfold callWith
  refine wpAny_bind (wpAny_holding (wpAny_mono h (fun a s₁ h₁ => wpAny_bind (wpAny_standAt ?_)) fun _ _ x => x))
  obtain ⟨k, hk', L⟩ := hk _ h₁.1
  simp only [hst, Bool.true_or]
  refine wpAny_bind (L.here ?_)
  have tail : ∀ {t : Sem Value}, wpAny M A t Q E s₁ → wpAny M A (t >>= fun r => holding [r] point >>= fun _ => pure r) Q E s₁ :=
    fun ht => wpAny_bind (wpAny_mono ht (fun r s₂ hr => wpAny_bind (wpAny_holding (wpAny_point (wpAny_pure hr)))) fun _ _ x => x)
  have marked (mk : Value) : wpAny M A (callMarked mk f (first ++ a.pos) a.kw) Q E s₁ := by unfold callMarked; exact Calls.wpAny_keep h₁.2
  rcases hk' with rfl | rfl | rfl <;> dsimp only <;> first | exact tail (marked _) | exact tail (wpAny_operating h₁.2)
theorem callWith_MSK {K : Frag} {h₀ : Heap} {L : Addr} {news : List (Addr × Obj)} {env : Env} {pos p : Pos} {q g : Addr} {self : Value} {first : List Value} {e : Expr} {kws : List Keyword} {Q : Value → Shared → Prop} (_X : K.In h₀) (_N : News h₀ L s.heap news) (_q : (q, methodObj (.ref g) self) ∈ news) (hf : fnIn K g = true) (hall : (backToKw pos (keywordEach kws env)).all (·.1.isSome) = true)
    (h : wpAny M A (eval e env) (fun v s₁ => wpAny M A (evalAll ((backToKw pos (keywordEach kws env)).map (·.2))) (fun ks s₂ => StarOf M A E v (fun vs s₃ => MethP K q g self s₃.heap ∧ wpAny M A (call (.ref q) (first ++ vs) (((backToKw pos (keywordEach kws env)).filterMap (·.1)).zip ks)) Q E s₃) s₂) E s₁) E s)
    (he : starEach [.Starred e p] env = [(true, eval e env)] := by rfl) :
    wpAny M A (callWith pos (.ref q) first (backTo pos (starEach [.Starred e p] env)) (backToKw pos (keywordEach kws env))) Q E s := by
  rw [he]
  exact ks_call_kw rfl (keeps_M hf) (ks_lone_kw hall h)
end
theorem methodCall_SK {M : Model} {A : Around} {E : Value → Shared → Prop} {s : Shared} {env : Env} {o : Expr} {name : Str} {apos pos : Pos} {args : List Expr} {kws : List Keyword} {Q : Value → Shared → Prop}
    (h : wpAny M A (eval o env) (fun ov s₁ => wpAny M A (getAttr ov name true) (fun f s₂ => wpAny M A (callWith pos f [] (backTo pos (starEach args env)) (backToKw pos (keywordEach kws env))) Q E s₂) E s₁) E s)
    (he : eval (.Call (.Attribute o name apos) args kws pos) env = (do
      let ov ← eval o env
      standAt apos.atName
      let (f, first) ← holding [ov] (do pure (← getAttr ov name true, []))
      callWith pos f first (backTo pos (starEach args env)) (backToKw pos (keywordEach kws env))) := by rfl) :
    wpAny M A (eval (.Call (.Attribute o name apos) args kws pos) env) Q E s := by
  rw [he]
  refine wpAny_bind (wpAny_mono h (fun ov s₁ h₁ => wpAny_bind (wpAny_standAt (wpAny_bind (wpAny_holding (wpAny_bind (wpAny_mono h₁ (fun f s₂ h₂ => wpAny_pure ?_) fun _ _ x => x)))))) fun _ _ x => x)
  exact h₂
example : True := by
  k_with "eval Call Attribute cons cons" => w_strict (k_here; (with_reducible show wpAny _ _ (eval (Expr.Call (Expr.Attribute _ _ _) [Expr.Starred _ _] _ _) _) _ _ _); k_dflt (refine methodCall_SK ?_))
  k_with "callWith ref" => w_strict (k_here; k_dflt (refine callWith_MSK (by k_asm) (by k_asm) (by k_mem) (by k_is) (by exact rfl) ?_; k_whole))
  trivial
theorem g_two {cx : Addr} {pts : List Addr} {xy : Nat → Int × Int} {al : List (Addr × Addr)} {st : List ERec} {i j k : Nat} {lp pa pb : Addr} (B : Below A₀ base outer h₀) (F : Fr h₀ L s.heap m) (X : (hd.heap_1 w.params).In h₀) (N : News h₀ L s.heap news) (T : Top p loose mean mg mb h₀) (hk : cs.kind = .function) (R : Rep w.params news cx pts xy al st) (ml : (lp, W.listOf #[.ref pa, .ref pb] k) ∈ news) (hi : pts[i]? = some pa) (hj : pts[j]? = some pb) (hroom : dp + 16 < recursionLimit) (hu : un + 200 < cLine)
   (ret : ∀ h' tk' news' al' x d lx ld rx rd, Fr h₀ L h' m → News h₀ L h' news' → Rep w.params news' cx pts xy al' (mkE st i j) → Step al news al' news' →
     TAt w.params news' x d cx lx rx → al'[st.length]? = some (lx, ld) → al'[opp (mkE st i j) st.length]? = some (rx, rd) → (∀ p ∈ news, p.1 ∉ al.map (·.2) → p.1 < d) → Q (.ref x) { s with heap := h', toks := tk' }) :
   wpAny (model prog w) (ktrTop dp un gd cn cs L a ccd cl outer) (call (.ref 528) [.ref lp, .ref cx]) Q E s := by
  obtain h9 : Tag9 (P := wpAny (model prog w) (ktrTop dp un gd cn cs L a ccd cl outer) (call (.ref 528) [.ref lp, .ref cx]) Q E s) (by
    refine wpAny_call ?_
    have S0 : Step al news al news := Step.refl
    k_dflt k_enter
    k_steps
    rename (Step _ _ _ _) => Sx
    rename (LtAll _ _) => lx
    refine' ret _ _ _ _ _ _ _ _ _ _ ?Fz ?Nz ?Rz ?Sz ?TAz ?pz ?qz ?frz
    case Fz => k_asm
    case Nz => k_asm
    case Rz => (first | assumption | exact Rep.mono (by assumption) (by intro p9 hp9; first | exact mtl _ hp9 | exact mtl _ (mtl _ hp9) | exact mtl _ (mtl _ (mtl _ hp9))))
    case Sz => exact Sx.more (fun _ h9 => mcm _ (mcm _ h9))
    case TAz => exact TAt.mk2
    case pz => assumption
    case qz => assumption
    case frz => exact fun p hp hn => lx p (Sx.2 p hp hn).1) := trivial
  unfold id at h9; exact h9.get
example : True := by
  w_top off
  k_with_none
  k_with "inst9" => first | ((with_reducible show InstAt _ (@OfNat.ofNat _ _ _) _ _ _); refine InstAt.of_K (by first | assumption | exact Frag.In.keeps (by k_asm) (Fr.keep (by k_asm))) (by k_is) (by k_is)) | (refine InstAt.of_news (by k_asm) (by k_mem) (by k_mem))
  k_with "e9" => (first | (refine code_def (by k_asm) (by k_asm) (by k_asm) (by k_asm) (by k_asm) rfl rfl (by first | exact rfl | assumption) (by k_is) (by k_is) (by ktr_room) (by first | exact BindsTo.of_eq rfl | refine kp_binds (by k_in) (by exact fun _ => rfl)) (by exact locs rfl) ?_ (by exact rfl) (by exact rfl) (by exact rfl) (by decide); k_whole; intro _ _ _ _ _ _ _ _ _; (try dsimp only); (try k_fold)) | (refine code_defC (by k_asm) (by k_asm) (by k_asm) (by k_asm) (by k_asm) rfl rfl (by first | exact rfl | assumption) (by k_is) (by k_is) (by ktr_room) (by first | exact BindsTo.of_eq rfl | refine kp_binds (by k_in) (by exact fun _ => rfl)) (by exact rfl) (by decide +kernel) ?_ (by exact rfl) (by exact rfl) (by exact rfl); k_whole; intro _ _ _ _ _ _ _ N' Y' _ _ _ l1; (try k_lt l1); (try dsimp only); (try k_fold); (first | k_cells Y' | (obtain ⟨_, _, _, _, _, hE', _, _, _, _, _⟩ := cells_five Y'; subst hE'; clear Y')); (try simp only [List.cons_append, List.nil_append] at N'); (try dsimp only); (try k_fold); (try (revert N'; intro _)); (try (revert l1; intro _))))
  k_with "ne9" => (refine neN ?_; (try dsimp only); with_reducible first | exact neU1 | exact neU2 | exact neU3 | exact neU4 | exact neD1 | exact neD2 | exact neD3 | exact neD4 | exact Nat.ne_of_gt ‹_› | exact Nat.ne_of_lt ‹_› | exact gtA1 ‹_› | exact Ne.symm (gtA1 ‹_›) | exact gtA2 ‹_› | exact Ne.symm (gtA2 ‹_›) | exact gtA3 ‹_› | exact Ne.symm (gtA3 ‹_›) | exact gtA4 ‹_› | exact Ne.symm (gtA4 ‹_›) | exact gtA5 ‹_› | exact Ne.symm (gtA5 ‹_›) | exact gtA6 ‹_› | exact Ne.symm (gtA6 ‹_›) | exact gtA7 ‹_› | exact Ne.symm (gtA7 ‹_›) | exact gtA8 ‹_› | exact Ne.symm (gtA8 ‹_›) | exact gtA9 ‹_› | exact Ne.symm (gtA9 ‹_›) | exact gtA10 ‹_› | exact Ne.symm (gtA10 ‹_›) | exact gtA11 ‹_› | exact Ne.symm (gtA11 ‹_›) | exact gtA12 ‹_› | exact Ne.symm (gtA12 ‹_›))
  k_with "room9" => (first | exact room2 ‹_› (by exact rfl) | exact room1 ‹_› (by exact rfl) | exact room0 ‹_›)
  k_with "units9" => (first | exact unit2 ‹_› (by exact rfl) | exact unit1 ‹_› (by exact rfl) | exact unit0 ‹_›)
  k_with "mem9" => (first | with_reducible assumption | with_reducible exact at0 | with_reducible exact at1 | with_reducible exact at2 | with_reducible exact at3 | with_reducible exact at4 | with_reducible exact at5 | with_reducible exact at6 | with_reducible exact at7 | with_reducible exact at8 | with_reducible exact at9 | with_reducible exact at10 | with_reducible exact at11 | with_reducible exact at12 | with_reducible exact at13 | with_reducible exact at14 | exact up1 (by with_reducible assumption) | exact up2 (by with_reducible assumption) | exact up3 (by with_reducible assumption) | exact up4 (by with_reducible assumption) | exact up5 (by with_reducible assumption) | exact up6 (by with_reducible assumption) | assumption)
  k_with "mul9" => (first | exact Bd.ok1 ‹_› ‹_› ‹_› ‹_› | exact Bd.ok2 ‹_› ‹_› ‹_› ‹_› ‹_› ‹_› ‹_› ‹_› ‹_› ‹_› ‹_› ‹_› ‹_› ‹_› ‹_› ‹_›)
  k_with "execs cons" => w_strict (refine wpAny_execs_cons ?_; (try k_fold))
  k_with "eval BinOp" => w_strict (k_fold)
  k_with "eval Call" => w_strict (k_fold)
  k_with "eval Call Attribute" => w_strict (k_fold)
  k_with "eval Attribute Name" => w_strict (k_fold)
  k_with "eval Subscript" => w_strict (k_fold)
  k_with "eval Attribute Attribute" => w_strict (k_fold)
  k_with "getAttr ref" => w_strict (k_fold)
  k_with "eval Tuple" => w_strict (k_fold)
  k_with "assignInOrder" => w_strict (k_fold)
  k_with "exec Assign" => w_strict (k_fold)
  k_with "isTrue BoolOp" => w_strict (k_fold)
  k_with "isTrue Compare" => w_strict (k_fold)
  k_with "callWith ref" => w_strict (k_fold)
  k_with "getAttr ref" => w_strict (k_here; (with_reducible show wpAny _ _ (getAttr (Value.ref _) (Str.ofString "rotated") _) _ _ _); k_dflt (refine g_rotated (by k_asm) (by k_asm) (by k_asm) (by k_asm) (by k_asm) (by first | exact rfl | assumption) (by (first | assumption | exact Rep.mono ‹_› (by intro p9 hp9; first | exact mtl _ hp9 | exact mtl _ (mtl _ hp9) | exact mtl _ (mtl _ (mtl _ hp9))))) (by (first | assumption | exact Step.up ‹_› ‹_›))  (by ktr_room) ?_; k_whole); intro _ _ _ _ _ _ _; (try k_sweep))
  k_with "getAttr ref" => w_strict (k_here; (with_reducible show wpAny _ _ (getAttr (Value.ref _) (Str.ofString "left_from_start") _) _ _ _); k_dflt (refine g_left_from_start (by k_asm) (by k_asm) (by k_asm) (by k_asm) (by k_asm) (by first | exact rfl | assumption) (by (first | assumption | exact Rep.mono ‹_› (by intro p9 hp9; first | exact mtl _ hp9 | exact mtl _ (mtl _ hp9) | exact mtl _ (mtl _ (mtl _ hp9))))) (by (first | assumption | exact Step.up ‹_› ‹_›))  (by ktr_room) ?_; k_whole); intro _ _ _ _ _ _ _; (try k_sweep))
  k_with "getAttr ref" => w_strict (k_here; (with_reducible show wpAny _ _ (getAttr (Value.ref _) (Str.ofString "context") _) _ _ _); k_dflt (refine g_context (by k_asm) (by k_asm) (by k_asm) (by k_asm) (by k_asm) (by first | exact rfl | assumption) (by (first | assumption | exact Rep.mono ‹_› (by intro p9 hp9; first | exact mtl _ hp9 | exact mtl _ (mtl _ hp9) | exact mtl _ (mtl _ (mtl _ hp9))))) (by (first | assumption | exact Step.up ‹_› ‹_›))  (by ktr_room) ?_; k_whole); intro _ _ _ _; (try k_sweep))
  k_with "getAttr ref" => w_strict (k_here; (with_reducible show wpAny _ _ (getAttr (Value.ref _) (Str.ofString "start") _) _ _ _); k_dflt (refine g_start (by k_asm) (by k_asm) (by k_asm) (by k_asm) (by k_asm) (by first | exact rfl | assumption) (by (first | assumption | exact Rep.mono ‹_› (by intro p9 hp9; first | exact mtl _ hp9 | exact mtl _ (mtl _ hp9) | exact mtl _ (mtl _ (mtl _ hp9))))) (by (first | assumption | exact Step.up ‹_› ‹_›)) ‹_› (by ktr_room) ?_; k_whole); intro _ _ _ _ _ _; (try k_sweep))
  k_with "getAttr ref" => w_strict (k_here; (with_reducible show wpAny _ _ (getAttr (Value.ref _) (Str.ofString "opposite") _) _ _ _); k_dflt (refine g_opposite (by k_asm) (by k_asm) (by k_asm) (by k_asm) (by k_asm) (by first | exact rfl | assumption) (by (first | assumption | exact Rep.mono ‹_› (by intro p9 hp9; first | exact mtl _ hp9 | exact mtl _ (mtl _ hp9) | exact mtl _ (mtl _ (mtl _ hp9))))) (by (first | assumption | exact Step.up ‹_› ‹_›))  (by ktr_room) ?_; k_whole); intro _ _ _ _ _ _ _; (try k_sweep))
  k_with "getAttr ref" => w_strict (k_here; (with_reducible show wpAny _ _ (getAttr (Value.ref _) (Str.ofString "left_from_end") _) _ _ _); k_dflt (refine g_left_from_end (by k_asm) (by k_asm) (by k_asm) (by k_asm) (by k_asm) (by first | exact rfl | assumption) (by (first | assumption | exact Rep.mono ‹_› (by intro p9 hp9; first | exact mtl _ hp9 | exact mtl _ (mtl _ hp9) | exact mtl _ (mtl _ (mtl _ hp9))))) (by (first | assumption | exact Step.up ‹_› ‹_›))  (by ktr_room) ?_; k_whole); intro _ _ _ _ _ _ _; (try k_sweep))
  k_with "getAttr ref" => w_strict (k_here; (with_reducible show wpAny _ _ (getAttr (Value.ref _) (Str.ofString "right_from_start") _) _ _ _); k_dflt (refine g_right_from_start (by k_asm) (by k_asm) (by k_asm) (by k_asm) (by k_asm) (by first | exact rfl | assumption) (by (first | assumption | exact Rep.mono ‹_› (by intro p9 hp9; first | exact mtl _ hp9 | exact mtl _ (mtl _ hp9) | exact mtl _ (mtl _ (mtl _ hp9))))) (by (first | assumption | exact Step.up ‹_› ‹_›))  (by ktr_room) ?_; k_whole); intro _ _ _ _ _ _ _; (try k_sweep))
  k_with "getAttr ref" => w_strict (k_here; (with_reducible show wpAny _ _ (getAttr (Value.ref _) (Str.ofString "right_from_end") _) _ _ _); k_dflt (refine g_right_from_end (by k_asm) (by k_asm) (by k_asm) (by k_asm) (by k_asm) (by first | exact rfl | assumption) (by (first | assumption | exact Rep.mono ‹_› (by intro p9 hp9; first | exact mtl _ hp9 | exact mtl _ (mtl _ hp9) | exact mtl _ (mtl _ (mtl _ hp9))))) (by (first | assumption | exact Step.up ‹_› ‹_›))  (by ktr_room) ?_; k_whole); intro _ _ _ _ _ _ _; (try k_sweep))
  k_with "getAttr ref" => w_strict (k_here; (with_reducible show wpAny _ _ (getAttr (Value.ref _) (Str.ofString "end") _) _ _ _); k_dflt (refine g_end (by k_asm) (by k_asm) (by k_asm) (by k_asm) (by k_asm) (by first | exact rfl | assumption) (by (first | assumption | exact Rep.mono ‹_› (by intro p9 hp9; first | exact mtl _ hp9 | exact mtl _ (mtl _ hp9) | exact mtl _ (mtl _ (mtl _ hp9))))) (by (first | assumption | exact Step.up ‹_› ‹_›)) ‹_› (by ktr_room) ?_; k_whole); intro _ _ _ _ _ _; (try k_sweep))
  k_with "getMethod ref" => w_strict (k_here; (with_reducible show wpAny _ _ (getMethod (Value.ref _) (Str.ofString "splice") _) _ _ _); k_dflt (refine g_meth_splice (by k_asm) (by k_asm) (by k_asm) (by (first | assumption | exact Rep.mono ‹_› (by intro p9 hp9; first | exact mtl _ hp9 | exact mtl _ (mtl _ hp9) | exact mtl _ (mtl _ (mtl _ hp9))))) (by (first | assumption | exact Step.up ‹_› ‹_›)) ?_; k_whole))
  k_with "getMethod ref" => w_strict (k_here; (with_reducible show wpAny _ _ (getMethod (Value.ref _) (Str.ofString "connect") _) _ _ _); k_dflt (refine g_meth_connect (by k_asm) (by k_asm) (by k_asm) (by (first | assumption | exact Rep.mono ‹_› (by intro p9 hp9; first | exact mtl _ hp9 | exact mtl _ (mtl _ hp9) | exact mtl _ (mtl _ (mtl _ hp9))))) (by (first | assumption | exact Step.up ‹_› ‹_›)) ?_; k_whole))
  k_with "getMethod ref" => w_strict (k_here; (with_reducible show wpAny _ _ (getMethod (Value.ref _) (Str.ofString "delete") _) _ _ _); k_dflt (refine g_meth_delete (by k_asm) (by k_asm) (by k_asm) (by (first | assumption | exact Rep.mono ‹_› (by intro p9 hp9; first | exact mtl _ hp9 | exact mtl _ (mtl _ hp9) | exact mtl _ (mtl _ (mtl _ hp9))))) (by (first | assumption | exact Step.up ‹_› ‹_›)) ?_; k_whole))
  k_with "getMethod ref" => w_strict (k_here; (with_reducible show wpAny _ _ (getMethod (Value.ref _) (Str.ofString "orientation_of") _) _ _ _); k_dflt (refine g_meth_orientation_of (by k_asm) (by k_asm) (by k_asm) (by (first | assumption | exact Rep.mono ‹_› (by intro p9 hp9; first | exact mtl _ hp9 | exact mtl _ (mtl _ hp9) | exact mtl _ (mtl _ (mtl _ hp9))))) (by (first | assumption | exact Step.up ‹_› ‹_›)) ?_; k_whole))
  k_with "callWith ref" => w_strict (k_here; k_dflt (refine callWith_MKW (by k_asm) (by k_asm) (by k_mem) (by k_is) (by exact rfl) ?_; k_whole))
  k_with "call ref" => w_strict (k_here; k_dflt (refine call_meth (by k_asm) (by k_mem) ?_; k_whole; refine c_from_endpoints (by k_asm) (by k_asm) (by k_asm) (by k_asm) (by k_asm) (by first | exact rfl | assumption) (by (first | assumption | exact Rep.mono ‹_› (by intro p9 hp9; first | exact mtl _ hp9 | exact mtl _ (mtl _ hp9) | exact mtl _ (mtl _ (mtl _ hp9))))) ‹_› ‹_› (by ktr_room) ?_; k_whole); (rename Rep _ _ _ _ _ _ _ => rOld9; rename Step _ _ _ _ => sOld9); (try (rename (GetElem?.getElem? (_ : List (Addr × Addr)) _ = some _) => gOld9; revert gOld9; (try (rename (GetElem?.getElem? (_ : List (Addr × Addr)) _ = some _) => gOld8; revert gOld8; (try (rename (GetElem?.getElem? (_ : List (Addr × Addr)) _ = some _) => gOld7; revert gOld7; (try (rename (GetElem?.getElem? (_ : List (Addr × Addr)) _ = some _) => gOld6; revert gOld6; (try (rename (GetElem?.getElem? (_ : List (Addr × Addr)) _ = some _) => gOld5)); intro gOld6)); intro gOld7)); intro gOld8)); intro gOld9)); intro _ _ _ _ _ _ _ _ _ Sr9 _; (try (have gUp5 := Step.up Sr9 gOld5)); (try (have gUp6 := Step.up Sr9 gOld6)); (try (have gUp7 := Step.up Sr9 gOld7)); (try (have gUp8 := Step.up Sr9 gOld8)); (try (have gUp9 := Step.up Sr9 gOld9)); have S' := Sr9; (try clear gOld5); (try clear gOld6); (try clear gOld7); (try clear gOld8); (try clear gOld9); (first | replace S' := Step.trans sOld9 S' | replace S' := Step.comp1 sOld9 S' | replace S' := Step.comp2 sOld9 S' | replace S' := Step.comp3 sOld9 S' | replace S' := Step.comp4 sOld9 S'); clear rOld9 sOld9 Sr9; (try k_sweep); (try (revert gUp5; intro _)); (try (revert gUp6; intro _)); (try (revert gUp7; intro _)); (try (revert gUp8; intro _)); (try (revert gUp9; intro _)); (try (revert S'; intro _)))
  k_with "call ref" => w_strict (k_here; (with_reducible show wpAny _ _ (call (Value.ref 481) [Value.ref _, Value.ref _, Value.ref _] _) _ _ _); k_dflt (refine g_newT (by k_asm) (by k_asm) (by k_asm) (by k_asm) (by k_asm) (by first | exact rfl | assumption) (by ktr_room) (by ktr_units) ?_; k_whole); intro _ _ _ _ _ _ _ _ _ _ _ l1 _; (have lw9 := LtAll.of l1); (try k_sweep); (try (revert l1; intro _)); (try (revert lw9; intro _)))
  k_with "call ref" => w_strict (k_here; (with_reducible show wpAny _ _ (call (Value.ref 404) [Value.ref _, Value.ref _] _) _ _ _); k_dflt (refine g_splice (by k_asm) (by k_asm) (by k_asm) (by k_asm) (by k_asm) (by first | exact rfl | assumption) (by (first | assumption | exact Rep.mono ‹_› (by intro p9 hp9; first | exact mtl _ hp9 | exact mtl _ (mtl _ hp9) | exact mtl _ (mtl _ (mtl _ hp9))))) (by (first | assumption | exact Step.up ‹_› ‹_›)) (by (first | assumption | exact Step.up ‹_› ‹_›)) (by ktr_room) ?_; k_whole); (rename Rep _ _ _ _ _ _ _ => rOld9; rename Step _ _ _ _ => sOld9); intro _ _ _ _ _ _ S'; (first | replace S' := Step.trans sOld9 S' | replace S' := Step.comp1 sOld9 S' | replace S' := Step.comp2 sOld9 S' | replace S' := Step.comp3 sOld9 S' | replace S' := Step.comp4 sOld9 S'); clear rOld9 sOld9; (try k_sweep); (try (revert S'; intro _)))
  k_with "call ref" => w_strict (k_here; (with_reducible show wpAny _ _ (call (Value.ref 383) _ _) _ _ _); k_dflt (refine g_connect (by k_asm) (by k_asm) (by k_asm) (by k_asm) (by k_asm) (by first | exact rfl | assumption) (by (first | assumption | exact Rep.mono ‹_› (by intro p9 hp9; first | exact mtl _ hp9 | exact mtl _ (mtl _ hp9) | exact mtl _ (mtl _ (mtl _ hp9))))) (by (first | assumption | exact Step.up ‹_› ‹_›)) (by (first | assumption | exact Step.up ‹_› ‹_›)) ‹_› ‹_› (by ktr_room) ?_; k_whole); (rename Rep _ _ _ _ _ _ _ => rOld9; rename Step _ _ _ _ => sOld9); (try (rename (GetElem?.getElem? (_ : List (Addr × Addr)) _ = some _) => gOld9; revert gOld9; (try (rename (GetElem?.getElem? (_ : List (Addr × Addr)) _ = some _) => gOld8; revert gOld8; (try (rename (GetElem?.getElem? (_ : List (Addr × Addr)) _ = some _) => gOld7; revert gOld7; (try (rename (GetElem?.getElem? (_ : List (Addr × Addr)) _ = some _) => gOld6; revert gOld6; (try (rename (GetElem?.getElem? (_ : List (Addr × Addr)) _ = some _) => gOld5)); intro gOld6)); intro gOld7)); intro gOld8)); intro gOld9)); intro _ _ _ _ _ _ _ _ _ Sr9 _; (try (have gUp5 := Step.up Sr9 gOld5)); (try (have gUp6 := Step.up Sr9 gOld6)); (try (have gUp7 := Step.up Sr9 gOld7)); (try (have gUp8 := Step.up Sr9 gOld8)); (try (have gUp9 := Step.up Sr9 gOld9)); have S' := Sr9; (try clear gOld5); (try clear gOld6); (try clear gOld7); (try clear gOld8); (try clear gOld9); (first | replace S' := Step.trans sOld9 S' | replace S' := Step.comp1 sOld9 S' | replace S' := Step.comp2 sOld9 S' | replace S' := Step.comp3 sOld9 S' | replace S' := Step.comp4 sOld9 S'); clear rOld9 sOld9 Sr9; (try k_sweep); (try (revert gUp5; intro _)); (try (revert gUp6; intro _)); (try (revert gUp7; intro _)); (try (revert gUp8; intro _)); (try (revert gUp9; intro _)); (try (revert S'; intro _)))
  k_with "call ref" => w_strict (k_here; (with_reducible show wpAny _ _ (call (Value.ref 397) [Value.ref _, Value.ref _] _) _ _ _); k_dflt (refine g_orient (by k_asm) (by k_asm) (by k_asm) (by k_asm) (by k_asm) (by first | exact rfl | assumption) (by (first | assumption | exact Rep.mono ‹_› (by intro p9 hp9; first | exact mtl _ hp9 | exact mtl _ (mtl _ hp9) | exact mtl _ (mtl _ (mtl _ hp9))))) (by (first | assumption | exact Step.up ‹_› ‹_›)) ‹_› ‹_› ‹_› (by ktr_room) (by ktr_units) ?_; k_whole); intro _ _ _ _; (try k_sweep))
  k_with "compareOp Is ref ref" => w_strict (k_here; (with_reducible show wpAny _ _ (compareOp CmpOp.Is (Value.ref (oriA _)) (Value.ref _)) _ _ _); k_dflt (first | (refine is_ccw_t (by k_in) ‹_› ?_; k_whole) | (refine is_ccw_f (by k_in) ‹_› ?_; k_whole) | (refine is_cw_t (by k_in) ‹_› ?_; k_whole) | (refine is_cw_f (by k_in) ‹_› ?_; k_whole)))
  k_with "compareOp IsNot ref ref" => w_strict (k_here; (with_reducible show wpAny _ _ (compareOp CmpOp.IsNot (Value.ref (oriA _)) (Value.ref _)) _ _ _); k_dflt (first | (refine isnot_cw_t (by k_in) ‹_› ?_; k_whole) | (refine isnot_cw_f (by k_in) ‹_› ?_; k_whole)))
  k_with "compareOp Is ref ref" => w_strict (k_here; (with_reducible show wpAny _ _ (compareOp CmpOp.Is (Value.ref (locA _)) (Value.ref _)) _ _ _); k_dflt (first | (refine is_inn_t (by k_in) ‹_› ?_; k_whole) | (refine is_inn_f (by k_in) ‹_› ?_; k_whole)))
  trivial
noncomputable def triThree (st : List ERec) (i j k : Nat) : DT (List ERec × Nat × Nat) :=
  match org (splice (mkE (mkE st i j) j k) (opp (mkE (mkE st i j) j k) st.length) (mkE st i j).length) st.length, dst (splice (mkE (mkE st i j) j k) (opp (mkE (mkE st i j) j k) st.length) (mkE st i j).length) st.length with
  | some a, some b => .ask (.ccw a b k) fun
    | true => (conn (splice (mkE (mkE st i j) j k) (opp (mkE (mkE st i j) j k) st.length) (mkE st i j).length) (mkE st i j).length st.length).bind fun x => .ret (x.1, st.length, opp x.1 (mkE st i j).length)
    | false => .ask (.cw a b k) fun
      | true => (conn (splice (mkE (mkE st i j) j k) (opp (mkE (mkE st i j) j k) st.length) (mkE st i j).length) (mkE st i j).length st.length).bind fun x => .ret (x.1, opp x.1 x.2, x.2)
      | false => .ret (splice (mkE (mkE st i j) j k) (opp (mkE (mkE st i j) j k) st.length) (mkE st i j).length, st.length, opp (splice (mkE (mkE st i j) j k) (opp (mkE (mkE st i j) j k) st.length) (mkE st i j).length) (mkE st i j).length)
  | _, _ => .fail
theorem g_three {cx : Addr} {pts : List Addr} {xy : Nat → Int × Int} {al : List (Addr × Addr)} {st : List ERec} {i j k n0 : Nat} {lp pa pb pc : Addr} {fin : List ERec × Nat × Nat} (B : Below A₀ base outer h₀) (F : Fr h₀ L s.heap m) (X : (hd.heap_1 w.params).In h₀) (N : News h₀ L s.heap news) (T : Top p loose mean mg mb h₀) (hk : cs.kind = .function) (R : Rep w.params news cx pts xy al st) (ml : (lp, W.listOf #[.ref pa, .ref pb, .ref pc] n0) ∈ news) (hi : pts[i]? = some pa) (hj : pts[j]? = some pb) (hk3 : pts[k]? = some pc) (hrun : (triThree st i j k).run (truth xy) = some fin) (hroom : dp + 16 < recursionLimit) (hu : un + 200 < cLine)
   (ret : ∀ h' tk' news' al' x d lx ld rx rd, Fr h₀ L h' m → News h₀ L h' news' → Rep w.params news' cx pts xy al' fin.1 → Step al news al' news' →
     TAt w.params news' x d cx lx rx → al'[fin.2.1]? = some (lx, ld) → al'[fin.2.2]? = some (rx, rd) → (∀ p ∈ news, p.1 ∉ al.map (·.2) → p.1 < d) → Q (.ref x) { s with heap := h', toks := tk' }) :
   wpAny (model prog w) (ktrTop dp un gd cn cs L a ccd cl outer) (call (.ref 535) [.ref lp, .ref cx]) Q E s := by
  obtain h9 : Tag9 (P := wpAny (model prog w) (ktrTop dp un gd cn cs L a ccd cl outer) (call (.ref 535) [.ref lp, .ref cx]) Q E s) (by
    unfold triThree at hrun
    split at hrun
    · rename_i a0 b0 z1 z2
      by_cases hccw : 0 < cr xy a0 b0 k
      · simp only [DT.run, truth, decide_eq_true hccw] at hrun
        unfold conn at hrun
        split at hrun
        · rename_i s0 e0 y1 y2
          rw [z1] at y2; cases y2
          cases hrun
          refine wpAny_call ?_
          have S0 : Step al news al news := Step.refl
          k_dflt k_enter
          k_steps
          rename (Step _ _ _ _) => Sx
          rename (LtAll _ _) => lx
          refine' ret _ _ _ _ _ _ _ _ _ _ ?Fz1 ?Nz1 ?Rz1 ?Sz1 ?Tz1 ?pz1 ?qz1 ?fz1
          case Fz1 => k_asm
          case Nz1 => k_asm
          case Rz1 => (first | assumption | exact Rep.mono (by assumption) (by intro p9 hp9; first | exact mtl _ hp9 | exact mtl _ (mtl _ hp9) | exact mtl _ (mtl _ (mtl _ hp9))))
          case Sz1 => exact Sx.more (fun _ h9 => mcm _ (mcm _ h9))
          case Tz1 => exact TAt.mk2
          case pz1 => assumption
          case qz1 => assumption
          case fz1 => exact fun p hp hn => lx p (Sx.2 p hp hn).1
        · cases hrun
      · by_cases hcw : cr xy a0 b0 k < 0
        · simp only [DT.run, truth, decide_eq_false hccw, decide_eq_true hcw] at hrun
          unfold conn at hrun
          split at hrun
          · rename_i s0 e0 y1 y2
            rw [z1] at y2; cases y2
            cases hrun
            refine wpAny_call ?_
            have S0 : Step al news al news := Step.refl
            k_dflt k_enter
            k_steps
            rename (Step _ _ _ _) => Sx
            rename (LtAll _ _) => lx
            refine' ret _ _ _ _ _ _ _ _ _ _ ?Fz2 ?Nz2 ?Rz2 ?Sz2 ?Tz2 ?pz2 ?qz2 ?fz2
            case Fz2 => k_asm
            case Nz2 => k_asm
            case Rz2 => (first | assumption | exact Rep.mono (by assumption) (by intro p9 hp9; first | exact mtl _ hp9 | exact mtl _ (mtl _ hp9) | exact mtl _ (mtl _ (mtl _ hp9))))
            case Sz2 => exact Sx.more (fun _ h9 => mcm _ (mcm _ h9))
            case Tz2 => exact TAt.mk2
            case pz2 => assumption
            case qz2 => assumption
            case fz2 => exact fun p hp hn => lx p (Sx.2 p hp hn).1
          · cases hrun
        · simp only [DT.run, truth, decide_eq_false hccw, decide_eq_false hcw] at hrun
          cases hrun
          refine wpAny_call ?_
          have S0 : Step al news al news := Step.refl
          k_dflt k_enter
          k_steps
          rename (Step _ _ _ _) => Sx
          rename (LtAll _ _) => lx
          refine' ret _ _ _ _ _ _ _ _ _ _ ?Fz3 ?Nz3 ?Rz3 ?Sz3 ?Tz3 ?pz3 ?qz3 ?fz3
          case Fz3 => k_asm
          case Nz3 => k_asm
          case Rz3 => (first | assumption | exact Rep.mono (by assumption) (by intro p9 hp9; first | exact mtl _ hp9 | exact mtl _ (mtl _ hp9) | exact mtl _ (mtl _ (mtl _ hp9))))
          case Sz3 => exact Sx.more (fun _ h9 => mcm _ (mcm _ h9))
          case Tz3 => exact TAt.mk2
          case pz3 => assumption
          case qz3 => assumption
          case fz3 => exact fun p hp hn => lx p (Sx.2 p hp hn).1
    · cases hrun) := trivial
  unfold id at h9; exact h9.get
example : True := by
  w_top off
  k_with_none
  k_with "inst9" => first | ((with_reducible show InstAt _ (@OfNat.ofNat _ _ _) _ _ _); refine InstAt.of_K (by first | assumption | exact Frag.In.keeps (by k_asm) (Fr.keep (by k_asm))) (by k_is) (by k_is)) | (refine InstAt.of_news (by k_asm) (by k_mem) (by k_mem))
  k_with "e9" => (first | (refine code_def (by k_asm) (by k_asm) (by k_asm) (by k_asm) (by k_asm) rfl rfl (by first | exact rfl | assumption) (by k_is) (by k_is) (by ktr_room) (by first | exact BindsTo.of_eq rfl | refine kp_binds (by k_in) (by exact fun _ => rfl)) (by exact locs rfl) ?_ (by exact rfl) (by exact rfl) (by exact rfl) (by decide); k_whole; intro _ _ _ _ _ _ _ _ _; (try dsimp only); (try k_fold)) | (refine code_defC (by k_asm) (by k_asm) (by k_asm) (by k_asm) (by k_asm) rfl rfl (by first | exact rfl | assumption) (by k_is) (by k_is) (by ktr_room) (by first | exact BindsTo.of_eq rfl | refine kp_binds (by k_in) (by exact fun _ => rfl)) (by exact rfl) (by decide +kernel) ?_ (by exact rfl) (by exact rfl) (by exact rfl); k_whole; intro _ _ _ _ _ _ _ N' Y' _ _ _ l1; (try k_lt l1); (try dsimp only); (try k_fold); (first | k_cells Y' | (obtain ⟨_, _, _, _, _, hE', _, _, _, _, _⟩ := cells_five Y'; subst hE'; clear Y')); (try simp only [List.cons_append, List.nil_append] at N'); (try dsimp only); (try k_fold); (try (revert N'; intro _)); (try (revert l1; intro _))))
  k_with "ne9" => (refine neN ?_; (try dsimp only); with_reducible first | exact neU1 | exact neU2 | exact neU3 | exact neU4 | exact neD1 | exact neD2 | exact neD3 | exact neD4 | exact Nat.ne_of_gt ‹_› | exact Nat.ne_of_lt ‹_› | exact gtA1 ‹_› | exact Ne.symm (gtA1 ‹_›) | exact gtA2 ‹_› | exact Ne.symm (gtA2 ‹_›) | exact gtA3 ‹_› | exact Ne.symm (gtA3 ‹_›) | exact gtA4 ‹_› | exact Ne.symm (gtA4 ‹_›) | exact gtA5 ‹_› | exact Ne.symm (gtA5 ‹_›) | exact gtA6 ‹_› | exact Ne.symm (gtA6 ‹_›) | exact gtA7 ‹_› | exact Ne.symm (gtA7 ‹_›) | exact gtA8 ‹_› | exact Ne.symm (gtA8 ‹_›) | exact gtA9 ‹_› | exact Ne.symm (gtA9 ‹_›) | exact gtA10 ‹_› | exact Ne.symm (gtA10 ‹_›) | exact gtA11 ‹_› | exact Ne.symm (gtA11 ‹_›) | exact gtA12 ‹_› | exact Ne.symm (gtA12 ‹_›))
  k_with "room9" => (first | exact room2 ‹_› (by exact rfl) | exact room1 ‹_› (by exact rfl) | exact room0 ‹_›)
  k_with "units9" => (first | exact unit2 ‹_› (by exact rfl) | exact unit1 ‹_› (by exact rfl) | exact unit0 ‹_›)
  k_with "mem9" => (first | with_reducible assumption | with_reducible exact at0 | with_reducible exact at1 | with_reducible exact at2 | with_reducible exact at3 | with_reducible exact at4 | with_reducible exact at5 | with_reducible exact at6 | with_reducible exact at7 | with_reducible exact at8 | with_reducible exact at9 | with_reducible exact at10 | with_reducible exact at11 | with_reducible exact at12 | with_reducible exact at13 | with_reducible exact at14 | exact up1 (by with_reducible assumption) | exact up2 (by with_reducible assumption) | exact up3 (by with_reducible assumption) | exact up4 (by with_reducible assumption) | exact up5 (by with_reducible assumption) | exact up6 (by with_reducible assumption) | assumption)
  k_with "mul9" => (first | exact Bd.ok1 ‹_› ‹_› ‹_› ‹_› | exact Bd.ok2 ‹_› ‹_› ‹_› ‹_› ‹_› ‹_› ‹_› ‹_› ‹_› ‹_› ‹_› ‹_› ‹_› ‹_› ‹_› ‹_›)
  k_with "execs cons" => w_strict (refine wpAny_execs_cons ?_; (try k_fold))
  k_with "eval BinOp" => w_strict (k_fold)
  k_with "eval Call" => w_strict (k_fold)
  k_with "eval Call Attribute" => w_strict (k_fold)
  k_with "eval Attribute Name" => w_strict (k_fold)
  k_with "eval Subscript" => w_strict (k_fold)
  k_with "eval Attribute Attribute" => w_strict (k_fold)
  k_with "getAttr ref" => w_strict (k_fold)
  k_with "eval Tuple" => w_strict (k_fold)
  k_with "assignInOrder" => w_strict (k_fold)
  k_with "exec Assign" => w_strict (k_fold)
  k_with "isTrue BoolOp" => w_strict (k_fold)
  k_with "isTrue Compare" => w_strict (k_fold)
  k_with "callWith ref" => w_strict (k_fold)
  k_with "getAttr ref" => w_strict (k_here; (with_reducible show wpAny _ _ (getAttr (Value.ref _) (Str.ofString "rotated") _) _ _ _); k_dflt (refine g_rotated (by k_asm) (by k_asm) (by k_asm) (by k_asm) (by k_asm) (by first | exact rfl | assumption) (by (first | assumption | exact Rep.mono ‹_› (by intro p9 hp9; first | exact mtl _ hp9 | exact mtl _ (mtl _ hp9) | exact mtl _ (mtl _ (mtl _ hp9))))) (by (first | assumption | exact Step.up ‹_› ‹_›))  (by ktr_room) ?_; k_whole); intro _ _ _ _ _ _ _; (try k_sweep))
  k_with "getAttr ref" => w_strict (k_here; (with_reducible show wpAny _ _ (getAttr (Value.ref _) (Str.ofString "left_from_start") _) _ _ _); k_dflt (refine g_left_from_start (by k_asm) (by k_asm) (by k_asm) (by k_asm) (by k_asm) (by first | exact rfl | assumption) (by (first | assumption | exact Rep.mono ‹_› (by intro p9 hp9; first | exact mtl _ hp9 | exact mtl _ (mtl _ hp9) | exact mtl _ (mtl _ (mtl _ hp9))))) (by (first | assumption | exact Step.up ‹_› ‹_›))  (by ktr_room) ?_; k_whole); intro _ _ _ _ _ _ _; (try k_sweep))
  k_with "getAttr ref" => w_strict (k_here; (with_reducible show wpAny _ _ (getAttr (Value.ref _) (Str.ofString "context") _) _ _ _); k_dflt (refine g_context (by k_asm) (by k_asm) (by k_asm) (by k_asm) (by k_asm) (by first | exact rfl | assumption) (by (first | assumption | exact Rep.mono ‹_› (by intro p9 hp9; first | exact mtl _ hp9 | exact mtl _ (mtl _ hp9) | exact mtl _ (mtl _ (mtl _ hp9))))) (by (first | assumption | exact Step.up ‹_› ‹_›))  (by ktr_room) ?_; k_whole); intro _ _ _ _; (try k_sweep))
  k_with "getAttr ref" => w_strict (k_here; (with_reducible show wpAny _ _ (getAttr (Value.ref _) (Str.ofString "start") _) _ _ _); k_dflt (refine g_start (by k_asm) (by k_asm) (by k_asm) (by k_asm) (by k_asm) (by first | exact rfl | assumption) (by (first | assumption | exact Rep.mono ‹_› (by intro p9 hp9; first | exact mtl _ hp9 | exact mtl _ (mtl _ hp9) | exact mtl _ (mtl _ (mtl _ hp9))))) (by (first | assumption | exact Step.up ‹_› ‹_›)) ‹_› (by ktr_room) ?_; k_whole); intro _ _ _ _ _ _; (try k_sweep))
  k_with "getMethod ref" => w_strict (k_here; (with_reducible show wpAny _ _ (getMethod (Value.ref _) (Str.ofString "splice") _) _ _ _); k_dflt (refine g_meth_splice (by k_asm) (by k_asm) (by k_asm) (by (first | assumption | exact Rep.mono ‹_› (by intro p9 hp9; first | exact mtl _ hp9 | exact mtl _ (mtl _ hp9) | exact mtl _ (mtl _ (mtl _ hp9))))) (by (first | assumption | exact Step.up ‹_› ‹_›)) ?_; k_whole))
  k_with "getMethod ref" => w_strict (k_here; (with_reducible show wpAny _ _ (getMethod (Value.ref _) (Str.ofString "connect") _) _ _ _); k_dflt (refine g_meth_connect (by k_asm) (by k_asm) (by k_asm) (by (first | assumption | exact Rep.mono ‹_› (by intro p9 hp9; first | exact mtl _ hp9 | exact mtl _ (mtl _ hp9) | exact mtl _ (mtl _ (mtl _ hp9))))) (by (first | assumption | exact Step.up ‹_› ‹_›)) ?_; k_whole))
  k_with "getMethod ref" => w_strict (k_here; (with_reducible show wpAny _ _ (getMethod (Value.ref _) (Str.ofString "delete") _) _ _ _); k_dflt (refine g_meth_delete (by k_asm) (by k_asm) (by k_asm) (by (first | assumption | exact Rep.mono ‹_› (by intro p9 hp9; first | exact mtl _ hp9 | exact mtl _ (mtl _ hp9) | exact mtl _ (mtl _ (mtl _ hp9))))) (by (first | assumption | exact Step.up ‹_› ‹_›)) ?_; k_whole))
  k_with "getMethod ref" => w_strict (k_here; (with_reducible show wpAny _ _ (getMethod (Value.ref _) (Str.ofString "orientation_of") _) _ _ _); k_dflt (refine g_meth_orientation_of (by k_asm) (by k_asm) (by k_asm) (by (first | assumption | exact Rep.mono ‹_› (by intro p9 hp9; first | exact mtl _ hp9 | exact mtl _ (mtl _ hp9) | exact mtl _ (mtl _ (mtl _ hp9))))) (by (first | assumption | exact Step.up ‹_› ‹_›)) ?_; k_whole))
  k_with "call ref" => w_strict (k_here; (with_reducible show wpAny _ _ (call (Value.ref 528) [Value.ref _, Value.ref _] _) _ _ _); k_dflt (refine g_two (by k_asm) (by k_asm) (by k_asm) (by k_asm) (by k_asm) (by first | exact rfl | assumption) (by (first | assumption | exact Rep.mono ‹_› (by intro p9 hp9; first | exact mtl _ hp9 | exact mtl _ (mtl _ hp9) | exact mtl _ (mtl _ (mtl _ hp9))))) (by k_mem) ‹_› ‹_› (by ktr_room) (by ktr_units) ?_; k_whole); intro _ _ _ _ _ _ _ _ _ _ _ _ _ _ _ _ _ _; (try k_sweep))
  k_with "call ref" => w_strict (k_here; (with_reducible show wpAny _ _ (call (Value.ref 535) [Value.ref _, Value.ref _] _) _ _ _); k_dflt (refine g_three (by k_asm) (by k_asm) (by k_asm) (by k_asm) (by k_asm) (by first | exact rfl | assumption) (by (first | assumption | exact Rep.mono ‹_› (by intro p9 hp9; first | exact mtl _ hp9 | exact mtl _ (mtl _ hp9) | exact mtl _ (mtl _ (mtl _ hp9))))) (by k_mem) ‹_› ‹_› ‹_› ‹_› (by ktr_room) (by ktr_units) ?_; k_whole); intro _ _ _ _ _ _ _ _ _ _ _ _ _ _ _ _ _ _; (try k_sweep))
  trivial
noncomputable def InitRun (xy : Nat → Int × Int) (pts : List Addr) (st : List ERec) (items : Array Value) (i : Nat) (fin : List ERec × Nat × Nat) : Prop :=
  (∃ pa pb, items = #[.ref pa, .ref pb] ∧ pts[i]? = some pa ∧ pts[i + 1]? = some pb ∧ fin = (mkE st i (i + 1), st.length, opp (mkE st i (i + 1)) st.length)) ∨
  ∃ pa pb pc, items = #[.ref pa, .ref pb, .ref pc] ∧ pts[i]? = some pa ∧ pts[i + 1]? = some pb ∧ pts[i + 2]? = some pc ∧ (triThree st i (i + 1) (i + 2)).run (truth xy) = some fin
theorem c_init_two {Rr : Result → Shared → Prop} {cx : Addr} {pts : List Addr} {xy : Nat → Int × Int} {al : List (Addr × Addr)} {st : List ERec} {i j k : Nat} {lp pa pb : Addr} (B : Below A₀ base outer h₀) (F : Fr h₀ L s.heap m) (X : (hd.heap_1 w.params).In h₀) (N : News h₀ L s.heap news) (T : Top p loose mean mg mb h₀) (hk : cs.kind = .function) (R : Rep w.params news cx pts xy al st) (ml : (lp, W.listOf #[.ref pa, .ref pb] k) ∈ news) (hi : pts[i]? = some pa) (hj : pts[j]? = some pb) (hroom : dp + 18 < recursionLimit) (hu : un + 300 < cLine)
   (ret : ∀ h' tk' news' al' x d lx ld rx rd, Fr h₀ L h' m → News h₀ L h' news' → Rep w.params news' cx pts xy al' (mkE st i j) → Step al news al' news' →
     TAt w.params news' x d cx lx rx → al'[st.length]? = some (lx, ld) → al'[opp (mkE st i j) st.length]? = some (rx, rd) → (∀ p ∈ news, p.1 ∉ al.map (·.2) → p.1 < d) → Rr (.ok (.ret (.ref x))) { s with heap := h', toks := tk' }) :
   codeAny (model prog w) (ktrTop dp un gd cn cs L a ccd cl outer) (.call (.ref 475) ⟨[.ref 481, .ref lp, .ref cx], []⟩) Rr s := by
  obtain h9 : Tag9 (P := codeAny (model prog w) (ktrTop dp un gd cn cs L a ccd cl outer) (.call (.ref 475) ⟨[.ref 481, .ref lp, .ref cx], []⟩) Rr s) (by
    k_dflt k_enter
    k_steps
    all_goals (apply ret <;> assumption)) := trivial
  unfold id at h9; exact h9.get
theorem c_init_three {Rr : Result → Shared → Prop} {cx : Addr} {pts : List Addr} {xy : Nat → Int × Int} {al : List (Addr × Addr)} {st : List ERec} {i j k n0 : Nat} {lp pa pb pc : Addr} {fin : List ERec × Nat × Nat} (B : Below A₀ base outer h₀) (F : Fr h₀ L s.heap m) (X : (hd.heap_1 w.params).In h₀) (N : News h₀ L s.heap news) (T : Top p loose mean mg mb h₀) (hk : cs.kind = .function) (R : Rep w.params news cx pts xy al st) (ml : (lp, W.listOf #[.ref pa, .ref pb, .ref pc] n0) ∈ news) (hi : pts[i]? = some pa) (hj : pts[j]? = some pb) (hk3 : pts[k]? = some pc) (hrun : (triThree st i j k).run (truth xy) = some fin) (hroom : dp + 18 < recursionLimit) (hu : un + 300 < cLine)
   (ret : ∀ h' tk' news' al' x d lx ld rx rd, Fr h₀ L h' m → News h₀ L h' news' → Rep w.params news' cx pts xy al' fin.1 → Step al news al' news' →
     TAt w.params news' x d cx lx rx → al'[fin.2.1]? = some (lx, ld) → al'[fin.2.2]? = some (rx, rd) → (∀ p ∈ news, p.1 ∉ al.map (·.2) → p.1 < d) → Rr (.ok (.ret (.ref x))) { s with heap := h', toks := tk' }) :
   codeAny (model prog w) (ktrTop dp un gd cn cs L a ccd cl outer) (.call (.ref 475) ⟨[.ref 481, .ref lp, .ref cx], []⟩) Rr s := by
  obtain h9 : Tag9 (P := codeAny (model prog w) (ktrTop dp un gd cn cs L a ccd cl outer) (.call (.ref 475) ⟨[.ref 481, .ref lp, .ref cx], []⟩) Rr s) (by
    k_dflt k_enter
    k_steps
    all_goals (apply ret <;> assumption)) := trivial
  unfold id at h9; exact h9.get
theorem c_init {Rr : Result → Shared → Prop} {cx : Addr} {pts : List Addr} {xy : Nat → Int × Int} {al : List (Addr × Addr)} {st : List ERec} {i k : Nat} {lp : Addr} {items : Array Value} {fin : List ERec × Nat × Nat} (B : Below A₀ base outer h₀) (F : Fr h₀ L s.heap m) (X : (hd.heap_1 w.params).In h₀) (N : News h₀ L s.heap news) (T : Top p loose mean mg mb h₀) (hk : cs.kind = .function) (R : Rep w.params news cx pts xy al st) (ml : (lp, W.listOf items k) ∈ news) (hI : InitRun xy pts st items i fin) (hroom : dp + 18 < recursionLimit) (hu : un + 300 < cLine)
   (ret : ∀ h' tk' news' al' x d lx ld rx rd, Fr h₀ L h' m → News h₀ L h' news' → Rep w.params news' cx pts xy al' fin.1 → Step al news al' news' →
     TAt w.params news' x d cx lx rx → al'[fin.2.1]? = some (lx, ld) → al'[fin.2.2]? = some (rx, rd) → (∀ p ∈ news, p.1 ∉ al.map (·.2) → p.1 < d) → Rr (.ok (.ret (.ref x))) { s with heap := h', toks := tk' }) :
   codeAny (model prog w) (ktrTop dp un gd cn cs L a ccd cl outer) (.call (.ref 475) ⟨[.ref 481, .ref lp, .ref cx], []⟩) Rr s := by
  rcases hI with ⟨pa, pb, rfl, h1, h2, rfl⟩ | ⟨pa, pb, pc, rfl, h1, h2, h3, h4⟩
  · exact c_init_two B F X N T hk R ml h1 h2 hroom hu ret
  · exact c_init_three B F X N T hk R ml h1 h2 h3 h4 hroom hu ret
example : True := by
  w_top off
  k_with_none
  k_with "inst9" => first | ((with_reducible show InstAt _ (@OfNat.ofNat _ _ _) _ _ _); refine InstAt.of_K (by first | assumption | exact Frag.In.keeps (by k_asm) (Fr.keep (by k_asm))) (by k_is) (by k_is)) | (refine InstAt.of_news (by k_asm) (by k_mem) (by k_mem))
  k_with "e9" => (first | (refine code_def (by k_asm) (by k_asm) (by k_asm) (by k_asm) (by k_asm) rfl rfl (by first | exact rfl | assumption) (by k_is) (by k_is) (by ktr_room) (by first | exact BindsTo.of_eq rfl | refine kp_binds (by k_in) (by exact fun _ => rfl)) (by exact locs rfl) ?_ (by exact rfl) (by exact rfl) (by exact rfl) (by decide); k_whole; intro _ _ _ _ _ _ _ _ _; (try dsimp only); (try k_fold)) | (refine code_defC (by k_asm) (by k_asm) (by k_asm) (by k_asm) (by k_asm) rfl rfl (by first | exact rfl | assumption) (by k_is) (by k_is) (by ktr_room) (by first | exact BindsTo.of_eq rfl | refine kp_binds (by k_in) (by exact fun _ => rfl)) (by exact rfl) (by decide +kernel) ?_ (by exact rfl) (by exact rfl) (by exact rfl); k_whole; intro _ _ _ _ _ _ _ N' Y' _ _ _ l1; (try k_lt l1); (try dsimp only); (try k_fold); (first | k_cells Y' | (obtain ⟨_, _, _, _, _, hE', _, _, _, _, _⟩ := cells_five Y'; subst hE'; clear Y')); (try simp only [List.cons_append, List.nil_append] at N'); (try dsimp only); (try k_fold); (try (revert N'; intro _)); (try (revert l1; intro _))))
  k_with "ne9" => (refine neN ?_; (try dsimp only); with_reducible first | exact neU1 | exact neU2 | exact neU3 | exact neU4 | exact neD1 | exact neD2 | exact neD3 | exact neD4 | exact Nat.ne_of_gt ‹_› | exact Nat.ne_of_lt ‹_› | exact gtA1 ‹_› | exact Ne.symm (gtA1 ‹_›) | exact gtA2 ‹_› | exact Ne.symm (gtA2 ‹_›) | exact gtA3 ‹_› | exact Ne.symm (gtA3 ‹_›) | exact gtA4 ‹_› | exact Ne.symm (gtA4 ‹_›) | exact gtA5 ‹_› | exact Ne.symm (gtA5 ‹_›) | exact gtA6 ‹_› | exact Ne.symm (gtA6 ‹_›) | exact gtA7 ‹_› | exact Ne.symm (gtA7 ‹_›) | exact gtA8 ‹_› | exact Ne.symm (gtA8 ‹_›) | exact gtA9 ‹_› | exact Ne.symm (gtA9 ‹_›) | exact gtA10 ‹_› | exact Ne.symm (gtA10 ‹_›) | exact gtA11 ‹_› | exact Ne.symm (gtA11 ‹_›) | exact gtA12 ‹_› | exact Ne.symm (gtA12 ‹_›))
  k_with "room9" => (first | exact room2 ‹_› (by exact rfl) | exact room1 ‹_› (by exact rfl) | exact room0 ‹_›)
  k_with "units9" => (first | exact unit2 ‹_› (by exact rfl) | exact unit1 ‹_› (by exact rfl) | exact unit0 ‹_›)
  k_with "mem9" => (first | with_reducible assumption | with_reducible exact at0 | with_reducible exact at1 | with_reducible exact at2 | with_reducible exact at3 | with_reducible exact at4 | with_reducible exact at5 | with_reducible exact at6 | with_reducible exact at7 | with_reducible exact at8 | with_reducible exact at9 | with_reducible exact at10 | with_reducible exact at11 | with_reducible exact at12 | with_reducible exact at13 | with_reducible exact at14 | exact up1 (by with_reducible assumption) | exact up2 (by with_reducible assumption) | exact up3 (by with_reducible assumption) | exact up4 (by with_reducible assumption) | exact up5 (by with_reducible assumption) | exact up6 (by with_reducible assumption) | assumption)
  k_with "mul9" => (first | exact Bd.ok1 ‹_› ‹_› ‹_› ‹_› | exact Bd.ok2 ‹_› ‹_› ‹_› ‹_› ‹_› ‹_› ‹_› ‹_› ‹_› ‹_› ‹_› ‹_› ‹_› ‹_› ‹_› ‹_›)
  k_with "execs cons" => w_strict (refine wpAny_execs_cons ?_; (try k_fold))
  k_with "eval BinOp" => w_strict (k_fold)
  k_with "eval Call" => w_strict (k_fold)
  k_with "eval Call Attribute" => w_strict (k_fold)
  k_with "eval Attribute Name" => w_strict (k_fold)
  k_with "eval Subscript" => w_strict (k_fold)
  k_with "eval Attribute Attribute" => w_strict (k_fold)
  k_with "getAttr ref" => w_strict (k_fold)
  k_with "eval Tuple" => w_strict (k_fold)
  k_with "assignInOrder" => w_strict (k_fold)
  k_with "exec Assign" => w_strict (k_fold)
  k_with "isTrue BoolOp" => w_strict (k_fold)
  k_with "isTrue Compare" => w_strict (k_fold)
  k_with "callWith ref" => w_strict (k_fold)
  trivial
theorem g_ceil_1 (B : Below A₀ base outer h₀) (F : Fr h₀ L s.heap m) (X : (hd.heap_1 w.params).In h₀) (N : News h₀ L s.heap news) (T : Top p loose mean mg mb h₀) (hk : cs.kind = .function) {t0 : Nat} (hroom : dp + 6 < recursionLimit) (hu : un + 300 < cLine)
   (ret : ∀ h' tk' t', Fr h₀ L h' m → News h₀ L h' news → Q (.int 0 t') { s with heap := h', toks := tk' }) :
   wpAny (model prog w) (ktrTop dp un gd cn cs L a ccd cl outer) (call (.ref 425) [.int 1 t0]) Q E s := by
  obtain h9 : Tag9 (P := wpAny (model prog w) (ktrTop dp un gd cn cs L a ccd cl outer) (call (.ref 425) [.int 1 t0]) Q E s) (by
    refine wpAny_call ?_
    k_dflt k_enter
    k_steps
    exact ret _ _ _ (by assumption) (by assumption)) := trivial
  unfold id at h9; exact h9.get
theorem g_ceil_2 (B : Below A₀ base outer h₀) (F : Fr h₀ L s.heap m) (X : (hd.heap_1 w.params).In h₀) (N : News h₀ L s.heap news) (T : Top p loose mean mg mb h₀) (hk : cs.kind = .function) {t0 : Nat} (hroom : dp + 6 < recursionLimit) (hu : un + 300 < cLine)
   (ret : ∀ h' tk' t', Fr h₀ L h' m → News h₀ L h' news → Q (.int 1 t') { s with heap := h', toks := tk' }) :
   wpAny (model prog w) (ktrTop dp un gd cn cs L a ccd cl outer) (call (.ref 425) [.int 2 t0]) Q E s := by
  obtain h9 : Tag9 (P := wpAny (model prog w) (ktrTop dp un gd cn cs L a ccd cl outer) (call (.ref 425) [.int 2 t0]) Q E s) (by
    refine wpAny_call ?_
    k_dflt k_enter
    k_steps
    exact ret _ _ _ (by assumption) (by assumption)) := trivial
  unfold id at h9; exact h9.get
example : True := by
  w_top off
  trivial
theorem noFill_tuple_mul : fillsNumberSlot (.type "tuple") "mul" = pure false :=
  PySem.fillsNumberSlot_seq (id := "tuple.__mul__") (r := some (.builtin "tuple.__rmul__")) PySem.F.slot_tuple_mul.lookup (by decide +kernel) PySem.F.slot_tuple_rmul.lookup (by decide +kernel)
theorem repeat_tuple : seqRepeat? (.type "tuple") = pure (some (.builtin "tuple.__mul__")) := by
  unfold seqRepeat?
  rw [PySem.seqSlot_of (T := "tuple") (name := "__mul__") (id := "tuple.__mul__") PySem.F.slot_tuple_mul.lookup (by decide +kernel), PySem.seqSlot_of (T := "tuple") (name := "__rmul__") (id := "tuple.__rmul__") PySem.F.slot_tuple_rmul.lookup (by decide +kernel)]
  rfl
theorem int_rmul_tuple (a : Int) (t : Tok) (l : Addr) (items : Array Value) (n : Nat) :
    Meets (Builtin.«int.__rmul__» ⟨[.int a t, .ref l], []⟩) (fun _ R s => s.heap.get? l = some { cls := .type "tuple", dict := none, data := .seq items n, slots := #[] } ∧ R (.ok (.ret Value.notImplemented)) s) :=
  .of_wp fun prog w A R s h => by obtain ⟨hp, g, d, tk, os⟩ := s; obtain ⟨hl, h⟩ := h; wp_walk; exact ⟨_, rfl, h⟩
theorem tuple_mul_int_0 (l : Addr) (v : Value) (n : Nat) (u : Tok) :
    Meets (Builtin.«tuple.__mul__» ⟨[.ref l, .int 0 u], []⟩) (fun _ R s => s.heap.get? l = some { cls := .type "tuple", dict := none, data := .seq #[v] n, slots := #[] } ∧ R (.ok (.ret (Value.ref s.heap.objs.size))) { s with heap := s.heap.push { cls := Value.type "tuple", data := .seq #[] } }) := by
  obtain h9 : Tag9 (P := Meets (Builtin.«tuple.__mul__» ⟨[.ref l, .int 0 u], []⟩) (fun _ R s => s.heap.get? l = some { cls := .type "tuple", dict := none, data := .seq #[v] n, slots := #[] } ∧ R (.ok (.ret (Value.ref s.heap.objs.size))) { s with heap := s.heap.push { cls := Value.type "tuple", data := .seq #[] } })) (
    .of_wp fun prog w A R s h => by
      obtain ⟨hp, g, d, tk, os⟩ := s; obtain ⟨hl, h⟩ := h
      wp_walk; exact ⟨_, rfl, h⟩) := trivial
  unfold id at h9; exact h9.get
theorem mul_tuple_0 {prog : Program} {w : World} {A : Around} {E : Value → Shared → Prop} {s : Shared} {l : Addr} {v : Value} {k : Nat} {u : Tok} {Q : Value → Shared → Prop}
    (hl : s.heap.get? l = some { cls := .type "tuple", dict := none, data := .seq #[v] k, slots := #[] })
    (h : Q (.ref s.heap.objs.size) { s with heap := s.heap.push { cls := Value.type "tuple", data := .seq #[] } }) :
    wpAny (model prog w) A (binaryOp .Mult (.ref l) (.int 0 u)) Q E s :=
  wpAny_binaryOp_repeat_ref (T := "tuple") (U := "int") (by decide) ⟨_, hl, rfl⟩ (fun s' => typeIs_int s' 0 u) noFill_tuple_mul PySem.F.fills_int_mul PySem.F.slot_int_rmul repeat_tuple PySem.F.slot_int_index.lookup
    (call_meets PySem.F.slot_int_rmul (typeIs_int s 0 u) PySem.F.entry_int_rmul (PySem.F.args_int_rmul_2 _ _) (int_rmul_tuple 0 u l #[v] k)
      ⟨hl, rfl, ⟨_, hl, rfl⟩, call_meets PySem.F.slot_tuple_mul ⟨_, hl, rfl⟩ PySem.F.entry_tuple_mul (PySem.F.args_tuple_mul_2 _ _)
        (tuple_mul_int_0 l v k u) ⟨hl, h⟩⟩)
theorem tuple_mul_int_1 (l : Addr) (v : Value) (n : Nat) (u : Tok) :
    Meets (Builtin.«tuple.__mul__» ⟨[.ref l, .int 1 u], []⟩) (fun _ R s => s.heap.get? l = some { cls := .type "tuple", dict := none, data := .seq #[v] n, slots := #[] } ∧ R (.ok (.ret (Value.ref l))) s) := by
  obtain h9 : Tag9 (P := Meets (Builtin.«tuple.__mul__» ⟨[.ref l, .int 1 u], []⟩) (fun _ R s => s.heap.get? l = some { cls := .type "tuple", dict := none, data := .seq #[v] n, slots := #[] } ∧ R (.ok (.ret (Value.ref l))) s)) (
    .of_wp fun prog w A R s h => by
      obtain ⟨hp, g, d, tk, os⟩ := s; obtain ⟨hl, h⟩ := h
      wp_walk; exact ⟨_, rfl, h⟩) := trivial
  unfold id at h9; exact h9.get
theorem mul_tuple_1 {prog : Program} {w : World} {A : Around} {E : Value → Shared → Prop} {s : Shared} {l : Addr} {v : Value} {k : Nat} {u : Tok} {Q : Value → Shared → Prop}
    (hl : s.heap.get? l = some { cls := .type "tuple", dict := none, data := .seq #[v] k, slots := #[] })
    (h : Q (.ref l) s) :
    wpAny (model prog w) A (binaryOp .Mult (.ref l) (.int 1 u)) Q E s :=
  wpAny_binaryOp_repeat_ref (T := "tuple") (U := "int") (by decide) ⟨_, hl, rfl⟩ (fun s' => typeIs_int s' 1 u) noFill_tuple_mul PySem.F.fills_int_mul PySem.F.slot_int_rmul repeat_tuple PySem.F.slot_int_index.lookup
    (call_meets PySem.F.slot_int_rmul (typeIs_int s 1 u) PySem.F.entry_int_rmul (PySem.F.args_int_rmul_2 _ _) (int_rmul_tuple 1 u l #[v] k)
      ⟨hl, rfl, ⟨_, hl, rfl⟩, call_meets PySem.F.slot_tuple_mul ⟨_, hl, rfl⟩ PySem.F.entry_tuple_mul (PySem.F.args_tuple_mul_2 _ _)
        (tuple_mul_int_1 l v k u) ⟨hl, h⟩⟩)
theorem tuple_mul_int_2 (l : Addr) (v : Value) (n : Nat) (u : Tok) :
    Meets (Builtin.«tuple.__mul__» ⟨[.ref l, .int 2 u], []⟩) (fun _ R s => s.heap.get? l = some { cls := .type "tuple", dict := none, data := .seq #[v] n, slots := #[] } ∧ R (.ok (.ret (Value.ref s.heap.objs.size))) { s with heap := s.heap.push { cls := Value.type "tuple", data := .seq #[v, v] } }) := by
  obtain h9 : Tag9 (P := Meets (Builtin.«tuple.__mul__» ⟨[.ref l, .int 2 u], []⟩) (fun _ R s => s.heap.get? l = some { cls := .type "tuple", dict := none, data := .seq #[v] n, slots := #[] } ∧ R (.ok (.ret (Value.ref s.heap.objs.size))) { s with heap := s.heap.push { cls := Value.type "tuple", data := .seq #[v, v] } })) (
    .of_wp fun prog w A R s h => by
      obtain ⟨hp, g, d, tk, os⟩ := s; obtain ⟨hl, h⟩ := h
      wp_walk; exact ⟨_, rfl, h⟩) := trivial
  unfold id at h9; exact h9.get
theorem mul_tuple_2 {prog : Program} {w : World} {A : Around} {E : Value → Shared → Prop} {s : Shared} {l : Addr} {v : Value} {k : Nat} {u : Tok} {Q : Value → Shared → Prop}
    (hl : s.heap.get? l = some { cls := .type "tuple", dict := none, data := .seq #[v] k, slots := #[] })
    (h : Q (.ref s.heap.objs.size) { s with heap := s.heap.push { cls := Value.type "tuple", data := .seq #[v, v] } }) :
    wpAny (model prog w) A (binaryOp .Mult (.ref l) (.int 2 u)) Q E s :=
  wpAny_binaryOp_repeat_ref (T := "tuple") (U := "int") (by decide) ⟨_, hl, rfl⟩ (fun s' => typeIs_int s' 2 u) noFill_tuple_mul PySem.F.fills_int_mul PySem.F.slot_int_rmul repeat_tuple PySem.F.slot_int_index.lookup
    (call_meets PySem.F.slot_int_rmul (typeIs_int s 2 u) PySem.F.entry_int_rmul (PySem.F.args_int_rmul_2 _ _) (int_rmul_tuple 2 u l #[v] k)
      ⟨hl, rfl, ⟨_, hl, rfl⟩, call_meets PySem.F.slot_tuple_mul ⟨_, hl, rfl⟩ PySem.F.entry_tuple_mul (PySem.F.args_tuple_mul_2 _ _)
        (tuple_mul_int_2 l v k u) ⟨hl, h⟩⟩)
example : True := by
  w_top off
  k_with "nl9" => first | assumption | exact Nat.sub_le _ _ | exact Nat.succ_pos _ | exact Nat.le_add_right _ _ | exact Nat.lt_succ_self _ | exact Nat.le_of_lt ‹_› | exact Nat.lt_of_succ_le ‹_› | exact Nat.le_of_lt_succ ‹_› | exact Nat.le_of_succ_le ‹_› | exact Nat.lt_of_succ_lt ‹_› | exact Nat.le_of_not_lt ‹_› | exact Nat.pos_of_ne_zero ‹_› | exact Nat.sub_lt ‹_› Nat.one_pos | exact Nat.lt_of_le_of_lt (Nat.sub_le _ _) ‹_› | exact Nat.lt_of_le_of_lt (Nat.sub_le _ _) (Nat.lt_of_succ_le (Nat.le_trans (Nat.succ_le_succ (Nat.le_add_right _ _)) ‹_›)) | exact Nat.add_sub_cancel' ‹_› | exact Nat.add_sub_cancel' (Nat.le_of_lt_succ ‹_›) | exact Nat.add_sub_cancel' (Nat.le_of_lt ‹_›) | exact Nat.sub_add_cancel ‹_› | exact Nat.sub_add_cancel (Nat.le_of_lt ‹_›) | exact Int.not_lt.mp ‹_› | exact Nat.le_trans ‹_› ‹_› | exact Nat.le_trans ‹_› (by decide) | exact Nat.le_trans (Nat.le_of_lt ‹_›) ‹_› | exact Nat.lt_of_lt_of_le ‹_› ‹_› | exact Nat.lt_of_lt_of_le ‹_› (by decide) | exact Nat.lt_of_lt_of_le (by decide) ‹_› | exact Nat.lt_of_lt_of_le ‹_› (Nat.le_add_right _ _) | exact Nat.lt_of_lt_of_eq ‹_› ‹_› | exact Nat.lt_of_lt_of_eq ‹_› (Eq.symm ‹_›) | exact Nat.lt_trans ‹_› ‹_› | exact Nat.add_lt_add_left ‹_› _ | exact Nat.lt_of_add_lt_add_left ‹_› | exact Nat.add_left_cancel ‹_› | exact Int.lt_of_le_of_ne ‹_› ‹_› | exact Int.lt_of_le_of_lt ‹_› ‹_› | exact Int.lt_of_lt_of_le ‹_› ‹_› | exact Int.le_trans (Int.le_of_lt ‹_›) ‹_› | exact Int.le_trans ‹_› (Int.not_lt.mp ‹_›) | exact Int.sub_pos_of_lt ‹_› | exact Int.sub_eq_zero_of_eq (Eq.symm ‹_›) | exact Int.add_pos_of_pos_of_nonneg ‹_› ‹_› | exact Int.add_pos_of_nonneg_of_pos ‹_› ‹_› | exact Int.ofNat_nonneg _ | exact Nat.le_antisymm ‹_› (Nat.le_of_not_lt ‹_›) | exact Nat.lt_of_le_of_ne ‹_› ‹_› | exact Nat.lt_of_le_of_ne ‹_› (Ne.symm ‹_›) | exact Nat.succ_le_of_lt (Nat.lt_of_le_of_ne ‹_› (Ne.symm ‹_›)) | exact Nat.succ_le_of_lt (Nat.lt_of_le_of_ne (Nat.succ_le_of_lt ‹_›) (Ne.symm ‹_›)) | (rw [Nat.add_sub_cancel' (Nat.le_of_lt_succ ‹_›)]; exact Nat.lt_of_lt_of_le ‹_› ‹_›) | (rw [Nat.add_assoc, Nat.add_comm 1 _]; assumption) | exact Nat.ne_of_lt (Nat.sub_lt ‹_› Nat.one_pos) | exact Nat.ne_of_lt ‹_› | exact Nat.ne_of_gt ‹_› | exact Nat.sub_pos_of_lt ‹_› | exact fun z => absurd z.1 (Nat.not_lt.mpr (Nat.sub_le _ _)) | exact fun z => absurd z.1 ‹_› | exact fun z => absurd z.1 (Nat.lt_asymm ‹_›) | exact fun z => absurd z.2 (Nat.lt_asymm ‹_›) | exact Nat.lt_of_le_of_ne (Nat.le_sub_one_of_lt ‹_›) (Ne.symm ‹_›) | exact Nat.le_trans (Nat.sub_le _ _) (Nat.le_of_lt_succ ‹_›) | exact Nat.lt_of_lt_of_le (Nat.lt_add_of_pos_right (Nat.succ_pos _)) (Nat.le_of_eq ‹_›) | exact Nat.lt_of_lt_of_le (Nat.lt_add_of_pos_right (Nat.succ_pos _)) ‹_› | exact absurd ‹_› (Nat.not_lt.mpr ‹_›) | exact Int.le_of_lt ‹_› | exact absurd ‹_ = (0 : Int)› (Int.ne_of_lt ‹_›) | exact absurd ‹_ = (0 : Int)› (Int.ne_of_gt ‹_›) | exact Nat.lt_asymm (And.left ‹_›) ‹_› | exact Nat.lt_asymm (And.right ‹_›) ‹_› | exact Nat.lt_irrefl _ (And.left ‹_›) | exact Nat.lt_irrefl _ (And.right ‹_›) | exact Nat.ne_of_gt (Nat.lt_of_le_of_lt (Nat.zero_le _) ‹_›) | exact Nat.eq_zero_of_add_eq_zero_right (Nat.le_zero.mp ‹_›) | exact Int.le_antisymm ‹_› ‹_› | exact Int.lt_irrefl _ ‹_› | exact Int.lt_asymm ‹_› ‹_› | exact Nat.lt_irrefl _ ‹_› | exact Nat.lt_asymm ‹_› ‹_›
  trivial
noncomputable def delD : Nat → DT (List ERec × Nat × Nat)
  | 2 => .ret (mkE [] 0 1, 0, opp (mkE [] 0 1) 0)
  | 3 => triThree [] 0 1 2
  | 4 => mergeD 6 6 6 (mkE (mkE [] 0 1) 2 3) 0 (opp (mkE [] 0 1) 0) 4 (opp (mkE (mkE [] 0 1) 2 3) 4)
  | 5 => (triThree (mkE [] 0 1) 2 3 4).bind fun x => mergeD 6 6 6 x.1 0 (opp (mkE [] 0 1) 0) x.2.1 x.2.2
  | _ => .fail
noncomputable def dg (K c : Nat) : Nat := Nat.land (Nat.shiftRight K (Nat.mul 2 c)) 3
noncomputable def setK (K c s : Nat) : Nat := Nat.lor K (Nat.shiftLeft s (Nat.mul 2 c))
noncomputable def ng (x : Nat) : Nat := Nat.land (Nat.sub 4 x) 3
noncomputable def sw : Bool → Nat → Nat
  | true, x => ng x
  | false, x => x
noncomputable def pw (i : Nat) : Nat := Nat.shiftLeft 1 i
noncomputable def s3 (n K i j k : Nat) : Option Nat :=
  match Nat.blt i n && Nat.blt j n && Nat.blt k n with
  | true => match Nat.beq i j || Nat.beq j k || Nat.beq i k with
    | true => some 2
    | false => some (sw (xor (Nat.blt j i) (xor (Nat.blt k j) (Nat.blt k i))) (dg K (Nat.add (pw i) (Nat.add (pw j) (pw k)))))
  | false => none
noncomputable def s4 (n K p a b c : Nat) : Option Nat :=
  match Nat.blt p n && Nat.blt a n && Nat.blt b n && Nat.blt c n with
  | true => match Nat.beq p a || Nat.beq p b || Nat.beq p c || Nat.beq a b || Nat.beq a c || Nat.beq b c with
    | true => some 2
    | false => some (sw (xor (Nat.blt a p) (xor (Nat.blt b p) (xor (Nat.blt c p) (xor (Nat.blt b a) (xor (Nat.blt c a) (Nat.blt c b)))))) (dg K (Nat.add (pw p) (Nat.add (pw a) (Nat.add (pw b) (pw c))))))
  | false => none
noncomputable def qK (n K : Nat) : Qry → Option Bool
  | .ccw i j k => match s3 n K i j k with | some s => some (Nat.beq s 3) | none => none
  | .cw i j k => match s3 n K i j k with | some s => some (Nat.beq s 1) | none => none
  | .inn p a b c => match s4 n K p a b c with | some s => some (Nat.beq s 3) | none => none
noncomputable def runK {α : Type} (n K : Nat) : DT α → Option α
  | .ret a => some a
  | .fail => none
  | .ask q k => match qK n K q with
    | some true => runK n K (k true)
    | some false => runK n K (k false)
    | none => none
noncomputable def bitAt (M i : Nat) : Bool := Nat.beq (Nat.land (Nat.shiftRight M i) 1) 1
noncomputable def T4 : Nat := 110023452600795943086120088626143416254366043341221916072959254012387666165759
noncomputable def T3 : Nat := 69655474703695651169484529661508202083302799906162186402433488590652026388479
noncomputable def TB : Nat := 3746772376199626751
noncomputable def TM : Nat := 3836242944
noncomputable def k4 (w x y z : Nat) : Bool := bitAt T4 (Nat.add w (Nat.add (Nat.mul 4 x) (Nat.add (Nat.mul 16 y) (Nat.mul 64 z))))
noncomputable def k3 (w x y z : Nat) : Bool := bitAt T3 (Nat.add w (Nat.add (Nat.mul 4 x) (Nat.add (Nat.mul 16 y) (Nat.mul 64 z))))
noncomputable def kb (x y z : Nat) : Bool := bitAt TB (Nat.add x (Nat.add (Nat.mul 4 y) (Nat.mul 16 z)))
noncomputable def ml (x y : Nat) : Nat := Nat.land (Nat.shiftRight TM (Nat.mul 2 (Nat.add x (Nat.mul 4 y)))) 3
/-- the 4-point rule of the signs at codes w x y z (abc abd acd bcd) -/
noncomputable def q4 (w x y z K : Nat) : Bool := k4 (dg K w) (dg K x) (dg K y) (dg K z)
noncomputable def qS (s w x y z K : Nat) : Bool :=
  k3 (dg K s) (dg K w) (ng (dg K x)) (dg K y) && k3 (dg K s) (dg K w) (ng (dg K x)) (ng (dg K z)) && k3 (dg K s) (dg K w) (dg K y) (ng (dg K z)) && k3 (dg K s) (ng (dg K x)) (dg K y) (ng (dg K z))
/-- the three-term rule: omitted a b c with their flips, triples -/
noncomputable def gp (sa sb sc : Nat) (fa fb fc : Bool) (ta tb tc : Nat) (K : Nat) : Bool :=
  kb (sw fa (ml (dg K sa) (dg K ta))) (sw fb (ml (dg K sb) (dg K tb))) (sw fc (ml (dg K sc) (dg K tc)))
noncomputable def yes (_ : Nat) : Bool := true
noncomputable def both (f g : Nat → Bool) (K : Nat) : Bool := f K && g K
noncomputable def chk (leaf : Nat → Bool) : List (Nat × (Nat → Bool)) → Nat → Bool
  | [], K => leaf K
  | (c, f) :: r, K =>
    (match f (setK K c 1) with | true => chk leaf r (setK K c 1) | false => true) &&
    (match f (setK K c 2) with | true => chk leaf r (setK K c 2) | false => true) &&
    (match f (setK K c 3) with | true => chk leaf r (setK K c 3) | false => true)
noncomputable def steps : Nat → List (Nat × (Nat → Bool))
  | 3 => [(7, yes)]
  | 4 => [(7, yes), (11, yes), (13, yes), (14, q4 7 11 13 14), (15, qS 15 7 11 13 14)]
  | 5 => [(7, yes), (11, yes), (13, yes), (14, q4 7 11 13 14), (19, yes), (21, yes), (22, q4 7 19 21 22), (25, yes), (26, q4 11 19 25 26), (28, both (q4 13 21 25 28) (q4 14 22 26 28)), (15, qS 15 7 11 13 14), (23, qS 23 7 19 21 22), (27, both (qS 27 11 19 25 26) (gp 27 23 15 false true false 7 11 19)), (29, both (qS 29 13 21 25 28) (both (gp 29 23 15 false true false 7 13 21) (both (gp 29 27 15 false true false 11 13 25) (gp 29 27 23 false true false 19 21 25)))), (30, both (qS 30 14 22 26 28) (both (gp 30 23 15 false true false 7 14 22) (both (gp 30 27 15 false true false 11 14 26) (both (gp 30 27 23 false true false 19 22 26) (both (gp 30 29 15 false true false 13 14 28) (both (gp 30 29 23 false true false 21 22 28) (gp 30 29 27 false true false 25 26 28)))))))]
  | _ => []
noncomputable def allP (n : Nat) (f : Nat → Bool) : Bool := match n with | 0 => true | n + 1 => f n && allP n f
noncomputable def ne3 : Option Nat → Nat → Bool
  | some s, t => not (Nat.beq s t)
  | none, _ => false
noncomputable def isO : Option Nat → Nat → Bool
  | some s, t => Nat.beq s t
  | none, _ => false
noncomputable def hullL (K n : Nat) (st : List ERec) : Nat → Nat → Bool
  | 0, _ => false
  | f + 1, e => match org st e, dst st e with
    | some a, some b => isO (org st (lfe st e)) b && allP n (fun p => ne3 (s3 n K a b p) 3) && (match Nat.beq a 0 with | true => true | false => Nat.blt b a && hullL K n st f (lfe st e))
    | _, _ => false
noncomputable def hullR (K n : Nat) (st : List ERec) : Nat → Nat → Bool
  | 0, _ => false
  | f + 1, e => match org st e, dst st e with
    | some a, some b => isO (org st (rfe st e)) b && isO (dst st (opp st e)) a && allP n (fun p => ne3 (s3 n K a b p) 1) && (match Nat.beq (Nat.add a 1) n with | true => true | false => Nat.blt a b && hullR K n st f (rfe st e))
    | _, _ => false
noncomputable def good (n K : Nat) (x : List ERec × Nat × Nat) : Bool := isO (org x.1 x.2.2) (Nat.sub n 1) && isO (org x.1 x.2.1) 0 && hullL K n x.1 n x.2.2 && hullR K n x.1 n x.2.1
noncomputable def leafK (n K : Nat) : Bool := match runK n K (delD n) with | some x => good n K x | none => false
theorem crs_swap23 (vx vy ax ay bx b_y : Int) : crs vx vy bx b_y ax ay = - crs vx vy ax ay bx b_y := by unfold crs; grind
theorem crs_swap12 (vx vy ax ay bx b_y : Int) : crs ax ay vx vy bx b_y = - crs vx vy ax ay bx b_y := by unfold crs; grind
theorem icp_swap12 (px py ax ay bx b_y cx cy : Int) : icp ax ay px py bx b_y cx cy = - icp px py ax ay bx b_y cx cy := by unfold icp; grind
theorem icp_swap23 (px py ax ay bx b_y cx cy : Int) : icp px py bx b_y ax ay cx cy = - icp px py ax ay bx b_y cx cy := by unfold icp; grind
theorem icp_swap34 (px py ax ay bx b_y cx cy : Int) : icp px py ax ay cx cy bx b_y = - icp px py ax ay bx b_y cx cy := by unfold icp; grind
theorem gp_id (jx jy kx ky ax ay bx b_y cx cy : Int) :
    icp jx jy kx ky bx b_y cx cy * crs jx jy kx ky ax ay + icp jx jy kx ky cx cy ax ay * crs jx jy kx ky bx b_y + icp jx jy kx ky ax ay bx b_y * crs jx jy kx ky cx cy = 0 := by
  unfold icp crs
  generalize kx - jx = k1, ky - jy = k2, ax - jx = a1, ay - jy = a2, bx - jx = b1, b_y - jy = b2, cx - jx = c1, cy - jy = c2
  grind
section
variable (xy : Nat → Int × Int)
theorem cr_23 (i j k : Nat) : cr xy i k j = - cr xy i j k := crs_swap23 ..
theorem cr_12 (i j k : Nat) : cr xy j i k = - cr xy i j k := crs_swap12 ..
theorem ic_12 (p a b c : Nat) : ic xy a p b c = - ic xy p a b c := icp_swap12 ..
theorem ic_23 (p a b c : Nat) : ic xy p b a c = - ic xy p a b c := icp_swap23 ..
theorem ic_34 (p a b c : Nat) : ic xy p a c b = - ic xy p a b c := icp_swap34 ..
theorem cr_gp (j k a b c : Nat) : ic xy j k b c * cr xy j k a + ic xy j k c a * cr xy j k b + ic xy j k a b * cr xy j k c = 0 := gp_id ..
end
/-- a sign as a digit -/
noncomputable def sg (x : Int) : Nat := if 0 < x then 3 else if x < 0 then 1 else 2
theorem sg_cases (x : Int) : (sg x = 3 ∧ 0 < x) ∨ (sg x = 1 ∧ x < 0) ∨ (sg x = 2 ∧ x = 0) := by
  unfold sg
  by_cases h : 0 < x
  · exact .inl ⟨if_pos h, h⟩
  · by_cases h2 : x < 0
    · exact .inr (.inl ⟨by rw [if_neg h, if_pos h2], h2⟩)
    · exact .inr (.inr ⟨by rw [if_neg h, if_neg h2], by (first | k_extra "nl9" | omega)⟩)
theorem sg_range (x : Int) : 1 ≤ sg x ∧ sg x ≤ 3 := by rcases sg_cases x with ⟨h, _⟩ | ⟨h, _⟩ | ⟨h, _⟩ <;> rw [h] <;> decide
theorem ng_sg (x : Int) : ng (sg x) = sg (-x) := by
  rcases sg_cases x with ⟨h, h0⟩ | ⟨h, h0⟩ | ⟨h, h0⟩ <;> rcases sg_cases (-x) with ⟨h', h1⟩ | ⟨h', h1⟩ | ⟨h', h1⟩ <;> rw [h, h'] <;> first | rfl | (exfalso; (first | k_extra "nl9" | omega))
theorem sg_pos {x : Int} : Nat.beq (sg x) 3 = decide (0 < x) := by
  rcases sg_cases x with ⟨h, h0⟩ | ⟨h, h0⟩ | ⟨h, h0⟩ <;> rw [h]
  · rw [decide_eq_true h0]; rfl
  · rw [decide_eq_false (by (first | k_extra "nl9" | omega))]; rfl
  · rw [decide_eq_false (by (first | k_extra "nl9" | omega))]; rfl
theorem sg_neg {x : Int} : Nat.beq (sg x) 1 = decide (x < 0) := by
  rcases sg_cases x with ⟨h, h0⟩ | ⟨h, h0⟩ | ⟨h, h0⟩ <;> rw [h]
  · rw [decide_eq_false (by (first | k_extra "nl9" | omega))]; rfl
  · rw [decide_eq_true h0]; rfl
  · rw [decide_eq_false (by (first | k_extra "nl9" | omega))]; rfl
theorem sg_mul (x y : Int) : ml (sg x) (sg y) = sg (x * y) := by
  rcases sg_cases x with ⟨h, h0⟩ | ⟨h, h0⟩ | ⟨h, h0⟩ <;> rcases sg_cases y with ⟨h', h1⟩ | ⟨h', h1⟩ | ⟨h', h1⟩ <;> rw [h, h']
  · have := Int.mul_pos h0 h1; rw [sg, if_pos this]; decide +kernel
  · have := Int.mul_neg_of_pos_of_neg h0 h1; rw [sg, if_neg (by (first | k_extra "nl9" | omega)), if_pos this]; decide +kernel
  · subst h1; rw [Int.mul_zero]; decide +kernel
  · have := Int.mul_neg_of_neg_of_pos h0 h1; rw [sg, if_neg (by (first | k_extra "nl9" | omega)), if_pos this]; decide +kernel
  · have := Int.mul_pos_of_neg_of_neg h0 h1; rw [sg, if_pos this]; decide +kernel
  · subst h1; rw [Int.mul_zero]; decide +kernel
  · subst h0; rw [Int.zero_mul]; decide +kernel
  · subst h0; rw [Int.zero_mul]; decide +kernel
  · subst h0; rw [Int.zero_mul]; decide +kernel
/-- lexicographic order -/
noncomputable def Lx (p q : Int × Int) : Prop := p.1 < q.1 ∨ (p.1 = q.1 ∧ p.2 < q.2)
/-- the half plane of differences -/
noncomputable def HP (x y : Int) : Prop := 0 < x ∨ (x = 0 ∧ 0 < y)
theorem Lx.hp {p q : Int × Int} (h : Lx p q) : HP (q.1 - p.1) (q.2 - p.2) := by
  rcases h with h | ⟨h, h'⟩
  · exact .inl (by (first | k_extra "nl9" | omega))
  · exact .inr ⟨by (first | k_extra "nl9" | omega), by (first | k_extra "nl9" | omega)⟩
theorem HP.add {x y u v : Int} (h : HP x y) (h' : HP u v) : HP (x + u) (y + v) := by
  unfold HP at *
  rcases h with h | ⟨h1, h2⟩ <;> rcases h' with k | ⟨k1, k2⟩
  · exact .inl (Int.add_pos h k)
  · exact .inl (by rw [k1, Int.add_zero]; exact h)
  · exact .inl (by rw [h1, Int.zero_add]; exact k)
  · exact .inr ⟨by rw [h1, k1]; rfl, Int.add_pos h2 k2⟩
/-- turning on: e1 to e2 to e3 -/
theorem hp_trans {p P q Q r R : Int} (h1 : HP p P) (h2 : HP q Q) (h3 : HP r R) (w : 0 ≤ p * Q - q * P) (z : 0 ≤ q * R - r * Q) :
    0 ≤ p * R - r * P ∧ (0 < p * Q - q * P ∨ 0 < q * R - r * Q → 0 < p * R - r * P) := by
  have i1 : q * (p * R - r * P) = p * (q * R - r * Q) + r * (p * Q - q * P) := by grind
  have i2 : Q * (p * R - r * P) = P * (q * R - r * Q) + R * (p * Q - q * P) := by grind
  generalize ht : p * R - r * P = t at *
  generalize hw : p * Q - q * P = W at *
  generalize hz : q * R - r * Q = Z at *
  rcases h2 with hq | ⟨hq, hQ⟩
  · have hp : 0 ≤ p := by rcases h1 with h | ⟨h, _⟩ <;> (first | k_extra "nl9" | lia)
    have hr : 0 ≤ r := by rcases h3 with h | ⟨h, _⟩ <;> (first | k_extra "nl9" | lia)
    have a1 : 0 ≤ p * Z := Int.mul_nonneg hp z
    have a2 : 0 ≤ r * W := Int.mul_nonneg hr w
    have t0 : 0 ≤ t := by
      rcases Int.lt_or_le t 0 with h | h
      · have := Int.mul_neg_of_pos_of_neg hq h; (first | k_extra "nl9" | lia)
      · exact h
    refine ⟨t0, fun hs => ?_⟩
    have hp' : 0 < p := by
      rcases h1 with h | ⟨h, hP⟩
      · exact h
      · exfalso
        subst h
        have := Int.mul_pos hq hP
        (first | k_extra "nl9" | lia)
    have key : 0 < q * t := by
      rw [i1]
      rcases hs with hs | hs
      · rcases h3 with h | ⟨h, hR⟩
        · have := Int.mul_pos h hs; (first | k_extra "nl9" | lia)
        · subst h
          have hz' : 0 < Z := by have := Int.mul_pos hq hR; (first | k_extra "nl9" | lia)
          have := Int.mul_pos hp' hz'; (first | k_extra "nl9" | lia)
      · have := Int.mul_pos hp' hs; (first | k_extra "nl9" | lia)
    rcases Int.lt_or_le 0 t with h | h
    · exact h
    · have : t = 0 := by (first | k_extra "nl9" | lia)
      rw [this, Int.mul_zero] at key; (first | k_extra "nl9" | lia)
  · subst hq
    have hp : 0 ≤ p := by rcases h1 with h | ⟨h, _⟩ <;> (first | k_extra "nl9" | lia)
    have hr : 0 ≤ r := by rcases h3 with h | ⟨h, _⟩ <;> (first | k_extra "nl9" | lia)
    have hr0 : r = 0 := by
      rcases Int.lt_or_le 0 r with h | h
      · have := Int.mul_pos h hQ; (first | k_extra "nl9" | lia)
      · (first | k_extra "nl9" | lia)
    subst hr0
    have hR : 0 < R := by rcases h3 with h | ⟨_, h⟩ <;> (first | k_extra "nl9" | lia)
    have e1 : t = p * R := by (first | k_extra "nl9" | omega)
    have e2 : W = p * Q := by (first | k_extra "nl9" | omega)
    rcases Int.lt_or_le 0 p with h | h
    · have := Int.mul_pos h hR
      exact ⟨by (first | k_extra "nl9" | lia), fun _ => by (first | k_extra "nl9" | lia)⟩
    · have : p = 0 := by (first | k_extra "nl9" | lia)
      subst this
      exact ⟨by (first | k_extra "nl9" | lia), fun hs => by (first | k_extra "nl9" | lia)⟩
theorem hp_trans' {p P q Q r R : Int} (h1 : HP p P) (h2 : HP q Q) (h3 : HP r R) (w : p * Q - q * P ≤ 0) (z : q * R - r * Q ≤ 0) :
    p * R - r * P ≤ 0 ∧ (p * Q - q * P < 0 ∨ q * R - r * Q < 0 → p * R - r * P < 0) := by
  obtain ⟨a, b⟩ := hp_trans h3 h2 h1 (by (first | k_extra "nl9" | omega)) (by (first | k_extra "nl9" | omega))
  exact ⟨by (first | k_extra "nl9" | omega), fun hs => by have := b (by (first | k_extra "nl9" | omega)); (first | k_extra "nl9" | omega)⟩
theorem k4_zeroF : ∀ w x y z : Fin 4, (w.1 = 0 ∨ x.1 = 0 ∨ y.1 = 0 ∨ z.1 = 0) → k4 w.1 x.1 y.1 z.1 = true := by decide +kernel
theorem k4_zero {w x y z : Nat} (hw : w < 4) (hx : x < 4) (hy : y < 4) (hz : z < 4) (h : w = 0 ∨ x = 0 ∨ y = 0 ∨ z = 0) : k4 w x y z = true := k4_zeroF ⟨w, hw⟩ ⟨x, hx⟩ ⟨y, hy⟩ ⟨z, hz⟩ h
theorem k3_zeroF : ∀ w x y z : Fin 4, (w.1 = 0 ∨ x.1 = 0 ∨ y.1 = 0 ∨ z.1 = 0) → k3 w.1 x.1 y.1 z.1 = true := by decide +kernel
theorem k3_zero {w x y z : Nat} (hw : w < 4) (hx : x < 4) (hy : y < 4) (hz : z < 4) (h : w = 0 ∨ x = 0 ∨ y = 0 ∨ z = 0) : k3 w x y z = true := k3_zeroF ⟨w, hw⟩ ⟨x, hx⟩ ⟨y, hy⟩ ⟨z, hz⟩ h
theorem kb_zero : ∀ x : Nat, x < 4 → ∀ y : Nat, y < 4 → ∀ z : Nat, z < 4 → (x = 0 ∨ y = 0 ∨ z = 0) → kb x y z = true := by decide +kernel
theorem ml_lt : ∀ x : Nat, x < 4 → ∀ y : Nat, y < 4 → ml x y < 4 := by decide +kernel
theorem ml_zero : ∀ x : Nat, x < 4 → ∀ y : Nat, y < 4 → (x = 0 ∨ y = 0) → ml x y = 0 := by decide +kernel
theorem ng_zero : ng 0 = 0 := rfl
theorem ng_lt : ∀ x : Nat, ng x < 4 := fun x => by unfold ng; exact Nat.lt_of_le_of_lt Nat.and_le_right (by decide)
theorem dg_lt (K c : Nat) : dg K c < 4 := by unfold dg; exact Nat.lt_of_le_of_lt Nat.and_le_right (by decide)
noncomputable def imp (a b : Bool) : Bool := !a || b
noncomputable def adok (a b c : Nat) : Bool := imp (Nat.beq a 2) (Nat.beq c b) && (imp (Nat.beq b 2) (Nat.beq c a) && imp (Nat.beq a b) (Nat.beq c a))
theorem adok_sg (x y : Int) : adok (sg x) (sg y) (sg (x + y)) = true := by
  rcases sg_cases x with ⟨e, h⟩ | ⟨e, h⟩ | ⟨e, h⟩ <;> rcases sg_cases y with ⟨e', h'⟩ | ⟨e', h'⟩ | ⟨e', h'⟩
  · rw [show sg (x + y) = 3 from if_pos (Int.add_pos h h'), e, e']; rfl
  · rw [e, e']; rfl
  · rw [h', Int.add_zero, e]; rfl
  · rw [e, e']; rfl
  · have z := Int.add_neg h h'
    rw [show sg (x + y) = 1 from (if_neg (Int.lt_asymm z)).trans (if_pos z), e, e']; rfl
  · rw [h', Int.add_zero, e]; rfl
  · rw [h, Int.zero_add, e']; rfl
  · rw [h, Int.zero_add, e']; rfl
  · rw [h, h']; rfl
noncomputable def k4c (w x y z t : Nat) : Bool := imp (adok w t x && (adok z t y && (imp (Nat.ble 2 w && Nat.ble 2 z) (Nat.ble 2 t && imp (Nat.beq w 3 || Nat.beq z 3) (Nat.beq t 3)) &&
  imp (Nat.ble w 2 && Nat.ble z 2) (Nat.ble t 2 && imp (Nat.beq w 1 || Nat.beq z 1) (Nat.beq t 1))))) (k4 w x y z)
noncomputable def rng3 : List Nat := [1, 2, 3]
theorem sg_mem (x : Int) : sg x ∈ rng3 := by
  rcases sg_cases x with ⟨e, _⟩ | ⟨e, _⟩ | ⟨e, _⟩ <;> rw [e] <;> decide
theorem k4_fin : ∀ w ∈ rng3, ∀ x ∈ rng3, ∀ y ∈ rng3, ∀ z ∈ rng3, ∀ t ∈ rng3, k4c w x y z t = true := by decide +kernel
theorem k3_fin : ∀ s ∈ rng3, ∀ x ∈ rng3, ∀ y ∈ rng3, ∀ z ∈ rng3, ∀ t ∈ rng3, imp (adok x y t && adok t z s) (k3 s x y z) = true := by decide +kernel
theorem kb_fin : ∀ x ∈ rng3, ∀ y ∈ rng3, ∀ z ∈ rng3, imp (adok x y (ng z)) (kb x y z) = true := by decide +kernel
theorem imp_mp {a b : Bool} (h : imp a b = true) (ha : a = true) : b = true := by subst ha; exact h
theorem imp_of {a b : Bool} (h : a = true → b = true) : imp a b = true := by
  cases a
  · rfl
  · exact h rfl
theorem and_mk {a b : Bool} (x : a = true) (y : b = true) : (a && b) = true := by rw [x, y]; rfl
theorem sg_ge2 {x : Int} (h : Nat.ble 2 (sg x) = true) : 0 ≤ x := by
  rcases sg_cases x with ⟨e, q⟩ | ⟨e, q⟩ | ⟨e, q⟩
  · exact Int.le_of_lt q
  · rw [e] at h; cases h
  · rw [q]; exact Int.le_refl _
theorem sg_le2 {x : Int} (h : Nat.ble (sg x) 2 = true) : x ≤ 0 := by
  rcases sg_cases x with ⟨e, q⟩ | ⟨e, q⟩ | ⟨e, q⟩
  · rw [e] at h; cases h
  · exact Int.le_of_lt q
  · rw [q]; exact Int.le_refl _
theorem sg_ge2' {x : Int} (h : 0 ≤ x) : Nat.ble 2 (sg x) = true := by
  rcases sg_cases x with ⟨e, q⟩ | ⟨e, q⟩ | ⟨e, q⟩
  · rw [e]; rfl
  · exact absurd q (Int.not_lt.mpr h)
  · rw [e]; rfl
theorem sg_le2' {x : Int} (h : x ≤ 0) : Nat.ble (sg x) 2 = true := by
  rcases sg_cases x with ⟨e, q⟩ | ⟨e, q⟩ | ⟨e, q⟩
  · exact absurd q (Int.not_lt.mpr h)
  · rw [e]; rfl
  · rw [e]; rfl
theorem k4_real {w x y z t : Int} (hx : x = w + t) (hy : y = z + t) (h1 : 0 ≤ w → 0 ≤ z → 0 ≤ t ∧ (0 < w ∨ 0 < z → 0 < t)) (h2 : w ≤ 0 → z ≤ 0 → t ≤ 0 ∧ (w < 0 ∨ z < 0 → t < 0)) :
    k4 (sg w) (sg x) (sg y) (sg z) = true := by
  refine imp_mp (k4_fin _ (sg_mem w) _ (sg_mem x) _ (sg_mem y) _ (sg_mem z) _ (sg_mem t)) ?_
  refine and_mk (hx ▸ adok_sg w t) (and_mk (hy ▸ adok_sg z t) (and_mk (imp_of fun h => ?_) (imp_of fun h => ?_)))
  · obtain ⟨a, b⟩ := Bool.and_eq_true_iff.mp h
    obtain ⟨p, q⟩ := h1 (sg_ge2 a) (sg_ge2 b)
    refine and_mk (sg_ge2' p) (imp_of fun k => ?_)
    rw [sg_pos, decide_eq_true (q _)]
    rwa [sg_pos, sg_pos, Bool.or_eq_true, decide_eq_true_eq, decide_eq_true_eq] at k
  · obtain ⟨a, b⟩ := Bool.and_eq_true_iff.mp h
    obtain ⟨p, q⟩ := h2 (sg_le2 a) (sg_le2 b)
    refine and_mk (sg_le2' p) (imp_of fun k => ?_)
    rw [sg_neg, decide_eq_true (q _)]
    rwa [sg_neg, sg_neg, Bool.or_eq_true, decide_eq_true_eq, decide_eq_true_eq] at k
theorem ml3_fin : ∀ x ∈ rng3, ml 3 x = x := by decide +kernel
theorem sg_scale {a α : Int} (h : 0 < a) : sg (a * α) = sg α := by rw [← sg_mul, show sg a = 3 from if_pos h, ml3_fin _ (sg_mem α)]
theorem k3_real {a b c α β γ s : Int} (ha : 0 < a) (hb : 0 < b) (hc : 0 < c) (hs : s = a * α + b * β + c * γ) : k3 (sg s) (sg α) (sg β) (sg γ) = true := by
  refine imp_mp (k3_fin _ (sg_mem s) _ (sg_mem α) _ (sg_mem β) _ (sg_mem γ) _ (sg_mem (a * α + b * β))) ?_
  have x := adok_sg (a * α) (b * β)
  have y := adok_sg (a * α + b * β) (c * γ)
  rw [sg_scale ha, sg_scale hb] at x
  rw [sg_scale hc, ← hs] at y
  exact and_mk x y
theorem kb_real {x y z : Int} (h : x + y + z = 0) : kb (sg x) (sg y) (sg z) = true := by
  refine imp_mp (kb_fin _ (sg_mem x) _ (sg_mem y) _ (sg_mem z)) ?_
  rw [ng_sg, show -z = x + y by (first | k_extra "nl9" | omega)]
  exact adok_sg x y
section
variable {xy : Nat → Int × Int} {a b c d : Nat}
theorem cr_four (hab : Lx (xy a) (xy b)) (hbc : Lx (xy b) (xy c)) (hcd : Lx (xy c) (xy d)) : k4 (sg (cr xy a b c)) (sg (cr xy a b d)) (sg (cr xy a c d)) (sg (cr xy b c d)) = true := by
  have H1 := hab.hp
  have H2 := hbc.hp
  have H3 := hcd.hp
  refine k4_real (t := ((xy b).1 - (xy a).1) * ((xy d).2 - (xy c).2) - ((xy d).1 - (xy c).1) * ((xy b).2 - (xy a).2)) ?_ ?_ (fun w z => ?_) (fun w z => ?_)
  · unfold cr crs; grind
  · unfold cr crs; grind
  · have e1 : cr xy a b c = ((xy b).1 - (xy a).1) * ((xy c).2 - (xy b).2) - ((xy c).1 - (xy b).1) * ((xy b).2 - (xy a).2) := by unfold cr crs; grind
    have e2 : cr xy b c d = ((xy c).1 - (xy b).1) * ((xy d).2 - (xy c).2) - ((xy d).1 - (xy c).1) * ((xy c).2 - (xy b).2) := by unfold cr crs; grind
    rw [e1] at w ⊢; rw [e2] at z ⊢
    exact hp_trans H1 H2 H3 w z
  · have e1 : cr xy a b c = ((xy b).1 - (xy a).1) * ((xy c).2 - (xy b).2) - ((xy c).1 - (xy b).1) * ((xy b).2 - (xy a).2) := by unfold cr crs; grind
    have e2 : cr xy b c d = ((xy c).1 - (xy b).1) * ((xy d).2 - (xy c).2) - ((xy d).1 - (xy c).1) * ((xy c).2 - (xy b).2) := by unfold cr crs; grind
    rw [e1] at w ⊢; rw [e2] at z ⊢
    exact hp_trans' H1 H2 H3 w z
theorem HP.sq {x y : Int} (h : HP x y) : 0 < x * x + y * y := by
  have h1 : 0 ≤ x * x := by rcases Int.le_total 0 x with h | h; exact Int.mul_nonneg h h; exact Int.mul_nonneg_of_nonpos_of_nonpos h h
  have h2 : 0 ≤ y * y := by rcases Int.le_total 0 y with h | h; exact Int.mul_nonneg h h; exact Int.mul_nonneg_of_nonpos_of_nonpos h h
  rcases h with h | ⟨_, h⟩
  · have := Int.mul_pos h h; (first | k_extra "nl9" | omega)
  · have := Int.mul_pos h h; (first | k_extra "nl9" | omega)
theorem Lx.trans {p q r : Int × Int} (h : Lx p q) (h' : Lx q r) : Lx p r := by
  unfold Lx at *
  rcases h with h | ⟨h1, h2⟩ <;> rcases h' with k | ⟨k1, k2⟩
  · exact .inl (Int.lt_trans h k)
  · exact .inl (k1 ▸ h)
  · exact .inl (h1 ▸ k)
  · exact .inr ⟨h1.trans k1, Int.lt_trans h2 k2⟩
theorem ic_four (hab : Lx (xy a) (xy b)) (hbc : Lx (xy b) (xy c)) (hcd : Lx (xy c) (xy d)) :
    k3 (sg (ic xy a b c d)) (sg (cr xy a b c)) (ng (sg (cr xy a b d))) (sg (cr xy a c d)) = true ∧ k3 (sg (ic xy a b c d)) (sg (cr xy a b c)) (ng (sg (cr xy a b d))) (ng (sg (cr xy b c d))) = true ∧
    k3 (sg (ic xy a b c d)) (sg (cr xy a b c)) (sg (cr xy a c d)) (ng (sg (cr xy b c d))) = true ∧ k3 (sg (ic xy a b c d)) (ng (sg (cr xy a b d))) (sg (cr xy a c d)) (ng (sg (cr xy b c d))) = true := by
  have q1 := hab.hp.sq
  have q2 := (hab.trans hbc).hp.sq
  have q3 := ((hab.trans hbc).trans hcd).hp.sq
  have q4 := hbc.hp.sq
  have q5 := (hbc.trans hcd).hp.sq
  have q6 := hcd.hp.sq
  simp only [ng_sg]
  refine ⟨k3_real q3 q2 q1 ?_, k3_real q5 q4 q1 ?_, k3_real q6 q4 q2 ?_, k3_real q6 q5 q3 ?_⟩ <;> (unfold ic icp cr crs; grind)
end
theorem dg_bit (K c i : Nat) : (dg K c).testBit i = (decide (i < 2) && K.testBit (2 * c + i)) := by
  show ((K >>> (2 * c)) &&& (2 ^ 2 - 1)).testBit i = _
  rw [Nat.testBit_and, Nat.testBit_two_pow_sub_one, Nat.testBit_shiftRight, Bool.and_comm]
theorem small_bit {s i : Nat} (hs : s < 4) (hi : 2 ≤ i) : s.testBit i = false :=
  Nat.testBit_lt_two_pow (Nat.lt_of_lt_of_le hs (Nat.le_trans (by decide : 4 ≤ 2 ^ 2) (Nat.pow_le_pow_right (by decide) hi)))
theorem set_bit (K c s j : Nat) : (setK K c s).testBit j = (K.testBit j || (decide (2 * c ≤ j) && s.testBit (j - 2 * c))) := by
  show (K ||| (s <<< (2 * c))).testBit j = _
  rw [Nat.testBit_or, Nat.testBit_shiftLeft]
theorem dg_set_self {K c s : Nat} (h0 : dg K c = 0) (hs : s < 4) : dg (setK K c s) c = s := by
  apply Nat.eq_of_testBit_eq
  intro i
  rw [dg_bit, set_bit]
  by_cases hi : i < 2
  · have h1 : K.testBit (2 * c + i) = false := by
      have := dg_bit K c i
      rw [h0, decide_eq_true hi, Bool.true_and, Nat.zero_testBit] at this
      exact this.symm
    rw [h1, decide_eq_true hi, decide_eq_true (by (first | k_extra "nl9" | omega)), Nat.add_sub_cancel_left]; simp
  · rw [decide_eq_false hi, Bool.false_and, small_bit hs (by (first | k_extra "nl9" | omega))]
theorem dg_set_ne {K c c' s : Nat} (hc : c' ≠ c) (hs : s < 4) : dg (setK K c s) c' = dg K c' := by
  apply Nat.eq_of_testBit_eq
  intro i
  rw [dg_bit, dg_bit, set_bit]
  by_cases hi : i < 2
  · by_cases h : 2 * c ≤ 2 * c' + i
    · have h1 : c ≤ c' := Nat.le_of_lt_succ (Nat.lt_of_mul_lt_mul_left (a := 2) (Nat.lt_of_le_of_lt h (Nat.add_lt_add_left hi _)))
      have h2 : c + 1 ≤ c' := Nat.lt_of_le_of_ne h1 (Ne.symm hc)
      rw [small_bit hs (Nat.le_sub_of_add_le (Nat.le_trans (by rw [Nat.add_comm]; exact Nat.mul_le_mul_left 2 h2) (Nat.le_add_right _ _)))]; simp
    · rw [decide_eq_false h]; simp
  · rw [decide_eq_false hi]; simp
/-- K agrees with the signs, as far as it goes -/
noncomputable def Agr (R : Nat → Nat) (K : Nat) : Prop := ∀ c, dg K c = 0 ∨ dg K c = R c
theorem chk_sound {leaf : Nat → Bool} {R : Nat → Nat} (hR : ∀ c, 1 ≤ R c ∧ R c ≤ 3) : ∀ (steps : List (Nat × (Nat → Bool))) (K : Nat),
    (∀ p ∈ steps, ∀ K', Agr R K' → p.2 K' = true) → (steps.map (·.1)).Nodup → (∀ p ∈ steps, dg K p.1 = 0) → Agr R K → chk leaf steps K = true →
    ∃ K', leaf K' = true ∧ (∀ p ∈ steps, dg K' p.1 = R p.1) ∧ ∀ c, (∀ p ∈ steps, p.1 ≠ c) → dg K' c = dg K c
  | [], K, _, _, _, _, h => ⟨K, h, fun _ hp => (List.not_mem_nil hp).elim, fun _ _ => rfl⟩
  | (c, f) :: r, K, hv, hn, hz, ha, h => by
    have hz0 : dg K c = 0 := hz _ (.head _)
    have hn' : (r.map (·.1)).Nodup ∧ ∀ p ∈ r, p.1 ≠ c := by
      rw [List.map_cons, List.nodup_cons] at hn
      exact ⟨hn.2, fun p hp e => hn.1 (List.mem_map.mpr ⟨p, hp, e⟩)⟩
    have hlt : R c < 4 := Nat.lt_succ_of_le (hR c).2
    have ha' : Agr R (setK K c (R c)) := fun c' => by
      by_cases e : c' = c
      · subst e; exact .inr (dg_set_self hz0 hlt)
      · rw [dg_set_ne e hlt]; exact ha c'
    have hf := hv _ (.head _) _ ha'
    dsimp only at hf
    have hc : chk leaf r (setK K c (R c)) = true := by
      unfold chk at h
      simp only [Bool.and_eq_true] at h
      obtain ⟨⟨x1, x2⟩, x3⟩ := h
      have hrc := hR c
      have : R c = 1 ∨ R c = 2 ∨ R c = 3 := by (first | k_extra "nl9" | lia)
      rcases this with e | e | e <;> rw [e] at hf ⊢
      · rw [hf] at x1; exact x1
      · rw [hf] at x2; exact x2
      · rw [hf] at x3; exact x3
    obtain ⟨K', l, g1, g2⟩ := chk_sound hR r (setK K c (R c)) (fun p hp => hv p (.tail _ hp)) hn'.1 (fun p hp => by rw [dg_set_ne (hn'.2 p hp) hlt]; exact hz p (.tail _ hp)) ha' hc
    refine ⟨K', l, fun p hp => ?_, fun c' hc' => ?_⟩
    · rcases List.mem_cons.mp hp with rfl | hp
      · rw [g2 c fun p hp e => hn'.2 p hp e, dg_set_self hz0 hlt]
      · exact g1 p hp
    · rw [g2 c' fun p hp => hc' p (.tail _ hp), dg_set_ne (fun e => hc' _ (.head _) e.symm) hlt]
/-- the signs, by code -/
noncomputable def Rl (xy : Nat → Int × Int) : Nat → Nat
  | 7 => sg (cr xy 0 1 2) | 11 => sg (cr xy 0 1 3) | 13 => sg (cr xy 0 2 3) | 14 => sg (cr xy 1 2 3)
  | 19 => sg (cr xy 0 1 4) | 21 => sg (cr xy 0 2 4) | 22 => sg (cr xy 1 2 4) | 25 => sg (cr xy 0 3 4) | 26 => sg (cr xy 1 3 4) | 28 => sg (cr xy 2 3 4)
  | 15 => sg (ic xy 0 1 2 3) | 23 => sg (ic xy 0 1 2 4) | 27 => sg (ic xy 0 1 3 4) | 29 => sg (ic xy 0 2 3 4) | 30 => sg (ic xy 1 2 3 4)
  | _ => 2
theorem Rl_range (xy : Nat → Int × Int) (c : Nat) : 1 ≤ Rl xy c ∧ Rl xy c ≤ 3 := by
  obtain h9 : Tag9 (P := 1 ≤ Rl xy c ∧ Rl xy c ≤ 3) (by
    unfold Rl; split <;> first | exact sg_range _ | decide) := trivial
  unfold id at h9; exact h9.get
noncomputable def AgrN (n : Nat) (xy : Nat → Int × Int) (K : Nat) : Prop :=
  (∀ i j k, i < j → j < k → k < n → dg K (Nat.add (pw i) (Nat.add (pw j) (pw k))) = sg (cr xy i j k)) ∧
  ∀ i j k l, i < j → j < k → k < l → l < n → dg K (Nat.add (pw i) (Nat.add (pw j) (Nat.add (pw k) (pw l)))) = sg (ic xy i j k l)
theorem sw_sg (b : Bool) (x : Int) : sw b (sg x) = sg (if b then -x else x) := by cases b; rfl; exact ng_sg x
theorem blt_t {i j : Nat} (h : i < j) : Nat.blt i j = true := by simpa [Nat.blt_eq] using h
theorem blt_f {i j : Nat} (h : ¬ i < j) : Nat.blt i j = false := by
  cases e : Nat.blt i j
  · rfl
  · exact absurd (by simpa [Nat.blt_eq] using e) h
theorem beq_f {i j : Nat} (h : i ≠ j) : Nat.beq i j = false := by
  cases e : Nat.beq i j
  · rfl
  · exact absurd (Nat.eq_of_beq_eq_true e) h
theorem cr_same1 (xy : Nat → Int × Int) (i k : Nat) : cr xy i i k = 0 := by unfold cr crs; grind
theorem cr_same2 (xy : Nat → Int × Int) (i k : Nat) : cr xy i k k = 0 := by unfold cr crs; grind
theorem cr_same3 (xy : Nat → Int × Int) (i k : Nat) : cr xy i k i = 0 := by unfold cr crs; grind
theorem blt_flip {i j : Nat} (h : i ≠ j) : Nat.blt j i = !Nat.blt i j := by
  rcases Nat.lt_or_gt_of_ne h with q | q
  · rw [blt_t q, blt_f (Nat.lt_asymm q)]; rfl
  · rw [blt_t q, blt_f (Nat.lt_asymm q)]; rfl
theorem sw_not_fin : ∀ x ∈ [0, 1, 2, 3], ∀ b : Bool, sw (!b) x = ng (sw b x) := by decide +kernel
theorem dg_mem (K c : Nat) : dg K c ∈ [0, 1, 2, 3] := by
  have h := dg_lt K c
  generalize dg K c = x at h
  match x, h with
  | 0, _ => decide
  | 1, _ => decide
  | 2, _ => decide
  | 3, _ => decide
theorem sw_not (b : Bool) (K c : Nat) : sw (!b) (dg K c) = ng (sw b (dg K c)) := sw_not_fin _ (dg_mem K c) b
noncomputable def v3 (K i j k : Nat) : Nat := sw (xor (Nat.blt j i) (xor (Nat.blt k j) (Nat.blt k i))) (dg K (Nat.add (pw i) (Nat.add (pw j) (pw k))))
theorem x3_12 : ∀ x y z : Bool, xor (!x) (xor z y) = !(xor x (xor y z)) := by decide
theorem x3_23 : ∀ x y z : Bool, xor z (xor (!y) x) = !(xor x (xor y z)) := by decide
theorem v3_12 {K i j k : Nat} (h : i ≠ j) : v3 K j i k = ng (v3 K i j k) := by
  unfold v3
  rw [← sw_not, show Nat.blt i j = !Nat.blt j i from blt_flip (Ne.symm h), x3_12, show Nat.add (pw j) (Nat.add (pw i) (pw k)) = Nat.add (pw i) (Nat.add (pw j) (pw k)) from Nat.add_left_comm ..]
theorem v3_23 {K i j k : Nat} (h : j ≠ k) : v3 K i k j = ng (v3 K i j k) := by
  unfold v3
  rw [← sw_not, show Nat.blt j k = !Nat.blt k j from blt_flip (Ne.symm h), x3_23, show Nat.add (pw k) (pw j) = Nat.add (pw j) (pw k) from Nat.add_comm ..]
noncomputable def C3 (K : Nat) (xy : Nat → Int × Int) (i j k : Nat) : Prop := v3 K i j k = sg (cr xy i j k)
theorem C3.s12 {K i j k : Nat} {xy : Nat → Int × Int} (h : i ≠ j) (c : C3 K xy j i k) : C3 K xy i j k := by
  unfold C3 at *; rw [v3_12 (Ne.symm h), c, ng_sg, cr_12, Int.neg_neg]
theorem C3.s23 {K i j k : Nat} {xy : Nat → Int × Int} (h : j ≠ k) (c : C3 K xy i k j) : C3 K xy i j k := by
  unfold C3 at *; rw [v3_23 (Ne.symm h), c, ng_sg, cr_23, Int.neg_neg]
theorem C3.srt {n K i j k : Nat} {xy : Nat → Int × Int} (A : AgrN n xy K) (h1 : i < j) (h2 : j < k) (h3 : k < n) : C3 K xy i j k := by
  unfold C3 v3
  rw [blt_f (Nat.lt_asymm h1), blt_f (Nat.lt_asymm h2), blt_f (Nat.lt_asymm (Nat.lt_trans h1 h2)), A.1 i j k h1 h2 h3]; rfl
theorem C3.all {n K i j k : Nat} {xy : Nat → Int × Int} (A : AgrN n xy K) (hi : i < n) (hj : j < n) (hk : k < n) (e1 : i ≠ j) (e2 : j ≠ k) (e3 : i ≠ k) : C3 K xy i j k := by
  have one : ∀ {i j k}, j < k → i < n → k < n → i ≠ j → i ≠ k → C3 K xy i j k := fun {i j k} h hi hk e1 e3 => by
    rcases Nat.lt_or_gt_of_ne e1 with q | q
    · exact .srt A q h hk
    refine .s12 e1 ?_
    rcases Nat.lt_or_gt_of_ne e3 with r | r
    · exact .srt A q r hk
    · exact .s23 e3 (.srt A h r hi)
  rcases Nat.lt_or_gt_of_ne e2 with q | q
  · exact one q hi hk e1 e3
  · exact .s23 e2 (one q hi hj e3 e1)
theorem s3_sound {n K i j k s : Nat} {xy : Nat → Int × Int} (A : AgrN n xy K) (h : s3 n K i j k = some s) : s = sg (cr xy i j k) := by
  unfold s3 at h
  split at h
  · rename_i hb
    simp only [Bool.and_eq_true] at hb
    split at h
    · rename_i he
      cases h
      simp only [Bool.or_eq_true] at he
      rcases he with (he | he) | he
      · cases Nat.eq_of_beq_eq_true he; rw [cr_same1]; rfl
      · cases Nat.eq_of_beq_eq_true he; rw [cr_same2]; rfl
      · cases Nat.eq_of_beq_eq_true he; rw [cr_same3]; rfl
    · rename_i he
      cases h
      simp only [Bool.or_eq_false_iff] at he
      exact C3.all A (by simpa [Nat.blt_eq] using hb.1.1) (by simpa [Nat.blt_eq] using hb.1.2) (by simpa [Nat.blt_eq] using hb.2) (Nat.ne_of_beq_eq_false he.1.1) (Nat.ne_of_beq_eq_false he.1.2) (Nat.ne_of_beq_eq_false he.2)
  · cases h
theorem ic_same (xy : Nat → Int × Int) (p a b c : Nat) (h : p = a ∨ p = b ∨ p = c ∨ a = b ∨ a = c ∨ b = c) : ic xy p a b c = 0 := by
  rcases h with h | h | h | h | h | h <;> subst h <;> unfold ic icp <;> grind
noncomputable def v4 (K p a b c : Nat) : Nat := sw (xor (Nat.blt a p) (xor (Nat.blt b p) (xor (Nat.blt c p) (xor (Nat.blt b a) (xor (Nat.blt c a) (Nat.blt c b)))))) (dg K (Nat.add (pw p) (Nat.add (pw a) (Nat.add (pw b) (pw c)))))
theorem x4_12 : ∀ x y z u v t : Bool, xor (!x) (xor u (xor v (xor y (xor z t)))) = !(xor x (xor y (xor z (xor u (xor v t))))) := by decide
theorem x4_23 : ∀ x y z u v t : Bool, xor y (xor x (xor z (xor (!u) (xor t v)))) = !(xor x (xor y (xor z (xor u (xor v t))))) := by decide
theorem x4_34 : ∀ x y z u v t : Bool, xor x (xor z (xor y (xor v (xor u (!t))))) = !(xor x (xor y (xor z (xor u (xor v t))))) := by decide
theorem v4_12 {K p a b c : Nat} (h : p ≠ a) : v4 K a p b c = ng (v4 K p a b c) := by
  unfold v4
  rw [← sw_not, show Nat.blt p a = !Nat.blt a p from blt_flip (Ne.symm h), x4_12, show Nat.add (pw a) (Nat.add (pw p) (Nat.add (pw b) (pw c))) = Nat.add (pw p) (Nat.add (pw a) (Nat.add (pw b) (pw c))) from Nat.add_left_comm ..]
theorem v4_23 {K p a b c : Nat} (h : a ≠ b) : v4 K p b a c = ng (v4 K p a b c) := by
  unfold v4
  rw [← sw_not, show Nat.blt a b = !Nat.blt b a from blt_flip (Ne.symm h), x4_23, show Nat.add (pw b) (Nat.add (pw a) (pw c)) = Nat.add (pw a) (Nat.add (pw b) (pw c)) from Nat.add_left_comm ..]
theorem v4_34 {K p a b c : Nat} (h : b ≠ c) : v4 K p a c b = ng (v4 K p a b c) := by
  unfold v4
  rw [← sw_not, show Nat.blt b c = !Nat.blt c b from blt_flip (Ne.symm h), x4_34, show Nat.add (pw c) (pw b) = Nat.add (pw b) (pw c) from Nat.add_comm ..]
noncomputable def C4 (K : Nat) (xy : Nat → Int × Int) (p a b c : Nat) : Prop := v4 K p a b c = sg (ic xy p a b c)
theorem C4.s12 {K p a b c : Nat} {xy : Nat → Int × Int} (h : p ≠ a) (x : C4 K xy a p b c) : C4 K xy p a b c := by
  unfold C4 at *; rw [v4_12 (Ne.symm h), x, ng_sg, ic_12, Int.neg_neg]
theorem C4.s23 {K p a b c : Nat} {xy : Nat → Int × Int} (h : a ≠ b) (x : C4 K xy p b a c) : C4 K xy p a b c := by
  unfold C4 at *; rw [v4_23 (Ne.symm h), x, ng_sg, ic_23, Int.neg_neg]
theorem C4.s34 {K p a b c : Nat} {xy : Nat → Int × Int} (h : b ≠ c) (x : C4 K xy p a c b) : C4 K xy p a b c := by
  unfold C4 at *; rw [v4_34 (Ne.symm h), x, ng_sg, ic_34, Int.neg_neg]
theorem C4.srt {n K p a b c : Nat} {xy : Nat → Int × Int} (A : AgrN n xy K) (h1 : p < a) (h2 : a < b) (h3 : b < c) (h4 : c < n) : C4 K xy p a b c := by
  unfold C4 v4
  rw [blt_f (Nat.lt_asymm h1), blt_f (Nat.lt_asymm h2), blt_f (Nat.lt_asymm h3), blt_f (Nat.lt_asymm (Nat.lt_trans h1 h2)), blt_f (Nat.lt_asymm (Nat.lt_trans h2 h3)), blt_f (Nat.lt_asymm (Nat.lt_trans h1 (Nat.lt_trans h2 h3))), A.2 p a b c h1 h2 h3 h4]; rfl
theorem C4.one {n K p a b c : Nat} {xy : Nat → Int × Int} (A : AgrN n xy K) (h2 : a < b) (h3 : b < c) (hp : p < n) (hc : c < n) (e1 : p ≠ a) (e2 : p ≠ b) (e3 : p ≠ c) : C4 K xy p a b c := by
  rcases Nat.lt_or_gt_of_ne e1 with q | q
  · exact .srt A q h2 h3 hc
  refine .s12 e1 ?_
  rcases Nat.lt_or_gt_of_ne e2 with r | r
  · exact .srt A q r h3 hc
  refine .s23 e2 ?_
  rcases Nat.lt_or_gt_of_ne e3 with s | s
  · exact .srt A h2 r s hc
  · exact .s34 e3 (.srt A h2 h3 s hp)
theorem C4.two {n K p a b c : Nat} {xy : Nat → Int × Int} (A : AgrN n xy K) (h3 : b < c) (hp : p < n) (ha : a < n) (hc : c < n) (e1 : p ≠ a) (e2 : p ≠ b) (e3 : p ≠ c) (e4 : a ≠ b) (e5 : a ≠ c) : C4 K xy p a b c := by
  rcases Nat.lt_or_gt_of_ne e4 with q | q
  · exact .one A q h3 hp hc e1 e2 e3
  refine .s23 e4 ?_
  rcases Nat.lt_or_gt_of_ne e5 with r | r
  · exact .one A q r hp hc e2 e1 e3
  · exact .s34 e5 (.one A h3 r hp ha e2 e3 e1)
theorem C4.all {n K p a b c : Nat} {xy : Nat → Int × Int} (A : AgrN n xy K) (hp : p < n) (ha : a < n) (hb : b < n) (hc : c < n) (e1 : p ≠ a) (e2 : p ≠ b) (e3 : p ≠ c) (e4 : a ≠ b) (e5 : a ≠ c) (e6 : b ≠ c) : C4 K xy p a b c := by
  rcases Nat.lt_or_gt_of_ne e6 with q | q
  · exact .two A q hp ha hc e1 e2 e3 e4 e5
  · exact .s34 e6 (.two A q hp ha hb e1 e3 e2 e5 e4)
theorem s4_sound {n K p a b c s : Nat} {xy : Nat → Int × Int} (A : AgrN n xy K) (h : s4 n K p a b c = some s) : s = sg (ic xy p a b c) := by
  unfold s4 at h
  split at h
  · rename_i hb
    simp only [Bool.and_eq_true] at hb
    split at h
    · rename_i he
      cases h
      simp only [Bool.or_eq_true] at he
      rw [ic_same xy p a b c (by
        rcases he with ((((he | he) | he) | he) | he) | he <;> have := Nat.eq_of_beq_eq_true he <;> simp [this])]
      rfl
    · rename_i he
      cases h
      simp only [Bool.or_eq_false_iff] at he
      exact C4.all A (by simpa [Nat.blt_eq] using hb.1.1.1) (by simpa [Nat.blt_eq] using hb.1.1.2) (by simpa [Nat.blt_eq] using hb.1.2) (by simpa [Nat.blt_eq] using hb.2)
        (Nat.ne_of_beq_eq_false he.1.1.1.1.1) (Nat.ne_of_beq_eq_false he.1.1.1.1.2) (Nat.ne_of_beq_eq_false he.1.1.1.2) (Nat.ne_of_beq_eq_false he.1.1.2) (Nat.ne_of_beq_eq_false he.1.2) (Nat.ne_of_beq_eq_false he.2)
  · cases h
theorem qK_sound {n K : Nat} {xy : Nat → Int × Int} (A : AgrN n xy K) {q : Qry} {b : Bool} (h : qK n K q = some b) : truth xy q = b := by
  cases q with
  | ccw i j k =>
    unfold qK at h
    dsimp only at h
    split at h
    · rename_i s hs; cases h; rw [s3_sound A hs, sg_pos]; rfl
    · cases h
  | cw i j k =>
    unfold qK at h
    dsimp only at h
    split at h
    · rename_i s hs; cases h; rw [s3_sound A hs, sg_neg]; rfl
    · cases h
  | inn p a b c =>
    unfold qK at h
    dsimp only at h
    split at h
    · rename_i s hs; cases h; rw [s4_sound A hs, sg_pos]; rfl
    · cases h
theorem runK_sound {α : Type} {n K : Nat} {xy : Nat → Int × Int} (A : AgrN n xy K) : ∀ (t : DT α) {x : α}, runK n K t = some x → t.run (truth xy) = some x
  | .ret a, x, h => h
  | .fail, x, h => by cases h
  | .ask q k, x, h => by
    unfold runK at h
    split at h
    · rename_i hq; have := qK_sound A hq; unfold DT.run; rw [this]; exact runK_sound A _ h
    · rename_i hq; have := qK_sound A hq; unfold DT.run; rw [this]; exact runK_sound A _ h
    · cases h
theorem q4_ok {R : Nat → Nat} {w x y z K : Nat} (A : Agr R K) (h : k4 (R w) (R x) (R y) (R z) = true) : q4 w x y z K = true := by
  unfold q4
  rcases A w with e1 | e1
  · exact k4_zero (dg_lt ..) (dg_lt ..) (dg_lt ..) (dg_lt ..) (.inl e1)
  rcases A x with e2 | e2
  · exact k4_zero (dg_lt ..) (dg_lt ..) (dg_lt ..) (dg_lt ..) (.inr (.inl e2))
  rcases A y with e3 | e3
  · exact k4_zero (dg_lt ..) (dg_lt ..) (dg_lt ..) (dg_lt ..) (.inr (.inr (.inl e3)))
  rcases A z with e4 | e4
  · exact k4_zero (dg_lt ..) (dg_lt ..) (dg_lt ..) (dg_lt ..) (.inr (.inr (.inr e4)))
  rw [e1, e2, e3, e4]; exact h
theorem k3_ok {R : Nat → Nat} {s a b c K : Nat} {f g h : Nat → Nat} (hf : f = id ∨ f = ng) (hg : g = id ∨ g = ng) (hh : h = id ∨ h = ng) (A : Agr R K) (q : k3 (R s) (f (R a)) (g (R b)) (h (R c)) = true) : k3 (dg K s) (f (dg K a)) (g (dg K b)) (h (dg K c)) = true := by
  have lt : ∀ {f : Nat → Nat} {x : Nat}, (f = id ∨ f = ng) → x < 4 → f x < 4 := by
    rintro f x (rfl | rfl) hx
    · exact hx
    · exact ng_lt x
  have ze : ∀ {f : Nat → Nat}, (f = id ∨ f = ng) → f 0 = 0 := by
    rintro f (rfl | rfl) <;> rfl
  rcases A s with e1 | e1
  · exact k3_zero (dg_lt ..) (lt hf (dg_lt ..)) (lt hg (dg_lt ..)) (lt hh (dg_lt ..)) (.inl e1)
  rcases A a with e2 | e2
  · exact k3_zero (dg_lt ..) (lt hf (dg_lt ..)) (lt hg (dg_lt ..)) (lt hh (dg_lt ..)) (.inr (.inl (by rw [e2, ze hf])))
  rcases A b with e3 | e3
  · exact k3_zero (dg_lt ..) (lt hf (dg_lt ..)) (lt hg (dg_lt ..)) (lt hh (dg_lt ..)) (.inr (.inr (.inl (by rw [e3, ze hg]))))
  rcases A c with e4 | e4
  · exact k3_zero (dg_lt ..) (lt hf (dg_lt ..)) (lt hg (dg_lt ..)) (lt hh (dg_lt ..)) (.inr (.inr (.inr (by rw [e4, ze hh]))))
  rw [e1, e2, e3, e4]; exact q
theorem qS_ok {R : Nat → Nat} {s w x y z K : Nat} (A : Agr R K) (h : k3 (R s) (R w) (ng (R x)) (R y) = true ∧ k3 (R s) (R w) (ng (R x)) (ng (R z)) = true ∧ k3 (R s) (R w) (R y) (ng (R z)) = true ∧ k3 (R s) (ng (R x)) (R y) (ng (R z)) = true) : qS s w x y z K = true := by
  obtain ⟨h1, h2, h3, h4⟩ := h
  unfold qS
  simp only [Bool.and_eq_true]
  exact ⟨⟨⟨k3_ok (f := id) (g := ng) (h := id) (.inl rfl) (.inr rfl) (.inl rfl) A h1, k3_ok (f := id) (g := ng) (h := ng) (.inl rfl) (.inr rfl) (.inr rfl) A h2⟩, k3_ok (f := id) (g := id) (h := ng) (.inl rfl) (.inl rfl) (.inr rfl) A h3⟩, k3_ok (f := ng) (g := id) (h := ng) (.inr rfl) (.inl rfl) (.inr rfl) A h4⟩
theorem sw_lt {b : Bool} {x : Nat} (h : x < 4) : sw b x < 4 := by cases b; exact h; exact ng_lt x
theorem sw_zero (b : Bool) : sw b 0 = 0 := by cases b <;> rfl
theorem gp_ok {R : Nat → Nat} {sa sb sc ta tb tc K : Nat} {fa fb fc : Bool} (A : Agr R K) (h : kb (sw fa (ml (R sa) (R ta))) (sw fb (ml (R sb) (R tb))) (sw fc (ml (R sc) (R tc))) = true) : gp sa sb sc fa fb fc ta tb tc K = true := by
  unfold gp
  have lt : ∀ {b : Bool} {c d : Nat}, sw b (ml (dg K c) (dg K d)) < 4 := sw_lt (ml_lt _ (dg_lt ..) _ (dg_lt ..))
  have ze : ∀ {b : Bool} {c d : Nat}, dg K c = 0 ∨ dg K d = 0 → sw b (ml (dg K c) (dg K d)) = 0 := fun h => by rw [ml_zero _ (dg_lt ..) _ (dg_lt ..) h, sw_zero]
  rcases A sa with e1 | e1
  · exact kb_zero _ lt _ lt _ lt (.inl (ze (.inl e1)))
  rcases A ta with e2 | e2
  · exact kb_zero _ lt _ lt _ lt (.inl (ze (.inr e2)))
  rcases A sb with e3 | e3
  · exact kb_zero _ lt _ lt _ lt (.inr (.inl (ze (.inl e3))))
  rcases A tb with e4 | e4
  · exact kb_zero _ lt _ lt _ lt (.inr (.inl (ze (.inr e4))))
  rcases A sc with e5 | e5
  · exact kb_zero _ lt _ lt _ lt (.inr (.inr (ze (.inl e5))))
  rcases A tc with e6 | e6
  · exact kb_zero _ lt _ lt _ lt (.inr (.inr (ze (.inr e6))))
  rw [e1, e2, e3, e4, e5, e6]; exact h
theorem both_ok {f g : Nat → Bool} {K : Nat} (h : f K = true) (h' : g K = true) : both f g K = true := by unfold both; rw [h, h']; rfl
/-- the first n points stand in order -/
noncomputable def Srt (n : Nat) (xy : Nat → Int × Int) : Prop := ∀ i j, i < j → j < n → Lx (xy i) (xy j)
section
variable {xy : Nat → Int × Int} {K : Nat}
theorem v4_0123 (S : Srt 4 xy) (A : Agr (Rl xy) K) : q4 7 11 13 14 K = true := q4_ok A (cr_four (S 0 1 (by decide) (by decide)) (S 1 2 (by decide) (by decide)) (S 2 3 (by decide) (by decide)))
theorem vS_0123 (S : Srt 4 xy) (A : Agr (Rl xy) K) : qS 15 7 11 13 14 K = true := qS_ok A (ic_four (S 0 1 (by decide) (by decide)) (S 1 2 (by decide) (by decide)) (S 2 3 (by decide) (by decide)))
theorem v4_0124 (S : Srt 5 xy) (A : Agr (Rl xy) K) : q4 7 19 21 22 K = true := q4_ok A (cr_four (S 0 1 (by decide) (by decide)) (S 1 2 (by decide) (by decide)) (S 2 4 (by decide) (by decide)))
theorem vS_0124 (S : Srt 5 xy) (A : Agr (Rl xy) K) : qS 23 7 19 21 22 K = true := qS_ok A (ic_four (S 0 1 (by decide) (by decide)) (S 1 2 (by decide) (by decide)) (S 2 4 (by decide) (by decide)))
theorem v4_0134 (S : Srt 5 xy) (A : Agr (Rl xy) K) : q4 11 19 25 26 K = true := q4_ok A (cr_four (S 0 1 (by decide) (by decide)) (S 1 3 (by decide) (by decide)) (S 3 4 (by decide) (by decide)))
theorem vS_0134 (S : Srt 5 xy) (A : Agr (Rl xy) K) : qS 27 11 19 25 26 K = true := qS_ok A (ic_four (S 0 1 (by decide) (by decide)) (S 1 3 (by decide) (by decide)) (S 3 4 (by decide) (by decide)))
theorem v4_0234 (S : Srt 5 xy) (A : Agr (Rl xy) K) : q4 13 21 25 28 K = true := q4_ok A (cr_four (S 0 2 (by decide) (by decide)) (S 2 3 (by decide) (by decide)) (S 3 4 (by decide) (by decide)))
theorem vS_0234 (S : Srt 5 xy) (A : Agr (Rl xy) K) : qS 29 13 21 25 28 K = true := qS_ok A (ic_four (S 0 2 (by decide) (by decide)) (S 2 3 (by decide) (by decide)) (S 3 4 (by decide) (by decide)))
theorem v4_1234 (S : Srt 5 xy) (A : Agr (Rl xy) K) : q4 14 22 26 28 K = true := q4_ok A (cr_four (S 1 2 (by decide) (by decide)) (S 2 3 (by decide) (by decide)) (S 3 4 (by decide) (by decide)))
theorem vS_1234 (S : Srt 5 xy) (A : Agr (Rl xy) K) : qS 30 14 22 26 28 K = true := qS_ok A (ic_four (S 1 2 (by decide) (by decide)) (S 2 3 (by decide) (by decide)) (S 3 4 (by decide) (by decide)))
theorem vg_01 (A : Agr (Rl xy) K) : gp 27 23 15 false true false 7 11 19 K = true := by
  refine gp_ok A ?_
  have h := cr_gp xy 0 1 2 3 4
  rw [ic_34 xy 0 1 2 4] at h
  simp only [Int.neg_neg, Int.neg_mul, Int.mul_neg] at h
  simp only [Rl, sg_mul, sw_sg, if_true, if_false, Bool.false_eq_true]
  refine kb_real ?_
  (first | k_extra "nl9" | omega)
theorem vg_02 (A : Agr (Rl xy) K) : gp 29 23 15 false true false 7 13 21 K = true := by
  refine gp_ok A ?_
  have h := cr_gp xy 0 2 1 3 4
  rw [cr_23 xy 0 1 2, ic_34 xy 0 2 1 4, ic_23 xy 0 1 2 4, ic_23 xy 0 1 2 3] at h
  simp only [Int.neg_neg, Int.neg_mul, Int.mul_neg] at h
  simp only [Rl, sg_mul, sw_sg, if_true, if_false, Bool.false_eq_true]
  refine kb_real ?_
  (first | k_extra "nl9" | omega)
theorem vg_03 (A : Agr (Rl xy) K) : gp 29 27 15 false true false 11 13 25 K = true := by
  refine gp_ok A ?_
  have h := cr_gp xy 0 3 1 2 4
  rw [ic_23 xy 0 2 3 4, cr_23 xy 0 1 3, ic_34 xy 0 3 1 4, ic_23 xy 0 1 3 4, cr_23 xy 0 2 3, ic_23 xy 0 1 3 2, ic_34 xy 0 1 2 3] at h
  simp only [Int.neg_neg, Int.neg_mul, Int.mul_neg] at h
  simp only [Rl, sg_mul, sw_sg, if_true, if_false, Bool.false_eq_true]
  refine kb_real ?_
  (first | k_extra "nl9" | omega)
theorem vg_04 (A : Agr (Rl xy) K) : gp 29 27 23 false true false 19 21 25 K = true := by
  refine gp_ok A ?_
  have h := cr_gp xy 0 4 1 2 3
  rw [ic_23 xy 0 2 4 3, ic_34 xy 0 2 3 4, cr_23 xy 0 1 4, ic_23 xy 0 3 4 1, ic_34 xy 0 3 1 4, ic_23 xy 0 1 3 4, cr_23 xy 0 2 4, ic_23 xy 0 1 4 2, ic_34 xy 0 1 2 4, cr_23 xy 0 3 4] at h
  simp only [Int.neg_neg, Int.neg_mul, Int.mul_neg] at h
  simp only [Rl, sg_mul, sw_sg, if_true, if_false, Bool.false_eq_true]
  refine kb_real ?_
  (first | k_extra "nl9" | omega)
theorem vg_12 (A : Agr (Rl xy) K) : gp 30 23 15 false true false 7 14 22 K = true := by
  refine gp_ok A ?_
  have h := cr_gp xy 1 2 0 3 4
  rw [cr_23 xy 1 0 2, cr_12 xy 0 1 2, ic_34 xy 1 2 0 4, ic_23 xy 1 0 2 4, ic_12 xy 0 1 2 4, ic_23 xy 1 0 2 3, ic_12 xy 0 1 2 3] at h
  simp only [Int.neg_neg, Int.neg_mul, Int.mul_neg] at h
  simp only [Rl, sg_mul, sw_sg, if_true, if_false, Bool.false_eq_true]
  refine kb_real ?_
  (first | k_extra "nl9" | omega)
theorem vg_13 (A : Agr (Rl xy) K) : gp 30 27 15 false true false 11 14 26 K = true := by
  refine gp_ok A ?_
  have h := cr_gp xy 1 3 0 2 4
  rw [ic_23 xy 1 2 3 4, cr_23 xy 1 0 3, cr_12 xy 0 1 3, ic_34 xy 1 3 0 4, ic_23 xy 1 0 3 4, ic_12 xy 0 1 3 4, cr_23 xy 1 2 3, ic_23 xy 1 0 3 2, ic_12 xy 0 1 3 2, ic_34 xy 0 1 2 3] at h
  simp only [Int.neg_neg, Int.neg_mul, Int.mul_neg] at h
  simp only [Rl, sg_mul, sw_sg, if_true, if_false, Bool.false_eq_true]
  refine kb_real ?_
  (first | k_extra "nl9" | omega)
theorem vg_14 (A : Agr (Rl xy) K) : gp 30 27 23 false true false 19 22 26 K = true := by
  refine gp_ok A ?_
  have h := cr_gp xy 1 4 0 2 3
  rw [ic_23 xy 1 2 4 3, ic_34 xy 1 2 3 4, cr_23 xy 1 0 4, cr_12 xy 0 1 4, ic_23 xy 1 3 4 0, ic_34 xy 1 3 0 4, ic_23 xy 1 0 3 4, ic_12 xy 0 1 3 4, cr_23 xy 1 2 4, ic_23 xy 1 0 4 2, ic_12 xy 0 1 4 2, ic_34 xy 0 1 2 4, cr_23 xy 1 3 4] at h
  simp only [Int.neg_neg, Int.neg_mul, Int.mul_neg] at h
  simp only [Rl, sg_mul, sw_sg, if_true, if_false, Bool.false_eq_true]
  refine kb_real ?_
  (first | k_extra "nl9" | omega)
theorem vg_23 (A : Agr (Rl xy) K) : gp 30 29 15 false true false 13 14 28 K = true := by
  refine gp_ok A ?_
  have h := cr_gp xy 2 3 0 1 4
  rw [ic_23 xy 2 1 3 4, ic_12 xy 1 2 3 4, cr_23 xy 2 0 3, cr_12 xy 0 2 3, ic_34 xy 2 3 0 4, ic_23 xy 2 0 3 4, ic_12 xy 0 2 3 4, cr_23 xy 2 1 3, cr_12 xy 1 2 3, ic_23 xy 2 0 3 1, ic_12 xy 0 2 3 1, ic_34 xy 0 2 1 3, ic_23 xy 0 1 2 3] at h
  simp only [Int.neg_neg, Int.neg_mul, Int.mul_neg] at h
  simp only [Rl, sg_mul, sw_sg, if_true, if_false, Bool.false_eq_true]
  refine kb_real ?_
  (first | k_extra "nl9" | omega)
theorem vg_24 (A : Agr (Rl xy) K) : gp 30 29 23 false true false 21 22 28 K = true := by
  refine gp_ok A ?_
  have h := cr_gp xy 2 4 0 1 3
  rw [ic_23 xy 2 1 4 3, ic_12 xy 1 2 4 3, ic_34 xy 1 2 3 4, cr_23 xy 2 0 4, cr_12 xy 0 2 4, ic_23 xy 2 3 4 0, ic_34 xy 2 3 0 4, ic_23 xy 2 0 3 4, ic_12 xy 0 2 3 4, cr_23 xy 2 1 4, cr_12 xy 1 2 4, ic_23 xy 2 0 4 1, ic_12 xy 0 2 4 1, ic_34 xy 0 2 1 4, ic_23 xy 0 1 2 4, cr_23 xy 2 3 4] at h
  simp only [Int.neg_neg, Int.neg_mul, Int.mul_neg] at h
  simp only [Rl, sg_mul, sw_sg, if_true, if_false, Bool.false_eq_true]
  refine kb_real ?_
  (first | k_extra "nl9" | omega)
theorem vg_34 (A : Agr (Rl xy) K) : gp 30 29 27 false true false 25 26 28 K = true := by
  refine gp_ok A ?_
  have h := cr_gp xy 3 4 0 1 2
  rw [ic_23 xy 3 1 4 2, ic_12 xy 1 3 4 2, ic_34 xy 1 3 2 4, ic_23 xy 1 2 3 4, cr_23 xy 3 0 4, cr_12 xy 0 3 4, ic_23 xy 3 2 4 0, ic_12 xy 2 3 4 0, ic_34 xy 2 3 0 4, ic_23 xy 2 0 3 4, ic_12 xy 0 2 3 4, cr_23 xy 3 1 4, cr_12 xy 1 3 4, ic_23 xy 3 0 4 1, ic_12 xy 0 3 4 1, ic_34 xy 0 3 1 4, ic_23 xy 0 1 3 4, cr_23 xy 3 2 4, cr_12 xy 2 3 4] at h
  simp only [Int.neg_neg, Int.neg_mul, Int.mul_neg] at h
  simp only [Rl, sg_mul, sw_sg, if_true, if_false, Bool.false_eq_true]
  refine kb_real ?_
  (first | k_extra "nl9" | omega)
theorem v_yes : yes K = true := rfl
end
noncomputable def ChL (n : Nat) (xy : Nat → Int × Int) (st : List ERec) : Nat → Nat → Prop
  | 0, _ => False
  | f + 1, e => ∃ a b, org st e = some a ∧ dst st e = some b ∧ org st (lfe st e) = some b ∧ a < n ∧ b < n ∧ (∀ p, p < n → cr xy a b p ≤ 0) ∧ (a ≠ 0 → b < a ∧ ChL n xy st f (lfe st e))
noncomputable def ChR (n : Nat) (xy : Nat → Int × Int) (st : List ERec) : Nat → Nat → Prop
  | 0, _ => False
  | f + 1, e => ∃ a b, org st e = some a ∧ dst st e = some b ∧ org st (rfe st e) = some b ∧ dst st (opp st e) = some a ∧ a < n ∧ b < n ∧ (∀ p, p < n → 0 ≤ cr xy a b p) ∧ (a + 1 ≠ n → a < b ∧ ChR n xy st f (rfe st e))
theorem isO_t {o : Option Nat} {t : Nat} (h : isO o t = true) : o = some t := by
  cases o with
  | none => cases h
  | some s => exact congrArg some (Nat.eq_of_beq_eq_true h)
theorem allP_t {f : Nat → Bool} : ∀ {n : Nat}, allP n f = true → ∀ p, p < n → f p = true
  | 0, _, p, hp => absurd hp (Nat.not_lt_zero p)
  | n + 1, h, p, hp => by
    unfold allP at h
    rw [Bool.and_eq_true] at h
    rcases Nat.lt_or_ge p n with h' | h'
    · exact allP_t h.2 p h'
    · cases Nat.le_antisymm (Nat.le_of_lt_succ hp) h'; exact h.1
theorem s3_lt {n K i j k s : Nat} (h : s3 n K i j k = some s) : i < n ∧ j < n ∧ k < n := by
  unfold s3 at h
  split at h
  · rename_i hb
    simp only [Bool.and_eq_true] at hb
    exact ⟨by simpa [Nat.blt_eq] using hb.1.1, by simpa [Nat.blt_eq] using hb.1.2, by simpa [Nat.blt_eq] using hb.2⟩
  · cases h
theorem ne3_t {n K a b p t : Nat} {xy : Nat → Int × Int} (A : AgrN n xy K) (h : ne3 (s3 n K a b p) t = true) : (a < n ∧ b < n) ∧ sg (cr xy a b p) ≠ t := by
  cases hs : s3 n K a b p with
  | none => rw [hs] at h; cases h
  | some s =>
    rw [hs] at h
    have e := s3_sound A hs
    refine ⟨⟨(s3_lt hs).1, (s3_lt hs).2.1⟩, fun z => ?_⟩
    rw [← e] at z
    subst z
    unfold ne3 at h
    simp at h
theorem hullL_t {n K : Nat} {xy : Nat → Int × Int} {st : List ERec} (hn : 0 < n) (A : AgrN n xy K) : ∀ (f e : Nat), hullL K n st f e = true → ChL n xy st f e
  | 0, _, h => by cases h
  | f + 1, e, h => by
    unfold hullL at h
    split at h
    · rename_i a b h1 h2
      simp only [Bool.and_eq_true] at h
      obtain ⟨⟨h3, h4⟩, h5⟩ := h
      have h6 := fun p hp => ne3_t A (allP_t h4 p hp)
      refine ⟨a, b, h1, h2, isO_t h3, (h6 0 hn).1.1, (h6 0 hn).1.2, fun p hp => ?_, fun ha => ?_⟩
      · have := (h6 p hp).2
        rcases sg_cases (cr xy a b p) with ⟨e1, _⟩ | ⟨_, e2⟩ | ⟨_, e2⟩
        · exact absurd e1 this
        · exact Int.le_of_lt e2
        · rw [e2]; exact Int.le_refl 0
      · rw [beq_f ha] at h5
        simp only [Bool.and_eq_true] at h5
        exact ⟨by simpa [Nat.blt_eq] using h5.1, hullL_t hn A f _ h5.2⟩
    · cases h
theorem hullR_t {n K : Nat} {xy : Nat → Int × Int} {st : List ERec} (hn : 0 < n) (A : AgrN n xy K) : ∀ (f e : Nat), hullR K n st f e = true → ChR n xy st f e
  | 0, _, h => by cases h
  | f + 1, e, h => by
    unfold hullR at h
    split at h
    · rename_i a b h1 h2
      simp only [Bool.and_eq_true] at h
      obtain ⟨⟨⟨h3, h3'⟩, h4⟩, h5⟩ := h
      have h6 := fun p hp => ne3_t A (allP_t h4 p hp)
      refine ⟨a, b, h1, h2, isO_t h3, isO_t h3', (h6 0 hn).1.1, (h6 0 hn).1.2, fun p hp => ?_, fun ha => ?_⟩
      · have := (h6 p hp).2
        rcases sg_cases (cr xy a b p) with ⟨_, e2⟩ | ⟨e1, _⟩ | ⟨_, e2⟩
        · exact Int.le_of_lt e2
        · exact absurd e1 this
        · rw [e2]; exact Int.le_refl 0
      · rw [show Nat.beq (Nat.add a 1) n = false from beq_f ha] at h5
        simp only [Bool.and_eq_true] at h5
        exact ⟨by simpa [Nat.blt_eq] using h5.1, hullR_t hn A f _ h5.2⟩
    · cases h
noncomputable def Good (n : Nat) (xy : Nat → Int × Int) (x : List ERec × Nat × Nat) : Prop :=
  org x.1 x.2.2 = some (n - 1) ∧ org x.1 x.2.1 = some 0 ∧ ChL n xy x.1 n x.2.2 ∧ ChR n xy x.1 n x.2.1
theorem leafK_t {n K : Nat} {xy : Nat → Int × Int} (hn : 0 < n) (A : AgrN n xy K) (h : leafK n K = true) : ∃ x, (delD n).run (truth xy) = some x ∧ Good n xy x := by
  unfold leafK at h
  split at h
  · rename_i x hx
    unfold good at h
    simp only [Bool.and_eq_true] at h
    exact ⟨x, runK_sound A _ hx, isO_t h.1.1.1, isO_t h.1.1.2, hullL_t hn A _ _ h.1.2, hullR_t hn A _ _ h.2⟩
  · cases h
theorem ck2 : leafK 2 0 = true := by decide +kernel
theorem ck3 : chk (leafK 3) (steps 3) 0 = true := by decide +kernel
theorem ck4 : chk (leafK 4) (steps 4) 0 = true := by decide +kernel
theorem chk_c {l c r K} (x : chk l r (setK K c 1) = true) (y : chk l r (setK K c 2) = true) (z : chk l r (setK K c 3) = true) : chk l ((c, yes) :: r) K = true := by
  simp only [chk, yes, x, y, z]; rfl
theorem ck5a : chk (leafK 5) (steps 5).tail (setK 0 7 1) = true := by decide +kernel
theorem ck5b : chk (leafK 5) (steps 5).tail (setK 0 7 2) = true := by decide +kernel
theorem ck5c : chk (leafK 5) (steps 5).tail (setK 0 7 3) = true := by decide +kernel
theorem ck5 : chk (leafK 5) (steps 5) 0 = true := chk_c ck5a ck5b ck5c
theorem dg_z (c : Nat) : dg 0 c = 0 := by unfold dg; simp
theorem agr_z {R : Nat → Nat} : Agr R 0 := fun c => .inl (dg_z c)
theorem AgrN.of2 {xy : Nat → Int × Int} {K : Nat} : AgrN 2 xy K := ⟨fun i j k h1 h2 h3 => by (first | k_extra "nl9" | omega), fun i j k l h1 h2 h3 h4 => by (first | k_extra "nl9" | omega)⟩
theorem AgrN.of3 {xy : Nat → Int × Int} {K : Nat} (h : ∀ p ∈ steps 3, dg K p.1 = Rl xy p.1) : AgrN 3 xy K := by
  have two : ∀ {i j k n : Nat}, i < j → j < k → k < n + 3 → j ≤ n + 1 := fun h1 h2 h3 => Nat.le_of_lt_succ (Nat.lt_of_lt_of_le h2 (Nat.le_of_lt_succ h3))
  refine ⟨fun i j k h1 h2 h3 => ?_, fun i j k l h1 h2 h3 h4 => absurd h1 (Nat.not_lt.mpr (Nat.le_trans (Nat.le_of_lt_succ (Nat.lt_of_lt_of_le h2 (Nat.le_of_lt_succ (Nat.lt_of_lt_of_le h3 (Nat.le_of_lt_succ h4))))) (Nat.zero_le i)))⟩
  have hj : j ≤ 1 := two (n := 0) h1 h2 h3
  obtain rfl : i = 0 := Nat.le_zero.mp (Nat.le_of_lt_succ (Nat.lt_of_lt_of_le h1 hj))
  obtain rfl : j = 1 := Nat.le_antisymm hj h1
  obtain rfl : k = 2 := Nat.le_antisymm (Nat.le_of_lt_succ h3) h2
  exact h (7, yes) (.head _)
theorem memG {α β : Type} {l : List (α × β)} {a : α} (h : a ∈ l.map (·.1)) : ∃ b, (a, b) ∈ l := by
  obtain ⟨x, hx, rfl⟩ := List.mem_map.mp h; exact ⟨x.2, hx⟩
noncomputable def tri (n : Nat) (l : List (Nat × Nat × Nat)) : Bool := (List.range n).all fun k => (List.range k).all fun j => (List.range j).all fun i => l.contains (i, j, k)
noncomputable def qua (n : Nat) (l : List (Nat × Nat × Nat × Nat)) : Bool := (List.range n).all fun m => (List.range m).all fun k => (List.range k).all fun j => (List.range j).all fun i => l.contains (i, j, k, m)
theorem tri_ok {n : Nat} {l : List (Nat × Nat × Nat)} (h : tri n l = true) {i j k : Nat} (h1 : i < j) (h2 : j < k) (h3 : k < n) : (i, j, k) ∈ l :=
  List.contains_iff_mem.mp (List.all_eq_true.mp (List.all_eq_true.mp (List.all_eq_true.mp h k (List.mem_range.mpr h3)) j (List.mem_range.mpr h2)) i (List.mem_range.mpr h1))
theorem qua_ok {n : Nat} {l : List (Nat × Nat × Nat × Nat)} (h : qua n l = true) {i j k m : Nat} (h1 : i < j) (h2 : j < k) (h3 : k < m) (h4 : m < n) : (i, j, k, m) ∈ l :=
  List.contains_iff_mem.mp (List.all_eq_true.mp (List.all_eq_true.mp (List.all_eq_true.mp (List.all_eq_true.mp h m (List.mem_range.mpr h4)) k (List.mem_range.mpr h3)) j (List.mem_range.mpr h2)) i (List.mem_range.mpr h1))
noncomputable abbrev t3ok (xy : Nat → Int × Int) (K : Nat) (t : Nat × Nat × Nat) : Prop := dg K (Nat.add (pw t.1) (Nat.add (pw t.2.1) (pw t.2.2))) = sg (cr xy t.1 t.2.1 t.2.2)
noncomputable abbrev t4ok (xy : Nat → Int × Int) (K : Nat) (t : Nat × Nat × Nat × Nat) : Prop := dg K (Nat.add (pw t.1) (Nat.add (pw t.2.1) (Nat.add (pw t.2.2.1) (pw t.2.2.2)))) = sg (ic xy t.1 t.2.1 t.2.2.1 t.2.2.2)
theorem all_c {α : Type} {P : α → Prop} {a : α} {l : List α} (h : P a) (t : ∀ x ∈ l, P x) : ∀ x ∈ a :: l, P x := List.forall_mem_cons.mpr ⟨h, t⟩
theorem all_n {α : Type} {P : α → Prop} : ∀ x ∈ ([] : List α), P x := fun _ h => absurd h List.not_mem_nil
theorem AgrN.of4 {xy : Nat → Int × Int} {K : Nat} (h : ∀ p ∈ steps 4, dg K p.1 = Rl xy p.1) : AgrN 4 xy K := by
  have g : ∀ c, c ∈ [7, 11, 13, 14, 15] → dg K c = Rl xy c := fun c hc => by
    obtain ⟨b, hb⟩ := memG (l := steps 4) (a := c) hc
    exact h _ hb
  have a3 : ∀ t ∈ [(0, 1, 2), (0, 1, 3), (0, 2, 3), (1, 2, 3)], t3ok xy K t := all_c (g 7 (by decide)) (all_c (g 11 (by decide)) (all_c (g 13 (by decide)) (all_c (g 14 (by decide)) all_n)))
  have a4 : ∀ t ∈ [(0, 1, 2, 3)], t4ok xy K t := all_c (g 15 (by decide)) all_n
  exact ⟨fun i j k h1 h2 h3 => a3 _ (tri_ok (by decide +kernel) h1 h2 h3), fun i j k l h1 h2 h3 h4 => a4 _ (qua_ok (by decide +kernel) h1 h2 h3 h4)⟩
theorem AgrN.of5 {xy : Nat → Int × Int} {K : Nat} (h : ∀ p ∈ steps 5, dg K p.1 = Rl xy p.1) : AgrN 5 xy K := by
  have g : ∀ c, c ∈ [7, 11, 13, 14, 19, 21, 22, 25, 26, 28, 15, 23, 27, 29, 30] → dg K c = Rl xy c := fun c hc => by
    obtain ⟨b, hb⟩ := memG (l := steps 5) (a := c) hc
    exact h _ hb
  have a3 : ∀ t ∈ [(0, 1, 2), (0, 1, 3), (0, 2, 3), (1, 2, 3), (0, 1, 4), (0, 2, 4), (1, 2, 4), (0, 3, 4), (1, 3, 4), (2, 3, 4)], t3ok xy K t :=
    all_c (g 7 (by decide)) (all_c (g 11 (by decide)) (all_c (g 13 (by decide)) (all_c (g 14 (by decide)) (all_c (g 19 (by decide)) (all_c (g 21 (by decide)) (all_c (g 22 (by decide)) (all_c (g 25 (by decide)) (all_c (g 26 (by decide)) (all_c (g 28 (by decide)) all_n)))))))))
  have a4 : ∀ t ∈ [(0, 1, 2, 3), (0, 1, 2, 4), (0, 1, 3, 4), (0, 2, 3, 4), (1, 2, 3, 4)], t4ok xy K t :=
    all_c (g 15 (by decide)) (all_c (g 23 (by decide)) (all_c (g 27 (by decide)) (all_c (g 29 (by decide)) (all_c (g 30 (by decide)) all_n))))
  exact ⟨fun i j k h1 h2 h3 => a3 _ (tri_ok (by decide +kernel) h1 h2 h3), fun i j k l h1 h2 h3 h4 => a4 _ (qua_ok (by decide +kernel) h1 h2 h3 h4)⟩
theorem Srt.le {n m : Nat} {xy : Nat → Int × Int} (S : Srt n xy) (h : m ≤ n) : Srt m xy := fun i j a b => S i j a (Nat.lt_of_lt_of_le b h)
theorem hull2 {xy : Nat → Int × Int} : ∃ x, (delD 2).run (truth xy) = some x ∧ Good 2 xy x := leafK_t (by decide) AgrN.of2 ck2
theorem hull3 {xy : Nat → Int × Int} : ∃ x, (delD 3).run (truth xy) = some x ∧ Good 3 xy x := by
  obtain ⟨K, l, g, _⟩ := chk_sound (Rl_range xy) (steps 3) 0 (fun p hp K A => by rcases List.mem_cons.mp hp with rfl | hp; rfl; cases hp) (by decide) (fun p _ => dg_z _) agr_z ck3
  exact leafK_t (by decide) (AgrN.of3 g) l
theorem hull4 {xy : Nat → Int × Int} (S : Srt 4 xy) : ∃ x, (delD 4).run (truth xy) = some x ∧ Good 4 xy x := by
  obtain ⟨K, l, g, _⟩ := chk_sound (Rl_range xy) (steps 4) 0 (fun p hp K A => by
    simp only [steps, List.mem_cons, List.not_mem_nil, or_false] at hp
    rcases hp with rfl | rfl | rfl | rfl | rfl
    · rfl
    · rfl
    · rfl
    · exact v4_0123 S A
    · exact vS_0123 S A) (by decide) (fun p _ => dg_z _) agr_z ck4
  exact leafK_t (by decide) (AgrN.of4 g) l
theorem hull5 {xy : Nat → Int × Int} (S : Srt 5 xy) : ∃ x, (delD 5).run (truth xy) = some x ∧ Good 5 xy x := by
  obtain ⟨K, l, g, _⟩ := chk_sound (Rl_range xy) (steps 5) 0 (fun p hp K A => by
    simp only [steps, List.mem_cons, List.not_mem_nil, or_false] at hp
    rcases hp with rfl | rfl | rfl | rfl | rfl | rfl | rfl | rfl | rfl | rfl | rfl | rfl | rfl | rfl | rfl
    · rfl
    · rfl
    · rfl
    · exact v4_0123 (S.le (by decide)) A
    · rfl
    · rfl
    · exact v4_0124 S A
    · rfl
    · exact v4_0134 S A
    · exact both_ok (v4_0234 S A) (v4_1234 S A)
    · exact vS_0123 (S.le (by decide)) A
    · exact vS_0124 S A
    · exact both_ok (vS_0134 S A) (vg_01 A)
    · exact both_ok (vS_0234 S A) (both_ok (vg_02 A) (both_ok (vg_03 A) (vg_04 A)))
    · exact both_ok (vS_1234 S A) (both_ok (vg_12 A) (both_ok (vg_13 A) (both_ok (vg_14 A) (both_ok (vg_23 A) (both_ok (vg_24 A) (vg_34 A))))))) (by decide) (fun p _ => dg_z _) agr_z ck5
  exact leafK_t (by decide) (AgrN.of5 g) l
theorem sn1 {c x : Int} (e : c = -x) (h : c ≤ 0) : 0 ≤ x := by rw [e] at h; exact Int.nonneg_of_neg_nonpos h
theorem sn2 {c x : Int} (e : c = -x) (h : c < 0) : 0 < x := by rw [e] at h; exact Int.pos_of_neg_neg h
theorem sn3 {c x : Int} (e : c = -x) (h : 0 < x) : c < 0 := by rw [e]; exact Int.neg_neg_of_pos h
theorem sn4 {c x : Int} (e : c = -x) (h : 0 ≤ x) : c ≤ 0 := by rw [e]; exact Int.neg_nonpos_of_nonneg h
theorem sp1 {c x : Int} (e : c = x) (h : 0 ≤ c) : 0 ≤ x := by rw [e] at h; exact h
theorem sp2 {c x : Int} (e : c = x) (h : 0 < c) : 0 < x := by rw [e] at h; exact h
theorem sp3 {c x : Int} (e : c = x) (h : 0 < x) : 0 < c := by rw [e]; exact h
example : True := by
  k_with "nl9" => first | exact sn1 ‹_› ‹_› | exact sn1 ‹_› (Int.le_of_lt ‹_›) | exact sn2 ‹_› ‹_› | exact sn3 ‹_› ‹_› | exact sn4 ‹_› ‹_› | exact sn4 ‹_› (And.left ‹_›) | exact sp1 ‹_› ‹_› | exact sp1 ‹_› (Int.le_of_lt ‹_›) | exact sp2 ‹_› ‹_› | exact sp3 ‹_› ‹_› | exact .inl (sn2 ‹_› ‹_›) | exact .inr (sn2 ‹_› ‹_›) | exact .inl (sp2 ‹_› ‹_›) | exact .inr (sp2 ‹_› ‹_›)
  trivial
section
variable {xy : Nat → Int × Int}
theorem lt1 {a a' b p : Nat} (h1 : Lx (xy a) (xy a')) (h2 : Lx (xy a) (xy b)) (h3 : Lx (xy a) (xy p)) (q1 : cr xy a' a p ≤ 0) (q2 : 0 < cr xy a' a b) : cr xy b a p < 0 := by
  have e1 : cr xy a' a p = - (((xy a').1 - (xy a).1) * ((xy p).2 - (xy a).2) - ((xy p).1 - (xy a).1) * ((xy a').2 - (xy a).2)) := by unfold cr crs; grind
  have e2 : cr xy a' a b = ((xy b).1 - (xy a).1) * ((xy a').2 - (xy a).2) - ((xy a').1 - (xy a).1) * ((xy b).2 - (xy a).2) := by unfold cr crs; grind
  have e3 : cr xy b a p = - (((xy b).1 - (xy a).1) * ((xy p).2 - (xy a).2) - ((xy p).1 - (xy a).1) * ((xy b).2 - (xy a).2)) := by unfold cr crs; grind
  have t := hp_trans h2.hp h1.hp h3.hp (by (first | k_extra "nl9" | omega)) (by (first | k_extra "nl9" | omega))
  have := t.2 (by (first | k_extra "nl9" | omega))
  (first | k_extra "nl9" | omega)
theorem lt2 {a an b p : Nat} (h1 : Lx (xy an) (xy a)) (h2 : Lx (xy a) (xy b)) (h3 : Lx (xy p) (xy a)) (q1 : cr xy a an p ≤ 0) (q2 : cr xy a an b ≤ 0) : cr xy b a p ≤ 0 := by
  have e1 : cr xy a an p = - (((xy a).1 - (xy p).1) * ((xy a).2 - (xy an).2) - ((xy a).1 - (xy an).1) * ((xy a).2 - (xy p).2)) := by unfold cr crs; grind
  have e2 : cr xy a an b = - (((xy a).1 - (xy an).1) * ((xy b).2 - (xy a).2) - ((xy b).1 - (xy a).1) * ((xy a).2 - (xy an).2)) := by unfold cr crs; grind
  have e3 : cr xy b a p = - (((xy a).1 - (xy p).1) * ((xy b).2 - (xy a).2) - ((xy b).1 - (xy a).1) * ((xy a).2 - (xy p).2)) := by unfold cr crs; grind
  have t := hp_trans h3.hp h1.hp h2.hp (by (first | k_extra "nl9" | omega)) (by (first | k_extra "nl9" | omega))
  (first | k_extra "nl9" | omega)
theorem rt1 {a b b' q : Nat} (h1 : Lx (xy b') (xy b)) (h2 : Lx (xy a) (xy b)) (h3 : Lx (xy q) (xy b)) (q1 : 0 ≤ cr xy b' b q) (q2 : cr xy b' b a < 0) : cr xy b a q < 0 := by
  have e1 : cr xy b' b q = ((xy b).1 - (xy q).1) * ((xy b).2 - (xy b').2) - ((xy b).1 - (xy b').1) * ((xy b).2 - (xy q).2) := by unfold cr crs; grind
  have e2 : cr xy b' b a = - (((xy b).1 - (xy b').1) * ((xy b).2 - (xy a).2) - ((xy b).1 - (xy a).1) * ((xy b).2 - (xy b').2)) := by unfold cr crs; grind
  have e3 : cr xy b a q = - (((xy b).1 - (xy q).1) * ((xy b).2 - (xy a).2) - ((xy b).1 - (xy a).1) * ((xy b).2 - (xy q).2)) := by unfold cr crs; grind
  have t := hp_trans h3.hp h1.hp h2.hp (by (first | k_extra "nl9" | omega)) (by (first | k_extra "nl9" | omega))
  have := t.2 (by (first | k_extra "nl9" | omega))
  (first | k_extra "nl9" | omega)
theorem rt2 {a b bn q : Nat} (h1 : Lx (xy b) (xy bn)) (h2 : Lx (xy a) (xy b)) (h3 : Lx (xy b) (xy q)) (q1 : 0 ≤ cr xy b bn q) (q2 : 0 ≤ cr xy b bn a) : cr xy b a q ≤ 0 := by
  have e1 : cr xy b bn q = ((xy bn).1 - (xy b).1) * ((xy q).2 - (xy b).2) - ((xy q).1 - (xy b).1) * ((xy bn).2 - (xy b).2) := by unfold cr crs; grind
  have e2 : cr xy b bn a = ((xy b).1 - (xy a).1) * ((xy bn).2 - (xy b).2) - ((xy bn).1 - (xy b).1) * ((xy b).2 - (xy a).2) := by unfold cr crs; grind
  have e3 : cr xy b a q = - (((xy b).1 - (xy a).1) * ((xy q).2 - (xy b).2) - ((xy q).1 - (xy b).1) * ((xy b).2 - (xy a).2)) := by unfold cr crs; grind
  have t := hp_trans h2.hp h1.hp h3.hp (by (first | k_extra "nl9" | omega)) (by (first | k_extra "nl9" | omega))
  (first | k_extra "nl9" | omega)
/-- the first side's last edge cannot be seen -/
theorem la {a a' an b : Nat} (h1 : Lx (xy a) (xy a')) (h2 : Lx (xy a) (xy b)) (h3 : Lx (xy a) (xy an)) (q1 : cr xy a' a an ≤ 0) (q2 : 0 < cr xy a' a b) : ¬ 0 < cr xy a an b := by
  have t := lt1 h1 h2 h3 q1 q2
  have e : cr xy a an b = cr xy b a an := by unfold cr crs; grind
  (first | k_extra "nl9" | omega)
theorem ra {a b b' bn : Nat} (h1 : Lx (xy b') (xy b)) (h2 : Lx (xy a) (xy b)) (h3 : Lx (xy bn) (xy b)) (q1 : 0 ≤ cr xy b' b bn) (q2 : cr xy b' b a < 0) : ¬ cr xy b bn a < 0 := by
  have t := rt1 h1 h2 h3 q1 q2
  have e : cr xy b bn a = - cr xy b a bn := by unfold cr crs; grind
  (first | k_extra "nl9" | omega)
theorem ls {a an b b' : Nat} (h1 : Lx (xy b') (xy b)) (h2 : Lx (xy a) (xy b)) (h3 : Lx (xy an) (xy b)) (q1 : cr xy b' b a < 0) (q2 : 0 < cr xy a an b) : cr xy b' b an < 0 := by
  have e1 : cr xy b' b a = - (((xy b).1 - (xy b').1) * ((xy b).2 - (xy a).2) - ((xy b).1 - (xy a).1) * ((xy b).2 - (xy b').2)) := by unfold cr crs; grind
  have e2 : cr xy a an b = ((xy b).1 - (xy a).1) * ((xy b).2 - (xy an).2) - ((xy b).1 - (xy an).1) * ((xy b).2 - (xy a).2) := by unfold cr crs; grind
  have e3 : cr xy b' b an = - (((xy b).1 - (xy b').1) * ((xy b).2 - (xy an).2) - ((xy b).1 - (xy an).1) * ((xy b).2 - (xy b').2)) := by unfold cr crs; grind
  have t := hp_trans h1.hp h2.hp h3.hp (by (first | k_extra "nl9" | omega)) (by (first | k_extra "nl9" | omega))
  have := t.2 (by (first | k_extra "nl9" | omega))
  (first | k_extra "nl9" | omega)
theorem rs {a a' b bn : Nat} (h1 : Lx (xy a) (xy a')) (h2 : Lx (xy a) (xy b)) (h3 : Lx (xy a) (xy bn)) (q1 : 0 < cr xy a' a b) (q2 : cr xy b bn a < 0) : 0 < cr xy a' a bn := by
  have e1 : cr xy a' a b = ((xy b).1 - (xy a).1) * ((xy a').2 - (xy a).2) - ((xy a').1 - (xy a).1) * ((xy b).2 - (xy a).2) := by unfold cr crs; grind
  have e2 : cr xy b bn a = - (((xy bn).1 - (xy a).1) * ((xy b).2 - (xy a).2) - ((xy b).1 - (xy a).1) * ((xy bn).2 - (xy a).2)) := by unfold cr crs; grind
  have e3 : cr xy a' a bn = ((xy bn).1 - (xy a).1) * ((xy a').2 - (xy a).2) - ((xy a').1 - (xy a).1) * ((xy bn).2 - (xy a).2) := by unfold cr crs; grind
  have t := hp_trans h3.hp h2.hp h1.hp (by (first | k_extra "nl9" | omega)) (by (first | k_extra "nl9" | omega))
  have := t.2 (by (first | k_extra "nl9" | omega))
  (first | k_extra "nl9" | omega)
noncomputable def ChR2 (o n : Nat) (xy : Nat → Int × Int) (st : List ERec) : Nat → Nat → Prop
  | 0, _ => False
  | f + 1, e => ∃ a b, org st e = some (o + a) ∧ dst st e = some (o + b) ∧ org st (rfe st e) = some (o + b) ∧ dst st (opp st e) = some (o + a) ∧ a < n ∧ b < n ∧ (∀ p, p < n → 0 ≤ cr xy (o + a) (o + b) (o + p)) ∧ (a + 1 ≠ n → a < b ∧ ChR2 o n xy st f (rfe st e))
noncomputable def InvL (k : Nat) (xy : Nat → Int × Int) (a b : Nat) : Prop := a + 1 = k ∨ ∃ a', a < a' ∧ a' < k ∧ (∀ p, p < k → cr xy a' a p ≤ 0) ∧ 0 < cr xy a' a b
noncomputable def InvR (k n : Nat) (xy : Nat → Int × Int) (a b : Nat) : Prop := b = k ∨ ∃ b', k ≤ b' ∧ b' < b ∧ (∀ p, p < n → 0 ≤ cr xy b' b (k + p)) ∧ cr xy b' b a < 0
/-- what the law asks of the edge -/
noncomputable def Low (N : Nat) (xy : Nat → Int × Int) (a b : Nat) : Prop := ∀ p, p < N → cr xy b a p ≤ 0 ∧ (cr xy b a p = 0 → ¬ (a < p ∧ p < b))
theorem fb_run {st : List ERec} {k n : Nat} (S : Srt (k + n) xy) (hk : 2 ≤ k) (hn : 2 ≤ n) : ∀ (f fl fr l r a b : Nat), fl + fr ≤ f → org st l = some a → org st r = some (k + b) → ChL k xy st fl l → ChR2 k n xy st fr r → InvL k xy a (k + b) → InvR k n xy a (k + b) →
    ∃ l' r' a' b', (fbLoop f st l r).run (truth xy) = some (l', r') ∧ org st l' = some a' ∧ org st r' = some (k + b') ∧ dst st (opp st r') = some (k + b') ∧ a' < k ∧ b' < n ∧ Low (k + n) xy a' (k + b')
  | 0, fl, fr, l, r, a, b, hf, _, _, hl, _, _, _ => by
    have : fl = 0 := by (first | k_extra "nl9" | lia)
    subst this; exact hl.elim
  | f + 1, fl, fr, l, r, a, b, hf, ha, hb, hl, hr, iL, iR => by
    cases fl with
    | zero => exact hl.elim
    | succ fl =>
    cases fr with
    | zero => exact hr.elim
    | succ fr =>
    obtain ⟨a0, an, h1, h2, h3, h4, h5, h6, h7⟩ := hl
    obtain ⟨b0, bn, g1, g2, g3, g3', g4, g5, g6, g7⟩ := hr
    rw [ha] at h1; cases h1
    rw [hb] at g1
    have eb : b = b0 := by have := Option.some.inj g1; (first | k_extra "nl9" | lia)
    subst eb
    unfold fbLoop
    rw [ha, hb, h2, g2]
    dsimp only
    by_cases hA : 0 < cr xy a an (k + b)
    · -- the first side moves
      simp only [DT.run, truth, decide_eq_true hA]
      have an0 : an ≠ a := fun e => by subst e; rw [cr_same1] at hA; (first | k_extra "nl9" | lia)
      have ha0 : a ≠ 0 := fun e => by
        subst e
        rcases iL with h | ⟨a', x1, x2, x3, x4⟩
        · (first | k_extra "nl9" | lia)
        · exact la (S _ _ x1 (by (first | k_extra "nl9" | lia))) (S _ _ (by (first | k_extra "nl9" | lia)) (by (first | k_extra "nl9" | lia))) (S _ _ (by (first | k_extra "nl9" | lia)) (by (first | k_extra "nl9" | lia))) (x3 an h5) x4 hA
      obtain ⟨h8, h9⟩ := h7 ha0
      refine fb_run S hk hn f fl (fr + 1) (lfe st l) r an b (by (first | k_extra "nl9" | lia)) h3 hb h9 ⟨b, bn, hb, g2, g3, g3', g4, g5, g6, g7⟩ (.inr ⟨a, h8, h4, h6, hA⟩) ?_
      rcases iR with h | ⟨b', x1, x2, x3, x4⟩
      · exact .inl h
      · exact .inr ⟨b', x1, x2, x3, ls (S _ _ x2 (by (first | k_extra "nl9" | lia))) (S _ _ (by (first | k_extra "nl9" | lia)) (by (first | k_extra "nl9" | lia))) (S _ _ (by (first | k_extra "nl9" | lia)) (by (first | k_extra "nl9" | lia))) x4 hA⟩
    · simp only [DT.run, truth, decide_eq_false hA]
      by_cases hB : cr xy (k + b) (k + bn) a < 0
      · simp only [DT.run, truth, decide_eq_true hB]
        have bn0 : bn ≠ b := fun e => by subst e; rw [cr_same1] at hB; (first | k_extra "nl9" | lia)
        have hb0 : b + 1 ≠ n := fun e => by
          rcases iR with h | ⟨b', x1, x2, x3, x4⟩
          · (first | k_extra "nl9" | lia)
          · exact ra (S _ _ x2 (by (first | k_extra "nl9" | lia))) (S _ _ (by (first | k_extra "nl9" | lia)) (by (first | k_extra "nl9" | lia))) (S (k + bn) (k + b) (by (first | k_extra "nl9" | lia)) (by (first | k_extra "nl9" | lia))) (x3 bn g5) x4 hB
        obtain ⟨g8, g9⟩ := g7 hb0
        refine fb_run S hk hn f (fl + 1) fr l (rfe st r) a bn (by (first | k_extra "nl9" | lia)) ha g3 ⟨a, an, ha, h2, h3, h4, h5, h6, h7⟩ g9 ?_ (.inr ⟨k + b, by (first | k_extra "nl9" | lia), by (first | k_extra "nl9" | lia), g6, hB⟩)
        rcases iL with h | ⟨a', x1, x2, x3, x4⟩
        · exact .inl h
        · exact .inr ⟨a', x1, x2, x3, rs (S _ _ x1 (by (first | k_extra "nl9" | lia))) (S _ _ (by (first | k_extra "nl9" | lia)) (by (first | k_extra "nl9" | lia))) (S _ _ (by (first | k_extra "nl9" | lia)) (by (first | k_extra "nl9" | lia))) x4 hB⟩
      · simp only [DT.run, truth, decide_eq_false hB]
        refine ⟨l, r, a, b, rfl, ha, hb, g3', h4, g4, fun p hp => ?_⟩
        have hab : Lx (xy a) (xy (k + b)) := S _ _ (by (first | k_extra "nl9" | lia)) (by (first | k_extra "nl9" | lia))
        rcases Nat.lt_or_ge p k with hpk | hpk
        · rcases Nat.lt_trichotomy p a with h | h | h
          · obtain ⟨h8, _⟩ := h7 (by (first | k_extra "nl9" | lia))
            exact ⟨lt2 (S _ _ h8 (by (first | k_extra "nl9" | lia))) hab (S _ _ h (by (first | k_extra "nl9" | lia))) (h6 p hpk) (by (first | k_extra "nl9" | lia)), fun _ z => by (first | k_extra "nl9" | lia)⟩
          · subst h
            exact ⟨by rw [cr_same2]; exact Int.le_refl 0, fun _ z => by (first | k_extra "nl9" | lia)⟩
          · rcases iL with h' | ⟨a', x1, x2, x3, x4⟩
            · (first | k_extra "nl9" | lia)
            · have := lt1 (S _ _ x1 (by (first | k_extra "nl9" | lia))) hab (S _ _ h (by (first | k_extra "nl9" | lia))) (x3 p hpk) x4
              exact ⟨by (first | k_extra "nl9" | lia), fun z => by (first | k_extra "nl9" | lia)⟩
        · obtain ⟨q, rfl⟩ := Nat.exists_eq_add_of_le hpk
          rcases Nat.lt_trichotomy q b with h | h | h
          · rcases iR with h' | ⟨b', x1, x2, x3, x4⟩
            · (first | k_extra "nl9" | lia)
            · have := rt1 (S _ _ x2 (by (first | k_extra "nl9" | lia))) hab (S (k + q) (k + b) (by (first | k_extra "nl9" | lia)) (by (first | k_extra "nl9" | lia))) (x3 q (by (first | k_extra "nl9" | lia))) x4
              exact ⟨by (first | k_extra "nl9" | lia), fun z => by (first | k_extra "nl9" | lia)⟩
          · subst h
            exact ⟨by rw [cr_same3]; exact Int.le_refl 0, fun _ z => by (first | k_extra "nl9" | lia)⟩
          · obtain ⟨g8, _⟩ := g7 (by (first | k_extra "nl9" | lia))
            exact ⟨rt2 (S _ _ (by (first | k_extra "nl9" | lia)) (by (first | k_extra "nl9" | lia))) hab (S _ _ (by (first | k_extra "nl9" | lia)) (by (first | k_extra "nl9" | lia))) (g6 q (by (first | k_extra "nl9" | lia))) (by (first | k_extra "nl9" | lia)), fun _ z => by (first | k_extra "nl9" | lia)⟩
end
theorem setL_at (st : List ERec) (i j x : Nat) : (setL st i j)[x]? = (st[x]?).map fun e => if i = x then (j, e.2) else e := by
  rw [setL_q, List.getElem?_modify]
  by_cases h : i = x
  · simp [h]
  · cases st[x]? <;> simp [h]
theorem rot_setL (st : List ERec) (i j x : Nat) : rot (setL st i j) x = rot st x := by
  unfold rot
  rw [nth_q, nth_q, setL_at]
  cases st[x]? with
  | none => rfl
  | some e => by_cases h : i = x <;> simp [h]
theorem org_setL (st : List ERec) (i j x : Nat) : org (setL st i j) x = org st x := by
  unfold org
  rw [nth_q, nth_q, setL_at]
  cases st[x]? with
  | none => rfl
  | some e => by_cases h : i = x <;> simp [h]
theorem rot_splice (st : List ERec) (i j x : Nat) : rot (splice st i j) x = rot st x := by
  unfold splice; simp only [rot_setL]
theorem org_splice (st : List ERec) (i j x : Nat) : org (splice st i j) x = org st x := by
  unfold splice; simp only [org_setL]
theorem rot_connectE (st : List ERec) (i j s e x : Nat) : rot (connectE st i j s e) x = rot (mkE st s e) x := by
  unfold connectE; simp only [rot_splice]
theorem org_connectE (st : List ERec) (i j s e x : Nat) : org (connectE st i j s e) x = org (mkE st s e) x := by
  unfold connectE; simp only [org_splice]
theorem org_mkE_old {st : List ERec} {s e x a : Nat} (h : org st x = some a) : org (mkE st s e) x = some a := by
  have hx : x < st.length := by
    rcases Nat.lt_or_ge x st.length with h' | h'
    · exact h'
    · unfold org at h; rw [nth_q, List.getElem?_eq_none h'] at h; cases h
  unfold org mkE at *
  rw [nth_q] at *
  rw [List.getElem?_append_left hx]; exact h
theorem at_mkE (st : List ERec) (s e t : Nat) : (mkE st s e)[st.length + t]? = [(st.length, st.length + 2, some s), (st.length + 1, st.length + 3, some e), (st.length + 3, st.length + 1, none), (st.length + 2, st.length, none)][t]? := by
  unfold mkE
  rw [List.getElem?_append_right (Nat.le_add_right _ _), Nat.add_sub_cancel_left]
theorem org_mkE_new (st : List ERec) (s e : Nat) : org (mkE st s e) st.length = some s := by
  have := at_mkE st s e 0
  rw [Nat.add_zero] at this
  unfold org; rw [nth_q, this]; rfl
theorem rot_mkE_0 (st : List ERec) (s e : Nat) : rot (mkE st s e) st.length = st.length + 2 := by
  have := at_mkE st s e 0
  rw [Nat.add_zero] at this
  unfold rot; rw [nth_q, this]; rfl
theorem rot_mkE_2 (st : List ERec) (s e : Nat) : rot (mkE st s e) (st.length + 2) = st.length + 1 := by
  unfold rot; rw [nth_q, at_mkE st s e 2]; rfl
theorem org_mkE_1 (st : List ERec) (s e : Nat) : org (mkE st s e) (st.length + 1) = some e := by
  unfold org; rw [nth_q, at_mkE st s e 1]; rfl
theorem org_conn {st : List ERec} {i j s e : Nat} : org (connectE st i j s e) st.length = some s ∧ dst (connectE st i j s e) st.length = some e := by
  unfold dst
  simp only [rot_connectE, org_connectE]
  exact ⟨org_mkE_new .., by rw [rot_mkE_0, rot_mkE_2, org_mkE_1]⟩
theorem org_conn_old {st : List ERec} {i j s e x a : Nat} (h : org st x = some a) : org (connectE st i j s e) x = some a := by
  rw [org_connectE]; exact org_mkE_old h
/-- every label leads to a label -/
noncomputable def WFS (st : List ERec) : Prop := ∀ i, i < st.length → lfs st i < st.length ∧ rot st i < st.length
noncomputable def shE (m k : Nat) (e : ERec) : ERec := (e.1 + m, e.2.1 + m, e.2.2.map (k + ·))
noncomputable def joint (st1 st2 : List ERec) (k : Nat) : List ERec := st1 ++ st2.map (shE st1.length k)
section
variable {st1 st2 : List ERec} {k : Nat}
theorem lfs_j1 {i : Nat} (h : i < st1.length) : lfs (joint st1 st2 k) i = lfs st1 i := by unfold lfs joint; rw [nth_q, nth_q, List.getElem?_append_left h]
theorem rot_j1 {i : Nat} (h : i < st1.length) : rot (joint st1 st2 k) i = rot st1 i := by unfold rot joint; rw [nth_q, nth_q, List.getElem?_append_left h]
theorem org_j1 {i : Nat} (h : i < st1.length) : org (joint st1 st2 k) i = org st1 i := by unfold org joint; rw [nth_q, nth_q, List.getElem?_append_left h]
theorem at_j2 (i : Nat) : (joint st1 st2 k)[st1.length + i]? = (st2[i]?).map (shE st1.length k) := by
  unfold joint
  rw [List.getElem?_append_right (Nat.le_add_right _ _), Nat.add_sub_cancel_left, List.getElem?_map]
theorem lfs_j2 {i : Nat} (h : i < st2.length) : lfs (joint st1 st2 k) (st1.length + i) = st1.length + lfs st2 i := by
  unfold lfs; rw [nth_q, nth_q, at_j2, List.getElem?_eq_getElem h]; exact Nat.add_comm _ _
theorem rot_j2 {i : Nat} (h : i < st2.length) : rot (joint st1 st2 k) (st1.length + i) = st1.length + rot st2 i := by
  unfold rot; rw [nth_q, nth_q, at_j2, List.getElem?_eq_getElem h]; exact Nat.add_comm _ _
theorem org_j2 (i : Nat) : org (joint st1 st2 k) (st1.length + i) = (org st2 i).map (k + ·) := by
  unfold org; rw [nth_q, nth_q, at_j2]
  cases st2[i]? <;> rfl
theorem dst_j1 {i : Nat} (W : WFS st1) (h : i < st1.length) : dst (joint st1 st2 k) i = dst st1 i := by
  have h1 := (W i h).2
  have h2 := (W _ h1).2
  unfold dst; rw [rot_j1 h, rot_j1 h1, org_j1 h2]
theorem lfe_j1 {i : Nat} (W : WFS st1) (h : i < st1.length) : lfe (joint st1 st2 k) i = lfe st1 i ∧ lfe st1 i < st1.length := by
  have h1 := (W i h).2
  have h2 := (W _ h1).2
  have h3 := (W _ h2).2
  have h4 := (W _ h3).1
  unfold lfe; rw [rot_j1 h, rot_j1 h1, rot_j1 h2, lfs_j1 h3, rot_j1 h4]
  exact ⟨rfl, (W _ h4).2⟩
theorem dst_j2 {i : Nat} (W : WFS st2) (h : i < st2.length) : dst (joint st1 st2 k) (st1.length + i) = (dst st2 i).map (k + ·) := by
  have h1 := (W i h).2
  unfold dst; rw [rot_j2 h, rot_j2 h1, org_j2]
theorem opp_j2 {i : Nat} (W : WFS st2) (h : i < st2.length) : opp (joint st1 st2 k) (st1.length + i) = st1.length + opp st2 i ∧ opp st2 i < st2.length := by
  have h1 := (W i h).2
  unfold opp; rw [rot_j2 h, rot_j2 h1]
  exact ⟨rfl, (W _ h1).2⟩
theorem rfe_j2 {i : Nat} (W : WFS st2) (h : i < st2.length) : rfe (joint st1 st2 k) (st1.length + i) = st1.length + rfe st2 i ∧ rfe st2 i < st2.length := by
  have h1 := (W i h).2
  have h2 := (W _ h1).2
  unfold rfe; rw [rot_j2 h, rot_j2 h1, lfs_j2 h2]
  exact ⟨rfl, (W _ h2).1⟩
theorem org_lt {st : List ERec} {e a : Nat} (h : org st e = some a) : e < st.length := by
  rcases Nat.lt_or_ge e st.length with h' | h'
  · exact h'
  · unfold org at h; rw [nth_q, List.getElem?_eq_none h'] at h; cases h
theorem ChL.joint {n : Nat} {xy : Nat → Int × Int} (W : WFS st1) : ∀ {f e : Nat}, ChL n xy st1 f e → ChL n xy (joint st1 st2 k) f e
  | 0, _, h => h
  | f + 1, e, ⟨a, b, h1, h2, h3, h4, h5, h6, h7⟩ => by
    have he := org_lt h1
    refine ⟨a, b, by rw [org_j1 he]; exact h1, by rw [dst_j1 W he]; exact h2, by rw [(lfe_j1 W he).1, org_j1 (lfe_j1 (st2 := st2) (k := k) W he).2]; exact h3, h4, h5, h6, fun ha => ⟨(h7 ha).1, ?_⟩⟩
    rw [(lfe_j1 W he).1]; exact ChL.joint W (h7 ha).2
theorem ChR.joint {n : Nat} {xy : Nat → Int × Int} (W : WFS st2) : ∀ {f e : Nat}, ChR n (fun j => xy (k + j)) st2 f e → ChR2 k n xy (joint st1 st2 k) f (st1.length + e)
  | 0, _, h => h
  | f + 1, e, ⟨a, b, h1, h2, h3, h3', h4, h5, h6, h7⟩ => by
    have he := org_lt h1
    have e1 := rfe_j2 (st1 := st1) (k := k) W he
    have e2 := opp_j2 (st1 := st1) (k := k) W he
    refine ⟨a, b, by rw [org_j2, h1]; rfl, by rw [dst_j2 W he, h2]; rfl, by rw [e1.1, org_j2, h3]; rfl, by rw [e2.1, dst_j2 W e2.2, h3']; rfl, h4, h5, h6, fun ha => ⟨(h7 ha).1, ?_⟩⟩
    rw [e1.1]; exact ChR.joint W (h7 ha).2
/-- the plain law: the edge that joins two good halves is the lowest common side -/
theorem fin_pure {xy : Nat → Int × Int} {n l1 r1 l2 r2 : Nat} (S : Srt (k + n) xy) (hk : 2 ≤ k) (hn : 2 ≤ n) (W1 : WFS st1) (W2 : WFS st2)
    (G1 : Good k xy (st1, l1, r1)) (G2 : Good n (fun j => xy (k + j)) (st2, l2, r2)) :
    ∃ fin a b, (findBase (k + n) (joint st1 st2 k) l1 r1 (st1.length + l2) (st1.length + r2)).run (truth xy) = some fin ∧ org fin.1 fin.2.1 = some (k + b) ∧ dst fin.1 fin.2.1 = some a ∧ a < k ∧ b < n ∧ Low (k + n) xy a (k + b) := by
  obtain h9 : Tag9 (P := ∃ fin a b, (findBase (k + n) (joint st1 st2 k) l1 r1 (st1.length + l2) (st1.length + r2)).run (truth xy) = some fin ∧ org fin.1 fin.2.1 = some (k + b) ∧ dst fin.1 fin.2.1 = some a ∧ a < k ∧ b < n ∧ Low (k + n) xy a (k + b)) (by
    obtain ⟨p1, p2, p3, _⟩ := G1
    obtain ⟨q1, q2, _, q3⟩ := G2
    dsimp only at p1 p2 p3 q1 q2 q3
    have o1 : org (joint st1 st2 k) r1 = some (k - 1) := by rw [org_j1 (org_lt p1)]; exact p1
    have o2 : org (joint st1 st2 k) l1 = some 0 := by rw [org_j1 (org_lt p2)]; exact p2
    have o3 : org (joint st1 st2 k) (st1.length + l2) = some (k + 0) := by rw [org_j2, q2]; rfl
    have o4 : org (joint st1 st2 k) (st1.length + r2) = some (k + (n - 1)) := by rw [org_j2, q1]; rfl
    obtain ⟨l', r', a', b', h1, h2, h3, h4, h5, h6, h7⟩ := fb_run S hk hn (k + n) k n r1 (st1.length + l2) (k - 1) 0 (Nat.le_refl _) o1 o3 (p3.joint W1) (ChR.joint W2 q3) (.inl (by (first | k_extra "nl9" | omega))) (.inl rfl)
    unfold findBase
    rw [DT.run_bind, h1]
    dsimp only [Option.bind]
    rw [DT.run_bind]
    unfold conn
    rw [h4, h2]
    dsimp only [DT.run, Option.bind]
    rw [org_conn_old h2, org_conn_old o2, org_conn_old h3, org_conn_old o4]
    refine ⟨_, a', b', rfl, ?_, ?_, h5, h6, h7⟩
    · exact org_conn.1
    · exact org_conn.2) := trivial
  unfold id at h9; exact h9.get
end
example : True := by
  w_top off
  k_with_none
  k_with "inst9" => first | ((with_reducible show InstAt _ (@OfNat.ofNat _ _ _) _ _ _); refine InstAt.of_K (by first | assumption | exact Frag.In.keeps (by k_asm) (Fr.keep (by k_asm))) (by k_is) (by k_is)) | (refine InstAt.of_news (by k_asm) (by k_mem) (by k_mem))
  k_with "e9" => (first | (refine code_def (by k_asm) (by k_asm) (by k_asm) (by k_asm) (by k_asm) rfl rfl (by first | exact rfl | assumption) (by k_is) (by k_is) (by ktr_room) (by first | exact BindsTo.of_eq rfl | refine kp_binds (by k_in) (by exact fun _ => rfl)) (by exact locs rfl) ?_ (by exact rfl) (by exact rfl) (by exact rfl) (by decide); k_whole; intro _ _ _ _ _ _ _ _ _; (try dsimp only); (try k_fold)) | (refine code_defC (by k_asm) (by k_asm) (by k_asm) (by k_asm) (by k_asm) rfl rfl (by first | exact rfl | assumption) (by k_is) (by k_is) (by ktr_room) (by first | exact BindsTo.of_eq rfl | refine kp_binds (by k_in) (by exact fun _ => rfl)) (by exact rfl) (by decide +kernel) ?_ (by exact rfl) (by exact rfl) (by exact rfl); k_whole; intro _ _ _ _ _ _ _ N' Y' _ _ _ l1; (try k_lt l1); (try dsimp only); (try k_fold); (first | k_cells Y' | (obtain ⟨_, _, _, _, _, hE', _, _, _, _, _⟩ := cells_five Y'; subst hE'; clear Y')); (try simp only [List.cons_append, List.nil_append] at N'); (try dsimp only); (try k_fold); (try (revert N'; intro _)); (try (revert l1; intro _))))
  k_with "ne9" => (refine neN ?_; (try dsimp only); with_reducible first | exact neU1 | exact neU2 | exact neU3 | exact neU4 | exact neD1 | exact neD2 | exact neD3 | exact neD4 | exact Nat.ne_of_gt ‹_› | exact Nat.ne_of_lt ‹_› | exact gtA1 ‹_› | exact Ne.symm (gtA1 ‹_›) | exact gtA2 ‹_› | exact Ne.symm (gtA2 ‹_›) | exact gtA3 ‹_› | exact Ne.symm (gtA3 ‹_›) | exact gtA4 ‹_› | exact Ne.symm (gtA4 ‹_›) | exact gtA5 ‹_› | exact Ne.symm (gtA5 ‹_›) | exact gtA6 ‹_› | exact Ne.symm (gtA6 ‹_›) | exact gtA7 ‹_› | exact Ne.symm (gtA7 ‹_›) | exact gtA8 ‹_› | exact Ne.symm (gtA8 ‹_›) | exact gtA9 ‹_› | exact Ne.symm (gtA9 ‹_›) | exact gtA10 ‹_› | exact Ne.symm (gtA10 ‹_›) | exact gtA11 ‹_› | exact Ne.symm (gtA11 ‹_›) | exact gtA12 ‹_› | exact Ne.symm (gtA12 ‹_›))
  k_with "room9" => (first | exact room2 ‹_› (by exact rfl) | exact room1 ‹_› (by exact rfl) | exact room0 ‹_›)
  k_with "units9" => (first | exact unit2 ‹_› (by exact rfl) | exact unit1 ‹_› (by exact rfl) | exact unit0 ‹_›)
  k_with "mem9" => (first | with_reducible assumption | with_reducible exact at0 | with_reducible exact at1 | with_reducible exact at2 | with_reducible exact at3 | with_reducible exact at4 | with_reducible exact at5 | with_reducible exact at6 | with_reducible exact at7 | with_reducible exact at8 | with_reducible exact at9 | with_reducible exact at10 | with_reducible exact at11 | with_reducible exact at12 | with_reducible exact at13 | with_reducible exact at14 | exact up1 (by with_reducible assumption) | exact up2 (by with_reducible assumption) | exact up3 (by with_reducible assumption) | exact up4 (by with_reducible assumption) | exact up5 (by with_reducible assumption) | exact up6 (by with_reducible assumption) | assumption)
  k_with "mul9" => (first | exact Bd.ok1 ‹_› ‹_› ‹_› ‹_› | exact Bd.ok2 ‹_› ‹_› ‹_› ‹_› ‹_› ‹_› ‹_› ‹_› ‹_› ‹_› ‹_› ‹_› ‹_› ‹_› ‹_› ‹_›)
  k_with "execs cons" => w_strict (refine wpAny_execs_cons ?_; (try k_fold))
  k_with "isTrue BoolOp" => w_strict (k_fold; walk_at "isTrue BoolOp")
  k_with "isTrue Compare" => w_strict (k_fold; walk_at "isTrue Compare")
  k_with "callWith ref" => w_strict (k_fold; walk_at "callWith ref")
  trivial
theorem mod_lit {prog : Program} {w : World} {A : Around} {E : Value → Shared → Prop} {s : Shared} {a b : Int} {t u : Tok} {Q : Value → Shared → Prop} (c : Int) (hb : b ≠ 0) (hc : a.fmod b = c) (h : Q (.int c s.toks) { s with toks := s.toks + 1 }) : wpAny (model prog w) A (binaryOp .Mod (.int a t) (.int b u)) Q E s :=
  mod_int' hb (by rw [hc]; exact h)
theorem fdiv_lit {prog : Program} {w : World} {A : Around} {E : Value → Shared → Prop} {s : Shared} {a b : Int} {t u : Tok} {Q : Value → Shared → Prop} (c : Int) (hb : b ≠ 0) (hc : a.fdiv b = c) (hp : Builtin.divisionGoesByPylong a b = false) (h : Q (.int c s.toks) { s with toks := s.toks + 1 }) : wpAny (model prog w) A (binaryOp .FloorDiv (.int a t) (.int b u)) Q E s :=
  floordiv_int hb (by rw [hc]; exact h) (.inl hp)
theorem News.two {h₀ h : Heap} {L : Addr} {n l : List (Addr × Obj)} {x : Addr × Obj} (N : News h₀ L h l) (m : x ∈ l) (hs : ∀ p ∈ n, p ∈ l) : News h₀ L h (x :: n) := fun p hp => by
  rcases List.mem_cons.mp hp with rfl | hp
  · exact N _ m
  · exact N _ (hs p hp)
theorem tupAt {h₀ h : Heap} {L l : Addr} {news : List (Addr × Obj)} {items : Array Value} {k : Nat} (N : News h₀ L h news) (m : (l, ({ cls := .type "tuple", dict := none, data := .seq items k, slots := #[] } : Obj)) ∈ news) : h.get? l = some { cls := .type "tuple", dict := none, data := .seq items k, slots := #[] } := (N _ m).1
theorem mulT_0 {prog : Program} {w : World} {s : Shared} {E : Value → Shared → Prop} {h₀ : Heap} {L : Addr} {m : Str → Option Value} {news : List (Addr × Obj)} {A : Around} {Q : Value → Shared → Prop} {l : Addr} {v : Value} {k : Nat} {u : Tok} (F : Fr h₀ L s.heap m) (N : News h₀ L s.heap news) (hl : s.heap.get? l = some { cls := .type "tuple", dict := none, data := .seq #[v] k, slots := #[] })
    (h : ∀ q h', Fr h₀ L h' m → News h₀ L h' ((q, ({ cls := .type "tuple", data := .seq #[] } : Obj)) :: news) → (∀ p ∈ news, p.1 < q) → Q (.ref q) { s with heap := h' }) :
    wpAny (model prog w) A (binaryOp .Mult (.ref l) (.int 0 u)) Q E s := mul_tuple_0 hl (h _ _ (F.push _) (News.push F N _) (fun p hp => Heap.lt_size (N p hp).1))
theorem mulT_2 {prog : Program} {w : World} {s : Shared} {E : Value → Shared → Prop} {h₀ : Heap} {L : Addr} {m : Str → Option Value} {news : List (Addr × Obj)} {A : Around} {Q : Value → Shared → Prop} {l : Addr} {v : Value} {k : Nat} {u : Tok} (F : Fr h₀ L s.heap m) (N : News h₀ L s.heap news) (hl : s.heap.get? l = some { cls := .type "tuple", dict := none, data := .seq #[v] k, slots := #[] })
    (h : ∀ q h', Fr h₀ L h' m → News h₀ L h' ((q, ({ cls := .type "tuple", data := .seq #[v, v] } : Obj)) :: news) → (∀ p ∈ news, p.1 < q) → Q (.ref q) { s with heap := h' }) :
    wpAny (model prog w) A (binaryOp .Mult (.ref l) (.int 2 u)) Q E s := mul_tuple_2 hl (h _ _ (F.push _) (News.push F N _) (fun p hp => Heap.lt_size (N p hp).1))
example : True := by
  k_with "binaryOp Mult ref int" => w_strict (k_here; (with_reducible show wpAny _ _ (binaryOp Operator.Mult (Value.ref _) (Value.int 0 _)) _ _ _); k_dflt (refine mulT_0 (by k_asm) (by k_asm) (by (exact tupAt (by k_asm) (by k_mem))) ?_; k_whole); intro _ _ _ _ l1; (try k_lt l1); (try k_sweep); (try (revert l1; intro _)))
  k_with "binaryOp Mult ref int" => w_strict (k_here; (with_reducible show wpAny _ _ (binaryOp Operator.Mult (Value.ref _) (Value.int 2 _)) _ _ _); k_dflt (refine mulT_2 (by k_asm) (by k_asm) (by (exact tupAt (by k_asm) (by k_mem))) ?_; k_whole); intro _ _ _ _ l1; (try k_lt l1); (try k_sweep); (try (revert l1; intro _)))
  k_with "binaryOp Mult ref int" => w_strict (k_here; (with_reducible show wpAny _ _ (binaryOp Operator.Mult (Value.ref _) (Value.int 1 _)) _ _ _); k_dflt (refine mul_tuple_1 (by (exact tupAt (by k_asm) (by k_mem))) ?_; k_whole))
  k_with "binaryOp Mod int int" => w_strict (k_here; first | (k_dflt (refine mod_lit 0 (by decide) (by decide) ?_; k_whole)) | (k_dflt (refine mod_lit 1 (by decide) (by decide) ?_; k_whole)) | (k_dflt (refine mod_lit 2 (by decide) (by decide) ?_; k_whole)))
  k_with "binaryOp FloorDiv int int" => w_strict (k_here; first | (k_dflt (refine fdiv_lit 0 (by decide) (by decide) (by exact PyProof.noPylong_of_log2 (by decide +kernel)) ?_; k_whole)) | (k_dflt (refine fdiv_lit 1 (by decide) (by decide) (by exact PyProof.noPylong_of_log2 (by decide +kernel)) ?_; k_whole)))
  trivial
theorem g_coin_2 (B : Below A₀ base outer h₀) (F : Fr h₀ L s.heap m) (X : (hd.heap_1 w.params).In h₀) (N : News h₀ L s.heap news) (T : Top p loose mean mg mb h₀) (hk : cs.kind = .function) {t0 : Nat} (hroom : dp + 6 < recursionLimit) (hu : un + 300 < cLine)
   (ret : ∀ h' tk' q (t1 t2 : Nat), Fr h₀ L h' m → News h₀ L h' ((q, ({ cls := .type "tuple", data := .seq #[.int 2 t1] } : Obj)) :: news) → (∀ r ∈ news, r.1 < q) → Q (.ref q) { s with heap := h', toks := tk' }) :
   wpAny (model prog w) (ktrTop dp un gd cn cs L a ccd cl outer) (call (.ref 272) [.int 2 t0, .ref 521]) Q E s := by
  obtain h9 : Tag9 (P := wpAny (model prog w) (ktrTop dp un gd cn cs L a ccd cl outer) (call (.ref 272) [.int 2 t0, .ref 521]) Q E s) (by
    refine wpAny_call ?_
    k_dflt k_enter
    k_steps
    all_goals first
      | exact ret _ _ _ _ 0 (by k_asm) (News.two (by k_asm) (mhd _) (fun p9 h9 => (mtl _ (mtl _ (mtl _ h9))))) (by first | assumption | exact tb_ltOf (And.right (by assumption)) | exact tb_ltOf (And.right (And.right (by assumption))) | exact tb_ltOf (And.right (And.right (And.right (by assumption)))))
      | exact ret _ _ _ _ 0 (by k_asm) (News.two (by k_asm) (mtl _ (mhd _)) (fun p9 h9 => (mtl _ (mtl _ (mtl _ h9))))) (by first | assumption | exact tb_ltOf (And.right (by assumption)) | exact tb_ltOf (And.right (And.right (by assumption))) | exact tb_ltOf (And.right (And.right (And.right (by assumption)))))
      | exact ret _ _ _ _ 0 (by k_asm) (News.two (by k_asm) (mtl _ (mtl _ (mhd _))) (fun p9 h9 => (mtl _ (mtl _ (mtl _ h9))))) (by first | assumption | exact tb_ltOf (And.right (by assumption)) | exact tb_ltOf (And.right (And.right (by assumption))) | exact tb_ltOf (And.right (And.right (And.right (by assumption)))))
      | exact ret _ _ _ _ 0 (by k_asm) (News.two (by k_asm) (mhd _) (fun p9 h9 => (mtl _ (mtl _ (mtl _ (mtl _ h9)))))) (by first | assumption | exact tb_ltOf (And.right (by assumption)) | exact tb_ltOf (And.right (And.right (by assumption))) | exact tb_ltOf (And.right (And.right (And.right (by assumption)))))
      | exact ret _ _ _ _ 0 (by k_asm) (News.two (by k_asm) (mtl _ (mhd _)) (fun p9 h9 => (mtl _ (mtl _ (mtl _ (mtl _ h9)))))) (by first | assumption | exact tb_ltOf (And.right (by assumption)) | exact tb_ltOf (And.right (And.right (by assumption))) | exact tb_ltOf (And.right (And.right (And.right (by assumption)))))
      | exact ret _ _ _ _ 0 (by k_asm) (News.two (by k_asm) (mtl _ (mtl _ (mhd _))) (fun p9 h9 => (mtl _ (mtl _ (mtl _ (mtl _ h9)))))) (by first | assumption | exact tb_ltOf (And.right (by assumption)) | exact tb_ltOf (And.right (And.right (by assumption))) | exact tb_ltOf (And.right (And.right (And.right (by assumption)))))
      | exact ret _ _ _ _ 0 (by k_asm) (News.two (by k_asm) (mtl _ (mtl _ (mtl _ (mhd _)))) (fun p9 h9 => (mtl _ (mtl _ (mtl _ (mtl _ h9)))))) (by first | assumption | exact tb_ltOf (And.right (by assumption)) | exact tb_ltOf (And.right (And.right (by assumption))) | exact tb_ltOf (And.right (And.right (And.right (by assumption)))))
      | exact ret _ _ _ _ 0 (by k_asm) (News.two (by k_asm) (mhd _) (fun p9 h9 => (mtl _ (mtl _ (mtl _ (mtl _ (mtl _ h9))))))) (by first | assumption | exact tb_ltOf (And.right (by assumption)) | exact tb_ltOf (And.right (And.right (by assumption))) | exact tb_ltOf (And.right (And.right (And.right (by assumption)))))
      | exact ret _ _ _ _ 0 (by k_asm) (News.two (by k_asm) (mtl _ (mhd _)) (fun p9 h9 => (mtl _ (mtl _ (mtl _ (mtl _ (mtl _ h9))))))) (by first | assumption | exact tb_ltOf (And.right (by assumption)) | exact tb_ltOf (And.right (And.right (by assumption))) | exact tb_ltOf (And.right (And.right (And.right (by assumption)))))
      | exact ret _ _ _ _ 0 (by k_asm) (News.two (by k_asm) (mtl _ (mtl _ (mhd _))) (fun p9 h9 => (mtl _ (mtl _ (mtl _ (mtl _ (mtl _ h9))))))) (by first | assumption | exact tb_ltOf (And.right (by assumption)) | exact tb_ltOf (And.right (And.right (by assumption))) | exact tb_ltOf (And.right (And.right (And.right (by assumption)))))
      | exact ret _ _ _ _ 0 (by k_asm) (News.two (by k_asm) (mtl _ (mtl _ (mtl _ (mhd _)))) (fun p9 h9 => (mtl _ (mtl _ (mtl _ (mtl _ (mtl _ h9))))))) (by first | assumption | exact tb_ltOf (And.right (by assumption)) | exact tb_ltOf (And.right (And.right (by assumption))) | exact tb_ltOf (And.right (And.right (And.right (by assumption)))))
      | exact ret _ _ _ _ 0 (by k_asm) (News.two (by k_asm) (mtl _ (mtl _ (mtl _ (mtl _ (mhd _))))) (fun p9 h9 => (mtl _ (mtl _ (mtl _ (mtl _ (mtl _ h9))))))) (by first | assumption | exact tb_ltOf (And.right (by assumption)) | exact tb_ltOf (And.right (And.right (by assumption))) | exact tb_ltOf (And.right (And.right (And.right (by assumption)))))) := trivial
  unfold id at h9; exact h9.get
theorem g_coin_3 (B : Below A₀ base outer h₀) (F : Fr h₀ L s.heap m) (X : (hd.heap_1 w.params).In h₀) (N : News h₀ L s.heap news) (T : Top p loose mean mg mb h₀) (hk : cs.kind = .function) {t0 : Nat} (hroom : dp + 6 < recursionLimit) (hu : un + 300 < cLine)
   (ret : ∀ h' tk' q (t1 t2 : Nat), Fr h₀ L h' m → News h₀ L h' ((q, ({ cls := .type "tuple", data := .seq #[.int 3 t1] } : Obj)) :: news) → (∀ r ∈ news, r.1 < q) → Q (.ref q) { s with heap := h', toks := tk' }) :
   wpAny (model prog w) (ktrTop dp un gd cn cs L a ccd cl outer) (call (.ref 272) [.int 3 t0, .ref 521]) Q E s := by
  obtain h9 : Tag9 (P := wpAny (model prog w) (ktrTop dp un gd cn cs L a ccd cl outer) (call (.ref 272) [.int 3 t0, .ref 521]) Q E s) (by
    refine wpAny_call ?_
    k_dflt k_enter
    k_steps
    all_goals first
      | exact ret _ _ _ _ 0 (by k_asm) (News.two (by k_asm) (mhd _) (fun p9 h9 => (mtl _ (mtl _ (mtl _ h9))))) (by first | assumption | exact tb_ltOf (And.right (by assumption)) | exact tb_ltOf (And.right (And.right (by assumption))) | exact tb_ltOf (And.right (And.right (And.right (by assumption)))))
      | exact ret _ _ _ _ 0 (by k_asm) (News.two (by k_asm) (mtl _ (mhd _)) (fun p9 h9 => (mtl _ (mtl _ (mtl _ h9))))) (by first | assumption | exact tb_ltOf (And.right (by assumption)) | exact tb_ltOf (And.right (And.right (by assumption))) | exact tb_ltOf (And.right (And.right (And.right (by assumption)))))
      | exact ret _ _ _ _ 0 (by k_asm) (News.two (by k_asm) (mtl _ (mtl _ (mhd _))) (fun p9 h9 => (mtl _ (mtl _ (mtl _ h9))))) (by first | assumption | exact tb_ltOf (And.right (by assumption)) | exact tb_ltOf (And.right (And.right (by assumption))) | exact tb_ltOf (And.right (And.right (And.right (by assumption)))))
      | exact ret _ _ _ _ 0 (by k_asm) (News.two (by k_asm) (mhd _) (fun p9 h9 => (mtl _ (mtl _ (mtl _ (mtl _ h9)))))) (by first | assumption | exact tb_ltOf (And.right (by assumption)) | exact tb_ltOf (And.right (And.right (by assumption))) | exact tb_ltOf (And.right (And.right (And.right (by assumption)))))
      | exact ret _ _ _ _ 0 (by k_asm) (News.two (by k_asm) (mtl _ (mhd _)) (fun p9 h9 => (mtl _ (mtl _ (mtl _ (mtl _ h9)))))) (by first | assumption | exact tb_ltOf (And.right (by assumption)) | exact tb_ltOf (And.right (And.right (by assumption))) | exact tb_ltOf (And.right (And.right (And.right (by assumption)))))
      | exact ret _ _ _ _ 0 (by k_asm) (News.two (by k_asm) (mtl _ (mtl _ (mhd _))) (fun p9 h9 => (mtl _ (mtl _ (mtl _ (mtl _ h9)))))) (by first | assumption | exact tb_ltOf (And.right (by assumption)) | exact tb_ltOf (And.right (And.right (by assumption))) | exact tb_ltOf (And.right (And.right (And.right (by assumption)))))
      | exact ret _ _ _ _ 0 (by k_asm) (News.two (by k_asm) (mtl _ (mtl _ (mtl _ (mhd _)))) (fun p9 h9 => (mtl _ (mtl _ (mtl _ (mtl _ h9)))))) (by first | assumption | exact tb_ltOf (And.right (by assumption)) | exact tb_ltOf (And.right (And.right (by assumption))) | exact tb_ltOf (And.right (And.right (And.right (by assumption)))))
      | exact ret _ _ _ _ 0 (by k_asm) (News.two (by k_asm) (mhd _) (fun p9 h9 => (mtl _ (mtl _ (mtl _ (mtl _ (mtl _ h9))))))) (by first | assumption | exact tb_ltOf (And.right (by assumption)) | exact tb_ltOf (And.right (And.right (by assumption))) | exact tb_ltOf (And.right (And.right (And.right (by assumption)))))
      | exact ret _ _ _ _ 0 (by k_asm) (News.two (by k_asm) (mtl _ (mhd _)) (fun p9 h9 => (mtl _ (mtl _ (mtl _ (mtl _ (mtl _ h9))))))) (by first | assumption | exact tb_ltOf (And.right (by assumption)) | exact tb_ltOf (And.right (And.right (by assumption))) | exact tb_ltOf (And.right (And.right (And.right (by assumption)))))
      | exact ret _ _ _ _ 0 (by k_asm) (News.two (by k_asm) (mtl _ (mtl _ (mhd _))) (fun p9 h9 => (mtl _ (mtl _ (mtl _ (mtl _ (mtl _ h9))))))) (by first | assumption | exact tb_ltOf (And.right (by assumption)) | exact tb_ltOf (And.right (And.right (by assumption))) | exact tb_ltOf (And.right (And.right (And.right (by assumption)))))
      | exact ret _ _ _ _ 0 (by k_asm) (News.two (by k_asm) (mtl _ (mtl _ (mtl _ (mhd _)))) (fun p9 h9 => (mtl _ (mtl _ (mtl _ (mtl _ (mtl _ h9))))))) (by first | assumption | exact tb_ltOf (And.right (by assumption)) | exact tb_ltOf (And.right (And.right (by assumption))) | exact tb_ltOf (And.right (And.right (And.right (by assumption)))))
      | exact ret _ _ _ _ 0 (by k_asm) (News.two (by k_asm) (mtl _ (mtl _ (mtl _ (mtl _ (mhd _))))) (fun p9 h9 => (mtl _ (mtl _ (mtl _ (mtl _ (mtl _ h9))))))) (by first | assumption | exact tb_ltOf (And.right (by assumption)) | exact tb_ltOf (And.right (And.right (by assumption))) | exact tb_ltOf (And.right (And.right (And.right (by assumption)))))) := trivial
  unfold id at h9; exact h9.get
theorem g_coin_4 (B : Below A₀ base outer h₀) (F : Fr h₀ L s.heap m) (X : (hd.heap_1 w.params).In h₀) (N : News h₀ L s.heap news) (T : Top p loose mean mg mb h₀) (hk : cs.kind = .function) {t0 : Nat} (hroom : dp + 6 < recursionLimit) (hu : un + 300 < cLine)
   (ret : ∀ h' tk' q (t1 t2 : Nat), Fr h₀ L h' m → News h₀ L h' ((q, ({ cls := .type "tuple", data := .seq #[.int 2 t1, .int 2 t2] } : Obj)) :: news) → (∀ r ∈ news, r.1 < q) → Q (.ref q) { s with heap := h', toks := tk' }) :
   wpAny (model prog w) (ktrTop dp un gd cn cs L a ccd cl outer) (call (.ref 272) [.int 4 t0, .ref 521]) Q E s := by
  obtain h9 : Tag9 (P := wpAny (model prog w) (ktrTop dp un gd cn cs L a ccd cl outer) (call (.ref 272) [.int 4 t0, .ref 521]) Q E s) (by
    refine wpAny_call ?_
    k_dflt k_enter
    k_steps
    all_goals first
      | exact ret _ _ _ _ _ (by k_asm) (News.two (by k_asm) (mhd _) (fun p9 h9 => (mtl _ (mtl _ (mtl _ h9))))) (by first | assumption | exact tb_ltOf (And.right (by assumption)) | exact tb_ltOf (And.right (And.right (by assumption))) | exact tb_ltOf (And.right (And.right (And.right (by assumption)))))
      | exact ret _ _ _ _ _ (by k_asm) (News.two (by k_asm) (mtl _ (mhd _)) (fun p9 h9 => (mtl _ (mtl _ (mtl _ h9))))) (by first | assumption | exact tb_ltOf (And.right (by assumption)) | exact tb_ltOf (And.right (And.right (by assumption))) | exact tb_ltOf (And.right (And.right (And.right (by assumption)))))
      | exact ret _ _ _ _ _ (by k_asm) (News.two (by k_asm) (mtl _ (mtl _ (mhd _))) (fun p9 h9 => (mtl _ (mtl _ (mtl _ h9))))) (by first | assumption | exact tb_ltOf (And.right (by assumption)) | exact tb_ltOf (And.right (And.right (by assumption))) | exact tb_ltOf (And.right (And.right (And.right (by assumption)))))
      | exact ret _ _ _ _ _ (by k_asm) (News.two (by k_asm) (mhd _) (fun p9 h9 => (mtl _ (mtl _ (mtl _ (mtl _ h9)))))) (by first | assumption | exact tb_ltOf (And.right (by assumption)) | exact tb_ltOf (And.right (And.right (by assumption))) | exact tb_ltOf (And.right (And.right (And.right (by assumption)))))
      | exact ret _ _ _ _ _ (by k_asm) (News.two (by k_asm) (mtl _ (mhd _)) (fun p9 h9 => (mtl _ (mtl _ (mtl _ (mtl _ h9)))))) (by first | assumption | exact tb_ltOf (And.right (by assumption)) | exact tb_ltOf (And.right (And.right (by assumption))) | exact tb_ltOf (And.right (And.right (And.right (by assumption)))))
      | exact ret _ _ _ _ _ (by k_asm) (News.two (by k_asm) (mtl _ (mtl _ (mhd _))) (fun p9 h9 => (mtl _ (mtl _ (mtl _ (mtl _ h9)))))) (by first | assumption | exact tb_ltOf (And.right (by assumption)) | exact tb_ltOf (And.right (And.right (by assumption))) | exact tb_ltOf (And.right (And.right (And.right (by assumption)))))
      | exact ret _ _ _ _ _ (by k_asm) (News.two (by k_asm) (mtl _ (mtl _ (mtl _ (mhd _)))) (fun p9 h9 => (mtl _ (mtl _ (mtl _ (mtl _ h9)))))) (by first | assumption | exact tb_ltOf (And.right (by assumption)) | exact tb_ltOf (And.right (And.right (by assumption))) | exact tb_ltOf (And.right (And.right (And.right (by assumption)))))
      | exact ret _ _ _ _ _ (by k_asm) (News.two (by k_asm) (mhd _) (fun p9 h9 => (mtl _ (mtl _ (mtl _ (mtl _ (mtl _ h9))))))) (by first | assumption | exact tb_ltOf (And.right (by assumption)) | exact tb_ltOf (And.right (And.right (by assumption))) | exact tb_ltOf (And.right (And.right (And.right (by assumption)))))
      | exact ret _ _ _ _ _ (by k_asm) (News.two (by k_asm) (mtl _ (mhd _)) (fun p9 h9 => (mtl _ (mtl _ (mtl _ (mtl _ (mtl _ h9))))))) (by first | assumption | exact tb_ltOf (And.right (by assumption)) | exact tb_ltOf (And.right (And.right (by assumption))) | exact tb_ltOf (And.right (And.right (And.right (by assumption)))))
      | exact ret _ _ _ _ _ (by k_asm) (News.two (by k_asm) (mtl _ (mtl _ (mhd _))) (fun p9 h9 => (mtl _ (mtl _ (mtl _ (mtl _ (mtl _ h9))))))) (by first | assumption | exact tb_ltOf (And.right (by assumption)) | exact tb_ltOf (And.right (And.right (by assumption))) | exact tb_ltOf (And.right (And.right (And.right (by assumption)))))
      | exact ret _ _ _ _ _ (by k_asm) (News.two (by k_asm) (mtl _ (mtl _ (mtl _ (mhd _)))) (fun p9 h9 => (mtl _ (mtl _ (mtl _ (mtl _ (mtl _ h9))))))) (by first | assumption | exact tb_ltOf (And.right (by assumption)) | exact tb_ltOf (And.right (And.right (by assumption))) | exact tb_ltOf (And.right (And.right (And.right (by assumption)))))
      | exact ret _ _ _ _ _ (by k_asm) (News.two (by k_asm) (mtl _ (mtl _ (mtl _ (mtl _ (mhd _))))) (fun p9 h9 => (mtl _ (mtl _ (mtl _ (mtl _ (mtl _ h9))))))) (by first | assumption | exact tb_ltOf (And.right (by assumption)) | exact tb_ltOf (And.right (And.right (by assumption))) | exact tb_ltOf (And.right (And.right (And.right (by assumption)))))) := trivial
  unfold id at h9; exact h9.get
theorem g_coin_5 (B : Below A₀ base outer h₀) (F : Fr h₀ L s.heap m) (X : (hd.heap_1 w.params).In h₀) (N : News h₀ L s.heap news) (T : Top p loose mean mg mb h₀) (hk : cs.kind = .function) {t0 : Nat} (hroom : dp + 6 < recursionLimit) (hu : un + 300 < cLine)
   (ret : ∀ h' tk' q (t1 t2 : Nat), Fr h₀ L h' m → News h₀ L h' ((q, ({ cls := .type "tuple", data := .seq #[.int 2 t1, .int 3 t2] } : Obj)) :: news) → (∀ r ∈ news, r.1 < q) → Q (.ref q) { s with heap := h', toks := tk' }) :
   wpAny (model prog w) (ktrTop dp un gd cn cs L a ccd cl outer) (call (.ref 272) [.int 5 t0, .ref 521]) Q E s := by
  obtain h9 : Tag9 (P := wpAny (model prog w) (ktrTop dp un gd cn cs L a ccd cl outer) (call (.ref 272) [.int 5 t0, .ref 521]) Q E s) (by
    refine wpAny_call ?_
    k_dflt k_enter
    k_steps
    all_goals first
      | exact ret _ _ _ _ _ (by k_asm) (News.two (by k_asm) (mhd _) (fun p9 h9 => (mtl _ (mtl _ (mtl _ h9))))) (by first | assumption | exact tb_ltOf (And.right (by assumption)) | exact tb_ltOf (And.right (And.right (by assumption))) | exact tb_ltOf (And.right (And.right (And.right (by assumption)))))
      | exact ret _ _ _ _ _ (by k_asm) (News.two (by k_asm) (mtl _ (mhd _)) (fun p9 h9 => (mtl _ (mtl _ (mtl _ h9))))) (by first | assumption | exact tb_ltOf (And.right (by assumption)) | exact tb_ltOf (And.right (And.right (by assumption))) | exact tb_ltOf (And.right (And.right (And.right (by assumption)))))
      | exact ret _ _ _ _ _ (by k_asm) (News.two (by k_asm) (mtl _ (mtl _ (mhd _))) (fun p9 h9 => (mtl _ (mtl _ (mtl _ h9))))) (by first | assumption | exact tb_ltOf (And.right (by assumption)) | exact tb_ltOf (And.right (And.right (by assumption))) | exact tb_ltOf (And.right (And.right (And.right (by assumption)))))
      | exact ret _ _ _ _ _ (by k_asm) (News.two (by k_asm) (mhd _) (fun p9 h9 => (mtl _ (mtl _ (mtl _ (mtl _ h9)))))) (by first | assumption | exact tb_ltOf (And.right (by assumption)) | exact tb_ltOf (And.right (And.right (by assumption))) | exact tb_ltOf (And.right (And.right (And.right (by assumption)))))
      | exact ret _ _ _ _ _ (by k_asm) (News.two (by k_asm) (mtl _ (mhd _)) (fun p9 h9 => (mtl _ (mtl _ (mtl _ (mtl _ h9)))))) (by first | assumption | exact tb_ltOf (And.right (by assumption)) | exact tb_ltOf (And.right (And.right (by assumption))) | exact tb_ltOf (And.right (And.right (And.right (by assumption)))))
      | exact ret _ _ _ _ _ (by k_asm) (News.two (by k_asm) (mtl _ (mtl _ (mhd _))) (fun p9 h9 => (mtl _ (mtl _ (mtl _ (mtl _ h9)))))) (by first | assumption | exact tb_ltOf (And.right (by assumption)) | exact tb_ltOf (And.right (And.right (by assumption))) | exact tb_ltOf (And.right (And.right (And.right (by assumption)))))
      | exact ret _ _ _ _ _ (by k_asm) (News.two (by k_asm) (mtl _ (mtl _ (mtl _ (mhd _)))) (fun p9 h9 => (mtl _ (mtl _ (mtl _ (mtl _ h9)))))) (by first | assumption | exact tb_ltOf (And.right (by assumption)) | exact tb_ltOf (And.right (And.right (by assumption))) | exact tb_ltOf (And.right (And.right (And.right (by assumption)))))
      | exact ret _ _ _ _ _ (by k_asm) (News.two (by k_asm) (mhd _) (fun p9 h9 => (mtl _ (mtl _ (mtl _ (mtl _ (mtl _ h9))))))) (by first | assumption | exact tb_ltOf (And.right (by assumption)) | exact tb_ltOf (And.right (And.right (by assumption))) | exact tb_ltOf (And.right (And.right (And.right (by assumption)))))
      | exact ret _ _ _ _ _ (by k_asm) (News.two (by k_asm) (mtl _ (mhd _)) (fun p9 h9 => (mtl _ (mtl _ (mtl _ (mtl _ (mtl _ h9))))))) (by first | assumption | exact tb_ltOf (And.right (by assumption)) | exact tb_ltOf (And.right (And.right (by assumption))) | exact tb_ltOf (And.right (And.right (And.right (by assumption)))))
      | exact ret _ _ _ _ _ (by k_asm) (News.two (by k_asm) (mtl _ (mtl _ (mhd _))) (fun p9 h9 => (mtl _ (mtl _ (mtl _ (mtl _ (mtl _ h9))))))) (by first | assumption | exact tb_ltOf (And.right (by assumption)) | exact tb_ltOf (And.right (And.right (by assumption))) | exact tb_ltOf (And.right (And.right (And.right (by assumption)))))
      | exact ret _ _ _ _ _ (by k_asm) (News.two (by k_asm) (mtl _ (mtl _ (mtl _ (mhd _)))) (fun p9 h9 => (mtl _ (mtl _ (mtl _ (mtl _ (mtl _ h9))))))) (by first | assumption | exact tb_ltOf (And.right (by assumption)) | exact tb_ltOf (And.right (And.right (by assumption))) | exact tb_ltOf (And.right (And.right (And.right (by assumption)))))
      | exact ret _ _ _ _ _ (by k_asm) (News.two (by k_asm) (mtl _ (mtl _ (mtl _ (mtl _ (mhd _))))) (fun p9 h9 => (mtl _ (mtl _ (mtl _ (mtl _ (mtl _ h9))))))) (by first | assumption | exact tb_ltOf (And.right (by assumption)) | exact tb_ltOf (And.right (And.right (by assumption))) | exact tb_ltOf (And.right (And.right (And.right (by assumption)))))) := trivial
  unfold id at h9; exact h9.get
example : True := by
  w_top off
  k_with "eval BinOp" => w_strict (k_fold)
  k_with "eval Call" => w_strict (k_fold)
  k_with "eval Call Attribute" => w_strict (k_fold)
  k_with "eval Attribute Name" => w_strict (k_fold)
  k_with "eval Subscript" => w_strict (k_fold)
  k_with "eval Attribute Attribute" => w_strict (k_fold)
  k_with "getAttr ref" => w_strict (k_fold)
  k_with "eval Tuple" => w_strict (k_fold)
  k_with "assignInOrder" => w_strict (k_fold)
  k_with "exec Assign" => w_strict (k_fold)
  k_with "isTrue BoolOp" => w_strict (k_fold)
  k_with "isTrue Compare" => w_strict (k_fold)
  k_with "callWith ref" => w_strict (k_fold)
  trivial
/-- the ledger bears a point -/
noncomputable def PtAt (news : List (Addr × Obj)) (a : Addr) (p : Int × Int) : Prop := ∃ t u, PtIn news a p.1 t p.2 u
theorem PtAt.mono {news news' : List (Addr × Obj)} {a : Addr} {p : Int × Int} (h : PtAt news a p) (hs : ∀ q ∈ news, q ∈ news') : PtAt news' a p := let ⟨t, u, m⟩ := h; ⟨t, u, m.mono hs⟩
theorem pt_eqAt {A : Around} {s : Shared} {K : Frag} {h₀ : Heap} {L pa pb : Addr} {news : List (Addr × Obj)} {p q : Int × Int} (hu : A.units < cLine) (X : K.In s.heap) (N : News h₀ L s.heap news) (ha : PtAt news pa p) (hb : PtAt news pb q)
    (e : subIn K (.ref 132) (.type "tuple") = some true) (hs : findIn K (.ref 132) "__eq__" = some (some (.builtin "tuple.__eq__"))) : SeqAt.EqAt A s (.ref pa) (.ref pb) (decide (p = q)) := by
  obtain ⟨t1, u1, m1⟩ := ha
  obtain ⟨t2, u2, m2⟩ := hb
  by_cases hab : pa = pb
  · subst hab
    have y1 := (N _ m1.choose_spec.1).1
    have y2 := (N _ m2.choose_spec.1).1
    rw [y1] at y2
    have z : p = q := by
      injection (Option.some.inj y2) with _ _ z _
      injection z with z _
      have z2 := congrArg Array.toList z
      simp only [List.cons.injEq, Value.int.injEq, and_true] at z2
      exact Prod.ext z2.1.1 z2.2.1
    rw [decide_eq_true z]
    exact SeqAt.EqAt.same _
  · refine SeqAt.EqAt.of_refs hab fun prog w E Q hq => pt_eq hu X (pt_at N m1) (pt_at N m2) e hs ?_
    have z : decide (p.1 = q.1 ∧ p.2 = q.2) = decide (p = q) := by
      by_cases h : p = q
      · rw [decide_eq_true h, decide_eq_true ⟨congrArg Prod.fst h, congrArg Prod.snd h⟩]
      · rw [decide_eq_false h, decide_eq_false fun z => h (Prod.ext z.1 z.2)]
    rw [z]; exact hq
theorem listAt {h₀ h : Heap} {L l : Addr} {news : List (Addr × Obj)} {items : Array Value} {k : Nat} (N : News h₀ L h news) (m : (l, W.listOf items k) ∈ news) : h.IsList l items := ⟨_, (N _ m).1, rfl, k, rfl⟩
noncomputable abbrev PP := Addr × (Int × Int)
noncomputable def refs (ps : List PP) : List Value := ps.map fun x => .ref x.1
theorem refs_nil : refs [] = [] := rfl
theorem refs_cons (x : PP) (ps : List PP) : refs (x :: ps) = .ref x.1 :: refs ps := rfl
theorem refs_length (ps : List PP) : (refs ps).length = ps.length := List.length_map ..
theorem refs_take (ps : List PP) (i : Nat) : refs (ps.take i) = (refs ps).take i := List.map_take ..
theorem notin_pts {prog : Program} {w : World} {A : Around} {E : Value → Shared → Prop} {s : Shared} {K : Frag} {h₀ : Heap} {L l pa : Addr} {news : List (Addr × Obj)} {ps : List PP} {k : Nat} {p : Int × Int} {Q : Value → Shared → Prop}
    (hu : A.units + 1 < cLine) (X : K.In s.heap) (N : News h₀ L s.heap news) (ml : (l, W.listOf (refs ps).toArray k) ∈ news) (hp : ∀ q ∈ ps, PtAt news q.1 q.2) (ha : PtAt news pa p) (hne : ∀ q ∈ ps, q.2 ≠ p)
    (e : subIn K (.ref 132) (.type "tuple") = some true) (hs : findIn K (.ref 132) "__eq__" = some (some (.builtin "tuple.__eq__"))) (h : Q (.bool true) s) : wpAny (model prog w) A (compareOp .NotIn (.ref pa) (.ref l)) Q E s := by
  refine SeqAt.notIn_listAt (fun _ => false) (listAt N ml) (fun y hy => ?_) ?_
  · simp only [refs, List.mem_toArray, List.mem_map] at hy
    obtain ⟨q, hq, rfl⟩ := hy
    have := pt_eqAt (A := A.in1) (s := s) (by rw [units_in1]; omega) X N (hp q hq) ha e hs
    rw [decide_eq_false (hne q hq)] at this
    exact this
  · have : ((refs ps).toArray.any fun _ => false) = false := by simp
    rw [this]; exact h
example : True := by
  w_top off
  trivial
noncomputable def GrowPost (h₀ : Heap) (L : Addr) (y : Str) (r : Addr) (out : List Value) (rest : List (Addr × Obj)) (s₁ : Shared) (f : Flow) (s₂ : Shared) : Prop :=
  match f with
  | .ret _ => False
  | .brk => False
  | _ => ∃ h' tk m' news' c, s₂ = { s₁ with heap := h', toks := tk } ∧ Fr h₀ L h' m' ∧ m' y = some (.ref r) ∧ News h₀ L h' news' ∧ (r, W.listOf out.toArray c) ∈ news' ∧ ∀ p ∈ rest, p ∈ news'
theorem GrowPost.go {h₀ h' : Heap} {L r : Addr} {y : Str} {out : List Value} {rest news' : List (Addr × Obj)} {s₁ : Shared} {m' : Str → Option Value} {tk c : Nat} (F : Fr h₀ L h' m') (N : News h₀ L h' news') (hm : m' y = some (.ref r)) (hr : (r, W.listOf out.toArray c) ∈ news') (hs : ∀ p ∈ rest, p ∈ news') : GrowPost h₀ L y r out rest s₁ .next { s₁ with heap := h', toks := tk } :=
  ⟨h', tk, m', news', c, rfl, F, hm, N, hr, hs⟩
theorem iter_grow {prog : Program} {w : World} {A : Around} {E : Value → Shared → Prop} {s : Shared} {env : Env} {h₀ : Heap} {x y : Str} {body : List Stmt} {Q : Flow → Shared → Prop} {lp r : Addr} {vs : List Value} {nn c0 : Nat} {m₀ : Str → Option Value} {news : List (Addr × Obj)}
    (hxy : y ≠ x) (F : Fr h₀ env.locals s.heap m₀) (N : News h₀ env.locals s.heap ((r, W.listOf #[] c0) :: news)) (hy : m₀ y = some (.ref r)) (hl : (lp, W.listOf vs.toArray nn) ∈ news) (hr : ∀ p ∈ news, p.1 < r) (hh : A.handled = none)
    (turn : ∀ i v c (u : Str → Option Value) h tk rest, vs[i]? = some v → Fr h₀ env.locals h (fun z => if z = x then some v else if z = y then some (.ref r) else u z) → News h₀ env.locals h ((r, W.listOf (vs.take i).toArray c) :: rest) → (∀ p ∈ rest, p.1 ≠ r) → (∀ p ∈ news, p ∈ rest) →
      wpAny (model prog w) A (execs body env) (GrowPost h₀ env.locals y r (vs.take (i + 1)) rest { s with heap := h, toks := tk }) E { s with heap := h, toks := tk })
    (done : ∀ c (u : Str → Option Value) h tk, Fr h₀ env.locals h (fun z => if z = y then some (.ref r) else u z) → News h₀ env.locals h ((r, W.listOf vs.toArray c) :: news) → Q .next { s with heap := h, toks := tk }) :
    wpAny (model prog w) A (pyIter (.ref lp)) (fun it s₂ => LoopAtV prog w A h₀ env x body Q E it s₂) E s := by
  refine kdl_iter (vs := vs) (nn := nn) (m₀ := m₀) (news := (r, W.listOf #[] c0) :: news) (fun i m₁ nx => m₁ y = some (.ref r) ∧ (∃ c, (r, W.listOf (vs.take i).toArray c) ∈ nx) ∧ ∀ p ∈ news, p ∈ nx) hh (.tail _ hl) F N ⟨hy, ⟨c0, by simpa using mhd _⟩, fun p hp => .tail _ hp⟩ ?_ ?_
  · rintro i v m₁ news₁ h tk own hv hoff hl₁ ⟨hm, ⟨c, hc⟩, hs⟩ F₁ N₁
    have er : (fun z => if z = x then some v else if z = y then some (.ref r) else m₁ z) = fun z => if z = x then some v else m₁ z := by
      funext z
      by_cases h1 : z = x
      · simp [h1]
      · by_cases h2 : z = y
        · subst h2; simp [h1, hm]
        · simp [h1, h2]
    have N₂ : News h₀ env.locals h ((r, W.listOf (vs.take i).toArray c) :: (news₁ ++ own).filter fun p => decide (p.1 ≠ r)) := fun p hp => by
      rcases List.mem_cons.mp hp with rfl | hp
      · exact N₁ _ (List.mem_append.mpr (.inl hc))
      · exact N₁ _ (List.mem_filter.mp hp).1
    have hlr : lp < r := hr _ hl
    refine wpAny_mono (turn i v c m₁ h tk _ hv (by rw [er]; exact F₁) N₂ (fun p hp => of_decide_eq_true (List.mem_filter.mp hp).2) fun p hp => List.mem_filter.mpr ⟨List.mem_append.mpr (.inl (hs p hp)), decide_eq_true (Nat.ne_of_lt (hr p hp))⟩) (fun f s₂ z => ?_) fun _ _ z => z
    have fin : (∃ h' tk' m' news' c, s₂ = { ({ s with heap := h, toks := tk } : Shared) with heap := h', toks := tk' } ∧ Fr h₀ env.locals h' m' ∧ m' y = some (.ref r) ∧ News h₀ env.locals h' news' ∧ (r, W.listOf (vs.take (i + 1)).toArray c) ∈ news' ∧ ∀ p ∈ (news₁ ++ own).filter (fun p => decide (p.1 ≠ r)), p ∈ news') →
        InvEndG h₀ env.locals (fun m' nx => (lp, W.listOf vs.toArray nn) ∈ nx ∧ m' y = some (.ref r) ∧ (∃ c, (r, W.listOf (vs.take (i + 1)).toArray c) ∈ nx) ∧ ∀ p ∈ news, p ∈ nx) own { s with heap := h, toks := tk } s₂ := by
      rintro ⟨h', tk', m', news', c', rfl, F', hm', N', hr', hs'⟩
      have hrn : r ∈ news₁.map (·.1) := List.mem_map.mpr ⟨_, hc, rfl⟩
      refine InvEndG.intro (nx := (r, W.listOf (vs.take (i + 1)).toArray c') :: news₁.filter fun p => decide (p.1 ≠ r)) F' N' ⟨.tail _ (List.mem_filter.mpr ⟨hl₁, decide_eq_true (Nat.ne_of_lt hlr)⟩), hm', ⟨c', .head _⟩, fun p hp => .tail _ (List.mem_filter.mpr ⟨hs p hp, decide_eq_true (Nat.ne_of_lt (hr p hp))⟩)⟩ (fun p hp b hb => ?_) (fun p hp => ?_) (fun p hp => ?_)
      · rcases List.mem_cons.mp hb with rfl | hb
        · exact hoff p hp _ hrn
        · obtain ⟨q, hq, rfl⟩ := List.mem_map.mp hb
          exact hoff p hp _ (List.mem_map.mpr ⟨q, (List.mem_filter.mp hq).1, rfl⟩)
      · rcases List.mem_cons.mp hp with rfl | hp
        · exact hr'
        · exact hs' p (List.mem_filter.mpr ⟨List.mem_append.mpr (.inl (List.mem_filter.mp hp).1), (List.mem_filter.mp hp).2⟩)
      · exact hs' p (List.mem_filter.mpr ⟨List.mem_append.mpr (.inr hp), decide_eq_true (hoff p hp _ hrn)⟩)
    cases f with
    | ret _ => exact z.elim
    | brk => exact z.elim
    | next => exact fin z
    | cont => exact fin z
  · rintro m₁ nx h tk ⟨hm, ⟨c, hc⟩, hs⟩ F₁ N₁
    rw [List.take_length] at hc
    have er : (fun z => if z = y then some (.ref r) else m₁ z) = m₁ := by
      funext z
      by_cases h2 : z = y
      · subst h2; simp [hm]
      · simp [h2]
    refine done c m₁ h tk (by rw [er]; exact F₁) fun p hp => ?_
    rcases List.mem_cons.mp hp with rfl | hp
    · exact N₁ _ hc
    · exact N₁ _ (hs p hp)
example : True := by
  k_with "exec For Name Name cons nil" => w_strict (k_here; (rename Fr _ _ _ _ => lF'); (with_unfolding_all refine For_invVF lF' (by exact rfl) (by exact rfl) ?_; k_whole))
  k_with "pyIter ref" => w_strict (k_here; (with_reducible show wpAny _ _ (pyIter _) _ _ _); refine Halt.of ?_)
  k_with "call builtin:list.append" => w_strict (k_here; (with_reducible show wpAny _ _ (call (Value.builtin _) [Value.ref _, _]) _ _ _); k_dflt (refine append_K (by k_asm) (by k_asm) (Upd.head ‹_›) ?_ ‹_›; k_whole); intro _ _ _; (try k_sweep))
  k_with "compareOp NotIn ref ref" => w_strict (k_here; k_dflt (refine notin_pts (by ktr_units) (by k_in) (by k_asm) (by k_mem) (by first | assumption | (intro z9 hz9; refine PtAt.mono ?_ (fun p9 hp9 => mcm _ hp9); revert z9 hz9; assumption)) (by first | assumption | exact PtAt.mono ‹_› (fun p9 hp9 => mcm _ hp9)) ‹_› (by k_is) (by k_is) ?_; k_whole))
  trivial
theorem g_distinct {lp : Addr} {ps : List PP} {k0 : Nat} (B : Below A₀ base outer h₀) (F : Fr h₀ L s.heap m) (X : (hd.heap_1 w.params).In h₀) (N : News h₀ L s.heap news) (T : Top p loose mean mg mb h₀) (hk : cs.kind = .function) (ml : (lp, W.listOf (refs ps).toArray k0) ∈ news) (hp : ∀ q ∈ ps, PtAt news q.1 q.2) (hnd : ps.Pairwise fun a b => a.2 ≠ b.2) (hlen : ps.length ≤ 16) (hroom : dp + 6 < recursionLimit) (hu : un + 300 < cLine)
   (ret : ∀ h' tk' r c, Fr h₀ L h' m → News h₀ L h' ((r, W.listOf (refs ps).toArray c) :: news) → (∀ p ∈ news, p.1 < r) → Q (.ref r) { s with heap := h', toks := tk' }) :
   wpAny (model prog w) (ktrTop dp un gd cn cs L a ccd cl outer) (call (.ref 432) [.ref lp]) Q E s := by
  obtain h9 : Tag9 (P := wpAny (model prog w) (ktrTop dp un gd cn cs L a ccd cl outer) (call (.ref 432) [.ref lp]) Q E s) (by
    refine wpAny_call ?_
    k_dflt k_enter
    k_steps
    unfold Halt
    refine' iter_grow (y := "result") (vs := refs ps) (by decide) ?F ?N ?hy ?hl ?hr rfl ?turn ?done
    case F => k_asm
    case N => assumption
    case hy => rfl
    case hl => assumption
    case hr => assumption
    case turn =>
      intro i v c u h' tk' rest hv F' N' hrr hsub
      have hv' : ∃ q, ps[i]? = some q ∧ v = .ref q.1 := by
        unfold refs at hv
        rw [List.getElem?_map] at hv
        cases e : ps[i]? with
        | none => rw [e] at hv; cases hv
        | some q => rw [e] at hv; exact ⟨q, rfl, (Option.some.inj hv).symm⟩
      obtain ⟨q, hq, rfl⟩ := hv'
      have hout : ((refs ps).take (i + 1)) = (refs ps).take i ++ [.ref q.1] := by rw [List.take_add_one, hv]; rfl
      rw [hout]
      rw [← refs_take] at N' ⊢
      have hp' : ∀ z ∈ ps.take i, PtAt rest z.1 z.2 := fun z hz => (hp z (List.mem_of_mem_take hz)).mono hsub
      have ha' : PtAt rest q.1 q.2 := (hp q (List.mem_of_getElem? hq)).mono hsub
      have hne' : ∀ z ∈ ps.take i, z.2 ≠ q.2 := fun z hz => by
        obtain ⟨j, hj⟩ := List.mem_iff_getElem?.mp hz
        rw [List.getElem?_take] at hj
        split at hj
        · rename_i hji
          exact List.pairwise_iff_getElem.mp hnd j i (List.getElem?_eq_some_iff.mp hj).1 (List.getElem?_eq_some_iff.mp hq).1 hji |> fun z => by rwa [(List.getElem?_eq_some_iff.mp hj).2, (List.getElem?_eq_some_iff.mp hq).2] at z
        · cases hj
      have hpush : (refs (ps.take i) ++ [Value.ref q.1]).toArray = (refs (ps.take i)).toArray.push (Value.ref q.1) := by simp
      have hz : (refs (ps.take i)).toArray.size ≤ sizeLine := by simp only [List.size_toArray, refs_length, List.length_take]; rw [sizeLine_eq]; omega
      k_steps
      refine' GrowPost.go ?F1 ?N1 ?hm1 ?hr1 ?hs1
      case F1 => k_asm
      case N1 => k_asm
      case hm1 => rfl
      case hr1 => rw [hpush]; exact mhd _
      case hs1 => exact fun p hp => mtl _ hp
    case done =>
      intro c u h' tk' F' N'
      k_steps
      exact ret _ _ _ _ (by k_asm) (by k_asm) (by assumption)) := trivial
  unfold id at h9; exact h9.get
example : True := by
  w_top off
  k_with_none
  k_with "inst9" => first | ((with_reducible show InstAt _ (@OfNat.ofNat _ _ _) _ _ _); refine InstAt.of_K (by first | assumption | exact Frag.In.keeps (by k_asm) (Fr.keep (by k_asm))) (by k_is) (by k_is)) | (refine InstAt.of_news (by k_asm) (by k_mem) (by k_mem))
  k_with "e9" => (first | (refine code_def (by k_asm) (by k_asm) (by k_asm) (by k_asm) (by k_asm) rfl rfl (by first | exact rfl | assumption) (by k_is) (by k_is) (by ktr_room) (by first | exact BindsTo.of_eq rfl | refine kp_binds (by k_in) (by exact fun _ => rfl)) (by exact locs rfl) ?_ (by exact rfl) (by exact rfl) (by exact rfl) (by decide); k_whole; intro _ _ _ _ _ _ _ _ _; (try dsimp only); (try k_fold)) | (refine code_defC (by k_asm) (by k_asm) (by k_asm) (by k_asm) (by k_asm) rfl rfl (by first | exact rfl | assumption) (by k_is) (by k_is) (by ktr_room) (by first | exact BindsTo.of_eq rfl | refine kp_binds (by k_in) (by exact fun _ => rfl)) (by exact rfl) (by decide +kernel) ?_ (by exact rfl) (by exact rfl) (by exact rfl); k_whole; intro _ _ _ _ _ _ _ N' Y' _ _ _ l1; (try k_lt l1); (try dsimp only); (try k_fold); (first | k_cells Y' | (obtain ⟨_, _, _, _, _, hE', _, _, _, _, _⟩ := cells_five Y'; subst hE'; clear Y')); (try simp only [List.cons_append, List.nil_append] at N'); (try dsimp only); (try k_fold); (try (revert N'; intro _)); (try (revert l1; intro _))))
  k_with "ne9" => (refine neN ?_; (try dsimp only); with_reducible first | exact neU1 | exact neU2 | exact neU3 | exact neU4 | exact neD1 | exact neD2 | exact neD3 | exact neD4 | exact Nat.ne_of_gt ‹_› | exact Nat.ne_of_lt ‹_› | exact gtA1 ‹_› | exact Ne.symm (gtA1 ‹_›) | exact gtA2 ‹_› | exact Ne.symm (gtA2 ‹_›) | exact gtA3 ‹_› | exact Ne.symm (gtA3 ‹_›) | exact gtA4 ‹_› | exact Ne.symm (gtA4 ‹_›) | exact gtA5 ‹_› | exact Ne.symm (gtA5 ‹_›) | exact gtA6 ‹_› | exact Ne.symm (gtA6 ‹_›) | exact gtA7 ‹_› | exact Ne.symm (gtA7 ‹_›) | exact gtA8 ‹_› | exact Ne.symm (gtA8 ‹_›) | exact gtA9 ‹_› | exact Ne.symm (gtA9 ‹_›) | exact gtA10 ‹_› | exact Ne.symm (gtA10 ‹_›) | exact gtA11 ‹_› | exact Ne.symm (gtA11 ‹_›) | exact gtA12 ‹_› | exact Ne.symm (gtA12 ‹_›))
  k_with "room9" => (first | exact room2 ‹_› (by exact rfl) | exact room1 ‹_› (by exact rfl) | exact room0 ‹_›)
  k_with "units9" => (first | exact unit2 ‹_› (by exact rfl) | exact unit1 ‹_› (by exact rfl) | exact unit0 ‹_›)
  k_with "mem9" => (first | with_reducible assumption | with_reducible exact at0 | with_reducible exact at1 | with_reducible exact at2 | with_reducible exact at3 | with_reducible exact at4 | with_reducible exact at5 | with_reducible exact at6 | with_reducible exact at7 | with_reducible exact at8 | with_reducible exact at9 | with_reducible exact at10 | with_reducible exact at11 | with_reducible exact at12 | with_reducible exact at13 | with_reducible exact at14 | exact up1 (by with_reducible assumption) | exact up2 (by with_reducible assumption) | exact up3 (by with_reducible assumption) | exact up4 (by with_reducible assumption) | exact up5 (by with_reducible assumption) | exact up6 (by with_reducible assumption) | assumption)
  k_with "mul9" => (first | exact Bd.ok1 ‹_› ‹_› ‹_› ‹_› | exact Bd.ok2 ‹_› ‹_› ‹_› ‹_› ‹_› ‹_› ‹_› ‹_› ‹_› ‹_› ‹_› ‹_› ‹_› ‹_› ‹_› ‹_›)
  k_with "execs cons" => w_strict (refine wpAny_execs_cons ?_; (try k_fold))
  k_with "eval BinOp" => w_strict (k_fold)
  k_with "eval Call" => w_strict (k_fold)
  k_with "eval Call Attribute" => w_strict (k_fold)
  k_with "eval Attribute Name" => w_strict (k_fold)
  k_with "eval Subscript" => w_strict (k_fold)
  k_with "eval Attribute Attribute" => w_strict (k_fold)
  k_with "getAttr ref" => w_strict (k_fold)
  k_with "eval Tuple" => w_strict (k_fold)
  k_with "assignInOrder" => w_strict (k_fold)
  k_with "exec Assign" => w_strict (k_fold)
  k_with "isTrue BoolOp" => w_strict (k_fold)
  k_with "isTrue Compare" => w_strict (k_fold)
  k_with "callWith ref" => w_strict (k_fold)
  trivial
noncomputable abbrev lxB (p q : Int × Int) : Bool := decide (p.1 < q.1 ∨ (p.1 = q.1 ∧ p.2 < q.2))
theorem lxB_00 {p q : Int × Int} (h1 : p.1 = q.1) (h2 : p.2 = q.2) : lxB p q = false := decide_eq_false fun z => z.elim (fun z => Int.ne_of_lt z h1) fun z => Int.ne_of_lt z.2 h2
theorem lxB_eq {p q : Int × Int} (h1 : p.1 = q.1) : lxB p q = decide (p.2 < q.2) := decide_eq_decide.mpr ⟨fun z => z.elim (fun z => absurd h1 (Int.ne_of_lt z)) And.right, fun z => .inr ⟨h1, z⟩⟩
theorem lxB_ne {p q : Int × Int} (h1 : ¬ p.1 = q.1) : lxB p q = decide (p.1 < q.1) := decide_eq_decide.mpr ⟨fun z => z.elim id fun z => absurd z.1 h1, .inl⟩
section
variable {prog : Program} {w : World} {A : Around} {E : Value → Shared → Prop} {s : Shared} {K : Frag} {pa pb : Addr} {x1 y1 x2 y2 : Int} {t1 u1 t2 u2 : Tok} {d1 d2 : Addr} {od1 od2 : Option Obj}
theorem pt_lt_run {P : Fin → Shared → Prop} (X : K.In s.heap) (Ia : InstAt s.heap pa (ptObj d1 x1 t1 y1 u1) 132 od1) (Ib : InstAt s.heap pb (ptObj d2 x2 t2 y2 u2) 132 od2) (e : subIn K (.ref 132) (.type "tuple") = some true)
    (h : P (.done (.ret (.bool (lxB (x1, y1) (x2, y2))))) s) : wpAny (model prog w) A (Builtin.«tuple.__lt__» ⟨[.ref pa, .ref pb], []⟩) P E s := by
  obtain h9 : Tag9 (P := wpAny (model prog w) A (Builtin.«tuple.__lt__» ⟨[.ref pa, .ref pb], []⟩) P E s) (by
    have hi : Looks (model prog w) s.heap (isInstance (.ref pb) (.type "tuple")) true := Ib.type.andThen (looks_subIn X e)
    show wpAny _ _ (isInstance (.ref pb) (.type "tuple") >>= _) _ _ s
    refine wpAny_bind (hi.here ?_)
    simp only [Bool.not_true, Bool.false_eq_true, if_false]
    refine wpAny_bind (wpAny_tupleItemsOf Ia.at_ rfl ?_)
    refine wpAny_bind (wpAny_tupleItemsOf Ib.at_ rfl ?_)
    refine wpAny_bind ?_
    show wpAny _ _ (forIn [(Value.int x1 t1, Value.int x2 t2), (Value.int y1 u1, Value.int y2 u2)] _ _) _ _ _
    rw [List.forIn_cons]
    refine wpAny_bind (wpAny_bind (wpAny_eqBool_int ?_))
    by_cases h1 : x1 = x2
    · rw [beq_iff_eq.mpr h1]
      refine wpAny_pure ?_
      dsimp only
      rw [List.forIn_cons]
      refine wpAny_bind (wpAny_bind (wpAny_eqBool_int ?_))
      by_cases h2 : y1 = y2
      · rw [beq_iff_eq.mpr h2]
        refine wpAny_pure ?_
        dsimp only
        rw [List.forIn_nil]
        refine wpAny_pure ?_
        have z : lxB (x1, y1) (x2, y2) = false := lxB_00 h1 h2
        rw [z] at h
        exact wpAny_bind (wpAny_pure (wpAny_pure h))
      · rw [beq_eq_false_iff_ne.mpr h2]
        have z : lxB (x1, y1) (x2, y2) = decide (y1 < y2) := lxB_eq h1
        rw [z] at h
        refine wpAny_bind ?_
        refine wpAny_rule ?_
        refine wpAny_bind ?_
        have := wpAny_lt_int (prog := prog) (w := w) (A := A) (E := E) (s := s) (a := y1) (b := y2) (t := u1) (u := u2) (Q := fun v s' => v = .bool (decide (y1 < y2)) ∧ s' = s) ⟨rfl, rfl⟩
        refine wpAny_mono (show wpAny (model prog w) A (richCompare .Lt (.int y1 u1) (.int y2 u2)) _ E s from this) (fun v s' z => ?_) fun _ _ e => e
        obtain ⟨rfl, rfl⟩ := z
        exact wpAny_bind (wpAny_pure (wpAny_pure (wpAny_pure (wpAny_pure h))))
    · rw [beq_eq_false_iff_ne.mpr h1]
      have z : lxB (x1, y1) (x2, y2) = decide (x1 < x2) := lxB_ne h1
      rw [z] at h
      refine wpAny_bind ?_
      refine wpAny_rule ?_
      refine wpAny_bind ?_
      have := wpAny_lt_int (prog := prog) (w := w) (A := A) (E := E) (s := s) (a := x1) (b := x2) (t := t1) (u := t2) (Q := fun v s' => v = .bool (decide (x1 < x2)) ∧ s' = s) ⟨rfl, rfl⟩
      refine wpAny_mono (show wpAny (model prog w) A (richCompare .Lt (.int x1 t1) (.int x2 t2)) _ E s from this) (fun v s' z => ?_) fun _ _ e => e
      obtain ⟨rfl, rfl⟩ := z
      exact wpAny_bind (wpAny_pure (wpAny_pure (wpAny_pure (wpAny_pure h))))) := trivial
  unfold id at h9; exact h9.get
theorem pt_keyLt {Q : Bool → Shared → Prop} (hu : A.units < cLine) (X : K.In s.heap) (Ia : InstAt s.heap pa (ptObj d1 x1 t1 y1 u1) 132 od1) (Ib : InstAt s.heap pb (ptObj d2 x2 t2 y2 u2) 132 od2) (e : subIn K (.ref 132) (.type "tuple") = some true)
    (hs : findIn K (.ref 132) "__lt__" = some (some (.builtin "tuple.__lt__"))) (h : Q (lxB (x1, y1) (x2, y2)) s) : wpAny (model prog w) A (keyLt' oneType' (.ref pa) (.ref pb)) Q E s := by
  rw [keyLt'_oneType, oneLt'_eq]
  simp only [if_true]
  refine wpAny_bind (wpAny_cRoomFor hu (wpAny_bind ?_))
  simp only [callSpecialIfBound?, bindSpecialIfBound?]
  refine wpAny_holding (wpAny_bind (wpAny_bind (wpAny_bind (Ia.type.here ((looks_findIn X hs).here ?_)))))
  refine wpAny_bind (wpAny_askSetting (wpAny_ite ?_))
  have fin : wpAny (model prog w) A (call (.builtin "tuple.__lt__") ([.ref pa] ++ [.ref pb]) >>= fun v => pure (some v)) (fun r s' => wpAny (model prog w) A (match r with | some .notImplemented | none => (do rule "list.sort.lt-declined"; truthOfDropped (← richCompare .Lt (.ref pa) (.ref pb))) | some r => truthOfDropped r) Q E s') E s := by
    refine wpAny_bind (wpAny_call (codeAny_call_builtin F.slot_tuple_lt.plain F.entry_tuple_lt ?_))
    refine @check_slot (model prog w) _ _ s "tuple.__lt__" "tuple" "__lt__" (.ref pa) [.ref pb] [] _ (by decide +kernel) (by decide +kernel) (Ia.type.andThen (looks_subIn X e)) (F.args_tuple_lt_2 _ _) ?_
    exact pt_lt_run X Ia Ib e (wpAny_pure (wpAny_truthy_bool h))
  split
  · exact wpAny_bind (wpAny_of_eq (F.slot_tuple_lt.bind (.ref pa)) (wpAny_pure fin))
  · exact wpAny_tryCatch (wpAny_bind (wpAny_of_eq (F.slot_tuple_lt.bind (.ref pa)) (wpAny_pure fin)))
end
example : True := by
  w_top off
  k_with "nl9" => first | assumption | exact Nat.sub_le _ _ | exact Nat.succ_pos _ | exact Nat.le_add_right _ _ | exact Nat.lt_succ_self _ | exact Nat.le_of_lt ‹_› | exact Nat.lt_of_succ_le ‹_› | exact Nat.le_of_lt_succ ‹_› | exact Nat.le_of_succ_le ‹_› | exact Nat.lt_of_succ_lt ‹_› | exact Nat.le_of_not_lt ‹_› | exact Nat.pos_of_ne_zero ‹_› | exact Nat.sub_lt ‹_› Nat.one_pos | exact Nat.lt_of_le_of_lt (Nat.sub_le _ _) ‹_› | exact Nat.lt_of_le_of_lt (Nat.sub_le _ _) (Nat.lt_of_succ_le (Nat.le_trans (Nat.succ_le_succ (Nat.le_add_right _ _)) ‹_›)) | exact Nat.add_sub_cancel' ‹_› | exact Nat.add_sub_cancel' (Nat.le_of_lt_succ ‹_›) | exact Nat.add_sub_cancel' (Nat.le_of_lt ‹_›) | exact Nat.sub_add_cancel ‹_› | exact Nat.sub_add_cancel (Nat.le_of_lt ‹_›) | exact Int.not_lt.mp ‹_› | exact Nat.le_trans ‹_› ‹_› | exact Nat.le_trans ‹_› (by decide) | exact Nat.le_trans (Nat.le_of_lt ‹_›) ‹_› | exact Nat.lt_of_lt_of_le ‹_› ‹_› | exact Nat.lt_of_lt_of_le ‹_› (by decide) | exact Nat.lt_of_lt_of_le (by decide) ‹_› | exact Nat.lt_of_lt_of_le ‹_› (Nat.le_add_right _ _) | exact Nat.lt_of_lt_of_eq ‹_› ‹_› | exact Nat.lt_of_lt_of_eq ‹_› (Eq.symm ‹_›) | exact Nat.lt_trans ‹_› ‹_› | exact Nat.add_lt_add_left ‹_› _ | exact Nat.lt_of_add_lt_add_left ‹_› | exact Nat.add_left_cancel ‹_› | exact Int.lt_of_le_of_ne ‹_› ‹_› | exact Int.lt_of_le_of_lt ‹_› ‹_› | exact Int.lt_of_lt_of_le ‹_› ‹_› | exact Int.le_trans (Int.le_of_lt ‹_›) ‹_› | exact Int.le_trans ‹_› (Int.not_lt.mp ‹_›) | exact Int.sub_pos_of_lt ‹_› | exact Int.sub_eq_zero_of_eq (Eq.symm ‹_›) | exact Int.add_pos_of_pos_of_nonneg ‹_› ‹_› | exact Int.add_pos_of_nonneg_of_pos ‹_› ‹_› | exact Int.ofNat_nonneg _ | exact Nat.le_antisymm ‹_› (Nat.le_of_not_lt ‹_›) | exact Nat.lt_of_le_of_ne ‹_› ‹_› | exact Nat.lt_of_le_of_ne ‹_› (Ne.symm ‹_›) | exact Nat.succ_le_of_lt (Nat.lt_of_le_of_ne ‹_› (Ne.symm ‹_›)) | exact Nat.succ_le_of_lt (Nat.lt_of_le_of_ne (Nat.succ_le_of_lt ‹_›) (Ne.symm ‹_›)) | (rw [Nat.add_sub_cancel' (Nat.le_of_lt_succ ‹_›)]; exact Nat.lt_of_lt_of_le ‹_› ‹_›) | (rw [Nat.add_assoc, Nat.add_comm 1 _]; assumption) | exact Nat.ne_of_lt (Nat.sub_lt ‹_› Nat.one_pos) | exact Nat.ne_of_lt ‹_› | exact Nat.ne_of_gt ‹_› | exact Nat.sub_pos_of_lt ‹_› | exact fun z => absurd z.1 (Nat.not_lt.mpr (Nat.sub_le _ _)) | exact fun z => absurd z.1 ‹_› | exact fun z => absurd z.1 (Nat.lt_asymm ‹_›) | exact fun z => absurd z.2 (Nat.lt_asymm ‹_›) | exact Nat.lt_of_le_of_ne (Nat.le_sub_one_of_lt ‹_›) (Ne.symm ‹_›) | exact Nat.le_trans (Nat.sub_le _ _) (Nat.le_of_lt_succ ‹_›) | exact Nat.lt_of_lt_of_le (Nat.lt_add_of_pos_right (Nat.succ_pos _)) (Nat.le_of_eq ‹_›) | exact Nat.lt_of_lt_of_le (Nat.lt_add_of_pos_right (Nat.succ_pos _)) ‹_› | exact absurd ‹_› (Nat.not_lt.mpr ‹_›) | exact Int.le_of_lt ‹_› | exact absurd ‹_ = (0 : Int)› (Int.ne_of_lt ‹_›) | exact absurd ‹_ = (0 : Int)› (Int.ne_of_gt ‹_›) | exact Nat.lt_asymm (And.left ‹_›) ‹_› | exact Nat.lt_asymm (And.right ‹_›) ‹_› | exact Nat.lt_irrefl _ (And.left ‹_›) | exact Nat.lt_irrefl _ (And.right ‹_›) | exact Nat.ne_of_gt (Nat.lt_of_le_of_lt (Nat.zero_le _) ‹_›) | exact Nat.eq_zero_of_add_eq_zero_right (Nat.le_zero.mp ‹_›) | exact Int.le_antisymm ‹_› ‹_› | exact Int.lt_irrefl _ ‹_› | exact Int.lt_asymm ‹_› ‹_› | exact Nat.lt_irrefl _ ‹_› | exact Nat.lt_asymm ‹_› ‹_›
  trivial
theorem asc_run {cmp : Nat → Nat → (Bool → Shared → Prop) → Shared → Prop} {n : Nat} {Q : Nat → Shared → Prop} {s : Shared} (hc : ∀ i C, i + 1 < n → C false s → cmp (i + 1) i C s) : ∀ (f m : Nat), 1 ≤ m → m + f = n → Q n s → (kas_asc (List.range n).toArray f m).kasWp cmp Q s
  | 0, m, _, h, hq => by
    have : m = n := h
    subst this; exact hq
  | f + 1, m, h1, h, hq => by
    unfold kas_asc
    have hm : m < n := Nat.lt_of_lt_of_le (Nat.lt_add_of_pos_right (Nat.succ_pos f)) (Nat.le_of_eq h)
    have e1 : (List.range n).toArray.getD m 0 = m := by
      simp [hm]
    have e2 : (List.range n).toArray.getD (m - 1) 0 = m - 1 := by
      have : m - 1 < n := Nat.lt_of_le_of_lt (Nat.sub_le m 1) hm
      simp [this]
    rw [e1, e2]
    obtain ⟨i, rfl⟩ : ∃ i, m = i + 1 := ⟨m - 1, (Nat.sub_add_cancel h1).symm⟩
    refine hc i _ hm ?_
    show (if false = true then KasT.ret (i + 1) else kas_asc (List.range n).toArray f (i + 1 + 1)).kasWp cmp Q s
    rw [if_neg (by decide)]
    exact asc_run hc f (i + 1 + 1) (Nat.succ_pos _) (by rw [← h, Nat.add_assoc (i + 1) 1 f, Nat.add_comm 1 f]) hq
theorem sort_sorted {cmp : Nat → Nat → (Bool → Shared → Prop) → Shared → Prop} {n : Nat} {Q : Array Nat → Shared → Prop} {s : Shared} (h2 : 1 ≤ n) (hc : ∀ i C, i + 1 < n → C false s → cmp (i + 1) i C s) (hq : Q (List.range n).toArray s) : (kas_sort n).kasWp cmp Q s := by
  unfold kas_sort kas_count
  rw [KasT.kasWp_bind, KasT.kasWp_bind]
  refine asc_run hc (n - 1) 1 (Nat.le_refl _) (by (first | k_extra "nl9" | omega)) ?_
  simp only [beq_self_eq_true, if_true]
  show (if n < n then _ else KasT.ret (List.range n).toArray : KasT (Array Nat)).kasWp cmp Q s
  rw [if_neg (Nat.lt_irrefl _)]
  exact hq
theorem ty_pt {M : Model} {h₀ h : Heap} {L a : Addr} {news : List (Addr × Obj)} {p : Int × Int} (N : News h₀ L h news) (m : PtAt news a p) : Looks M h (typeOf (.ref a)) (.ref 132) := let ⟨_, _, m⟩ := m; (pt_at N m).type
theorem sorted_pts {prog : Program} {w : World} {A : Around} {E : Value → Shared → Prop} {s : Shared} {h₀ : Heap} {L l : Addr} {m : Str → Option Value} {news : List (Addr × Obj)} {ps : List PP} {k0 : Nat} {Q : Value → Shared → Prop}
    (hu : A.units + 2 < cLine) (F : Fr h₀ L s.heap m) (X : (hd.heap_1 w.params).In h₀) (N : News h₀ L s.heap news) (ml : (l, W.listOf (refs ps).toArray k0) ∈ news) (hp : ∀ q ∈ ps, PtAt news q.1 q.2) (hord : ps.Pairwise fun a b => lxB a.2 b.2 = true)
    (h2 : 2 ≤ ps.length) (h64 : ps.length < 64)
    (h : ∀ D c h', Fr h₀ L h' m → News h₀ L h' ((D, W.listOf (refs ps).toArray c) :: news) → (∀ q ∈ news, q.1 < D) → Q (.ref D) { s with heap := h' }) :
    wpAny (model prog w) A (call (.builtin "sorted") [.ref l]) Q E s := by
  obtain h9 : Tag9 (P := wpAny (model prog w) A (call (.builtin "sorted") [.ref l]) Q E s) (by
    have e1 : subIn (hd.heap_1 w.params) (.ref 132) (.type "tuple") = some true := by k_is
    have e2 : findIn (hd.heap_1 w.params) (.ref 132) "__lt__" = some (some (.builtin "tuple.__lt__")) := by k_is
    have hlen : (refs ps).length = ps.length := refs_length ps
    refine kas_sorted (T := .ref 132) F N (listAt N ml) (by rw [hlen]; exact h2) (by rw [hlen]; exact h64) (fun h' _ N' v hv => ?_) (by decide) (fun D e1' h' F' N' l1 => ?_)
    · obtain ⟨q, hq, rfl⟩ := List.mem_map.mp hv
      exact ty_pt N' (hp q hq)
    · have hget : ∀ i (hi : i < ps.length), (refs ps).getD i Value.none = .ref ps[i].1 := fun i hi => by simp [refs, List.getD, hi]
      refine sort_sorted (by rw [hlen]; (first | k_extra "nl9" | omega)) (fun i C hi hC => ?_) ?_
      · rw [hlen] at hi
        unfold kas_ask
        rw [hget (i + 1) hi, hget i (by (first | k_extra "nl9" | omega))]
        have N2 : News h₀ L ({ s with heap := h' } : Shared).heap news := fun p hp' => N' p (mtl _ hp')
        obtain ⟨t1, u1, m1⟩ := hp _ (List.getElem_mem hi)
        obtain ⟨t2, u2, m2⟩ := hp _ (List.getElem_mem (show i < ps.length by (first | k_extra "nl9" | omega)))
        refine pt_keyLt (by rw [units_in1, units_in1]; (first | k_extra "nl9" | omega)) (X.keeps F'.keep) (pt_at N2 m1) (pt_at N2 m2) e1 e2 ?_
        have z := List.pairwise_iff_getElem.mp hord i (i + 1) (by (first | k_extra "nl9" | omega)) hi (by (first | k_extra "nl9" | omega))
        have z2 : lxB (ps[i + 1].2.1, ps[i + 1].2.2) (ps[i].2.1, ps[i].2.2) = false := by
          have := of_decide_eq_true z
          exact decide_eq_false (by simp only; (first | k_extra "nl9" | omega))
        rw [z2]; exact hC
      · have hout : ((List.range (refs ps).length).toArray.toList.map fun i => (refs ps).getD i Value.none) = refs ps := by
          rw [hlen]
          apply List.ext_getElem?
          intro i
          rw [List.getElem?_map]
          by_cases hi : i < ps.length
          · simp [refs, hi]
          · simp [refs, hi]
        rw [hout]
        exact KasFin.intro (g := fun o => (D, o) :: news) F' N' (UpdF.head fun p hp => Nat.ne_of_lt (l1 p hp)) fun h'' c F'' N'' => h D c h'' F'' N'' l1) := trivial
  unfold id at h9; exact h9.get
example : True := by
  w_top off
  trivial
noncomputable def NRI (o : Obj) : Prop := o.cls ≠ Value.type "range_iterator" ∨ ∀ vs, o.data ≠ .fields vs
noncomputable def GExt (Lg : Addr) (s s' : Shared) : Prop := ∃ h' tk', s' = { s with heap := h', toks := tk' } ∧ ∀ b o, b ≠ Lg → NRI o → s.heap.get? b = some o → h'.get? b = some o
noncomputable def GHold (h₀ : Heap) (Z : List Addr) (own : List (Addr × Obj)) (h : Heap) : Prop := (∀ p ∈ own, h.get? p.1 = some p.2) ∧ (∀ b o, h₀.get? b = some o → h.get? b = some o) ∧ ∀ z ∈ Z, ∃ o, h.get? z = some o
noncomputable def GY (h₀ : Heap) (Z : List Addr) (Lg : Addr) (P : Nat → Value → Value → Prop) : Protocol := fun n s₀ v s₁ kap =>
  GExt Lg s₀ s₁ ∧ (∃ T v1 v2, v = .ref T ∧ P n v1 v2 ∧ s₀.heap.get? T = none ∧ s₁.heap.get? T = some { cls := .type "tuple", data := .seq #[v1, v2] }) ∧
  (∀ b o, h₀.get? b = some o → s₁.heap.get? b = some o) ∧ (∀ z ∈ Z, ∃ o, s₁.heap.get? z = some o) ∧ ∃ own, (∃ oG mG, (Lg, oG) ∈ own ∧ LCg.NsObj oG mG) ∧ (∀ p ∈ own, s₁.heap.get? p.1 = some p.2 ∧ h₀.get? p.1 = none ∧ p.1 ∉ Z ∧ (p.1 = Lg ∨ p.2.cls ≠ Value.type "dict")) ∧ ∀ s'', GHold h₀ Z own s''.heap → kap (.send .none) s''
noncomputable def Feed (prog : Program) (w : World) (A : Around) (h₀ : Heap) (Z : List Addr) (Lg : Addr) (P : Nat → Value → Value → Prop) (n : Nat) (gs : GenState) (own : List (Addr × Obj)) : Prop :=
  ∀ s, GHold h₀ Z own s.heap → gs.Goes (model prog w) A.in1 (fun n s₀ r s₁ => r = .ok (.ret .none) ∧ (n = 0 ∧ GExt Lg s₀ s₁ ∧ ∀ b o, h₀.get? b = some o → s₁.heap.get? b = some o)) (GY h₀ Z Lg P) n (.send .none) s
theorem feed_next {prog : Program} {w : World} {A : Around} {E : Value → Shared → Prop} {s : Shared} {h₀ : Heap} {Z : List Addr} {Lg I : Addr} {P : Nat → Value → Value → Prop} {g n : Nat} {gs : GenState} {own : List (Addr × Obj)} {Q : Option Value → Shared → Prop}
    (hh : A.handled = none) (hl : s.heap.NoLimit) (hroom : A.depth < recursionLimit) (hg : s.heap.IsGen I g) (hgs : s.gens[g]? = some gs) (hf : Feed prog w A h₀ Z Lg P (n + 1) gs own) (ho : GHold h₀ Z own s.heap)
    (h : ∀ h' tk' gs' T v1 v2 own', (∀ b o, b ≠ Lg → NRI o → s.heap.get? b = some o → h'.get? b = some o) → P n v1 v2 → s.heap.get? T = none → h'.get? T = some { cls := .type "tuple", data := .seq #[v1, v2] } →
      (∀ b o, h₀.get? b = some o → h'.get? b = some o) → (∃ oG mG, (Lg, oG) ∈ own' ∧ LCg.NsObj oG mG) → (∀ p ∈ own', h'.get? p.1 = some p.2 ∧ h₀.get? p.1 = none ∧ p.1 ∉ Z ∧ (p.1 = Lg ∨ p.2.cls ≠ Value.type "dict")) → Feed prog w A h₀ Z Lg P n gs' own' → Q (some (.ref T)) (({ s with heap := h', toks := tk' } : Shared).setGen g gs')) :
    wpAny (model prog w) A (pyNext (.ref I)) Q E s := by
  refine wpAny_pyNext_gen (n := n + 1) (P := fun n s₀ s₁ => n = 0 ∧ GExt Lg s₀ s₁ ∧ ∀ b o, h₀.get? b = some o → s₁.heap.get? b = some o) (Y := GY h₀ Z Lg P) hh hl hroom hg hgs (hf _ ho) (fun v s₁ gs' hY => ?_) (fun s₁ hP => ?_)
  · obtain ⟨⟨h', tk', rfl, hk⟩, ⟨T, v1, v2, rfl, hP, hT, hT'⟩, hk0, _, own', hoG, ho', hkap⟩ := hY
    have := h h' tk' gs' T v1 v2 own' hk hP hT hT' hk0 hoG ho' hkap
    have e : (({ s with heap := h', toks := tk' } : Shared).setGen g gs') = ({ s.setGen g .running with heap := h', toks := tk' } : Shared).setGen g gs' := by
      unfold Shared.setGen
      simp
    rw [← e]; exact this
  · exact absurd hP.1 (Nat.succ_ne_zero _)
theorem feed_end {prog : Program} {w : World} {A : Around} {E : Value → Shared → Prop} {s : Shared} {h₀ : Heap} {Z : List Addr} {Lg I : Addr} {P : Nat → Value → Value → Prop} {g : Nat} {gs : GenState} {own : List (Addr × Obj)} {Q : Option Value → Shared → Prop}
    (hh : A.handled = none) (hl : s.heap.NoLimit) (hroom : A.depth < recursionLimit) (hg : s.heap.IsGen I g) (hgs : s.gens[g]? = some gs) (hf : Feed prog w A h₀ Z Lg P 0 gs own) (ho : GHold h₀ Z own s.heap)
    (h : ∀ h' tk', (∀ b o, b ≠ Lg → NRI o → s.heap.get? b = some o → h'.get? b = some o) → (∀ b o, h₀.get? b = some o → h'.get? b = some o) → Q none (({ s with heap := h', toks := tk' } : Shared).setGen g .finished)) :
    wpAny (model prog w) A (pyNext (.ref I)) Q E s := by
  refine wpAny_pyNext_gen (n := 0) (P := fun n s₀ s₁ => n = 0 ∧ GExt Lg s₀ s₁ ∧ ∀ b o, h₀.get? b = some o → s₁.heap.get? b = some o) (Y := GY h₀ Z Lg P) hh hl hroom hg hgs (hf _ ho) (fun v s₁ gs' hY => ?_) (fun s₁ hP h'' hk'' => ?_)
  · obtain ⟨_, _, hk0, hL0, own', _, ho', hkap⟩ := hY
    exact (hkap s₁ ⟨fun p hp => (ho' p hp).1, hk0, hL0⟩).elim
  · obtain ⟨_, ⟨h', tk', rfl, hk⟩, hk0⟩ := hP
    have := h h'' tk' (fun b o hb hc e => hk'' b o (hk b o hb hc e)) fun b o e => hk'' b o (hk0 b o e)
    have e : (({ s with heap := h'', toks := tk' } : Shared).setGen g .finished) = ({ (({ s.setGen g .running with heap := h', toks := tk' } : Shared).setGen g .finished) with heap := h'' } : Shared) := by
      unfold Shared.setGen
      simp
    rw [← e]; exact this
theorem all_news (h₀ h : Heap) (Lg It : Addr) : ∃ rest : List (Addr × Obj), (∀ p ∈ rest, h.get? p.1 = some p.2 ∧ p.1 ≠ Lg ∧ h₀.get? p.1 = none) ∧ (∀ p ∈ rest, p.1 ≠ It) ∧ ∀ b o, h.get? b = some o → b ≠ Lg → b ≠ It → h₀.get? b = none → (b, o) ∈ rest := by
  refine ⟨(List.range h.objs.size).filterMap fun b => match h.get? b with | some o => if (b ≠ Lg ∧ b ≠ It) ∧ (h₀.get? b).isNone = true then some (b, o) else none | none => none, fun p hp => ?_, fun p hp => ?_, fun b o e hb hI h0 => ?_⟩
  · obtain ⟨b, _, hb⟩ := List.mem_filterMap.mp hp
    cases e : h.get? b with
    | none => rw [e] at hb; cases hb
    | some o =>
      rw [e] at hb
      dsimp only at hb
      split at hb
      · rename_i hc
        cases hb
        exact ⟨e, hc.1.1, by simpa using hc.2⟩
      · cases hb
  · obtain ⟨b, _, hb⟩ := List.mem_filterMap.mp hp
    cases e : h.get? b with
    | none => rw [e] at hb; cases hb
    | some o =>
      rw [e] at hb
      dsimp only at hb
      split at hb
      · rename_i hc
        cases hb
        exact hc.1.2
      · cases hb
  · refine List.mem_filterMap.mpr ⟨b, List.mem_range.mpr (Heap.lt_size e), ?_⟩
    rw [e]
    dsimp only
    rw [if_pos ⟨⟨hb, hI⟩, by rw [h0]; rfl⟩]
theorem GY.mk {h₀ h' : Heap} {Z : List Addr} {Lg T : Addr} {P : Nat → Value → Value → Prop} {n tk' : Nat} {s₀ : Shared} {v1 v2 : Value} {p q : Addr × Obj} {rest : List (Addr × Obj)} {m : Str → Option Value} {kap : Resume → Shared → Prop}
    (FT : Fr h₀ Lg h' m) (NT : News h₀ Lg h' ((T, { cls := .type "tuple", data := .seq #[v1, v2] }) :: p :: q :: rest)) (hk : ∀ b o, h₀.get? b = some o → s₀.heap.get? b = some o) (hL : ∀ z ∈ Z, ∃ o, s₀.heap.get? z = some o) (hLg : Lg ∉ Z)
    (hr2 : ∀ b o, s₀.heap.get? b = some o → b ≠ Lg → NRI o → h₀.get? b = none → (b, o) ∈ rest) (hLr : ∀ z ∈ Z, ∃ o, (z, o) ∈ rest) (hlt : AllLt T rest) (hTn : T ≠ p.1) (hTi : ∀ o, s₀.heap.get? T = some o → o.cls = Value.type "range_iterator" → T = p.1) (hP : P n v1 v2) (hp : p.1 ∉ Z) (hq : q.1 ∉ Z) (hpc : p.2.cls ≠ Value.type "dict") (hqc : q.2.cls ≠ Value.type "dict")
    (hkap : ∀ oG, LCg.NsObj oG m → ∀ s'', GHold h₀ Z [(Lg, oG), p, q] s''.heap → kap (.send .none) s'') : GY h₀ Z Lg P n s₀ (.ref T) { s₀ with heap := h', toks := tk' } kap := by
  obtain ⟨oG, hoG, hnG⟩ := LCg.ns_obj FT.ns
  have hT := NT _ (.head _)
  refine ⟨⟨h', tk', rfl, fun b o hb hc e => ?_⟩, ⟨T, v1, v2, rfl, hP, ?_, hT.1⟩, FT.keep, ?_, [(Lg, oG), p, q], ⟨oG, _, .head _, hnG⟩, fun x hx => ?_, hkap oG hnG⟩
  · cases e0 : h₀.get? b with
    | some o' =>
      have := hk b o' e0
      rw [e] at this
      cases this
      exact FT.keep b _ e0
    | none => exact (NT _ (.tail _ (.tail _ (.tail _ (hr2 b o e hb hc e0))))).1
  · cases e : s₀.heap.get? T with
    | none => rfl
    | some o =>
      exfalso
      by_cases hc : o.cls = Value.type "range_iterator"
      · exact hTn (hTi o e hc)
      · have := tb_ltOf hlt _ (hr2 T o e hT.2.1 (.inl hc) hT.2.2)
        exact absurd this (Nat.lt_irrefl _)
  · intro z hz
    obtain ⟨o, ho⟩ := hLr z hz
    exact ⟨o, (NT _ (.tail _ (.tail _ (.tail _ ho)))).1⟩
  · simp only [List.mem_cons, List.not_mem_nil, or_false] at hx
    rcases hx with rfl | rfl | rfl
    · exact ⟨hoG, Heap.get?_none_of_le FT.above, hLg, .inl rfl⟩
    · exact ⟨(NT _ (.tail _ (.head _))).1, (NT _ (.tail _ (.head _))).2.2, hp, .inr hpc⟩
    · exact ⟨(NT _ (.tail _ (.tail _ (.head _)))).1, (NT _ (.tail _ (.tail _ (.head _)))).2.2, hq, .inr hqc⟩
example : True := by
  w_top off
  trivial
theorem news_sub {h₀ h h' : Heap} {L : Addr} {l : List (Addr × Obj)} (N : News h₀ L h l) (k : ∀ p ∈ l, h'.get? p.1 = some p.2) : News h₀ L h' l := fun p hp => ⟨k p hp, (N p hp).2⟩
theorem news_cons3 {h₀ h : Heap} {L I : Addr} {o : Obj} {l : List (Addr × Obj)} (e : h.get? I = some o) (n : I ≠ L ∧ h₀.get? I = none) (N : News h₀ L h l) : News h₀ L h ((I, o) :: l) := fun p hp => by
  rcases List.mem_cons.mp hp with rfl | hp
  · exact ⟨e, n⟩
  · exact N p hp
theorem g_pair_2 {l : Addr} {a0 a1 a2 : Int} {t0 t1 t2 : Tok} {k0 : Nat} (B : Below A₀ base outer h₀) (F : Fr h₀ L s.heap m) (X : (hd.heap_1 w.params).In h₀) (N : News h₀ L s.heap news) (T : Top p loose mean mg mb h₀) (hk : cs.kind = .function) (ml : (l, W.listOf #[.int a0 t0, .int a1 t1] k0) ∈ news) (hroom : dp + 8 < recursionLimit) (hu : un + 300 < cLine)
   (ret : ∀ h' tk' I gs Lg own, Fr h₀ L h' m → (∃ oI, News h₀ L h' ((I, oI) :: (own ++ news))) → h'.IsGen I s.gens.size → (∀ p ∈ news, p.1 < Lg) → (∀ p ∈ own, p.1 = Lg ∨ p ∈ news) → Lg < I → (∀ Z : List Addr, Lg ∉ Z → (∀ z ∈ Z, h₀.get? z = none) → Feed prog w (ktrTop dp un gd cn cs L a ccd cl outer) h₀ Z Lg (fun n v1 v2 => (n = 0 ∧ ∃ x y, v1 = .int a0 x ∧ v2 = .int a1 y)) 1 gs own) → Q (.ref I) { s with heap := h', toks := tk', gens := s.gens.push gs }) :
   wpAny (model prog w) (ktrTop dp un gd cn cs L a ccd cl outer) (call (.ref 279) [.ref l]) Q E s := by
  obtain h9 : Tag9 (P := wpAny (model prog w) (ktrTop dp un gd cn cs L a ccd cl outer) (call (.ref 279) [.ref l]) Q E s) (by
    refine wpAny_call ?_
    have hX := X.keeps F.keep
    refine codeAny_call_generator ?room (hX _ _ (by k_is)) rfl rfl rfl rfl (codeRec_of hX (by k_is)) ?_
    case room => ktr_room
    refine (BindsTo.of_eq (binds := [(Str.ofString "iterable", .ref l)]) rfl) _ _ _ _ ?_
    refine wpAny_newFunctionEnv (by decide) (fun y hy => by rw [List.mem_singleton.mp hy]; rfl) (fun h₁ hns hsb => ?_) rfl
    have hLg : s.heap.objs.size ≠ L := Ne.symm (Nat.ne_of_lt F.ns.lt)
    have hk1 : ∀ b o, s.heap.get? b = some o → h₁.get? b = some o := fun b o e => hsb.extBut b o (Nat.ne_of_lt (Heap.lt_size e)) (Heap.get?_push_of_some _ e)
    obtain ⟨oG, hoG, hnG⟩ := LCg.ns_obj hns
    have hLg0 : h₀.get? s.heap.objs.size = none := Heap.get?_none_of_le (Nat.le_trans F.above (Nat.le_of_lt F.ns.lt))
    refine ⟨(T.nolimit.keeps F.keep).keeps hk1, ?_⟩
    have hl0 : s.heap.get? l = some (W.listOf #[.int a0 t0, .int a1 t1] k0) := (N _ ml).1
    have hg : ∀ o : Obj, o.isFreed = false → (h₁.push o).get? h₁.objs.size = some o := fun o e => Heap.get?_push_size _ e
    refine' ret _ _ _ _ s.heap.objs.size [(s.heap.objs.size, oG), (l, W.listOf #[.int a0 t0, .int a1 t1] k0)] ?F ?N ?G ?lt ?own ?ltI ?feed
    case own => intro p hp; simp only [List.mem_cons, List.not_mem_nil, or_false] at hp; rcases hp with rfl | rfl; exact .inl rfl; exact .inr ml
    case ltI => exact Heap.lt_size hoG
    case F => exact (F.keeps hk1).push _
    case N =>
      refine ⟨_, news_cons3 (hg _ rfl) ?_ ?_⟩
      exact ⟨Ne.symm (Nat.ne_of_lt (F.keeps hk1).ns.lt), Heap.get?_none_of_le (Nat.le_trans F.above (Nat.le_of_lt (F.keeps hk1).ns.lt))⟩
      intro p hp
      simp only [List.cons_append, List.nil_append, List.mem_cons] at hp
      rcases hp with rfl | rfl | hp
      · exact ⟨Heap.get?_push_of_some _ hoG, hLg, hLg0⟩
      · exact ⟨Heap.get?_push_of_some _ (hk1 _ _ hl0), (N _ ml).2⟩
      · exact ⟨Heap.get?_push_of_some _ (hk1 _ _ (N _ hp).1), (N _ hp).2⟩
    case G => exact ⟨_, _, _, hg _ rfl, rfl, rfl, rfl⟩
    case lt => exact fun p hp => Heap.lt_size (N p hp).1
    case feed =>
      intro Z hZg hZ0 s1 hold
      refine ⟨rfl, ?_⟩
      refine seg_func ?_
      dsimp only
      show Seg _ _ _ _ _ _ (Code.func _ (envOf (Str.ofString "pairwise") _ s.heap.objs.size 279 (.ref 278))) ((execs _ (envOf (Str.ofString "pairwise") _ s.heap.objs.size 279 (.ref 278))).wrap _ _ _ _) [] _
      refine seg_execs_cons (seg_wrap ?_)
      obtain ⟨hown, hkeep, hoL⟩ := hold
      have FG : Fr h₀ s.heap.objs.size s1.heap fun x => List.lookup x [(Str.ofString "iterable", Value.ref l)].reverse := ⟨hnG.ns (hown _ (.head _)), hkeep, Nat.le_trans F.above (Nat.le_of_lt F.ns.lt)⟩
      obtain ⟨rest, hr1, _, hr2⟩ := all_news h₀ s1.heap s.heap.objs.size s.heap.objs.size
      have NG : News h₀ s.heap.objs.size s1.heap rest := fun p hp => hr1 p hp
      have mlG : (l, W.listOf #[.int a0 t0, .int a1 t1] k0) ∈ rest := hr2 _ _ (hown _ (.tail _ (.head _))) (Nat.ne_of_lt (Heap.lt_size hl0)) (Nat.ne_of_lt (Heap.lt_size hl0)) (N _ ml).2.2
      have hLr : ∀ z ∈ Z, ∃ o, (z, o) ∈ rest := fun z hz => let ⟨o, e⟩ := hoL z hz; ⟨o, hr2 _ _ e (fun q => hZg (q ▸ hz)) (fun q => hZg (q ▸ hz)) (hZ0 z hz)⟩
      clear N F hX ml hl0 hoG hns hsb hk1 hg ret
      k_steps
      refine seg_execs_cons ?_
      rw [exec_For]
      refine seg_bind_wrap (wpAny_standAt (seg_bind_wrap ?_))
      k_steps
      rename (IsRange _ _ _ _ _ _ _ _) => hR
      rename (News h₀ _ _ _) => NR
      rename (Fr h₀ _ _ fun y => _) => FR
      refine seg_bind_wrap (wpAny_of_eq rfl (seg_bind_wrap (wpAny_standAt (seg_bind_wrap (wpAny_holding (wpAny_pyIter_range hR (by decide) ?_))))))
      unfold runOwn
      rw [Sem.onRaise_eq_wrap, Sem.wrap_wrap]
      refine seg_call (fun pp => ?_)
      show Seg _ _ _ _ _ _ (.forLoop ..) ((forTurn _ _ _ _ _).onRaise _) _ _
      rw [Sem.onRaise_eq_wrap]
      unfold forTurn
      refine seg_bind_wrap (wpAny_standAt (seg_bind_wrap (wpAny_onRaise ?_)))
      refine wpAny_pyNext_range_item (x := 0) (left := 1) (step := 1) (show IsRangeIter _ _ _ _ _ from Heap.get?_push_size _ rfl) (by decide) (fun h2 hit2 hs2 => ?_)
      refine seg_bind_wrap (wpAny_of_eq rfl ?_)
      refine seg_bind_wrap (wpAny_assign_Name ?_)
      have hItL : @LT.lt Nat _ s.heap.objs.size _ := FR.ns.lt
      have F2 := (FR.push { cls := .type "range_iterator", data := .fields #[rawInt 0, rawInt (Builtin.Range.rangeSize 0 (2 - 1) 1), rawInt 1] }).change hs2 (Ne.symm (Nat.ne_of_lt FR.ns.lt)) (Heap.get?_none_of_le (Nat.le_trans FR.above (Nat.le_of_lt FR.ns.lt)))
      have N2 := news_cons3 hit2 ⟨Ne.symm (Nat.ne_of_lt FR.ns.lt), Heap.get?_none_of_le (Nat.le_trans FR.above (Nat.le_of_lt FR.ns.lt))⟩ (news_sub NR fun p hp => hs2.extBut _ _ (Nat.ne_of_lt (Heap.lt_size (NR p hp).1)) (Heap.get?_push_of_some _ (NR p hp).1))
      have hlt2 : AllLt _ _ := allLt_of fun p hp => Heap.lt_size (NR p hp).1
      clear FR NR
      k_steps
      rw [Sem.bind_eq_wrap', Sem.wrap_wrap]
      refine seg_execs_cons (seg_Expr_Yield rfl rfl rfl ?_)
      k_steps
      rename (News h₀ _ _ _) => NT
      rename (Fr h₀ _ _ _) => FT
      rename_i lT kap hkap
      have ltT : AllLt _ rest := lT.2.2
      refine' GY.mk FT NT hkeep hoL hZg ?hr2 hLr ltT ?hTn ?hTi ?hP ?hp ?hq ?hpc ?hqc ?hkap
      case hr2 => exact fun b o e hb _ h0 => hr2 b o e hb hb h0
      case hTn => exact Ne.symm (Nat.ne_of_lt lT.1)
      case hTi => exact fun o e _ => absurd (tb_ltOf ltT _ (hr2 _ o e (NT _ (.head _)).2.1 (NT _ (.head _)).2.1 (NT _ (.head _)).2.2)) (Nat.lt_irrefl _)
      case hP => exact ⟨rfl, _, _, rfl, rfl⟩
      case hpc => exact fun e => absurd (Value.type.inj e) (by decide)
      case hqc => exact fun e => absurd (Value.type.inj e) (by decide)
      case hp => exact fun hz => let ⟨o, e⟩ := hLr _ hz; absurd (tb_ltOf hlt2 _ (.tail _ e)) (Nat.lt_irrefl _)
      case hq =>
        intro hz
        obtain ⟨o9, e9⟩ := hLr _ hz
        dsimp only at e9
        rename (∀ q ∈ rest, @LT.lt Nat _ q.1 _) => hD9
        exact Nat.lt_irrefl _ (hD9 _ e9)
      case hkap =>
        intro oG2 hnG2 s2 hold2
        refine hkap .none s2 ?_
        dsimp only
        refine seg_execs_nil ?_
        refine seg_again rfl ?_
        obtain ⟨hownE, hkeepE, hoLE⟩ := hold2
        show Seg _ _ _ _ _ _ (.forLoop ..) ((forTurn _ _ _ _ _).onRaise _) _ _
        rw [Sem.onRaise_eq_wrap]
        unfold forTurn
        refine seg_bind_wrap (wpAny_standAt (seg_bind_wrap (wpAny_onRaise ?_)))
        have hitE := hownE _ (.tail _ (.head _))
        refine wpAny_pyNext_range_end (x := 0 + 1) (left := 0) (step := 1) rfl hitE (by decide) (fun hE heE => ?_)
        refine seg_again rfl ?_
        show Seg _ _ _ _ _ _ (.block ..) (.pure (.done .next)) _ _
        refine seg_leaf (.ok .next) ?_
        show Seg _ _ _ _ _ _ _ (.pure (.done (.ret .none))) [] _
        refine seg_end (.ok (.ret .none)) ⟨rfl, rfl, ⟨_, _, rfl, fun b o hb hc e => heE b o (fun eb => ?_) e⟩, fun b o e => heE b o (fun eb => by subst eb; exact absurd (e.symm.trans ((NT _ (.tail _ (.head _))).2.2)) (fun z => by cases z)) (hkeepE b o e)⟩
        subst eb
        have e' := e.symm.trans hitE
        cases e'
        exact hc.elim (fun z => z rfl) fun z => z _ rfl) := trivial
  unfold id at h9; exact h9.get
theorem g_pair_3 {l : Addr} {a0 a1 a2 : Int} {t0 t1 t2 : Tok} {k0 : Nat} (B : Below A₀ base outer h₀) (F : Fr h₀ L s.heap m) (X : (hd.heap_1 w.params).In h₀) (N : News h₀ L s.heap news) (T : Top p loose mean mg mb h₀) (hk : cs.kind = .function) (ml : (l, W.listOf #[.int a0 t0, .int a1 t1, .int a2 t2] k0) ∈ news) (hroom : dp + 8 < recursionLimit) (hu : un + 300 < cLine)
   (ret : ∀ h' tk' I gs Lg own, Fr h₀ L h' m → (∃ oI, News h₀ L h' ((I, oI) :: (own ++ news))) → h'.IsGen I s.gens.size → (∀ p ∈ news, p.1 < Lg) → (∀ p ∈ own, p.1 = Lg ∨ p ∈ news) → Lg < I → (∀ Z : List Addr, Lg ∉ Z → (∀ z ∈ Z, h₀.get? z = none) → Feed prog w (ktrTop dp un gd cn cs L a ccd cl outer) h₀ Z Lg (fun n v1 v2 => (n = 1 ∧ ∃ x y, v1 = .int a0 x ∧ v2 = .int a1 y) ∨ (n = 0 ∧ ∃ x y, v1 = .int a1 x ∧ v2 = .int a2 y)) 2 gs own) → Q (.ref I) { s with heap := h', toks := tk', gens := s.gens.push gs }) :
   wpAny (model prog w) (ktrTop dp un gd cn cs L a ccd cl outer) (call (.ref 279) [.ref l]) Q E s := by
  obtain h9 : Tag9 (P := wpAny (model prog w) (ktrTop dp un gd cn cs L a ccd cl outer) (call (.ref 279) [.ref l]) Q E s) (by
    refine wpAny_call ?_
    have hX := X.keeps F.keep
    refine codeAny_call_generator ?room (hX _ _ (by k_is)) rfl rfl rfl rfl (codeRec_of hX (by k_is)) ?_
    case room => ktr_room
    refine (BindsTo.of_eq (binds := [(Str.ofString "iterable", .ref l)]) rfl) _ _ _ _ ?_
    refine wpAny_newFunctionEnv (by decide) (fun y hy => by rw [List.mem_singleton.mp hy]; rfl) (fun h₁ hns hsb => ?_) rfl
    have hLg : s.heap.objs.size ≠ L := Ne.symm (Nat.ne_of_lt F.ns.lt)
    have hk1 : ∀ b o, s.heap.get? b = some o → h₁.get? b = some o := fun b o e => hsb.extBut b o (Nat.ne_of_lt (Heap.lt_size e)) (Heap.get?_push_of_some _ e)
    obtain ⟨oG, hoG, hnG⟩ := LCg.ns_obj hns
    have hLg0 : h₀.get? s.heap.objs.size = none := Heap.get?_none_of_le (Nat.le_trans F.above (Nat.le_of_lt F.ns.lt))
    refine ⟨(T.nolimit.keeps F.keep).keeps hk1, ?_⟩
    have hl0 : s.heap.get? l = some (W.listOf #[.int a0 t0, .int a1 t1, .int a2 t2] k0) := (N _ ml).1
    have hg : ∀ o : Obj, o.isFreed = false → (h₁.push o).get? h₁.objs.size = some o := fun o e => Heap.get?_push_size _ e
    refine' ret _ _ _ _ s.heap.objs.size [(s.heap.objs.size, oG), (l, W.listOf #[.int a0 t0, .int a1 t1, .int a2 t2] k0)] ?F ?N ?G ?lt ?own ?ltI ?feed
    case own => intro p hp; simp only [List.mem_cons, List.not_mem_nil, or_false] at hp; rcases hp with rfl | rfl; exact .inl rfl; exact .inr ml
    case ltI => exact Heap.lt_size hoG
    case F => exact (F.keeps hk1).push _
    case N =>
      refine ⟨_, news_cons3 (hg _ rfl) ?_ ?_⟩
      exact ⟨Ne.symm (Nat.ne_of_lt (F.keeps hk1).ns.lt), Heap.get?_none_of_le (Nat.le_trans F.above (Nat.le_of_lt (F.keeps hk1).ns.lt))⟩
      intro p hp
      simp only [List.cons_append, List.nil_append, List.mem_cons] at hp
      rcases hp with rfl | rfl | hp
      · exact ⟨Heap.get?_push_of_some _ hoG, hLg, hLg0⟩
      · exact ⟨Heap.get?_push_of_some _ (hk1 _ _ hl0), (N _ ml).2⟩
      · exact ⟨Heap.get?_push_of_some _ (hk1 _ _ (N _ hp).1), (N _ hp).2⟩
    case G => exact ⟨_, _, _, hg _ rfl, rfl, rfl, rfl⟩
    case lt => exact fun p hp => Heap.lt_size (N p hp).1
    case feed =>
      intro Z hZg hZ0 s1 hold
      refine ⟨rfl, ?_⟩
      refine seg_func ?_
      dsimp only
      show Seg _ _ _ _ _ _ (Code.func _ (envOf (Str.ofString "pairwise") _ s.heap.objs.size 279 (.ref 278))) ((execs _ (envOf (Str.ofString "pairwise") _ s.heap.objs.size 279 (.ref 278))).wrap _ _ _ _) [] _
      refine seg_execs_cons (seg_wrap ?_)
      obtain ⟨hown, hkeep, hoL⟩ := hold
      have FG : Fr h₀ s.heap.objs.size s1.heap fun x => List.lookup x [(Str.ofString "iterable", Value.ref l)].reverse := ⟨hnG.ns (hown _ (.head _)), hkeep, Nat.le_trans F.above (Nat.le_of_lt F.ns.lt)⟩
      obtain ⟨rest, hr1, _, hr2⟩ := all_news h₀ s1.heap s.heap.objs.size s.heap.objs.size
      have NG : News h₀ s.heap.objs.size s1.heap rest := fun p hp => hr1 p hp
      have mlG : (l, W.listOf #[.int a0 t0, .int a1 t1, .int a2 t2] k0) ∈ rest := hr2 _ _ (hown _ (.tail _ (.head _))) (Nat.ne_of_lt (Heap.lt_size hl0)) (Nat.ne_of_lt (Heap.lt_size hl0)) (N _ ml).2.2
      have hLr : ∀ z ∈ Z, ∃ o, (z, o) ∈ rest := fun z hz => let ⟨o, e⟩ := hoL z hz; ⟨o, hr2 _ _ e (fun q => hZg (q ▸ hz)) (fun q => hZg (q ▸ hz)) (hZ0 z hz)⟩
      clear N F hX ml hl0 hoG hns hsb hk1 hg ret
      k_steps
      refine seg_execs_cons ?_
      rw [exec_For]
      refine seg_bind_wrap (wpAny_standAt (seg_bind_wrap ?_))
      k_steps
      rename (IsRange _ _ _ _ _ _ _ _) => hR
      rename (News h₀ _ _ _) => NR
      rename (Fr h₀ _ _ fun y => _) => FR
      refine seg_bind_wrap (wpAny_of_eq rfl (seg_bind_wrap (wpAny_standAt (seg_bind_wrap (wpAny_holding (wpAny_pyIter_range hR (by decide) ?_))))))
      unfold runOwn
      rw [Sem.onRaise_eq_wrap, Sem.wrap_wrap]
      refine seg_call (fun pp => ?_)
      show Seg _ _ _ _ _ _ (.forLoop ..) ((forTurn _ _ _ _ _).onRaise _) _ _
      rw [Sem.onRaise_eq_wrap]
      unfold forTurn
      refine seg_bind_wrap (wpAny_standAt (seg_bind_wrap (wpAny_onRaise ?_)))
      refine wpAny_pyNext_range_item (x := 0) (left := 2) (step := 1) (show IsRangeIter _ _ _ _ _ from Heap.get?_push_size _ rfl) (by decide) (fun h2 hit2 hs2 => ?_)
      refine seg_bind_wrap (wpAny_of_eq rfl ?_)
      refine seg_bind_wrap (wpAny_assign_Name ?_)
      have hItL : @LT.lt Nat _ s.heap.objs.size _ := FR.ns.lt
      have F2 := (FR.push { cls := .type "range_iterator", data := .fields #[rawInt 0, rawInt (Builtin.Range.rangeSize 0 (3 - 1) 1), rawInt 1] }).change hs2 (Ne.symm (Nat.ne_of_lt FR.ns.lt)) (Heap.get?_none_of_le (Nat.le_trans FR.above (Nat.le_of_lt FR.ns.lt)))
      have N2 := news_cons3 hit2 ⟨Ne.symm (Nat.ne_of_lt FR.ns.lt), Heap.get?_none_of_le (Nat.le_trans FR.above (Nat.le_of_lt FR.ns.lt))⟩ (news_sub NR fun p hp => hs2.extBut _ _ (Nat.ne_of_lt (Heap.lt_size (NR p hp).1)) (Heap.get?_push_of_some _ (NR p hp).1))
      have hlt2 : AllLt _ _ := allLt_of fun p hp => Heap.lt_size (NR p hp).1
      clear FR NR
      k_steps
      rw [Sem.bind_eq_wrap', Sem.wrap_wrap]
      refine seg_execs_cons (seg_Expr_Yield rfl rfl rfl ?_)
      k_steps
      rename (News h₀ _ _ _) => NT
      rename (Fr h₀ _ _ _) => FT
      rename_i lT kap hkap
      have ltT : AllLt _ rest := lT.2.2
      refine' GY.mk FT NT hkeep hoL hZg ?hr2 hLr ltT ?hTn ?hTi ?hP ?hp ?hq ?hpc ?hqc ?hkap
      case hr2 => exact fun b o e hb _ h0 => hr2 b o e hb hb h0
      case hTn => exact Ne.symm (Nat.ne_of_lt lT.1)
      case hTi => exact fun o e _ => absurd (tb_ltOf ltT _ (hr2 _ o e (NT _ (.head _)).2.1 (NT _ (.head _)).2.1 (NT _ (.head _)).2.2)) (Nat.lt_irrefl _)
      case hP => exact .inl ⟨rfl, _, _, rfl, rfl⟩
      case hpc => exact fun e => absurd (Value.type.inj e) (by decide)
      case hqc => exact fun e => absurd (Value.type.inj e) (by decide)
      case hp => exact fun hz => let ⟨o, e⟩ := hLr _ hz; absurd (tb_ltOf hlt2 _ (.tail _ e)) (Nat.lt_irrefl _)
      case hq =>
        intro hz
        obtain ⟨o9, e9⟩ := hLr _ hz
        dsimp only at e9
        rename (∀ q ∈ rest, @LT.lt Nat _ q.1 _) => hD9
        exact Nat.lt_irrefl _ (hD9 _ e9)
      case hkap =>
        intro oG2 hnG2 s2 hold2
        refine hkap .none s2 ?_
        dsimp only
        refine seg_execs_nil ?_
        refine seg_again rfl ?_
        obtain ⟨hown2, hkeep2, hoL2⟩ := hold2
        have hit0 := hown2 _ (.tail _ (.head _))
        have hmD := hown2 _ (.tail _ (.tail _ (.head _)))
        show Seg _ _ _ _ _ _ (.forLoop ..) ((forTurn _ _ _ _ _).onRaise _) _ _
        rw [Sem.onRaise_eq_wrap]
        unfold forTurn
        refine seg_bind_wrap (wpAny_standAt (seg_bind_wrap (wpAny_onRaise ?_)))
        refine wpAny_pyNext_range_item (x := 0 + 1) (left := 2 - 1) (step := 1) hit0 (by decide) (fun h3 hit3 hs3 => ?_)
        refine seg_bind_wrap (wpAny_of_eq rfl ?_)
        refine seg_bind_wrap (wpAny_assign_Name ?_)
        have nIt := NT _ (.tail _ (.head _))
        have nD := NT _ (.tail _ (.tail _ (.head _)))
        have hDI := Nat.ne_of_lt (tb_ltOf hlt2 _ (.head _))
        obtain ⟨rest2, hr21, hr22, hr23⟩ := all_news h₀ s2.heap s.heap.objs.size _
        have NR2 : News h₀ s.heap.objs.size s2.heap rest2 := fun p hp => hr21 p hp
        have F4 := Fr.change (⟨hnG2.ns (hown2 _ (.head _)), hkeep2, FT.above⟩ : Fr h₀ s.heap.objs.size s2.heap _) hs3 nIt.2.1 nIt.2.2
        have N4 := news_cons3 hit3 nIt.2 (news_cons3 (hs3.extBut _ _ hDI hmD) nD.2 (news_sub NR2 fun p hp => hs3.extBut _ _ (hr22 p hp) (NR2 p hp).1))
        have hLr2 : ∀ z ∈ Z, ∃ o, (z, o) ∈ rest2 := fun z hz => let ⟨o, e⟩ := hoL2 z hz; let ⟨o1, e1⟩ := hLr z hz; ⟨o, hr23 _ _ e (fun q => hZg (q ▸ hz)) (Nat.ne_of_lt (tb_ltOf hlt2 _ (.tail _ e1))) (hZ0 z hz)⟩
        rename (∀ q ∈ rest, @LT.lt Nat _ q.1 _) => hDL
        clear FT NT
        k_steps
        rw [Sem.bind_eq_wrap', Sem.wrap_wrap]
        refine seg_execs_cons (seg_Expr_Yield rfl rfl rfl ?_)
        k_steps
        rename (News h₀ _ _ _) => NT2
        rename (Fr h₀ _ _ _) => FT2
        rename_i lT2 kap2 hkap2
        have ltT2 : AllLt _ rest2 := lT2.2.2
        refine' GY.mk FT2 NT2 hkeep2 hoL2 hZg ?hr24 hLr2 ltT2 ?hTn2 ?hTi2 ?hP2 ?hp2 ?hq2 ?hpc2 ?hqc2 ?hkap2
        case hr24 => exact fun b o e hb hc h0 => hr23 b o e hb (fun eb => by subst eb; have e' := e.symm.trans hit0; cases e'; exact hc.elim (fun z => z rfl) fun z => z _ rfl) h0
        case hTn2 => exact Ne.symm (Nat.ne_of_lt lT2.1)
        case hTi2 => exact fun o e _ => Classical.byContradiction fun hn => absurd (tb_ltOf ltT2 _ (hr23 _ o e (NT2 _ (.head _)).2.1 hn (NT2 _ (.head _)).2.2)) (Nat.lt_irrefl _)
        case hP2 => exact .inr ⟨rfl, _, _, rfl, rfl⟩
        case hpc2 => exact fun e => absurd (Value.type.inj e) (by decide)
        case hqc2 => exact fun e => absurd (Value.type.inj e) (by decide)
        case hp2 => exact fun hz => let ⟨o, e⟩ := hLr _ hz; absurd (tb_ltOf hlt2 _ (.tail _ e)) (Nat.lt_irrefl _)
        case hq2 => exact fun hz => let ⟨o, e⟩ := hLr _ hz; absurd (hDL _ e) (Nat.lt_irrefl _)
        case hkap2 =>
          intro oG3 hnG3 s3 hold3
          refine hkap2 .none s3 ?_
          dsimp only
          refine seg_execs_nil ?_
          refine seg_again rfl ?_
          obtain ⟨hownE, hkeepE, hoLE⟩ := hold3
          show Seg _ _ _ _ _ _ (.forLoop ..) ((forTurn _ _ _ _ _).onRaise _) _ _
          rw [Sem.onRaise_eq_wrap]
          unfold forTurn
          refine seg_bind_wrap (wpAny_standAt (seg_bind_wrap (wpAny_onRaise ?_)))
          have hitE := hownE _ (.tail _ (.head _))
          refine wpAny_pyNext_range_end (x := 0 + 1 + 1) (left := 0) (step := 1) rfl hitE (by decide) (fun hE heE => ?_)
          refine seg_again rfl ?_
          show Seg _ _ _ _ _ _ (.block ..) (.pure (.done .next)) _ _
          refine seg_leaf (.ok .next) ?_
          show Seg _ _ _ _ _ _ _ (.pure (.done (.ret .none))) [] _
          refine seg_end (.ok (.ret .none)) ⟨rfl, rfl, ⟨_, _, rfl, fun b o hb hc e => heE b o (fun eb => ?_) e⟩, fun b o e => heE b o (fun eb => by subst eb; exact absurd (e.symm.trans (nIt.2.2)) (fun z => by cases z)) (hkeepE b o e)⟩
          subst eb
          have e' := e.symm.trans hitE
          cases e'
          exact hc.elim (fun z => z rfl) fun z => z _ rfl) := trivial
  unfold id at h9; exact h9.get
example : True := by
  w_top off
  k_with_none
  k_with "inst9" => first | ((with_reducible show InstAt _ (@OfNat.ofNat _ _ _) _ _ _); refine InstAt.of_K (by first | assumption | exact Frag.In.keeps (by k_asm) (Fr.keep (by k_asm))) (by k_is) (by k_is)) | (refine InstAt.of_news (by k_asm) (by k_mem) (by k_mem))
  k_with "e9" => (first | (refine code_def (by k_asm) (by k_asm) (by k_asm) (by k_asm) (by k_asm) rfl rfl (by first | exact rfl | assumption) (by k_is) (by k_is) (by ktr_room) (by first | exact BindsTo.of_eq rfl | refine kp_binds (by k_in) (by exact fun _ => rfl)) (by exact locs rfl) ?_ (by exact rfl) (by exact rfl) (by exact rfl) (by decide); k_whole; intro _ _ _ _ _ _ _ _ _; (try dsimp only); (try k_fold)) | (refine code_defC (by k_asm) (by k_asm) (by k_asm) (by k_asm) (by k_asm) rfl rfl (by first | exact rfl | assumption) (by k_is) (by k_is) (by ktr_room) (by first | exact BindsTo.of_eq rfl | refine kp_binds (by k_in) (by exact fun _ => rfl)) (by exact rfl) (by decide +kernel) ?_ (by exact rfl) (by exact rfl) (by exact rfl); k_whole; intro _ _ _ _ _ _ _ N' Y' _ _ _ l1; (try k_lt l1); (try dsimp only); (try k_fold); (first | k_cells Y' | (obtain ⟨_, _, _, _, _, hE', _, _, _, _, _⟩ := cells_five Y'; subst hE'; clear Y')); (try simp only [List.cons_append, List.nil_append] at N'); (try dsimp only); (try k_fold); (try (revert N'; intro _)); (try (revert l1; intro _))))
  k_with "ne9" => (refine neN ?_; (try dsimp only); with_reducible first | exact neU1 | exact neU2 | exact neU3 | exact neU4 | exact neD1 | exact neD2 | exact neD3 | exact neD4 | exact Nat.ne_of_gt ‹_› | exact Nat.ne_of_lt ‹_› | exact gtA1 ‹_› | exact Ne.symm (gtA1 ‹_›) | exact gtA2 ‹_› | exact Ne.symm (gtA2 ‹_›) | exact gtA3 ‹_› | exact Ne.symm (gtA3 ‹_›) | exact gtA4 ‹_› | exact Ne.symm (gtA4 ‹_›) | exact gtA5 ‹_› | exact Ne.symm (gtA5 ‹_›) | exact gtA6 ‹_› | exact Ne.symm (gtA6 ‹_›) | exact gtA7 ‹_› | exact Ne.symm (gtA7 ‹_›) | exact gtA8 ‹_› | exact Ne.symm (gtA8 ‹_›) | exact gtA9 ‹_› | exact Ne.symm (gtA9 ‹_›) | exact gtA10 ‹_› | exact Ne.symm (gtA10 ‹_›) | exact gtA11 ‹_› | exact Ne.symm (gtA11 ‹_›) | exact gtA12 ‹_› | exact Ne.symm (gtA12 ‹_›))
  k_with "room9" => (first | exact room2 ‹_› (by exact rfl) | exact room1 ‹_› (by exact rfl) | exact room0 ‹_›)
  k_with "units9" => (first | exact unit2 ‹_› (by exact rfl) | exact unit1 ‹_› (by exact rfl) | exact unit0 ‹_›)
  k_with "mem9" => (first | with_reducible assumption | with_reducible exact at0 | with_reducible exact at1 | with_reducible exact at2 | with_reducible exact at3 | with_reducible exact at4 | with_reducible exact at5 | with_reducible exact at6 | with_reducible exact at7 | with_reducible exact at8 | with_reducible exact at9 | with_reducible exact at10 | with_reducible exact at11 | with_reducible exact at12 | with_reducible exact at13 | with_reducible exact at14 | exact up1 (by with_reducible assumption) | exact up2 (by with_reducible assumption) | exact up3 (by with_reducible assumption) | exact up4 (by with_reducible assumption) | exact up5 (by with_reducible assumption) | exact up6 (by with_reducible assumption) | assumption)
  k_with "mul9" => (first | exact Bd.ok1 ‹_› ‹_› ‹_› ‹_› | exact Bd.ok2 ‹_› ‹_› ‹_› ‹_› ‹_› ‹_› ‹_› ‹_› ‹_› ‹_› ‹_› ‹_› ‹_› ‹_› ‹_› ‹_›)
  trivial
section
variable {prog : Program} {w : World} {A : Around} {E : Value → Shared → Prop} {s : Shared} {h₀ : Heap} {L : Addr} {m : Str → Option Value} {news : List (Addr × Obj)}
theorem sliceApplied_upto {sl : Addr} {b n : Nat} {u : Tok} {Q : Int × Int × Nat → Shared → Prop} (hs : s.heap.IsSliceOf sl .none (.int b u) .none) (hb : b ≤ n) (h : Q ((0 : Int), 1, b) s) :
    wpAny (model prog w) A (Builtin.Slice.sliceApplied (.ref sl) (pure (n : Int))) Q E s := by
  obtain h9 : Tag9 (P := wpAny (model prog w) A (Builtin.Slice.sliceApplied (.ref sl) (pure (n : Int))) Q E s) (by
    obtain ⟨os, hos, hcs, hds⟩ := id hs
    unfold Builtin.Slice.sliceApplied Builtin.Slice.sliceFields
    refine wpAny_bind (wpAny_bind (wpAny_field hos hds (x := .none) rfl (wpAny_bind (wpAny_field hos hds (x := .int b u) rfl (wpAny_bind (wpAny_field hos hds (x := .none) rfl (wpAny_pure ?_)))))))
    refine wpAny_bind (slicePart_none ?_)
    show wpAny _ _ (if ((1 : Int) == 0) = true then _ else _) _ _ s
    rw [if_neg (by decide)]
    refine wpAny_bind (slicePart_none (wpAny_bind (slicePart_int (wpAny_bind (wpAny_pure ?_)))))
    show wpAny _ _ (match Builtin.Slice.sliceAdjust none (some (b : Int)) 1 (n : Int) with | (lo, hi) => pure (lo, (1 : Int), Builtin.Slice.slicePlaces lo hi 1)) _ _ s
    have e1 : Builtin.Slice.sliceAdjust none (some (b : Int)) 1 (n : Int) = (0, (b : Int)) := by
      unfold Builtin.Slice.sliceAdjust
      have h1 : ¬ ((1 : Int) < 0) := by omega
      have h2 : ¬ ((b : Int) < 0) := by omega
      simp only [h1, h2, if_false]
      congr 1
      omega
    rw [e1]
    show wpAny _ _ (pure ((0 : Int), (1 : Int), Builtin.Slice.slicePlaces (0 : Int) (b : Int) 1)) _ _ s
    have e2 : Builtin.Slice.slicePlaces (0 : Int) (b : Int) 1 = b := by
      unfold Builtin.Slice.slicePlaces
      have h1 : (1 : Int) > 0 := by omega
      simp only [h1, if_true, Int.ediv_one]
      split <;> omega
    rw [e2]
    exact wpAny_pure h) := trivial
  unfold id at h9; exact h9.get
theorem pick_upto (xs : Array Value) (b : Nat) : ((List.range b).filterMap fun (k : Nat) => xs[((0 : Int) + (k : Int) * 1).toNat]?).toArray = (xs.toList.take b).toArray := by
  have e : (fun (k : Nat) => xs[((0 : Int) + (k : Int) * 1).toNat]?) = fun k => xs[0 + k]? := by
    funext k
    have : ((0 : Int) + (k : Int) * 1).toNat = 0 + k := by rw [Int.mul_one, Int.zero_add, Nat.zero_add]; rfl
    rw [this]
  rw [e]
  have := pick_run xs 0 b
  rw [List.filterMap_map] at this
  have e2 : ((fun x => xs[x]?) ∘ fun x => 0 + x) = fun k => xs[0 + k]? := rfl
  rw [e2] at this
  rw [this, List.drop_zero]
theorem getItem_tuple_upto {t sl : Addr} {items : Array Value} {b : Nat} {u : Tok} {Q : Value → Shared → Prop} (ht : IsTup s.heap t items) (hs : s.heap.IsSliceOf sl .none (.int b u) .none) (hb : b < items.size)
    (h : Q (.ref s.heap.objs.size) { s with heap := s.heap.push { cls := .type "tuple", data := .seq (items.toList.take b).toArray } })
    (hsz : items.size ≤ sizeLine := by size_fits) : wpAny (model prog w) A (getItem (.ref t) (.ref sl)) Q E s := by
  obtain h9 : Tag9 (P := wpAny (model prog w) A (getItem (.ref t) (.ref sl)) Q E s) (by
    have hdrop : sizeOk (.seq (items.toList.take b).toArray) := by
      show (items.toList.take b).toArray.size ≤ sizeLine
      rw [List.size_toArray, List.length_take, Array.length_toList]
      exact Nat.le_trans (Nat.min_le_right _ _) hsz
    obtain ⟨os, hos, hcs, hds⟩ := id hs
    have hTs : s.TypeIs (.ref sl) "slice" := ⟨os, hos, hcs⟩
    unfold getItem
    try with_reducible refine wpAny_holding ?_
    first | refine wpAny_bind (wpAny_pure ?_) | skip
    refine wpAny_bind (wpAny_sequenceKey ht.typeIs (by decide) ?_)
    refine wpAny_bind (wpAny_callSpecial?_slot (name := Str.ofString "__getitem__") ht.typeIs slot_tuple_getitem
      (wpAny_call_entry slot_tuple_getitem ht.typeIs entry_tuple_getitem ?_ (args_tuple_getitem _ _)))
    show wpAny _ _ (Builtin.Tuple.tupleItemsOf (.ref t) >>= _) _ _ s
    refine wpAny_bind (tupleItemsOf_ ht ?_)
    refine wpAny_bind (wpAny_typeOf hTs ?_)
    rw [if_pos (by decide)]
    refine wpAny_bind (sliceApplied_upto hs (Nat.le_of_lt hb) ?_)
    have hno : ¬ (((0 : Int) == 0 && (1 : Int) == 1 && b == items.size) = true) := by
      have : (b == items.size) = false := by rw [beq_eq_false_iff_ne]; omega
      rw [this]; simp
    show wpAny _ _ (if ((0 : Int) == 0 && (1 : Int) == 1 && b == items.size) = true then _ else _) _ _ s
    rw [if_neg hno, pick_upto items b]
    first
      | exact wpAny_bind (m := Builtin.Tuple.tupleExact _) (wpAny_newObj_type (wpAny_pure ⟨_, rfl, wpAny_pure h⟩) hdrop)
      | exact wpAny_bind (m := Builtin.Tuple.tupleExact _) (wpAny_newObj_type (wpAny_bind (wpAny_pure (wpAny_pure ⟨_, rfl, wpAny_pure h⟩))) hdrop)
      | exact wpAny_bind (wpAny_bind (m := Builtin.Tuple.tupleExact _) (wpAny_newObj_type (wpAny_pure (wpAny_pure ⟨_, rfl, wpAny_pure h⟩)) hdrop))
      | exact wpAny_bind (wpAny_bind (m := Builtin.Tuple.tupleExact _) (wpAny_newObj_type (wpAny_pure ⟨_, rfl, wpAny_pure h⟩) hdrop))) := trivial
  unfold id at h9; exact h9.get
theorem getItem_tuple_whole {t sl : Addr} {items : Array Value} {b : Nat} {u : Tok} {Q : Value → Shared → Prop} (ht : IsTup s.heap t items) (hs : s.heap.IsSliceOf sl .none (.int b u) .none) (hb : b = items.size)
    (h : Q (.ref t) s) : wpAny (model prog w) A (getItem (.ref t) (.ref sl)) Q E s := by
  obtain h9 : Tag9 (P := wpAny (model prog w) A (getItem (.ref t) (.ref sl)) Q E s) (by
    obtain ⟨os, hos, hcs, hds⟩ := id hs
    have hTs : s.TypeIs (.ref sl) "slice" := ⟨os, hos, hcs⟩
    unfold getItem
    try with_reducible refine wpAny_holding ?_
    first | refine wpAny_bind (wpAny_pure ?_) | skip
    refine wpAny_bind (wpAny_sequenceKey ht.typeIs (by decide) ?_)
    refine wpAny_bind (wpAny_callSpecial?_slot (name := Str.ofString "__getitem__") ht.typeIs slot_tuple_getitem
      (wpAny_call_entry slot_tuple_getitem ht.typeIs entry_tuple_getitem ?_ (args_tuple_getitem _ _)))
    show wpAny _ _ (Builtin.Tuple.tupleItemsOf (.ref t) >>= _) _ _ s
    refine wpAny_bind (tupleItemsOf_ ht ?_)
    refine wpAny_bind (wpAny_typeOf hTs ?_)
    rw [if_pos (by decide)]
    refine wpAny_bind (sliceApplied_upto hs (Nat.le_of_eq hb) ?_)
    have hyes : ((0 : Int) == 0 && (1 : Int) == 1 && b == items.size) = true := by rw [hb]; simp
    show wpAny _ _ (if ((0 : Int) == 0 && (1 : Int) == 1 && b == items.size) = true then _ else _) _ _ s
    rw [if_pos hyes]
    unfold Builtin.Tuple.tupleIsExact
    first
      | exact wpAny_bind (wpAny_bind (wpAny_typeOf ht.typeIs (wpAny_pure (wpAny_rule (wpAny_pure ⟨_, rfl, wpAny_pure h⟩)))))
      | exact wpAny_bind (wpAny_bind (wpAny_typeOf ht.typeIs (wpAny_pure (wpAny_rule (wpAny_pure (wpAny_pure ⟨_, rfl, wpAny_pure h⟩))))))
      | exact wpAny_bind (wpAny_bind (wpAny_typeOf ht.typeIs (wpAny_pure (wpAny_bind (wpAny_rule (wpAny_bind (wpAny_pure (wpAny_pure ⟨_, rfl, wpAny_pure h⟩))))))))) := trivial
  unfold id at h9; exact h9.get
theorem slice_tuple_upto {value slice : Expr} {t : Addr} {items : Array Value} {b : Nat} {u : Tok} {x : Int} {zs : Array Value} {Q : Value → Shared → Prop}
    (F : Fr h₀ L s.heap m) (N : News h₀ L s.heap news) (ht : IsTup s.heap t items) (hx : x = (b : Int)) (hb : b < items.size) (hz : (items.toList.take b).toArray = zs)
    (hs : subscripted slice false (.ref t) (.ref s.heap.objs.size) = operate [.ref s.heap.objs.size, .ref t] (getItem (.ref t) (.ref s.heap.objs.size)))
    (hg : ∀ r, letTemporaryGo value (.ref t) r = pure ())
    (hsz : items.size ≤ sizeLine)
    (h : ∀ D h', Fr h₀ L h' m → News h₀ L h' ((D, { cls := .type "tuple", data := .seq zs }) :: news) → (∀ p ∈ news, p.1 < D) → Q (.ref D) { s with heap := h' }) :
    wpAny (model prog w) A (subscriptTail value slice (.ref t) (.ref s.heap.objs.size)) Q E { s with heap := s.heap.push { cls := .type "slice", data := .fields #[.none, .int x u, .none] } } := by
  subst hx hz
  have ht' : IsTup (s.heap.push { cls := .type "slice", data := .fields #[.none, .int b u, .none] }) t items := ht.keeps fun _ _ e => Heap.get?_push_of_some _ e
  refine subscriptTail_ops (s := { s with heap := s.heap.push { cls := .type "slice", data := .fields #[.none, .int b u, .none] } }) ht'.typeIs slot_tuple_getitem.lookup
    (getItem_tuple_upto ht' (Heap.IsSliceOf.new ..) hb ?_ hsz) hs hg
  have N1 := News.push (F.push { cls := .type "slice", data := .fields #[.none, .int b u, .none] }) (N.grown fun _ _ e => Heap.get?_push_of_some _ e) { cls := .type "tuple", data := .seq (items.toList.take b).toArray }
  rw [Heap.size_push] at N1
  show Q (.ref (s.heap.push _).objs.size) _
  rw [Heap.size_push]
  exact h _ _ ((F.push _).push _) N1 fun p hp => Nat.lt_succ_of_lt (Heap.lt_size (N p hp).1)
theorem slice_tuple_whole {value slice : Expr} {t : Addr} {items : Array Value} {b : Nat} {u : Tok} {x : Int} {Q : Value → Shared → Prop}
    (F : Fr h₀ L s.heap m) (N : News h₀ L s.heap news) (ht : IsTup s.heap t items) (hx : x = (b : Int)) (hb : b = items.size)
    (hs : subscripted slice false (.ref t) (.ref s.heap.objs.size) = operate [.ref s.heap.objs.size, .ref t] (getItem (.ref t) (.ref s.heap.objs.size)))
    (hg : ∀ r, letTemporaryGo value (.ref t) r = pure ())
    (h : ∀ h', Fr h₀ L h' m → News h₀ L h' news → Q (.ref t) { s with heap := h' }) :
    wpAny (model prog w) A (subscriptTail value slice (.ref t) (.ref s.heap.objs.size)) Q E { s with heap := s.heap.push { cls := .type "slice", data := .fields #[.none, .int x u, .none] } } := by
  subst hx
  have ht' : IsTup (s.heap.push { cls := .type "slice", data := .fields #[.none, .int b u, .none] }) t items := ht.keeps fun _ _ e => Heap.get?_push_of_some _ e
  exact subscriptTail_ops (s := { s with heap := s.heap.push { cls := .type "slice", data := .fields #[.none, .int b u, .none] } }) ht'.typeIs slot_tuple_getitem.lookup
    (getItem_tuple_whole ht' (Heap.IsSliceOf.new ..) hb (h _ (F.push _) (N.grown fun _ _ e => Heap.get?_push_of_some _ e))) hs hg
end
example : True := by
  w_top off
  trivial
section
variable {prog : Program} {w : World} {A : Around} {E : Value → Shared → Prop} {s : Shared} {R : Result → Shared → Prop}
theorem letGo_gen {elts : List PySem.Expr} {x1 : Nat} {pos : Pos} {I T : Addr} {g : Nat} {Q : Unit → Shared → Prop} (hit : s.heap.IsGen I g) (hQ : Q () s) :
    wpAny (model prog w) A (letOwnedTupleGo (.Tuple elts x1 pos) (.ref I) (.ref T)) Q E s := by
  obtain ⟨o, nm, qn, ho, hc, hd, _⟩ := hit
  unfold letOwnedTupleGo
  refine wpAny_bind (wpAny_load ho ?_)
  rw [hc, hd]
  show wpAny _ A (if (["enumerate", "zip", "dict_itemiterator", "dict_reverseitemiterator", "odict_iterator", "itertools.zip_longest", "itertools.pairwise"].contains "generator" &&
      (#[.int g 0, nm, qn] : Array Value)[0]? == some (rawInt T)) = true then _ else _) Q E s
  rw [if_neg (by
    intro h
    rw [show (["enumerate", "zip", "dict_itemiterator", "dict_reverseitemiterator", "odict_iterator", "itertools.zip_longest", "itertools.pairwise"].contains "generator") = false from by decide, Bool.false_and] at h
    cases h)]
  exact wpAny_pure hQ
theorem compLoop_turn {elt target iter : PySem.Expr} {scope : Scope} {pos : Pos} {it acc : Value} {env : Env}
    (turn : wpAny (model prog w) A (pyNext it) (fun r s₁ => match r with
      | none => R (.ok .next) s₁
      | some v => wpAny (model prog w) A (letOwnedTupleGo target it v) (fun _ s₁' => wpAny (model prog w) A (assign target env v) (fun _ s₂ => wpAny (model prog w) A (eval elt env) (fun x s₃ =>
          wpAny (model prog w) A (call (.builtin "list.append") [acc, x]) (fun _ s₄ => codeAny (model prog w) A (.compLoop (.ListComp elt [⟨target, iter, [], 0⟩] scope pos) 0 it acc env) R s₄) (notedBy (model prog w) A env fun e s' => R (.error e) s') s₃)
          (notedBy (model prog w) A env fun e s' => R (.error e) s') s₂) (notedBy (model prog w) A env fun e s' => R (.error e) s') s₁') (notedBy (model prog w) A env fun e s' => R (.error e) s') s₁) (notedBy (model prog w) A env fun e s' => R (.error e) s') s) :
    codeAny (model prog w) A (.compLoop (.ListComp elt [⟨target, iter, [], 0⟩] scope pos) 0 it acc env) R s := by
  refine codeAny_of_tree ?_
  show wpAny _ _ ((compTurn (.ListComp elt [⟨target, iter, [], 0⟩] scope pos) 0 it acc env).onRaise (fun x => do noteFrame x env; theTreesLotGoes x)) _ _ s
  refine wpAny_noted ?_
  rw [compTurn_list1]
  refine wpAny_bind (wpAny_standAt (wpAny_bind (wpAny_mono turn (fun r s₁ h₁ => ?_) fun _ _ h' => h')))
  cases r with
  | none => exact wpAny_pure h₁
  | some v =>
    refine wpAny_bind (wpAny_mono h₁ (fun _ s₁' h₁ => ?_) fun _ _ h' => h')
    exact wpAny_bind (wpAny_mono h₁ (fun _ s₂ h₂ => wpAny_bind (wpAny_bind (wpAny_mono h₂ (fun x s₃ h₃ => wpAny_bind (wpAny_mono h₃
      (fun _ s₄ h₄ => wpAny_pure (wpAny_pure ⟨rfl, h₄⟩)) fun _ _ h' => h')) fun _ _ h' => h'))) fun _ _ h' => h')
theorem nsObj_nri {o : Obj} {m : Str → Option Value} (h : LCg.NsObj o m) : NRI o := by
  obtain ⟨es, ep, hd, _⟩ := h
  exact .inr fun vs e => by rw [hd] at e; cases e
theorem gen_item {h₀ : Heap} {L Lg I C : Addr} {oC oI : Obj} {m mC : Str → Option Value} {x x₂ : Str} {px px₂ tp : Pos} {tk' : Nat} {scope : Scope} {cl : List (Str × Addr)} {env : Env} {led own : List (Addr × Obj)} {P : Nat → Value → Value → Prop} {g n : Nat} {gs : GenState} {Z : List Addr} {Q : Option Value → Shared → Prop} {K : Shared → Prop}
    (hh : A.handled = none) (hroom : A.depth < recursionLimit) (nl : h₀.NoLimit)
    (F : Fr h₀ L s.heap m) (N : News h₀ L s.heap ((C, oC) :: led)) (NI : News h₀ L s.heap ((I, oI) :: own)) (hG : s.heap.IsGen I g) (hgs : s.gens[g]? = some gs)
    (feed : Feed prog w A h₀ Z Lg P (n + 1) gs own) (hZ : ∀ z ∈ Z, ∃ o, s.heap.get? z = some o) (hZL : L ∈ Z) (hZC : C ∈ Z) (hZg : Lg ∉ Z) (hLI : I ≠ Lg) (hIC : I ≠ C)
    (hC : LCg.NsObj oC mC) (off : ∀ p ∈ led, p.1 ≠ Lg ∧ p.1 ≠ C) (nri : ∀ p ∈ led, NRI p.2)
    (hx : scope.names.lookup x = some .local) (hx₂ : scope.names.lookup x₂ = some .local) (hxx : x ≠ x₂) (hkind : scope.kind = .function)
    (hK : ∀ h₃ tk gs' v1 v2 own' oC' mC', P n v1 v2 → LCg.NsObj oC' mC' → mC' x = some v1 → mC' x₂ = some v2 → Fr h₀ L h₃ m → News h₀ L h₃ ((C, oC') :: led) → News h₀ L h₃ ((I, oI) :: own') → (∀ p ∈ own', p.1 ∉ Z) → (∀ p ∈ own', p.1 = Lg ∨ p.2.cls ≠ Value.type "dict") → (∃ oG mG, (Lg, oG) ∈ own' ∧ LCg.NsObj oG mG) → Feed prog w A h₀ Z Lg P n gs' own' →
      K { s with heap := h₃, toks := tk, gens := s.gens.setIfInBounds g gs' })
    (hQ : ∀ T s₁, wpAny (model prog w) A (letOwnedTupleGo (.Tuple [.Name x px, .Name x₂ px₂] tk' tp) (.ref I) (.ref T)) (fun _ s₁' => wpAny (model prog w) A (assign (.Tuple [.Name x px, .Name x₂ px₂] tk' tp) (compEnvC scope cl C env) (.ref T)) (fun _ s₂ => K s₂) (notedBy (model prog w) A (compEnvC scope cl C env) fun e s' => R (.error e) s') s₁') (notedBy (model prog w) A (compEnvC scope cl C env) fun e s' => R (.error e) s') s₁ → Q (some (.ref T)) s₁) :
    wpAny (model prog w) A (pyNext (.ref I)) Q E s := by
  have hLo : ∃ o, s.heap.get? L = some o := hZ L hZL
  have hLg : L ≠ Lg := fun e => hZg (e ▸ hZL)
  have hCg : C ≠ Lg := fun e => hZg (e ▸ hZC)
  refine feed_next hh (nl.keeps F.keep) hroom hG hgs feed ⟨fun p hp => (NI _ (.tail _ hp)).1, F.keep, hZ⟩ fun h' tk gs' T v1 v2 own' hk hP hT hT' hk0 hoG ho' feed' => ?_
  obtain ⟨oL, hoL, hnL⟩ := LCg.ns_obj F.ns
  have hCL := (N _ (.head _)).2.1
  have hC₀ := (N _ (.head _)).2.2
  have F1 : Fr h₀ L h' m := ⟨hnL.ns (hk _ _ hLg (nsObj_nri hnL) hoL), hk0, F.above⟩
  have hG1 : h'.IsGen I g := by
    obtain ⟨o, nm, qn, ho, hc, hd, hs⟩ := hG
    exact ⟨o, nm, qn, hk _ _ hLI (.inl (by rw [hc]; decide)) ho, hc, hd, hs⟩
  have hI1 : h'.get? I = some oI := by
    have e := (NI _ (.head _)).1
    obtain ⟨o, nm, qn, ho, hc, hd, hs⟩ := hG
    have : oI = o := Option.some.inj (e.symm.trans ho)
    subst this
    exact hk _ _ hLI (.inl (by rw [hc]; decide)) ho
  have hCo : h'.get? C = some oC := hk _ _ hCg (nsObj_nri hC) (N _ (.head _)).1
  refine hQ T _ (letGo_gen (g := g) (by exact hG1) ?_)
  refine assign_Tuple_tuple hh (items := #[v1, v2]) ⟨_, hT', rfl, _, rfl⟩ rfl rfl fun h₅ he => ?_
  have he' : ∀ b o, h'.get? b = some o → h₅.get? b = some o := fun b o e => he b o (Nat.ne_of_lt (Heap.lt_size e)) e
  refine assignInOrder_cons (wpAny_assign_Name (wpAny_storeName_local (lookup_relabel_local hx) (hC.ns (he' _ _ hCo)) (fun h₆ hn₆ hs₆ => ?_) (by simp [compEnvC, relabel, hkind])))
  refine assignInOrder_cons (wpAny_assign_Name (wpAny_storeName_local (lookup_relabel_local hx₂) hn₆ (fun h₃ hn₃ hs₃ => ?_) (by simp [compEnvC, relabel, hkind])))
  refine assignInOrder_nil ?_
  have old3 : ∀ b o, b ≠ C → h'.get? b = some o → h₃.get? b = some o := fun b o hb e => hs₃.extBut b o hb (hs₆.extBut b o hb (he' b o e))
  obtain ⟨oC', hoC', hnC'⟩ := LCg.ns_obj hn₃
  refine hK h₃ _ gs' v1 v2 own' oC' _ hP hnC' (by simp [hxx]) (by simp) (((F1.keeps he').change hs₆ hCL hC₀).change hs₃ hCL hC₀) ?_ ?_ (fun p hp => (ho' p hp).2.2.1) (fun p hp => (ho' p hp).2.2.2) hoG feed'
  · intro p hp
    rcases List.mem_cons.mp hp with rfl | hp
    · exact ⟨hoC', hCL, hC₀⟩
    · exact ⟨old3 _ _ (off p hp).2 (hk _ _ (off p hp).1 (nri p hp) (N _ (.tail _ hp)).1), (N _ (.tail _ hp)).2⟩
  · intro p hp
    rcases List.mem_cons.mp hp with rfl | hp
    · exact ⟨old3 _ _ hIC hI1, (NI _ (.head _)).2⟩
    · have z := ho' p hp
      exact ⟨old3 _ _ (fun e => z.2.2.1 (e ▸ hZC)) z.1, fun e => z.2.2.1 (e ▸ hZL), z.2.1⟩
theorem gen_stop {h₀ : Heap} {L Lg I C : Addr} {oC oI : Obj} {m mC : Str → Option Value} {led own : List (Addr × Obj)} {P : Nat → Value → Value → Prop} {g : Nat} {gs : GenState} {Z : List Addr} {Q : Option Value → Shared → Prop}
    (hh : A.handled = none) (hroom : A.depth < recursionLimit) (nl : h₀.NoLimit)
    (F : Fr h₀ L s.heap m) (N : News h₀ L s.heap ((C, oC) :: led)) (NI : News h₀ L s.heap ((I, oI) :: own)) (hG : s.heap.IsGen I g) (hgs : s.gens[g]? = some gs)
    (feed : Feed prog w A h₀ Z Lg P 0 gs own) (hZ : ∀ z ∈ Z, ∃ o, s.heap.get? z = some o) (hZL : L ∈ Z) (hZC : C ∈ Z) (hZg : Lg ∉ Z)
    (hC : LCg.NsObj oC mC) (off : ∀ p ∈ led, p.1 ≠ Lg) (nri : ∀ p ∈ led, NRI p.2)
    (hQ : ∀ h' tk, Fr h₀ L h' m → News h₀ L h' ((C, oC) :: led) → Q none { s with heap := h', toks := tk, gens := s.gens.setIfInBounds g .finished }) :
    wpAny (model prog w) A (pyNext (.ref I)) Q E s := by
  have hLg : L ≠ Lg := fun e => hZg (e ▸ hZL)
  have hCg : C ≠ Lg := fun e => hZg (e ▸ hZC)
  refine feed_end hh (nl.keeps F.keep) hroom hG hgs feed ⟨fun p hp => (NI _ (.tail _ hp)).1, F.keep, hZ⟩ fun h' tk hk hk0 => ?_
  obtain ⟨oL, hoL, hnL⟩ := LCg.ns_obj F.ns
  refine hQ h' tk ⟨hnL.ns (hk _ _ hLg (nsObj_nri hnL) hoL), hk0, F.above⟩ fun p hp => ?_
  rcases List.mem_cons.mp hp with rfl | hp
  · exact ⟨hk _ _ hCg (nsObj_nri hC) (N _ (.head _)).1, (N _ (.head _)).2⟩
  · exact ⟨hk _ _ (off p hp) (nri p hp) (N _ (.tail _ hp)).1, (N _ (.tail _ hp)).2⟩
end
example : True := by
  w_top off
  trivial
theorem neA1 {q : Prop} {a b : Nat} (h : a ≠ b ∧ q) : a ≠ b := h.1
theorem ltA1 {q : Prop} {a b : Nat} (h : a < b ∧ q) : a < b := h.1
theorem neA2 {p1 q : Prop} {a b : Nat} (h : p1 ∧ a ≠ b ∧ q) : a ≠ b := h.2.1
theorem ltA2 {p1 q : Prop} {a b : Nat} (h : p1 ∧ a < b ∧ q) : a < b := h.2.1
theorem neA3 {p1 p2 q : Prop} {a b : Nat} (h : p1 ∧ p2 ∧ a ≠ b ∧ q) : a ≠ b := h.2.2.1
theorem ltA3 {p1 p2 q : Prop} {a b : Nat} (h : p1 ∧ p2 ∧ a < b ∧ q) : a < b := h.2.2.1
theorem neA4 {p1 p2 p3 q : Prop} {a b : Nat} (h : p1 ∧ p2 ∧ p3 ∧ a ≠ b ∧ q) : a ≠ b := h.2.2.2.1
theorem ltA4 {p1 p2 p3 q : Prop} {a b : Nat} (h : p1 ∧ p2 ∧ p3 ∧ a < b ∧ q) : a < b := h.2.2.2.1
theorem neA5 {p1 p2 p3 p4 q : Prop} {a b : Nat} (h : p1 ∧ p2 ∧ p3 ∧ p4 ∧ a ≠ b ∧ q) : a ≠ b := h.2.2.2.2.1
theorem ltA5 {p1 p2 p3 p4 q : Prop} {a b : Nat} (h : p1 ∧ p2 ∧ p3 ∧ p4 ∧ a < b ∧ q) : a < b := h.2.2.2.2.1
theorem neA6 {p1 p2 p3 p4 p5 q : Prop} {a b : Nat} (h : p1 ∧ p2 ∧ p3 ∧ p4 ∧ p5 ∧ a ≠ b ∧ q) : a ≠ b := h.2.2.2.2.2.1
theorem ltA6 {p1 p2 p3 p4 p5 q : Prop} {a b : Nat} (h : p1 ∧ p2 ∧ p3 ∧ p4 ∧ p5 ∧ a < b ∧ q) : a < b := h.2.2.2.2.2.1
theorem neA7 {p1 p2 p3 p4 p5 p6 q : Prop} {a b : Nat} (h : p1 ∧ p2 ∧ p3 ∧ p4 ∧ p5 ∧ p6 ∧ a ≠ b ∧ q) : a ≠ b := h.2.2.2.2.2.2.1
theorem ltA7 {p1 p2 p3 p4 p5 p6 q : Prop} {a b : Nat} (h : p1 ∧ p2 ∧ p3 ∧ p4 ∧ p5 ∧ p6 ∧ a < b ∧ q) : a < b := h.2.2.2.2.2.2.1
theorem neA8 {p1 p2 p3 p4 p5 p6 p7 q : Prop} {a b : Nat} (h : p1 ∧ p2 ∧ p3 ∧ p4 ∧ p5 ∧ p6 ∧ p7 ∧ a ≠ b ∧ q) : a ≠ b := h.2.2.2.2.2.2.2.1
theorem ltA8 {p1 p2 p3 p4 p5 p6 p7 q : Prop} {a b : Nat} (h : p1 ∧ p2 ∧ p3 ∧ p4 ∧ p5 ∧ p6 ∧ p7 ∧ a < b ∧ q) : a < b := h.2.2.2.2.2.2.2.1
theorem neA9 {p1 p2 p3 p4 p5 p6 p7 p8 q : Prop} {a b : Nat} (h : p1 ∧ p2 ∧ p3 ∧ p4 ∧ p5 ∧ p6 ∧ p7 ∧ p8 ∧ a ≠ b ∧ q) : a ≠ b := h.2.2.2.2.2.2.2.2.1
theorem ltA9 {p1 p2 p3 p4 p5 p6 p7 p8 q : Prop} {a b : Nat} (h : p1 ∧ p2 ∧ p3 ∧ p4 ∧ p5 ∧ p6 ∧ p7 ∧ p8 ∧ a < b ∧ q) : a < b := h.2.2.2.2.2.2.2.2.1
theorem ltA10 {p1 p2 p3 p4 p5 p6 p7 p8 p9 q : Prop} {a b : Nat} (h : p1 ∧ p2 ∧ p3 ∧ p4 ∧ p5 ∧ p6 ∧ p7 ∧ p8 ∧ p9 ∧ a < b ∧ q) : a < b := h.2.2.2.2.2.2.2.2.2.1
theorem ltA11 {p1 p2 p3 p4 p5 p6 p7 p8 p9 p10 q : Prop} {a b : Nat} (h : p1 ∧ p2 ∧ p3 ∧ p4 ∧ p5 ∧ p6 ∧ p7 ∧ p8 ∧ p9 ∧ p10 ∧ a < b ∧ q) : a < b := h.2.2.2.2.2.2.2.2.2.2.1
theorem ltA12 {p1 p2 p3 p4 p5 p6 p7 p8 p9 p10 p11 q : Prop} {a b : Nat} (h : p1 ∧ p2 ∧ p3 ∧ p4 ∧ p5 ∧ p6 ∧ p7 ∧ p8 ∧ p9 ∧ p10 ∧ p11 ∧ a < b ∧ q) : a < b := h.2.2.2.2.2.2.2.2.2.2.2.1
theorem ltU1 {x : Nat} : x < x + 1 := Nat.lt_succ_self x
theorem ltU2 {x : Nat} : x < x + 1 + 1 := Nat.lt_succ_of_lt ltU1
theorem ltU3 {x : Nat} : x < x + 1 + 1 + 1 := Nat.lt_succ_of_lt ltU2
theorem ltU4 {x : Nat} : x < x + 1 + 1 + 1 + 1 := Nat.lt_succ_of_lt ltU3
theorem ltU5 {x : Nat} : x < x + 1 + 1 + 1 + 1 + 1 := Nat.lt_succ_of_lt ltU4
noncomputable def keepB (o : Obj) : Bool := (match o.cls with | .ref _ => true | .type n => n == "dict" | _ => false) && (match o.data with | .cell _ => false | _ => true)
theorem keepB_nri {o : Obj} (h : keepB o = true) : NRI o := .inl fun e => by unfold keepB at h; rw [e] at h; simp at h
theorem Rep.keepB {P : Params} {news : List (Addr × Obj)} {cx : Addr} {pts : List Addr} {xy : Nat → Int × Int} {al : List (Addr × Addr)} {st : List ERec} (R : Rep P news cx pts xy al st) : Rep P (news.filter fun p => Mine.keepB p.2) cx pts xy al st where
  len := R.len
  nd := R.nd
  inst := fun i a d h => List.mem_filter.mpr ⟨R.inst i a d h, rfl⟩
  dict := fun i a d e h1 h2 => let ⟨t1, t2, t3, t4, la, ld, ra, rd, sv, x1, x2, x3, x4⟩ := R.dict i a d e h1 h2; ⟨t1, t2, t3, t4, la, ld, ra, rd, sv, x1, x2, x3, List.mem_filter.mpr ⟨x4, rfl⟩⟩
  pin := fun k a h => let ⟨t, u, d, m, md⟩ := R.pin k a h; ⟨t, u, d, List.mem_filter.mpr ⟨m, rfl⟩, List.mem_filter.mpr ⟨md, rfl⟩⟩
  bnd := R.bnd
  ctx := let ⟨dcx, m1, m2⟩ := R.ctx; ⟨dcx, List.mem_filter.mpr ⟨m1, rfl⟩, List.mem_filter.mpr ⟨m2, rfl⟩⟩
theorem TAt.keepB {P : Params} {news : List (Addr × Obj)} {ta td cx l r : Addr} (t : TAt P news ta td cx l r) : TAt P (news.filter fun p => Mine.keepB p.2) ta td cx l r :=
  let ⟨a, t1, t2, t3, t4, hv, b⟩ := t; ⟨List.mem_filter.mpr ⟨a, rfl⟩, t1, t2, t3, t4, hv, List.mem_filter.mpr ⟨b, rfl⟩⟩
theorem NRI.cell {o : Obj} {v : Option Value} (d : o.data = .cell v) : NRI o := .inr fun vs e => by rw [d] at e; cases e
theorem NRI.ty {o : Obj} {T : String} (h : o.cls = .type T) (h2 : T ≠ "range_iterator") : NRI o := .inl fun e => by rw [h] at e; exact h2 (by cases e; rfl)
theorem flt_cell {h₀ h : Heap} {L c : Addr} {o : Obj} {v : Option Value} {l : List (Addr × Obj)} (N : News h₀ L h l) (hc : (c, o) ∈ l) (d : o.data = .cell v) : ∀ p ∈ l.filter (fun p => Mine.keepB p.2), p.1 ≠ c := fun p hp e => by
  obtain ⟨hp, hk⟩ := List.mem_filter.mp hp
  have e1 := (N _ hp).1
  rw [e, (N _ hc).1] at e1
  have e2 : o = p.2 := Option.some.inj e1
  rw [← e2] at hk
  unfold Mine.keepB at hk
  rw [d] at hk
  simp at hk
theorem flt_list {h₀ h : Heap} {L c : Addr} {vs : List Value} {l : List (Addr × Obj)} (N : News h₀ L h l) (hc : (c, LCg.lst vs) ∈ l) : ∀ p ∈ l.filter (fun p => Mine.keepB p.2), p.1 ≠ c := fun p hp e => by
  obtain ⟨hp, hk⟩ := List.mem_filter.mp hp
  have e1 := (N _ hp).1
  rw [e, (N _ hc).1] at e1
  have e2 : LCg.lst vs = p.2 := Option.some.inj e1
  rw [← e2] at hk
  cases hk
theorem split_gen {h₀ h : Heap} {L : Addr} {c d i : Addr × Obj} {own led : List (Addr × Obj)} (N : News h₀ L h (c :: d :: i :: (own ++ led))) : News h₀ L h (i :: own) ∧ News h₀ L h (c :: d :: led) :=
  ⟨fun p hp => N p (.tail _ (.tail _ (by rcases List.mem_cons.mp hp with rfl | hp; exact .head _; exact .tail _ (List.mem_append.mpr (.inl hp))))), fun p hp => N p (by rcases List.mem_cons.mp hp with rfl | hp; exact .head _; rcases List.mem_cons.mp hp with rfl | hp; exact .tail _ (.head _); exact .tail _ (.tail _ (.tail _ (List.mem_append.mpr (.inr hp)))))⟩
noncomputable def fltB (Z : List Addr) (l : List (Addr × Obj)) : List (Addr × Obj) := l.filter fun p => Mine.keepB p.2 && decide (p.1 ∉ Z)
theorem mem_fltB {Z : List Addr} {l : List (Addr × Obj)} {p : Addr × Obj} : p ∈ fltB Z l ↔ p ∈ l ∧ Mine.keepB p.2 = true ∧ p.1 ∉ Z := by unfold fltB; rw [List.mem_filter, Bool.and_eq_true, decide_eq_true_iff]
noncomputable def NsIn (al : List (Addr × Addr)) (l : List (Addr × Obj)) (z : Addr) : Prop := ∃ oG mG, (z, oG) ∈ l ∧ LCg.NsObj oG mG ∧ z ∉ al.map (·.2)
theorem ns_apart {h₀ h : Heap} {L : Addr} {Z : List Addr} {al : List (Addr × Addr)} {l : List (Addr × Obj)} {o : Obj} {x : Addr} (N : News h₀ L h l) (hZ : ∀ z ∈ Z, NsIn al l z) (hx : (x, o) ∈ l) (hd : ∀ es n, o.data ≠ .dict es n) : x ∉ Z := fun e => by
  obtain ⟨oG, mG, hG, hn, _⟩ := hZ x e
  have e1 := (N _ hx).1
  rw [(N _ hG).1] at e1
  have e2 : oG = o := Option.some.inj e1
  obtain ⟨es, ep, hd', _⟩ := hn
  exact hd _ _ (e2 ▸ hd')
theorem Rep.regroup {P : Params} {h₀ h : Heap} {L : Addr} {Z : List Addr} {l news : List (Addr × Obj)} {cx : Addr} {pts : List Addr} {xy : Nat → Int × Int} {al : List (Addr × Addr)} {st : List ERec} (R : Rep P l cx pts xy al st) (N : News h₀ L h l) (hZ : ∀ z ∈ Z, NsIn al l z) (hctx : ∃ dcx, (cx, instObj 261 dcx) ∈ news ∧ (dcx, dictOf [] 0) ∈ news) (hpin : ∀ (k : Nat) (a : Addr), pts[k]? = some a → ∃ t u, PtIn news a (xy k).1 t (xy k).2 u) : Rep P (fltB Z l ++ news) cx pts xy al st where
  len := R.len
  nd := R.nd
  inst := fun i a d h => List.mem_append.mpr (.inl (mem_fltB.mpr ⟨R.inst i a d h, rfl, ns_apart N hZ (R.inst i a d h) (fun es n e => by cases e)⟩))
  dict := fun i a d e h1 h2 => let ⟨t1, t2, t3, t4, la, ld, ra, rd, sv, x1, x2, x3, x4⟩ := R.dict i a d e h1 h2; ⟨t1, t2, t3, t4, la, ld, ra, rd, sv, x1, x2, x3, List.mem_append.mpr (.inl (mem_fltB.mpr ⟨x4, rfl, fun e => let ⟨_, _, _, _, hal⟩ := hZ _ e; hal (List.mem_map.mpr ⟨(a, d), List.mem_of_getElem? h1, rfl⟩)⟩))⟩
  pin := fun k a h => let ⟨t, u, m⟩ := hpin k a h; ⟨t, u, m.mono fun p hp => List.mem_append.mpr (.inr hp)⟩
  bnd := R.bnd
  ctx := let ⟨dcx, m1, m2⟩ := hctx; ⟨dcx, List.mem_append.mpr (.inr m1), List.mem_append.mpr (.inr m2)⟩
theorem TAt.regroup {P : Params} {h₀ h : Heap} {L : Addr} {Z : List Addr} {al : List (Addr × Addr)} {l news : List (Addr × Obj)} {ta td cx a b : Addr} (t : TAt P l ta td cx a b) (N : News h₀ L h l) (hZ : ∀ z ∈ Z, NsIn al l z) (ht : td ∉ Z) : TAt P (fltB Z l ++ news) ta td cx a b :=
  let ⟨x, t1, t2, t3, t4, hv, y⟩ := t; ⟨List.mem_append.mpr (.inl (mem_fltB.mpr ⟨x, rfl, ns_apart N hZ x (fun es n e => by cases e)⟩)), t1, t2, t3, t4, hv, List.mem_append.mpr (.inl (mem_fltB.mpr ⟨y, rfl, ht⟩))⟩
theorem retail_all {e1 e2 e3 e4 e5 e6 e7 e8 e9 : Addr × Obj} {f t : List (Addr × Obj)} {Q : Addr × Obj → Prop} (h1 : ∀ p ∈ e1 :: e2 :: e3 :: e4 :: e5 :: e6 :: e7 :: e8 :: e9 :: t, Q p) (h2 : ∀ p ∈ f, Q p) : ∀ p ∈ e1 :: e2 :: e3 :: e4 :: e5 :: e6 :: e7 :: e8 :: e9 :: (f ++ t), Q p := by
  intro p hp
  by_cases hf : p ∈ f
  · exact h2 p hf
  · refine h1 p ?_
    simp only [List.mem_cons, List.mem_append, hf, false_or] at hp ⊢
    exact hp
theorem all_like {l : List (Addr × Obj)} {D : Addr} {Q : Addr × Obj → Prop} (_h : ∀ p ∈ l, @LT.lt Nat _ p.1 D) (hQ : ∀ p ∈ l, Q p) : ∀ p ∈ l, Q p := hQ
theorem gen_at {h : Heap} {I : Addr} {g : Nat} {oI : Obj} (hG : h.IsGen I g) (e : h.get? I = some oI) (h' : Heap) (e' : h'.get? I = some oI) : h'.IsGen I g := by
  obtain ⟨o, nm, qn, ho, r⟩ := hG
  have : oI = o := Option.some.inj (e.symm.trans ho)
  subst this
  exact ⟨_, nm, qn, e', r⟩
theorem three_at {h₀ h6 : Heap} {L C D : Addr} {oC oD : Obj} {m : Str → Option Value} {led : List (Addr × Obj)} (F : Fr h₀ L h6 m) (N : News h₀ L h6 ((C, oC) :: (D, oD) :: led)) : ∀ z ∈ [L, C, D], ∃ o, h6.get? z = some o := by
  intro z hz
  simp only [List.mem_cons, List.not_mem_nil, or_false] at hz
  rcases hz with rfl | rfl | rfl
  · exact let ⟨o, e, _⟩ := LCg.ns_obj F.ns; ⟨o, e⟩
  · exact ⟨_, (N _ (.head _)).1⟩
  · exact ⟨_, (N _ (.tail _ (.head _))).1⟩
theorem retail_sub {c d e1 e2 e3 e4 e5 e6 e7 e8 e9 : Addr × Obj} {t t' : List (Addr × Obj)} (h : ∀ p ∈ t, p ∈ t') : ∀ p ∈ c :: d :: e1 :: e2 :: e3 :: e4 :: e5 :: e6 :: e7 :: e8 :: e9 :: t, p ∈ c :: d :: e1 :: e2 :: e3 :: e4 :: e5 :: e6 :: e7 :: e8 :: e9 :: t' := by
  intro p hp
  simp only [List.mem_cons] at hp ⊢
  rcases hp with h1 | h1 | h1 | h1 | h1 | h1 | h1 | h1 | h1 | h1 | h1 | h1
  all_goals first
    | (simp only [h1, true_or, or_true]; done)
    | (simp only [h p h1, or_true])
theorem step_keep {h₀ h3 : Heap} {L : Addr} {al al' : List (Addr × Addr)} {l LED news' : List (Addr × Obj)} (S : Step al LED al' news') (_W : Halt (News h₀ L h3 l)) (hs : ∀ p ∈ l, p ∈ LED) (hal : ∀ p ∈ l, p.1 ∉ al.map (·.2)) : ∀ p ∈ l, p ∈ news' ∧ p.1 ∉ al'.map (·.2) := fun p hp => S.2 p (hs p hp) (hal p hp)
theorem after_append {h₀ h5 h6 : Heap} {L D : Addr} {c : Addr × Obj} {o o' : Obj} {led news5 : List (Addr × Obj)} (N5 : News h₀ L h5 news5) (hk : ∀ p ∈ c :: (D, o) :: led, p ∈ news5) (hs6 : Heap.SameBut D h5 h6) (hD6 : h6.get? D = some o') (hc : c.1 ≠ D) (hl : ∀ p ∈ led, p.1 ≠ D) : News h₀ L h6 (c :: (D, o') :: led) := fun p hp => by
  rcases List.mem_cons.mp hp with rfl | hp
  · have z := N5 _ (hk _ (.head _))
    exact ⟨hs6.extBut _ _ hc z.1, z.2⟩
  · rcases List.mem_cons.mp hp with rfl | hp
    · exact ⟨hD6, (N5 _ (hk _ (.tail _ (.head _)))).2⟩
    · have z := N5 _ (hk _ (.tail _ (.tail _ hp)))
      exact ⟨hs6.extBut _ _ (hl p hp) z.1, z.2⟩
theorem cells_off {h₀ h5 : Heap} {L : Addr} {Z : List Addr} {c d e1 e2 e3 e4 : Addr × Obj} {o1 o2 o3 o4 o5 : Obj} {v1 v2 v3 v4 v5 : Option Value} {t news5 : List (Addr × Obj)} (N5 : News h₀ L h5 news5)
    (hk : ∀ p ∈ c :: d :: e1 :: e2 :: e3 :: e4 :: (L + 1 + 1 + 1 + 1 + 1, o1) :: (L + 1 + 1 + 1 + 1, o2) :: (L + 1 + 1 + 1, o3) :: (L + 1 + 1, o4) :: (L + 1, o5) :: t, p ∈ news5) (hl : ∀ p ∈ t, @LT.lt Nat _ p.1 L) (d1 : o1.data = .cell v1) (d2 : o2.data = .cell v2) (d3 : o3.data = .cell v3) (d4 : o4.data = .cell v4) (d5 : o5.data = .cell v5) :
    (∀ p ∈ fltB Z news5 ++ t, p.1 ≠ L + 1 + 1 + 1 + 1 + 1) ∧ (∀ p ∈ fltB Z news5 ++ t, p.1 ≠ L + 1 + 1 + 1 + 1) ∧ (∀ p ∈ fltB Z news5 ++ t, p.1 ≠ L + 1 + 1 + 1) ∧ (∀ p ∈ fltB Z news5 ++ t, p.1 ≠ L + 1 + 1) ∧ (∀ p ∈ fltB Z news5 ++ t, p.1 ≠ L + 1) := by
  have go : ∀ (k : Addr) (o : Obj) (v : Option Value), (k, o) ∈ news5 → o.data = .cell v → @LT.lt Nat _ L k → ∀ p ∈ fltB Z news5 ++ t, p.1 ≠ k := by
    intro k o v hm hd hlk p hp
    rcases List.mem_append.mp hp with hp | hp
    · exact flt_cell N5 hm hd p (List.mem_filter.mpr ⟨(mem_fltB.mp hp).1, (mem_fltB.mp hp).2.1⟩)
    · exact Nat.ne_of_lt (Nat.lt_trans (hl p hp) hlk)
  refine ⟨go _ _ _ (hk _ (.tail _ (.tail _ (.tail _ (.tail _ (.tail _ (.tail _ (.head _)))))))) d1 (by show @LT.lt Nat _ L (L + 1 + 1 + 1 + 1 + 1); omega), go _ _ _ (hk _ (.tail _ (.tail _ (.tail _ (.tail _ (.tail _ (.tail _ (.tail _ (.head _))))))))) d2 (by show @LT.lt Nat _ L (L + 1 + 1 + 1 + 1); omega), go _ _ _ (hk _ (.tail _ (.tail _ (.tail _ (.tail _ (.tail _ (.tail _ (.tail _ (.tail _ (.head _)))))))))) d3 (by show @LT.lt Nat _ L (L + 1 + 1 + 1); omega), go _ _ _ (hk _ (.tail _ (.tail _ (.tail _ (.tail _ (.tail _ (.tail _ (.tail _ (.tail _ (.tail _ (.head _))))))))))) d4 (by show @LT.lt Nat _ L (L + 1 + 1); omega), go _ _ _ (hk _ (.tail _ (.tail _ (.tail _ (.tail _ (.tail _ (.tail _ (.tail _ (.tail _ (.tail _ (.tail _ (.head _)))))))))))) d5 (by show @LT.lt Nat _ L (L + 1); omega)⟩
theorem gen_ready {h₀ h9 : Heap} {L Lg I C D : Addr} {oC oD : Obj} {m : Str → Option Value} {led : List (Addr × Obj)} {FF : List Addr → Prop} (F9 : Fr h₀ L h9 m) (N9 : News h₀ L h9 ((C, oC) :: (D, oD) :: led)) (hLLg : @LT.lt Nat _ L Lg) (hLgI : @LT.lt Nat _ Lg I) (lI9 : @LT.lt Nat _ I D) (lC9 : @LT.lt Nat _ D C)
    (feed' : ∀ Z : List Addr, Lg ∉ Z → (∀ z ∈ Z, h₀.get? z = none) → FF Z) : Lg ∉ [L, C, D] ∧ FF [L, C, D] ∧ (∀ z ∈ [L, C, D], ∃ o, h9.get? z = some o) := by
  have hZg : Lg ∉ [L, C, D] := by
    intro hz
    simp only [List.mem_cons, List.not_mem_nil, or_false] at hz
    rcases hz with rfl | rfl | rfl
    · exact Nat.lt_irrefl _ hLLg
    · exact Nat.lt_irrefl _ (Nat.lt_trans hLgI (Nat.lt_trans lI9 lC9))
    · exact Nat.lt_irrefl _ (Nat.lt_trans hLgI lI9)
  refine ⟨hZg, feed' _ hZg ?_, ?_⟩
  · intro z hz
    simp only [List.mem_cons, List.not_mem_nil, or_false] at hz
    rcases hz with rfl | rfl | rfl
    · exact Heap.get?_none_of_le F9.above
    · exact (N9 _ (.head _)).2.2
    · exact (N9 _ (.tail _ (.head _))).2.2
  · intro z hz
    simp only [List.mem_cons, List.not_mem_nil, or_false] at hz
    rcases hz with rfl | rfl | rfl
    · exact let ⟨o, e, _⟩ := LCg.ns_obj F9.ns; ⟨o, e⟩
    · exact ⟨_, (N9 _ (.head _)).1⟩
    · exact ⟨_, (N9 _ (.tail _ (.head _))).1⟩
theorem News.app {h₀ h : Heap} {L : Addr} {l l' : List (Addr × Obj)} (N : News h₀ L h l) (N' : News h₀ L h l') : News h₀ L h (l' ++ l) := fun p hp => (List.mem_append.mp hp).elim (N' p) (N p)
theorem retail {h₀ h : Heap} {L : Addr} {c d e1 e2 e3 e4 e5 e6 e7 e8 e9 : Addr × Obj} {f t : List (Addr × Obj)} (N : News h₀ L h (c :: d :: e1 :: e2 :: e3 :: e4 :: e5 :: e6 :: e7 :: e8 :: e9 :: t)) (N' : News h₀ L h f) : News h₀ L h (c :: d :: e1 :: e2 :: e3 :: e4 :: e5 :: e6 :: e7 :: e8 :: e9 :: (f ++ t)) := by
  obtain h9 : Tag9 (P := News h₀ L h (c :: d :: e1 :: e2 :: e3 :: e4 :: e5 :: e6 :: e7 :: e8 :: e9 :: (f ++ t))) (
    fun p hp => by
    simp only [List.mem_cons, List.mem_append] at hp
    rcases hp with h | h | h | h | h | h | h | h | h | h | h | h | h
    all_goals first
      | (exact N' p h)
      | (refine N p ?_; simp only [List.mem_cons]; simp only [h, true_or, or_true])) := trivial
  unfold id at h9; exact h9.get
section
variable {prog : Program} {w : World} {A : Around} {E : Value → Shared → Prop} {s : Shared}
theorem comp_start {h₀ : Heap} {L I : Addr} {m : Str → Option Value} {led : List (Addr × Obj)} {elt target iter : PySem.Expr} {scope : Scope} {cl : List (Str × Addr)} {pos : Pos} {env : Env} {g : Nat} {RR : Value → Addr → Result → Shared → Prop}
    (hcell : ∀ y ∈ scope.names, y.2 ≠ .cell) (hkind : scope.kind = .function) (F : Fr h₀ L s.heap m) (N : News h₀ L s.heap led) (hG : s.heap.IsGen I g)
    (loop : ∀ D C oC mC h tk, Fr h₀ L h m → LCg.NsObj oC mC → News h₀ L h ((C, oC) :: (D, LCg.lst []) :: led) → (∀ p ∈ led, p.1 < D) → @LT.lt Nat _ D C → h.IsGen I g → @LT.lt Nat _ I D → 
      codeAny (model prog w) A (.compLoop (.ListComp elt [⟨target, iter, [], 0⟩] scope pos) 0 (.ref I) (.ref D) (compEnvC scope cl C env)) (RR (.ref D) C) { s with heap := h, toks := tk }) :
    wpAny (model prog w) A (newList []) (fun acc s₃ => wpAny (model prog w) A (newFunctionEnv scope env.globals cl [] env.qual none .none (some env)) (fun cenv s₄ =>
      codeAny (model prog w) A (.compStart (.ListComp elt [⟨target, iter, [], 0⟩] scope pos) 0 (.ref I) acc { cenv with scope := relabel scope env }) (RR acc cenv.locals) s₄) E s₃) E s := by
  obtain h9 : Tag9 (P := wpAny (model prog w) A (newList []) (fun acc s₃ => wpAny (model prog w) A (newFunctionEnv scope env.globals cl [] env.qual none .none (some env)) (fun cenv s₄ => codeAny (model prog w) A (.compStart (.ListComp elt [⟨target, iter, [], 0⟩] scope pos) 0 (.ref I) acc { cenv with scope := relabel scope env }) (RR acc cenv.locals) s₄) E s₃) E s) (by
    refine wpAny_newObj_type (wpAny_newFunctionEnv hcell (by intro y hy; simp at hy) (fun h₁ hns₁ hsb₁ => ?_) hkind)
    dsimp only at hns₁ hsb₁ ⊢
    generalize hH2 : s.heap.push { cls := .type "list", dict := none, data := .seq ([] : List Value).toArray } = H2 at hns₁ hsb₁ ⊢
    have hC : H2.objs.size = s.heap.objs.size + 1 := by rw [← hH2, Heap.size_push]
    have hDC : s.heap.objs.size ≠ H2.objs.size := by rw [hC]; exact Nat.ne_of_lt (Nat.lt_succ_self _)
    have old : ∀ b o, s.heap.get? b = some o → h₁.get? b = some o := fun b o e => hsb₁.extBut b o (by rw [hC]; exact Nat.ne_of_lt (Nat.lt_succ_of_lt (Heap.lt_size e))) (hH2 ▸ Heap.get?_push_of_some _ e |> Heap.get?_push_of_some _)
    have hacc : h₁.get? s.heap.objs.size = some (LCg.lst []) := hsb₁.extBut _ _ hDC (Heap.get?_push_of_some _ (hH2 ▸ Heap.get?_push_size _ rfl))
    have fresh₀ : ∀ a, s.heap.objs.size ≤ a → h₀.get? a = none := fun a ha => Heap.get?_none_of_le (Nat.le_trans F.above (Nat.le_of_lt (Nat.lt_of_lt_of_le F.ns.lt ha)))
    have hLlt : @LT.lt Nat _ L s.heap.objs.size := F.ns.lt
    obtain ⟨oC, hoC, hnC⟩ := LCg.ns_obj hns₁
    have hDL : s.heap.objs.size ≠ L := Ne.symm (Nat.ne_of_lt hLlt)
    have hCL : H2.objs.size ≠ L := by rw [hC]; exact Ne.symm (Nat.ne_of_lt (Nat.lt_succ_of_lt hLlt))
    have hIlt : @LT.lt Nat _ I s.heap.objs.size := let ⟨_, _, _, e, _⟩ := hG; Heap.lt_size e
    have go : codeAny (model prog w) A (.compLoop (.ListComp elt [⟨target, iter, [], 0⟩] scope pos) 0 (.ref I) (.ref s.heap.objs.size) (compEnvC scope cl H2.objs.size env)) (RR (.ref s.heap.objs.size) H2.objs.size) { s with heap := h₁, toks := s.toks + ([] : List (Str × Value)).length } := by
      refine loop _ _ oC _ h₁ _ (F.keeps old) hnC ?_ (fun p hp => Heap.lt_size (N p hp).1) (by rw [hC]; exact Nat.lt_succ_self _) (hG.keeps old) hIlt
      intro p hp
      rcases List.mem_cons.mp hp with rfl | hp
      · exact ⟨hoC, hCL, fresh₀ _ (by rw [hC]; exact Nat.le_succ _)⟩
      · rcases List.mem_cons.mp hp with rfl | hp
        · exact ⟨hacc, hDL, fresh₀ _ (Nat.le_refl _)⟩
        · exact ⟨old _ _ (N p hp).1, (N p hp).2⟩
    exact codeAny_compStart_list go (wpAny_pyIter_gen (hG.keeps old) go)) := trivial
  unfold id at h9; exact h9.get
end
example : True := by
  k_with "ne9" => (refine neN ?_; (try dsimp only); with_reducible first | exact neU1 | exact neU2 | exact neU3 | exact neU4 | exact neD1 | exact neD2 | exact neD3 | exact neD4 | exact Nat.ne_of_gt ‹_› | exact Nat.ne_of_lt ‹_› | exact gtA1 ‹_› | exact Ne.symm (gtA1 ‹_›) | exact gtA2 ‹_› | exact Ne.symm (gtA2 ‹_›) | exact gtA3 ‹_› | exact Ne.symm (gtA3 ‹_›) | exact gtA4 ‹_› | exact Ne.symm (gtA4 ‹_›) | exact gtA5 ‹_› | exact Ne.symm (gtA5 ‹_›) | exact gtA6 ‹_› | exact Ne.symm (gtA6 ‹_›) | exact gtA7 ‹_› | exact Ne.symm (gtA7 ‹_›) | exact gtA8 ‹_› | exact Ne.symm (gtA8 ‹_›) | exact gtA9 ‹_› | exact Ne.symm (gtA9 ‹_›) | exact gtA10 ‹_› | exact Ne.symm (gtA10 ‹_›) | exact gtA11 ‹_› | exact Ne.symm (gtA11 ‹_›) | exact gtA12 ‹_› | exact Ne.symm (gtA12 ‹_›) | exact neA1 ‹_› | exact Ne.symm (neA1 ‹_›) | exact neA2 ‹_› | exact Ne.symm (neA2 ‹_›) | exact neA3 ‹_› | exact Ne.symm (neA3 ‹_›) | exact neA4 ‹_› | exact Ne.symm (neA4 ‹_›) | exact neA5 ‹_› | exact Ne.symm (neA5 ‹_›) | exact neA6 ‹_› | exact Ne.symm (neA6 ‹_›) | exact neA7 ‹_› | exact Ne.symm (neA7 ‹_›) | exact neA8 ‹_› | exact Ne.symm (neA8 ‹_›) | exact neA9 ‹_› | exact Ne.symm (neA9 ‹_›) | (refine Nat.ne_of_gt (Nat.lt_trans ?_ ‹_›); first | exact ltA1 ‹_› | exact ltA2 ‹_› | exact ltA3 ‹_› | exact ltA4 ‹_› | exact ltA5 ‹_› | exact ltA6 ‹_› | exact ltA7 ‹_› | exact ltA8 ‹_› | exact ltA9 ‹_› | exact ltA10 ‹_› | exact ltA11 ‹_› | exact ltA12 ‹_›) | (refine Nat.ne_of_lt (Nat.lt_trans ?_ ‹_›); first | exact ltA1 ‹_› | exact ltA2 ‹_› | exact ltA3 ‹_› | exact ltA4 ‹_› | exact ltA5 ‹_› | exact ltA6 ‹_› | exact ltA7 ‹_› | exact ltA8 ‹_› | exact ltA9 ‹_› | exact ltA10 ‹_› | exact ltA11 ‹_› | exact ltA12 ‹_›))
  trivial
example : True := by
  w_top off
  k_with "execs cons" => w_strict (refine wpAny_execs_cons ?_; (try k_fold))
  k_with "eval BinOp" => w_strict (k_fold)
  k_with "eval Call" => w_strict (k_fold)
  k_with "eval Call Attribute" => w_strict (k_fold)
  k_with "eval Attribute Name" => w_strict (k_fold)
  k_with "eval Subscript" => w_strict (k_fold)
  k_with "eval Attribute Attribute" => w_strict (k_fold)
  k_with "getAttr ref" => w_strict (k_fold)
  k_with "eval Tuple" => w_strict (k_fold)
  k_with "assignInOrder" => w_strict (k_fold)
  k_with "exec Assign" => w_strict (k_fold)
  k_with "isTrue BoolOp" => w_strict (k_fold)
  k_with "isTrue Compare" => w_strict (k_fold)
  k_with "callWith ref" => w_strict (k_fold)
  trivial
theorem Halt.keep {p : Prop} (h : Halt p) : Halt p := h
theorem comp_halt {prog : Program} {w : World} {A : Around} {E : Value → Shared → Prop} {s : Shared} {env : Env} {elt iter target : PySem.Expr} {scope : Scope} {cl : List (Str × Addr)} {pos : Pos} {Q : Value → Shared → Prop}
    (hclos : closureFor scope env = pure cl) (hkind : scope.kind = .function)
    (hnames : ∀ z ∈ scope.names, z.2 = .local → scope.names.lookup z.1 = some .local)
    (h : wpAny (model prog w) A (eval iter env) (fun xv s₁ => Halt (wpAny (model prog w) A (pyIter xv) (fun it s₂ => wpAny (model prog w) A (newList []) (fun acc s₃ =>
      wpAny (model prog w) A (newFunctionEnv scope env.globals cl [] env.qual none .none (some env)) (fun cenv s₄ =>
        codeAny (model prog w) A (.compStart (.ListComp elt [⟨target, iter, [], 0⟩] scope pos) 0 it acc { cenv with scope := relabel scope env }) (compPost (model prog w) A E none Q acc cenv.locals) s₄) E s₃) E s₂) E s₁)) E s)
    (hs : ∀ x, foldedSetIterable iter env x = pure x := by intro _; rfl) :
    wpAny (model prog w) A (eval (.ListComp elt [⟨target, iter, [], 0⟩] scope pos) env) Q E s := by
  rw [eval_ListComp]
  exact wpAny_comprehension_free (use := none) rfl hs hclos hkind hnames h
theorem step_out {Z : List Addr} {LED news news5 nw2 : List (Addr × Obj)} {al5 : List (Addr × Addr)} (S5 : Step [] LED al5 news5) (h : nw2 = fltB Z news5 ++ news) (hs : ∀ p ∈ news, p ∈ LED) : Step [] news al5 nw2 :=
  ⟨S5.1, fun p hp hn => ⟨by rw [h]; exact List.mem_append.mpr (.inr hp), (S5.2 p (hs p hp) hn).2⟩⟩
theorem nri_out {Z : List Addr} {news news5 nw2 : List (Addr × Obj)} (h : nw2 = fltB Z news5 ++ news) (hn : ∀ p ∈ news, NRI p.2) : ∀ p ∈ nw2, NRI p.2 := fun p hp => by
  rw [h] at hp
  rcases List.mem_append.mp hp with hp | hp
  · exact keepB_nri (mem_fltB.mp hp).2.1
  · exact hn p hp
theorem bare_set {gs : Array GenState} {i : Nat} {g : GenState} (h : AllBare gs) (hg : g.bare = true) : AllBare (gs.setIfInBounds i g) := fun y hy => by
  obtain ⟨j, hj⟩ := Array.mem_iff_getElem?.mp hy
  rw [Array.getElem?_setIfInBounds] at hj
  split at hj
  · split at hj
    · cases hj; exact hg
    · cases hj
  · exact h y (Array.mem_iff_getElem?.mpr ⟨j, hj⟩)
theorem bare_out1 {gs : Array GenState} {g1 g2 : GenState} (h : AllBare gs) : AllBare (((gs.push g1).setIfInBounds gs.size g2).setIfInBounds gs.size .finished) := by
  intro y hy
  obtain ⟨j, hj⟩ := Array.mem_iff_getElem?.mp hy
  rw [Array.getElem?_setIfInBounds] at hj
  split at hj
  · split at hj
    · cases hj; rfl
    · cases hj
  · rename_i hne
    rw [Array.getElem?_setIfInBounds, if_neg hne, Array.getElem?_push, if_neg (fun e => hne e.symm)] at hj
    exact h y (Array.mem_iff_getElem?.mpr ⟨j, hj⟩)
theorem CompEnd_same {h₀ : Heap} {L I C D : Addr} {m : Str → Option Value} {s₁ : Shared} {oI oC oD : Obj} {S : List (Addr × Obj) → Prop} {rest : Value → List (Addr × Obj) → Prop} {y : Value} {h' : Heap} {tk : Nat} {X : List (Addr × Obj)}
    (F : Fr h₀ L h' m) (N : News h₀ L h' ((I, oI) :: (C, oC) :: (D, oD) :: X)) (off : LCg.Off3 I C D X) (hS : S X) (r : rest y X) :
    LCg.CompEnd h₀ L m s₁ I oI C oC D oD S rest y { s₁ with heap := h', toks := tk } := ⟨h', tk, X, rfl, F, N, off, hS, r⟩
theorem CompEnd_skip {h₀ : Heap} {L I C D : Addr} {m : Str → Option Value} {s₁ : Shared} {oI oC oD : Obj} {S : List (Addr × Obj) → Prop} {rest : Value → List (Addr × Obj) → Prop} {y : Value} {h' : Heap} {tk : Nat} {X : List (Addr × Obj)} {q : Addr × Obj}
    (F : Fr h₀ L h' m) (N : News h₀ L h' (q :: (I, oI) :: (C, oC) :: (D, oD) :: X)) (off : LCg.Off3 I C D X) (hS : S X) (r : rest y X) :
    LCg.CompEnd h₀ L m s₁ I oI C oC D oD S rest y { s₁ with heap := h', toks := tk } := ⟨h', tk, X, rfl, F, fun p hp => N p (.tail _ hp), off, hS, r⟩
theorem neAbove {l : List (Addr × Obj)} {d c : Addr} (h : ∀ p ∈ l, p.1 < d) (hle : @LE.le Nat _ d c) : ∀ p ∈ l, p.1 ≠ c := fun p hp => Nat.ne_of_lt (Nat.lt_of_lt_of_le (h p hp) hle)
local macro_rules | `(tactic| k_all) => `(tactic| k_extra "all9")
example : True := by
  k_with "all9" => (first | assumption | refine neAbove ‹_› (by (try dsimp only); omega))
  trivial
example : True := by
  k_with "call ref" => w_strict (k_here; (with_reducible show wpAny _ _ (call (Value.ref 272) [Value.int 2 _, _] _) _ _ _); k_dflt (refine g_coin_2 (by k_asm) (by k_asm) (by k_asm) (by k_asm) (by k_asm) (by first | exact rfl | assumption) (by ktr_room) (by ktr_units) ?_; k_whole); intro _ _ _ _ _ _ _ l1; (try k_lt l1); (try k_sweep); (try (revert l1; intro _)))
  k_with "call ref" => w_strict (k_here; (with_reducible show wpAny _ _ (call (Value.ref 272) [Value.int 3 _, _] _) _ _ _); k_dflt (refine g_coin_3 (by k_asm) (by k_asm) (by k_asm) (by k_asm) (by k_asm) (by first | exact rfl | assumption) (by ktr_room) (by ktr_units) ?_; k_whole); intro _ _ _ _ _ _ _ l1; (try k_lt l1); (try k_sweep); (try (revert l1; intro _)))
  k_with "call ref" => w_strict (k_here; (with_reducible show wpAny _ _ (call (Value.ref 272) [Value.int 4 _, _] _) _ _ _); k_dflt (refine g_coin_4 (by k_asm) (by k_asm) (by k_asm) (by k_asm) (by k_asm) (by first | exact rfl | assumption) (by ktr_room) (by ktr_units) ?_; k_whole); intro _ _ _ _ _ _ _ l1; (try k_lt l1); (try k_sweep); (try (revert l1; intro _)))
  k_with "call ref" => w_strict (k_here; (with_reducible show wpAny _ _ (call (Value.ref 272) [Value.int 5 _, _] _) _ _ _); k_dflt (refine g_coin_5 (by k_asm) (by k_asm) (by k_asm) (by k_asm) (by k_asm) (by first | exact rfl | assumption) (by ktr_room) (by ktr_units) ?_; k_whole); intro _ _ _ _ _ _ _ l1; (try k_lt l1); (try k_sweep); (try (revert l1; intro _)))
  k_with "call ref" => w_strict (k_here; (with_reducible show wpAny _ _ (call (Value.ref 432) [Value.ref _] _) _ _ _); k_dflt (refine g_distinct (by k_asm) (by k_asm) (by k_asm) (by k_asm) (by k_asm) (by first | exact rfl | assumption) (by k_mem) (by (first | assumption | (intro z9 hz9; refine PtAt.mono ?_ (fun p9 hp9 => mcm _ (hp9)); revert z9 hz9; assumption) | (intro z9 hz9; refine PtAt.mono ?_ (fun p9 hp9 => mcm _ (mcm _ (hp9))); revert z9 hz9; assumption) | (intro z9 hz9; refine PtAt.mono ?_ (fun p9 hp9 => mcm _ (mcm _ (mcm _ (hp9)))); revert z9 hz9; assumption) | (intro z9 hz9; refine PtAt.mono ?_ (fun p9 hp9 => mcm _ (mcm _ (mcm _ (mcm _ (hp9))))); revert z9 hz9; assumption) | (intro z9 hz9; refine PtAt.mono ?_ (fun p9 hp9 => mcm _ (mcm _ (mcm _ (mcm _ (mcm _ (hp9)))))); revert z9 hz9; assumption) | (intro z9 hz9; refine PtAt.mono ?_ (fun p9 hp9 => mcm _ (mcm _ (mcm _ (mcm _ (mcm _ (mcm _ (hp9))))))); revert z9 hz9; assumption) | (intro z9 hz9; refine PtAt.mono ?_ (fun p9 hp9 => mcm _ (mcm _ (mcm _ (mcm _ (mcm _ (mcm _ (mcm _ (hp9)))))))); revert z9 hz9; assumption) | (intro z9 hz9; refine PtAt.mono ?_ (fun p9 hp9 => mcm _ (mcm _ (mcm _ (mcm _ (mcm _ (mcm _ (mcm _ (mcm _ (hp9))))))))); revert z9 hz9; assumption))) ‹_› (by exact Nat.le_of_ble_eq_true rfl) (by ktr_room) (by ktr_units) ?_; k_whole); intro _ _ _ _ _ _ l1; (try k_lt l1); (try k_sweep); (try (revert l1; intro _)))
  k_with "call builtin:sorted" => w_strict (k_here; (with_reducible show wpAny _ _ (call (Value.builtin _) [Value.ref _]) _ _ _); k_dflt (refine sorted_pts (by ktr_units) (by k_asm) (by k_asm) (by k_asm) (by k_mem) (by (first | assumption | (intro z9 hz9; refine PtAt.mono ?_ (fun p9 hp9 => mcm _ (hp9)); revert z9 hz9; assumption) | (intro z9 hz9; refine PtAt.mono ?_ (fun p9 hp9 => mcm _ (mcm _ (hp9))); revert z9 hz9; assumption) | (intro z9 hz9; refine PtAt.mono ?_ (fun p9 hp9 => mcm _ (mcm _ (mcm _ (hp9)))); revert z9 hz9; assumption) | (intro z9 hz9; refine PtAt.mono ?_ (fun p9 hp9 => mcm _ (mcm _ (mcm _ (mcm _ (hp9))))); revert z9 hz9; assumption) | (intro z9 hz9; refine PtAt.mono ?_ (fun p9 hp9 => mcm _ (mcm _ (mcm _ (mcm _ (mcm _ (hp9)))))); revert z9 hz9; assumption) | (intro z9 hz9; refine PtAt.mono ?_ (fun p9 hp9 => mcm _ (mcm _ (mcm _ (mcm _ (mcm _ (mcm _ (hp9))))))); revert z9 hz9; assumption) | (intro z9 hz9; refine PtAt.mono ?_ (fun p9 hp9 => mcm _ (mcm _ (mcm _ (mcm _ (mcm _ (mcm _ (mcm _ (hp9)))))))); revert z9 hz9; assumption) | (intro z9 hz9; refine PtAt.mono ?_ (fun p9 hp9 => mcm _ (mcm _ (mcm _ (mcm _ (mcm _ (mcm _ (mcm _ (mcm _ (hp9))))))))); revert z9 hz9; assumption))) ‹_› (by exact Nat.le_of_ble_eq_true rfl) (by exact Nat.le_of_ble_eq_true rfl) ?_; k_whole); intro _ _ _ _ N' l1; (try simp only [refs_cons, refs_nil] at N'); (try k_lt l1); (try k_sweep); (try (revert N'; intro _)); (try (revert l1; intro _)))
  k_with "CompSrc" => w_strict (k_here; k_dflt (refine LCg.CompSrc.range (by rfl) (by k_asm) (by k_asm) ‹_› (by first | decide | rfl) (by first | rfl | decide) (by first | size_fits | exact Nat.le_of_ble_eq_true rfl) ?_; intro g'; lcg_lit))
  k_with "CompEnd" => w_strict (k_here; k_dflt (first | (refine CompEnd_same (by k_asm) ‹_› ‹_› (by exact True.intro) ?_; k_whole) | (refine CompEnd_skip (by k_asm) ‹_› ‹_› (by exact True.intro) ?_; k_whole)))
  k_with "exec Assign cons ListComp" => w_strict (k_here; refine wpAny_Assign_Name ?_ (by with_unfolding_all rfl))
  k_with "eval ListComp" => w_strict (k_here; (with_reducible show wpAny _ _ (eval (PySem.Expr.ListComp _ [{ target := PySem.Expr.Tuple _ _ _, iter := _, ifs := _, is_async := _ }] _ _) _) _ _ _); refine Halt.of ?_)
  k_with "subscriptTail Name Slice ref ref" => w_strict (k_here; (with_reducible show wpAny _ _ (subscriptTail _ (PySem.Expr.Slice none (some _) none _) (Value.ref _) (Value.ref _)) _ _ _); k_dflt (refine slice_tuple_upto (b := 0) (by k_asm) (by k_asm) (by refine News.isTup (by k_asm) (by (first | exact mhd _ | exact mtl _ (mhd _) | exact mtl _ (mtl _ (mhd _)) | exact mtl _ (mtl _ (mtl _ (mhd _))) | exact mtl _ (mtl _ (mtl _ (mtl _ (mhd _)))) | exact mtl _ (mtl _ (mtl _ (mtl _ (mtl _ (mhd _))))) | exact mtl _ (mtl _ (mtl _ (mtl _ (mtl _ (mtl _ (mhd _)))))) | exact mtl _ (mtl _ (mtl _ (mtl _ (mtl _ (mtl _ (mtl _ (mhd _))))))) | exact mtl _ (mtl _ (mtl _ (mtl _ (mtl _ (mtl _ (mtl _ (mtl _ (mhd _)))))))) | exact mtl _ (mtl _ (mtl _ (mtl _ (mtl _ (mtl _ (mtl _ (mtl _ (mtl _ (mhd _))))))))) | exact mtl _ (mtl _ (mtl _ (mtl _ (mtl _ (mtl _ (mtl _ (mtl _ (mtl _ (mtl _ (mhd _)))))))))) | exact mtl _ (mtl _ (mtl _ (mtl _ (mtl _ (mtl _ (mtl _ (mtl _ (mtl _ (mtl _ (mtl _ (mhd _))))))))))) | exact mtl _ (mtl _ (mtl _ (mtl _ (mtl _ (mtl _ (mtl _ (mtl _ (mtl _ (mtl _ (mtl _ (mtl _ (mhd _)))))))))))) | exact mtl _ (mtl _ (mtl _ (mtl _ (mtl _ (mtl _ (mtl _ (mtl _ (mtl _ (mtl _ (mtl _ (mtl _ (mtl _ (mhd _)))))))))))))))) (by first | rfl | decide) (by first | exact rfl | exact Nat.le_of_ble_eq_true rfl) (by exact rfl) (by with_unfolding_all rfl) (by intro _; with_unfolding_all rfl) (by first | exact Nat.le_of_ble_eq_true rfl | size_fits) ?_; k_whole); intro _ _ _ _ l1; (try k_lt l1); (try k_sweep); (try (revert l1; intro _)))
  k_with "subscriptTail Name Slice ref ref" => w_strict (k_here; (with_reducible show wpAny _ _ (subscriptTail _ (PySem.Expr.Slice none (some _) none _) (Value.ref _) (Value.ref _)) _ _ _); k_dflt (refine slice_tuple_upto (b := 1) (by k_asm) (by k_asm) (by refine News.isTup (by k_asm) (by (first | exact mhd _ | exact mtl _ (mhd _) | exact mtl _ (mtl _ (mhd _)) | exact mtl _ (mtl _ (mtl _ (mhd _))) | exact mtl _ (mtl _ (mtl _ (mtl _ (mhd _)))) | exact mtl _ (mtl _ (mtl _ (mtl _ (mtl _ (mhd _))))) | exact mtl _ (mtl _ (mtl _ (mtl _ (mtl _ (mtl _ (mhd _)))))) | exact mtl _ (mtl _ (mtl _ (mtl _ (mtl _ (mtl _ (mtl _ (mhd _))))))) | exact mtl _ (mtl _ (mtl _ (mtl _ (mtl _ (mtl _ (mtl _ (mtl _ (mhd _)))))))) | exact mtl _ (mtl _ (mtl _ (mtl _ (mtl _ (mtl _ (mtl _ (mtl _ (mtl _ (mhd _))))))))) | exact mtl _ (mtl _ (mtl _ (mtl _ (mtl _ (mtl _ (mtl _ (mtl _ (mtl _ (mtl _ (mhd _)))))))))) | exact mtl _ (mtl _ (mtl _ (mtl _ (mtl _ (mtl _ (mtl _ (mtl _ (mtl _ (mtl _ (mtl _ (mhd _))))))))))) | exact mtl _ (mtl _ (mtl _ (mtl _ (mtl _ (mtl _ (mtl _ (mtl _ (mtl _ (mtl _ (mtl _ (mtl _ (mhd _)))))))))))) | exact mtl _ (mtl _ (mtl _ (mtl _ (mtl _ (mtl _ (mtl _ (mtl _ (mtl _ (mtl _ (mtl _ (mtl _ (mtl _ (mhd _)))))))))))))))) (by first | rfl | decide) (by first | exact rfl | exact Nat.le_of_ble_eq_true rfl) (by exact rfl) (by with_unfolding_all rfl) (by intro _; with_unfolding_all rfl) (by first | exact Nat.le_of_ble_eq_true rfl | size_fits) ?_; k_whole); intro _ _ _ _ l1; (try k_lt l1); (try k_sweep); (try (revert l1; intro _)))
  k_with "subscriptTail Name Slice ref ref" => w_strict (k_here; (with_reducible show wpAny _ _ (subscriptTail _ (PySem.Expr.Slice none (some _) none _) (Value.ref _) (Value.ref _)) _ _ _); k_dflt (refine slice_tuple_whole (b := 1) (by k_asm) (by k_asm) (by refine News.isTup (by k_asm) (by (first | exact mhd _ | exact mtl _ (mhd _) | exact mtl _ (mtl _ (mhd _)) | exact mtl _ (mtl _ (mtl _ (mhd _))) | exact mtl _ (mtl _ (mtl _ (mtl _ (mhd _)))) | exact mtl _ (mtl _ (mtl _ (mtl _ (mtl _ (mhd _))))) | exact mtl _ (mtl _ (mtl _ (mtl _ (mtl _ (mtl _ (mhd _)))))) | exact mtl _ (mtl _ (mtl _ (mtl _ (mtl _ (mtl _ (mtl _ (mhd _))))))) | exact mtl _ (mtl _ (mtl _ (mtl _ (mtl _ (mtl _ (mtl _ (mtl _ (mhd _)))))))) | exact mtl _ (mtl _ (mtl _ (mtl _ (mtl _ (mtl _ (mtl _ (mtl _ (mtl _ (mhd _))))))))) | exact mtl _ (mtl _ (mtl _ (mtl _ (mtl _ (mtl _ (mtl _ (mtl _ (mtl _ (mtl _ (mhd _)))))))))) | exact mtl _ (mtl _ (mtl _ (mtl _ (mtl _ (mtl _ (mtl _ (mtl _ (mtl _ (mtl _ (mtl _ (mhd _))))))))))) | exact mtl _ (mtl _ (mtl _ (mtl _ (mtl _ (mtl _ (mtl _ (mtl _ (mtl _ (mtl _ (mtl _ (mtl _ (mhd _)))))))))))) | exact mtl _ (mtl _ (mtl _ (mtl _ (mtl _ (mtl _ (mtl _ (mtl _ (mtl _ (mtl _ (mtl _ (mtl _ (mtl _ (mhd _)))))))))))))))) (by first | rfl | decide) (by first | exact rfl | exact Nat.le_of_ble_eq_true rfl)  (by with_unfolding_all rfl) (by intro _; with_unfolding_all rfl)  ?_; k_whole); intro _ _ _; (try k_sweep))
  k_with "subscriptTail Name Slice ref ref" => w_strict (k_here; (with_reducible show wpAny _ _ (subscriptTail _ (PySem.Expr.Slice none (some _) none _) (Value.ref _) (Value.ref _)) _ _ _); k_dflt (refine slice_tuple_whole (b := 2) (by k_asm) (by k_asm) (by refine News.isTup (by k_asm) (by (first | exact mhd _ | exact mtl _ (mhd _) | exact mtl _ (mtl _ (mhd _)) | exact mtl _ (mtl _ (mtl _ (mhd _))) | exact mtl _ (mtl _ (mtl _ (mtl _ (mhd _)))) | exact mtl _ (mtl _ (mtl _ (mtl _ (mtl _ (mhd _))))) | exact mtl _ (mtl _ (mtl _ (mtl _ (mtl _ (mtl _ (mhd _)))))) | exact mtl _ (mtl _ (mtl _ (mtl _ (mtl _ (mtl _ (mtl _ (mhd _))))))) | exact mtl _ (mtl _ (mtl _ (mtl _ (mtl _ (mtl _ (mtl _ (mtl _ (mhd _)))))))) | exact mtl _ (mtl _ (mtl _ (mtl _ (mtl _ (mtl _ (mtl _ (mtl _ (mtl _ (mhd _))))))))) | exact mtl _ (mtl _ (mtl _ (mtl _ (mtl _ (mtl _ (mtl _ (mtl _ (mtl _ (mtl _ (mhd _)))))))))) | exact mtl _ (mtl _ (mtl _ (mtl _ (mtl _ (mtl _ (mtl _ (mtl _ (mtl _ (mtl _ (mtl _ (mhd _))))))))))) | exact mtl _ (mtl _ (mtl _ (mtl _ (mtl _ (mtl _ (mtl _ (mtl _ (mtl _ (mtl _ (mtl _ (mtl _ (mhd _)))))))))))) | exact mtl _ (mtl _ (mtl _ (mtl _ (mtl _ (mtl _ (mtl _ (mtl _ (mtl _ (mtl _ (mtl _ (mtl _ (mtl _ (mhd _)))))))))))))))) (by first | rfl | decide) (by first | exact rfl | exact Nat.le_of_ble_eq_true rfl)  (by with_unfolding_all rfl) (by intro _; with_unfolding_all rfl)  ?_; k_whole); intro _ _ _; (try k_sweep))
  k_with "subscriptTail Name Constant ref int" => w_strict (k_here; (with_reducible show wpAny _ _ (subscriptTail _ _ (Value.ref _) (Value.int 0 _)) _ _ _); k_dflt (refine item_listR (items := #[Value.ref _]) (x := Value.ref _) (by refine listAt (by k_asm) (by (first | exact mhd _ | exact mtl _ (mhd _) | exact mtl _ (mtl _ (mhd _)) | exact mtl _ (mtl _ (mtl _ (mhd _))) | exact mtl _ (mtl _ (mtl _ (mtl _ (mhd _)))) | exact mtl _ (mtl _ (mtl _ (mtl _ (mtl _ (mhd _))))) | exact mtl _ (mtl _ (mtl _ (mtl _ (mtl _ (mtl _ (mhd _)))))) | exact mtl _ (mtl _ (mtl _ (mtl _ (mtl _ (mtl _ (mtl _ (mhd _))))))) | exact mtl _ (mtl _ (mtl _ (mtl _ (mtl _ (mtl _ (mtl _ (mtl _ (mhd _)))))))) | exact mtl _ (mtl _ (mtl _ (mtl _ (mtl _ (mtl _ (mtl _ (mtl _ (mtl _ (mhd _))))))))) | exact mtl _ (mtl _ (mtl _ (mtl _ (mtl _ (mtl _ (mtl _ (mtl _ (mtl _ (mtl _ (mhd _)))))))))) | exact mtl _ (mtl _ (mtl _ (mtl _ (mtl _ (mtl _ (mtl _ (mtl _ (mtl _ (mtl _ (mtl _ (mhd _))))))))))) | exact mtl _ (mtl _ (mtl _ (mtl _ (mtl _ (mtl _ (mtl _ (mtl _ (mtl _ (mtl _ (mtl _ (mtl _ (mhd _)))))))))))) | exact mtl _ (mtl _ (mtl _ (mtl _ (mtl _ (mtl _ (mtl _ (mtl _ (mtl _ (mtl _ (mtl _ (mtl _ (mtl _ (mhd _)))))))))))))))) (by decide) (by decide) (by rfl) ?_; k_whole))
  k_with "call ref" => w_strict (k_here; (with_reducible show wpAny _ _ (call (Value.ref 279) [Value.ref _] _) _ _ _); k_dflt (refine g_pair_2 (a2 := 0) (t2 := 0) (by k_asm) (by k_asm) (by k_asm) (by k_asm) (by k_asm) (by first | exact rfl | assumption) (by k_mem) (by ktr_room) (by ktr_units) ?_; k_whole); intro _ _ _ _ _ _ _ NE' _ _ _ _ _; obtain ⟨_, _⟩ := NE'; dsimp only; refine Halt.keep ?_; (try (revert NE'; intro _)))
  k_with "call ref" => w_strict (k_here; (with_reducible show wpAny _ _ (call (Value.ref 279) [Value.ref _] _) _ _ _); k_dflt (refine g_pair_3 (by k_asm) (by k_asm) (by k_asm) (by k_asm) (by k_asm) (by first | exact rfl | assumption) (by k_mem) (by ktr_room) (by ktr_units) ?_; k_whole); intro _ _ _ _ _ _ _ NE' _ _ _ _ _; obtain ⟨_, _⟩ := NE'; dsimp only; refine Halt.keep ?_; (try (revert NE'; intro _)))
  k_with "call ref" => w_strict (k_here; (show wpAny _ _ (call (Value.ref _) [Value.ref _, Value.ref _] _) _ _ _); refine Halt.of ?_)
  k_with "call ref" => w_strict (k_here; (with_reducible show wpAny _ _ (call (Value.ref 425) [Value.int _ _] _) _ _ _); k_dflt (refine g_ceil_1 (by k_asm) (by k_asm) (by k_asm) (by k_asm) (by k_asm) (by first | exact rfl | assumption) (by ktr_room) (by ktr_units) ?_; k_whole); intro _ _ _ _ _; (try k_sweep))
  k_with "call ref" => w_strict (k_here; (with_reducible show wpAny _ _ (call (Value.ref 425) [Value.int _ _] _) _ _ _); k_dflt (refine g_ceil_2 (by k_asm) (by k_asm) (by k_asm) (by k_asm) (by k_asm) (by first | exact rfl | assumption) (by ktr_room) (by ktr_units) ?_; k_whole); intro _ _ _ _ _; (try k_sweep))
  trivial
theorem c_del_2 {cx lp : Addr} {k0 : Nat} {p0 p1 p2 p3 p4 : Addr} {pts : List Addr} {f3 : List ERec × Nat × Nat} {xy : Nat → Int × Int} {fin : List ERec × Nat × Nat} {Rr : Result → Shared → Prop} (B : Below A₀ base outer h₀) (F : Fr h₀ L s.heap m) (X : (hd.heap_1 w.params).In h₀) (N : News h₀ L s.heap news) (T : Top p loose mean mg mb h₀) (hk : cs.kind = .function) (hnri : ∀ p ∈ news, NRI p.2) (R : Rep w.params news cx pts xy [] []) (hpts : pts = [p0, p1]) (ml : (lp, W.listOf (refs [(p0, xy 0), (p1, xy 1)]).toArray k0) ∈ news) (hnd : [(p0, xy 0), (p1, xy 1)].Pairwise fun a b => a.2 ≠ b.2) (hord : [(p0, xy 0), (p1, xy 1)].Pairwise fun a b => lxB a.2 b.2 = true) (hroom : dp + 40 < recursionLimit) (hu : un + 600 < cLine)
   (hrun3 : f3 = f3) (hrun : fin = (mkE [] 0 1, 0, opp (mkE [] 0 1) 0))
   (ret : ∀ h' tk' news' al' gs' x d lx ld rx rd, Fr h₀ L h' m → News h₀ L h' news' → Rep w.params news' cx pts xy al' fin.1 → Step [] news al' news' →
     TAt w.params news' x d cx lx rx → al'[fin.2.1]? = some (lx, ld) → al'[fin.2.2]? = some (rx, rd) → (∀ p ∈ news, p.1 < d) → (∀ p ∈ news', NRI p.2) → (AllBare s.gens → AllBare gs') → Rr (.ok (.ret (.ref x))) { s with heap := h', toks := tk', gens := gs' }) :
   codeAny (model prog w) (ktrTop dp un gd cn cs L a ccd cl outer) (.call (.ref 444) ⟨[.ref 481, .ref lp], [(Str.ofString "context", .ref cx)]⟩) Rr s := by
  obtain h9 : Tag9 (P := codeAny (model prog w) (ktrTop dp un gd cn cs L a ccd cl outer) (.call (.ref 444) ⟨[.ref 481, .ref lp], [(Str.ofString "context", .ref cx)]⟩) Rr s) (by
    have S0 : Step [] news [] news := Step.refl
    have hp : ∀ q ∈ [(p0, xy 0), (p1, xy 1)], PtAt news q.1 q.2 := by
      intro q hq
      simp only [List.mem_cons, List.not_mem_nil, or_false] at hq
      rcases hq with rfl | rfl
      · exact R.pin 0 _ (by rw [hpts]; rfl)
      · exact R.pin 1 _ (by rw [hpts]; rfl)
    k_dflt k_enter
    k_steps
    unfold Halt
    refine' comp_halt ?hclos ?hkind ?hnames ?_
    case hclos => with_unfolding_all rfl
    case hkind => rfl
    case hnames => decide
    k_steps
    rename (Top p loose mean mg mb _) => T'
    rename_i I' gs' Lg' own' F' hG' lG' hown' hLgI' feed' oI' N'
    unfold Halt
    refine wpAny_pyIter_gen hG' ?_
    refine comp_start (by decide) rfl F' N' hG' fun D9 C9 oC9 mC9 h9 tk9 F9 hC9 N9 lD9 lC9 hG9 lI9 => ?_
    obtain ⟨NI9, N9⟩ := split_gen N9
    have lDl := fun p hp => lD9 p (mtl _ (List.mem_append.mpr (.inr hp)))
    have hLLg := Nat.lt_of_succ_lt (lG' _ (.tail _ (.tail _ (.tail _ (.tail _ (.tail _ (.tail _ (.tail _ (.tail _ (.head _))))))))))
    obtain ⟨hZg, feed9, hZ9⟩ := gen_ready F9 N9 hLLg hLgI' lI9 lC9 feed'
    have hnl := all_like lDl (Q := fun p => NRI p.2) (by repeat' (first | exact hnri | refine List.forall_mem_cons.mpr ⟨?_, ?_⟩ | exact NRI.ty (T := "list") rfl (by decide) | exact NRI.ty (T := "tuple") rfl (by decide) | exact NRI.cell (by assumption)))
    have hGI := gen_at hG' (N' _ (.head _)).1
    refine compLoop_turn ?_
    refine gen_item (A := (ktrTop dp un gd cn cs L a ccd cl outer).deeper _) (R := _) rfl ?room1 T'.nolimit F9 N9 NI9 hG9 (Array.getElem?_push_size) feed9 hZ9 (.head _) (.tail _ (.head _)) hZg (Nat.ne_of_gt hLgI') (Nat.ne_of_lt (Nat.lt_trans lI9 lC9)) hC9 ?off1 (List.forall_mem_cons.mpr ⟨NRI.ty (T := "list") rfl (by decide), hnl⟩) rfl rfl (by decide) rfl ?hK1 (fun T9 s9 h => h)
    case room1 => ktr_room
    case off1 => exact List.forall_mem_cons.mpr ⟨⟨Nat.ne_of_gt (Nat.lt_trans hLgI' lI9), Nat.ne_of_lt lC9⟩, fun p hp => ⟨Nat.ne_of_lt (lG' p hp), Nat.ne_of_lt (Nat.lt_trans (lDl p hp) lC9)⟩⟩
    intro h3 tk3 gs3 v1 v2 own3 oC3 mC3 hP3 hC3 hx1 hx2 F3 N3 NI3 hZ3 hty3 hoG3 feed3
    obtain ⟨_, x9, y9, rfl, rfl⟩ := hP3
    have N4 := retail N3 NI3
    obtain ⟨nw, hnw⟩ : ∃ nw, nw = ((I', oI') :: own3) ++ news := ⟨_, rfl⟩
    rw [← hnw] at N4
    have R4 : Rep w.params nw _ _ _ _ _ := R.mono (fun p hp => by rw [hnw]; exact List.mem_append.mpr (.inr hp))
    have W3 : Halt (News _ _ _ _) := N3
    have WI3 : Halt (News _ _ _ _) := NI3
    clear N3
    k_steps
    unfold Halt
    k_dflt (refine' call_meth ?k1 ?k2 ?_)
    case k1 => k_asm
    case k2 => (first | exact mhd _ | exact mtl _ (mhd _) | exact mtl _ (mtl _ (mhd _)) | exact mtl _ (mtl _ (mtl _ (mhd _))) | exact mtl _ (mtl _ (mtl _ (mtl _ (mhd _)))) | exact mtl _ (mtl _ (mtl _ (mtl _ (mtl _ (mhd _))))) | exact mtl _ (mtl _ (mtl _ (mtl _ (mtl _ (mtl _ (mhd _)))))) | exact mtl _ (mtl _ (mtl _ (mtl _ (mtl _ (mtl _ (mtl _ (mhd _))))))) | exact mtl _ (mtl _ (mtl _ (mtl _ (mtl _ (mtl _ (mtl _ (mtl _ (mhd _)))))))) | exact mtl _ (mtl _ (mtl _ (mtl _ (mtl _ (mtl _ (mtl _ (mtl _ (mtl _ (mhd _))))))))) | exact mtl _ (mtl _ (mtl _ (mtl _ (mtl _ (mtl _ (mtl _ (mtl _ (mtl _ (mtl _ (mhd _)))))))))) | exact mtl _ (mtl _ (mtl _ (mtl _ (mtl _ (mtl _ (mtl _ (mtl _ (mtl _ (mtl _ (mtl _ (mhd _))))))))))) | exact mtl _ (mtl _ (mtl _ (mtl _ (mtl _ (mtl _ (mtl _ (mtl _ (mtl _ (mtl _ (mtl _ (mtl _ (mhd _)))))))))))) | exact mtl _ (mtl _ (mtl _ (mtl _ (mtl _ (mtl _ (mtl _ (mtl _ (mtl _ (mtl _ (mtl _ (mtl _ (mtl _ (mhd _))))))))))))))
    k_dflt (refine' c_init (i := 0) (fin := fin) ?B ?F ?X ?N ?T ?hk ?R ?ml ?hI ?room ?hu ?_)
    case B => k_asm
    case F => k_asm
    case X => k_asm
    case N => k_asm
    case T => k_asm
    case hk => rfl
    case R => exact R4.mono (by intro p9 hp9; repeat (first | exact hp9 | refine mtl _ ?_))
    case ml => first | exact mhd _ | exact mtl _ (mhd _) | exact mtl _ (mtl _ (mhd _)) | exact mtl _ (mtl _ (mtl _ (mhd _)))
    case hI => exact .inl ⟨_, _, rfl, by rw [hpts]; rfl, by rw [hpts]; rfl, hrun⟩
    case room => ktr_room
    case hu => ktr_units
    intro h5 tk5 news5 al5 xT dT lx ld rx rd F5 N5 R5 S5 TA5 m1 m2 fr5
    show wpAny _ _ (call (.builtin "list.append") [.ref D9, .ref xT]) _ _ _
    obtain ⟨oG, mG, hoG, hnG⟩ := hoG3
    have hsub : ∀ p ∈ news, p ∈ nw := fun p hp => by rw [hnw]; exact List.mem_append.mpr (.inr hp)
    have hk5 := step_keep S5 W3 (fun p hp => by have z := retail_sub hsub p hp; repeat (first | exact z | refine mtl _ ?_)) (by simp)
    have hki := step_keep S5 WI3 (fun p hp => by
      have z : p ∈ nw := by rw [hnw]; exact List.mem_append.mpr (.inl hp)
      repeat (first | exact z | refine mtl _ ?_)) (by simp)
    have hGn := hki _ (.tail _ hoG)
    have hLd : @LT.lt Nat _ Lg' dT := fr5 (Lg', oG) (by
      have z : (Lg', oG) ∈ nw := by rw [hnw]; exact List.mem_append.mpr (.inl (.tail _ hoG))
      repeat (first | exact z | refine mtl _ ?_)) (by simp)
    have hD5 := N5 _ (hk5 _ (.tail _ (.head _))).1
    refine append_at hD5.1 (fun h6 hs6 hD6 => ?_) (by simp [sizeLine_eq])
    have F6 := F5.change hs6 hD5.2.1 hD5.2.2
    have N6 := after_append (c := (C9, oC3)) N5 (fun p hp => (hk5 p hp).1) hs6 (hD6.trans (congrArg some (LCg.lst_snoc [] (.ref xT)))) (Nat.ne_of_gt lC9) (fun p hp => Nat.ne_of_lt (lDl p hp))
    have hfD := fun (p : Addr × Obj) (hp : p ∈ fltB [Lg', C9] news5) => flt_list N5 (hk5 _ (.tail _ (.head _))).1 p (List.mem_filter.mpr ⟨(mem_fltB.mp hp).1, (mem_fltB.mp hp).2.1⟩)
    have Nf : News _ _ h6 (fltB [Lg', C9] news5) := fun p hp => ⟨hs6.extBut _ _ (hfD p hp) (N5 p (mem_fltB.mp hp).1).1, (N5 p (mem_fltB.mp hp).1).2⟩
    have N7 := retail N6 Nf
    have hCd : @LT.lt Nat _ C9 dT := fr5 (C9, oC3) (by repeat (first | exact mhd _ | refine mtl _ ?_)) (by simp)
    have hZn : ∀ z ∈ [Lg', C9], NsIn al5 news5 z := by
      intro z hz
      simp only [List.mem_cons, List.not_mem_nil, or_false] at hz
      rcases hz with rfl | rfl
      · exact ⟨_, _, hGn.1, hnG, hGn.2⟩
      · exact ⟨_, _, (hk5 _ (.head _)).1, hC3, (hk5 _ (.head _)).2⟩
    have hdZ : dT ∉ [Lg', C9] := by
      intro hz
      simp only [List.mem_cons, List.not_mem_nil, or_false] at hz
      rcases hz with rfl | rfl
      · exact Nat.lt_irrefl _ hLd
      · exact Nat.lt_irrefl _ hCd
    have R7 := R5.regroup N5 hZn R.ctx R.pin
    have T7 := TA5.regroup (news := news) N5 hZn hdZ
    have NI6 : News _ _ h6 ((I', oI') :: own3) := fun p hp => ⟨hs6.extBut _ _ (by
      rcases List.mem_cons.mp hp with rfl | hp
      · exact Nat.ne_of_lt lI9
      · exact fun e => hZ3 p hp (e ▸ .tail _ (.tail _ (.head _)))) (N5 p (hki p hp).1).1, (N5 p (hki p hp).1).2⟩
    refine compLoop_turn ?_
    refine gen_stop (A := (ktrTop dp un gd cn cs L a ccd cl outer).deeper _) rfl ?room2 T'.nolimit F6 N7 NI6 (hGI _ (NI6 _ (.head _)).1) ?gs2 feed3 (three_at F6 N7) (.head _) (.tail _ (.head _)) hZg hC3 ?off2 ?nri2 ?Q2
    case room2 => ktr_room
    case gs2 => simp
    case off2 => exact List.forall_mem_cons.mpr ⟨Nat.ne_of_gt (Nat.lt_trans hLgI' lI9), retail_all (fun p hp => Nat.ne_of_lt (lG' p hp)) (fun p hp e => (mem_fltB.mp hp).2.2 (e ▸ .head _))⟩
    case nri2 => exact List.forall_mem_cons.mpr ⟨NRI.ty (T := "list") rfl (by decide), retail_all hnl (fun p hp => keepB_nri (mem_fltB.mp hp).2.1)⟩
    case Q2 =>
      intro h8 tk8 F8 N8
      refine ⟨_, hC3.ns (N8 _ (.head _)).1, fun hz hsz => ?_⟩
      have Fz := F8.change hsz (N8 _ (.head _)).2.1 (N8 _ (.head _)).2.2
      have Nz := news_sub (fun p hp => N8 p (mtl _ hp)) (fun p hp => hsz.extBut p.1 p.2 ((List.forall_mem_cons (p := fun q : Addr × Obj => q.1 ≠ C9)).mpr ⟨Nat.ne_of_lt lC9, retail_all (Q := fun q => q.1 ≠ C9) (fun q hq => Nat.ne_of_lt (Nat.lt_trans (lDl q hq) lC9)) (fun q hq e => (mem_fltB.mp hq).2.2 (by rw [e]; exact .tail _ (.head _)))⟩ p hp) (N8 p (mtl _ hp)).1)
      obtain ⟨a1, a2, a3, a4, a5⟩ := cells_off (Z := [Lg', C9]) N5 (fun p hp => (hk5 p hp).1) (by assumption) (by assumption) (by assumption) (by assumption) (by assumption) (by assumption)
      obtain ⟨nw2, hnw2⟩ : ∃ nw2, nw2 = fltB [Lg', C9] news5 ++ news := ⟨_, rfl⟩
      rw [← hnw2] at Nz R7 T7 a1 a2 a3 a4 a5
      have l1 := lDl
      (try k_lt l1)
      clear N8 F8
      clear hk5 hki N5 N6 N7 Nf
      dsimp only
      k_steps
      rename (∀ p ∈ news, @LT.lt Nat _ p.1 _) => lnws
      refine' ret _ _ nw2 al5 _ xT dT lx ld rx rd ?Fz ?Nz R7 ?Sz T7 m1 m2 ?frz ?nriz ?barez
      case Fz => assumption
      case Nz => exact fun p9 hp9 => ‹News h₀ L _ _› p9 (by first | assumption | exact mcm _ hp9 | (repeat (first | exact hp9 | refine mcm _ ?_)))
      case Sz => exact step_out S5 hnw2 (fun p hp => by repeat (first | exact hsub p hp | refine mtl _ ?_))
      case frz => exact fun p hp => fr5 p (by repeat (first | exact hsub p hp | refine mtl _ ?_)) (by simp)
      case nriz => exact nri_out hnw2 hnri
      case barez => exact bare_out1) := trivial
  unfold id at h9; exact h9.get
theorem c_del_3 {cx lp : Addr} {k0 : Nat} {p0 p1 p2 p3 p4 : Addr} {pts : List Addr} {f3 : List ERec × Nat × Nat} {xy : Nat → Int × Int} {fin : List ERec × Nat × Nat} {Rr : Result → Shared → Prop} (B : Below A₀ base outer h₀) (F : Fr h₀ L s.heap m) (X : (hd.heap_1 w.params).In h₀) (N : News h₀ L s.heap news) (T : Top p loose mean mg mb h₀) (hk : cs.kind = .function) (hnri : ∀ p ∈ news, NRI p.2) (R : Rep w.params news cx pts xy [] []) (hpts : pts = [p0, p1, p2]) (ml : (lp, W.listOf (refs [(p0, xy 0), (p1, xy 1), (p2, xy 2)]).toArray k0) ∈ news) (hnd : [(p0, xy 0), (p1, xy 1), (p2, xy 2)].Pairwise fun a b => a.2 ≠ b.2) (hord : [(p0, xy 0), (p1, xy 1), (p2, xy 2)].Pairwise fun a b => lxB a.2 b.2 = true) (hroom : dp + 40 < recursionLimit) (hu : un + 600 < cLine)
   (hrun3 : f3 = f3) (hrun : (triThree [] 0 1 2).run (truth xy) = some fin)
   (ret : ∀ h' tk' news' al' gs' x d lx ld rx rd, Fr h₀ L h' m → News h₀ L h' news' → Rep w.params news' cx pts xy al' fin.1 → Step [] news al' news' →
     TAt w.params news' x d cx lx rx → al'[fin.2.1]? = some (lx, ld) → al'[fin.2.2]? = some (rx, rd) → (∀ p ∈ news, p.1 < d) → (∀ p ∈ news', NRI p.2) → (AllBare s.gens → AllBare gs') → Rr (.ok (.ret (.ref x))) { s with heap := h', toks := tk', gens := gs' }) :
   codeAny (model prog w) (ktrTop dp un gd cn cs L a ccd cl outer) (.call (.ref 444) ⟨[.ref 481, .ref lp], [(Str.ofString "context", .ref cx)]⟩) Rr s := by
  obtain h9 : Tag9 (P := codeAny (model prog w) (ktrTop dp un gd cn cs L a ccd cl outer) (.call (.ref 444) ⟨[.ref 481, .ref lp], [(Str.ofString "context", .ref cx)]⟩) Rr s) (by
    have S0 : Step [] news [] news := Step.refl
    have hp : ∀ q ∈ [(p0, xy 0), (p1, xy 1), (p2, xy 2)], PtAt news q.1 q.2 := by
      intro q hq
      simp only [List.mem_cons, List.not_mem_nil, or_false] at hq
      rcases hq with rfl | rfl | rfl
      · exact R.pin 0 _ (by rw [hpts]; rfl)
      · exact R.pin 1 _ (by rw [hpts]; rfl)
      · exact R.pin 2 _ (by rw [hpts]; rfl)
    k_dflt k_enter
    k_steps
    unfold Halt
    refine' comp_halt ?hclos ?hkind ?hnames ?_
    case hclos => with_unfolding_all rfl
    case hkind => rfl
    case hnames => decide
    k_steps
    rename (Top p loose mean mg mb _) => T'
    rename_i I' gs' Lg' own' F' hG' lG' hown' hLgI' feed' oI' N'
    unfold Halt
    refine wpAny_pyIter_gen hG' ?_
    refine comp_start (by decide) rfl F' N' hG' fun D9 C9 oC9 mC9 h9 tk9 F9 hC9 N9 lD9 lC9 hG9 lI9 => ?_
    obtain ⟨NI9, N9⟩ := split_gen N9
    have lDl := fun p hp => lD9 p (mtl _ (List.mem_append.mpr (.inr hp)))
    have hLLg := Nat.lt_of_succ_lt (lG' _ (.tail _ (.tail _ (.tail _ (.tail _ (.tail _ (.tail _ (.tail _ (.tail _ (.head _))))))))))
    obtain ⟨hZg, feed9, hZ9⟩ := gen_ready F9 N9 hLLg hLgI' lI9 lC9 feed'
    have hnl := all_like lDl (Q := fun p => NRI p.2) (by repeat' (first | exact hnri | refine List.forall_mem_cons.mpr ⟨?_, ?_⟩ | exact NRI.ty (T := "list") rfl (by decide) | exact NRI.ty (T := "tuple") rfl (by decide) | exact NRI.cell (by assumption)))
    have hGI := gen_at hG' (N' _ (.head _)).1
    refine compLoop_turn ?_
    refine gen_item (A := (ktrTop dp un gd cn cs L a ccd cl outer).deeper _) (R := _) rfl ?room1 T'.nolimit F9 N9 NI9 hG9 (Array.getElem?_push_size) feed9 hZ9 (.head _) (.tail _ (.head _)) hZg (Nat.ne_of_gt hLgI') (Nat.ne_of_lt (Nat.lt_trans lI9 lC9)) hC9 ?off1 (List.forall_mem_cons.mpr ⟨NRI.ty (T := "list") rfl (by decide), hnl⟩) rfl rfl (by decide) rfl ?hK1 (fun T9 s9 h => h)
    case room1 => ktr_room
    case off1 => exact List.forall_mem_cons.mpr ⟨⟨Nat.ne_of_gt (Nat.lt_trans hLgI' lI9), Nat.ne_of_lt lC9⟩, fun p hp => ⟨Nat.ne_of_lt (lG' p hp), Nat.ne_of_lt (Nat.lt_trans (lDl p hp) lC9)⟩⟩
    intro h3 tk3 gs3 v1 v2 own3 oC3 mC3 hP3 hC3 hx1 hx2 F3 N3 NI3 hZ3 hty3 hoG3 feed3
    obtain ⟨_, x9, y9, rfl, rfl⟩ := hP3
    have N4 := retail N3 NI3
    obtain ⟨nw, hnw⟩ : ∃ nw, nw = ((I', oI') :: own3) ++ news := ⟨_, rfl⟩
    rw [← hnw] at N4
    have R4 : Rep w.params nw _ _ _ _ _ := R.mono (fun p hp => by rw [hnw]; exact List.mem_append.mpr (.inr hp))
    have W3 : Halt (News _ _ _ _) := N3
    have WI3 : Halt (News _ _ _ _) := NI3
    clear N3
    k_steps
    unfold Halt
    k_dflt (refine' call_meth ?k1 ?k2 ?_)
    case k1 => k_asm
    case k2 => (first | exact mhd _ | exact mtl _ (mhd _) | exact mtl _ (mtl _ (mhd _)) | exact mtl _ (mtl _ (mtl _ (mhd _))) | exact mtl _ (mtl _ (mtl _ (mtl _ (mhd _)))) | exact mtl _ (mtl _ (mtl _ (mtl _ (mtl _ (mhd _))))) | exact mtl _ (mtl _ (mtl _ (mtl _ (mtl _ (mtl _ (mhd _)))))) | exact mtl _ (mtl _ (mtl _ (mtl _ (mtl _ (mtl _ (mtl _ (mhd _))))))) | exact mtl _ (mtl _ (mtl _ (mtl _ (mtl _ (mtl _ (mtl _ (mtl _ (mhd _)))))))) | exact mtl _ (mtl _ (mtl _ (mtl _ (mtl _ (mtl _ (mtl _ (mtl _ (mtl _ (mhd _))))))))) | exact mtl _ (mtl _ (mtl _ (mtl _ (mtl _ (mtl _ (mtl _ (mtl _ (mtl _ (mtl _ (mhd _)))))))))) | exact mtl _ (mtl _ (mtl _ (mtl _ (mtl _ (mtl _ (mtl _ (mtl _ (mtl _ (mtl _ (mtl _ (mhd _))))))))))) | exact mtl _ (mtl _ (mtl _ (mtl _ (mtl _ (mtl _ (mtl _ (mtl _ (mtl _ (mtl _ (mtl _ (mtl _ (mhd _)))))))))))) | exact mtl _ (mtl _ (mtl _ (mtl _ (mtl _ (mtl _ (mtl _ (mtl _ (mtl _ (mtl _ (mtl _ (mtl _ (mtl _ (mhd _))))))))))))))
    k_dflt (refine' c_init (i := 0) (fin := fin) ?B ?F ?X ?N ?T ?hk ?R ?ml ?hI ?room ?hu ?_)
    case B => k_asm
    case F => k_asm
    case X => k_asm
    case N => k_asm
    case T => k_asm
    case hk => rfl
    case R => exact R4.mono (by intro p9 hp9; repeat (first | exact hp9 | refine mtl _ ?_))
    case ml => first | exact mhd _ | exact mtl _ (mhd _) | exact mtl _ (mtl _ (mhd _)) | exact mtl _ (mtl _ (mtl _ (mhd _)))
    case hI => exact .inr ⟨_, _, _, rfl, by rw [hpts]; rfl, by rw [hpts]; rfl, by rw [hpts]; rfl, hrun⟩
    case room => ktr_room
    case hu => ktr_units
    intro h5 tk5 news5 al5 xT dT lx ld rx rd F5 N5 R5 S5 TA5 m1 m2 fr5
    show wpAny _ _ (call (.builtin "list.append") [.ref D9, .ref xT]) _ _ _
    obtain ⟨oG, mG, hoG, hnG⟩ := hoG3
    have hsub : ∀ p ∈ news, p ∈ nw := fun p hp => by rw [hnw]; exact List.mem_append.mpr (.inr hp)
    have hk5 := step_keep S5 W3 (fun p hp => by have z := retail_sub hsub p hp; repeat (first | exact z | refine mtl _ ?_)) (by simp)
    have hki := step_keep S5 WI3 (fun p hp => by
      have z : p ∈ nw := by rw [hnw]; exact List.mem_append.mpr (.inl hp)
      repeat (first | exact z | refine mtl _ ?_)) (by simp)
    have hGn := hki _ (.tail _ hoG)
    have hLd : @LT.lt Nat _ Lg' dT := fr5 (Lg', oG) (by
      have z : (Lg', oG) ∈ nw := by rw [hnw]; exact List.mem_append.mpr (.inl (.tail _ hoG))
      repeat (first | exact z | refine mtl _ ?_)) (by simp)
    have hD5 := N5 _ (hk5 _ (.tail _ (.head _))).1
    refine append_at hD5.1 (fun h6 hs6 hD6 => ?_) (by simp [sizeLine_eq])
    have F6 := F5.change hs6 hD5.2.1 hD5.2.2
    have N6 := after_append (c := (C9, oC3)) N5 (fun p hp => (hk5 p hp).1) hs6 (hD6.trans (congrArg some (LCg.lst_snoc [] (.ref xT)))) (Nat.ne_of_gt lC9) (fun p hp => Nat.ne_of_lt (lDl p hp))
    have hfD := fun (p : Addr × Obj) (hp : p ∈ fltB [Lg', C9] news5) => flt_list N5 (hk5 _ (.tail _ (.head _))).1 p (List.mem_filter.mpr ⟨(mem_fltB.mp hp).1, (mem_fltB.mp hp).2.1⟩)
    have Nf : News _ _ h6 (fltB [Lg', C9] news5) := fun p hp => ⟨hs6.extBut _ _ (hfD p hp) (N5 p (mem_fltB.mp hp).1).1, (N5 p (mem_fltB.mp hp).1).2⟩
    have N7 := retail N6 Nf
    have hCd : @LT.lt Nat _ C9 dT := fr5 (C9, oC3) (by repeat (first | exact mhd _ | refine mtl _ ?_)) (by simp)
    have hZn : ∀ z ∈ [Lg', C9], NsIn al5 news5 z := by
      intro z hz
      simp only [List.mem_cons, List.not_mem_nil, or_false] at hz
      rcases hz with rfl | rfl
      · exact ⟨_, _, hGn.1, hnG, hGn.2⟩
      · exact ⟨_, _, (hk5 _ (.head _)).1, hC3, (hk5 _ (.head _)).2⟩
    have hdZ : dT ∉ [Lg', C9] := by
      intro hz
      simp only [List.mem_cons, List.not_mem_nil, or_false] at hz
      rcases hz with rfl | rfl
      · exact Nat.lt_irrefl _ hLd
      · exact Nat.lt_irrefl _ hCd
    have R7 := R5.regroup N5 hZn R.ctx R.pin
    have T7 := TA5.regroup (news := news) N5 hZn hdZ
    have NI6 : News _ _ h6 ((I', oI') :: own3) := fun p hp => ⟨hs6.extBut _ _ (by
      rcases List.mem_cons.mp hp with rfl | hp
      · exact Nat.ne_of_lt lI9
      · exact fun e => hZ3 p hp (e ▸ .tail _ (.tail _ (.head _)))) (N5 p (hki p hp).1).1, (N5 p (hki p hp).1).2⟩
    refine compLoop_turn ?_
    refine gen_stop (A := (ktrTop dp un gd cn cs L a ccd cl outer).deeper _) rfl ?room2 T'.nolimit F6 N7 NI6 (hGI _ (NI6 _ (.head _)).1) ?gs2 feed3 (three_at F6 N7) (.head _) (.tail _ (.head _)) hZg hC3 ?off2 ?nri2 ?Q2
    case room2 => ktr_room
    case gs2 => simp
    case off2 => exact List.forall_mem_cons.mpr ⟨Nat.ne_of_gt (Nat.lt_trans hLgI' lI9), retail_all (fun p hp => Nat.ne_of_lt (lG' p hp)) (fun p hp e => (mem_fltB.mp hp).2.2 (e ▸ .head _))⟩
    case nri2 => exact List.forall_mem_cons.mpr ⟨NRI.ty (T := "list") rfl (by decide), retail_all hnl (fun p hp => keepB_nri (mem_fltB.mp hp).2.1)⟩
    case Q2 =>
      intro h8 tk8 F8 N8
      refine ⟨_, hC3.ns (N8 _ (.head _)).1, fun hz hsz => ?_⟩
      have Fz := F8.change hsz (N8 _ (.head _)).2.1 (N8 _ (.head _)).2.2
      have Nz := news_sub (fun p hp => N8 p (mtl _ hp)) (fun p hp => hsz.extBut p.1 p.2 ((List.forall_mem_cons (p := fun q : Addr × Obj => q.1 ≠ C9)).mpr ⟨Nat.ne_of_lt lC9, retail_all (Q := fun q => q.1 ≠ C9) (fun q hq => Nat.ne_of_lt (Nat.lt_trans (lDl q hq) lC9)) (fun q hq e => (mem_fltB.mp hq).2.2 (by rw [e]; exact .tail _ (.head _)))⟩ p hp) (N8 p (mtl _ hp)).1)
      obtain ⟨a1, a2, a3, a4, a5⟩ := cells_off (Z := [Lg', C9]) N5 (fun p hp => (hk5 p hp).1) (by assumption) (by assumption) (by assumption) (by assumption) (by assumption) (by assumption)
      obtain ⟨nw2, hnw2⟩ : ∃ nw2, nw2 = fltB [Lg', C9] news5 ++ news := ⟨_, rfl⟩
      rw [← hnw2] at Nz R7 T7 a1 a2 a3 a4 a5
      have l1 := lDl
      (try k_lt l1)
      clear N8 F8
      clear hk5 hki N5 N6 N7 Nf
      dsimp only
      k_steps
      rename (∀ p ∈ news, @LT.lt Nat _ p.1 _) => lnws
      refine' ret _ _ nw2 al5 _ xT dT lx ld rx rd ?Fz ?Nz R7 ?Sz T7 m1 m2 ?frz ?nriz ?barez
      case Fz => assumption
      case Nz => exact fun p9 hp9 => ‹News h₀ L _ _› p9 (by first | assumption | exact mcm _ hp9 | (repeat (first | exact hp9 | refine mcm _ ?_)))
      case Sz => exact step_out S5 hnw2 (fun p hp => by repeat (first | exact hsub p hp | refine mtl _ ?_))
      case frz => exact fun p hp => fr5 p (by repeat (first | exact hsub p hp | refine mtl _ ?_)) (by simp)
      case nriz => exact nri_out hnw2 hnri
      case barez => exact bare_out1) := trivial
  unfold id at h9; exact h9.get
example : True := by
  w_top off
  trivial
noncomputable abbrev itO (x left step : Int) : Obj := { cls := .type "range_iterator", data := .fields #[rawInt x, rawInt left, rawInt step] }
section
variable {prog : Program} {w : World} {A : Around} {E : Value → Shared → Prop} {s : Shared}
theorem rng_start {h₀ : Heap} {L r : Addr} {m : Str → Option Value} {led : List (Addr × Obj)} {elt target iter : PySem.Expr} {scope : Scope} {cl : List (Str × Addr)} {pos : Pos} {env : Env} {a b c : Int} {t u v : Tok} {RR : Value → Addr → Result → Shared → Prop}
    (hcell : ∀ y ∈ scope.names, y.2 ≠ .cell) (hkind : scope.kind = .function) (F : Fr h₀ L s.heap m) (N : News h₀ L s.heap led) (hr : IsRange s.heap r a b c t u v) (hsm : Builtin.Range.small a b c = true)
    (loop : ∀ I D C oC mC h tk, Fr h₀ L h m → LCg.NsObj oC mC → News h₀ L h ((I, itO a (Builtin.Range.rangeSize a b c) c) :: (C, oC) :: (D, LCg.lst []) :: led) → (∀ p ∈ led, p.1 < I) → @LT.lt Nat _ I D → @LT.lt Nat _ D C →
      codeAny (model prog w) A (.compLoop (.ListComp elt [⟨target, iter, [], 0⟩] scope pos) 0 (.ref I) (.ref D) (compEnvC scope cl C env)) (RR (.ref D) C) { s with heap := h, toks := tk }) :
    wpAny (model prog w) A (pyIter (.ref r)) (fun it s₂ => wpAny (model prog w) A (newList []) (fun acc s₃ => wpAny (model prog w) A (newFunctionEnv scope env.globals cl [] env.qual none .none (some env)) (fun cenv s₄ =>
      codeAny (model prog w) A (.compStart (.ListComp elt [⟨target, iter, [], 0⟩] scope pos) 0 it acc { cenv with scope := relabel scope env }) (RR acc cenv.locals) s₄) E s₃) E s₂) E s := by
  obtain h9 : Tag9 (P := wpAny (model prog w) A (pyIter (.ref r)) (fun it s₂ => wpAny (model prog w) A (newList []) (fun acc s₃ => wpAny (model prog w) A (newFunctionEnv scope env.globals cl [] env.qual none .none (some env)) (fun cenv s₄ => codeAny (model prog w) A (.compStart (.ListComp elt [⟨target, iter, [], 0⟩] scope pos) 0 it acc { cenv with scope := relabel scope env }) (RR acc cenv.locals) s₄) E s₃) E s₂) E s) (by
    refine wpAny_pyIter_range hr hsm ?_
    generalize hH1 : s.heap.push (itO a (Builtin.Range.rangeSize a b c) c) = H1
    have hI : H1.objs.size = s.heap.objs.size + 1 := by rw [← hH1, Heap.size_push]
    have hIo : H1.get? s.heap.objs.size = some (itO a (Builtin.Range.rangeSize a b c) c) := by rw [← hH1]; exact Heap.get?_push_size _ rfl
    have old1 : ∀ b o, s.heap.get? b = some o → H1.get? b = some o := fun b o e => hH1 ▸ Heap.get?_push_of_some _ e
    refine wpAny_newObj_type (wpAny_newFunctionEnv hcell (by intro y hy; simp at hy) (fun h₁ hns₁ hsb₁ => ?_) hkind)
    dsimp only at hns₁ hsb₁ ⊢
    generalize hH2 : H1.push { cls := .type "list", dict := none, data := .seq ([] : List Value).toArray } = H2 at hns₁ hsb₁ ⊢
    have hC : H2.objs.size = H1.objs.size + 1 := by rw [← hH2, Heap.size_push]
    have old2 : ∀ b o, H1.get? b = some o → h₁.get? b = some o := fun b o e => hsb₁.extBut b o (by rw [hC]; exact Nat.ne_of_lt (Nat.lt_succ_of_lt (Heap.lt_size e))) (Heap.get?_push_of_some _ (hH2 ▸ Heap.get?_push_of_some _ e))
    have hDC : H1.objs.size ≠ H2.objs.size := by rw [hC]; exact Nat.ne_of_lt (Nat.lt_succ_self _)
    have hacc : h₁.get? H1.objs.size = some (LCg.lst []) := hsb₁.extBut _ _ hDC (Heap.get?_push_of_some _ (hH2 ▸ Heap.get?_push_size _ rfl))
    have hLlt : @LT.lt Nat _ L s.heap.objs.size := F.ns.lt
    have fresh₀ : ∀ a, s.heap.objs.size ≤ a → h₀.get? a = none := fun a ha => Heap.get?_none_of_le (Nat.le_trans F.above (Nat.le_of_lt (Nat.lt_of_lt_of_le hLlt ha)))
    obtain ⟨oC, hoC, hnC⟩ := LCg.ns_obj hns₁
    have hit₁ : h₁.get? s.heap.objs.size = some (itO a (Builtin.Range.rangeSize a b c) c) := old2 _ _ hIo
    have go : codeAny (model prog w) A (.compLoop (.ListComp elt [⟨target, iter, [], 0⟩] scope pos) 0 (.ref s.heap.objs.size) (.ref H1.objs.size) (compEnvC scope cl H2.objs.size env)) (RR (.ref H1.objs.size) H2.objs.size) { s with heap := h₁, toks := s.toks + ([] : List (Str × Value)).length } := by
      refine loop _ _ _ oC _ h₁ _ (F.keeps fun b o e => old2 b o (old1 b o e)) hnC ?_ (fun p hp => Heap.lt_size (N p hp).1) (by rw [hI]; exact Nat.lt_succ_self _) (by rw [hC]; exact Nat.lt_succ_self _)
      intro p hp
      rcases List.mem_cons.mp hp with rfl | hp
      · exact ⟨hit₁, Ne.symm (Nat.ne_of_lt hLlt), fresh₀ _ (Nat.le_refl _)⟩
      rcases List.mem_cons.mp hp with rfl | hp
      · exact ⟨hoC, by rw [hC, hI]; exact Ne.symm (Nat.ne_of_lt (Nat.lt_succ_of_lt (Nat.lt_succ_of_lt hLlt))), fresh₀ _ (by rw [hC, hI]; exact Nat.le_succ_of_le (Nat.le_succ _))⟩
      rcases List.mem_cons.mp hp with rfl | hp
      · exact ⟨hacc, by rw [hI]; exact Ne.symm (Nat.ne_of_lt (Nat.lt_succ_of_lt hLlt)), fresh₀ _ (by rw [hI]; exact Nat.le_succ _)⟩
      · exact ⟨old2 _ _ (old1 _ _ (N p hp).1), (N p hp).2⟩
    exact codeAny_compStart_list go (wpAny_pyIter_rangeiter (show IsRangeIter _ _ _ _ _ from hit₁) go)) := trivial
  unfold id at h9; exact h9.get
theorem rng_item {h₀ : Heap} {L I C : Addr} {oC : Obj} {m mC : Str → Option Value} {y : Str} {py : Pos} {scope : Scope} {cl : List (Str × Addr)} {env : Env} {led : List (Addr × Obj)} {x left step : Int} {R : Result → Shared → Prop} {Q : Option Value → Shared → Prop} {K : Shared → Prop}
    (F : Fr h₀ L s.heap m) (N : News h₀ L s.heap ((I, itO x left step) :: (C, oC) :: led)) (hleft : 0 < left) (hIC : I ≠ C) (hC : LCg.NsObj oC mC) (off : ∀ p ∈ led, p.1 ≠ I ∧ p.1 ≠ C) (hx : scope.names.lookup y = some .local) (hkind : scope.kind = .function)
    (hK : ∀ h₃ tk t oC' mC', LCg.NsObj oC' mC' → mC' y = some (.int x t) → Fr h₀ L h₃ m → News h₀ L h₃ ((I, itO (x + step) (left - 1) step) :: (C, oC') :: led) → K { s with heap := h₃, toks := tk })
    (hQ : ∀ v s₁, wpAny (model prog w) A (letOwnedTupleGo (.Name y py) (.ref I) v) (fun _ s₁' => wpAny (model prog w) A (assign (.Name y py) (compEnvC scope cl C env) v) (fun _ s₂ => K s₂) (notedBy (model prog w) A (compEnvC scope cl C env) fun e s' => R (.error e) s') s₁') (notedBy (model prog w) A (compEnvC scope cl C env) fun e s' => R (.error e) s') s₁ → Q (some v) s₁) :
    wpAny (model prog w) A (pyNext (.ref I)) Q E s := by
  have hI := N _ (.head _)
  have hCC := N _ (.tail _ (.head _))
  refine wpAny_pyNext_range_item (show IsRangeIter _ _ _ _ _ from hI.1) hleft fun h' hit' hs' => ?_
  refine hQ _ _ ?_
  refine wpAny_of_eq (by rfl) ?_
  have e2 : ∀ b o, b ≠ I → s.heap.get? b = some o → h'.get? b = some o := fun b o hb e => hs'.extBut b o hb e
  refine wpAny_assign_Name (wpAny_storeName_local (lookup_relabel_local hx) (hC.ns (e2 _ _ (Ne.symm hIC) hCC.1)) (fun h₃ hn₃ hs₃ => ?_) (by simp [compEnvC, relabel, hkind]))
  obtain ⟨oC', hoC', hnC'⟩ := LCg.ns_obj hn₃
  refine hK h₃ (s.toks + 1 + 1) s.toks oC' _ hnC' (by simp) ((F.change hs' hI.2.1 hI.2.2).change hs₃ hCC.2.1 hCC.2.2) ?_
  intro p hp
  rcases List.mem_cons.mp hp with rfl | hp
  · exact ⟨hs₃.extBut _ _ hIC hit', hI.2⟩
  rcases List.mem_cons.mp hp with rfl | hp
  · exact ⟨hoC', hCC.2⟩
  · have z := N p (.tail _ (.tail _ hp))
    exact ⟨hs₃.extBut _ _ (off p hp).2 (e2 _ _ (off p hp).1 z.1), z.2⟩
theorem rng_end {h₀ : Heap} {L I : Addr} {m : Str → Option Value} {led : List (Addr × Obj)} {x left step : Int} {Q : Option Value → Shared → Prop}
    (hh : A.handled = none) (F : Fr h₀ L s.heap m) (N : News h₀ L s.heap ((I, itO x left step) :: led)) (hleft : left ≤ 0) (off : ∀ p ∈ led, p.1 ≠ I)
    (hQ : ∀ h', Fr h₀ L h' m → News h₀ L h' led → Q none { s with heap := h' }) : wpAny (model prog w) A (pyNext (.ref I)) Q E s := by
  have hI := N _ (.head _)
  refine wpAny_pyNext_range_end hh (show IsRangeIter _ _ _ _ _ from hI.1) hleft fun h' he => hQ h' ?_ fun p hp => ?_
  · exact ⟨F.ns.at' fun o e => he L o (Ne.symm hI.2.1) e, fun b o e => he b o (fun q => by rw [q, hI.2.2] at e; cases e) (F.keep b o e), F.above⟩
  · have z := N p (.tail _ hp)
    exact ⟨he _ _ (off p hp) z.1, z.2⟩
end
example : True := by
  w_top off
  k_with "nl9" => first | assumption | exact Nat.sub_le _ _ | exact Nat.succ_pos _ | exact Nat.le_add_right _ _ | exact Nat.lt_succ_self _ | exact Nat.le_of_lt ‹_› | exact Nat.lt_of_succ_le ‹_› | exact Nat.le_of_lt_succ ‹_› | exact Nat.le_of_succ_le ‹_› | exact Nat.lt_of_succ_lt ‹_› | exact Nat.le_of_not_lt ‹_› | exact Nat.pos_of_ne_zero ‹_› | exact Nat.sub_lt ‹_› Nat.one_pos | exact Nat.lt_of_le_of_lt (Nat.sub_le _ _) ‹_› | exact Nat.lt_of_le_of_lt (Nat.sub_le _ _) (Nat.lt_of_succ_le (Nat.le_trans (Nat.succ_le_succ (Nat.le_add_right _ _)) ‹_›)) | exact Nat.add_sub_cancel' ‹_› | exact Nat.add_sub_cancel' (Nat.le_of_lt_succ ‹_›) | exact Nat.add_sub_cancel' (Nat.le_of_lt ‹_›) | exact Nat.sub_add_cancel ‹_› | exact Nat.sub_add_cancel (Nat.le_of_lt ‹_›) | exact Int.not_lt.mp ‹_› | exact Nat.le_trans ‹_› ‹_› | exact Nat.le_trans ‹_› (by decide) | exact Nat.le_trans (Nat.le_of_lt ‹_›) ‹_› | exact Nat.lt_of_lt_of_le ‹_› ‹_› | exact Nat.lt_of_lt_of_le ‹_› (by decide) | exact Nat.lt_of_lt_of_le (by decide) ‹_› | exact Nat.lt_of_lt_of_le ‹_› (Nat.le_add_right _ _) | exact Nat.lt_of_lt_of_eq ‹_› ‹_› | exact Nat.lt_of_lt_of_eq ‹_› (Eq.symm ‹_›) | exact Nat.lt_trans ‹_› ‹_› | exact Nat.add_lt_add_left ‹_› _ | exact Nat.lt_of_add_lt_add_left ‹_› | exact Nat.add_left_cancel ‹_› | exact Int.lt_of_le_of_ne ‹_› ‹_› | exact Int.lt_of_le_of_lt ‹_› ‹_› | exact Int.lt_of_lt_of_le ‹_› ‹_› | exact Int.le_trans (Int.le_of_lt ‹_›) ‹_› | exact Int.le_trans ‹_› (Int.not_lt.mp ‹_›) | exact Int.sub_pos_of_lt ‹_› | exact Int.sub_eq_zero_of_eq (Eq.symm ‹_›) | exact Int.add_pos_of_pos_of_nonneg ‹_› ‹_› | exact Int.add_pos_of_nonneg_of_pos ‹_› ‹_› | exact Int.ofNat_nonneg _ | exact Nat.le_antisymm ‹_› (Nat.le_of_not_lt ‹_›) | exact Nat.lt_of_le_of_ne ‹_› ‹_› | exact Nat.lt_of_le_of_ne ‹_› (Ne.symm ‹_›) | exact Nat.succ_le_of_lt (Nat.lt_of_le_of_ne ‹_› (Ne.symm ‹_›)) | exact Nat.succ_le_of_lt (Nat.lt_of_le_of_ne (Nat.succ_le_of_lt ‹_›) (Ne.symm ‹_›)) | (rw [Nat.add_sub_cancel' (Nat.le_of_lt_succ ‹_›)]; exact Nat.lt_of_lt_of_le ‹_› ‹_›) | (rw [Nat.add_assoc, Nat.add_comm 1 _]; assumption) | exact Nat.ne_of_lt (Nat.sub_lt ‹_› Nat.one_pos) | exact Nat.ne_of_lt ‹_› | exact Nat.ne_of_gt ‹_› | exact Nat.sub_pos_of_lt ‹_› | exact fun z => absurd z.1 (Nat.not_lt.mpr (Nat.sub_le _ _)) | exact fun z => absurd z.1 ‹_› | exact fun z => absurd z.1 (Nat.lt_asymm ‹_›) | exact fun z => absurd z.2 (Nat.lt_asymm ‹_›) | exact Nat.lt_of_le_of_ne (Nat.le_sub_one_of_lt ‹_›) (Ne.symm ‹_›) | exact Nat.le_trans (Nat.sub_le _ _) (Nat.le_of_lt_succ ‹_›) | exact Nat.lt_of_lt_of_le (Nat.lt_add_of_pos_right (Nat.succ_pos _)) (Nat.le_of_eq ‹_›) | exact Nat.lt_of_lt_of_le (Nat.lt_add_of_pos_right (Nat.succ_pos _)) ‹_› | exact absurd ‹_› (Nat.not_lt.mpr ‹_›) | exact Int.lt_irrefl _ ‹_› | exact Int.lt_asymm ‹_› ‹_› | exact Nat.lt_irrefl _ ‹_› | exact Nat.lt_asymm ‹_› ‹_›
  trivial
section
variable {cmp : Nat → Nat → (Bool → Shared → Prop) → Shared → Prop} {n : Nat} {key : Nat → Int} {s : Shared} {p : Array Nat}
noncomputable def KQ (key : Nat → Int) (p : Array Nat) (i : Nat) : Int := key (p.getD i 0)
noncomputable def Gd (n : Nat) (p : Array Nat) : Prop := p.toList.Perm (List.range n)
theorem Gd.size (g : Gd n p) : p.size = n := by have := g.length_eq; simpa using this
theorem Gd.lt (g : Gd n p) (hn : 0 < n) (i : Nat) : p.getD i 0 < n := by
  by_cases h : i < p.size
  · have e : p.getD i 0 = p[i] := by simp [Array.getD, h]
    rw [e]
    have : p[i] ∈ List.range n := g.mem_iff.mp (by simp)
    exact List.mem_range.mp this
  · have e : p.getD i 0 = 0 := by simp [Array.getD, h]
    rw [e]; exact hn
theorem Gd.dis (g : Gd n p) (hinj : ∀ i j, i < n → j < n → key i = key j → i = j) {i j : Nat} (hi : i < n) (hj : j < n) (h : i ≠ j) : KQ key p i ≠ KQ key p j := by
  intro e
  have hsz := g.size
  have e1 := hinj _ _ (g.lt (Nat.lt_of_le_of_lt (Nat.zero_le _) hi) i) (g.lt (Nat.lt_of_le_of_lt (Nat.zero_le _) hi) j) e
  have hi' : i < p.size := by (first | k_extra "nl9" | lia)
  have hj' : j < p.size := by (first | k_extra "nl9" | lia)
  have e2 : p[i] = p[j] := by
    have a1 : p.getD i 0 = p[i] := by simp [Array.getD, hi']
    have a2 : p.getD j 0 = p[j] := by simp [Array.getD, hj']
    rw [← a1, ← a2]; exact e1
  have nd : p.toList.Nodup := g.nodup_iff.mpr List.nodup_range
  have := (List.getElem_inj (h₀ := by simpa using hi') (h₁ := by simpa using hj') nd).mp (by simpa using e2)
  exact h this
theorem Gd.of {p' : Array Nat} (g : Gd n p) (h : p'.Perm p) : Gd n p' := (Array.perm_iff_toList_perm.mp h).trans g
theorem getD_q (p : Array Nat) (i : Nat) : p.getD i 0 = p[i]?.getD 0 := by simp [Array.getD_eq_getD_getElem?]
theorem rev_gd (g : Gd n p) (i j : Nat) : Gd n (kas_rev p i j) := g.of (mirror_perm _ _ _ _)
theorem rev_at (g : Gd n p) {m : Nat} (hm : m ≤ n) (k : Nat) : KQ key (kas_rev p 0 m) k = if k < m then KQ key p (m - 1 - k) else KQ key p k := by
  unfold KQ kas_rev
  rw [getD_q, getElem?_mirror_all (by rw [g.size]; exact hm)]
  by_cases h : k < m
  · rw [if_pos ⟨Nat.zero_le _, h⟩, if_pos h, getD_q, Nat.zero_add]
  · rw [if_neg (fun z => h z.2), if_neg h, getD_q]
theorem bub_at (g : Gd n p) {k l : Nat} (hk : k < n) (hl : l ≤ k) (i : Nat) : KQ key (bubble p k (k - l)) i = if i = l then KQ key p k else if l < i ∧ i ≤ k then KQ key p (i - 1) else KQ key p i := by
  unfold KQ
  rw [getD_q, getElem?_bubble (by rw [g.size]; exact hk) _ (by (first | k_extra "nl9" | lia)), Nat.sub_sub_self hl]
  split
  · rw [getD_q]
  · split <;> rw [getD_q]
theorem asc_ok (hc : ∀ i j C, i < n → j < n → C (decide (key i < key j)) s → cmp i j C s) (hn : 0 < n) (g : Gd n p) : ∀ (f m : Nat) {Q : Nat → Shared → Prop},
    (∀ r, m ≤ r → r ≤ m + f → (∀ i, m ≤ i → i < r → KQ key p (i - 1) ≤ KQ key p i) → (r = m + f ∨ KQ key p r < KQ key p (r - 1)) → Q r s) → (kas_asc p f m).kasWp cmp Q s
  | 0, m, Q, h => h m (Nat.le_refl _) (Nat.le_refl _) (fun i h1 h2 => absurd h2 (Nat.not_lt.mpr h1)) (.inl rfl)
  | f + 1, m, Q, h => by
    unfold kas_asc
    refine hc _ _ _ (g.lt hn _) (g.lt hn _) ?_
    by_cases hlt : KQ key p m < KQ key p (m - 1)
    · rw [show decide (key (p.getD m 0) < key (p.getD (m - 1) 0)) = true from decide_eq_true hlt]
      simp only [if_true]
      exact h m (Nat.le_refl _) (by (first | k_extra "nl9" | lia)) (fun i h1 h2 => absurd h2 (Nat.not_lt.mpr h1)) (.inr hlt)
    · rw [show decide (key (p.getD m 0) < key (p.getD (m - 1) 0)) = false from decide_eq_false hlt]
      simp only [Bool.false_eq_true, if_false]
      refine asc_ok hc hn g f (m + 1) fun r h1 h2 h3 h4 => h r (by (first | k_extra "nl9" | lia)) (by (first | k_extra "nl9" | lia)) (fun i hi hi2 => ?_) (by rcases h4 with h4 | h4; exact .inl (by (first | k_extra "nl9" | lia)); exact .inr h4)
      by_cases e : i = m
      · subst e; (first | k_extra "nl9" | lia)
      · exact h3 i (by (first | k_extra "nl9" | lia)) hi2
theorem desc_ok (hc : ∀ i j C, i < n → j < n → C (decide (key i < key j)) s → cmp i j C s) (hn : 0 < n) (hinj : ∀ i j, i < n → j < n → key i = key j → i = j) (g : Gd n p) : ∀ (f m : Nat) {Q : Array Nat × Nat × Nat → Shared → Prop}, 0 < m → m + f ≤ n →
    (∀ r, m ≤ r → r ≤ m + f → (∀ i, m ≤ i → i < r → KQ key p i < KQ key p (i - 1)) → Q (p, r, 0) s) → (kas_desc f p m 0).kasWp cmp Q s
  | 0, m, Q, _, _, h => h m (Nat.le_refl _) (Nat.le_refl _) (fun i h1 h2 => absurd h2 (Nat.not_lt.mpr h1))
  | f + 1, m, Q, h0, hm, h => by
    unfold kas_desc
    refine hc _ _ _ (g.lt hn _) (g.lt hn _) ?_
    by_cases hlt : KQ key p m < KQ key p (m - 1)
    · rw [show decide (key (p.getD m 0) < key (p.getD (m - 1) 0)) = true from decide_eq_true hlt]
      simp only [if_true, gt_iff_lt, Nat.lt_irrefl, if_false]
      refine desc_ok hc hn hinj g f (m + 1) (Nat.succ_pos _) (by (first | k_extra "nl9" | lia)) fun r h1 h2 h3 => h r (by (first | k_extra "nl9" | lia)) (by (first | k_extra "nl9" | lia)) fun i hi hi2 => ?_
      by_cases e : i = m
      · subst e; exact hlt
      · exact h3 i (by (first | k_extra "nl9" | lia)) hi2
    · rw [show decide (key (p.getD m 0) < key (p.getD (m - 1) 0)) = false from decide_eq_false hlt]
      simp only [Bool.false_eq_true, if_false]
      refine hc _ _ _ (g.lt hn _) (g.lt hn _) ?_
      have hne := g.dis hinj (show m - 1 < n by (first | k_extra "nl9" | lia)) (show m < n by (first | k_extra "nl9" | lia)) (by (first | k_extra "nl9" | lia))
      rw [show decide (key (p.getD (m - 1) 0) < key (p.getD m 0)) = true from decide_eq_true (by unfold KQ at hne hlt; (first | k_extra "nl9" | lia))]
      simp only [if_true]
      exact h m (Nat.le_refl _) (by (first | k_extra "nl9" | lia)) (fun i h1 h2 => absurd h2 (Nat.not_lt.mpr h1))
noncomputable def Asc (key : Nat → Int) (p : Array Nat) (m : Nat) : Prop := ∀ i, 0 < i → i < m → KQ key p (i - 1) ≤ KQ key p i
theorem Asc.le {m : Nat} (a : Asc key p m) : ∀ (d i : Nat), i + d < m → KQ key p i ≤ KQ key p (i + d)
  | 0, _, _ => Int.le_refl _
  | d + 1, i, h => Int.le_trans (a.le d i (by (first | k_extra "nl9" | lia))) (a (i + (d + 1)) (by (first | k_extra "nl9" | lia)) h)
theorem tail3_ok (hc : ∀ i j C, i < n → j < n → C (decide (key i < key j)) s → cmp i j C s) (hn : 0 < n) (g : Gd n p) {m : Nat} (hm : m ≤ n) (h1 : 0 < m) (hd : ∀ i, 0 < i → i < m → KQ key p i < KQ key p (i - 1)) {Q : Nat × Array Nat → Shared → Prop}
    (h : ∀ r p', m ≤ r → r ≤ n → Gd n p' → Asc key p' r → Q (r, p') s) : (kas_tail3 m n p).kasWp cmp Q s := by
  unfold kas_tail3
  rw [KasT.kasWp_bind]
  refine asc_ok hc hn (rev_gd g 0 m) _ _ fun r a1 a2 a3 _ => h r _ a1 (by (first | k_extra "nl9" | lia)) (rev_gd g 0 m) fun i hi hi2 => ?_
  obtain ⟨i, rfl⟩ : ∃ j, i = j + 1 := ⟨i - 1, (Nat.succ_pred_eq_of_pos hi).symm⟩
  by_cases e : i + 1 < m
  · rw [rev_at g hm, rev_at g hm, Nat.add_sub_cancel, if_pos e, if_pos (Nat.lt_of_succ_lt e)]
    have : KQ key p (m - 1 - i) < KQ key p (m - 1 - (i + 1)) := hd (m - 1 - i) (Nat.sub_pos_of_lt (Nat.lt_sub_of_add_lt e)) (Nat.lt_of_le_of_lt (Nat.sub_le _ _) (Nat.sub_lt h1 Nat.one_pos))
    exact Int.le_of_lt this
  · exact a3 (i + 1) (Nat.le_of_not_lt e) hi2
theorem count_ok (hc : ∀ i j C, i < n → j < n → C (decide (key i < key j)) s → cmp i j C s) (hn : 0 < n) (hinj : ∀ i j, i < n → j < n → key i = key j → i = j) (g : Gd n p) {Q : Nat × Array Nat → Shared → Prop}
    (h : ∀ r p', 1 ≤ r → r ≤ n → Gd n p' → Asc key p' r → Q (r, p') s) : (kas_count n p).kasWp cmp Q s := by
  unfold kas_count
  rw [KasT.kasWp_bind]
  refine asc_ok hc hn g _ _ fun r a1 a2 a3 a4 => ?_
  have hasc : Asc key p r := fun i hi hi2 => a3 i hi hi2
  by_cases e : r = n
  · subst e
    simp only [beq_self_eq_true, if_true]
    exact h r p a1 (Nat.le_refl _) g hasc
  · rw [if_neg (by simpa using e)]
    by_cases e1 : r > 1
    · rw [if_pos e1]
      refine hc _ _ _ (g.lt hn _) (g.lt hn _) ?_
      have z := hasc.le (r - 1) 0 (by (first | k_extra "nl9" | lia))
      have z2 := g.dis hinj (show 0 < n from hn) (show 0 + (r - 1) < n by (first | k_extra "nl9" | lia)) (by (first | k_extra "nl9" | lia))
      rw [Nat.zero_add] at z z2
      rw [show decide (key (p.getD 0 0) < key (p.getD (r - 1) 0)) = true from decide_eq_true (by unfold KQ at z z2; (first | k_extra "nl9" | lia))]
      simp only [if_true]
      exact h r p a1 (by (first | k_extra "nl9" | lia)) g hasc
    · rw [if_neg e1]
      have er : r = 1 := by (first | k_extra "nl9" | lia)
      subst er
      have hlt : KQ key p 1 < KQ key p 0 := by
        rcases a4 with a4 | a4
        · exact absurd (show 1 = n by (first | k_extra "nl9" | lia)) e
        · exact a4
      have g1 := rev_gd g 0 1
      unfold kas_descPart
      rw [KasT.kasWp_bind]
      refine desc_ok hc hn hinj g1 _ _ (by (first | k_extra "nl9" | lia)) (by (first | k_extra "nl9" | lia)) fun r b1 b2 b3 => ?_
      simp only [gt_iff_lt, Nat.lt_irrefl, if_false]
      refine tail3_ok hc hn g1 (by (first | k_extra "nl9" | lia)) (by (first | k_extra "nl9" | lia)) (fun i hi hi2 => ?_) fun r' p' c1 c2 c3 c4 => h r' p' (by (first | k_extra "nl9" | lia)) c2 c3 c4
      by_cases e2 : i = 1
      · subst e2
        rw [rev_at g (by (first | k_extra "nl9" | lia)), rev_at g (by (first | k_extra "nl9" | lia))]
        simpa using hlt
      · exact b3 i (by (first | k_extra "nl9" | lia)) hi2
theorem mid_facts {l r f : Nat} (e : ¬ l ≥ r) (hf : r - l ≤ f + 1) : (l + r) / 2 < r ∧ l ≤ (l + r) / 2 ∧ (l + r) / 2 - l ≤ f ∧ r - ((l + r) / 2 + 1) ≤ f := by
  have hlt : l < r := Nat.lt_of_not_le e
  have a1 : (l + r) / 2 < r := Nat.div_lt_of_lt_mul (by rw [Nat.two_mul]; exact Nat.add_lt_add_right hlt r)
  have a2 : l ≤ (l + r) / 2 := (Nat.le_div_iff_mul_le (by decide)).mpr (by rw [Nat.mul_two]; exact Nat.add_le_add_left (Nat.le_of_lt hlt) l)
  exact ⟨a1, a2, Nat.le_of_lt_succ (Nat.lt_of_lt_of_le (Nat.sub_lt_sub_right a2 a1) hf), Nat.le_trans (Nat.sub_le_sub_left (Nat.succ_le_succ a2) r) (Nat.sub_le_of_le_add (a := r - l) (b := 1) (c := f) hf)⟩
theorem place_ok (hc : ∀ i j C, i < n → j < n → C (decide (key i < key j)) s → cmp i j C s) (hn : 0 < n) (g : Gd n p) {k : Nat} (hk : k < n) (ha : Asc key p k) : ∀ (f l r : Nat) {Q : Nat → Shared → Prop}, r - l ≤ f → l ≤ r → r ≤ k →
    (∀ i, i < l → KQ key p i ≤ KQ key p k) → (∀ i, r ≤ i → i < k → KQ key p k ≤ KQ key p i) →
    (∀ l', l' ≤ k → (∀ i, i < l' → KQ key p i ≤ KQ key p k) → (∀ i, l' ≤ i → i < k → KQ key p k ≤ KQ key p i) → Q l' s) → (kas_place p k f l r).kasWp cmp Q s
  | 0, l, r, Q, hf, hlr, hr, h1, h2, h => h l (by (first | k_extra "nl9" | lia)) h1 (fun i hi hi2 => h2 i (by (first | k_extra "nl9" | lia)) hi2)
  | f + 1, l, r, Q, hf, hlr, hr, h1, h2, h => by
    unfold kas_place
    by_cases e : l ≥ r
    · rw [if_pos e]
      exact h l (by (first | k_extra "nl9" | lia)) h1 (fun i hi hi2 => h2 i (by (first | k_extra "nl9" | lia)) hi2)
    · rw [if_neg e]
      refine hc _ _ _ (g.lt hn _) (g.lt hn _) ?_
      obtain ⟨hm1, hm2, hm3, hm4⟩ := mid_facts e hf
      generalize (l + r) / 2 = m at *
      by_cases hlt : KQ key p k < KQ key p m
      · rw [show decide (key (p.getD k 0) < key (p.getD m 0)) = true from decide_eq_true hlt]
        simp only [if_true]
        refine place_ok hc hn g hk ha f l _ hm3 hm2 (by (first | k_extra "nl9" | lia)) h1 (fun i hi hi2 => ?_) h
        have := ha.le (i - m) m (by (first | k_extra "nl9" | lia))
        rw [show m + (i - m) = i by (first | k_extra "nl9" | lia)] at this
        (first | k_extra "nl9" | lia)
      · rw [show decide (key (p.getD k 0) < key (p.getD m 0)) = false from decide_eq_false hlt]
        simp only [Bool.false_eq_true, if_false]
        refine place_ok hc hn g hk ha f _ r hm4 hm1 hr (fun i hi => ?_) h2 h
        have := ha.le (m - i) i (by (first | k_extra "nl9" | lia))
        rw [show i + (m - i) = m by (first | k_extra "nl9" | lia)] at this
        (first | k_extra "nl9" | lia)
theorem bin_ok (hc : ∀ i j C, i < n → j < n → C (decide (key i < key j)) s → cmp i j C s) (hn : 0 < n) : ∀ (f k : Nat) (p : Array Nat) {Q : Array Nat → Shared → Prop}, k + f = n → 0 < k → Gd n p → Asc key p k →
    (∀ p', Gd n p' → Asc key p' n → Q p' s) → (kas_bin f p k).kasWp cmp Q s
  | 0, k, p, Q, e, _, g, ha, h => h p g (by rw [← e]; exact ha)
  | f + 1, k, p, Q, e, h0, g, ha, h => by
    unfold kas_bin
    rw [KasT.kasWp_bind]
    have hk : k < n := by (first | k_extra "nl9" | lia)
    refine place_ok hc hn g hk ha k 0 k (by (first | k_extra "nl9" | lia)) (Nat.zero_le _) (Nat.le_refl _) (fun i hi => absurd hi (Nat.not_lt_zero _)) (fun i h1 h2 => absurd h2 (Nat.not_lt.mpr h1)) fun l hl p1 p2 => ?_
    refine bin_ok hc hn f (k + 1) _ (by (first | k_extra "nl9" | lia)) (Nat.succ_pos _) (g.of (bubble_perm _ _ _)) (fun i hi hi2 => ?_) h
    rw [bub_at g hk hl, bub_at g hk hl]
    by_cases e1 : i = l
    · subst e1
      rw [if_neg (show ¬ i - 1 = i by (first | k_extra "nl9" | lia)), if_neg (by (first | k_extra "nl9" | lia)), if_pos rfl]
      exact p1 (i - 1) (by (first | k_extra "nl9" | lia))
    · rw [if_neg e1]
      by_cases e2 : i - 1 = l
      · rw [if_pos e2, if_pos (by (first | k_extra "nl9" | lia)), e2]
        by_cases e3 : l < k
        · exact p2 l (Nat.le_refl _) e3
        · have : l = k := by (first | k_extra "nl9" | lia)
          (first | k_extra "nl9" | lia)
      · rw [if_neg e2]
        by_cases e3 : l < i
        · rw [if_pos ⟨by (first | k_extra "nl9" | lia), by (first | k_extra "nl9" | lia)⟩, if_pos ⟨e3, by (first | k_extra "nl9" | lia)⟩]
          exact ha (i - 1) (by (first | k_extra "nl9" | lia)) (by (first | k_extra "nl9" | lia))
        · rw [if_neg (by (first | k_extra "nl9" | lia)), if_neg (by (first | k_extra "nl9" | lia))]
          exact ha i hi (by (first | k_extra "nl9" | lia))
theorem sort_ok (hc : ∀ i j C, i < n → j < n → C (decide (key i < key j)) s → cmp i j C s) (hn : 0 < n) (hinj : ∀ i j, i < n → j < n → key i = key j → i = j) {Q : Array Nat → Shared → Prop}
    (h : ∀ p, Gd n p → (∀ i, 0 < i → i < n → KQ key p (i - 1) < KQ key p i) → Q p s) : (kas_sort n).kasWp cmp Q s := by
  have fin : ∀ p, Gd n p → Asc key p n → Q p s := fun p g a => h p g fun i hi hi2 => by
    have := a i hi hi2
    have := g.dis hinj (show i - 1 < n by (first | k_extra "nl9" | lia)) hi2 (by (first | k_extra "nl9" | lia))
    (first | k_extra "nl9" | lia)
  unfold kas_sort
  rw [KasT.kasWp_bind]
  refine count_ok hc hn hinj (show Gd n (List.toArray (List.range n)) from by unfold Gd; simp) fun r p' h1 h2 g a => ?_
  dsimp only
  by_cases e : r < n
  · rw [if_pos e, Nat.max_eq_left h1]
    exact bin_ok hc hn _ r p' (by (first | k_extra "nl9" | lia)) (by (first | k_extra "nl9" | lia)) g a fin
  · rw [if_neg e]
    have : r = n := by (first | k_extra "nl9" | lia)
    subst this
    exact fin p' g a
end
example : True := by
  w_top off
  trivial
theorem Rep.off' {P : Params} {h₀ h : Heap} {L : Addr} {news : List (Addr × Obj)} {cx : Addr} {pts : List Addr} {xy : Nat → Int × Int} {al : List (Addr × Addr)} {st : List ERec} {q : Addr} {o : Obj}
    (R : Rep P news cx pts xy al st) (N : News h₀ L h news) (e : h.get? q = some o) (ho : o.cls ≠ Value.type "dict") : q ∉ al.map (·.2) := by
  intro hm
  obtain ⟨x, hx, rfl⟩ := List.mem_map.mp hm
  obtain ⟨i, hi⟩ := List.mem_iff_getElem?.mp hx
  obtain ⟨_, t1, t2, t3, t4, la, ld, ra, rd, sv, _, _, _, m2⟩ := R.at (i := i) (a := x.1) (d := x.2) hi
  have y2 := (N _ m2).1
  rw [e] at y2
  exact ho (by rw [Option.some.inj y2])
theorem off_change {A : List Addr} {c c' d d' : Addr × Obj} {t nn : List (Addr × Obj)} (h : ∀ p ∈ c :: d :: t, p ∈ nn ∧ p.1 ∉ A) (hc : c'.1 = c.1) (hd : d'.1 = d.1) : ∀ p ∈ c' :: d' :: t, p.1 ∉ A := fun p hp => by
  rcases List.mem_cons.mp hp with rfl | hp
  · rw [hc]; exact (h _ (.head _)).2
  · rcases List.mem_cons.mp hp with rfl | hp
    · rw [hd]; exact (h _ (.tail _ (.head _))).2
    · exact (h _ (.tail _ (.tail _ hp))).2
theorem own_off {P : Params} {h₀ h : Heap} {L Lg I : Addr} {oI : Obj} {own news : List (Addr × Obj)} {cx : Addr} {pts : List Addr} {xy : Nat → Int × Int} {al : List (Addr × Addr)} {st : List ERec}
    (R : Rep P news cx pts xy al st) (N : News h₀ L h news) (NI : News h₀ L h ((I, oI) :: own)) (hI : I ∉ al.map (·.2)) (hL : Lg ∉ al.map (·.2)) (hty : ∀ p ∈ own, p.1 = Lg ∨ p.2.cls ≠ Value.type "dict") : ∀ p ∈ (I, oI) :: own, p.1 ∉ al.map (·.2) := fun p hp => by
  rcases List.mem_cons.mp hp with rfl | hp'
  · exact hI
  · rcases hty p hp' with e | e
    · rw [e]; exact hL
    · exact R.off' N (NI p hp).1 e
theorem Rep.off_addr {P : Params} {news : List (Addr × Obj)} {cx : Addr} {pts : List Addr} {xy : Nat → Int × Int} {al : List (Addr × Addr)} {st : List ERec} {q : Addr} (R : Rep P news cx pts xy al st) (h : ∀ p ∈ news, p.1 ≠ q) : q ∉ al.map (·.2) := by
  intro hm
  obtain ⟨x, hx, rfl⟩ := List.mem_map.mp hm
  obtain ⟨i, hi⟩ := List.mem_iff_getElem?.mp hx
  obtain ⟨_, t1, t2, t3, t4, la, ld, ra, rd, sv, _, _, _, m2⟩ := R.at (i := i) (a := x.1) (d := x.2) hi
  exact h _ m2 rfl
theorem keepB_cell {o : Obj} {v : Option Value} (d : o.data = .cell v) : Mine.keepB o = false := by unfold Mine.keepB; rw [d]; simp
theorem flt_off {h₀ h : Heap} {L : Addr} {Z : List Addr} {l E news : List (Addr × Obj)} (N5 : News h₀ L h l) (hk : ∀ p ∈ E, p ∈ l) (hb : ∀ p ∈ E, Mine.keepB p.2 = false) (hn : ∀ p ∈ E, ∀ q ∈ news, q.1 ≠ p.1) : ∀ p ∈ E, ∀ q ∈ fltB Z l ++ news, q.1 ≠ p.1 := fun p hp q hq e => by
  rcases List.mem_append.mp hq with hq | hq
  · have z := mem_fltB.mp hq
    have e1 := (N5 _ z.1).1
    rw [e, (N5 _ (hk p hp)).1] at e1
    have e2 : p.2 = q.2 := Option.some.inj e1
    rw [← e2, hb p hp] at z
    exact Bool.noConfusion z.2.1
  · exact hn p hp q hq e
theorem off_ten {h₀ h : Heap} {L : Addr} {Z : List Addr} {c d e1 e2 e3 e4 e5 e6 e7 e8 e9 : Addr × Obj} {l t : List (Addr × Obj)} (N5 : News h₀ L h l) (hk : ∀ p ∈ c :: d :: e1 :: e2 :: e3 :: e4 :: e5 :: e6 :: e7 :: e8 :: e9 :: t, p ∈ l)
    (hb : ∀ p ∈ [d, e1, e2, e3, e4, e5, e6, e7, e8, e9], Mine.keepB p.2 = false) (hn : ∀ p ∈ [d, e1, e2, e3, e4, e5, e6, e7, e8, e9], ∀ q ∈ t, q.1 ≠ p.1) : ∀ p ∈ [d, e1, e2, e3, e4, e5, e6, e7, e8, e9], ∀ q ∈ fltB Z l ++ t, q.1 ≠ p.1 :=
  flt_off N5 (fun p hp => hk p (by
    simp only [List.mem_cons, List.not_mem_nil, or_false] at hp ⊢
    rcases hp with h | h | h | h | h | h | h | h | h | h <;> simp only [h, true_or, or_true])) hb hn
section
variable {prog : Program} {w : World} {A : Around} {E : Value → Shared → Prop} {s : Shared}
theorem sub_pair0 {h₀ : Heap} {L l : Addr} {led : List (Addr × Obj)} {a b : Value} {u : Tok} {value slice : PySem.Expr} {Q : Value → Shared → Prop} (N : News h₀ L s.heap led) (mm : (l, LCg.lst [a, b]) ∈ led) (h : Q a s)
    (hs : subscripted slice false (.ref l) (.int 0 u) = operate [.ref l, .int 0 u] (getItem (.ref l) (.int 0 u))) : wpAny (model prog w) A (subscriptTail value slice (.ref l) (.int 0 u)) Q E s :=
  item_listR (items := #[a, b]) (x := a) ⟨_, (N _ mm).1, rfl, _, rfl⟩ (by decide) (by decide) rfl h hs
theorem sub_pair1 {h₀ : Heap} {L l : Addr} {led : List (Addr × Obj)} {a b : Value} {u : Tok} {value slice : PySem.Expr} {Q : Value → Shared → Prop} (N : News h₀ L s.heap led) (mm : (l, LCg.lst [a, b]) ∈ led) (h : Q b s)
    (hs : subscripted slice false (.ref l) (.int (0 + 1) u) = operate [.ref l, .int (0 + 1) u] (getItem (.ref l) (.int (0 + 1) u))) : wpAny (model prog w) A (subscriptTail value slice (.ref l) (.int (0 + 1) u)) Q E s :=
  item_listR (items := #[a, b]) (x := b) ⟨_, (N _ mm).1, rfl, _, rfl⟩ (by decide) (by decide) rfl h hs
end
theorem off1_mem {D : Addr} : ∀ {l : List (Addr × Obj)}, LCg.Off1 D l → ∀ p ∈ l, p.1 ≠ D
  | [], _, _, h => absurd h List.not_mem_nil
  | _ :: _, x, p, h => by
    rcases List.mem_cons.mp h with rfl | h
    · exact x.1
    · exact off1_mem x.2 p h
theorem inj_of {pts : List Addr} {xy : Nat → Int × Int} {n : Nat} (hl : pts.length = n) (h : ∀ i j, i < j → j < n → xy i ≠ xy j) : ∀ (i j : Nat) (a b : Addr), pts[i]? = some a → pts[j]? = some b → xy i = xy j → i = j := fun i j a b hi hj e => by
  have h1 := (List.getElem?_eq_some_iff.mp hi).1
  have h2 := (List.getElem?_eq_some_iff.mp hj).1
  rcases Nat.lt_trichotomy i j with q | q | q
  · exact absurd e (h i j q (hl ▸ h2))
  · exact q
  · exact absurd e.symm (h j i q (hl ▸ h1))
theorem TAt.td_mem {P : Params} {news : List (Addr × Obj)} {ta td cx l r : Addr} (t : TAt P news ta td cx l r) : ∃ o, (td, o) ∈ news := let ⟨_, _, _, _, _, _, b⟩ := t; ⟨_, b⟩
theorem merge_keep {P : Params} {nw2 LED news6 : List (Addr × Obj)} {cx : Addr} {pts : List Addr} {xy : Nat → Int × Int} {al al6 : List (Addr × Addr)} {st : List ERec} {ta1 t1 c1 l1 r1 ta2 t2 c2 l2 r2 : Addr} (S : StepD [t1, t2] al LED al6 news6) (R : Rep P nw2 cx pts xy al st)
    (T1 : TAt P nw2 ta1 t1 c1 l1 r1) (T2 : TAt P nw2 ta2 t2 c2 l2 r2) : ∀ q ∈ LED, (∀ p ∈ nw2, p.1 ≠ q.1) → q ∈ news6 ∧ q.1 ∉ al6.map (·.2) := fun q hq h => by
  obtain ⟨o1, m1⟩ := T1.td_mem
  obtain ⟨o2, m2⟩ := T2.td_mem
  refine S.2 q hq (R.off_addr h) ?_
  intro hm
  simp only [List.mem_cons, List.not_mem_nil, or_false] at hm
  rcases hm with e | e
  · exact h _ m1 e.symm
  · exact h _ m2 e.symm
theorem flt_ne {h₀ h : Heap} {L : Addr} {Z : List Addr} {l : List (Addr × Obj)} {q : Addr × Obj} (N : News h₀ L h l) (hq : q ∈ l) (hb : Mine.keepB q.2 = false) : ∀ p ∈ fltB Z l, p.1 ≠ q.1 := fun p hp e => by
  have z := mem_fltB.mp hp
  have e1 := (N _ z.1).1
  rw [e, (N _ hq).1] at e1
  have e2 : q.2 = p.2 := Option.some.inj e1
  rw [← e2, hb] at z
  exact Bool.noConfusion z.2.1
theorem keep14 {a1 a2 a3 a4 a5 a6 a7 a8 a9 a10 a11 a12 a13 a14 : Addr × Obj} {nw : List (Addr × Obj)} {K : Addr × Obj → Prop} (hk : ∀ q ∈ a1 :: a2 :: a3 :: a4 :: a5 :: a6 :: a7 :: a8 :: a9 :: a10 :: a11 :: a12 :: a13 :: a14 :: nw, (∀ p ∈ nw, p.1 ≠ q.1) → K q) (h : ∀ q ∈ [a1, a2, a3, a4, a5, a6, a7, a8, a9, a10, a11, a12, a13, a14], ∀ p ∈ nw, p.1 ≠ q.1) : ∀ q ∈ [a1, a2, a3, a4, a5, a6, a7, a8, a9, a10, a11, a12, a13, a14], K q := fun q hq =>
  hk q (by
    simp only [List.mem_cons, List.not_mem_nil, or_false] at hq ⊢
    rcases hq with h | h | h | h | h | h | h | h | h | h | h | h | h | h <;> simp only [h, true_or, or_true]) (h q hq)
theorem mem14 {a1 a2 a3 a4 a5 a6 a7 a8 a9 a10 a11 a12 a13 a14 : Addr × Obj} {f : List (Addr × Obj)} {K : Addr × Obj → Prop} (h : ∀ p ∈ [a1, a2, a3, a4, a5, a6, a7, a8, a9, a10, a11, a12, a13, a14], K p) (hf : ∀ p ∈ f, K p) : ∀ p ∈ a1 :: a2 :: a3 :: a4 :: a5 :: a6 :: a7 :: a8 :: a9 :: a10 :: a11 :: a12 :: a13 :: a14 :: f, K p := fun p hp => by
  by_cases hq : p ∈ f
  · exact hf p hq
  · refine h p ?_
    simp only [List.mem_cons, hq, or_false] at hp ⊢
    simp only [List.not_mem_nil, or_false]
    exact hp
theorem retail11 {e1 e2 e3 e4 e5 e6 e7 e8 e9 e10 e11 : Addr × Obj} {f t : List (Addr × Obj)} {Q : Addr × Obj → Prop} (h1 : ∀ p ∈ e1 :: e2 :: e3 :: e4 :: e5 :: e6 :: e7 :: e8 :: e9 :: e10 :: e11 :: t, Q p) (h2 : ∀ p ∈ f, Q p) : ∀ p ∈ e1 :: e2 :: e3 :: e4 :: e5 :: e6 :: e7 :: e8 :: e9 :: e10 :: e11 :: (f ++ t), Q p := by
  intro p hp
  by_cases hf : p ∈ f
  · exact h2 p hf
  · refine h1 p ?_
    simp only [List.mem_cons, List.mem_append, hf, false_or] at hp ⊢
    exact hp
theorem ten {a1 a2 a3 a4 a5 a6 a7 a8 a9 a10 : Addr × Obj} {K : Addr × Obj → Prop} (h : ∀ p ∈ [a1, a2, a3, a4, a5, a6, a7, a8, a9, a10], K p) : K a1 ∧ K a2 ∧ K a3 ∧ K a4 ∧ K a5 ∧ K a6 ∧ K a7 ∧ K a8 ∧ K a9 ∧ K a10 :=
  ⟨h _ (by simp only [List.mem_cons, true_or, or_true]), h _ (by simp only [List.mem_cons, true_or, or_true]), h _ (by simp only [List.mem_cons, true_or, or_true]), h _ (by simp only [List.mem_cons, true_or, or_true]), h _ (by simp only [List.mem_cons, true_or, or_true]), h _ (by simp only [List.mem_cons, true_or, or_true]), h _ (by simp only [List.mem_cons, true_or, or_true]), h _ (by simp only [List.mem_cons, true_or, or_true]), h _ (by simp only [List.mem_cons, true_or, or_true]), h _ (by simp only [List.mem_cons, true_or, or_true])⟩
theorem sub11 {e1 e2 e3 e4 e5 e6 e7 e8 e9 e10 e11 : Addr × Obj} {t t' : List (Addr × Obj)} {Q : Addr × Obj → Prop} (h : ∀ p ∈ e1 :: e2 :: e3 :: e4 :: e5 :: e6 :: e7 :: e8 :: e9 :: e10 :: e11 :: t, Q p) (hs : ∀ p ∈ t', p ∈ t) : ∀ p ∈ e1 :: e2 :: e3 :: e4 :: e5 :: e6 :: e7 :: e8 :: e9 :: e10 :: e11 :: t', Q p := by
  intro p hp
  refine h p ?_
  simp only [List.mem_cons] at hp ⊢
  rcases hp with h | h | h | h | h | h | h | h | h | h | h | h
  all_goals first
    | (simp only [hs p h, or_true]; done)
    | (simp only [h, true_or, or_true]; done)
theorem unr_end4 {h₀ h' : Heap} {L I : Addr} {it : Obj} {a b c : Addr × Obj} {t : List (Addr × Obj)} {rest : (Str → Option Value) → List (Addr × Obj) → Prop} {s₁ : Shared} {tk : Nat} {m' : Str → Option Value} (F : Fr h₀ L h' m') (N : News h₀ L h' (a :: b :: c :: (I, it) :: t))
    (off : ∀ p ∈ a :: b :: c :: t, p.1 ≠ I) (r : rest m' (a :: b :: c :: t)) : UnrEnd h₀ L s₁ I it rest { s₁ with heap := h', toks := tk } :=
  UnrEnd.intro F N (a :: b :: c :: t) (fun p hp => by
    simp only [List.mem_cons] at hp ⊢
    rcases hp with h | h | h | h | h <;> simp only [h, true_or, or_true]) off r
theorem after_app3 {h₀ h5 h6 : Heap} {L D : Addr} {a c : Addr × Obj} {o o' : Obj} {B l : List (Addr × Obj)} (N5 : News h₀ L h5 l) (hk : ∀ p ∈ a :: c :: (D, o) :: B, p ∈ l) (hs : Heap.SameBut D h5 h6) (hD : h6.get? D = some o') (ha : a.1 ≠ D) (hc : c.1 ≠ D) (hB : ∀ p ∈ B, p.1 ≠ D) : News h₀ L h6 (a :: c :: (D, o') :: B) := fun p hp => by
  have old : ∀ q ∈ a :: c :: (D, o) :: B, q.1 ≠ D → h6.get? q.1 = some q.2 ∧ q.1 ≠ L ∧ h₀.get? q.1 = none := fun q hq hn => let z := N5 q (hk q hq); ⟨hs.extBut _ _ hn z.1, z.2⟩
  rcases List.mem_cons.mp hp with rfl | hp
  · exact old _ (.head _) ha
  rcases List.mem_cons.mp hp with rfl | hp
  · exact old _ (.tail _ (.head _)) hc
  rcases List.mem_cons.mp hp with rfl | hp
  · exact ⟨hD, (N5 _ (hk _ (.tail _ (.tail _ (.head _))))).2⟩
  · exact old _ (.tail _ (.tail _ (.tail _ hp))) (hB p hp)
theorem bare_out2 {gs : Array GenState} {g1 g2 g3 : GenState} (h : AllBare gs) : AllBare ((((gs.push g1).setIfInBounds gs.size g2).setIfInBounds gs.size g3).setIfInBounds gs.size .finished) := by
  intro y hy
  obtain ⟨j, hj⟩ := Array.mem_iff_getElem?.mp hy
  rw [Array.getElem?_setIfInBounds] at hj
  split at hj
  · split at hj
    · cases hj; rfl
    · cases hj
  · rename_i hne
    rw [Array.getElem?_setIfInBounds, if_neg hne, Array.getElem?_setIfInBounds, if_neg hne, Array.getElem?_push, if_neg (fun e => hne e.symm)] at hj
    exact h y (Array.mem_iff_getElem?.mpr ⟨j, hj⟩)
theorem merge_off {P : Params} {nw2 : List (Addr × Obj)} {cx : Addr} {pts : List Addr} {xy : Nat → Int × Int} {al : List (Addr × Addr)} {st : List ERec} {ta1 t1 c1 l1 r1 ta2 t2 c2 l2 r2 q : Addr} (R : Rep P nw2 cx pts xy al st)
    (T1 : TAt P nw2 ta1 t1 c1 l1 r1) (T2 : TAt P nw2 ta2 t2 c2 l2 r2) (h : ∀ p ∈ nw2, p.1 ≠ q) : q ∉ al.map (·.2) ∧ q ∉ [t1, t2] := by
  obtain ⟨o1, m1⟩ := T1.td_mem
  obtain ⟨o2, m2⟩ := T2.td_mem
  refine ⟨R.off_addr h, ?_⟩
  intro hm
  simp only [List.mem_cons, List.not_mem_nil, or_false] at hm
  rcases hm with e | e
  · exact h _ m1 e.symm
  · exact h _ m2 e.symm
example : True := by
  k_with "eval ListComp" => w_strict (k_here; (with_reducible show wpAny _ _ (eval (PySem.Expr.ListComp (PySem.Expr.Call _ [_, _] _ _) _ _ _) _) _ _ _); refine Halt.of ?_)
  k_with "subscriptTail Name Name ref int" => w_strict (k_here; (with_reducible show wpAny _ _ (subscriptTail _ _ (Value.ref _) (Value.int _ _)) _ _ _); refine Halt.of ?_)
  k_with "subscriptTail Name Name ref int" => w_strict (k_here; (with_reducible show wpAny _ _ (subscriptTail _ _ (Value.ref _) (Value.int 0 _)) _ _ _); k_dflt (refine sub_pair0 (by k_asm) (by (first | exact mhd _ | exact mtl _ (mhd _) | exact mtl _ (mtl _ (mhd _)) | exact mtl _ (mtl _ (mtl _ (mhd _))) | exact mtl _ (mtl _ (mtl _ (mtl _ (mhd _)))) | exact mtl _ (mtl _ (mtl _ (mtl _ (mtl _ (mhd _))))) | exact mtl _ (mtl _ (mtl _ (mtl _ (mtl _ (mtl _ (mhd _)))))) | exact mtl _ (mtl _ (mtl _ (mtl _ (mtl _ (mtl _ (mtl _ (mhd _))))))) | exact mtl _ (mtl _ (mtl _ (mtl _ (mtl _ (mtl _ (mtl _ (mtl _ (mhd _)))))))) | exact mtl _ (mtl _ (mtl _ (mtl _ (mtl _ (mtl _ (mtl _ (mtl _ (mtl _ (mhd _))))))))) | exact mtl _ (mtl _ (mtl _ (mtl _ (mtl _ (mtl _ (mtl _ (mtl _ (mtl _ (mtl _ (mhd _)))))))))) | exact mtl _ (mtl _ (mtl _ (mtl _ (mtl _ (mtl _ (mtl _ (mtl _ (mtl _ (mtl _ (mtl _ (mhd _))))))))))) | exact mtl _ (mtl _ (mtl _ (mtl _ (mtl _ (mtl _ (mtl _ (mtl _ (mtl _ (mtl _ (mtl _ (mtl _ (mhd _)))))))))))) | exact mtl _ (mtl _ (mtl _ (mtl _ (mtl _ (mtl _ (mtl _ (mtl _ (mtl _ (mtl _ (mtl _ (mtl _ (mtl _ (mhd _))))))))))))))) ?_ (by with_unfolding_all rfl); k_whole))
  k_with "subscriptTail Name BinOp ref int" => w_strict (k_here; (with_reducible show wpAny _ _ (subscriptTail _ _ (Value.ref _) (Value.int _ _)) _ _ _); refine Halt.of ?_)
  k_with "subscriptTail Name BinOp ref int" => w_strict (k_here; (with_reducible show wpAny _ _ (subscriptTail _ _ (Value.ref _) (Value.int (0 + 1) _)) _ _ _); k_dflt (refine sub_pair1 (by k_asm) (by (first | exact mhd _ | exact mtl _ (mhd _) | exact mtl _ (mtl _ (mhd _)) | exact mtl _ (mtl _ (mtl _ (mhd _))) | exact mtl _ (mtl _ (mtl _ (mtl _ (mhd _)))) | exact mtl _ (mtl _ (mtl _ (mtl _ (mtl _ (mhd _))))) | exact mtl _ (mtl _ (mtl _ (mtl _ (mtl _ (mtl _ (mhd _)))))) | exact mtl _ (mtl _ (mtl _ (mtl _ (mtl _ (mtl _ (mtl _ (mhd _))))))) | exact mtl _ (mtl _ (mtl _ (mtl _ (mtl _ (mtl _ (mtl _ (mtl _ (mhd _)))))))) | exact mtl _ (mtl _ (mtl _ (mtl _ (mtl _ (mtl _ (mtl _ (mtl _ (mtl _ (mhd _))))))))) | exact mtl _ (mtl _ (mtl _ (mtl _ (mtl _ (mtl _ (mtl _ (mtl _ (mtl _ (mtl _ (mhd _)))))))))) | exact mtl _ (mtl _ (mtl _ (mtl _ (mtl _ (mtl _ (mtl _ (mtl _ (mtl _ (mtl _ (mtl _ (mhd _))))))))))) | exact mtl _ (mtl _ (mtl _ (mtl _ (mtl _ (mtl _ (mtl _ (mtl _ (mtl _ (mtl _ (mtl _ (mtl _ (mhd _)))))))))))) | exact mtl _ (mtl _ (mtl _ (mtl _ (mtl _ (mtl _ (mtl _ (mtl _ (mtl _ (mtl _ (mtl _ (mtl _ (mtl _ (mhd _))))))))))))))) ?_ (by with_unfolding_all rfl); k_whole))
  trivial
theorem c_del_4 {cx lp : Addr} {k0 : Nat} {p0 p1 p2 p3 p4 : Addr} {pts : List Addr} {f3 : List ERec × Nat × Nat} {xy : Nat → Int × Int} {fin : List ERec × Nat × Nat} {Rr : Result → Shared → Prop} (B : Below A₀ base outer h₀) (F : Fr h₀ L s.heap m) (X : (hd.heap_1 w.params).In h₀) (N : News h₀ L s.heap news) (T : Top p loose mean mg mb h₀) (hk : cs.kind = .function) (hnri : ∀ p ∈ news, NRI p.2) (R : Rep w.params news cx pts xy [] []) (hpts : pts = [p0, p1, p2, p3]) (ml : (lp, W.listOf (refs [(p0, xy 0), (p1, xy 1), (p2, xy 2), (p3, xy 3)]).toArray k0) ∈ news) (hnd : [(p0, xy 0), (p1, xy 1), (p2, xy 2), (p3, xy 3)].Pairwise fun a b => a.2 ≠ b.2) (hord : [(p0, xy 0), (p1, xy 1), (p2, xy 2), (p3, xy 3)].Pairwise fun a b => lxB a.2 b.2 = true) (hroom : dp + 40 < recursionLimit) (hu : un + 600 < cLine)
   (hrun3 : f3 = (mkE (mkE [] 0 1) 2 3, 4, opp (mkE (mkE [] 0 1) 2 3) 4)) (hrun : (mergeD 6 6 6 f3.1 0 (opp (mkE [] 0 1) 0) f3.2.1 f3.2.2).run (truth xy) = some fin)
   (ret : ∀ h' tk' news' al' gs' x d lx ld rx rd, Fr h₀ L h' m → News h₀ L h' news' → Rep w.params news' cx pts xy al' fin.1 → Step [] news al' news' →
     TAt w.params news' x d cx lx rx → al'[fin.2.1]? = some (lx, ld) → al'[fin.2.2]? = some (rx, rd) → (∀ p ∈ news, p.1 < d) → (∀ p ∈ news', NRI p.2) → (AllBare s.gens → AllBare gs') → Rr (.ok (.ret (.ref x))) { s with heap := h', toks := tk', gens := gs' }) :
   codeAny (model prog w) (ktrTop dp un gd cn cs L a ccd cl outer) (.call (.ref 444) ⟨[.ref 481, .ref lp], [(Str.ofString "context", .ref cx)]⟩) Rr s := by
  obtain h9 : Tag9 (P := codeAny (model prog w) (ktrTop dp un gd cn cs L a ccd cl outer) (.call (.ref 444) ⟨[.ref 481, .ref lp], [(Str.ofString "context", .ref cx)]⟩) Rr s) (by
    have S0 : Step [] news [] news := Step.refl
    have hp : ∀ q ∈ [(p0, xy 0), (p1, xy 1), (p2, xy 2), (p3, xy 3)], PtAt news q.1 q.2 := by
      intro q hq
      simp only [List.mem_cons, List.not_mem_nil, or_false] at hq
      rcases hq with rfl | rfl | rfl | rfl
      · exact R.pin 0 _ (by rw [hpts]; rfl)
      · exact R.pin 1 _ (by rw [hpts]; rfl)
      · exact R.pin 2 _ (by rw [hpts]; rfl)
      · exact R.pin 3 _ (by rw [hpts]; rfl)
    k_dflt k_enter
    k_steps
    unfold Halt
    refine' comp_halt ?hclos ?hkind ?hnames ?_
    case hclos => with_unfolding_all rfl
    case hkind => rfl
    case hnames => decide
    k_steps
    rename (Top p loose mean mg mb _) => T'
    rename (∀ p ∈ news, @LT.lt Nat _ p.1 _) => lnws
    rename_i I' gs' Lg' own' F' hG' lG' hown' hLgI' feed' oI' N'
    unfold Halt
    refine wpAny_pyIter_gen hG' ?_
    refine comp_start (by decide) rfl F' N' hG' fun D9 C9 oC9 mC9 h9 tk9 F9 hC9 N9 lD9 lC9 hG9 lI9 => ?_
    obtain ⟨NI9, N9⟩ := split_gen N9
    have lDl := fun p hp => lD9 p (mtl _ (List.mem_append.mpr (.inr hp)))
    have hLLg := Nat.lt_of_succ_lt (lG' _ (.tail _ (.tail _ (.tail _ (.tail _ (.tail _ (.tail _ (.tail _ (.tail _ (.head _))))))))))
    obtain ⟨hZg, feed9, hZ9⟩ := gen_ready F9 N9 hLLg hLgI' lI9 lC9 feed'
    have hnl := all_like lDl (Q := fun p => NRI p.2) (by repeat' (first | exact hnri | refine List.forall_mem_cons.mpr ⟨?_, ?_⟩ | exact NRI.ty (T := "list") rfl (by decide) | exact NRI.ty (T := "tuple") rfl (by decide) | exact NRI.cell (by assumption)))
    have hGI := gen_at hG' (N' _ (.head _)).1
    refine compLoop_turn ?_
    refine gen_item (A := (ktrTop dp un gd cn cs L a ccd cl outer).deeper _) (R := _) rfl ?room1_1 T'.nolimit F9 N9 NI9 hG9 (Array.getElem?_push_size) feed9 hZ9 (.head _) (.tail _ (.head _)) hZg (Nat.ne_of_gt hLgI') (Nat.ne_of_lt (Nat.lt_trans lI9 lC9)) hC9 ?off1_1 (List.forall_mem_cons.mpr ⟨NRI.ty (T := "list") rfl (by decide), hnl⟩) rfl rfl (by decide) rfl ?hK1_1 (fun T9 s9 h => h)
    case room1_1 => ktr_room
    case off1_1 => exact List.forall_mem_cons.mpr ⟨⟨Nat.ne_of_gt (Nat.lt_trans hLgI' lI9), Nat.ne_of_lt lC9⟩, fun p hp => ⟨Nat.ne_of_lt (lG' p hp), Nat.ne_of_lt (Nat.lt_trans (lDl p hp) lC9)⟩⟩
    intro h3 tk3 gs3_1 v1 v2 own3_1 oC3_1 mC3_1 hP3 hC3_1 hx1 hx2 F3 N3_1 NI3_1 hZ3_1 hty3_1 hoG3 feed3_1
    obtain ⟨x9, y9, rfl, rfl⟩ : ∃ x y, v1 = .int _ x ∧ v2 = .int _ y := by
      rcases hP3 with ⟨_, hP3⟩ | ⟨hP3, _⟩; exact hP3; exact absurd hP3 (by decide)
    have N4 := retail N3_1 NI3_1
    obtain ⟨nw_1, hnw_1⟩ : ∃ nw, nw = ((I', oI') :: own3_1) ++ news := ⟨_, rfl⟩
    rw [← hnw_1] at N4
    have R4 : Rep w.params nw_1 _ _ _ _ _ := R.mono (fun p hp => by rw [hnw_1]; exact List.mem_append.mpr (.inr hp))
    have W3_1 : Halt (News _ _ _ _) := N3_1
    have WI3_1 : Halt (News _ _ _ _) := NI3_1
    clear N3_1 NI3_1
    k_steps
    unfold Halt
    k_dflt (refine' call_meth ?k1_1 ?k2_1 ?_)
    case k1_1 => k_asm
    case k2_1 => (first | exact mhd _ | exact mtl _ (mhd _) | exact mtl _ (mtl _ (mhd _)) | exact mtl _ (mtl _ (mtl _ (mhd _))) | exact mtl _ (mtl _ (mtl _ (mtl _ (mhd _)))) | exact mtl _ (mtl _ (mtl _ (mtl _ (mtl _ (mhd _))))) | exact mtl _ (mtl _ (mtl _ (mtl _ (mtl _ (mtl _ (mhd _)))))) | exact mtl _ (mtl _ (mtl _ (mtl _ (mtl _ (mtl _ (mtl _ (mhd _))))))) | exact mtl _ (mtl _ (mtl _ (mtl _ (mtl _ (mtl _ (mtl _ (mtl _ (mhd _)))))))) | exact mtl _ (mtl _ (mtl _ (mtl _ (mtl _ (mtl _ (mtl _ (mtl _ (mtl _ (mhd _))))))))) | exact mtl _ (mtl _ (mtl _ (mtl _ (mtl _ (mtl _ (mtl _ (mtl _ (mtl _ (mtl _ (mhd _)))))))))) | exact mtl _ (mtl _ (mtl _ (mtl _ (mtl _ (mtl _ (mtl _ (mtl _ (mtl _ (mtl _ (mtl _ (mhd _))))))))))) | exact mtl _ (mtl _ (mtl _ (mtl _ (mtl _ (mtl _ (mtl _ (mtl _ (mtl _ (mtl _ (mtl _ (mtl _ (mhd _)))))))))))) | exact mtl _ (mtl _ (mtl _ (mtl _ (mtl _ (mtl _ (mtl _ (mtl _ (mtl _ (mtl _ (mtl _ (mtl _ (mtl _ (mhd _))))))))))))))
    k_dflt (refine' c_init (i := 0) (fin := (mkE [] 0 1, 0, opp (mkE [] 0 1) 0)) ?B_1 ?F_1 ?X_1 ?N_1 ?T_1 ?hk_1 ?R_1 ?ml_1 ?hI_1 ?room_1 ?hu_1 ?_)
    case B_1 => k_asm
    case F_1 => k_asm
    case X_1 => k_asm
    case N_1 => k_asm
    case T_1 => k_asm
    case hk_1 => rfl
    case R_1 => exact R4.mono (by intro p9 hp9; repeat (first | exact hp9 | refine mtl _ ?_))
    case ml_1 => first | exact mhd _ | exact mtl _ (mhd _) | exact mtl _ (mtl _ (mhd _)) | exact mtl _ (mtl _ (mtl _ (mhd _)))
    case hI_1 => exact .inl ⟨_, _, rfl, by rw [hpts]; rfl, by rw [hpts]; rfl, rfl⟩
    case room_1 => ktr_room
    case hu_1 => ktr_units
    intro h5_1 tk5_1 news5_1 al5_1 xT_1 dT_1 lx_1 ld_1 rx_1 rd_1 F5 N5_1 R5 S5_1 TA5 ma_1 mb_1 fr5_1
    show wpAny _ _ (call (.builtin "list.append") [.ref D9, .ref xT_1]) _ _ _
    obtain ⟨oG_1, mG_1, hoG_1, hnG_1⟩ := hoG3
    have hsub_1 : ∀ p ∈ news, p ∈ nw_1 := fun p hp => by rw [hnw_1]; exact List.mem_append.mpr (.inr hp)
    have hk5_1 := step_keep S5_1 W3_1 (fun p hp => by have z := retail_sub hsub_1 p hp; repeat (first | exact z | refine mtl _ ?_)) (by simp)
    have hki_1 := step_keep S5_1 WI3_1 (fun p hp => by
      have z : p ∈ nw_1 := by rw [hnw_1]; exact List.mem_append.mpr (.inl hp)
      repeat (first | exact z | refine mtl _ ?_)) (by simp)
    have hGn_1 := hki_1 _ (.tail _ hoG_1)
    have hLd_1 : @LT.lt Nat _ Lg' dT_1 := fr5_1 (Lg', oG_1) (by
      have z : (Lg', oG_1) ∈ nw_1 := by rw [hnw_1]; exact List.mem_append.mpr (.inl (.tail _ hoG_1))
      repeat (first | exact z | refine mtl _ ?_)) (by simp)
    have hD5_1 := N5_1 _ (hk5_1 _ (.tail _ (.head _))).1
    refine append_at hD5_1.1 (fun h6_1 hs6_1 hD6_1 => ?_) (by simp [sizeLine_eq])
    have F6_1 := F5.change hs6_1 hD5_1.2.1 hD5_1.2.2
    have N6_1 := after_append (c := (C9, oC3_1)) N5_1 (fun p hp => (hk5_1 p hp).1) hs6_1 (hD6_1.trans (congrArg some (LCg.lst_snoc [] (.ref xT_1)))) (Nat.ne_of_gt lC9) (fun p hp => Nat.ne_of_lt (lDl p hp))
    have hfD_1 := fun (p : Addr × Obj) (hp : p ∈ fltB [Lg', C9] news5_1) => flt_list N5_1 (hk5_1 _ (.tail _ (.head _))).1 p (List.mem_filter.mpr ⟨(mem_fltB.mp hp).1, (mem_fltB.mp hp).2.1⟩)
    have Nf : News _ _ h6_1 (fltB [Lg', C9] news5_1) := fun p hp => ⟨hs6_1.extBut _ _ (hfD_1 p hp) (N5_1 p (mem_fltB.mp hp).1).1, (N5_1 p (mem_fltB.mp hp).1).2⟩
    have N7_1 : News _ _ _ (_ :: (D9, LCg.lst [.ref xT_1]) :: _) := retail N6_1 Nf
    have hCd_1 : @LT.lt Nat _ C9 dT_1 := fr5_1 (C9, oC3_1) (by repeat (first | exact mhd _ | refine mtl _ ?_)) (by simp)
    have hZn_1 : ∀ z ∈ [Lg', C9], NsIn al5_1 news5_1 z := by
      intro z hz
      simp only [List.mem_cons, List.not_mem_nil, or_false] at hz
      rcases hz with rfl | rfl
      · exact ⟨_, _, hGn_1.1, hnG_1, hGn_1.2⟩
      · exact ⟨_, _, (hk5_1 _ (.head _)).1, hC3_1, (hk5_1 _ (.head _)).2⟩
    have hdZ_1 : dT_1 ∉ [Lg', C9] := by
      intro hz
      simp only [List.mem_cons, List.not_mem_nil, or_false] at hz
      rcases hz with rfl | rfl
      · exact Nat.lt_irrefl _ hLd_1
      · exact Nat.lt_irrefl _ hCd_1
    have R7_1 := R5.regroup N5_1 hZn_1 R.ctx R.pin
    have T7_1 := TA5.regroup (news := news) N5_1 hZn_1 hdZ_1
    have NI6_1 : News _ _ h6_1 ((I', oI') :: own3_1) := fun p hp => ⟨hs6_1.extBut _ _ (by
      rcases List.mem_cons.mp hp with rfl | hp
      · exact Nat.ne_of_lt lI9
      · exact fun e => hZ3_1 p hp (e ▸ .tail _ (.tail _ (.head _)))) (N5_1 p (hki_1 p hp).1).1, (N5_1 p (hki_1 p hp).1).2⟩
    have hk5s_1 := hk5_1
    have hfn_1 : ∀ p ∈ news, @LT.lt Nat _ p.1 dT_1 := fun p hp => fr5_1 p (by repeat (first | exact hsub_1 p hp | refine mtl _ ?_)) (by simp)
    have hIal_1 := (hki_1 _ (.head _)).2
    have hLal_1 := hGn_1.2
    refine compLoop_turn ?_
    refine gen_item (A := (ktrTop dp un gd cn cs L a ccd cl outer).deeper _) (R := _) rfl ?room1_2 T'.nolimit F6_1 N7_1 NI6_1 (hGI _ (NI6_1 _ (.head _)).1) (by simp) feed3_1 (three_at F6_1 N7_1) (.head _) (.tail _ (.head _)) hZg (Nat.ne_of_gt hLgI') (Nat.ne_of_lt (Nat.lt_trans lI9 lC9)) hC3_1 ?off1_2 (List.forall_mem_cons.mpr ⟨NRI.ty (T := "list") rfl (by decide), (retail_all hnl (fun p hp => keepB_nri (mem_fltB.mp hp).2.1))⟩) rfl rfl (by decide) rfl ?hK1_2 (fun T9 s9 h => h)
    case room1_2 => ktr_room
    case off1_2 => exact List.forall_mem_cons.mpr ⟨⟨Nat.ne_of_gt (Nat.lt_trans hLgI' lI9), Nat.ne_of_lt lC9⟩, retail_all (Q := fun p => p.1 ≠ Lg' ∧ p.1 ≠ C9) (fun p hp => ⟨Nat.ne_of_lt (lG' p hp), Nat.ne_of_lt (Nat.lt_trans (lDl p hp) lC9)⟩) (fun p hp => ⟨fun e => (mem_fltB.mp hp).2.2 (by rw [e]; exact .head _), fun e => (mem_fltB.mp hp).2.2 (by rw [e]; exact .tail _ (.head _))⟩)⟩
    intro h3 tk3 gs3_2 v1 v2 own3_2 oC3_2 mC3_2 hP3 hC3_2 hx1 hx2 F3 N3_2 NI3_2 hZ3_2 hty3_2 hoG3 feed3_2
    obtain ⟨x9, y9, rfl, rfl⟩ : ∃ x y, v1 = .int _ x ∧ v2 = .int _ y := by
      rcases hP3 with ⟨hP3, _⟩ | ⟨_, hP3⟩; exact absurd hP3 (by decide); exact hP3
    have N4 := retail N3_2 NI3_2
    obtain ⟨nw_2, hnw_2⟩ : ∃ nw, nw = ((I', oI') :: own3_2) ++ (fltB [Lg', C9] news5_1 ++ news) := ⟨_, rfl⟩
    rw [← hnw_2] at N4
    have R4 : Rep w.params nw_2 _ _ _ _ _ := R7_1.mono (fun p hp => by rw [hnw_2]; exact List.mem_append.mpr (.inr hp))
    have W3_2 : Halt (News _ _ _ _) := (fun p hp => N3_2 p (retail_sub (fun p h => List.mem_append.mpr (.inr h)) p hp) : News _ _ _ (_ :: _ :: _ :: _ :: _ :: _ :: _ :: _ :: _ :: _ :: _ :: news))
    have WI3_2 : Halt (News _ _ _ _) := NI3_2
    have WT_2 : Halt (News _ _ _ (fltB [Lg', C9] news5_1 ++ news)) := Halt.of (fun p hp => N3_2 p (by simp only [List.mem_cons]; simp only [hp, or_true]))
    clear F6_1 N7_1 NI6_1 hk5_1 hki_1 N5_1
    clear N3_2 NI3_2
    k_steps
    unfold Halt
    k_dflt (refine' call_meth ?k1_2 ?k2_2 ?_)
    case k1_2 => k_asm
    case k2_2 => (first | exact mhd _ | exact mtl _ (mhd _) | exact mtl _ (mtl _ (mhd _)) | exact mtl _ (mtl _ (mtl _ (mhd _))) | exact mtl _ (mtl _ (mtl _ (mtl _ (mhd _)))) | exact mtl _ (mtl _ (mtl _ (mtl _ (mtl _ (mhd _))))) | exact mtl _ (mtl _ (mtl _ (mtl _ (mtl _ (mtl _ (mhd _)))))) | exact mtl _ (mtl _ (mtl _ (mtl _ (mtl _ (mtl _ (mtl _ (mhd _))))))) | exact mtl _ (mtl _ (mtl _ (mtl _ (mtl _ (mtl _ (mtl _ (mtl _ (mhd _)))))))) | exact mtl _ (mtl _ (mtl _ (mtl _ (mtl _ (mtl _ (mtl _ (mtl _ (mtl _ (mhd _))))))))) | exact mtl _ (mtl _ (mtl _ (mtl _ (mtl _ (mtl _ (mtl _ (mtl _ (mtl _ (mtl _ (mhd _)))))))))) | exact mtl _ (mtl _ (mtl _ (mtl _ (mtl _ (mtl _ (mtl _ (mtl _ (mtl _ (mtl _ (mtl _ (mhd _))))))))))) | exact mtl _ (mtl _ (mtl _ (mtl _ (mtl _ (mtl _ (mtl _ (mtl _ (mtl _ (mtl _ (mtl _ (mtl _ (mhd _)))))))))))) | exact mtl _ (mtl _ (mtl _ (mtl _ (mtl _ (mtl _ (mtl _ (mtl _ (mtl _ (mtl _ (mtl _ (mtl _ (mtl _ (mhd _))))))))))))))
    k_dflt (refine' c_init (i := 2) (fin := f3) ?B_2 ?F_2 ?X_2 ?N_2 ?T_2 ?hk_2 ?R_2 ?ml_2 ?hI_2 ?room_2 ?hu_2 ?_)
    case B_2 => k_asm
    case F_2 => k_asm
    case X_2 => k_asm
    case N_2 => k_asm
    case T_2 => k_asm
    case hk_2 => rfl
    case R_2 => exact R4.mono (by intro p9 hp9; repeat (first | exact hp9 | refine mtl _ ?_))
    case ml_2 => first | exact mhd _ | exact mtl _ (mhd _) | exact mtl _ (mtl _ (mhd _)) | exact mtl _ (mtl _ (mtl _ (mhd _)))
    case hI_2 => exact .inl ⟨_, _, rfl, by rw [hpts]; rfl, by rw [hpts]; rfl, hrun3⟩
    case room_2 => ktr_room
    case hu_2 => ktr_units
    intro h5_2 tk5_2 news5_2 al5_2 xT_2 dT_2 lx_2 ld_2 rx_2 rd_2 F5 N5_2 R5 S5_2 TA5 ma_2 mb_2 fr5_2
    show wpAny _ _ (call (.builtin "list.append") [.ref D9, .ref xT_2]) _ _ _
    obtain ⟨oG_2, mG_2, hoG_2, hnG_2⟩ := hoG3
    have hsub_2 : ∀ p ∈ news, p ∈ nw_2 := fun p hp => by rw [hnw_2]; exact List.mem_append.mpr (.inr (List.mem_append.mpr (.inr hp)))
    have hk5_2 := step_keep S5_2 W3_2 (fun p hp => by have z := retail_sub hsub_2 p hp; repeat (first | exact z | refine mtl _ ?_)) (off_change hk5s_1 rfl rfl)
    have hki_2 := step_keep S5_2 WI3_2 (fun p hp => by
      have z : p ∈ nw_2 := by rw [hnw_2]; exact List.mem_append.mpr (.inl hp)
      repeat (first | exact z | refine mtl _ ?_)) (own_off R7_1 WT_2 WI3_2 hIal_1 hLal_1 hty3_2)
    have hGn_2 := hki_2 _ (.tail _ hoG_2)
    have hLd_2 : @LT.lt Nat _ Lg' dT_2 := fr5_2 (Lg', oG_2) (by
      have z : (Lg', oG_2) ∈ nw_2 := by rw [hnw_2]; exact List.mem_append.mpr (.inl (.tail _ hoG_2))
      repeat (first | exact z | refine mtl _ ?_)) hLal_1
    have hD5_2 := N5_2 _ (hk5_2 _ (.tail _ (.head _))).1
    refine append_at hD5_2.1 (fun h6_2 hs6_2 hD6_2 => ?_) (by simp [sizeLine_eq])
    have F6_2 := F5.change hs6_2 hD5_2.2.1 hD5_2.2.2
    have N6_2 := after_append (c := (C9, oC3_2)) N5_2 (fun p hp => (hk5_2 p hp).1) hs6_2 (hD6_2.trans (congrArg some (LCg.lst_snoc [.ref xT_1] (.ref xT_2)))) (Nat.ne_of_gt lC9) (fun p hp => Nat.ne_of_lt (lDl p hp))
    have hfD_2 := fun (p : Addr × Obj) (hp : p ∈ fltB [Lg', C9] news5_2) => flt_list N5_2 (hk5_2 _ (.tail _ (.head _))).1 p (List.mem_filter.mpr ⟨(mem_fltB.mp hp).1, (mem_fltB.mp hp).2.1⟩)
    have Nf : News _ _ h6_2 (fltB [Lg', C9] news5_2) := fun p hp => ⟨hs6_2.extBut _ _ (hfD_2 p hp) (N5_2 p (mem_fltB.mp hp).1).1, (N5_2 p (mem_fltB.mp hp).1).2⟩
    have N7_2 : News _ _ _ (_ :: (D9, LCg.lst [.ref xT_1, .ref xT_2]) :: _) := retail N6_2 Nf
    have hCd_2 : @LT.lt Nat _ C9 dT_2 := fr5_2 (C9, oC3_2) (by repeat (first | exact mhd _ | refine mtl _ ?_)) (hk5s_1 _ (.head _)).2
    have hZn_2 : ∀ z ∈ [Lg', C9], NsIn al5_2 news5_2 z := by
      intro z hz
      simp only [List.mem_cons, List.not_mem_nil, or_false] at hz
      rcases hz with rfl | rfl
      · exact ⟨_, _, hGn_2.1, hnG_2, hGn_2.2⟩
      · exact ⟨_, _, (hk5_2 _ (.head _)).1, hC3_2, (hk5_2 _ (.head _)).2⟩
    have hdZ_2 : dT_2 ∉ [Lg', C9] := by
      intro hz
      simp only [List.mem_cons, List.not_mem_nil, or_false] at hz
      rcases hz with rfl | rfl
      · exact Nat.lt_irrefl _ hLd_2
      · exact Nat.lt_irrefl _ hCd_2
    have R7_2 := R5.regroup N5_2 hZn_2 R.ctx R.pin
    have T7_2 := TA5.regroup (news := news) N5_2 hZn_2 hdZ_2
    have hT1o := T7_1.off R7_1 WT_2
    have T7_1b := ((T7_1.mono (fun p hp => by
      have z : p ∈ nw_2 := by rw [hnw_2]; exact List.mem_append.mpr (.inr hp)
      repeat (first | exact z | refine mtl _ ?_))).step S5_2 hT1o).regroup (news := news) N5_2 hZn_2 hdZ_1
    have hd12 : @LT.lt Nat _ dT_1 dT_2 := let ⟨o, ho⟩ := T7_1.td_mem; fr5_2 (dT_1, o) (by
      have z : (dT_1, o) ∈ nw_2 := by rw [hnw_2]; exact List.mem_append.mpr (.inr ho)
      repeat (first | exact z | refine mtl _ ?_)) hT1o.1
    have ma_1b := S5_2.up ma_1
    have mb_1b := S5_2.up mb_1
    have NI6_2 : News _ _ h6_2 ((I', oI') :: own3_2) := fun p hp => ⟨hs6_2.extBut _ _ (by
      rcases List.mem_cons.mp hp with rfl | hp
      · exact Nat.ne_of_lt lI9
      · exact fun e => hZ3_2 p hp (e ▸ .tail _ (.tail _ (.head _)))) (N5_2 p (hki_2 p hp).1).1, (N5_2 p (hki_2 p hp).1).2⟩
    have hk5s_2 := hk5_2
    have hfn_2 : ∀ p ∈ news, @LT.lt Nat _ p.1 dT_2 := fun p hp => fr5_2 p (by repeat (first | exact hsub_2 p hp | refine mtl _ ?_)) (hk5s_1 p (by repeat (first | exact hp | refine mtl _ ?_))).2
    have hIal_2 := (hki_2 _ (.head _)).2
    have hLal_2 := hGn_2.2
    refine compLoop_turn ?_
    refine gen_stop (A := (ktrTop dp un gd cn cs L a ccd cl outer).deeper _) rfl ?room2 T'.nolimit F6_2 N7_2 NI6_2 (hGI _ (NI6_2 _ (.head _)).1) ?gs2 feed3_2 (three_at F6_2 N7_2) (.head _) (.tail _ (.head _)) hZg hC3_2 ?off2 ?nri2 ?Q2
    case room2 => ktr_room
    case gs2 => simp
    case off2 => exact List.forall_mem_cons.mpr ⟨Nat.ne_of_gt (Nat.lt_trans hLgI' lI9), retail_all (fun p hp => Nat.ne_of_lt (lG' p hp)) (fun p hp e => (mem_fltB.mp hp).2.2 (e ▸ .head _))⟩
    case nri2 => exact List.forall_mem_cons.mpr ⟨NRI.ty (T := "list") rfl (by decide), retail_all hnl (fun p hp => keepB_nri (mem_fltB.mp hp).2.1)⟩
    case Q2 =>
      intro h8 tk8 F8 N8
      refine ⟨_, hC3_2.ns (N8 _ (.head _)).1, fun hz hsz => ?_⟩
      have Fz := F8.change hsz (N8 _ (.head _)).2.1 (N8 _ (.head _)).2.2
      have Nz := news_sub (fun p hp => N8 p (mtl _ hp)) (fun p hp => hsz.extBut p.1 p.2 ((List.forall_mem_cons (p := fun q : Addr × Obj => q.1 ≠ C9)).mpr ⟨Nat.ne_of_lt lC9, retail_all (Q := fun q => q.1 ≠ C9) (fun q hq => Nat.ne_of_lt (Nat.lt_trans (lDl q hq) lC9)) (fun q hq e => (mem_fltB.mp hq).2.2 (by rw [e]; exact .tail _ (.head _)))⟩ p hp) (N8 p (mtl _ hp)).1)
      have l1 := lDl
      (try k_lt l1)
      have hoff := off_ten (Z := [Lg', C9]) N5_2 (fun p hp => (hk5_2 p hp).1)
        (by repeat' (first | exact fun _ h => absurd h List.not_mem_nil | refine List.forall_mem_cons.mpr ⟨?_, ?_⟩ | exact keepB_cell (by assumption) | rfl))
        (by
          rename (_ ∧ _ ∧ _ ∧ _ ∧ _ ∧ _ ∧ _ ∧ _ ∧ LCg.Off1 _ news) => o19
          intro p hp q hq
          have z : @LT.lt Nat _ q.1 _ := lnws q hq
          simp only [List.mem_cons, List.not_mem_nil, or_false] at hp
          rcases hp with rfl | rfl | rfl | rfl | rfl | rfl | rfl | rfl | rfl | rfl <;> first | (exact off1_mem o19.2.2.2.2.2.2.2.2 q hq) | (refine Nat.ne_of_lt ?_; show @LT.lt Nat _ _ _; dsimp only; refine Nat.lt_trans z ?_; first | exact ltU1 | exact ltU2 | exact ltU3 | exact ltU4 | exact ltU5 | exact Nat.lt_trans ltU1 (ltA1 (by assumption)) | exact Nat.lt_trans ltU1 (ltA2 (by assumption)) | exact Nat.lt_trans ltU1 (ltA3 (by assumption)) | exact Nat.lt_trans ltU1 (ltA4 (by assumption)) | exact Nat.lt_trans ltU1 (ltA5 (by assumption)) | exact Nat.lt_trans ltU1 (ltA6 (by assumption)) | exact Nat.lt_trans ltU1 (ltA7 (by assumption)) | exact Nat.lt_trans ltU1 (ltA8 (by assumption)) | exact Nat.lt_trans ltU1 (ltA9 (by assumption)) | exact Nat.lt_trans ltU1 (ltA10 (by assumption)) | exact Nat.lt_trans ltU1 (ltA11 (by assumption)) | exact Nat.lt_trans ltU1 (ltA12 (by assumption))))
      obtain ⟨f1, f2, f3, f4, f5, f6, f7, f8, f9, f10⟩ := ten (K := fun q => ∀ (p : Addr × Obj), p ∈ fltB [Lg', C9] news5_2 ++ news → p.1 ≠ q.1) hoff
      dsimp only at f1 f2 f3 f4 f5 f6 f7 f8 f9 f10
      clear hoff
      obtain ⟨nw2, hnw2⟩ : ∃ nw2, nw2 = fltB [Lg', C9] news5_2 ++ news := ⟨_, rfl⟩
      rw [← hnw2] at Nz R7_2 T7_2 T7_1b f1 f2 f3 f4 f5 f6 f7 f8 f9 f10
      clear N8 F8
      clear hk5_2 hki_2 N5_2 N6_2 N7_2 Nf
      dsimp only
      k_steps
      unfold Halt
      refine' comp_halt ?hclosm ?hkindm ?hnamesm ?_
      case hclosm => with_unfolding_all rfl
      case hkindm => rfl
      case hnamesm => decide
      k_steps
      rename_i hRm FRm NRm hUm
      unfold Halt
      refine rng_start (by decide) rfl FRm NRm hRm (by decide) (fun I10 D10 C10 oC10 mC10 h10 tk10 F10 hC10 N10 lI10 lD10 lC10 => ?_)
      refine compLoop_turn ?_
      refine rng_item (K := _) (R := _) F10 N10 (by decide) (Nat.ne_of_lt (Nat.lt_trans lD10 lC10)) hC10 ?offm rfl rfl ?hKm (fun v9 s9 h => h)
      case offm => exact List.forall_mem_cons.mpr ⟨⟨Nat.ne_of_gt lD10, Nat.ne_of_lt lC10⟩, fun p hp => ⟨Nat.ne_of_lt (lI10 p hp), Nat.ne_of_lt (Nat.lt_trans (lI10 p hp) (Nat.lt_trans lD10 lC10))⟩⟩
      intro h11 tk11 t11 oC11 mC11 hC11 hx11 F11 N11
      k_steps
      unfold Halt
      have hinj := inj_of (pts := pts) (xy := xy) (n := 4) (by rw [hpts]; rfl) (by
        intro i j h1 h2
        have z := List.pairwise_iff_getElem.mp hnd i j (by simpa using Nat.lt_trans h1 h2) (by simpa using h2) h1
        have e : ∀ i (h : i < 4), ([(p0, xy 0), (p1, xy 1), (p2, xy 2), (p3, xy 3)][i]'(by simpa using h)).2 = xy i := fun i h => match i, h with | 0, _ => rfl | 1, _ => rfl | 2, _ => rfl | 3, _ => rfl
        rw [e i (Nat.lt_trans h1 h2), e j h2] at z
        exact z)
      k_dflt (refine' g_merge ?Bm ?Fm ?Xm ?Nm ?Tm ?hkm ?Rm ?tm ?h1m ?h2m ?h3m ?h4m hinj ?hrunm ?roomm ?hum ?_)
      case Bm => k_asm
      case Fm => k_asm
      case Xm => k_asm
      case Nm => exact N11
      case Tm => k_asm
      case hkm => rfl
      case Rm => exact R7_2.mono (by intro p9 hp9; repeat (first | exact hp9 | refine mtl _ ?_))
      case tm => exact (⟨T7_1b, T7_2, Nat.ne_of_lt hd12⟩ : TP w.params nw2 _ _ _ _ _ _ _ _ _ _).mono (by intro p9 hp9; repeat (first | exact hp9 | refine mtl _ ?_))
      case h1m => exact ma_1b
      case h2m => exact mb_1b
      case h3m => exact ma_2
      case h4m => exact mb_2
      case hrunm => exact hrun
      case roomm => ktr_room
      case hum => ktr_units
      intro h12 tk12 news6 al6 xT dT lx ld rx rd F12 N12 R12 S12 T12 ma6 mb6 fr6
      show wpAny _ _ (call (.builtin "list.append") [.ref D10, .ref xT]) _ _ _
      rename (_ ∧ _ ∧ _ ∧ _ ∧ _ ∧ _ ∧ _ ∧ _ ∧ _ ∧ _ ∧ AllLt _ nw2) => li9
      have hI9 : ∀ p ∈ nw2, @LT.lt Nat _ p.1 I10 := fun p hp => lI10 p (by repeat (first | exact hp | refine mtl _ ?_))
      have hE := keep14 (merge_keep S12 R7_2 T7_1b T7_2) (by
        refine List.forall_mem_cons.mpr ⟨fun p hp => Nat.ne_of_lt (hI9 p hp), List.forall_mem_cons.mpr ⟨fun p hp => Nat.ne_of_lt (Nat.lt_trans (hI9 p hp) (Nat.lt_trans lD10 lC10)), List.forall_mem_cons.mpr ⟨fun p hp => Nat.ne_of_lt (Nat.lt_trans (hI9 p hp) lD10), List.forall_mem_cons.mpr ⟨fun p hp => Nat.ne_of_lt (tb_ltOf li9.2.2.2.2.2.2.2.2.2.2 p hp), ?_⟩⟩⟩⟩
        refine List.forall_mem_cons.mpr ⟨f1, ?_⟩
        refine List.forall_mem_cons.mpr ⟨f2, ?_⟩
        refine List.forall_mem_cons.mpr ⟨f3, ?_⟩
        refine List.forall_mem_cons.mpr ⟨f4, ?_⟩
        refine List.forall_mem_cons.mpr ⟨f5, ?_⟩
        refine List.forall_mem_cons.mpr ⟨f6, ?_⟩
        refine List.forall_mem_cons.mpr ⟨f7, ?_⟩
        refine List.forall_mem_cons.mpr ⟨f8, ?_⟩
        refine List.forall_mem_cons.mpr ⟨f9, ?_⟩
        refine List.forall_mem_cons.mpr ⟨f10, ?_⟩
        exact fun _ h => absurd h List.not_mem_nil)
      have hnw : ∀ p ∈ news, p ∈ nw2 := fun p hp => by rw [hnw2]; exact List.mem_append.mpr (.inr hp)
      have hna : ∀ p ∈ news, p.1 ∉ al5_2.map (·.2) := fun p hp => (hk5s_2 p (by repeat (first | exact hp | refine mtl _ ?_))).2
      have hnt : ∀ p ∈ news, p.1 ∉ [dT_1, dT_2] := fun p hp hm => by
        simp only [List.mem_cons, List.not_mem_nil, or_false] at hm
        rcases hm with e | e
        · exact absurd e (Nat.ne_of_lt (hfn_1 p hp))
        · exact absurd e (Nat.ne_of_lt (hfn_2 p hp))
      have hkn : ∀ p ∈ news, p ∈ news6 ∧ p.1 ∉ al6.map (·.2) := fun p hp => S12.2 p (by repeat (first | exact hnw p hp | refine mtl _ ?_)) (hna p hp) (hnt p hp)
      have hD12 := N12 _ (hE _ (.tail _ (.tail _ (.head _)))).1
      have hfD := flt_ne (Z := [C10]) N12 (hE _ (.tail _ (.tail _ (.head _)))).1 rfl
      have hfI := flt_ne (Z := [C10]) N12 (hE _ (.head _)).1 rfl
      have hC12 := merge_off R7_2 T7_1b T7_2 (q := C10) (fun p hp => Nat.ne_of_lt (Nat.lt_trans (hI9 p hp) (Nat.lt_trans lD10 lC10)))
      have hCd12 : @LT.lt Nat _ C10 dT := fr6 (C10, oC11) (.tail _ (.head _)) hC12.1 hC12.2
      have hin : ∀ p ∈ fltB [C10] news6 ++ news, p ∈ news6 := fun p hp => (List.mem_append.mp hp).elim (fun h => (mem_fltB.mp h).1) (fun h => (hkn p h).1)
      refine append_at hD12.1 (fun h13 hs13 hD13 => ?_) (by simp [sizeLine_eq])
      have F13 := F12.change hs13 hD12.2.1 hD12.2.2
      have lI11 := sub11 (Q := fun p => @LT.lt Nat _ p.1 I10) lI10 hnw
      have N13 := after_app3 (a := (I10, _)) (c := (C10, oC11)) (o' := LCg.lst [.ref xT]) N12 (mem14 (fun p hp => (hE p hp).1) hin) hs13 (hD13.trans (congrArg some (LCg.lst_snoc [] (.ref xT)))) (Nat.ne_of_lt lD10) (Nat.ne_of_gt lC10) (retail11 (fun p hp => Nat.ne_of_lt (Nat.lt_trans (lI11 p hp) lD10)) hfD)
      refine compLoop_turn ?_
      refine rng_end rfl F13 N13 (by decide) ?offe (fun h14 F14 N14 => ?_)
      case offe => exact List.forall_mem_cons.mpr ⟨Nat.ne_of_gt (Nat.lt_trans lD10 lC10), List.forall_mem_cons.mpr ⟨Nat.ne_of_gt lD10, retail11 (fun p hp => Nat.ne_of_lt (lI11 p hp)) hfI⟩⟩
      refine ⟨_, hC11.ns (N14 _ (.head _)).1, fun hz2 hsz2 => ?_⟩
      have Fz2 := F14.change hsz2 (N14 _ (.head _)).2.1 (N14 _ (.head _)).2.2
      have Nz2 := news_sub (fun p hp => N14 p (mtl _ hp)) (fun p hp => hsz2.extBut p.1 p.2 ((List.forall_mem_cons (p := fun q : Addr × Obj => q.1 ≠ C10)).mpr ⟨Nat.ne_of_lt lC10, retail11 (Q := fun q => q.1 ≠ C10) (fun q hq => Nat.ne_of_lt (Nat.lt_trans (lI11 q hq) (Nat.lt_trans lD10 lC10))) (fun q hq e => (mem_fltB.mp hq).2.2 (by rw [e]; exact .head _))⟩ p hp) (N14 p (mtl _ hp)).1)
      have hZn6 : ∀ z ∈ [C10], NsIn al6 news6 z := fun z hz => by
        rw [List.mem_singleton.mp hz]; exact ⟨_, _, (hE _ (.tail _ (.head _))).1, hC11, (hE _ (.tail _ (.head _))).2⟩
      have R8 := R12.regroup N12 hZn6 R.ctx R.pin
      have T8 := T12.regroup (news := news) N12 hZn6 (by intro hzz; rw [List.mem_singleton.mp hzz] at hCd12; exact Nat.lt_irrefl _ hCd12)
      have b9 : ∀ (p : Addr × Obj), p ∈ fltB [C10] news6 ++ news → p.1 ≠ _ := fun p hp => (List.mem_append.mp hp).elim (flt_ne N12 (hE _ (.tail _ (.tail _ (.tail _ (.tail _ (.tail _ (.tail _ (.tail _ (.tail _ (.tail _ (.head _))))))))))).1 (keepB_cell (by assumption)) p) (fun h => Nat.ne_of_lt (Nat.lt_trans (lnws p h) (by show @LT.lt Nat _ _ _; omega)))
      have b10 : ∀ (p : Addr × Obj), p ∈ fltB [C10] news6 ++ news → p.1 ≠ _ := fun p hp => (List.mem_append.mp hp).elim (flt_ne N12 (hE _ (.tail _ (.tail _ (.tail _ (.tail _ (.tail _ (.tail _ (.tail _ (.tail _ (.tail _ (.tail _ (.head _)))))))))))).1 (keepB_cell (by assumption)) p) (fun h => Nat.ne_of_lt (Nat.lt_trans (lnws p h) (by show @LT.lt Nat _ _ _; omega)))
      have b11 : ∀ (p : Addr × Obj), p ∈ fltB [C10] news6 ++ news → p.1 ≠ _ := fun p hp => (List.mem_append.mp hp).elim (flt_ne N12 (hE _ (.tail _ (.tail _ (.tail _ (.tail _ (.tail _ (.tail _ (.tail _ (.tail _ (.tail _ (.tail _ (.tail _ (.head _))))))))))))).1 (keepB_cell (by assumption)) p) (fun h => Nat.ne_of_lt (Nat.lt_trans (lnws p h) (by show @LT.lt Nat _ _ _; omega)))
      have b12 : ∀ (p : Addr × Obj), p ∈ fltB [C10] news6 ++ news → p.1 ≠ _ := fun p hp => (List.mem_append.mp hp).elim (flt_ne N12 (hE _ (.tail _ (.tail _ (.tail _ (.tail _ (.tail _ (.tail _ (.tail _ (.tail _ (.tail _ (.tail _ (.tail _ (.tail _ (.head _)))))))))))))).1 (keepB_cell (by assumption)) p) (fun h => Nat.ne_of_lt (Nat.lt_trans (lnws p h) (by show @LT.lt Nat _ _ _; omega)))
      have b13 : ∀ (p : Addr × Obj), p ∈ fltB [C10] news6 ++ news → p.1 ≠ _ := fun p hp => (List.mem_append.mp hp).elim (flt_ne N12 (hE _ (.tail _ (.tail _ (.tail _ (.tail _ (.tail _ (.tail _ (.tail _ (.tail _ (.tail _ (.tail _ (.tail _ (.tail _ (.tail _ (.head _))))))))))))))).1 (keepB_cell (by assumption)) p) (fun h => Nat.ne_of_lt (Nat.lt_trans (lnws p h) (by show @LT.lt Nat _ _ _; omega)))
      have hi9 : ∀ (p : Addr × Obj), p ∈ fltB [C10] news6 ++ news → p.1 ≠ _ := fun p hp => (List.mem_append.mp hp).elim (flt_ne N12 (hE _ (.tail _ (.tail _ (.tail _ (.head _))))).1 rfl p) (fun h => Nat.ne_of_lt (tb_ltOf li9.2.2.2.2.2.2.2.2.2.2 p (hnw p h)))
      dsimp only at hi9 b9 b10 b11 b12 b13
      obtain ⟨nw3, hnw3⟩ : ∃ nw3, nw3 = fltB [C10] news6 ++ news := ⟨_, rfl⟩
      rw [← hnw3] at Nz2 R8 T8 hi9 b9 b10 b11 b12 b13
      have l10 := lI10
      (try k_lt l10)
      have hfr6 : ∀ p ∈ news, @LT.lt Nat _ p.1 dT := fun p hp => fr6 p (by repeat (first | exact hnw p hp | refine mtl _ ?_)) (hna p hp) (hnt p hp)
      clear N14 N13 N12 F14 F13 F12 hE hfD hfI hin lI11
      dsimp only
      k_steps
      rename (News _ _ _ (_ :: _)) => NZ
      rename (Fr _ _ _ _) => FZ
      refine unr_end4 FZ NZ ?offz ?restz
      case offz =>
        repeat' (first | exact hi9 | refine List.forall_mem_cons.mpr ⟨?_, ?_⟩ | k_ne | (refine Nat.ne_of_lt ?_; show @LT.lt Nat _ _ _; dsimp only; omega) | (refine Nat.ne_of_gt ?_; show @LT.lt Nat _ _ _; dsimp only; omega))
      case restz =>
        k_steps
        refine' ret _ _ nw3 al6 _ xT dT lx ld rx rd ?Fz ?Nz R8 ?Sz T8 ma6 mb6 hfr6 ?nriz ?barez
        case Fz => assumption
        case Nz => exact fun p9 hp9 => ‹News h₀ L _ _› p9 (by first | assumption | exact mcm _ hp9 | (repeat (first | exact hp9 | refine mcm _ ?_)))
        case Sz => exact ⟨fun i x h => by simp at h, fun p hp _ => ⟨by rw [hnw3]; exact List.mem_append.mpr (.inr hp), (hkn p hp).2⟩⟩
        case nriz => exact nri_out hnw3 hnri
        case barez => exact bare_out2) := trivial
  unfold id at h9; exact h9.get
theorem c_del_5 {cx lp : Addr} {k0 : Nat} {p0 p1 p2 p3 p4 : Addr} {pts : List Addr} {f3 : List ERec × Nat × Nat} {xy : Nat → Int × Int} {fin : List ERec × Nat × Nat} {Rr : Result → Shared → Prop} (B : Below A₀ base outer h₀) (F : Fr h₀ L s.heap m) (X : (hd.heap_1 w.params).In h₀) (N : News h₀ L s.heap news) (T : Top p loose mean mg mb h₀) (hk : cs.kind = .function) (hnri : ∀ p ∈ news, NRI p.2) (R : Rep w.params news cx pts xy [] []) (hpts : pts = [p0, p1, p2, p3, p4]) (ml : (lp, W.listOf (refs [(p0, xy 0), (p1, xy 1), (p2, xy 2), (p3, xy 3), (p4, xy 4)]).toArray k0) ∈ news) (hnd : [(p0, xy 0), (p1, xy 1), (p2, xy 2), (p3, xy 3), (p4, xy 4)].Pairwise fun a b => a.2 ≠ b.2) (hord : [(p0, xy 0), (p1, xy 1), (p2, xy 2), (p3, xy 3), (p4, xy 4)].Pairwise fun a b => lxB a.2 b.2 = true) (hroom : dp + 40 < recursionLimit) (hu : un + 600 < cLine)
   (hrun3 : (triThree (mkE [] 0 1) 2 3 4).run (truth xy) = some f3) (hrun : (mergeD 6 6 6 f3.1 0 (opp (mkE [] 0 1) 0) f3.2.1 f3.2.2).run (truth xy) = some fin)
   (ret : ∀ h' tk' news' al' gs' x d lx ld rx rd, Fr h₀ L h' m → News h₀ L h' news' → Rep w.params news' cx pts xy al' fin.1 → Step [] news al' news' →
     TAt w.params news' x d cx lx rx → al'[fin.2.1]? = some (lx, ld) → al'[fin.2.2]? = some (rx, rd) → (∀ p ∈ news, p.1 < d) → (∀ p ∈ news', NRI p.2) → (AllBare s.gens → AllBare gs') → Rr (.ok (.ret (.ref x))) { s with heap := h', toks := tk', gens := gs' }) :
   codeAny (model prog w) (ktrTop dp un gd cn cs L a ccd cl outer) (.call (.ref 444) ⟨[.ref 481, .ref lp], [(Str.ofString "context", .ref cx)]⟩) Rr s := by
  obtain h9 : Tag9 (P := codeAny (model prog w) (ktrTop dp un gd cn cs L a ccd cl outer) (.call (.ref 444) ⟨[.ref 481, .ref lp], [(Str.ofString "context", .ref cx)]⟩) Rr s) (by
    have S0 : Step [] news [] news := Step.refl
    have hp : ∀ q ∈ [(p0, xy 0), (p1, xy 1), (p2, xy 2), (p3, xy 3), (p4, xy 4)], PtAt news q.1 q.2 := by
      intro q hq
      simp only [List.mem_cons, List.not_mem_nil, or_false] at hq
      rcases hq with rfl | rfl | rfl | rfl | rfl
      · exact R.pin 0 _ (by rw [hpts]; rfl)
      · exact R.pin 1 _ (by rw [hpts]; rfl)
      · exact R.pin 2 _ (by rw [hpts]; rfl)
      · exact R.pin 3 _ (by rw [hpts]; rfl)
      · exact R.pin 4 _ (by rw [hpts]; rfl)
    k_dflt k_enter
    k_steps
    unfold Halt
    refine' comp_halt ?hclos ?hkind ?hnames ?_
    case hclos => with_unfolding_all rfl
    case hkind => rfl
    case hnames => decide
    k_steps
    rename (Top p loose mean mg mb _) => T'
    rename (∀ p ∈ news, @LT.lt Nat _ p.1 _) => lnws
    rename_i I' gs' Lg' own' F' hG' lG' hown' hLgI' feed' oI' N'
    unfold Halt
    refine wpAny_pyIter_gen hG' ?_
    refine comp_start (by decide) rfl F' N' hG' fun D9 C9 oC9 mC9 h9 tk9 F9 hC9 N9 lD9 lC9 hG9 lI9 => ?_
    obtain ⟨NI9, N9⟩ := split_gen N9
    have lDl := fun p hp => lD9 p (mtl _ (List.mem_append.mpr (.inr hp)))
    have hLLg := Nat.lt_of_succ_lt (lG' _ (.tail _ (.tail _ (.tail _ (.tail _ (.tail _ (.tail _ (.tail _ (.tail _ (.head _))))))))))
    obtain ⟨hZg, feed9, hZ9⟩ := gen_ready F9 N9 hLLg hLgI' lI9 lC9 feed'
    have hnl := all_like lDl (Q := fun p => NRI p.2) (by repeat' (first | exact hnri | refine List.forall_mem_cons.mpr ⟨?_, ?_⟩ | exact NRI.ty (T := "list") rfl (by decide) | exact NRI.ty (T := "tuple") rfl (by decide) | exact NRI.cell (by assumption)))
    have hGI := gen_at hG' (N' _ (.head _)).1
    refine compLoop_turn ?_
    refine gen_item (A := (ktrTop dp un gd cn cs L a ccd cl outer).deeper _) (R := _) rfl ?room1_1 T'.nolimit F9 N9 NI9 hG9 (Array.getElem?_push_size) feed9 hZ9 (.head _) (.tail _ (.head _)) hZg (Nat.ne_of_gt hLgI') (Nat.ne_of_lt (Nat.lt_trans lI9 lC9)) hC9 ?off1_1 (List.forall_mem_cons.mpr ⟨NRI.ty (T := "list") rfl (by decide), hnl⟩) rfl rfl (by decide) rfl ?hK1_1 (fun T9 s9 h => h)
    case room1_1 => ktr_room
    case off1_1 => exact List.forall_mem_cons.mpr ⟨⟨Nat.ne_of_gt (Nat.lt_trans hLgI' lI9), Nat.ne_of_lt lC9⟩, fun p hp => ⟨Nat.ne_of_lt (lG' p hp), Nat.ne_of_lt (Nat.lt_trans (lDl p hp) lC9)⟩⟩
    intro h3 tk3 gs3_1 v1 v2 own3_1 oC3_1 mC3_1 hP3 hC3_1 hx1 hx2 F3 N3_1 NI3_1 hZ3_1 hty3_1 hoG3 feed3_1
    obtain ⟨x9, y9, rfl, rfl⟩ : ∃ x y, v1 = .int _ x ∧ v2 = .int _ y := by
      rcases hP3 with ⟨_, hP3⟩ | ⟨hP3, _⟩; exact hP3; exact absurd hP3 (by decide)
    have N4 := retail N3_1 NI3_1
    obtain ⟨nw_1, hnw_1⟩ : ∃ nw, nw = ((I', oI') :: own3_1) ++ news := ⟨_, rfl⟩
    rw [← hnw_1] at N4
    have R4 : Rep w.params nw_1 _ _ _ _ _ := R.mono (fun p hp => by rw [hnw_1]; exact List.mem_append.mpr (.inr hp))
    have W3_1 : Halt (News _ _ _ _) := N3_1
    have WI3_1 : Halt (News _ _ _ _) := NI3_1
    clear N3_1 NI3_1
    k_steps
    unfold Halt
    k_dflt (refine' call_meth ?k1_1 ?k2_1 ?_)
    case k1_1 => k_asm
    case k2_1 => (first | exact mhd _ | exact mtl _ (mhd _) | exact mtl _ (mtl _ (mhd _)) | exact mtl _ (mtl _ (mtl _ (mhd _))) | exact mtl _ (mtl _ (mtl _ (mtl _ (mhd _)))) | exact mtl _ (mtl _ (mtl _ (mtl _ (mtl _ (mhd _))))) | exact mtl _ (mtl _ (mtl _ (mtl _ (mtl _ (mtl _ (mhd _)))))) | exact mtl _ (mtl _ (mtl _ (mtl _ (mtl _ (mtl _ (mtl _ (mhd _))))))) | exact mtl _ (mtl _ (mtl _ (mtl _ (mtl _ (mtl _ (mtl _ (mtl _ (mhd _)))))))) | exact mtl _ (mtl _ (mtl _ (mtl _ (mtl _ (mtl _ (mtl _ (mtl _ (mtl _ (mhd _))))))))) | exact mtl _ (mtl _ (mtl _ (mtl _ (mtl _ (mtl _ (mtl _ (mtl _ (mtl _ (mtl _ (mhd _)))))))))) | exact mtl _ (mtl _ (mtl _ (mtl _ (mtl _ (mtl _ (mtl _ (mtl _ (mtl _ (mtl _ (mtl _ (mhd _))))))))))) | exact mtl _ (mtl _ (mtl _ (mtl _ (mtl _ (mtl _ (mtl _ (mtl _ (mtl _ (mtl _ (mtl _ (mtl _ (mhd _)))))))))))) | exact mtl _ (mtl _ (mtl _ (mtl _ (mtl _ (mtl _ (mtl _ (mtl _ (mtl _ (mtl _ (mtl _ (mtl _ (mtl _ (mhd _))))))))))))))
    k_dflt (refine' c_init (i := 0) (fin := (mkE [] 0 1, 0, opp (mkE [] 0 1) 0)) ?B_1 ?F_1 ?X_1 ?N_1 ?T_1 ?hk_1 ?R_1 ?ml_1 ?hI_1 ?room_1 ?hu_1 ?_)
    case B_1 => k_asm
    case F_1 => k_asm
    case X_1 => k_asm
    case N_1 => k_asm
    case T_1 => k_asm
    case hk_1 => rfl
    case R_1 => exact R4.mono (by intro p9 hp9; repeat (first | exact hp9 | refine mtl _ ?_))
    case ml_1 => first | exact mhd _ | exact mtl _ (mhd _) | exact mtl _ (mtl _ (mhd _)) | exact mtl _ (mtl _ (mtl _ (mhd _)))
    case hI_1 => exact .inl ⟨_, _, rfl, by rw [hpts]; rfl, by rw [hpts]; rfl, rfl⟩
    case room_1 => ktr_room
    case hu_1 => ktr_units
    intro h5_1 tk5_1 news5_1 al5_1 xT_1 dT_1 lx_1 ld_1 rx_1 rd_1 F5 N5_1 R5 S5_1 TA5 ma_1 mb_1 fr5_1
    show wpAny _ _ (call (.builtin "list.append") [.ref D9, .ref xT_1]) _ _ _
    obtain ⟨oG_1, mG_1, hoG_1, hnG_1⟩ := hoG3
    have hsub_1 : ∀ p ∈ news, p ∈ nw_1 := fun p hp => by rw [hnw_1]; exact List.mem_append.mpr (.inr hp)
    have hk5_1 := step_keep S5_1 W3_1 (fun p hp => by have z := retail_sub hsub_1 p hp; repeat (first | exact z | refine mtl _ ?_)) (by simp)
    have hki_1 := step_keep S5_1 WI3_1 (fun p hp => by
      have z : p ∈ nw_1 := by rw [hnw_1]; exact List.mem_append.mpr (.inl hp)
      repeat (first | exact z | refine mtl _ ?_)) (by simp)
    have hGn_1 := hki_1 _ (.tail _ hoG_1)
    have hLd_1 : @LT.lt Nat _ Lg' dT_1 := fr5_1 (Lg', oG_1) (by
      have z : (Lg', oG_1) ∈ nw_1 := by rw [hnw_1]; exact List.mem_append.mpr (.inl (.tail _ hoG_1))
      repeat (first | exact z | refine mtl _ ?_)) (by simp)
    have hD5_1 := N5_1 _ (hk5_1 _ (.tail _ (.head _))).1
    refine append_at hD5_1.1 (fun h6_1 hs6_1 hD6_1 => ?_) (by simp [sizeLine_eq])
    have F6_1 := F5.change hs6_1 hD5_1.2.1 hD5_1.2.2
    have N6_1 := after_append (c := (C9, oC3_1)) N5_1 (fun p hp => (hk5_1 p hp).1) hs6_1 (hD6_1.trans (congrArg some (LCg.lst_snoc [] (.ref xT_1)))) (Nat.ne_of_gt lC9) (fun p hp => Nat.ne_of_lt (lDl p hp))
    have hfD_1 := fun (p : Addr × Obj) (hp : p ∈ fltB [Lg', C9] news5_1) => flt_list N5_1 (hk5_1 _ (.tail _ (.head _))).1 p (List.mem_filter.mpr ⟨(mem_fltB.mp hp).1, (mem_fltB.mp hp).2.1⟩)
    have Nf : News _ _ h6_1 (fltB [Lg', C9] news5_1) := fun p hp => ⟨hs6_1.extBut _ _ (hfD_1 p hp) (N5_1 p (mem_fltB.mp hp).1).1, (N5_1 p (mem_fltB.mp hp).1).2⟩
    have N7_1 : News _ _ _ (_ :: (D9, LCg.lst [.ref xT_1]) :: _) := retail N6_1 Nf
    have hCd_1 : @LT.lt Nat _ C9 dT_1 := fr5_1 (C9, oC3_1) (by repeat (first | exact mhd _ | refine mtl _ ?_)) (by simp)
    have hZn_1 : ∀ z ∈ [Lg', C9], NsIn al5_1 news5_1 z := by
      intro z hz
      simp only [List.mem_cons, List.not_mem_nil, or_false] at hz
      rcases hz with rfl | rfl
      · exact ⟨_, _, hGn_1.1, hnG_1, hGn_1.2⟩
      · exact ⟨_, _, (hk5_1 _ (.head _)).1, hC3_1, (hk5_1 _ (.head _)).2⟩
    have hdZ_1 : dT_1 ∉ [Lg', C9] := by
      intro hz
      simp only [List.mem_cons, List.not_mem_nil, or_false] at hz
      rcases hz with rfl | rfl
      · exact Nat.lt_irrefl _ hLd_1
      · exact Nat.lt_irrefl _ hCd_1
    have R7_1 := R5.regroup N5_1 hZn_1 R.ctx R.pin
    have T7_1 := TA5.regroup (news := news) N5_1 hZn_1 hdZ_1
    have NI6_1 : News _ _ h6_1 ((I', oI') :: own3_1) := fun p hp => ⟨hs6_1.extBut _ _ (by
      rcases List.mem_cons.mp hp with rfl | hp
      · exact Nat.ne_of_lt lI9
      · exact fun e => hZ3_1 p hp (e ▸ .tail _ (.tail _ (.head _)))) (N5_1 p (hki_1 p hp).1).1, (N5_1 p (hki_1 p hp).1).2⟩
    have hk5s_1 := hk5_1
    have hfn_1 : ∀ p ∈ news, @LT.lt Nat _ p.1 dT_1 := fun p hp => fr5_1 p (by repeat (first | exact hsub_1 p hp | refine mtl _ ?_)) (by simp)
    have hIal_1 := (hki_1 _ (.head _)).2
    have hLal_1 := hGn_1.2
    refine compLoop_turn ?_
    refine gen_item (A := (ktrTop dp un gd cn cs L a ccd cl outer).deeper _) (R := _) rfl ?room1_2 T'.nolimit F6_1 N7_1 NI6_1 (hGI _ (NI6_1 _ (.head _)).1) (by simp) feed3_1 (three_at F6_1 N7_1) (.head _) (.tail _ (.head _)) hZg (Nat.ne_of_gt hLgI') (Nat.ne_of_lt (Nat.lt_trans lI9 lC9)) hC3_1 ?off1_2 (List.forall_mem_cons.mpr ⟨NRI.ty (T := "list") rfl (by decide), (retail_all hnl (fun p hp => keepB_nri (mem_fltB.mp hp).2.1))⟩) rfl rfl (by decide) rfl ?hK1_2 (fun T9 s9 h => h)
    case room1_2 => ktr_room
    case off1_2 => exact List.forall_mem_cons.mpr ⟨⟨Nat.ne_of_gt (Nat.lt_trans hLgI' lI9), Nat.ne_of_lt lC9⟩, retail_all (Q := fun p => p.1 ≠ Lg' ∧ p.1 ≠ C9) (fun p hp => ⟨Nat.ne_of_lt (lG' p hp), Nat.ne_of_lt (Nat.lt_trans (lDl p hp) lC9)⟩) (fun p hp => ⟨fun e => (mem_fltB.mp hp).2.2 (by rw [e]; exact .head _), fun e => (mem_fltB.mp hp).2.2 (by rw [e]; exact .tail _ (.head _))⟩)⟩
    intro h3 tk3 gs3_2 v1 v2 own3_2 oC3_2 mC3_2 hP3 hC3_2 hx1 hx2 F3 N3_2 NI3_2 hZ3_2 hty3_2 hoG3 feed3_2
    obtain ⟨x9, y9, rfl, rfl⟩ : ∃ x y, v1 = .int _ x ∧ v2 = .int _ y := by
      rcases hP3 with ⟨hP3, _⟩ | ⟨_, hP3⟩; exact absurd hP3 (by decide); exact hP3
    have N4 := retail N3_2 NI3_2
    obtain ⟨nw_2, hnw_2⟩ : ∃ nw, nw = ((I', oI') :: own3_2) ++ (fltB [Lg', C9] news5_1 ++ news) := ⟨_, rfl⟩
    rw [← hnw_2] at N4
    have R4 : Rep w.params nw_2 _ _ _ _ _ := R7_1.mono (fun p hp => by rw [hnw_2]; exact List.mem_append.mpr (.inr hp))
    have W3_2 : Halt (News _ _ _ _) := (fun p hp => N3_2 p (retail_sub (fun p h => List.mem_append.mpr (.inr h)) p hp) : News _ _ _ (_ :: _ :: _ :: _ :: _ :: _ :: _ :: _ :: _ :: _ :: _ :: news))
    have WI3_2 : Halt (News _ _ _ _) := NI3_2
    have WT_2 : Halt (News _ _ _ (fltB [Lg', C9] news5_1 ++ news)) := Halt.of (fun p hp => N3_2 p (by simp only [List.mem_cons]; simp only [hp, or_true]))
    clear F6_1 N7_1 NI6_1 hk5_1 hki_1 N5_1
    clear N3_2 NI3_2
    k_steps
    unfold Halt
    k_dflt (refine' call_meth ?k1_2 ?k2_2 ?_)
    case k1_2 => k_asm
    case k2_2 => (first | exact mhd _ | exact mtl _ (mhd _) | exact mtl _ (mtl _ (mhd _)) | exact mtl _ (mtl _ (mtl _ (mhd _))) | exact mtl _ (mtl _ (mtl _ (mtl _ (mhd _)))) | exact mtl _ (mtl _ (mtl _ (mtl _ (mtl _ (mhd _))))) | exact mtl _ (mtl _ (mtl _ (mtl _ (mtl _ (mtl _ (mhd _)))))) | exact mtl _ (mtl _ (mtl _ (mtl _ (mtl _ (mtl _ (mtl _ (mhd _))))))) | exact mtl _ (mtl _ (mtl _ (mtl _ (mtl _ (mtl _ (mtl _ (mtl _ (mhd _)))))))) | exact mtl _ (mtl _ (mtl _ (mtl _ (mtl _ (mtl _ (mtl _ (mtl _ (mtl _ (mhd _))))))))) | exact mtl _ (mtl _ (mtl _ (mtl _ (mtl _ (mtl _ (mtl _ (mtl _ (mtl _ (mtl _ (mhd _)))))))))) | exact mtl _ (mtl _ (mtl _ (mtl _ (mtl _ (mtl _ (mtl _ (mtl _ (mtl _ (mtl _ (mtl _ (mhd _))))))))))) | exact mtl _ (mtl _ (mtl _ (mtl _ (mtl _ (mtl _ (mtl _ (mtl _ (mtl _ (mtl _ (mtl _ (mtl _ (mhd _)))))))))))) | exact mtl _ (mtl _ (mtl _ (mtl _ (mtl _ (mtl _ (mtl _ (mtl _ (mtl _ (mtl _ (mtl _ (mtl _ (mtl _ (mhd _))))))))))))))
    k_dflt (refine' c_init (i := 2) (fin := f3) ?B_2 ?F_2 ?X_2 ?N_2 ?T_2 ?hk_2 ?R_2 ?ml_2 ?hI_2 ?room_2 ?hu_2 ?_)
    case B_2 => k_asm
    case F_2 => k_asm
    case X_2 => k_asm
    case N_2 => k_asm
    case T_2 => k_asm
    case hk_2 => rfl
    case R_2 => exact R4.mono (by intro p9 hp9; repeat (first | exact hp9 | refine mtl _ ?_))
    case ml_2 => first | exact mhd _ | exact mtl _ (mhd _) | exact mtl _ (mtl _ (mhd _)) | exact mtl _ (mtl _ (mtl _ (mhd _)))
    case hI_2 => exact .inr ⟨_, _, _, rfl, by rw [hpts]; rfl, by rw [hpts]; rfl, by rw [hpts]; rfl, hrun3⟩
    case room_2 => ktr_room
    case hu_2 => ktr_units
    intro h5_2 tk5_2 news5_2 al5_2 xT_2 dT_2 lx_2 ld_2 rx_2 rd_2 F5 N5_2 R5 S5_2 TA5 ma_2 mb_2 fr5_2
    show wpAny _ _ (call (.builtin "list.append") [.ref D9, .ref xT_2]) _ _ _
    obtain ⟨oG_2, mG_2, hoG_2, hnG_2⟩ := hoG3
    have hsub_2 : ∀ p ∈ news, p ∈ nw_2 := fun p hp => by rw [hnw_2]; exact List.mem_append.mpr (.inr (List.mem_append.mpr (.inr hp)))
    have hk5_2 := step_keep S5_2 W3_2 (fun p hp => by have z := retail_sub hsub_2 p hp; repeat (first | exact z | refine mtl _ ?_)) (off_change hk5s_1 rfl rfl)
    have hki_2 := step_keep S5_2 WI3_2 (fun p hp => by
      have z : p ∈ nw_2 := by rw [hnw_2]; exact List.mem_append.mpr (.inl hp)
      repeat (first | exact z | refine mtl _ ?_)) (own_off R7_1 WT_2 WI3_2 hIal_1 hLal_1 hty3_2)
    have hGn_2 := hki_2 _ (.tail _ hoG_2)
    have hLd_2 : @LT.lt Nat _ Lg' dT_2 := fr5_2 (Lg', oG_2) (by
      have z : (Lg', oG_2) ∈ nw_2 := by rw [hnw_2]; exact List.mem_append.mpr (.inl (.tail _ hoG_2))
      repeat (first | exact z | refine mtl _ ?_)) hLal_1
    have hD5_2 := N5_2 _ (hk5_2 _ (.tail _ (.head _))).1
    refine append_at hD5_2.1 (fun h6_2 hs6_2 hD6_2 => ?_) (by simp [sizeLine_eq])
    have F6_2 := F5.change hs6_2 hD5_2.2.1 hD5_2.2.2
    have N6_2 := after_append (c := (C9, oC3_2)) N5_2 (fun p hp => (hk5_2 p hp).1) hs6_2 (hD6_2.trans (congrArg some (LCg.lst_snoc [.ref xT_1] (.ref xT_2)))) (Nat.ne_of_gt lC9) (fun p hp => Nat.ne_of_lt (lDl p hp))
    have hfD_2 := fun (p : Addr × Obj) (hp : p ∈ fltB [Lg', C9] news5_2) => flt_list N5_2 (hk5_2 _ (.tail _ (.head _))).1 p (List.mem_filter.mpr ⟨(mem_fltB.mp hp).1, (mem_fltB.mp hp).2.1⟩)
    have Nf : News _ _ h6_2 (fltB [Lg', C9] news5_2) := fun p hp => ⟨hs6_2.extBut _ _ (hfD_2 p hp) (N5_2 p (mem_fltB.mp hp).1).1, (N5_2 p (mem_fltB.mp hp).1).2⟩
    have N7_2 : News _ _ _ (_ :: (D9, LCg.lst [.ref xT_1, .ref xT_2]) :: _) := retail N6_2 Nf
    have hCd_2 : @LT.lt Nat _ C9 dT_2 := fr5_2 (C9, oC3_2) (by repeat (first | exact mhd _ | refine mtl _ ?_)) (hk5s_1 _ (.head _)).2
    have hZn_2 : ∀ z ∈ [Lg', C9], NsIn al5_2 news5_2 z := by
      intro z hz
      simp only [List.mem_cons, List.not_mem_nil, or_false] at hz
      rcases hz with rfl | rfl
      · exact ⟨_, _, hGn_2.1, hnG_2, hGn_2.2⟩
      · exact ⟨_, _, (hk5_2 _ (.head _)).1, hC3_2, (hk5_2 _ (.head _)).2⟩
    have hdZ_2 : dT_2 ∉ [Lg', C9] := by
      intro hz
      simp only [List.mem_cons, List.not_mem_nil, or_false] at hz
      rcases hz with rfl | rfl
      · exact Nat.lt_irrefl _ hLd_2
      · exact Nat.lt_irrefl _ hCd_2
    have R7_2 := R5.regroup N5_2 hZn_2 R.ctx R.pin
    have T7_2 := TA5.regroup (news := news) N5_2 hZn_2 hdZ_2
    have hT1o := T7_1.off R7_1 WT_2
    have T7_1b := ((T7_1.mono (fun p hp => by
      have z : p ∈ nw_2 := by rw [hnw_2]; exact List.mem_append.mpr (.inr hp)
      repeat (first | exact z | refine mtl _ ?_))).step S5_2 hT1o).regroup (news := news) N5_2 hZn_2 hdZ_1
    have hd12 : @LT.lt Nat _ dT_1 dT_2 := let ⟨o, ho⟩ := T7_1.td_mem; fr5_2 (dT_1, o) (by
      have z : (dT_1, o) ∈ nw_2 := by rw [hnw_2]; exact List.mem_append.mpr (.inr ho)
      repeat (first | exact z | refine mtl _ ?_)) hT1o.1
    have ma_1b := S5_2.up ma_1
    have mb_1b := S5_2.up mb_1
    have NI6_2 : News _ _ h6_2 ((I', oI') :: own3_2) := fun p hp => ⟨hs6_2.extBut _ _ (by
      rcases List.mem_cons.mp hp with rfl | hp
      · exact Nat.ne_of_lt lI9
      · exact fun e => hZ3_2 p hp (e ▸ .tail _ (.tail _ (.head _)))) (N5_2 p (hki_2 p hp).1).1, (N5_2 p (hki_2 p hp).1).2⟩
    have hk5s_2 := hk5_2
    have hfn_2 : ∀ p ∈ news, @LT.lt Nat _ p.1 dT_2 := fun p hp => fr5_2 p (by repeat (first | exact hsub_2 p hp | refine mtl _ ?_)) (hk5s_1 p (by repeat (first | exact hp | refine mtl _ ?_))).2
    have hIal_2 := (hki_2 _ (.head _)).2
    have hLal_2 := hGn_2.2
    refine compLoop_turn ?_
    refine gen_stop (A := (ktrTop dp un gd cn cs L a ccd cl outer).deeper _) rfl ?room2 T'.nolimit F6_2 N7_2 NI6_2 (hGI _ (NI6_2 _ (.head _)).1) ?gs2 feed3_2 (three_at F6_2 N7_2) (.head _) (.tail _ (.head _)) hZg hC3_2 ?off2 ?nri2 ?Q2
    case room2 => ktr_room
    case gs2 => simp
    case off2 => exact List.forall_mem_cons.mpr ⟨Nat.ne_of_gt (Nat.lt_trans hLgI' lI9), retail_all (fun p hp => Nat.ne_of_lt (lG' p hp)) (fun p hp e => (mem_fltB.mp hp).2.2 (e ▸ .head _))⟩
    case nri2 => exact List.forall_mem_cons.mpr ⟨NRI.ty (T := "list") rfl (by decide), retail_all hnl (fun p hp => keepB_nri (mem_fltB.mp hp).2.1)⟩
    case Q2 =>
      intro h8 tk8 F8 N8
      refine ⟨_, hC3_2.ns (N8 _ (.head _)).1, fun hz hsz => ?_⟩
      have Fz := F8.change hsz (N8 _ (.head _)).2.1 (N8 _ (.head _)).2.2
      have Nz := news_sub (fun p hp => N8 p (mtl _ hp)) (fun p hp => hsz.extBut p.1 p.2 ((List.forall_mem_cons (p := fun q : Addr × Obj => q.1 ≠ C9)).mpr ⟨Nat.ne_of_lt lC9, retail_all (Q := fun q => q.1 ≠ C9) (fun q hq => Nat.ne_of_lt (Nat.lt_trans (lDl q hq) lC9)) (fun q hq e => (mem_fltB.mp hq).2.2 (by rw [e]; exact .tail _ (.head _)))⟩ p hp) (N8 p (mtl _ hp)).1)
      have l1 := lDl
      (try k_lt l1)
      have hoff := off_ten (Z := [Lg', C9]) N5_2 (fun p hp => (hk5_2 p hp).1)
        (by repeat' (first | exact fun _ h => absurd h List.not_mem_nil | refine List.forall_mem_cons.mpr ⟨?_, ?_⟩ | exact keepB_cell (by assumption) | rfl))
        (by
          rename (_ ∧ _ ∧ _ ∧ _ ∧ _ ∧ _ ∧ _ ∧ _ ∧ LCg.Off1 _ news) => o19
          intro p hp q hq
          have z : @LT.lt Nat _ q.1 _ := lnws q hq
          simp only [List.mem_cons, List.not_mem_nil, or_false] at hp
          rcases hp with rfl | rfl | rfl | rfl | rfl | rfl | rfl | rfl | rfl | rfl <;> first | (exact off1_mem o19.2.2.2.2.2.2.2.2 q hq) | (refine Nat.ne_of_lt ?_; show @LT.lt Nat _ _ _; dsimp only; refine Nat.lt_trans z ?_; first | exact ltU1 | exact ltU2 | exact ltU3 | exact ltU4 | exact ltU5 | exact Nat.lt_trans ltU1 (ltA1 (by assumption)) | exact Nat.lt_trans ltU1 (ltA2 (by assumption)) | exact Nat.lt_trans ltU1 (ltA3 (by assumption)) | exact Nat.lt_trans ltU1 (ltA4 (by assumption)) | exact Nat.lt_trans ltU1 (ltA5 (by assumption)) | exact Nat.lt_trans ltU1 (ltA6 (by assumption)) | exact Nat.lt_trans ltU1 (ltA7 (by assumption)) | exact Nat.lt_trans ltU1 (ltA8 (by assumption)) | exact Nat.lt_trans ltU1 (ltA9 (by assumption)) | exact Nat.lt_trans ltU1 (ltA10 (by assumption)) | exact Nat.lt_trans ltU1 (ltA11 (by assumption)) | exact Nat.lt_trans ltU1 (ltA12 (by assumption))))
      obtain ⟨f1, f2, f3, f4, f5, f6, f7, f8, f9, f10⟩ := ten (K := fun q => ∀ (p : Addr × Obj), p ∈ fltB [Lg', C9] news5_2 ++ news → p.1 ≠ q.1) hoff
      dsimp only at f1 f2 f3 f4 f5 f6 f7 f8 f9 f10
      clear hoff
      obtain ⟨nw2, hnw2⟩ : ∃ nw2, nw2 = fltB [Lg', C9] news5_2 ++ news := ⟨_, rfl⟩
      rw [← hnw2] at Nz R7_2 T7_2 T7_1b f1 f2 f3 f4 f5 f6 f7 f8 f9 f10
      clear N8 F8
      clear hk5_2 hki_2 N5_2 N6_2 N7_2 Nf
      dsimp only
      k_steps
      unfold Halt
      refine' comp_halt ?hclosm ?hkindm ?hnamesm ?_
      case hclosm => with_unfolding_all rfl
      case hkindm => rfl
      case hnamesm => decide
      k_steps
      rename_i hRm FRm NRm hUm
      unfold Halt
      refine rng_start (by decide) rfl FRm NRm hRm (by decide) (fun I10 D10 C10 oC10 mC10 h10 tk10 F10 hC10 N10 lI10 lD10 lC10 => ?_)
      refine compLoop_turn ?_
      refine rng_item (K := _) (R := _) F10 N10 (by decide) (Nat.ne_of_lt (Nat.lt_trans lD10 lC10)) hC10 ?offm rfl rfl ?hKm (fun v9 s9 h => h)
      case offm => exact List.forall_mem_cons.mpr ⟨⟨Nat.ne_of_gt lD10, Nat.ne_of_lt lC10⟩, fun p hp => ⟨Nat.ne_of_lt (lI10 p hp), Nat.ne_of_lt (Nat.lt_trans (lI10 p hp) (Nat.lt_trans lD10 lC10))⟩⟩
      intro h11 tk11 t11 oC11 mC11 hC11 hx11 F11 N11
      k_steps
      unfold Halt
      have hinj := inj_of (pts := pts) (xy := xy) (n := 5) (by rw [hpts]; rfl) (by
        intro i j h1 h2
        have z := List.pairwise_iff_getElem.mp hnd i j (by simpa using Nat.lt_trans h1 h2) (by simpa using h2) h1
        have e : ∀ i (h : i < 5), ([(p0, xy 0), (p1, xy 1), (p2, xy 2), (p3, xy 3), (p4, xy 4)][i]'(by simpa using h)).2 = xy i := fun i h => match i, h with | 0, _ => rfl | 1, _ => rfl | 2, _ => rfl | 3, _ => rfl | 4, _ => rfl
        rw [e i (Nat.lt_trans h1 h2), e j h2] at z
        exact z)
      k_dflt (refine' g_merge ?Bm ?Fm ?Xm ?Nm ?Tm ?hkm ?Rm ?tm ?h1m ?h2m ?h3m ?h4m hinj ?hrunm ?roomm ?hum ?_)
      case Bm => k_asm
      case Fm => k_asm
      case Xm => k_asm
      case Nm => exact N11
      case Tm => k_asm
      case hkm => rfl
      case Rm => exact R7_2.mono (by intro p9 hp9; repeat (first | exact hp9 | refine mtl _ ?_))
      case tm => exact (⟨T7_1b, T7_2, Nat.ne_of_lt hd12⟩ : TP w.params nw2 _ _ _ _ _ _ _ _ _ _).mono (by intro p9 hp9; repeat (first | exact hp9 | refine mtl _ ?_))
      case h1m => exact ma_1b
      case h2m => exact mb_1b
      case h3m => exact ma_2
      case h4m => exact mb_2
      case hrunm => exact hrun
      case roomm => ktr_room
      case hum => ktr_units
      intro h12 tk12 news6 al6 xT dT lx ld rx rd F12 N12 R12 S12 T12 ma6 mb6 fr6
      show wpAny _ _ (call (.builtin "list.append") [.ref D10, .ref xT]) _ _ _
      rename (_ ∧ _ ∧ _ ∧ _ ∧ _ ∧ _ ∧ _ ∧ _ ∧ _ ∧ _ ∧ AllLt _ nw2) => li9
      have hI9 : ∀ p ∈ nw2, @LT.lt Nat _ p.1 I10 := fun p hp => lI10 p (by repeat (first | exact hp | refine mtl _ ?_))
      have hE := keep14 (merge_keep S12 R7_2 T7_1b T7_2) (by
        refine List.forall_mem_cons.mpr ⟨fun p hp => Nat.ne_of_lt (hI9 p hp), List.forall_mem_cons.mpr ⟨fun p hp => Nat.ne_of_lt (Nat.lt_trans (hI9 p hp) (Nat.lt_trans lD10 lC10)), List.forall_mem_cons.mpr ⟨fun p hp => Nat.ne_of_lt (Nat.lt_trans (hI9 p hp) lD10), List.forall_mem_cons.mpr ⟨fun p hp => Nat.ne_of_lt (tb_ltOf li9.2.2.2.2.2.2.2.2.2.2 p hp), ?_⟩⟩⟩⟩
        refine List.forall_mem_cons.mpr ⟨f1, ?_⟩
        refine List.forall_mem_cons.mpr ⟨f2, ?_⟩
        refine List.forall_mem_cons.mpr ⟨f3, ?_⟩
        refine List.forall_mem_cons.mpr ⟨f4, ?_⟩
        refine List.forall_mem_cons.mpr ⟨f5, ?_⟩
        refine List.forall_mem_cons.mpr ⟨f6, ?_⟩
        refine List.forall_mem_cons.mpr ⟨f7, ?_⟩
        refine List.forall_mem_cons.mpr ⟨f8, ?_⟩
        refine List.forall_mem_cons.mpr ⟨f9, ?_⟩
        refine List.forall_mem_cons.mpr ⟨f10, ?_⟩
        exact fun _ h => absurd h List.not_mem_nil)
      have hnw : ∀ p ∈ news, p ∈ nw2 := fun p hp => by rw [hnw2]; exact List.mem_append.mpr (.inr hp)
      have hna : ∀ p ∈ news, p.1 ∉ al5_2.map (·.2) := fun p hp => (hk5s_2 p (by repeat (first | exact hp | refine mtl _ ?_))).2
      have hnt : ∀ p ∈ news, p.1 ∉ [dT_1, dT_2] := fun p hp hm => by
        simp only [List.mem_cons, List.not_mem_nil, or_false] at hm
        rcases hm with e | e
        · exact absurd e (Nat.ne_of_lt (hfn_1 p hp))
        · exact absurd e (Nat.ne_of_lt (hfn_2 p hp))
      have hkn : ∀ p ∈ news, p ∈ news6 ∧ p.1 ∉ al6.map (·.2) := fun p hp => S12.2 p (by repeat (first | exact hnw p hp | refine mtl _ ?_)) (hna p hp) (hnt p hp)
      have hD12 := N12 _ (hE _ (.tail _ (.tail _ (.head _)))).1
      have hfD := flt_ne (Z := [C10]) N12 (hE _ (.tail _ (.tail _ (.head _)))).1 rfl
      have hfI := flt_ne (Z := [C10]) N12 (hE _ (.head _)).1 rfl
      have hC12 := merge_off R7_2 T7_1b T7_2 (q := C10) (fun p hp => Nat.ne_of_lt (Nat.lt_trans (hI9 p hp) (Nat.lt_trans lD10 lC10)))
      have hCd12 : @LT.lt Nat _ C10 dT := fr6 (C10, oC11) (.tail _ (.head _)) hC12.1 hC12.2
      have hin : ∀ p ∈ fltB [C10] news6 ++ news, p ∈ news6 := fun p hp => (List.mem_append.mp hp).elim (fun h => (mem_fltB.mp h).1) (fun h => (hkn p h).1)
      refine append_at hD12.1 (fun h13 hs13 hD13 => ?_) (by simp [sizeLine_eq])
      have F13 := F12.change hs13 hD12.2.1 hD12.2.2
      have lI11 := sub11 (Q := fun p => @LT.lt Nat _ p.1 I10) lI10 hnw
      have N13 := after_app3 (a := (I10, _)) (c := (C10, oC11)) (o' := LCg.lst [.ref xT]) N12 (mem14 (fun p hp => (hE p hp).1) hin) hs13 (hD13.trans (congrArg some (LCg.lst_snoc [] (.ref xT)))) (Nat.ne_of_lt lD10) (Nat.ne_of_gt lC10) (retail11 (fun p hp => Nat.ne_of_lt (Nat.lt_trans (lI11 p hp) lD10)) hfD)
      refine compLoop_turn ?_
      refine rng_end rfl F13 N13 (by decide) ?offe (fun h14 F14 N14 => ?_)
      case offe => exact List.forall_mem_cons.mpr ⟨Nat.ne_of_gt (Nat.lt_trans lD10 lC10), List.forall_mem_cons.mpr ⟨Nat.ne_of_gt lD10, retail11 (fun p hp => Nat.ne_of_lt (lI11 p hp)) hfI⟩⟩
      refine ⟨_, hC11.ns (N14 _ (.head _)).1, fun hz2 hsz2 => ?_⟩
      have Fz2 := F14.change hsz2 (N14 _ (.head _)).2.1 (N14 _ (.head _)).2.2
      have Nz2 := news_sub (fun p hp => N14 p (mtl _ hp)) (fun p hp => hsz2.extBut p.1 p.2 ((List.forall_mem_cons (p := fun q : Addr × Obj => q.1 ≠ C10)).mpr ⟨Nat.ne_of_lt lC10, retail11 (Q := fun q => q.1 ≠ C10) (fun q hq => Nat.ne_of_lt (Nat.lt_trans (lI11 q hq) (Nat.lt_trans lD10 lC10))) (fun q hq e => (mem_fltB.mp hq).2.2 (by rw [e]; exact .head _))⟩ p hp) (N14 p (mtl _ hp)).1)
      have hZn6 : ∀ z ∈ [C10], NsIn al6 news6 z := fun z hz => by
        rw [List.mem_singleton.mp hz]; exact ⟨_, _, (hE _ (.tail _ (.head _))).1, hC11, (hE _ (.tail _ (.head _))).2⟩
      have R8 := R12.regroup N12 hZn6 R.ctx R.pin
      have T8 := T12.regroup (news := news) N12 hZn6 (by intro hzz; rw [List.mem_singleton.mp hzz] at hCd12; exact Nat.lt_irrefl _ hCd12)
      have b9 : ∀ (p : Addr × Obj), p ∈ fltB [C10] news6 ++ news → p.1 ≠ _ := fun p hp => (List.mem_append.mp hp).elim (flt_ne N12 (hE _ (.tail _ (.tail _ (.tail _ (.tail _ (.tail _ (.tail _ (.tail _ (.tail _ (.tail _ (.head _))))))))))).1 (keepB_cell (by assumption)) p) (fun h => Nat.ne_of_lt (Nat.lt_trans (lnws p h) (by show @LT.lt Nat _ _ _; omega)))
      have b10 : ∀ (p : Addr × Obj), p ∈ fltB [C10] news6 ++ news → p.1 ≠ _ := fun p hp => (List.mem_append.mp hp).elim (flt_ne N12 (hE _ (.tail _ (.tail _ (.tail _ (.tail _ (.tail _ (.tail _ (.tail _ (.tail _ (.tail _ (.tail _ (.head _)))))))))))).1 (keepB_cell (by assumption)) p) (fun h => Nat.ne_of_lt (Nat.lt_trans (lnws p h) (by show @LT.lt Nat _ _ _; omega)))
      have b11 : ∀ (p : Addr × Obj), p ∈ fltB [C10] news6 ++ news → p.1 ≠ _ := fun p hp => (List.mem_append.mp hp).elim (flt_ne N12 (hE _ (.tail _ (.tail _ (.tail _ (.tail _ (.tail _ (.tail _ (.tail _ (.tail _ (.tail _ (.tail _ (.tail _ (.head _))))))))))))).1 (keepB_cell (by assumption)) p) (fun h => Nat.ne_of_lt (Nat.lt_trans (lnws p h) (by show @LT.lt Nat _ _ _; omega)))
      have b12 : ∀ (p : Addr × Obj), p ∈ fltB [C10] news6 ++ news → p.1 ≠ _ := fun p hp => (List.mem_append.mp hp).elim (flt_ne N12 (hE _ (.tail _ (.tail _ (.tail _ (.tail _ (.tail _ (.tail _ (.tail _ (.tail _ (.tail _ (.tail _ (.tail _ (.tail _ (.head _)))))))))))))).1 (keepB_cell (by assumption)) p) (fun h => Nat.ne_of_lt (Nat.lt_trans (lnws p h) (by show @LT.lt Nat _ _ _; omega)))
      have b13 : ∀ (p : Addr × Obj), p ∈ fltB [C10] news6 ++ news → p.1 ≠ _ := fun p hp => (List.mem_append.mp hp).elim (flt_ne N12 (hE _ (.tail _ (.tail _ (.tail _ (.tail _ (.tail _ (.tail _ (.tail _ (.tail _ (.tail _ (.tail _ (.tail _ (.tail _ (.tail _ (.head _))))))))))))))).1 (keepB_cell (by assumption)) p) (fun h => Nat.ne_of_lt (Nat.lt_trans (lnws p h) (by show @LT.lt Nat _ _ _; omega)))
      have hi9 : ∀ (p : Addr × Obj), p ∈ fltB [C10] news6 ++ news → p.1 ≠ _ := fun p hp => (List.mem_append.mp hp).elim (flt_ne N12 (hE _ (.tail _ (.tail _ (.tail _ (.head _))))).1 rfl p) (fun h => Nat.ne_of_lt (tb_ltOf li9.2.2.2.2.2.2.2.2.2.2 p (hnw p h)))
      dsimp only at hi9 b9 b10 b11 b12 b13
      obtain ⟨nw3, hnw3⟩ : ∃ nw3, nw3 = fltB [C10] news6 ++ news := ⟨_, rfl⟩
      rw [← hnw3] at Nz2 R8 T8 hi9 b9 b10 b11 b12 b13
      have l10 := lI10
      (try k_lt l10)
      have hfr6 : ∀ p ∈ news, @LT.lt Nat _ p.1 dT := fun p hp => fr6 p (by repeat (first | exact hnw p hp | refine mtl _ ?_)) (hna p hp) (hnt p hp)
      clear N14 N13 N12 F14 F13 F12 hE hfD hfI hin lI11
      dsimp only
      k_steps
      rename (News _ _ _ (_ :: _)) => NZ
      rename (Fr _ _ _ _) => FZ
      refine unr_end4 FZ NZ ?offz ?restz
      case offz =>
        repeat' (first | exact hi9 | refine List.forall_mem_cons.mpr ⟨?_, ?_⟩ | k_ne | (refine Nat.ne_of_lt ?_; show @LT.lt Nat _ _ _; dsimp only; omega) | (refine Nat.ne_of_gt ?_; show @LT.lt Nat _ _ _; dsimp only; omega))
      case restz =>
        k_steps
        refine' ret _ _ nw3 al6 _ xT dT lx ld rx rd ?Fz ?Nz R8 ?Sz T8 ma6 mb6 hfr6 ?nriz ?barez
        case Fz => assumption
        case Nz => exact fun p9 hp9 => ‹News h₀ L _ _› p9 (by first | assumption | exact mcm _ hp9 | (repeat (first | exact hp9 | refine mcm _ ?_)))
        case Sz => exact ⟨fun i x h => by simp at h, fun p hp _ => ⟨by rw [hnw3]; exact List.mem_append.mpr (.inr hp), (hkn p hp).2⟩⟩
        case nriz => exact nri_out hnw3 hnri
        case barez => exact bare_out2) := trivial
  unfold id at h9; exact h9.get
example : True := by
  w_top off
  trivial
noncomputable abbrev tupObj (x : Int) (t : Tok) (y : Int) (u : Tok) : Obj := { cls := .type "tuple", data := .seq #[.int x t, .int y u] }
noncomputable def TupAt (news : List (Addr × Obj)) (a : Addr) (p : Int × Int) : Prop := ∃ t u, (a, tupObj p.1 t p.2 u) ∈ news
theorem TupAt.mono {news news' : List (Addr × Obj)} {a : Addr} {p : Int × Int} (h : TupAt news a p) (hs : ∀ q ∈ news, q ∈ news') : TupAt news' a p := let ⟨t, u, m⟩ := h; ⟨t, u, hs _ m⟩
theorem TupAt.inj {h₀ h : Heap} {L a : Addr} {news : List (Addr × Obj)} {p q : Int × Int} (N : News h₀ L h news) (ha : TupAt news a p) (hb : TupAt news a q) : p = q := by
  obtain ⟨t1, u1, m1⟩ := ha
  obtain ⟨t2, u2, m2⟩ := hb
  have y1 := (N _ m1).1
  have y2 := (N _ m2).1
  rw [y1] at y2
  injection (Option.some.inj y2) with _ _ z _
  injection z with z _
  have z2 := congrArg Array.toList z
  simp only [List.cons.injEq, Value.int.injEq, and_true] at z2
  exact Prod.ext z2.1.1 z2.2.1
theorem eqAt_int {A : Around} {s : Shared} {x y : Int} {t u : Tok} : SeqAt.EqAt A s (.int x t) (.int y u) (x == y) := fun prog w E Q hq => wpAny_eqBool_int hq
theorem TupAt.tup {h₀ h : Heap} {L a : Addr} {news : List (Addr × Obj)} {p : Int × Int} (N : News h₀ L h news) (ha : TupAt news a p) : ∃ t u, h.IsTuple a #[.int p.1 t, .int p.2 u] := let ⟨t, u, m⟩ := ha; ⟨t, u, ⟨_, (N _ m).1, rfl, _, rfl⟩⟩
theorem tup_eqAt {A : Around} {s : Shared} {h₀ : Heap} {L pa pb : Addr} {news : List (Addr × Obj)} {p q : Int × Int} (hu : A.units < cLine) (N : News h₀ L s.heap news) (ha : TupAt news pa p) (hb : TupAt news pb q) : SeqAt.EqAt A s (.ref pa) (.ref pb) (decide (p = q)) := by
  by_cases hab : pa = pb
  · subst hab
    rw [decide_eq_true (TupAt.inj N ha hb)]
    exact SeqAt.EqAt.same _
  · obtain ⟨t1, u1, m1⟩ := ha.tup N
    obtain ⟨t2, u2, m2⟩ := hb.tup N
    have z := SeqAt.RcAt.tuples m1 m2 hu (e := fun j => match j with | 0 => p.1 == q.1 | _ => p.2 == q.2) (fun j h1 h2 => by
      match j, h1, h2 with
      | 0, _, _ => exact eqAt_int
      | 1, _, _ => exact eqAt_int
      | j + 2, h1, _ => exact absurd h1 (by simp))
    have e : (((List.range (min (#[Value.int p.1 t1, Value.int p.2 u1] : Array Value).size (#[Value.int q.1 t2, Value.int q.2 u2] : Array Value).size)).all fun j => match j with | 0 => p.1 == q.1 | _ => p.2 == q.2) && (#[Value.int p.1 t1, Value.int p.2 u1] : Array Value).size == (#[Value.int q.1 t2, Value.int q.2 u2] : Array Value).size) = decide (p = q) := by
      show (((List.range 2).all fun j => match j with | 0 => p.1 == q.1 | _ => p.2 == q.2) && true) = decide (p = q)
      rw [show List.range 2 = [0, 1] from rfl]
      by_cases h : p = q
      · subst h; simp
      · rw [decide_eq_false h]
        simp only [List.all_cons, List.all_nil, Bool.and_true]
        by_cases h1 : p.1 = q.1
        · have h2 : ¬ p.2 = q.2 := fun h2 => h (Prod.ext h1 h2)
          simp [h2]
        · simp [h1]
    rw [e] at z
    exact SeqAt.EqAt.of_refs hab z
noncomputable def hitB (ps : List PP) (p : Int × Int) : Bool := ps.any fun q => decide (q.2 = p)
section
variable {prog : Program} {w : World} {A : Around} {E : Value → Shared → Prop} {s : Shared}
theorem any_hit {ps : List PP} {p : Int × Int} {news : List (Addr × Obj)} {h₀ h : Heap} {L : Addr} (N : News h₀ L h news) (hp : ∀ q ∈ ps, TupAt news q.1 q.2) :
    ∃ e : Value → Bool, (∀ q ∈ ps, e (.ref q.1) = decide (q.2 = p)) ∧ (refs ps).toArray.any e = hitB ps p := by
  refine ⟨fun v => ps.any fun q => decide (v = .ref q.1) && decide (q.2 = p), fun q hq => ?_, ?_⟩
  · by_cases h : q.2 = p
    · rw [decide_eq_true h]
      exact List.any_eq_true.mpr ⟨q, hq, by simp [h]⟩
    · rw [decide_eq_false h]
      refine List.any_eq_false.mpr fun q' hq' => ?_
      intro z
      simp only [Bool.and_eq_true, decide_eq_true_eq] at z
      have ea : q.1 = q'.1 := Value.ref.inj z.1
      exact h ((TupAt.inj N (hp q hq) (ea ▸ hp q' hq')).trans z.2)
  · unfold hitB refs
    rw [Bool.eq_iff_iff]
    simp only [List.any_toArray, List.any_map, List.any_eq_true, Function.comp, Bool.and_eq_true, decide_eq_true_eq]
    constructor
    · rintro ⟨q, hq, q', hq', _, e⟩
      exact ⟨q', hq', e⟩
    · rintro ⟨q, hq, e⟩
      exact ⟨q, hq, q, hq, rfl, e⟩
theorem notin_tups {h₀ : Heap} {L l pa : Addr} {news : List (Addr × Obj)} {ps : List PP} {k : Nat} {p : Int × Int} {Q : Value → Shared → Prop}
    (hu : A.units + 1 < cLine) (N : News h₀ L s.heap news) (ml : (l, W.listOf (refs ps).toArray k) ∈ news) (hp : ∀ q ∈ ps, TupAt news q.1 q.2) (ha : TupAt news pa p) (h : Q (.bool (!hitB ps p)) s) : wpAny (model prog w) A (compareOp .NotIn (.ref pa) (.ref l)) Q E s := by
  obtain ⟨e, he, ha2⟩ := any_hit (p := p) N hp
  refine SeqAt.notIn_listAt e (listAt N ml) (fun y hy => ?_) (by rw [ha2]; exact h)
  simp only [refs, List.mem_toArray, List.mem_map] at hy
  obtain ⟨q, hq, rfl⟩ := hy
  rw [he q hq]
  exact tup_eqAt (by rw [units_in1]; omega) N (hp q hq) ha
theorem tup_keyLt {h₀ : Heap} {L pa pb : Addr} {news : List (Addr × Obj)} {p q : Int × Int} {Q : Bool → Shared → Prop} (N : News h₀ L s.heap news) (ha : TupAt news pa p) (hb : TupAt news pb q) (h : Q (lxB p q) s) : wpAny (model prog w) A (keyLt' (tuples' true) (.ref pa) (.ref pb)) Q E s := by
  obtain ⟨t1, u1, m1⟩ := ha
  obtain ⟨t2, u2, m2⟩ := hb
  refine kat_lt (N _ m1).1 rfl (N _ m2).1 rfl ?_
  show KatLex _ _ _ _ _ _ [(Value.int p.1 t1, Value.int q.1 t2), (Value.int p.2 u1, Value.int q.2 u2)] 0 s
  refine kat_cons (wpAny_eqBool_int ?_)
  by_cases h1 : p.1 = q.1
  · rw [beq_iff_eq.mpr h1]
    refine kat_yes (kat_cons (wpAny_eqBool_int ?_))
    by_cases h2 : p.2 = q.2
    · rw [beq_iff_eq.mpr h2]
      refine kat_yes (kat_nil ?_)
      have z : lxB p q = false := lxB_00 h1 h2
      rw [z] at h
      exact h
    · rw [beq_eq_false_iff_ne.mpr h2]
      refine kat_no ?_
      show wpAny _ _ (oneLt' false _ _) _ _ _
      refine kat_one _ _ ?_
      have z : lxB p q = decide (p.2 < q.2) := lxB_eq h1
      rw [z] at h
      exact wpAny_lt_int h
  · rw [beq_eq_false_iff_ne.mpr h1]
    refine kat_no ?_
    show wpAny _ _ (oneLt' true _ _) _ _ _
    have z : lxB p q = decide (p.1 < q.1) := lxB_ne h1
    rw [z] at h
    exact oneLt_int h
theorem katTups {h₀ : Heap} {L : Addr} {news : List (Addr × Obj)} (N : News h₀ L s.heap news) : ∀ (ps : List PP), (∀ q ∈ ps, TupAt news q.1 q.2) → ∃ fs : List Value, fs.length = ps.length ∧ KatTups s.heap (refs ps) fs ∧ ∀ v ∈ fs, ∃ x t, v = .int x t
  | [], _ => ⟨[], rfl, KatTups.nil, fun _ h => absurd h List.not_mem_nil⟩
  | q :: ps, h => by
    obtain ⟨fs, h1, h2, h3⟩ := katTups N ps fun z hz => h z (.tail _ hz)
    obtain ⟨t, u, mm⟩ := h q (.head _)
    exact ⟨.int q.2.1 t :: fs, by simp [h1], KatTups.cons (N _ mm).1 rfl rfl rfl h2, fun v hv => by
      rcases List.mem_cons.mp hv with rfl | hv
      · exact ⟨_, _, rfl⟩
      · exact h3 v hv⟩
noncomputable def encP (p : Int × Int) : Int := p.1 * 32 + p.2
noncomputable def Small (p : Int × Int) : Prop := 0 ≤ p.1 ∧ p.1 < 23 ∧ 0 ≤ p.2 ∧ p.2 < 23
theorem enc_lt {p q : Int × Int} (hp : Small p) (hq : Small q) : decide (encP p < encP q) = lxB p q := by
  unfold encP Small at *
  by_cases h : p.1 < q.1 ∨ (p.1 = q.1 ∧ p.2 < q.2)
  · rw [show lxB p q = true from decide_eq_true h]; exact decide_eq_true (by omega)
  · rw [show lxB p q = false from decide_eq_false h]; exact decide_eq_false (by omega)
theorem enc_inj {p q : Int × Int} (hp : Small p) (hq : Small q) (h : encP p = encP q) : p = q := by
  unfold encP Small at *
  exact Prod.ext (by omega) (by omega)
noncomputable def p0P : PP := (0, (0, 0))
theorem sorted_tups {h₀ : Heap} {L l : Addr} {m : Str → Option Value} {news : List (Addr × Obj)} {ps : List PP} {k0 : Nat} {Q : Value → Shared → Prop}
    (F : Fr h₀ L s.heap m) (N : News h₀ L s.heap news) (ml : (l, W.listOf (refs ps).toArray k0) ∈ news) (hp : ∀ q ∈ ps, TupAt news q.1 q.2) (hnd : ps.Pairwise fun a b => a.2 ≠ b.2) (hr : ∀ q ∈ ps, Small q.2) (h2 : 2 ≤ ps.length) (h64 : ps.length < 64)
    (h : ∀ D c h' ps', ps'.Perm ps → ps'.Pairwise (fun a b => lxB a.2 b.2 = true) → Fr h₀ L h' m → News h₀ L h' ((D, W.listOf (refs ps').toArray c) :: news) → (∀ q ∈ news, q.1 < D) → Q (.ref D) { s with heap := h' }) :
    wpAny (model prog w) A (call (.builtin "sorted") [.ref l]) Q E s := by
  obtain h9 : Tag9 (P := wpAny (model prog w) A (call (.builtin "sorted") [.ref l]) Q E s) (by
    have hlen : (refs ps).length = ps.length := refs_length ps
    refine kat_sorted F N (listAt N ml) (by rw [hlen]; exact h2) (by rw [hlen]; exact h64) (fun D e1' h' F' N' l1 => ?_)
    have N2 : News h₀ L ({ s with heap := h' } : Shared).heap news := fun p hp' => N' p (mtl _ hp')
    obtain ⟨fs, e1, e2, e3⟩ := katTups (s := { s with heap := h' }) N2 ps hp
    refine kat_kind (T := .type "int") e2 (by rw [e1]; exact Nat.lt_of_lt_of_le (by decide) h2) (fun v hv => ?_) (by decide) ?_
    · obtain ⟨x, t, rfl⟩ := e3 v hv
      exact Looks.now
    show ((kas_sort (refs ps).length).kasWp (kas_ask prog w A.in1.in1 (tuples' true) (refs ps)) _ _)
    rw [hlen]
    have hget : ∀ i, i < ps.length → (refs ps).getD i Value.none = .ref (ps.getD i p0P).1 := fun i hi => by simp [refs, List.getD, hi]
    have hmem : ∀ i, i < ps.length → ps.getD i p0P ∈ ps := fun i hi => by simp [List.getD, hi]
    refine sort_ok (key := fun i => encP (ps.getD i p0P).2) (fun i j C hi hj hC => ?_) (Nat.lt_of_lt_of_le (by decide) h2) (fun i j hi hj e => ?_) (fun p g ho => ?_)
    · unfold kas_ask
      rw [hget i hi, hget j hj]
      refine tup_keyLt N2 (hp _ (hmem i hi)) (hp _ (hmem j hj)) ?_
      rw [← enc_lt (hr _ (hmem i hi)) (hr _ (hmem j hj))]
      exact hC
    · have z := enc_inj (hr _ (hmem i hi)) (hr _ (hmem j hj)) e
      rcases Nat.lt_trichotomy i j with q | q | q
      · exact absurd z (by simpa [List.getD, hi, hj] using List.pairwise_iff_getElem.mp hnd i j hi hj q)
      · exact q
      · exact absurd z.symm (by simpa [List.getD, hi, hj] using List.pairwise_iff_getElem.mp hnd j i hj hi q)
    · have hsz := g.size
      have hlt := fun i => g.lt (Nat.lt_of_lt_of_le (by decide) h2 : 0 < ps.length) i
      have hout : (p.toList.map fun i => (refs ps).getD i Value.none) = refs (p.toList.map fun i => ps.getD i p0P) := by
        unfold refs
        rw [List.map_map]
        refine List.map_congr_left fun i hi => ?_
        have : i < ps.length := List.mem_range.mp (g.mem_iff.mp hi)
        exact hget i this
      rw [hout]
      refine KasFin.intro (g := fun o => (D, o) :: news) F' N' (UpdF.head fun p hp => Nat.ne_of_lt (l1 p hp)) fun h'' c F'' N'' => h D c h'' _ ?_ ?_ F'' N'' l1
      · have z := g.map fun i => ps.getD i p0P
        have e : (List.range ps.length).map (fun i => ps.getD i p0P) = ps := by
          apply List.ext_getElem?
          intro i
          rw [List.getElem?_map]
          by_cases hi : i < ps.length
          · simp [hi]
          · simp [hi]
        rw [e] at z
        exact z
      · have tr : ∀ d i, i + d + 1 < ps.length → KQ (fun i => encP (ps.getD i p0P).2) p i < KQ (fun i => encP (ps.getD i p0P).2) p (i + d + 1) := by
          intro d
          induction d with
          | zero => exact fun i hi => ho (i + 1) (Nat.succ_pos _) hi
          | succ d ih => exact fun i hi => Int.lt_trans (ih i (Nat.lt_of_succ_lt hi)) (ho (i + (d + 1) + 1) (Nat.succ_pos _) hi)
        refine List.pairwise_iff_getElem.mpr fun i j hi hj hij => ?_
        simp only [List.length_map, Array.length_toList] at hi hj
        simp only [List.getElem_map, Array.getElem_toList]
        have ej : i + (j - i - 1) + 1 = j := by rw [Nat.add_assoc, Nat.sub_add_cancel (Nat.sub_pos_of_lt hij), Nat.add_sub_cancel' (Nat.le_of_lt hij)]
        have z := tr (j - i - 1) i (by rw [ej, ← hsz]; exact hj)
        rw [ej] at z
        have a1 : p.getD i 0 = p[i] := by simp [Array.getD, hi]
        have a2 : p.getD j 0 = p[j] := by simp [Array.getD, hj]
        unfold KQ at z
        rw [a1, a2] at z
        have b1 := hlt i
        have b2 := hlt j
        rw [a1] at b1
        rw [a2] at b2
        rw [← enc_lt (hr _ (hmem _ b1)) (hr _ (hmem _ b2))]
        exact decide_eq_true z) := trivial
  unfold id at h9; exact h9.get
end
example : True := by
  w_top off
  trivial
noncomputable def GJ (y1 y2 y3 : Str) (v1 v2 v3 : Value) (r : Addr) (G : Nat → List PP → Prop) (news : List (Addr × Obj)) (i : Nat) (m₁ : Str → Option Value) (nx : List (Addr × Obj)) : Prop :=
  m₁ y1 = some v1 ∧ m₁ y2 = some v2 ∧ m₁ y3 = some v3 ∧ (∃ ps c, (r, W.listOf (refs ps).toArray c) ∈ nx ∧ (∀ q ∈ ps, TupAt nx q.1 q.2) ∧ G i ps) ∧ ∀ p ∈ news, p ∈ nx
noncomputable def GP (h₀ : Heap) (L : Addr) (y1 y2 y3 : Str) (v1 v2 v3 : Value) (r : Addr) (G' : List PP → Prop) (ps : List PP) (rest own : List (Addr × Obj)) (s₁ : Shared) (f : Flow) (s₂ : Shared) : Prop :=
  match f with
  | .ret _ => False
  | .brk => False
  | _ => ∃ h' tk m' news' c, s₂ = { s₁ with heap := h', toks := tk } ∧ Fr h₀ L h' m' ∧ m' y1 = some v1 ∧ m' y2 = some v2 ∧ m' y3 = some v3 ∧ News h₀ L h' news' ∧ (∀ p ∈ rest, p ∈ news') ∧
      (((r, W.listOf (refs ps).toArray c) ∈ news' ∧ G' ps) ∨ ∃ T p, (r, W.listOf (refs (ps ++ [(T, p)])).toArray c) ∈ news' ∧ TupAt news' T p ∧ (∀ q ∈ own, q.1 ≠ T) ∧ G' (ps ++ [(T, p)]))
theorem GP.same {h₀ h' : Heap} {L r : Addr} {y1 y2 y3 : Str} {v1 v2 v3 : Value} {G' : List PP → Prop} {ps : List PP} {rest own news' : List (Addr × Obj)} {s₁ : Shared} {m' : Str → Option Value} {tk c : Nat} (F : Fr h₀ L h' m') (N : News h₀ L h' news') (h1 : m' y1 = some v1) (h2 : m' y2 = some v2) (h3 : m' y3 = some v3)
    (hs : ∀ p ∈ rest, p ∈ news') (hr : (r, W.listOf (refs ps).toArray c) ∈ news') (hg : G' ps) : GP h₀ L y1 y2 y3 v1 v2 v3 r G' ps rest own s₁ .next { s₁ with heap := h', toks := tk } := ⟨h', tk, m', news', c, rfl, F, h1, h2, h3, N, hs, .inl ⟨hr, hg⟩⟩
theorem GP.more {h₀ h' : Heap} {L r T : Addr} {y1 y2 y3 : Str} {v1 v2 v3 : Value} {G' : List PP → Prop} {ps : List PP} {p : Int × Int} {rest own news' : List (Addr × Obj)} {s₁ : Shared} {m' : Str → Option Value} {tk c : Nat} (F : Fr h₀ L h' m') (N : News h₀ L h' news') (h1 : m' y1 = some v1) (h2 : m' y2 = some v2) (h3 : m' y3 = some v3)
    (hs : ∀ p ∈ rest, p ∈ news') (hr : (r, W.listOf (refs (ps ++ [(T, p)])).toArray c) ∈ news') (ht : TupAt news' T p) (ho : ∀ q ∈ own, q.1 ≠ T) (hg : G' (ps ++ [(T, p)])) : GP h₀ L y1 y2 y3 v1 v2 v3 r G' ps rest own s₁ .next { s₁ with heap := h', toks := tk } :=
  ⟨h', tk, m', news', c, rfl, F, h1, h2, h3, N, hs, .inr ⟨T, p, hr, ht, ho, hg⟩⟩
theorem list_ne_tup {h₀ h : Heap} {L a r : Addr} {its : Array Value} {c : Nat} {l : List (Addr × Obj)} {x y : Int} {t u : Tok} (N : News h₀ L h l) (h1 : (r, W.listOf its c) ∈ l) (h2 : (a, tupObj x t y u) ∈ l) : a ≠ r := by
  rintro rfl
  have y1 := (N _ h1).1
  rw [(N _ h2).1] at y1
  have e := congrArg Obj.cls (Option.some.inj y1)
  exact absurd e (show ¬ Value.type "tuple" = Value.type "list" from by decide)
theorem gj_turn {M : Model} {A : Around} {E : Value → Shared → Prop} {s : Shared} {h₀ h : Heap} {L r : Addr} {x y1 y2 y3 : Str} {v1 v2 v3 v : Value} {G : Nat → List PP → Prop} {news nx own : List (Addr × Obj)} {i tk : Nat} {m₁ : Str → Option Value} {t : Sem Flow} {Q : Flow → Shared → Prop}
    (hoff : OwnOff own (nx.map (·.1))) (hJ : GJ y1 y2 y3 v1 v2 v3 r G news i m₁ nx) (F : Fr h₀ L h (fun z => if z = x then some v else m₁ z)) (N : News h₀ L h (nx ++ own)) (hnr : ∀ p ∈ news, p.1 ≠ r) (hx1 : y1 ≠ x) (hx2 : y2 ≠ x) (hx3 : y3 ≠ x)
    (turn : ∀ ps c (u : Str → Option Value) rest, G i ps → Fr h₀ L h (fun z => if z = x then some v else if z = y1 then some v1 else if z = y2 then some v2 else if z = y3 then some v3 else u z) → News h₀ L h ((r, W.listOf (refs ps).toArray c) :: rest) → (∀ p ∈ rest, p.1 ≠ r) → (∀ q ∈ ps, TupAt rest q.1 q.2) → (∀ p ∈ news, p ∈ rest) → (∀ p ∈ own, p ∈ rest) → (∀ p ∈ rest, p ∈ nx ∨ p ∈ own) →
      wpAny M A t (GP h₀ L y1 y2 y3 v1 v2 v3 r (G (i + 1)) ps rest own { s with heap := h, toks := tk }) E { s with heap := h, toks := tk }) :
    wpAny M A t (InvPostG h₀ L (GJ y1 y2 y3 v1 v2 v3 r G news (i + 1)) own { s with heap := h, toks := tk } Q) E { s with heap := h, toks := tk } := by
  obtain ⟨e1, e2, e3, ⟨ps, c, hr, hp, hg⟩, hn⟩ := hJ
  have hown : ∀ p ∈ own, p.1 ≠ r := fun p hp e => hoff p hp r (List.mem_map.mpr ⟨_, hr, rfl⟩) e
  have er : (fun z => if z = x then some v else if z = y1 then some v1 else if z = y2 then some v2 else if z = y3 then some v3 else m₁ z) = fun z => if z = x then some v else m₁ z := by
    funext z
    by_cases h0 : z = x
    · simp [h0]
    by_cases h1 : z = y1
    · subst h1; simp [h0, e1]
    by_cases h2 : z = y2
    · subst h2; simp [h0, h1, e2]
    by_cases h3 : z = y3
    · subst h3; simp [h0, h1, h2, e3]
    simp [h0, h1, h2, h3]
  have N2 : News h₀ L h ((r, W.listOf (refs ps).toArray c) :: (nx ++ own).filter fun p => decide (p.1 ≠ r)) := fun p hp => by
    rcases List.mem_cons.mp hp with rfl | hp
    · exact N _ (List.mem_append.mpr (.inl hr))
    · exact N _ (List.mem_filter.mp hp).1
  have hp2 : ∀ q ∈ ps, TupAt (nx.filter fun p => decide (p.1 ≠ r)) q.1 q.2 := fun q hq => by
    obtain ⟨t, u, mm⟩ := hp q hq
    exact ⟨t, u, List.mem_filter.mpr ⟨mm, decide_eq_true (list_ne_tup N (List.mem_append.mpr (.inl hr)) (List.mem_append.mpr (.inl mm)))⟩⟩
  have sub1 : ∀ p ∈ nx.filter (fun p => decide (p.1 ≠ r)), p ∈ (nx ++ own).filter (fun p => decide (p.1 ≠ r)) := fun p hp => List.mem_filter.mpr ⟨List.mem_append.mpr (.inl (List.mem_filter.mp hp).1), (List.mem_filter.mp hp).2⟩
  refine wpAny_mono (turn ps c m₁ _ hg (by rw [er]; exact F) N2 (fun p hp => of_decide_eq_true (List.mem_filter.mp hp).2) (fun q hq => (hp2 q hq).mono sub1) (fun p hp => List.mem_filter.mpr ⟨List.mem_append.mpr (.inl (hn p hp)), decide_eq_true (hnr p hp)⟩) (fun p hp => List.mem_filter.mpr ⟨List.mem_append.mpr (.inr hp), decide_eq_true (hown p hp)⟩) (fun p hp => List.mem_append.mp (List.mem_filter.mp hp).1)) (fun f s₂ z => ?_) fun _ _ z => z
  have fin : (∃ h' tk' m' news' c, s₂ = { ({ s with heap := h, toks := tk } : Shared) with heap := h', toks := tk' } ∧ Fr h₀ L h' m' ∧ m' y1 = some v1 ∧ m' y2 = some v2 ∧ m' y3 = some v3 ∧ News h₀ L h' news' ∧ (∀ p ∈ (nx ++ own).filter (fun p => decide (p.1 ≠ r)), p ∈ news') ∧
      (((r, W.listOf (refs ps).toArray c) ∈ news' ∧ G (i + 1) ps) ∨ ∃ T p, (r, W.listOf (refs (ps ++ [(T, p)])).toArray c) ∈ news' ∧ TupAt news' T p ∧ (∀ q ∈ own, q.1 ≠ T) ∧ G (i + 1) (ps ++ [(T, p)]))) →
      InvEndG h₀ L (GJ y1 y2 y3 v1 v2 v3 r G news (i + 1)) own { s with heap := h, toks := tk } s₂ := by
    rintro ⟨h', tk', m', news', c', rfl, F', a1, a2, a3, N', hs', alt⟩
    have hrn : r ∈ nx.map (·.1) := List.mem_map.mpr ⟨_, hr, rfl⟩
    have hoN : ∀ p ∈ own, p ∈ news' := fun p hp => hs' p (List.mem_filter.mpr ⟨List.mem_append.mpr (.inr hp), decide_eq_true (hown p hp)⟩)
    have hnN : ∀ p ∈ news, p ∈ nx.filter (fun p => decide (p.1 ≠ r)) := fun p hp => List.mem_filter.mpr ⟨hn p hp, decide_eq_true (hnr p hp)⟩
    have hnx : ∀ p ∈ nx.filter (fun p => decide (p.1 ≠ r)), p ∈ news' := fun p hp => hs' p (sub1 p hp)
    rcases alt with ⟨hr', hg'⟩ | ⟨T, p, hr', ⟨t9, u9, ht⟩, ho, hg'⟩
    · refine InvEndG.intro (nx := (r, W.listOf (refs ps).toArray c') :: nx.filter fun p => decide (p.1 ≠ r)) F' N' ⟨a1, a2, a3, ⟨ps, c', .head _, fun q hq => (hp2 q hq).mono fun p hp => .tail _ hp, hg'⟩, fun p hp => .tail _ (hnN p hp)⟩ (fun p hp b hb => ?_) (fun p hp => ?_) hoN
      · rcases List.mem_cons.mp hb with rfl | hb
        · exact hoff p hp _ hrn
        · obtain ⟨q, hq, rfl⟩ := List.mem_map.mp hb
          exact hoff p hp _ (List.mem_map.mpr ⟨q, (List.mem_filter.mp hq).1, rfl⟩)
      · rcases List.mem_cons.mp hp with rfl | hp
        · exact hr'
        · exact hnx p hp
    · refine InvEndG.intro (nx := (r, W.listOf (refs (ps ++ [(T, p)])).toArray c') :: (T, tupObj p.1 t9 p.2 u9) :: nx.filter fun p => decide (p.1 ≠ r)) F' N' ⟨a1, a2, a3, ⟨ps ++ [(T, p)], c', .head _, fun q hq => ?_, hg'⟩, fun p hp => .tail _ (.tail _ (hnN p hp))⟩ (fun p hp b hb => ?_) (fun p hp => ?_) hoN
      · rcases List.mem_append.mp hq with hq | hq
        · exact (hp2 q hq).mono fun p hp => .tail _ (.tail _ hp)
        · rw [List.mem_singleton.mp hq]
          exact ⟨t9, u9, .tail _ (.head _)⟩
      · rcases List.mem_cons.mp hb with rfl | hb
        · exact hoff p hp _ hrn
        rcases List.mem_cons.mp hb with rfl | hb
        · exact ho p hp
        · obtain ⟨q, hq, rfl⟩ := List.mem_map.mp hb
          exact hoff p hp _ (List.mem_map.mpr ⟨q, (List.mem_filter.mp hq).1, rfl⟩)
      · rcases List.mem_cons.mp hp with rfl | hp
        · exact hr'
        rcases List.mem_cons.mp hp with rfl | hp
        · exact ht
        · exact hnx p hp
  cases f with
  | ret _ => exact z.elim
  | brk => exact z.elim
  | next => exact fin z
  | cont => exact fin z
theorem gj_done {s : Shared} {h₀ h : Heap} {L r : Addr} {y1 y2 y3 : Str} {v1 v2 v3 : Value} {G : Nat → List PP → Prop} {news nx : List (Addr × Obj)} {i tk : Nat} {m₁ : Str → Option Value} {Q : Flow → Shared → Prop}
    (hJ : GJ y1 y2 y3 v1 v2 v3 r G news i m₁ nx) (F : Fr h₀ L h m₁) (N : News h₀ L h nx) (hnr : ∀ p ∈ news, p.1 ≠ r)
    (done : ∀ ps c (u : Str → Option Value) rest, G i ps → Fr h₀ L h (fun z => if z = y1 then some v1 else if z = y2 then some v2 else if z = y3 then some v3 else u z) → News h₀ L h ((r, W.listOf (refs ps).toArray c) :: rest) → (∀ p ∈ rest, p.1 ≠ r) → (∀ q ∈ ps, TupAt rest q.1 q.2) → (∀ p ∈ news, p ∈ rest) → Q .next { s with heap := h, toks := tk }) : Q .next { s with heap := h, toks := tk } := by
  obtain ⟨e1, e2, e3, ⟨ps, c, hr, hp, hg⟩, hn⟩ := hJ
  have er : (fun z => if z = y1 then some v1 else if z = y2 then some v2 else if z = y3 then some v3 else m₁ z) = m₁ := by
    funext z
    by_cases h1 : z = y1
    · subst h1; simp [e1]
    by_cases h2 : z = y2
    · subst h2; simp [h1, e2]
    by_cases h3 : z = y3
    · subst h3; simp [h1, h2, e3]
    simp [h1, h2, h3]
  refine done ps c m₁ (nx.filter fun p => decide (p.1 ≠ r)) hg (by rw [er]; exact F) (fun p hp => ?_) (fun p hp => of_decide_eq_true (List.mem_filter.mp hp).2) (fun q hq => ?_) (fun p hp => List.mem_filter.mpr ⟨hn p hp, decide_eq_true (hnr p hp)⟩)
  · rcases List.mem_cons.mp hp with rfl | hp
    · exact N _ hr
    · exact N _ (List.mem_filter.mp hp).1
  · obtain ⟨t, u, mm⟩ := hp q hq
    exact ⟨t, u, List.mem_filter.mpr ⟨mm, decide_eq_true (list_ne_tup N hr mm)⟩⟩
section
variable {prog : Program} {w : World} {A : Around} {E : Value → Shared → Prop} {s : Shared} {env : Env} {h₀ : Heap} {x : Str} {body : List Stmt} {Q : Flow → Shared → Prop} {r : Addr} {y1 y2 y3 : Str} {v1 v2 v3 : Value} {G : Nat → List PP → Prop} {m₀ : Str → Option Value} {news : List (Addr × Obj)}
theorem iter_rngG {rg : Addr} {a b c : Int} {t u v : Tok} {n c0 : Nat}
    (hh : A.handled = none) (hR : IsRange s.heap rg a b c t u v) (hsm : Builtin.Range.small a b c = true) (hn : Builtin.Range.rangeSize a b c = (n : Int)) (F : Fr h₀ env.locals s.heap m₀) (N : News h₀ env.locals s.heap ((r, W.listOf (refs []).toArray c0) :: news))
    (h1 : m₀ y1 = some v1) (h2 : m₀ y2 = some v2) (h3 : m₀ y3 = some v3) (hx1 : y1 ≠ x) (hx2 : y2 ≠ x) (hx3 : y3 ≠ x) (hnr : ∀ p ∈ news, p.1 ≠ r) (hg : G 0 [])
    (turn : ∀ (i : Nat) (t : Tok) ps c' (u : Str → Option Value) h tk rest own, i < n → G i ps → Fr h₀ env.locals h (fun z => if z = x then some (Value.int (a + (i : Int) * c) t) else if z = y1 then some v1 else if z = y2 then some v2 else if z = y3 then some v3 else u z) → News h₀ env.locals h ((r, W.listOf (refs ps).toArray c') :: rest) → (∀ p ∈ rest, p.1 ≠ r) → (∀ q ∈ ps, TupAt rest q.1 q.2) → (∀ p ∈ news, p ∈ rest) → (∀ p ∈ own, p ∈ rest) →
      wpAny (model prog w) A (execs body env) (GP h₀ env.locals y1 y2 y3 v1 v2 v3 r (G (i + 1)) ps rest own { s with heap := h, toks := tk }) E { s with heap := h, toks := tk })
    (done : ∀ h tk ps c (u : Str → Option Value) rest, G n ps → Fr h₀ env.locals h (fun z => if z = y1 then some v1 else if z = y2 then some v2 else if z = y3 then some v3 else u z) → News h₀ env.locals h ((r, W.listOf (refs ps).toArray c) :: rest) → (∀ p ∈ rest, p.1 ≠ r) → (∀ q ∈ ps, TupAt rest q.1 q.2) → (∀ p ∈ news, p ∈ rest) → Q .next { s with heap := h, toks := tk }) :
    wpAny (model prog w) A (pyIter (.ref rg)) (fun it s₂ => LoopAtV prog w A h₀ env x body Q E it s₂) E s := by
  refine wpAny_pyIter_range hR hsm ?_
  have hW := Walks.range (prog := prog) (w := w) hh s.heap.objs.size a c n
  have hLlt : @LT.lt Nat _ env.locals s.heap.objs.size := F.ns.lt
  refine kdr_loop (m₀ := m₀) (news := (r, W.listOf (refs []).toArray c0) :: news) (GJ y1 y2 y3 v1 v2 v3 r G news) hW (fun _ h => h) (fun _ h => h) ?hob ?hLf ?hwr ?hnw ?hst (F.keeps fun _ _ e => Heap.get?_push_of_some _ e) (N.grown fun _ _ e => Heap.get?_push_of_some _ e) ⟨h1, h2, h3, ⟨[], c0, .head _, fun _ h => absurd h List.not_mem_nil, hg⟩, fun p hp => .tail _ hp⟩ ?turn ?done
  case hob => exact fun i h st b hb => by rw [List.mem_singleton.mp hb]; exact ⟨_, st⟩
  case hLf => exact fun h => Nat.ne_of_lt hLlt (List.mem_singleton.mp h)
  case hwr => exact fun b hb => by rw [List.mem_singleton.mp hb]; exact next_is_new F
  case hnw => exact fun p hp h => Nat.ne_of_lt (Heap.lt_size (N p hp).1) (List.mem_singleton.mp h)
  case hst => show IsRangeIter _ _ _ _ _; rw [hn]; simpa using Heap.get?_push_size _ rfl
  case turn =>
    rintro i v m₁ nx h tk own hi ⟨t, rfl⟩ hoff hJ F₁ N₁
    exact gj_turn hoff hJ F₁ N₁ hnr hx1 hx2 hx3 fun ps c' u rest a1 a2 a3 a4 a5 a6 a7 _ => turn i t ps c' u h tk rest own hi a1 a2 a3 a4 a5 a6 a7
  case done => exact fun m₁ nx h tk hJ F₁ N₁ => gj_done hJ F₁ N₁ hnr fun ps c u rest => done h tk ps c u rest
theorem iter_tupG {ax : Addr} {vs : List Value} {nn c0 : Nat} {ps0 : List PP}
    (hh : A.handled = none) (hax : (ax, ({ cls := .type "tuple", data := .seq vs.toArray nn } : Obj)) ∈ news) (F : Fr h₀ env.locals s.heap m₀) (N : News h₀ env.locals s.heap ((r, W.listOf (refs ps0).toArray c0) :: news))
    (h1 : m₀ y1 = some v1) (h2 : m₀ y2 = some v2) (h3 : m₀ y3 = some v3) (hx1 : y1 ≠ x) (hx2 : y2 ≠ x) (hx3 : y3 ≠ x) (hnr : ∀ p ∈ news, p.1 ≠ r) (hp0 : ∀ q ∈ ps0, TupAt news q.1 q.2) (hg : G 0 ps0)
    (turn : ∀ (i : Nat) (v : Value) ps c' (u : Str → Option Value) h tk rest own, vs[i]? = some v → G i ps → OwnOff own (news.map (·.1)) → Fr h₀ env.locals h (fun z => if z = x then some v else if z = y1 then some v1 else if z = y2 then some v2 else if z = y3 then some v3 else u z) → News h₀ env.locals h ((r, W.listOf (refs ps).toArray c') :: rest) → (∀ p ∈ rest, p.1 ≠ r) → (∀ q ∈ ps, TupAt rest q.1 q.2) → (∀ p ∈ news, p ∈ rest) → (∀ p ∈ own, p ∈ rest) →
      wpAny (model prog w) A (execs body env) (GP h₀ env.locals y1 y2 y3 v1 v2 v3 r (G (i + 1)) ps rest own { s with heap := h, toks := tk }) E { s with heap := h, toks := tk })
    (done : ∀ h tk ps c (u : Str → Option Value) rest, G vs.length ps → Fr h₀ env.locals h (fun z => if z = y1 then some v1 else if z = y2 then some v2 else if z = y3 then some v3 else u z) → News h₀ env.locals h ((r, W.listOf (refs ps).toArray c) :: rest) → (∀ p ∈ rest, p.1 ≠ r) → (∀ q ∈ ps, TupAt rest q.1 q.2) → (∀ p ∈ news, p ∈ rest) → Q .next { s with heap := h, toks := tk }) :
    wpAny (model prog w) A (pyIter (.ref ax)) (fun it s₂ => LoopAtV prog w A h₀ env x body Q E it s₂) E s := by
  have hax1 : s.heap.get? ax = some { cls := .type "tuple", data := .seq vs.toArray nn } := (N _ (.tail _ hax)).1
  have hT : s.heap.IsTuple ax vs.toArray := ⟨_, hax1, rfl, _, rfl⟩
  have hne : ax ≠ s.heap.objs.size := Nat.ne_of_lt (Heap.lt_size hax1)
  refine wpAny_pyIter_tuple hT ?_
  have hW := Walks.tuple (prog := prog) (w := w) hh s.heap.objs.size ax hne vs.toArray
  have hlen : vs.toArray.size = vs.length := by simp
  rw [hlen] at hW
  refine ⟨_, _, _, vs.length, _, _, m₀, (r, W.listOf (refs ps0).toArray c0) :: news, GJ y1 y2 y3 v1 v2 v3 r G news, rfl, hW, ?_, ?_, ?_, ⟨⟨_, Heap.get?_push_size _ rfl, rfl, rfl⟩, hT.at fun o e => Heap.get?_push_of_some _ e⟩, F.push _, (fun p hp => ⟨Heap.get?_push_of_some _ (N p hp).1, (N p hp).2⟩), ⟨h1, h2, h3, ⟨ps0, c0, .head _, fun q hq => (hp0 q hq).mono fun p hp => .tail _ hp, hg⟩, fun p hp => .tail _ hp⟩, ?_, ?_⟩
  · intro hm
    rcases List.mem_cons.mp hm with e | hm
    · exact absurd F.ns.lt (e ▸ Nat.lt_irrefl _)
    · exact (N _ (.tail _ hax)).2.1 ((List.mem_singleton.mp hm).symm)
  · intro b hb
    rw [List.mem_singleton.mp hb]
    exact next_is_new F
  · intro p hp hI
    exact absurd (Heap.lt_size (N p hp).1) ((List.mem_singleton.mp hI) ▸ Nat.lt_irrefl _)
  · rintro i v m₁ news₁ s₁ own ⟨hh', tk', rfl⟩ hin hP hJ hoff hown hget hfp hst F₁ N₁
    have hP' : vs[i]? = some v := by simpa using hP
    have hI0 : h₀.get? s.heap.objs.size = none := next_is_new F
    obtain ⟨⟨oI, hoI, _⟩, _⟩ := id hst
    have hIown : (s.heap.objs.size, oI) ∈ own.filter fun p => decide (p.1 = s.heap.objs.size) := List.mem_filter.mpr ⟨hfp _ (List.mem_cons.mpr (.inl rfl)) hI0 _ hoI, by simp⟩
    have hsep : OwnOff (own.filter fun p => decide (p.1 = s.heap.objs.size)) (news₁.map (·.1)) := by
      intro p hp b hb e
      obtain ⟨q, hq, rfl⟩ := List.mem_map.mp hb
      have h1 : p.1 = s.heap.objs.size := by simpa using (List.mem_filter.mp hp).2
      exact hoff q hq (List.mem_singleton.mpr (e ▸ h1))
    have hsepn : OwnOff (own.filter fun p => decide (p.1 = s.heap.objs.size)) (news.map (·.1)) := fun p hp b hb => hsep p hp b (by
      obtain ⟨q, hq, rfl⟩ := List.mem_map.mp hb
      exact List.mem_map.mpr ⟨q, hJ.2.2.2.2 q hq, rfl⟩)
    have N₂ : News h₀ env.locals hh' (news₁ ++ own.filter fun p => decide (p.1 = s.heap.objs.size)) := fun p hp => N₁ p ((List.mem_append.mp hp).elim (fun h => List.mem_append.mpr (.inr h)) fun h => List.mem_append.mpr (.inl ((List.mem_filter.mp h).1)))
    have hax₁ := hJ.2.2.2.2 _ hax
    have hlo : hh'.get? ax = some { cls := .type "tuple", data := .seq vs.toArray nn } := (N₁ _ (List.mem_append.mpr (.inr hax₁))).1
    refine wpAny_mono (gj_turn (Q := Q) hsep hJ F₁ N₂ hnr hx1 hx2 hx3 fun ps c' u rest a1 a2 a3 a4 a5 a6 a7 _ => turn i v ps c' u hh' tk' rest _ hP' a1 hsepn a2 a3 a4 a5 a6 a7) (fun f s₂ p => ?_) fun _ _ e => e
    have fin : InvEndG h₀ env.locals (GJ y1 y2 y3 v1 v2 v3 r G news (i + 1)) (own.filter fun p => decide (p.1 = s.heap.objs.size)) { s with heap := hh', toks := tk' } s₂ →
        LoopStepU h₀ env.locals [s.heap.objs.size] own (GJ y1 y2 y3 v1 v2 v3 r G news (i + 1)) { s with heap := hh', toks := tk' } .next s₂ := by
      rintro ⟨h', tk, m', news', nx, e, F', N', hn, ho, ha, hm⟩
      refine ⟨rfl, h', tk, m', nx, e, F', fun p hp => ?_, fun p hp hq => ?_, hm⟩
      · rcases List.mem_append.mp hp with h | h
        · by_cases hI : p.1 = s.heap.objs.size
          · exact N' p (ho p (List.mem_filter.mpr ⟨h, by simpa using hI⟩))
          · have h1 : p.1 = ax := by
              rcases List.mem_cons.mp (hown p h) with h2 | h2
              · exact absurd h2 hI
              · exact List.mem_singleton.mp h2
            have h2 : hh'.get? p.1 = some p.2 := hget p h
            rw [h1, hlo] at h2
            have h3 : p = (ax, ({ cls := .type "tuple", data := .seq vs.toArray nn } : Obj)) := Prod.ext h1 (Option.some.inj h2).symm
            rw [h3]
            exact N' _ (hn _ (hm.2.2.2.2 _ hax))
        · exact N' p (hn p h)
      · exact ha _ hIown p.1 (List.mem_map.mpr ⟨p, hp, rfl⟩) (List.mem_singleton.mp hq).symm
    cases f with
    | ret v => exact .ret p
    | brk => exact .brk p
    | next => exact .next (fin p)
    | cont => exact .cont (fin p)
  · rintro h' tk m' news' F' N' _ hJ
    exact gj_done hJ F' N' hnr fun ps c u rest => done h' tk ps c u rest
end
example : True := by
  w_top off
  k_with_none
  k_with "inst9" => first | ((with_reducible show InstAt _ (@OfNat.ofNat _ _ _) _ _ _); refine InstAt.of_K (by first | assumption | exact Frag.In.keeps (by k_asm) (Fr.keep (by k_asm))) (by k_is) (by k_is)) | (refine InstAt.of_news (by k_asm) (by k_mem) (by k_mem))
  k_with "e9" => (first | (refine code_def (by k_asm) (by k_asm) (by k_asm) (by k_asm) (by k_asm) rfl rfl (by first | exact rfl | assumption) (by k_is) (by k_is) (by ktr_room) (by first | exact BindsTo.of_eq rfl | refine kp_binds (by k_in) (by exact fun _ => rfl)) (by exact locs rfl) ?_ (by exact rfl) (by exact rfl) (by exact rfl) (by decide); k_whole; intro _ _ _ _ _ _ _ _ _; (try dsimp only); (try k_fold)) | (refine code_defC (by k_asm) (by k_asm) (by k_asm) (by k_asm) (by k_asm) rfl rfl (by first | exact rfl | assumption) (by k_is) (by k_is) (by ktr_room) (by first | exact BindsTo.of_eq rfl | refine kp_binds (by k_in) (by exact fun _ => rfl)) (by exact rfl) (by decide +kernel) ?_ (by exact rfl) (by exact rfl) (by exact rfl); k_whole; intro _ _ _ _ _ _ _ N' Y' _ _ _ l1; (try k_lt l1); (try dsimp only); (try k_fold); (first | k_cells Y' | (obtain ⟨_, _, _, _, _, hE', _, _, _, _, _⟩ := cells_five Y'; subst hE'; clear Y')); (try simp only [List.cons_append, List.nil_append] at N'); (try dsimp only); (try k_fold); (try (revert N'; intro _)); (try (revert l1; intro _))))
  k_with "ne9" => (refine neN ?_; (try dsimp only); with_reducible first | exact neU1 | exact neU2 | exact neU3 | exact neU4 | exact neD1 | exact neD2 | exact neD3 | exact neD4 | exact Nat.ne_of_gt ‹_› | exact Nat.ne_of_lt ‹_› | exact gtA1 ‹_› | exact Ne.symm (gtA1 ‹_›) | exact gtA2 ‹_› | exact Ne.symm (gtA2 ‹_›) | exact gtA3 ‹_› | exact Ne.symm (gtA3 ‹_›) | exact gtA4 ‹_› | exact Ne.symm (gtA4 ‹_›) | exact gtA5 ‹_› | exact Ne.symm (gtA5 ‹_›) | exact gtA6 ‹_› | exact Ne.symm (gtA6 ‹_›) | exact gtA7 ‹_› | exact Ne.symm (gtA7 ‹_›) | exact gtA8 ‹_› | exact Ne.symm (gtA8 ‹_›) | exact gtA9 ‹_› | exact Ne.symm (gtA9 ‹_›) | exact gtA10 ‹_› | exact Ne.symm (gtA10 ‹_›) | exact gtA11 ‹_› | exact Ne.symm (gtA11 ‹_›) | exact gtA12 ‹_› | exact Ne.symm (gtA12 ‹_›))
  k_with "room9" => (first | exact room2 ‹_› (by exact rfl) | exact room1 ‹_› (by exact rfl) | exact room0 ‹_›)
  k_with "units9" => (first | exact unit2 ‹_› (by exact rfl) | exact unit1 ‹_› (by exact rfl) | exact unit0 ‹_›)
  k_with "mem9" => (first | with_reducible assumption | with_reducible exact at0 | with_reducible exact at1 | with_reducible exact at2 | with_reducible exact at3 | with_reducible exact at4 | with_reducible exact at5 | with_reducible exact at6 | with_reducible exact at7 | with_reducible exact at8 | with_reducible exact at9 | with_reducible exact at10 | with_reducible exact at11 | with_reducible exact at12 | with_reducible exact at13 | with_reducible exact at14 | exact up1 (by with_reducible assumption) | exact up2 (by with_reducible assumption) | exact up3 (by with_reducible assumption) | exact up4 (by with_reducible assumption) | exact up5 (by with_reducible assumption) | exact up6 (by with_reducible assumption) | assumption)
  k_with "mul9" => (first | exact Bd.ok1 ‹_› ‹_› ‹_› ‹_› | exact Bd.ok2 ‹_› ‹_› ‹_› ‹_› ‹_› ‹_› ‹_› ‹_› ‹_› ‹_› ‹_› ‹_› ‹_› ‹_› ‹_› ‹_›)
  k_with "ne9" => (refine neN ?_; (try dsimp only); with_reducible first | exact neU1 | exact neU2 | exact neU3 | exact neU4 | exact neD1 | exact neD2 | exact neD3 | exact neD4 | exact Nat.ne_of_gt ‹_› | exact Nat.ne_of_lt ‹_› | exact gtA1 ‹_› | exact Ne.symm (gtA1 ‹_›) | exact gtA2 ‹_› | exact Ne.symm (gtA2 ‹_›) | exact gtA3 ‹_› | exact Ne.symm (gtA3 ‹_›) | exact gtA4 ‹_› | exact Ne.symm (gtA4 ‹_›) | exact gtA5 ‹_› | exact Ne.symm (gtA5 ‹_›) | exact gtA6 ‹_› | exact Ne.symm (gtA6 ‹_›) | exact gtA7 ‹_› | exact Ne.symm (gtA7 ‹_›) | exact gtA8 ‹_› | exact Ne.symm (gtA8 ‹_›) | exact gtA9 ‹_› | exact Ne.symm (gtA9 ‹_›) | exact gtA10 ‹_› | exact Ne.symm (gtA10 ‹_›) | exact gtA11 ‹_› | exact Ne.symm (gtA11 ‹_›) | exact gtA12 ‹_› | exact Ne.symm (gtA12 ‹_›) | exact neA1 ‹_› | exact Ne.symm (neA1 ‹_›) | exact neA2 ‹_› | exact Ne.symm (neA2 ‹_›) | exact neA3 ‹_› | exact Ne.symm (neA3 ‹_›) | exact neA4 ‹_› | exact Ne.symm (neA4 ‹_›) | exact neA5 ‹_› | exact Ne.symm (neA5 ‹_›) | exact neA6 ‹_› | exact Ne.symm (neA6 ‹_›) | exact neA7 ‹_› | exact Ne.symm (neA7 ‹_›) | exact neA8 ‹_› | exact Ne.symm (neA8 ‹_›) | exact neA9 ‹_› | exact Ne.symm (neA9 ‹_›) | (refine Nat.ne_of_gt (Nat.lt_trans ?_ ‹_›); first | exact ltA1 ‹_› | exact ltA2 ‹_› | exact ltA3 ‹_› | exact ltA4 ‹_› | exact ltA5 ‹_› | exact ltA6 ‹_› | exact ltA7 ‹_› | exact ltA8 ‹_› | exact ltA9 ‹_› | exact ltA10 ‹_› | exact ltA11 ‹_› | exact ltA12 ‹_›) | (refine Nat.ne_of_lt (Nat.lt_trans ?_ ‹_›); first | exact ltA1 ‹_› | exact ltA2 ‹_› | exact ltA3 ‹_› | exact ltA4 ‹_› | exact ltA5 ‹_› | exact ltA6 ‹_› | exact ltA7 ‹_› | exact ltA8 ‹_› | exact ltA9 ‹_› | exact ltA10 ‹_› | exact ltA11 ‹_› | exact ltA12 ‹_›))
  k_with "all9" => (first | assumption | refine neAbove ‹_› (by (try dsimp only); omega))
  k_with "execs cons" => w_strict (refine wpAny_execs_cons ?_; (try k_fold))
  k_with "eval BinOp" => w_strict (k_fold)
  k_with "eval Call" => w_strict (k_fold)
  k_with "eval Call Attribute" => w_strict (k_fold)
  k_with "eval Attribute Name" => w_strict (k_fold)
  k_with "eval Subscript" => w_strict (k_fold)
  k_with "eval Attribute Attribute" => w_strict (k_fold)
  k_with "getAttr ref" => w_strict (k_fold)
  k_with "eval Tuple" => w_strict (k_fold)
  k_with "assignInOrder" => w_strict (k_fold)
  k_with "exec Assign" => w_strict (k_fold)
  k_with "isTrue BoolOp" => w_strict (k_fold)
  k_with "isTrue Compare" => w_strict (k_fold)
  k_with "callWith ref" => w_strict (k_fold)
  trivial
noncomputable def PickPost (h₀ : Heap) (L : Addr) (m : Str → Option Value) (news : List (Addr × Obj)) (s : Shared) (v : Value) (s' : Shared) : Prop := ∃ h tk sz t, (sz = 4 ∨ sz = 23) ∧ v = Value.int sz t ∧ s' = { s with heap := h, toks := tk } ∧ Fr h₀ L h m ∧ News h₀ L h news
theorem pick_size {M : Model} {A : Around} {t : Sem Value} {P E : Value → Shared → Prop} {s : Shared} {h₀ : Heap} {L : Addr} {m : Str → Option Value} {news : List (Addr × Obj)} (_F : Fr h₀ L s.heap m) (_N : News h₀ L s.heap news)
    (h1 : wpAny M A t (PickPost h₀ L m news s) E s) (h2 : ∀ h tk sz t, (sz = 4 ∨ sz = 23) → Fr h₀ L h m → News h₀ L h news → P (.int sz t) { s with heap := h, toks := tk }) : wpAny M A t P E s :=
  wpAny_mono h1 (fun v s' z => by obtain ⟨h, tk, sz, t, a, rfl, rfl, F, N⟩ := z; exact h2 h tk sz t a F N) fun _ _ e => e
theorem rng2_tab : ∀ k : Nat, k < 15 → Builtin.Range.small 0 ((k : Int) - 1) 2 = true ∧ Builtin.Range.rangeSize 0 ((k : Int) - 1) 2 = (k / 2 : Nat) ∧ k / 2 ≤ 7 := by decide +kernel
theorem rng2 {b : Int} (h1 : -1 ≤ b) (h2 : b ≤ 13) : Builtin.Range.small 0 b 2 = true ∧ ∃ n : Nat, Builtin.Range.rangeSize 0 b 2 = n ∧ n ≤ 7 ∧ ∀ i : Nat, i < n → 2 * (i : Int) + 1 ≤ b := by
  obtain ⟨k, rfl⟩ : ∃ k : Nat, b = (k : Int) - 1 := ⟨(b + 1).toNat, by omega⟩
  obtain ⟨a, c, d⟩ := rng2_tab k (by omega)
  exact ⟨a, _, c, d, fun i hi => by omega⟩
theorem takeL (ns : List Int) : (List.take (min 15 ns.length - 1) (List.drop 1 ns)).length ≤ 14 ∧ (List.take (min 15 ns.length - 1) (List.drop 1 ns)).length ≤ ns.length - 1 :=
  ⟨Nat.le_trans (List.length_take_le _ _) (Nat.sub_le_sub_right (Nat.min_le_left _ _) 1), by rw [List.length_take, List.length_drop]; exact Nat.min_le_right _ _⟩
theorem rngL (ns : List Int) : Builtin.Range.small 0 (((List.take (min 15 ns.length - 1) (List.drop 1 ns)).length : Int) - 1) 2 = true ∧ ∃ n : Nat, Builtin.Range.rangeSize 0 (((List.take (min 15 ns.length - 1) (List.drop 1 ns)).length : Int) - 1) 2 = n ∧ n ≤ 7 ∧
    ∀ i : Nat, i < n → (1 : Int) + (0 + (i : Int) * 2) < (ns.length : Int) ∧ (2 : Int) + (0 + (i : Int) * 2) < (ns.length : Int) := by
  obtain ⟨h1, h2⟩ := takeL ns
  generalize (List.take (min 15 ns.length - 1) (List.drop 1 ns)).length = m at *
  generalize ns.length = k at *
  obtain ⟨a, n, b, c, d⟩ := rng2 (b := (m : Int) - 1) (by omega) (by omega)
  exact ⟨a, n, b, c, fun i hi => by have := d i hi; exact ⟨by omega, by omega⟩⟩
theorem szL {ps : List PP} {n : Nat} (h : ps.length ≤ n) (h7 : n ≤ 7) : (refs ps).toArray.size ≤ sizeLine := by
  rw [List.size_toArray, refs_length, sizeLine_eq]; exact Nat.le_trans (Nat.le_trans h h7) (by decide)
theorem notin_tups2 {prog : Program} {w : World} {A : Around} {E : Value → Shared → Prop} {s : Shared} {h₀ : Heap} {L l pa : Addr} {news : List (Addr × Obj)} {ps : List PP} {k : Nat} {x y : Int} {t u : Tok} {Q : Value → Shared → Prop}
    (hu : A.units + 1 < cLine) (N : News h₀ L s.heap news) (ml : (l, W.listOf (refs ps).toArray k) ∈ news) (hp : ∀ q ∈ ps, TupAt news q.1 q.2) (ha : (pa, tupObj x t y u) ∈ news) (h : ∀ b, hitB ps (x, y) = b → Q (.bool (!b)) s) : wpAny (model prog w) A (compareOp .NotIn (.ref pa) (.ref l)) Q E s :=
  notin_tups (p := (x, y)) hu N ml hp ⟨_, _, ha⟩ (h _ rfl)
theorem news_swap {h₀ h : Heap} {L : Addr} {a b : Addr × Obj} {l : List (Addr × Obj)} (N : News h₀ L h (a :: b :: l)) : News h₀ L h (b :: a :: l) := fun p hp => N p (by
  rcases List.mem_cons.mp hp with rfl | hp
  · exact .tail _ (.head _)
  rcases List.mem_cons.mp hp with rfl | hp
  · exact .head _
  · exact .tail _ (.tail _ hp))
theorem refs_push {ps : List PP} {T : Addr} {p : Int × Int} : (refs (ps ++ [(T, p)])).toArray = (refs ps).toArray.push (.ref T) := by simp [refs]
theorem sz_pos {sz : Int} (h : sz = 4 ∨ sz = 23) : 0 < sz := by rcases h with rfl | rfl <;> decide
theorem sz_le {sz : Int} (h : sz = 4 ∨ sz = 23) : sz ≤ 23 := by rcases h with rfl | rfl <;> decide
theorem small_fmod {a b sz : Int} (h : sz = 4 ∨ sz = 23) : Small (a.fmod sz, b.fmod sz) := by
  have h0 : 0 < sz := sz_pos h
  refine ⟨Int.fmod_nonneg_of_pos a h0, ?_, Int.fmod_nonneg_of_pos b h0, ?_⟩
  · have := Int.fmod_lt_of_pos a h0; exact Int.lt_of_lt_of_le this (sz_le h)
  · have := Int.fmod_lt_of_pos b h0; exact Int.lt_of_lt_of_le this (sz_le h)
theorem len_refs {prog : Program} {w : World} {A : Around} {E : Value → Shared → Prop} {s : Shared} {h₀ : Heap} {L l : Addr} {news : List (Addr × Obj)} {ps : List PP} {k : Nat} {Q : Value → Shared → Prop} (N : News h₀ L s.heap news) (ml : (l, W.listOf (refs ps).toArray k) ∈ news) (hl : ps.length ≤ 64)
    (h : Q (.int (ps.length : Int) (s.toks + 1)) { s with toks := s.toks + 1 + 1 }) : wpAny (model prog w) A (call (.builtin "len") [.ref l]) Q E s := by
  have e : (refs ps).toArray.size = ps.length := by rw [List.size_toArray, refs_length]
  exact call_len_list (listAt N ml) (by rw [e]; omega) (by rw [e]; exact h)
noncomputable def GOk (i : Nat) (ps : List PP) : Prop := ps.Pairwise (fun a b => a.2 ≠ b.2) ∧ (∀ q ∈ ps, Small q.2) ∧ ps.length ≤ i
theorem hitB_f {ps : List PP} {p : Int × Int} (h : hitB ps p = false) : ∀ q ∈ ps, q.2 ≠ p := fun q hq e => by
  unfold hitB at h
  have := List.any_eq_false.mp h q hq
  exact this (decide_eq_true e)
noncomputable def dflt (i : Nat) : Int × Int := match i with | 0 => (0, 0) | 1 => (2, 1) | 2 => (1, 3) | _ => (3, 3)
noncomputable def GD (i : Nat) (ps : List PP) : Prop := ps.Pairwise (fun a b => a.2 ≠ b.2) ∧ (∀ q ∈ ps, Small q.2) ∧ ps.length ≤ 7 ∧ (4 ≤ ps.length ∨ ∀ j, j < i → hitB ps (dflt j) = true)
theorem hitB_push {ps : List PP} {T : Addr} {p q : Int × Int} (h : hitB ps q = true ∨ q = p) : hitB (ps ++ [(T, p)]) q = true := by
  unfold hitB at *
  rw [List.any_append, Bool.or_eq_true]
  rcases h with h | h
  · exact .inl h
  · exact .inr (by simp [h])
theorem GD.long {i : Nat} {ps : List PP} (g : GD i ps) (h : 4 ≤ ps.length) : GD (i + 1) ps := ⟨g.1, g.2.1, g.2.2.1, .inl h⟩
theorem GD.hit {i : Nat} {ps : List PP} (g : GD i ps) (h : hitB ps (dflt i) = true) : GD (i + 1) ps := ⟨g.1, g.2.1, g.2.2.1, g.2.2.2.imp id fun z j hj => by
  by_cases e : j = i
  · rw [e]; exact h
  · exact z j (by omega)⟩
theorem GD.more {i : Nat} {ps : List PP} {T : Addr} (g : GD i ps) (h : hitB ps (dflt i) = false) (hl : ps.length < 4) (hs : Small (dflt i)) : GD (i + 1) (ps ++ [(T, dflt i)]) :=
  ⟨List.pairwise_append.mpr ⟨g.1, List.pairwise_singleton _ _, fun a ha b hb => by rw [List.mem_singleton.mp hb]; exact hitB_f h a ha⟩, fun q hq => (List.mem_append.mp hq).elim (g.2.1 q) (fun z => by rw [List.mem_singleton.mp z]; exact hs), by rw [List.length_append, List.length_singleton]; omega,
    .inr fun j hj => hitB_push (by
      by_cases e : j = i
      · exact .inr (by rw [e])
      · rcases g.2.2.2 with z | z
        · omega
        · exact .inl (z j (by omega)))⟩
theorem hitB_mem {ps : List PP} {p : Int × Int} (h : hitB ps p = true) : p ∈ ps.map (·.2) := by
  unfold hitB at h
  obtain ⟨q, hq, e⟩ := List.any_eq_true.mp h
  exact List.mem_map.mpr ⟨q, hq, of_decide_eq_true e⟩
theorem four_in {l : List (Int × Int)} {a b c d : Int × Int} (ha : a ∈ l) (hb : b ∈ l) (hc : c ∈ l) (hd : d ∈ l) (h1 : b ≠ a) (h2 : c ≠ a) (h3 : d ≠ a) (h4 : c ≠ b) (h5 : d ≠ b) (h6 : d ≠ c) : 4 ≤ l.length := by
  have e1 := List.length_erase_of_mem ha
  have hb1 := (List.mem_erase_of_ne h1).mpr hb
  have hc1 := (List.mem_erase_of_ne h2).mpr hc
  have hd1 := (List.mem_erase_of_ne h3).mpr hd
  have e2 := List.length_erase_of_mem hb1
  have hc2 := (List.mem_erase_of_ne h4).mpr hc1
  have hd2 := (List.mem_erase_of_ne h5).mpr hd1
  have e3 := List.length_erase_of_mem hc2
  have hd3 := (List.mem_erase_of_ne h6).mpr hd2
  have a3 : 0 + 1 < ((l.erase a).erase b).length := Nat.add_lt_of_lt_sub (e3 ▸ List.length_pos_of_mem hd3)
  have a2 : 1 + 1 < (l.erase a).length := Nat.add_lt_of_lt_sub (e2 ▸ a3)
  exact Nat.add_lt_of_lt_sub (a := 2) (e1 ▸ a2)
theorem GD.four {ps : List PP} (g : GD 4 ps) : 4 ≤ ps.length := by
  rcases g.2.2.2 with z | z
  · exact z
  · have := four_in (hitB_mem (z 0 (by decide))) (hitB_mem (z 1 (by decide))) (hitB_mem (z 2 (by decide))) (hitB_mem (z 3 (by decide))) (by decide) (by decide) (by decide) (by decide) (by decide) (by decide)
    simpa using this
theorem news_mv5 {h₀ h : Heap} {L : Addr} {a b c d e r : Addr × Obj} {l : List (Addr × Obj)} (N : News h₀ L h (a :: b :: c :: d :: e :: r :: l)) : News h₀ L h (r :: a :: b :: c :: d :: e :: l) := fun p hp => N p (by
  simp only [List.mem_cons] at hp ⊢
  rcases hp with h | h | h | h | h | h | h <;> simp only [h, true_or, or_true])
theorem dflt_small (i : Nat) : Small (dflt i) := by
  unfold dflt Small
  split <;> decide
theorem GOk.more {i : Nat} {ps : List PP} {T : Addr} {p : Int × Int} (g : GOk i ps) (h : hitB ps p = false) (hs : Small p) : GOk (i + 1) (ps ++ [(T, p)]) :=
  ⟨List.pairwise_append.mpr ⟨g.1, List.pairwise_singleton _ _, fun a ha b hb => by rw [List.mem_singleton.mp hb]; exact hitB_f h a ha⟩, fun q hq => (List.mem_append.mp hq).elim (g.2.1 q) (fun z => by rw [List.mem_singleton.mp z]; exact hs), by rw [List.length_append, List.length_singleton]; exact Nat.succ_le_succ g.2.2⟩
theorem GOk.same {i : Nat} {ps : List PP} (g : GOk i ps) : GOk (i + 1) ps := ⟨g.1, g.2.1, Nat.le_succ_of_le g.2.2⟩
example : True := by
  k_with "exec For Name Call cons nil" => w_strict (k_here; (rename Fr _ _ _ _ => lF'); (with_unfolding_all refine For_invVF lF' (by exact rfl) (by exact rfl) ?_; k_whole))
  k_with "exec For Name Tuple cons nil" => w_strict (k_here; (rename Fr _ _ _ _ => lF'); (with_unfolding_all refine For_invVF lF' (by exact rfl) (by exact rfl) ?_; k_whole))
  k_with "pyIter ref" => w_strict (k_here; (with_reducible show wpAny _ _ (pyIter _) _ _ _); refine Halt.of ?_)
  k_with "exec Assign cons IfExp" => w_strict (k_here; refine Halt.of ?_)
  k_with "compareOp NotIn ref ref" => w_strict (k_here; k_dflt (refine notin_tups2 (by ktr_units) (by k_asm) (by first | exact mtl _ (mhd _) | exact mhd _) (by first | assumption | (intro z9 hz9; refine TupAt.mono ?_ (fun p9 hp9 => mcm _ (mcm _ hp9)); revert z9 hz9; assumption) | (intro z9 hz9; refine TupAt.mono ?_ (fun p9 hp9 => mcm _ hp9); revert z9 hz9; assumption)) (by first | exact mhd _ | exact mtl _ ‹_›) ?_; k_whole); intro _ _)
  k_with "call builtin:list.append" => w_strict (k_here; (with_reducible show wpAny _ _ (call (Value.builtin _) [Value.ref _, _]) _ _ _); k_dflt (refine append_K (by k_asm) (by k_asm) (Upd.head ‹_›) ?_ ‹_›; k_whole); intro _ _ _; (try k_sweep))
  k_with "call builtin:list.append" => w_strict (k_here; (with_reducible show wpAny _ _ (call (Value.builtin _) [Value.ref _, _]) _ _ _); k_dflt (refine append_K (by k_asm) (by exact news_swap ‹_›) (Upd.head (by exact List.forall_mem_cons.mpr ⟨by refine Nat.ne_of_gt ?_; show @LT.lt Nat _ _ _; dsimp only; omega, by assumption⟩)) ?_ ‹_›; k_whole); intro _ _ _; (try k_sweep))
  k_with "call builtin:sorted" => w_strict (k_here; (with_reducible show wpAny _ _ (call (Value.builtin _) [Value.ref _]) _ _ _); k_dflt (refine sorted_tups (by k_asm) (by k_asm) (by exact mhd _) (by (intro z9 hz9; refine TupAt.mono ?_ (fun p9 hp9 => mcm _ hp9); revert z9 hz9; assumption)) ‹_› ‹_› (by omega) (by omega) ?_; k_whole); intro _ _ _ _ _ _ _ _ l1; (try k_lt l1); (try k_sweep); (try (revert l1; intro _)))
  k_with "call builtin:len" => w_strict (k_here; (with_reducible show wpAny _ _ (call (Value.builtin _) [Value.ref _]) _ _ _); k_dflt (refine len_refs (by k_asm) (by first | exact mhd _ | k_mem) (by omega) ?_; k_whole))
  trivial
theorem g_points {sc : Addr} {vs : List Value} {ns : List Int} (B : Below A₀ base outer h₀) (F : Fr h₀ L s.heap m) (X : (hd.heap_1 w.params).In h₀) (N : News h₀ L s.heap news) (T : Top p loose mean mg mb h₀) (hk : cs.kind = .function) (hS : h₀.IsList sc vs.toArray) (hI : IntsAre vs ns) (hlen : ns.length ≤ 63) (hroom : dp + 8 < recursionLimit) (hu : un + 300 < cLine)
   (ret : ∀ h' tk' D c ps news', Fr h₀ L h' m → News h₀ L h' news' → (D, W.listOf (refs ps).toArray c) ∈ news' → (∀ p ∈ news, p ∈ news') → (∀ q ∈ ps, TupAt news' q.1 q.2) → ps.Pairwise (fun a b => lxB a.2 b.2 = true) → (∀ q ∈ ps, Small q.2) → 4 ≤ ps.length → ps.length ≤ 7 → Q (.ref D) { s with heap := h', toks := tk' }) :
   wpAny (model prog w) (ktrTop dp un gd cn cs L a ccd cl outer) (call (.ref 542) [.ref sc]) Q E s := by
  obtain h9 : Tag9 (P := wpAny (model prog w) (ktrTop dp un gd cn cs L a ccd cl outer) (call (.ref 542) [.ref sc]) Q E s) (by
    refine wpAny_call ?_
    k_dflt k_enter
    rename (Fr h₀ L _ m) => FG9
    have hS9 := hS.at (fun o e => FG9.keep _ o e)
    clear hS
    k_steps
    unfold Halt
    refine wpAny_Assign_Name ?_ (by with_unfolding_all rfl)
    rename (Fr _ _ _ _) => F0
    rename (News _ _ _ _) => N0
    refine pick_size F0 N0 ?first (fun h1 tk1 sz t1 hsz F1 N1 => ?_)
    case first =>
      k_steps
      all_goals exact ⟨_, _, _, _, by first | exact .inl rfl | exact .inr rfl, rfl, rfl, by k_asm, by k_asm⟩
    clear F0 N0
    k_steps
    rename (IsRange _ _ _ _ _ _ _ _) => hR9
    rename (IntsAre _ (List.take _ _)) => hI9
    rename (List.length (List.take _ _) = _) => hC9
    rename (_ ∧ AllLt _ news) => l9
    rename (∀ p ∈ news, @LT.lt Nat _ p.1 _) => ln9
    rename_i FR9 NR9 _
    unfold Halt
    obtain ⟨hsm, n, hn, hn7, hni⟩ := rngL ns
    have hsz0 : 0 < sz := sz_pos (by assumption)
    have NR : News _ _ _ ((_, W.listOf (refs []).toArray 0) :: news) := fun p hp => NR9 p (.tail _ hp)
    refine iter_rngG (c0 := 0) (G := GOk) (x := "k") (y1 := "points") (y2 := "size") (y3 := "script") rfl hR9 hsm hn FR9 NR rfl rfl rfl (by decide) (by decide) (by decide) (fun p hp => Nat.ne_of_lt (ln9 p hp)) ⟨List.Pairwise.nil, fun _ h => absurd h List.not_mem_nil, Nat.le_refl _⟩ ?turn ?done
    case turn =>
      intro i t ps c' u h' tk' rest own hi hg F' N' hrr hp' hsub hown
      obtain ⟨hx1, hx2⟩ := hni i hi
      have hx0 : (0 : Int) ≤ (i : Int) := Int.natCast_nonneg i
      have hz9 : (refs ps).toArray.size ≤ sizeLine := szL (Nat.le_trans hg.2.2 (Nat.le_of_lt hi)) hn7
      clear NR9 FR9 NR
      k_steps
      all_goals (rename (hitB ps _ = _) => hb9)
      all_goals first
        | (rename (_ = false) => hf9
           subst hf9
           refine' GP.more ?F1 ?N1 ?a11 ?a12 ?a13 (fun p hp => .tail _ (.tail _ hp)) ?hr1 ⟨_, _, .tail _ (.head _)⟩ ?ho1 (GOk.more hg hb9 ?sm1)
           case F1 => k_asm
           case N1 => k_asm
           case a11 => rfl
           case a12 => rfl
           case a13 => rfl
           case hr1 => rw [refs_push]; exact .head _
           case ho1 => exact fun q hq => Nat.ne_of_lt (tb_ltOf (‹_ ∧ AllLt _ rest›).2 q (hown q hq))
           case sm1 => exact small_fmod hsz)
        | (rename (_ = true) => hf9
           refine' GP.same ?F2 ?N2 ?a21 ?a22 ?a23 (fun p hp => .tail _ (.tail _ hp)) (.tail _ (.head _)) hg.same
           case F2 => k_asm
           case N2 => k_asm
           case a21 => rfl
           case a22 => rfl
           case a23 => rfl)
    case done =>
      intro h' tk' ps c' u rest hg F' N' hrr hp' hsub
      clear NR9 FR9 NR
      k_steps
      rename (_ ∧ _ ∧ _ ∧ _ ∧ _ ∧ AllLt _ rest) => lt5
      rename (_ ∧ _ ∧ _ ∧ _ ∧ AllLt _ rest) => lt4
      rename (_ ∧ _ ∧ _ ∧ AllLt _ rest) => lt3
      rename (_ ∧ _ ∧ AllLt _ rest) => lt2
      rename (_ ∧ AllLt _ rest) => lt1
      rename (News _ _ _ (_ :: _)) => NT
      rename (Fr _ _ _ _) => FT
      unfold Halt
      refine iter_tupG (G := GD) (x := "place") (y1 := "points") (y2 := "size") (y3 := "script") (vs := [_, _, _, _]) (nn := 0) rfl (.head _) FT (news_mv5 NT) rfl rfl rfl (by decide) (by decide) (by decide) ?hnr2 ?hp2 ⟨hg.1, hg.2.1, Nat.le_trans hg.2.2 hn7, .inr fun j hj => absurd hj (Nat.not_lt_zero _)⟩ ?turn2 ?done2
      case hnr2 =>
        repeat' (first | exact hrr | refine List.forall_mem_cons.mpr ⟨?_, ?_⟩ | (refine Nat.ne_of_gt ?_; show @LT.lt Nat _ _ _; dsimp only; omega))
      case hp2 => exact fun q hq => (hp' q hq).mono fun p hp => .tail _ (.tail _ (.tail _ (.tail _ (.tail _ hp))))
      case turn2 =>
        intro i v qs c2 u2 h2 tk2 rest2 own2 hv hg2 hoff2 F2 N2 hrr2 hq2 hsub2 hown2
        have hT : ∃ T x y t u, v = Value.ref T ∧ dflt i = (x, y) ∧ (T, tupObj x t y u) ∈ rest2 ∧ (∀ q ∈ own2, q.1 ≠ T) := by
          have key : ∀ T x y t u, (T, tupObj x t y u) ∈ rest2 → T ∈ _ → (T, tupObj x t y u) ∈ rest2 ∧ (∀ q ∈ own2, q.1 ≠ T) := fun T x y t u h1 h2 => ⟨h1, fun q hq => hoff2 q hq T h2⟩
          match i, hv with
          | 0, hv => exact ⟨_, _, _, _, _, (Option.some.inj hv).symm, rfl, key _ _ _ _ _ (hsub2 _ (.tail _ (.tail _ (.tail _ (.tail _ (.head _)))))) (.tail _ (.tail _ (.tail _ (.tail _ (.head _)))))⟩
          | 1, hv => exact ⟨_, _, _, _, _, (Option.some.inj hv).symm, rfl, key _ _ _ _ _ (hsub2 _ (.tail _ (.tail _ (.tail _ (.head _))))) (.tail _ (.tail _ (.tail _ (.head _))))⟩
          | 2, hv => exact ⟨_, _, _, _, _, (Option.some.inj hv).symm, rfl, key _ _ _ _ _ (hsub2 _ (.tail _ (.tail _ (.head _)))) (.tail _ (.tail _ (.head _)))⟩
          | 3, hv => exact ⟨_, _, _, _, _, (Option.some.inj hv).symm, rfl, key _ _ _ _ _ (hsub2 _ (.tail _ (.head _))) (.tail _ (.head _))⟩
          | i + 4, hv => exact absurd hv (by simp)
        obtain ⟨T2, x2, y2, t2, u2', rfl, hd2, hm2, ho2⟩ := hT
        have hlen2 := hg2.2.2.1
        have hz9 : (refs qs).toArray.size ≤ sizeLine := szL hg2.2.2.1 (Nat.le_refl 7)
        clear NT FT hrr hp' hsub hg lt1 lt2 lt3 lt4 lt5 hsub2 hoff2 hv
        k_steps
        all_goals first
          | exact GP.same F2 N2 rfl rfl rfl (fun p hp => .tail _ hp) (.head _) (hg2.long (by omega))
          | exact GP.same F2 N2 rfl rfl rfl (fun p hp => .tail _ hp) (.head _) (hg2.hit (by rw [hd2]; exact (‹hitB qs _ = _›).trans (by assumption)))
          | (refine' GP.more (T := T2) ?F1b ?N1b ?a11b ?a12b ?a13b ?hs1b ?hr1b ?ht1b ho2 (GD.more hg2 (by rw [hd2]; exact (‹hitB qs _ = _›).trans (by assumption)) (by omega) (dflt_small i))
             case F1b => k_asm
             case N1b => k_asm
             case a11b => rfl
             case a12b => rfl
             case a13b => rfl
             case hs1b => exact fun p hp => .tail _ hp
             case hr1b => rw [refs_push]; exact .head _
             case ht1b => rw [hd2]; exact ⟨_, _, .tail _ hm2⟩)
      case done2 =>
        intro h2 tk2 qs c2 u2 rest2 hg2 F2 N2 hrr2 hq2 hsub2
        have g4 := GD.four hg2
        have g7 := hg2.2.2.1
        have g1 := hg2.1
        have g3 := hg2.2.1
        clear NT FT hrr hp' hg lt1 lt2 lt3 lt4 lt5
        k_steps
        have hq3 : ∀ (q : PP), q ∈ _ → TupAt rest2 q.1 q.2 := fun q hq => hq2 q ((‹List.Perm _ qs›).mem_iff.mp hq)
        refine ret _ _ _ _ _ _ (by k_asm) (by k_asm) (.head _) (fun p hp => .tail _ (.tail _ (hsub2 p ?_))) (fun q hq => (hq3 q hq).mono fun p hp => .tail _ (.tail _ hp)) (by assumption) (fun q hq => g3 q ((‹List.Perm _ qs›).mem_iff.mp hq)) (by rw [(‹List.Perm _ qs›).length_eq]; exact g4) (by rw [(‹List.Perm _ qs›).length_eq]; exact g7)
        exact .tail _ (.tail _ (.tail _ (.tail _ (.tail _ (hsub p hp)))))) := trivial
  unfold id at h9; exact h9.get
example : True := by
  w_top off
  k_with_none
  k_with "inst9" => first | ((with_reducible show InstAt _ (@OfNat.ofNat _ _ _) _ _ _); refine InstAt.of_K (by first | assumption | exact Frag.In.keeps (by k_asm) (Fr.keep (by k_asm))) (by k_is) (by k_is)) | (refine InstAt.of_news (by k_asm) (by k_mem) (by k_mem))
  k_with "e9" => (first | (refine code_def (by k_asm) (by k_asm) (by k_asm) (by k_asm) (by k_asm) rfl rfl (by first | exact rfl | assumption) (by k_is) (by k_is) (by ktr_room) (by first | exact BindsTo.of_eq rfl | refine kp_binds (by k_in) (by exact fun _ => rfl)) (by exact locs rfl) ?_ (by exact rfl) (by exact rfl) (by exact rfl) (by decide); k_whole; intro _ _ _ _ _ _ _ _ _; (try dsimp only); (try k_fold)) | (refine code_defC (by k_asm) (by k_asm) (by k_asm) (by k_asm) (by k_asm) rfl rfl (by first | exact rfl | assumption) (by k_is) (by k_is) (by ktr_room) (by first | exact BindsTo.of_eq rfl | refine kp_binds (by k_in) (by exact fun _ => rfl)) (by exact rfl) (by decide +kernel) ?_ (by exact rfl) (by exact rfl) (by exact rfl); k_whole; intro _ _ _ _ _ _ _ N' Y' _ _ _ l1; (try k_lt l1); (try dsimp only); (try k_fold); (first | k_cells Y' | (obtain ⟨_, _, _, _, _, hE', _, _, _, _, _⟩ := cells_five Y'; subst hE'; clear Y')); (try simp only [List.cons_append, List.nil_append] at N'); (try dsimp only); (try k_fold); (try (revert N'; intro _)); (try (revert l1; intro _))))
  k_with "ne9" => (refine neN ?_; (try dsimp only); with_reducible first | exact neU1 | exact neU2 | exact neU3 | exact neU4 | exact neD1 | exact neD2 | exact neD3 | exact neD4 | exact Nat.ne_of_gt ‹_› | exact Nat.ne_of_lt ‹_› | exact gtA1 ‹_› | exact Ne.symm (gtA1 ‹_›) | exact gtA2 ‹_› | exact Ne.symm (gtA2 ‹_›) | exact gtA3 ‹_› | exact Ne.symm (gtA3 ‹_›) | exact gtA4 ‹_› | exact Ne.symm (gtA4 ‹_›) | exact gtA5 ‹_› | exact Ne.symm (gtA5 ‹_›) | exact gtA6 ‹_› | exact Ne.symm (gtA6 ‹_›) | exact gtA7 ‹_› | exact Ne.symm (gtA7 ‹_›) | exact gtA8 ‹_› | exact Ne.symm (gtA8 ‹_›) | exact gtA9 ‹_› | exact Ne.symm (gtA9 ‹_›) | exact gtA10 ‹_› | exact Ne.symm (gtA10 ‹_›) | exact gtA11 ‹_› | exact Ne.symm (gtA11 ‹_›) | exact gtA12 ‹_› | exact Ne.symm (gtA12 ‹_›))
  k_with "room9" => (first | exact room2 ‹_› (by exact rfl) | exact room1 ‹_› (by exact rfl) | exact room0 ‹_›)
  k_with "units9" => (first | exact unit2 ‹_› (by exact rfl) | exact unit1 ‹_› (by exact rfl) | exact unit0 ‹_›)
  k_with "mem9" => (first | with_reducible assumption | with_reducible exact at0 | with_reducible exact at1 | with_reducible exact at2 | with_reducible exact at3 | with_reducible exact at4 | with_reducible exact at5 | with_reducible exact at6 | with_reducible exact at7 | with_reducible exact at8 | with_reducible exact at9 | with_reducible exact at10 | with_reducible exact at11 | with_reducible exact at12 | with_reducible exact at13 | with_reducible exact at14 | exact up1 (by with_reducible assumption) | exact up2 (by with_reducible assumption) | exact up3 (by with_reducible assumption) | exact up4 (by with_reducible assumption) | exact up5 (by with_reducible assumption) | exact up6 (by with_reducible assumption) | assumption)
  k_with "mul9" => (first | exact Bd.ok1 ‹_› ‹_› ‹_› ‹_› | exact Bd.ok2 ‹_› ‹_› ‹_› ‹_› ‹_› ‹_› ‹_› ‹_› ‹_› ‹_› ‹_› ‹_› ‹_› ‹_› ‹_› ‹_›)
  k_with "ne9" => (refine neN ?_; (try dsimp only); with_reducible first | exact neU1 | exact neU2 | exact neU3 | exact neU4 | exact neD1 | exact neD2 | exact neD3 | exact neD4 | exact Nat.ne_of_gt ‹_› | exact Nat.ne_of_lt ‹_› | exact gtA1 ‹_› | exact Ne.symm (gtA1 ‹_›) | exact gtA2 ‹_› | exact Ne.symm (gtA2 ‹_›) | exact gtA3 ‹_› | exact Ne.symm (gtA3 ‹_›) | exact gtA4 ‹_› | exact Ne.symm (gtA4 ‹_›) | exact gtA5 ‹_› | exact Ne.symm (gtA5 ‹_›) | exact gtA6 ‹_› | exact Ne.symm (gtA6 ‹_›) | exact gtA7 ‹_› | exact Ne.symm (gtA7 ‹_›) | exact gtA8 ‹_› | exact Ne.symm (gtA8 ‹_›) | exact gtA9 ‹_› | exact Ne.symm (gtA9 ‹_›) | exact gtA10 ‹_› | exact Ne.symm (gtA10 ‹_›) | exact gtA11 ‹_› | exact Ne.symm (gtA11 ‹_›) | exact gtA12 ‹_› | exact Ne.symm (gtA12 ‹_›) | exact neA1 ‹_› | exact Ne.symm (neA1 ‹_›) | exact neA2 ‹_› | exact Ne.symm (neA2 ‹_›) | exact neA3 ‹_› | exact Ne.symm (neA3 ‹_›) | exact neA4 ‹_› | exact Ne.symm (neA4 ‹_›) | exact neA5 ‹_› | exact Ne.symm (neA5 ‹_›) | exact neA6 ‹_› | exact Ne.symm (neA6 ‹_›) | exact neA7 ‹_› | exact Ne.symm (neA7 ‹_›) | exact neA8 ‹_› | exact Ne.symm (neA8 ‹_›) | exact neA9 ‹_› | exact Ne.symm (neA9 ‹_›) | (refine Nat.ne_of_gt (Nat.lt_trans ?_ ‹_›); first | exact ltA1 ‹_› | exact ltA2 ‹_› | exact ltA3 ‹_› | exact ltA4 ‹_› | exact ltA5 ‹_› | exact ltA6 ‹_› | exact ltA7 ‹_› | exact ltA8 ‹_› | exact ltA9 ‹_› | exact ltA10 ‹_› | exact ltA11 ‹_› | exact ltA12 ‹_›) | (refine Nat.ne_of_lt (Nat.lt_trans ?_ ‹_›); first | exact ltA1 ‹_› | exact ltA2 ‹_› | exact ltA3 ‹_› | exact ltA4 ‹_› | exact ltA5 ‹_› | exact ltA6 ‹_› | exact ltA7 ‹_› | exact ltA8 ‹_› | exact ltA9 ‹_› | exact ltA10 ‹_› | exact ltA11 ‹_› | exact ltA12 ‹_›))
  k_with "all9" => (first | assumption | refine neAbove ‹_› (by (try dsimp only); omega))
  k_with "execs cons" => w_strict (refine wpAny_execs_cons ?_; (try k_fold))
  k_with "eval BinOp" => w_strict (k_fold)
  k_with "eval Call" => w_strict (k_fold)
  k_with "eval Call Attribute" => w_strict (k_fold)
  k_with "eval Attribute Name" => w_strict (k_fold)
  k_with "eval Subscript" => w_strict (k_fold)
  k_with "eval Attribute Attribute" => w_strict (k_fold)
  k_with "getAttr ref" => w_strict (k_fold)
  k_with "eval Tuple" => w_strict (k_fold)
  k_with "assignInOrder" => w_strict (k_fold)
  k_with "exec Assign" => w_strict (k_fold)
  k_with "isTrue BoolOp" => w_strict (k_fold)
  k_with "isTrue Compare" => w_strict (k_fold)
  k_with "callWith ref" => w_strict (k_fold)
  trivial
theorem pickL_upto {ps : List PP} {c : Int} (h0 : 0 ≤ c) : kms_pick (refs ps).toArray.toList none (some c) = refs (ps.take c.toNat) := by
  unfold kms_pick kms_lo kms_hi
  dsimp only
  rw [if_neg (by omega)]
  simp only [List.drop_zero, Nat.sub_zero]
  rw [refs_take]
  by_cases h : c.toNat ≤ (refs ps).length
  · rw [Nat.min_eq_left h]
  · rw [Nat.min_eq_right (by omega), List.take_of_length_le (Nat.le_refl _), List.take_of_length_le (by omega)]
theorem mul_gen {prog : Program} {w : World} {A : Around} {E : Value → Shared → Prop} {s : Shared} {x y : Int} {t u : Tok} {Q : Value → Shared → Prop} (hy : y = 1000000000000000) (hx0 : 0 ≤ x) (hx : x ≤ 4) (h : ∀ aw, 0 ≤ aw → aw ≤ 4000000000000000 → Q (.int aw s.toks) { s with toks := s.toks + 1 }) : wpAny (model prog w) A (binaryOp .Mult (.int x t) (.int y u)) Q E s := by
  subst hy
  refine mul_int (h _ (by omega) (by omega)) ?_
  exact IntMulOk.of_right (by decide)
theorem pow_lit {prog : Program} {w : World} {A : Around} {E : Value → Shared → Prop} {s : Shared} {t u : Tok} {Q : Value → Shared → Prop} (h : Q (.int 1000000000000000 s.toks) { s with toks := s.toks + 1 }) : wpAny (model prog w) A (binaryOp .Pow (.int 10 t) (.int 15 u)) Q E s :=
  pow_int_small (by decide) (by decide) (by decide) (by rw [show (10 : Int) ^ (15 : Int).toNat = 1000000000000000 from by decide]; exact h)
theorem mod_gen {prog : Program} {w : World} {A : Around} {E : Value → Shared → Prop} {s : Shared} {x : Int} {n : Nat} {t u : Tok} {Q : Value → Shared → Prop} (hn : 4 ≤ n) (h : ∀ r, 0 ≤ r → r < (n : Int) - 3 → Q (.int r s.toks) { s with toks := s.toks + 1 }) : wpAny (model prog w) A (binaryOp .Mod (.int x t) (.int ((n : Int) - 3) u)) Q E s :=
  mod_int (show ((n : Int) - 3) ≠ 0 by omega) (h _ (Int.fmod_nonneg_of_pos _ (by omega)) (Int.fmod_lt_of_pos _ (by omega)))
theorem refs_drop (ps : List PP) (i : Nat) : refs (ps.drop i) = (refs ps).drop i := List.map_drop ..
theorem pickL_from {ps : List PP} {c : Int} (h0 : 0 ≤ c) : kms_pick (refs ps).toArray.toList (some c) none = refs (ps.drop c.toNat) := by
  unfold kms_pick kms_lo kms_hi
  dsimp only
  rw [if_neg (by omega), refs_drop]
  by_cases h : c.toNat ≤ (refs ps).length
  · rw [Nat.min_eq_left h, List.take_of_length_le (by rw [List.length_drop]; exact Nat.le_refl _)]
  · rw [Nat.min_eq_right (by omega), List.drop_of_length_le (Nat.le_refl _), List.drop_of_length_le (by omega)]
    simp
example : True := by
  k_with "call ref" => w_strict (k_here; (with_reducible show wpAny _ _ (call (Value.ref 542) [Value.ref _] _) _ _ _); k_dflt (refine g_points (by k_asm) (by k_asm) (by k_asm) (by k_asm) (by k_asm) (by first | exact rfl | assumption) ‹_› ‹_› ‹_› (by ktr_room) (by ktr_units) ?_; k_whole); intro _ _ _ _ _ _ _ _ _ _ _ _ _ _ _; (try k_sweep))
  k_with "call builtin:len" => w_strict (k_here; (with_reducible show wpAny _ _ (call (Value.builtin _) [Value.ref _]) _ _ _); k_dflt (refine len_refs (by k_asm) (by first | assumption | exact mhd _ | k_mem) (by omega) ?_; k_whole))
  k_with "binaryOp Mod int int" => w_strict (k_here; (with_reducible show wpAny _ _ (binaryOp Operator.Mod (Value.int _ _) (Value.int ((List.length _ : Int) - 3) _)) _ _ _); k_dflt (refine mod_gen ‹_› ?_; k_whole); intro _ _ _)
  k_with "execs cons" => w_strict (k_here; (with_reducible refine wpAny_execs_cons ?_); try dsimp only)
  k_with "binaryOp Pow int int" => w_strict (k_here; refine pow_lit ?_)
  k_with "binaryOp Mult int int" => w_strict (k_here; k_dflt (refine mul_gen (by exact rfl) (by first | exact Int.fmod_nonneg_of_pos _ (by decide) | decide) (by first | exact Int.lt_add_one_iff.mp (Int.fmod_lt_of_pos _ (by decide)) | decide) ?_; k_whole); intro _ _ _)
  k_with "subscriptTail Name Slice ref ref" => w_strict (k_here; (with_reducible show wpAny _ _ (subscriptTail _ (PySem.Expr.Slice _ _ none _) (Value.ref _) (Value.ref _)) _ _ _); k_dflt (refine kms_slice_lit (by k_asm) (by k_asm) (by first | exact listAt ‹_› ‹_› | exact listAt ‹_› (mtl _ ‹_›)) (by kmk_part) (by kmk_part) (by refine pickL_upto ?_; omega) ?_ (by with_unfolding_all rfl) (by intro _; with_unfolding_all rfl) (by simp only [List.size_toArray, refs_length, sizeLine_eq]; omega)); intro _ _ _ _ l1; (try k_lt l1); (try k_sweep); (try (revert l1; intro _)))
  k_with "subscriptTail Name Slice ref ref" => w_strict (k_here; (with_reducible show wpAny _ _ (subscriptTail _ (PySem.Expr.Slice _ _ none _) (Value.ref _) (Value.ref _)) _ _ _); k_dflt (refine kms_slice_lit (by k_asm) (by k_asm) (by first | exact listAt ‹_› ‹_› | exact listAt ‹_› (mtl _ ‹_›)) (by kmk_part) (by kmk_part) (by refine pickL_from ?_; omega) ?_ (by with_unfolding_all rfl) (by intro _; with_unfolding_all rfl) (by simp only [List.size_toArray, refs_length, sizeLine_eq]; omega)); intro _ _ _ _ l1; (try k_lt l1); (try k_sweep); (try (revert l1; intro _)))
  trivial
theorem g_halves {sc : Addr} {vs : List Value} {ns : List Int} (B : Below A₀ base outer h₀) (F : Fr h₀ L s.heap m) (X : (hd.heap_1 w.params).In h₀) (N : News h₀ L s.heap news) (T : Top p loose mean mg mb h₀) (hk : cs.kind = .function) (hS : h₀.IsList sc vs.toArray) (hI : IntsAre vs ns) (hlen : ns.length ≤ 63) (hroom : dp + 12 < recursionLimit) (hu : un + 400 < cLine)
   (ret : ∀ h' tk' T l1 l2 c1 c2 aw t (ps : List PP) (k : Nat) (news' : List (Addr × Obj)), Fr h₀ L h' m → News h₀ L h' news' → (T, ({ cls := .type "tuple", data := .seq #[.ref l1, .ref l2, .int aw t] } : Obj)) ∈ news' → (l1, W.listOf (refs (ps.take k)).toArray c1) ∈ news' → (l2, W.listOf (refs (ps.drop k)).toArray c2) ∈ news' → (∀ p ∈ news, p ∈ news') → (∀ q ∈ ps, TupAt news' q.1 q.2) → ps.Pairwise (fun a b => lxB a.2 b.2 = true) → (∀ q ∈ ps, Small q.2) → 2 ≤ k → k + 2 ≤ ps.length → ps.length ≤ 7 → 0 ≤ aw → aw ≤ 4000000000000000 → Q (.ref T) { s with heap := h', toks := tk' }) :
   wpAny (model prog w) (ktrTop dp un gd cn cs L a ccd cl outer) (call (.ref 556) [.ref sc]) Q E s := by
  obtain h9 : Tag9 (P := wpAny (model prog w) (ktrTop dp un gd cn cs L a ccd cl outer) (call (.ref 556) [.ref sc]) Q E s) (by
    refine wpAny_call ?_
    k_dflt k_enter
    rename (Fr h₀ L _ m) => FG9
    have hS9 := hS.at (fun o e => FG9.keep _ o e)
    clear hS
    k_steps
    all_goals exact ret _ _ _ _ _ _ _ _ _ _ _ _ (by k_asm) (by k_asm) (by exact mhd _) (by exact mtl _ (mtl _ (mhd _))) (by exact mtl _ (mhd _)) (by exact fun p hp => .tail _ (.tail _ (.tail _ (‹∀ p ∈ news, p ∈ _› p hp)))) (by exact fun q hq => ((‹∀ q ∈ _, TupAt _ q.1 q.2›) q hq).mono fun p hp => .tail _ (.tail _ (.tail _ hp))) (by assumption) (by assumption) (by omega) (by omega) (by assumption) (by assumption) (by assumption)) := trivial
  unfold id at h9; exact h9.get
example : True := by
  w_top off
  k_with_none
  k_with "inst9" => first | ((with_reducible show InstAt _ (@OfNat.ofNat _ _ _) _ _ _); refine InstAt.of_K (by first | assumption | exact Frag.In.keeps (by k_asm) (Fr.keep (by k_asm))) (by k_is) (by k_is)) | (refine InstAt.of_news (by k_asm) (by k_mem) (by k_mem))
  k_with "e9" => (first | (refine code_def (by k_asm) (by k_asm) (by k_asm) (by k_asm) (by k_asm) rfl rfl (by first | exact rfl | assumption) (by k_is) (by k_is) (by ktr_room) (by first | exact BindsTo.of_eq rfl | refine kp_binds (by k_in) (by exact fun _ => rfl)) (by exact locs rfl) ?_ (by exact rfl) (by exact rfl) (by exact rfl) (by decide); k_whole; intro _ _ _ _ _ _ _ _ _; (try dsimp only); (try k_fold)) | (refine code_defC (by k_asm) (by k_asm) (by k_asm) (by k_asm) (by k_asm) rfl rfl (by first | exact rfl | assumption) (by k_is) (by k_is) (by ktr_room) (by first | exact BindsTo.of_eq rfl | refine kp_binds (by k_in) (by exact fun _ => rfl)) (by exact rfl) (by decide +kernel) ?_ (by exact rfl) (by exact rfl) (by exact rfl); k_whole; intro _ _ _ _ _ _ _ N' Y' _ _ _ l1; (try k_lt l1); (try dsimp only); (try k_fold); (first | k_cells Y' | (obtain ⟨_, _, _, _, _, hE', _, _, _, _, _⟩ := cells_five Y'; subst hE'; clear Y')); (try simp only [List.cons_append, List.nil_append] at N'); (try dsimp only); (try k_fold); (try (revert N'; intro _)); (try (revert l1; intro _))))
  k_with "ne9" => (refine neN ?_; (try dsimp only); with_reducible first | exact neU1 | exact neU2 | exact neU3 | exact neU4 | exact neD1 | exact neD2 | exact neD3 | exact neD4 | exact Nat.ne_of_gt ‹_› | exact Nat.ne_of_lt ‹_› | exact gtA1 ‹_› | exact Ne.symm (gtA1 ‹_›) | exact gtA2 ‹_› | exact Ne.symm (gtA2 ‹_›) | exact gtA3 ‹_› | exact Ne.symm (gtA3 ‹_›) | exact gtA4 ‹_› | exact Ne.symm (gtA4 ‹_›) | exact gtA5 ‹_› | exact Ne.symm (gtA5 ‹_›) | exact gtA6 ‹_› | exact Ne.symm (gtA6 ‹_›) | exact gtA7 ‹_› | exact Ne.symm (gtA7 ‹_›) | exact gtA8 ‹_› | exact Ne.symm (gtA8 ‹_›) | exact gtA9 ‹_› | exact Ne.symm (gtA9 ‹_›) | exact gtA10 ‹_› | exact Ne.symm (gtA10 ‹_›) | exact gtA11 ‹_› | exact Ne.symm (gtA11 ‹_›) | exact gtA12 ‹_› | exact Ne.symm (gtA12 ‹_›))
  k_with "room9" => (first | exact room2 ‹_› (by exact rfl) | exact room1 ‹_› (by exact rfl) | exact room0 ‹_›)
  k_with "units9" => (first | exact unit2 ‹_› (by exact rfl) | exact unit1 ‹_› (by exact rfl) | exact unit0 ‹_›)
  k_with "mem9" => (first | with_reducible assumption | with_reducible exact at0 | with_reducible exact at1 | with_reducible exact at2 | with_reducible exact at3 | with_reducible exact at4 | with_reducible exact at5 | with_reducible exact at6 | with_reducible exact at7 | with_reducible exact at8 | with_reducible exact at9 | with_reducible exact at10 | with_reducible exact at11 | with_reducible exact at12 | with_reducible exact at13 | with_reducible exact at14 | exact up1 (by with_reducible assumption) | exact up2 (by with_reducible assumption) | exact up3 (by with_reducible assumption) | exact up4 (by with_reducible assumption) | exact up5 (by with_reducible assumption) | exact up6 (by with_reducible assumption) | assumption)
  k_with "mul9" => (first | exact Bd.ok1 ‹_› ‹_› ‹_› ‹_› | exact Bd.ok2 ‹_› ‹_› ‹_› ‹_› ‹_› ‹_› ‹_› ‹_› ‹_› ‹_› ‹_› ‹_› ‹_› ‹_› ‹_› ‹_›)
  k_with "ne9" => (refine neN ?_; (try dsimp only); with_reducible first | exact neU1 | exact neU2 | exact neU3 | exact neU4 | exact neD1 | exact neD2 | exact neD3 | exact neD4 | exact Nat.ne_of_gt ‹_› | exact Nat.ne_of_lt ‹_› | exact gtA1 ‹_› | exact Ne.symm (gtA1 ‹_›) | exact gtA2 ‹_› | exact Ne.symm (gtA2 ‹_›) | exact gtA3 ‹_› | exact Ne.symm (gtA3 ‹_›) | exact gtA4 ‹_› | exact Ne.symm (gtA4 ‹_›) | exact gtA5 ‹_› | exact Ne.symm (gtA5 ‹_›) | exact gtA6 ‹_› | exact Ne.symm (gtA6 ‹_›) | exact gtA7 ‹_› | exact Ne.symm (gtA7 ‹_›) | exact gtA8 ‹_› | exact Ne.symm (gtA8 ‹_›) | exact gtA9 ‹_› | exact Ne.symm (gtA9 ‹_›) | exact gtA10 ‹_› | exact Ne.symm (gtA10 ‹_›) | exact gtA11 ‹_› | exact Ne.symm (gtA11 ‹_›) | exact gtA12 ‹_› | exact Ne.symm (gtA12 ‹_›) | exact neA1 ‹_› | exact Ne.symm (neA1 ‹_›) | exact neA2 ‹_› | exact Ne.symm (neA2 ‹_›) | exact neA3 ‹_› | exact Ne.symm (neA3 ‹_›) | exact neA4 ‹_› | exact Ne.symm (neA4 ‹_›) | exact neA5 ‹_› | exact Ne.symm (neA5 ‹_›) | exact neA6 ‹_› | exact Ne.symm (neA6 ‹_›) | exact neA7 ‹_› | exact Ne.symm (neA7 ‹_›) | exact neA8 ‹_› | exact Ne.symm (neA8 ‹_›) | exact neA9 ‹_› | exact Ne.symm (neA9 ‹_›) | (refine Nat.ne_of_gt (Nat.lt_trans ?_ ‹_›); first | exact ltA1 ‹_› | exact ltA2 ‹_› | exact ltA3 ‹_› | exact ltA4 ‹_› | exact ltA5 ‹_› | exact ltA6 ‹_› | exact ltA7 ‹_› | exact ltA8 ‹_› | exact ltA9 ‹_› | exact ltA10 ‹_› | exact ltA11 ‹_› | exact ltA12 ‹_›) | (refine Nat.ne_of_lt (Nat.lt_trans ?_ ‹_›); first | exact ltA1 ‹_› | exact ltA2 ‹_› | exact ltA3 ‹_› | exact ltA4 ‹_› | exact ltA5 ‹_› | exact ltA6 ‹_› | exact ltA7 ‹_› | exact ltA8 ‹_› | exact ltA9 ‹_› | exact ltA10 ‹_› | exact ltA11 ‹_› | exact ltA12 ‹_›))
  k_with "all9" => (first | assumption | refine neAbove ‹_› (by (try dsimp only); omega))
  k_with "execs cons" => w_strict (refine wpAny_execs_cons ?_; (try k_fold))
  k_with "eval BinOp" => w_strict (k_fold)
  k_with "eval Call" => w_strict (k_fold)
  k_with "eval Call Attribute" => w_strict (k_fold)
  k_with "eval Attribute Name" => w_strict (k_fold)
  k_with "eval Subscript" => w_strict (k_fold)
  k_with "eval Attribute Attribute" => w_strict (k_fold)
  k_with "getAttr ref" => w_strict (k_fold)
  k_with "eval Tuple" => w_strict (k_fold)
  k_with "assignInOrder" => w_strict (k_fold)
  k_with "exec Assign" => w_strict (k_fold)
  k_with "isTrue BoolOp" => w_strict (k_fold)
  k_with "isTrue Compare" => w_strict (k_fold)
  k_with "callWith ref" => w_strict (k_fold)
  trivial
noncomputable def ptCls (K : Frag) : Bool := match K.lookup 132 with
  | some ⟨_, _, .cls cd, sl⟩ => (cd.mro == [.ref 132, .type "tuple", .type "object"]) && ((sl.toList[4]?) == some (some Value.none)) && (cd.bases == [.type "tuple"]) && !cd.hasDel
  | _ => false
theorem ptCls_hd (P : Params) : ptCls (hd.heap_1 P) = true := by kernel_rfl
section
variable {prog : Program} {w : World} {A : Around} {R : Result → Shared → Prop} {s : Shared}
theorem pt_cls {h : Heap} (X : (hd.heap_1 w.params).In h) : ∃ oc od cd sl, h.get? 132 = some ⟨oc, od, .cls cd, sl⟩ ∧ clsIn (hd.heap_1 w.params) 132 = some cd ∧ cd.mro = [.ref 132, .type "tuple", .type "object"] ∧ sl.toList[4]? = some (some .none) ∧ cd.bases = [.type "tuple"] ∧ cd.hasDel = false := by
  have e := ptCls_hd w.params
  unfold ptCls at e
  split at e
  · rename_i oc od cd sl ho
    simp only [Bool.and_eq_true, Bool.not_eq_true', beq_iff_eq] at e
    obtain ⟨⟨⟨e1, e2⟩, e3⟩, e4⟩ := e
    exact ⟨oc, od, cd, sl, X _ _ ho, by unfold clsIn; rw [ho], e1, e2, e3, e4⟩
  · cases e
theorem made_132 {h : Heap} (X : (hd.heap_1 w.params).In h) : Looks (model prog w) h (Bind.madeBy (.ref 132)) none := by
  obtain ⟨oc, od, cd, sl, ho, hc, h1, h2, h3, _⟩ := pt_cls X
  have hm : Looks (model prog w) h (mroOf (.ref 132)) cd.mro := (looks_clsIn X hc).andThen .now
  intro A Q E s k q
  unfold Bind.madeBy
  refine wpAny_bind (hm A _ E s k ?_)
  rw [h1, List.forIn_cons]
  refine wpAny_bind (wpAny_bind (wpAny_bind (wpAny_bind (wpAny_loadPart (k _ _ ho) (wpAny_pure ?_)))))
  dsimp only
  rw [← Array.getElem?_toList, h2]
  exact wpAny_pure (wpAny_pure (wpAny_pure q))
end
noncomputable def NewBack (K : Frag) (Q : Value → Shared → Prop) (E : Value → Shared → Prop) (r : Result) (s' : Shared) : Prop := match r with
  | .ok (.ret v) => ∃ D dx x t y u, v = .ref D ∧ s'.heap.get? D = some (ptObj dx x t y u) ∧ K.In s'.heap ∧ Q (.ref D) s'
  | .ok _ => False
  | .error e => E e s'
theorem pt_sub (P : Params) : mroIn (hd.heap_1 P) 132 (.ref 132) = some true := by kernel_rfl
theorem pt_subo (P : Params) : mroIn (hd.heap_1 P) 132 (.type "object") = some true := by kernel_rfl
theorem pt_init (P : Params) : findIn (hd.heap_1 P) (.ref 132) "__init__" = some (some (.builtin "object.__init__")) := by kernel_rfl
theorem pt_call (P : Params) : specialIn (hd.heap_1 P) (.ref 132) "__call__" = some (some (.builtin "type.__call__")) := by kernel_rfl
theorem pt_typ (P : Params) : instIn (hd.heap_1 P) (.ref 132) (.type "type") = some true := by kernel_rfl
section
variable {prog : Program} {w : World} {A : Around} {E Q : Value → Shared → Prop} {s : Shared}
theorem pt_oinit {h : Heap} {D dx : Addr} {x y : Int} {t u : Tok} {a b : Value} {g : Array GenState} {d : Drawn} {tk : Nat} {os : OsState} {R : Result → Shared → Prop} (X : (hd.heap_1 w.params).In h) (hD : h.get? D = some (ptObj dx x t y u)) (hq : R (.ok (.ret .none)) ⟨h, g, d, tk, os⟩) :
    codeAny (model prog w) A (.call (.builtin "object.__init__") ⟨[.ref D, a, b], []⟩) R ⟨h, g, d, tk, os⟩ := by
  have t1 : Looks (model prog w) h (typeOf (.ref D)) (.ref 132) := (Looks.ld hD).andThen .now
  have i1 := looks_findIn (M := model prog w) X (pt_init w.params)
  have m1 := made_132 (prog := prog) X
  have t2 : Looks (model prog w) h (isInstance (.ref D) (.type "object")) true := t1.andThen (looks_mroIn X (pt_subo _))
  refine codeAny_call_builtin oi_plain entry_oi (@check_slot (model prog w) _ _ _ "object.__init__" "object" "__init__" (.ref D) [a, b] [] _ oi_kind oi_split t2 (by unfold argsOk; kernel_rfl) ?_)
  unfold Builtin.«object.__init__»
  repeat lk
  exact hq
theorem pt_new {h : Heap} {x y : Int} {t u : Tok} {g : Array GenState} {d : Drawn} {tk : Nat} {os : OsState} {R : Result → Shared → Prop} (X : (hd.heap_1 w.params).In h)
    (hnew : ∀ A' Q', Q' (Value.ref 82) (⟨h, g, d, tk + 1, os⟩ : Shared) → wpAny (model prog w) A' (getAttr (.ref 132) "__new__") Q' (fun e s' => R (.error e) s') ⟨h, g, d, tk, os⟩)
    (hq : codeAny (model prog w) (A.under (.builtin "type.__call__" ⟨[.ref 132, .int x t, .int y u], []⟩)) (.call (.ref 82) ⟨[.ref 132, .int x t, .int y u], []⟩) (NewBack (hd.heap_1 w.params) (fun v s' => R (.ok (.ret v)) s') (fun e s' => R (.error e) s')) ⟨h, g, d, tk + 1, os⟩) :
    codeAny (model prog w) A (.call (.ref 132) ⟨[.int x t, .int y u], []⟩) R ⟨h, g, d, tk, os⟩ := by
  obtain h9 : Tag9 (P := codeAny (model prog w) A (.call (.ref 132) ⟨[.int x t, .int y u], []⟩) R ⟨h, g, d, tk, os⟩) (by
    obtain ⟨oc, od, cd, sl, hC, hc, e1, e2, e3, e4⟩ := pt_cls X
    have call := looks_specialIn (M := model prog w) X (pt_call w.params)
    have typ := looks_instIn (M := model prog w) X (pt_typ w.params)
    have m1 := made_132 (prog := prog) X
    refine codeAny_of_tree ?_
    show wpAny _ _ (callAny (.ref 132) _) _ _ _
    refine nd_load hC ?_
    show wpAny _ _ (callAny.viaDunder (.ref 132) _) _ _ _
    unfold callAny.viaDunder
    refine wpAny_bind (call.at ?_)
    dsimp only
    rw [tc_bind]
    refine wpAny_bind (wpAny_pure (wpAny_bind (wpAny_pure ?_)))
    refine wpAny_pure (a := Fin.again (.call (.builtin "type.__call__") ⟨[.ref 132, .int x t, .int y u], []⟩)) (And.intro rfl ?_)
    refine codeAny_call_builtin_at (Code.quiet_builtin _ (by decide +kernel)) entry_typeCall (check_slot tc_kind tc_split typ (tc_args _ _ _) ?_)
    unfold Builtin.«type.__call__»
    have hm : Looks (model prog w) h (mroOf (.ref 132)) cd.mro := ((Looks.ld (part := none) hC).andThen .now).andThen .now
    have e5 : cd.mro.isEmpty = false := by rw [e1]; rfl
    repeat ((fail_if_success (with_reducible show wpAny _ _ (getAttr _ _ _) _ _ _)); (fail_if_success (with_reducible show wpAny _ _ (getAttr _ _) _ _ _)); first | simp only [e5, Bool.false_eq_true, if_false] | lk)
    refine hnew _ _ ?_
    clear hnew call typ m1 hm
    repeat (first | with_reducible refine wpAny_call ?_ | lk)
    refine codeAny_mono hq fun r s' z => ?_
    rcases r with e | (v | _ | _ | _) <;> first | exact z | exact z.elim | skip
    obtain ⟨D, dx, x', t', y', u', rfl, hD, X', z⟩ := z
    obtain ⟨h', g', d', tk', os'⟩ := s'
    have t1 : Looks (model prog w) h' (typeOf (.ref D)) (.ref 132) := (Looks.ld hD).andThen .now
    have i1 := looks_findIn (M := model prog w) X' (pt_init w.params)
    have s1 : Looks (model prog w) h' (isSubtype (.ref 132) (.ref 132)) true := looks_mroIn X' (pt_sub _)
    have b1 : Looks (model prog w) h' (bindSpecial (.builtin "object.__init__") (.ref D)) (.builtin "object.__init__", [.ref D]) := Looks.of_pure (oi_bind _)
    unfold isInstance callSpecial? specialOf
    repeat (first | with_reducible refine wpAny_call ?_ | lk)
    refine pt_oinit X' hD ?_
    repeat (first | with_reducible refine wpAny_call ?_ | lk)
    exact z) := trivial
  unfold id at h9; exact h9.get
end
theorem madeBy_tuple : Bind.madeBy (.type "tuple") = pure (some "tuple.__new__") := by kernel_rfl
theorem best_tuple : Builtin.Slots.bestBase [.type "tuple"] = pure (.type "tuple") := by kernel_rfl
theorem tn_kind : builtinKind "tuple.__new__" = some .builtinFn := by decide +kernel
theorem tn_split : splitId "tuple.__new__" = some ("tuple", "__new__") := by decide +kernel
theorem tn_quiet : "tuple.__new__".startsWith "lifetime." = false := by decide +kernel
theorem pt_subt (P : Params) : mroIn (hd.heap_1 P) 132 (.type "tuple") = some true := by kernel_rfl
section
variable {prog : Program} {w : World} {A : Around} {E Q : Value → Shared → Prop} {s : Shared}
theorem static_132 {h : Heap} (X : (hd.heap_1 w.params).In h) : Looks (model prog w) h (Bind.staticBase (.ref 132)) (.type "tuple") := by
  obtain h9 : Tag9 (P := Looks (model prog w) h (Bind.staticBase (.ref 132)) (.type "tuple")) (by
    obtain ⟨oc, od, cd, sl, ho, hc, h1, h2, h3, _⟩ := pt_cls X
    have hm : Looks (model prog w) h (mroOf (.ref 132)) cd.mro := (looks_clsIn X hc).andThen .now
    have made := made_132 (prog := prog) X
    have made2 : Looks (model prog w) h (Bind.madeBy (.type "tuple")) (some "tuple.__new__") := Looks.of_pure madeBy_tuple
    have best : Looks (model prog w) h (Builtin.Slots.bestBase cd.bases) (.type "tuple") := h3 ▸ Looks.of_pure best_tuple
    have cdl := looks_clsIn (M := model prog w) X hc
    intro A Q E s k q
    unfold Bind.staticBase
    refine wpAny_bind (hm A _ E s k ?_)
    rw [h1, List.forIn_cons]
    refine wpAny_bind (wpAny_bind ?_)
    dsimp only
    refine wpAny_bind (made A _ E s k ?_)
    simp only [Option.isSome_none, Bool.false_eq_true, if_false]
    refine wpAny_bind (cdl A _ E s k ?_)
    refine wpAny_bind (best A _ E s k ?_)
    refine wpAny_pure ?_
    dsimp only
    rw [List.forIn_cons]
    refine wpAny_bind ?_
    dsimp only
    refine wpAny_bind (made2 A _ E s k ?_)
    simp only [Option.isSome_some, if_true]
    exact wpAny_pure (wpAny_pure (wpAny_pure q))) := trivial
  unfold id at h9; exact h9.get
theorem tup_new {h : Heap} {T : Addr} {a b : Value} {n : Nat} {g : Array GenState} {d : Drawn} {tk : Nat} {os : OsState} {R : Result → Shared → Prop} (X : (hd.heap_1 w.params).In h) (hT : h.get? T = some { cls := .type "tuple", data := .seq #[a, b] n })
    (hq : ∀ (h1 : Heap) (dx : Addr), (∀ b o, h.get? b = some o → h1.get? b = some o) → (∀ b o, h.get? b = some o → b < dx) → @LT.lt Nat _ dx h1.objs.size → h1.get? dx = some (dictOf [] 0) → h.get? dx = none → R (.ok (.ret (.ref h1.objs.size))) ⟨h1.push { cls := .ref 132, dict := some dx, data := .seq #[a, b] }, g, d, tk, os⟩) :
    codeAny (model prog w) A (.call (.builtin "tuple.__new__") ⟨[.ref 132, .ref T], []⟩) R ⟨h, g, d, tk, os⟩ := by
  obtain h9 : Tag9 (P := codeAny (model prog w) A (.call (.builtin "tuple.__new__") ⟨[.ref 132, .ref T], []⟩) R ⟨h, g, d, tk, os⟩) (by
    obtain ⟨oc, od, cd, sl, hC, hc, e1, e2, e3, e4⟩ := pt_cls X
    have typ := looks_instIn (M := model prog w) X (pt_typ w.params)
    have sub : Looks (model prog w) h (isSubtype (.ref 132) (.type "tuple")) true := looks_mroIn X (pt_subt _)
    have st := static_132 (prog := prog) X
    have made2 : Looks (model prog w) h (Bind.madeBy (.type "tuple")) (some "tuple.__new__") := Looks.of_pure madeBy_tuple
    have i1 := looks_findIn (M := model prog w) X (pt_init w.params)
    refine codeAny_call_builtin_code (Code.quiet_builtin _ tn_quiet) ?_
    simp only [checkBuiltinCall, tn_kind, tn_split]
    repeat (first | simp only [bne_self_eq_false, Bool.false_eq_true, if_false, Bool.not_true] | lk)
    refine codeAny_builtin F.entry_tuple_new ?_
    unfold Builtin.«tuple.__new__»
    repeat ((fail_if_success (with_reducible show wpAny _ _ (collect _) _ _ _)); first | simp only [bne_self_eq_false, Bool.false_eq_true, if_false, Bool.not_true] | lk)
    have hC' := hC
    refine wpAny_collect_seq T (.inr rfl) hT rfl rfl (fun h' hk => ?_) (by rw [sizeLine_eq]; exact Nat.le_of_ble_eq_true rfl)
    refine wpAny_bind (wpAny_pure (wpAny_bind (wpAny_alloc (wpAny_bind ?_))))
    unfold newObj
    dsimp only
    rw [if_neg (by rw [sizeLine_eq]; exact Nat.not_lt.mpr (Nat.le_of_ble_eq_true rfl))]
    unfold newObjAsIs classHasDel
    refine wpAny_bind (wpAny_alloc (wpAny_bind (wpAny_bind (wpAny_load (Heap.get?_push_of_some _ (Heap.get?_push_of_some _ (hk _ _ hC))) (wpAny_pure ?_)))))
    rw [e4]
    refine wpAny_pure (wpAny_pure ?_)
    exact hq (h'.push emptyDict) h'.objs.size (fun b o e => Heap.get?_push_of_some _ (hk b o e)) (fun b o e => Heap.lt_size (hk b o e)) (by rw [Heap.size_push]; exact Nat.lt_succ_self _) (Heap.get?_push_size _ rfl) (by
      cases e : h.get? h'.objs.size with
      | none => rfl
      | some o => exact absurd (Heap.lt_size (hk _ _ e)) (Nat.lt_irrefl _))) := trivial
  unfold id at h9; exact h9.get
end
section
variable {prog : Program} {w : World} {A : Around} {E Q : Value → Shared → Prop} {s : Shared}
theorem tup_new_K {h₀ : Heap} {L T : Addr} {m : Str → Option Value} {news : List (Addr × Obj)} {a b : Value} {n : Nat} (F : Fr h₀ L s.heap m) (X : (hd.heap_1 w.params).In h₀) (N : News h₀ L s.heap news) (mT : (T, ({ cls := .type "tuple", data := .seq #[a, b] n } : Obj)) ∈ news)
    (h : ∀ D dx h', Fr h₀ L h' m → News h₀ L h' ((D, ({ cls := .ref 132, dict := some dx, data := .seq #[a, b] } : Obj)) :: (dx, dictOf [] 0) :: news) → (∀ p ∈ news, p.1 < dx) → @LT.lt Nat _ dx D → Q (.ref D) { s with heap := h' }) :
    wpAny (model prog w) A (call (.builtin "tuple.__new__") [.ref 132, .ref T]) Q E s := by
  obtain ⟨hp, g, d, tk, os⟩ := s
  refine wpAny_call (tup_new (X.keeps F.keep) (N _ mT).1 fun h1 dx hk hlt hdx hd hn => ?_)
  have F1 : Fr h₀ L h1 m := F.keeps hk
  have hLt : @LT.lt Nat _ L hp.objs.size := F.ns.lt
  obtain ⟨oL, hoL, _⟩ := LCg.ns_obj F.ns
  have hLdx : @LT.lt Nat _ L dx := hlt _ _ hoL
  have hf : ∀ a, @LE.le Nat _ dx a → h₀.get? a = none := fun a ha => Heap.get?_none_of_le (Nat.le_trans F.above (Nat.le_of_lt (Nat.lt_of_lt_of_le hLdx ha)))
  refine h _ dx _ (F1.push _) (fun p hp' => ?_) (fun p hp' => hlt _ _ (N p hp').1) hdx
  rcases List.mem_cons.mp hp' with rfl | hp'
  · exact ⟨Heap.get?_push_size _ rfl, Ne.symm (Nat.ne_of_lt (Nat.lt_trans hLdx hdx)), hf _ (Nat.le_of_lt hdx)⟩
  rcases List.mem_cons.mp hp' with rfl | hp'
  · exact ⟨Heap.get?_push_of_some _ hd, Ne.symm (Nat.ne_of_lt hLdx), hf _ (Nat.le_refl _)⟩
  · exact ⟨Heap.get?_push_of_some _ (hk _ _ (N p hp').1), (N p hp').2⟩
theorem fc_tnew (P : Params) : findCls (hd.heap_1 P) (.type "tuple") (.type "type") "__new__" = some (.val (.builtin "tuple.__new__")) := by k_dflt k_is
theorem tuple_newm {h₀ : Heap} {L : Addr} {m : Str → Option Value} {pl : Sem Bool} {Q : Value × List Value → Shared → Prop} (F : Fr h₀ L s.heap m) (X : (hd.heap_1 w.params).In h₀)
    (h : Q (.builtin "tuple.__new__", []) { s with toks := s.toks + 1 }) : wpAny (model prog w) A (getMethod (.type "tuple") "__new__" pl) Q E s := by
  refine method_type (K := hd.heap_1 w.params) (T := "tuple") (v := .builtin "tuple.__new__") (name := "__new__") F X ?a ?b ?c ?d h
  case a => exact ty_tuple
  case b => exact stub_tuple
  case c => exact fc_tnew _
  case d => decide +kernel
end
example : True := by
  k_with "getMethod type:tuple" => w_strict (k_here; k_dflt (refine tuple_newm (by k_asm) (by k_asm) ?_; k_whole))
  k_with "call builtin:tuple.__new__" => w_strict (k_here; k_dflt (refine tup_new_K (by k_asm) (by k_asm) (by k_asm) (by exact mhd _) ?_; k_whole); intro _ _ _ _ _ _ _)
  trivial
theorem g_pt {x y : Int} {t u : Tok} (B : Below A₀ base outer h₀) (F : Fr h₀ L s.heap m) (X : (hd.heap_1 w.params).In h₀) (N : News h₀ L s.heap news) (T : Top p loose mean mg mb h₀) (hk : cs.kind = .function) (hroom : dp + 8 < recursionLimit) (hu : un + 300 < cLine)
   (ret : ∀ h' tk' D dx t' u', Fr h₀ L h' m → News h₀ L h' ((D, ptObj dx x t' y u') :: (dx, dictOf [] 0) :: news) → (∀ p ∈ news, p.1 < dx) → @LT.lt Nat _ dx D → Q (.ref D) { s with heap := h', toks := tk' }) :
   wpAny (model prog w) (ktrTop dp un gd cn cs L a ccd cl outer) (call (.ref 132) [.int x t, .int y u]) Q E s := by
  obtain h9 : Tag9 (P := wpAny (model prog w) (ktrTop dp un gd cn cs L a ccd cl outer) (call (.ref 132) [.int x t, .int y u]) Q E s) (by
    obtain ⟨hp, g, d, tk, os⟩ := s
    refine wpAny_call (pt_new (X.keeps F.keep) ?hnew ?_)
    case hnew =>
      intro A' Q' hq
      k_dflt (refine' cls_sm (p := 133) (f := .ref 82) (rest := []) (s := ⟨hp, g, d, tk, os⟩) F X ?hm ?hr ?e ?hp9 ?hv hq; (case hm => k_is); (case hr => k_is); (case e => k_is); (case hp9 => k_is); (case hv => rfl))
    k_dflt k_enter
    k_steps
    rename (News h₀ L _ _) => kN9
    rename (Fr h₀ L _ _) => kF9
    rename (∀ p ∈ _ :: news, @LT.lt Nat _ p.1 _) => l19
    rename (@LT.lt Nat _ _ _) => l29
    exact ⟨_, _, _, _, _, _, rfl, (kN9 _ (mhd _)).1, X.keeps kF9.keep, ret _ _ _ _ _ _ kF9 (fun p hp => kN9 p (by
      rcases List.mem_cons.mp hp with rfl | hp
      · exact .head _
      rcases List.mem_cons.mp hp with rfl | hp
      · exact .tail _ (.head _)
      · exact .tail _ (.tail _ (.tail _ hp)))) (fun p hp => l19 p (.tail _ hp)) l29⟩) := trivial
  unfold id at h9; exact h9.get
example : True := by
  w_top off
  trivial
noncomputable abbrev shiftP (aw : Int) (p : Int × Int) : Int × Int := (p.1 + aw, p.2 - aw)
noncomputable def xyOf (aw : Int) (ps : List PP) (i : Nat) : Int × Int := match ps[i]? with
  | some q => shiftP aw q.2
  | none => (0, 0)
theorem xyOf_bnd {aw : Int} {ps : List PP} (ha0 : 0 ≤ aw) (ha4 : aw ≤ 4000000000000000) (hs : ∀ q ∈ ps, Small q.2) (k : Nat) : (-2 ^ 60 < (xyOf aw ps k).1 ∧ (xyOf aw ps k).1 < 2 ^ 60) ∧ (-2 ^ 60 < (xyOf aw ps k).2 ∧ (xyOf aw ps k).2 < 2 ^ 60) := by
  unfold xyOf
  split
  · rename_i q hq
    have := hs q (List.mem_of_getElem? hq)
    unfold Small at this
    dsimp only [shiftP]
    exact ⟨⟨Int.lt_of_lt_of_le (by decide +kernel) (Int.add_nonneg this.1 ha0), Int.lt_of_lt_of_le (Int.add_lt_add_of_lt_of_le this.2.1 ha4) (by decide +kernel)⟩, Int.lt_of_lt_of_le (by decide +kernel) (Int.sub_le_sub this.2.2.1 ha4), Int.lt_of_le_of_lt (Int.sub_le_self _ ha0) (Int.lt_trans this.2.2.2 (by decide +kernel))⟩
  · decide
noncomputable def nriF (l : List (Addr × Obj)) : List (Addr × Obj) := l.filter fun p => @decide (NRI p.2) (Classical.propDecidable _)
theorem mem_nriF {l : List (Addr × Obj)} {p : Addr × Obj} : p ∈ nriF l ↔ p ∈ l ∧ NRI p.2 := by unfold nriF; rw [List.mem_filter, @decide_eq_true_iff _ (Classical.propDecidable _)]
theorem NRI.rf {o : Obj} {c : Addr} (h : o.cls = .ref c) : NRI o := .inl fun e => by rw [h] at e; cases e
theorem PtAt.nriF {l : List (Addr × Obj)} {a : Addr} {p : Int × Int} (h : PtAt l a p) : PtAt (Mine.nriF l) a p := let ⟨t, u, d, m1, m2⟩ := h; ⟨t, u, d, mem_nriF.mpr ⟨m1, NRI.rf rfl⟩, mem_nriF.mpr ⟨m2, NRI.ty (T := "dict") rfl (by decide)⟩⟩
theorem lex_shift {a x y x' y' : Int} (h : x < x' ∨ x = x' ∧ y < y') : x + a < x' + a ∨ x + a = x' + a ∧ y - a < y' - a := h.imp (fun h => Int.add_lt_add_right h a) (And.imp (congrArg (· + a)) fun h => Int.sub_lt_sub_right h a)
theorem lex_asym {x y x' y' : Int} (h : x < x' ∨ x = x' ∧ y < y') (g : x' < x ∨ x' = x ∧ y' < y) : False := h.elim (fun h => g.elim (Int.lt_asymm h) (fun g => Int.ne_of_gt h g.1)) fun h => g.elim (fun g => Int.ne_of_gt g h.1) (fun g => Int.lt_asymm h.2 g.2)
theorem map_lt {pps ps : List PP} {aw : Int} (hm : pps.map (·.2) = ps.map fun q => shiftP aw q.2) (hpw : ps.Pairwise fun a b => lxB a.2 b.2 = true) : pps.Pairwise fun a b => lxB a.2 b.2 = true := by
  have h1 : (ps.map fun q => shiftP aw q.2).Pairwise fun a b => lxB a b = true := by
    rw [List.pairwise_map]
    refine hpw.imp fun {a b} h => ?_
    have := of_decide_eq_true h
    exact decide_eq_true (by dsimp only [shiftP]; exact lex_shift this)
  rw [← hm, List.pairwise_map] at h1
  exact h1
theorem map_xy {pps ps : List PP} {aw : Int} {xy : Nat → Int × Int} (hxy : ∀ i q, ps[i]? = some q → xy i = shiftP aw q.2) (hm : pps.map (·.2) = ps.map fun q => shiftP aw q.2) (i : Nat) (q : PP) (h : pps[i]? = some q) : xy i = q.2 := by
  have e := congrArg (fun l => l[i]?) hm
  simp only [List.getElem?_map, h, Option.map_some] at e
  cases e2 : ps[i]? with
  | none => rw [e2] at e; cases e
  | some z => rw [e2] at e; exact (hxy i z e2).trans (Option.some.inj e).symm
theorem Rep.nil {P : Params} {news : List (Addr × Obj)} {cx : Addr} {pps : List PP} {xy : Nat → Int × Int} (hx : ∀ i q, pps[i]? = some q → xy i = q.2) (hp : ∀ q ∈ pps, PtAt news q.1 q.2) (hb : ∀ k : Nat, (-2 ^ 60 < (xy k).1 ∧ (xy k).1 < 2 ^ 60) ∧ (-2 ^ 60 < (xy k).2 ∧ (xy k).2 < 2 ^ 60)) (hc : ∃ dcx, (cx, instObj 261 dcx) ∈ news ∧ (dcx, dictOf [] 0) ∈ news) : Rep P news cx (pps.map (·.1)) xy [] [] where
  len := rfl
  nd := fun i j a a' d h => by simp at h
  inst := fun i a d h => by simp at h
  dict := fun i a d e h => by simp at h
  pin := fun k a h => by
    rw [List.getElem?_map] at h
    cases e : pps[k]? with
    | none => rw [e] at h; cases h
    | some q =>
      rw [e] at h
      cases h
      rw [hx k q e]
      exact hp q (List.mem_of_getElem? e)
  bnd := hb
  ctx := hc
theorem made_end {h₀ h' : Heap} {L I C D D2 dx : Addr} {m : Str → Option Value} {s₁ : Shared} {oI oC oD : Obj} {S : List (Addr × Obj) → Prop} {x y : Int} {t u : Tok} {nl LED : List (Addr × Obj)} {pps : List PP} {tk : Nat} {f2 : Int × Int} (F : Fr h₀ L h' m) (N : News h₀ L h' ((D2, ptObj dx x t y u) :: (dx, dictOf [] 0) :: (I, oI) :: (C, oC) :: (D, oD) :: nl))
    (l : ∀ p ∈ (I, oI) :: (C, oC) :: (D, oD) :: nl, p.1 < dx) (l2 : @LT.lt Nat _ dx D2) (off : LCg.Off3 I C D nl) (hS : S ((D2, ptObj dx x t y u) :: (dx, dictOf [] 0) :: nl)) (hpp : ∀ z ∈ pps, PtAt nl z.1 z.2) (hL : ∀ p ∈ LED, p ∈ nl) (e : f2 = (x, y)) :
    LCg.CompEnd h₀ L m s₁ I oI C oC D oD S (fun v news' => ∃ D2, v = .ref D2 ∧ PtAt news' D2 f2 ∧ (∀ z ∈ pps, PtAt news' z.1 z.2) ∧ ∀ p ∈ LED, p ∈ news') (.ref D2) { s₁ with heap := h', toks := tk } := by
  have q1 : @LT.lt Nat _ I dx := l _ (.head _)
  have q2 : @LT.lt Nat _ C dx := l _ (.tail _ (.head _))
  have q3 : @LT.lt Nat _ D dx := l _ (.tail _ (.tail _ (.head _)))
  subst e
  refine LCg.CompEnd.intro F N ((D2, ptObj dx x t y u) :: (dx, dictOf [] 0) :: nl) ?sub ?off hS ⟨D2, rfl, ⟨t, u, dx, .head _, .tail _ (.head _)⟩, fun z hz => (hpp z hz).mono fun p hp => .tail _ (.tail _ hp), fun p hp => .tail _ (.tail _ (hL p hp))⟩
  case sub =>
    intro p hp
    simp only [List.mem_cons] at hp ⊢
    rcases hp with h | h | h | h | h | h <;> simp only [h, true_or, or_true]
  case off => exact ⟨⟨Ne.symm (Nat.ne_of_lt (Nat.lt_trans q1 l2)), Ne.symm (Nat.ne_of_lt (Nat.lt_trans q2 l2)), Ne.symm (Nat.ne_of_lt (Nat.lt_trans q3 l2))⟩, ⟨Ne.symm (Nat.ne_of_lt q1), Ne.symm (Nat.ne_of_lt q2), Ne.symm (Nat.ne_of_lt q3)⟩, off⟩
section
variable {prog : Program} {w : World} {A : Around} {E : Value → Shared → Prop} {s : Shared}
theorem sub_tup0 {h₀ : Heap} {L T : Addr} {led : List (Addr × Obj)} {x y : Int} {t u v : Tok} {value slice : PySem.Expr} {Q : Value → Shared → Prop} (N : News h₀ L s.heap led) (m : (T, tupObj x t y u) ∈ led) (h : Q (.int x t) s)
    (hs : subscripted slice false (.ref T) (.int 0 v) = operate [.ref T, .int 0 v] (getItem (.ref T) (.int 0 v))) : wpAny (model prog w) A (subscriptTail value slice (.ref T) (.int 0 v)) Q E s :=
  item_tupleT (l := [.int x t, .int y u]) (j := 0) (x := .int x t) (News.isTup N m) (by decide) (by decide) rfl rfl h hs
theorem sub_tup1 {h₀ : Heap} {L T : Addr} {led : List (Addr × Obj)} {x y : Int} {t u v : Tok} {value slice : PySem.Expr} {Q : Value → Shared → Prop} (N : News h₀ L s.heap led) (m : (T, tupObj x t y u) ∈ led) (h : Q (.int y u) s)
    (hs : subscripted slice false (.ref T) (.int 1 v) = operate [.ref T, .int 1 v] (getItem (.ref T) (.int 1 v))) : wpAny (model prog w) A (subscriptTail value slice (.ref T) (.int 1 v)) Q E s :=
  item_tupleT (l := [.int x t, .int y u]) (j := 1) (x := .int y u) (News.isTup N m) (by decide) (by decide) rfl rfl h hs
theorem made_rest {h₀ : Heap} {L : Addr} {m : Str → Option Value} {env : Env} {elt : PySem.Expr} {x : Str} {scope : Scope} {cl : List (Str × Addr)} {S : List (Addr × Obj) → Prop} {Fin : List Value → List (Addr × Obj) → Prop} {ps : List PP} {LED : List (Addr × Obj)} {f : Int × Int → Int × Int}
    (step : ∀ q pps nl I oI C oC D m₂ h tk (E' : Value → Shared → Prop), q ∈ ps → (∀ p ∈ LED, p ∈ nl) → (∀ z ∈ pps, PtAt nl z.1 z.2) → LCg.NsObj oC m₂ → m₂ x = some (.ref q.1) → Fr h₀ L h m → News h₀ L h ((I, oI) :: (C, oC) :: (D, LCg.lst (refs pps)) :: nl) → LCg.Off3 I C D nl →
      wpAny (model prog w) A (eval elt (compEnvC scope cl C env)) (LCg.CompEnd h₀ L m { s with heap := h, toks := tk } I oI C oC D (LCg.lst (refs pps)) S (fun y news' => ∃ D2, y = .ref D2 ∧ PtAt news' D2 (f q.2) ∧ (∀ z ∈ pps, PtAt news' z.1 z.2) ∧ ∀ p ∈ LED, p ∈ news')) E' { s with heap := h, toks := tk })
    (fin : ∀ pps nl, pps.map (·.2) = ps.map (fun q => f q.2) → (∀ z ∈ pps, PtAt nl z.1 z.2) → (∀ p ∈ LED, p ∈ nl) → Fin (refs pps) nl) :
    LCg.CompRest prog w A h₀ L m env elt x scope cl s S (fun i v => (refs ps).toArray[i]? = some v) Fin (refs ps).toArray.size 0 [] LED := by
  obtain h9 : Tag9 (P := LCg.CompRest prog w A h₀ L m env elt x scope cl s S (fun i v => (refs ps).toArray[i]? = some v) Fin (refs ps).toArray.size 0 [] LED) (by
    have key : ∀ (k i : Nat) (pps : List PP) (nl : List (Addr × Obj)), i + k = ps.length → pps.map (·.2) = (ps.take i).map (fun q => f q.2) → (∀ z ∈ pps, PtAt nl z.1 z.2) → (∀ p ∈ LED, p ∈ nl) →
        LCg.CompRest prog w A h₀ L m env elt x scope cl s S (fun i v => (refs ps).toArray[i]? = some v) Fin k i (refs pps) nl := by
      intro k
      induction k with
      | zero =>
        intro i pps nl hi hm hp hl
        refine LCg.CompRest.zero (fin pps nl ?_ hp hl)
        rw [hm, List.take_of_length_le (by omega)]
      | succ k ih =>
        intro i pps nl hi hm hp hl
        refine LCg.CompRest.succ fun v I oI C oC D m₂ h tk E' hv hC hx F N off _ => ?_
        have hlt : i < ps.length := by omega
        have hv' : v = .ref ps[i].1 := by
          simp only [refs, List.getElem?_toArray, List.getElem?_map, List.getElem?_eq_getElem hlt, Option.map_some] at hv
          exact (Option.some.inj hv).symm
        refine wpAny_mono (step ps[i] pps nl I oI C oC D m₂ h tk E' (List.getElem_mem hlt) hl hp hC (hv' ▸ hx) F N off) (fun y s₂ z => ?_) fun _ _ e => e
        obtain ⟨h', tk', news', e, F', N', off', hS, D2, rfl, hD2, hp', hl'⟩ := z
        refine ⟨h', tk', news', e, F', N', off', hS, ?_⟩
        have z := ih (i + 1) (pps ++ [(D2, f ps[i].2)]) news' (by omega) (by rw [List.map_append, hm, List.take_add_one, List.getElem?_eq_getElem hlt, List.map_append]; rfl) (fun q hq => (List.mem_append.mp hq).elim (hp' q) fun hq => by rw [List.mem_singleton.mp hq]; exact hD2) hl'
        have e2 : refs (pps ++ [(D2, f ps[i].2)]) = refs pps ++ [.ref D2] := by simp [refs]
        rw [e2] at z
        exact z
    have e : (refs ps).toArray.size = ps.length := by rw [List.size_toArray, refs_length]
    rw [e]
    exact key ps.length 0 [] LED (Nat.zero_add _) rfl (fun _ h => absurd h List.not_mem_nil) fun _ h => h) := trivial
  unfold id at h9; exact h9.get
end
theorem shape5 {xy : Nat → Int × Int} : ∀ {l : List PP}, (∀ i q, l[i]? = some q → xy i = q.2) → 2 ≤ l.length → l.length ≤ 5 →
    (∃ a b, l = [(a, xy 0), (b, xy 1)]) ∨ (∃ a b c, l = [(a, xy 0), (b, xy 1), (c, xy 2)]) ∨ (∃ a b c d, l = [(a, xy 0), (b, xy 1), (c, xy 2), (d, xy 3)]) ∨ ∃ a b c d e, l = [(a, xy 0), (b, xy 1), (c, xy 2), (d, xy 3), (e, xy 4)]
  | [a, b], h, _, _ => .inl ⟨a.1, b.1, by rw [h 0 _ rfl, h 1 _ rfl]⟩
  | [a, b, c], h, _, _ => .inr (.inl ⟨a.1, b.1, c.1, by rw [h 0 _ rfl, h 1 _ rfl, h 2 _ rfl]⟩)
  | [a, b, c, d], h, _, _ => .inr (.inr (.inl ⟨a.1, b.1, c.1, d.1, by rw [h 0 _ rfl, h 1 _ rfl, h 2 _ rfl, h 3 _ rfl]⟩))
  | [a, b, c, d, e], h, _, _ => .inr (.inr (.inr ⟨a.1, b.1, c.1, d.1, e.1, by rw [h 0 _ rfl, h 1 _ rfl, h 2 _ rfl, h 3 _ rfl, h 4 _ rfl]⟩))
  | [], _, h, _ => absurd h (by decide)
  | [_], _, h, _ => absurd h (by simp)
  | _ :: _ :: _ :: _ :: _ :: _ :: l, _, _, h => absurd h (by simp only [List.length_cons]; omega)
theorem c_del {cx lp : Addr} {k0 : Nat} {pps : List PP} {xy : Nat → Int × Int} {fin : List ERec × Nat × Nat} {Rr : Result → Shared → Prop} (B : Below A₀ base outer h₀) (F : Fr h₀ L s.heap m) (X : (hd.heap_1 w.params).In h₀) (N : News h₀ L s.heap news) (T : Top p loose mean mg mb h₀) (hk : cs.kind = .function) (hnri : ∀ p ∈ news, NRI p.2) (hx : ∀ i q, pps[i]? = some q → xy i = q.2) (R : Rep w.params news cx (pps.map (·.1)) xy [] []) (ml : (lp, W.listOf (refs pps).toArray k0) ∈ news) (hord : pps.Pairwise fun a b => lxB a.2 b.2 = true) (h2 : 2 ≤ pps.length) (h5 : pps.length ≤ 5) (hroom : dp + 40 < recursionLimit) (hu : un + 600 < cLine)
   (hrun : (delD pps.length).run (truth xy) = some fin)
   (ret : ∀ h' tk' news' al' gs' x d lx ld rx rd, Fr h₀ L h' m → News h₀ L h' news' → Rep w.params news' cx (pps.map (·.1)) xy al' fin.1 → Step [] news al' news' →
     TAt w.params news' x d cx lx rx → al'[fin.2.1]? = some (lx, ld) → al'[fin.2.2]? = some (rx, rd) → (∀ p ∈ news, p.1 < d) → (∀ p ∈ news', NRI p.2) → (AllBare s.gens → AllBare gs') → Rr (.ok (.ret (.ref x))) { s with heap := h', toks := tk', gens := gs' }) :
   codeAny (model prog w) (ktrTop dp un gd cn cs L a ccd cl outer) (.call (.ref 444) ⟨[.ref 481, .ref lp], [(Str.ofString "context", .ref cx)]⟩) Rr s := by
  have hnd : pps.Pairwise fun a b => a.2 ≠ b.2 := hord.imp fun h e => by
    rw [e] at h
    have := of_decide_eq_true h
    omega
  rcases shape5 hx h2 h5 with ⟨p0, p1, rfl⟩ | ⟨p0, p1, p2, rfl⟩ | ⟨p0, p1, p2, p3, rfl⟩ | ⟨p0, p1, p2, p3, p4, rfl⟩
  · skip
    exact c_del_2 (p2 := p0) (p3 := p0) (p4 := p0) (f3 := ([], 0, 0)) B F X N T hk hnri R rfl ml hnd hord hroom hu rfl (Option.some.inj (show some (mkE [] 0 1, 0, opp (mkE [] 0 1) 0) = some fin from hrun)).symm ret
  · skip
    exact c_del_3 (p3 := p0) (p4 := p0) (f3 := ([], 0, 0)) B F X N T hk hnri R rfl ml hnd hord hroom hu rfl (show (triThree [] 0 1 2).run (truth xy) = some fin from hrun) ret
  · skip
    exact c_del_4 (p4 := p0) B F X N T hk hnri R rfl ml hnd hord hroom hu rfl (show (mergeD 6 6 6 (mkE (mkE [] 0 1) 2 3) 0 (opp (mkE [] 0 1) 0) 4 (opp (mkE (mkE [] 0 1) 2 3) 4)).run (truth xy) = some fin from hrun) ret
  · skip
    have hr : ((triThree (mkE [] 0 1) 2 3 4).bind fun x => mergeD 6 6 6 x.1 0 (opp (mkE [] 0 1) 0) x.2.1 x.2.2).run (truth xy) = some fin := hrun
    rw [DT.run_bind] at hr
    obtain ⟨f3, q3, q4⟩ := Option.bind_eq_some_iff.mp hr
    exact c_del_5 B F X N T hk hnri R rfl ml hnd hord hroom hu q3 q4 ret
example : True := by
  k_with "callWith ref" => w_strict (k_here; k_dflt (refine callWith_MKW (by k_asm) (by k_asm) (by first | exact mhd _ | k_mem) (by k_is) (by exact rfl) ?_; k_whole))
  k_with "eval ListComp" => w_strict (k_here; refine Halt.of ?_)
  k_with "CompSrc" => w_strict (k_here; refine Halt.of ?_)
  k_with "CompEnd" => w_strict (k_here; refine Halt.of ?_)
  k_with "call ref" => w_strict (k_here; (with_reducible show wpAny _ _ (call (Value.ref _) [Value.ref _] _) _ _ _); refine Halt.of ?_)
  k_with "call ref" => w_strict (k_here; (with_reducible show wpAny _ _ (call (Value.ref 132) [Value.int _ _, Value.int _ _] _) _ _ _); k_dflt (refine g_pt (by k_asm) (by k_asm) (by k_asm) (by k_asm) (by k_asm) (by first | exact rfl | assumption) (by ktr_room) (by ktr_units) ?_; k_whole); intro _ _ _ _ _ _ _ _ _ _)
  k_with "subscriptTail Name Constant ref int" => w_strict (k_here; (with_reducible show wpAny _ _ (subscriptTail _ _ (Value.ref _) (Value.int 0 _)) _ _ _); k_dflt (refine sub_tup0 (by k_asm) (by k_mem) ?_ (by with_unfolding_all rfl); k_whole))
  k_with "subscriptTail Name Constant ref int" => w_strict (k_here; (with_reducible show wpAny _ _ (subscriptTail _ _ (Value.ref _) (Value.int 1 _)) _ _ _); k_dflt (refine sub_tup1 (by k_asm) (by k_mem) ?_ (by with_unfolding_all rfl); k_whole))
  trivial
theorem g_made {l cx : Addr} {ps : List PP} {k0 : Nat} {aw : Int} {ta : Tok} {xy : Nat → Int × Int} {fin : List ERec × Nat × Nat} (B : Below A₀ base outer h₀) (F : Fr h₀ L s.heap m) (X : (hd.heap_1 w.params).In h₀) (N : News h₀ L s.heap news) (T : Top p loose mean mg mb h₀) (hk : cs.kind = .function) (hnri : ∀ p ∈ news, NRI p.2) (ml : (l, W.listOf (refs ps).toArray k0) ∈ news) (hp : ∀ q ∈ ps, TupAt news q.1 q.2) (hpw : ps.Pairwise fun a b => lxB a.2 b.2 = true) (hxy : ∀ i q, ps[i]? = some q → xy i = shiftP aw q.2) (hbnd : ∀ k : Nat, (-2 ^ 60 < (xy k).1 ∧ (xy k).1 < 2 ^ 60) ∧ (-2 ^ 60 < (xy k).2 ∧ (xy k).2 < 2 ^ 60)) (h2 : 2 ≤ ps.length) (h5 : ps.length ≤ 5)
   (hcx : ∃ dcx, (cx, instObj 261 dcx) ∈ news ∧ (dcx, dictOf [] 0) ∈ news) (hrun : (delD ps.length).run (truth xy) = some fin) (hroom : dp + 50 < recursionLimit) (hu : un + 700 < cLine)
   (ret : ∀ h' tk' news' al' gs' pts x d lx ld rx rd, Fr h₀ L h' m → News h₀ L h' news' → Rep w.params news' cx pts xy al' fin.1 → pts.length = ps.length → (∀ p ∈ news, p ∈ news' ∧ p.1 ∉ al'.map (·.2)) →
     TAt w.params news' x d cx lx rx → al'[fin.2.1]? = some (lx, ld) → al'[fin.2.2]? = some (rx, rd) → (∀ p ∈ news, p.1 < d) → (∀ p ∈ news', NRI p.2) → (AllBare s.gens → AllBare gs') → Q (.ref x) { s with heap := h', toks := tk', gens := gs' }) :
   wpAny (model prog w) (ktrTop dp un gd cn cs L a ccd cl outer) (call (.ref 561) [.ref l, .int aw ta, .ref cx]) Q E s := by
  obtain h9 : Tag9 (P := wpAny (model prog w) (ktrTop dp un gd cn cs L a ccd cl outer) (call (.ref 561) [.ref l, .int aw ta, .ref cx]) Q E s) (by
    refine wpAny_call ?_
    k_dflt k_enter
    k_steps
    unfold Halt
    rename (_ ∧ AllLt _ news) => l19
    refine' LCg.ListComp_U ?F0 ?hclos ?hcell ?hkind ?hnames ?hx ?_
    case F0 => k_asm
    case hclos => with_unfolding_all rfl
    case hcell => decide
    case hkind => rfl
    case hnames => decide
    case hx => rfl
    k_steps
    unfold Halt
    rename (News _ _ _ (_ :: _ :: news)) => NL
    rename (Fr _ _ _ _) => FL
    refine LCg.CompSrc.ledger rfl FL NL (its := (refs ps).toArray) (k := k0) (.tail _ (.tail _ ml)) (by rw [List.size_toArray, refs_length, sizeLine_eq]; omega) (fun gh => ?_)
    refine made_rest (f := shiftP aw) ?step ?fin
    case step =>
      intro q pps nl I1 oI1 C1 oC1 D1 m1 h1 tk1 E1 hq hLED hpp hC1 hx1 F1 N1 off1
      obtain ⟨tq, uq, mq⟩ := hp q hq
      have mq1 := hLED _ (.tail _ (.tail _ mq))
      have mc1 := hLED _ (.tail _ (.head _))
      have ml1 := hLED _ (.tail _ (.tail _ ml))
      k_steps
      unfold Halt
      rename (News _ _ _ (_ :: _ :: _ :: _ :: _ :: nl)) => N2
      rename (Fr _ _ _ _) => F2
      rename (∀ p ∈ _ :: _ :: _ :: nl, @LT.lt Nat _ p.1 _) => l12
      rename (@LT.lt Nat _ _ _) => l22
      exact made_end F2 N2 l12 l22 off1 (.inr ⟨_, .tail _ (.tail _ ml1), rfl, _, rfl⟩) hpp hLED rfl
    case fin =>
      intro pps nl hmap hpp hLED D1 h1 tk1 F1 N1 off1
      have mm1 := hLED _ (.head _)
      have hlen : pps.length = ps.length := by have := congrArg List.length hmap; simpa using this
      k_steps
      unfold Halt
      have N2 : News _ _ _ ((D1, LCg.lst (refs pps)) :: nriF nl) := fun p hp => by
        rcases List.mem_cons.mp hp with rfl | hp
        · exact N1 _ (.head _)
        · exact N1 _ (.tail _ (mem_nriF.mp hp).1)
      have hin : ∀ p ∈ news, p ∈ nriF nl := fun p hp => mem_nriF.mpr ⟨hLED p (.tail _ (.tail _ hp)), hnri p hp⟩
      k_dflt (refine' call_meth ?k1 ?k2 ?_)
      case k1 => exact N1
      case k2 => exact mtl _ mm1
      k_dflt (refine' c_del (pps := pps) (xy := xy) (fin := fin) ?B ?F ?X ?N ?T ?hk ?hnri ?hx ?R ?ml ?hord ?h2 ?h5 ?room ?hu ?hrun ?_)
      case B => k_asm
      case F => k_asm
      case X => k_asm
      case N => exact N2
      case T => k_asm
      case hk => rfl
      case hnri => exact List.forall_mem_cons.mpr ⟨NRI.ty (T := "list") rfl (by decide), fun p hp => (mem_nriF.mp hp).2⟩
      case hx => exact map_xy hxy hmap
      case R => exact Rep.nil (map_xy hxy hmap) (fun z hz => ((hpp z hz).nriF).mono fun p hp => .tail _ hp) hbnd (let ⟨dcx, c1, c2⟩ := hcx; ⟨dcx, .tail _ (hin _ c1), .tail _ (hin _ c2)⟩)
      case ml => exact .head _
      case hord => exact map_lt hmap hpw
      case h2 => omega
      case h5 => omega
      case room => ktr_room
      case hu => ktr_units
      case hrun => rw [hlen]; exact hrun
      intro h' tk' news' al' gs' x d lx ld rx rd F3 N3 R3 S3 T3 m1 m2 fr3 nri3 bare3
      k_steps
      refine' ret _ _ news' al' gs' (pps.map (·.1)) x d lx ld rx rd ?Fz ?Nz R3 ?lz ?kz T3 m1 m2 ?fz nri3 bare3
      case Fz => assumption
      case Nz => exact fun p9 hp9 => ‹News h₀ L _ _› p9 (by first | assumption | exact mcm _ hp9 | (repeat (first | exact hp9 | refine mcm _ ?_)))
      case lz => rw [List.length_map]; exact hlen
      case kz => exact fun p hp => S3.2 p (.tail _ (hin p hp)) (by simp)
      case fz => exact fun p hp => fr3 p (.tail _ (hin p hp))) := trivial
  unfold id at h9; exact h9.get
example : True := by
  w_top off
  trivial
theorem hullN {n : Nat} {xy : Nat → Int × Int} (h2 : 2 ≤ n) (h5 : n ≤ 5) (S : Srt n xy) : ∃ x, (delD n).run (truth xy) = some x ∧ Good n xy x := by
  match n, h2, h5, S with
  | 2, _, _, _ => exact hull2
  | 3, _, _, _ => exact hull3
  | 4, _, _, S => exact hull4 S
  | 5, _, _, S => exact hull5 S
  | 0, h, _, _ => exact absurd h (by decide)
  | 1, h, _, _ => exact absurd h (by decide)
  | n + 6, _, h, _ => exact absurd h (by omega)
theorem Rep.wfs {P : Params} {news : List (Addr × Obj)} {cx : Addr} {pts : List Addr} {xy : Nat → Int × Int} {al : List (Addr × Addr)} {st : List ERec} (R : Rep P news cx pts xy al st) : WFS st := fun i hi => by
  have hi' : i < al.length := by rw [R.len]; exact hi
  obtain ⟨_, t1, t2, t3, t4, la, ld, ra, rd, sv, x1, x2, _, _⟩ := R.at (i := i) (a := al[i].1) (d := al[i].2) (List.getElem?_eq_getElem hi')
  exact ⟨R.len ▸ (List.getElem?_eq_some_iff.mp x1).1, R.len ▸ (List.getElem?_eq_some_iff.mp x2).1⟩
theorem Rep.append {P : Params} {n1 news : List (Addr × Obj)} {cx : Addr} {pts1 pts2 : List Addr} {xy : Nat → Int × Int} {al1 al2 : List (Addr × Addr)} {st1 st2 : List ERec} (R1 : Rep P n1 cx pts1 xy al1 st1) (R2 : Rep P news cx pts2 (fun j => xy (pts1.length + j)) al2 st2)
    (hs : ∀ p ∈ n1, p ∈ news ∧ p.1 ∉ al2.map (·.2)) : Rep P news cx (pts1 ++ pts2) xy (al1 ++ al2) (joint st1 st2 pts1.length) where
  len := by unfold joint; rw [List.length_append, List.length_append, List.length_map, R1.len, R2.len]
  nd := fun i j a a' d h1 h2 => by
    have off : ∀ (i j : Nat) (a a' d : Addr), al1[i]? = some (a, d) → al2[j]? = some (a', d) → False := fun i j a a' d h1 h2 => by
      obtain ⟨_, t1, t2, t3, t4, la, ld, ra, rd, sv, _, _, _, m2⟩ := R1.at h1
      exact (hs _ m2).2 (List.mem_map.mpr ⟨(a', d), List.mem_of_getElem? h2, rfl⟩)
    by_cases hi : i < al1.length <;> by_cases hj : j < al1.length
    · rw [List.getElem?_append_left hi] at h1
      rw [List.getElem?_append_left hj] at h2
      exact R1.nd i j a a' d h1 h2
    · rw [List.getElem?_append_left hi] at h1
      rw [List.getElem?_append_right (by first | exact Nat.le_of_not_lt (by assumption) | exact Nat.le_add_right _ _ | omega)] at h2
      exact (off _ _ _ _ _ h1 h2).elim
    · rw [List.getElem?_append_right (by first | exact Nat.le_of_not_lt (by assumption) | exact Nat.le_add_right _ _ | omega)] at h1
      rw [List.getElem?_append_left hj] at h2
      exact (off _ _ _ _ _ h2 h1).elim
    · rw [List.getElem?_append_right (by first | exact Nat.le_of_not_lt (by assumption) | exact Nat.le_add_right _ _ | omega)] at h1 h2
      have := R2.nd _ _ a a' d h1 h2
      rw [← Nat.sub_add_cancel (Nat.le_of_not_lt hi), this, Nat.sub_add_cancel (Nat.le_of_not_lt hj)]
  inst := fun i a d h => by
    by_cases hi : i < al1.length
    · rw [List.getElem?_append_left hi] at h
      exact (hs _ (R1.inst i a d h)).1
    · rw [List.getElem?_append_right (by first | exact Nat.le_of_not_lt (by assumption) | exact Nat.le_add_right _ _ | omega)] at h
      exact R2.inst _ a d h
  dict := fun i a d e h1 h2 => by
    by_cases hi : i < al1.length
    · rw [List.getElem?_append_left hi] at h1
      unfold joint at h2
      rw [List.getElem?_append_left (by rw [← R1.len]; exact hi)] at h2
      obtain ⟨t1, t2, t3, t4, la, ld, ra, rd, sv, x1, x2, x3, x4⟩ := R1.dict i a d e h1 h2
      refine ⟨t1, t2, t3, t4, la, ld, ra, rd, sv, ?_, ?_, ?_, (hs _ x4).1⟩
      · rw [List.getElem?_append_left (List.getElem?_eq_some_iff.mp x1).1]; exact x1
      · rw [List.getElem?_append_left (List.getElem?_eq_some_iff.mp x2).1]; exact x2
      · match e.2.2, x3 with
        | none, x3 => exact x3
        | some k, ⟨b, hb, hv⟩ => exact ⟨b, by rw [List.getElem?_append_left (List.getElem?_eq_some_iff.mp hb).1]; exact hb, hv⟩
    · rw [List.getElem?_append_right (by first | exact Nat.le_of_not_lt (by assumption) | exact Nat.le_add_right _ _ | omega)] at h1
      unfold joint at h2
      rw [List.getElem?_append_right (by rw [← R1.len]; omega), List.getElem?_map, ← R1.len] at h2
      cases e0 : st2[i - al1.length]? with
      | none => rw [e0] at h2; cases h2
      | some e' =>
        rw [e0] at h2
        obtain rfl : shE al1.length pts1.length e' = e := Option.some.inj h2
        obtain ⟨t1, t2, t3, t4, la, ld, ra, rd, sv, x1, x2, x3, x4⟩ := R2.dict _ a d e' h1 e0
        refine ⟨t1, t2, t3, t4, la, ld, ra, rd, sv, ?_, ?_, ?_, x4⟩
        · show (al1 ++ al2)[e'.1 + al1.length]? = _
          rw [List.getElem?_append_right (by first | exact Nat.le_add_right _ _ | exact Nat.le_add_left _ _ | exact Nat.le_of_not_lt (by assumption) | omega), Nat.add_sub_cancel]; exact x1
        · show (al1 ++ al2)[e'.2.1 + al1.length]? = _
          rw [List.getElem?_append_right (by first | exact Nat.le_add_right _ _ | exact Nat.le_add_left _ _ | exact Nat.le_of_not_lt (by assumption) | omega), Nat.add_sub_cancel]; exact x2
        · show SVal (pts1 ++ pts2) (e'.2.2.map (pts1.length + ·)) sv
          match e'.2.2, x3 with
          | none, x3 => exact x3
          | some k, ⟨b, hb, hv⟩ => exact ⟨b, by show (pts1 ++ pts2)[pts1.length + k]? = some b; rw [List.getElem?_append_right (by first | exact Nat.le_add_right _ _ | exact Nat.le_add_left _ _ | exact Nat.le_of_not_lt (by assumption) | omega), Nat.add_sub_cancel_left]; exact hb, hv⟩
  pin := fun k a h => by
    by_cases hk : k < pts1.length
    · rw [List.getElem?_append_left hk] at h
      obtain ⟨t, u, m⟩ := R1.pin k a h
      exact ⟨t, u, m.mono fun p hp => (hs p hp).1⟩
    · rw [List.getElem?_append_right (by first | exact Nat.le_of_not_lt (by assumption) | exact Nat.le_add_right _ _ | omega)] at h
      obtain ⟨t, u, m⟩ := R2.pin _ a h
      have e : pts1.length + (k - pts1.length) = k := by first | exact Nat.add_sub_cancel' (Nat.le_of_not_lt (by assumption)) | omega
      rw [e] at m
      exact ⟨t, u, m⟩
  bnd := R1.bnd
  ctx := R2.ctx
theorem xy_srt {aw : Int} {ps : List PP} (hpw : ps.Pairwise fun a b => lxB a.2 b.2 = true) : Srt ps.length (xyOf aw ps) := fun i j h1 h2 => by
  have hi : i < ps.length := by omega
  have z := List.pairwise_iff_getElem.mp hpw i j hi h2 h1
  have z2 := of_decide_eq_true z
  unfold xyOf
  rw [List.getElem?_eq_getElem hi, List.getElem?_eq_getElem h2]
  unfold Lx
  dsimp only [shiftP]
  exact lex_shift z2
section
variable {prog : Program} {w : World} {A : Around} {E : Value → Shared → Prop} {s : Shared}
theorem lt_run_any {P : Fin → Shared → Prop} {pa pb : Addr} {oa ob : Obj} {n1 n2 : Nat} {x1 y1 x2 y2 : Int} {t1 u1 t2 u2 : Tok} (hi : Looks (model prog w) s.heap (isInstance (.ref pb) (.type "tuple")) true) (ha : s.heap.get? pa = some oa) (da : oa.data = .seq #[.int x1 t1, .int y1 u1] n1) (hb : s.heap.get? pb = some ob) (db : ob.data = .seq #[.int x2 t2, .int y2 u2] n2)
    (h : P (.done (.ret (.bool (lxB (x1, y1) (x2, y2))))) s) : wpAny (model prog w) A (Builtin.«tuple.__lt__» ⟨[.ref pa, .ref pb], []⟩) P E s := by
  obtain h9 : Tag9 (P := wpAny (model prog w) A (Builtin.«tuple.__lt__» ⟨[.ref pa, .ref pb], []⟩) P E s) (by
    show wpAny _ _ (isInstance (.ref pb) (.type "tuple") >>= _) _ _ s
    refine wpAny_bind (hi.here ?_)
    simp only [Bool.not_true, Bool.false_eq_true, if_false]
    refine wpAny_bind (wpAny_tupleItemsOf ha da ?_)
    refine wpAny_bind (wpAny_tupleItemsOf hb db ?_)
    refine wpAny_bind ?_
    show wpAny _ _ (forIn [(Value.int x1 t1, Value.int x2 t2), (Value.int y1 u1, Value.int y2 u2)] _ _) _ _ _
    rw [List.forIn_cons]
    refine wpAny_bind (wpAny_bind (wpAny_eqBool_int ?_))
    by_cases h1 : x1 = x2
    · rw [beq_iff_eq.mpr h1]
      refine wpAny_pure ?_
      dsimp only
      rw [List.forIn_cons]
      refine wpAny_bind (wpAny_bind (wpAny_eqBool_int ?_))
      by_cases h2 : y1 = y2
      · rw [beq_iff_eq.mpr h2]
        refine wpAny_pure ?_
        dsimp only
        rw [List.forIn_nil]
        refine wpAny_pure ?_
        have z : lxB (x1, y1) (x2, y2) = false := lxB_00 h1 h2
        rw [z] at h
        exact wpAny_bind (wpAny_pure (wpAny_pure h))
      · rw [beq_eq_false_iff_ne.mpr h2]
        have z : lxB (x1, y1) (x2, y2) = decide (y1 < y2) := lxB_eq h1
        rw [z] at h
        refine wpAny_bind ?_
        refine wpAny_rule ?_
        refine wpAny_bind ?_
        have := wpAny_lt_int (prog := prog) (w := w) (A := A) (E := E) (s := s) (a := y1) (b := y2) (t := u1) (u := u2) (Q := fun v s' => v = .bool (decide (y1 < y2)) ∧ s' = s) ⟨rfl, rfl⟩
        refine wpAny_mono (show wpAny (model prog w) A (richCompare .Lt (.int y1 u1) (.int y2 u2)) _ E s from this) (fun v s' z => ?_) fun _ _ e => e
        obtain ⟨rfl, rfl⟩ := z
        exact wpAny_bind (wpAny_pure (wpAny_pure (wpAny_pure (wpAny_pure h))))
    · rw [beq_eq_false_iff_ne.mpr h1]
      have z : lxB (x1, y1) (x2, y2) = decide (x1 < x2) := lxB_ne h1
      rw [z] at h
      refine wpAny_bind ?_
      refine wpAny_rule ?_
      refine wpAny_bind ?_
      have := wpAny_lt_int (prog := prog) (w := w) (A := A) (E := E) (s := s) (a := x1) (b := x2) (t := t1) (u := t2) (Q := fun v s' => v = .bool (decide (x1 < x2)) ∧ s' = s) ⟨rfl, rfl⟩
      refine wpAny_mono (show wpAny (model prog w) A (richCompare .Lt (.int x1 t1) (.int x2 t2)) _ E s from this) (fun v s' z => ?_) fun _ _ e => e
      obtain ⟨rfl, rfl⟩ := z
      exact wpAny_bind (wpAny_pure (wpAny_pure (wpAny_pure (wpAny_pure h))))) := trivial
  unfold id at h9; exact h9.get
theorem tup_lt_meets (pa pb : Addr) (x1 y1 x2 y2 : Int) (t1 u1 t2 u2 : Tok) : Meets (Builtin.«tuple.__lt__» ⟨[.ref pa, .ref pb], []⟩)
    (fun _ R s => s.heap.get? pa = some (tupObj x1 t1 y1 u1) ∧ s.heap.get? pb = some (tupObj x2 t2 y2 u2) ∧ R (.ok (.ret (.bool (lxB (x1, y1) (x2, y2))))) s) :=
  .of_wp fun prog w A R s h => by
    obtain ⟨h1, h2, h⟩ := h
    exact lt_run_any (P := fun fin s' => ∃ v, fin = .done (.ret v) ∧ R (.ok (.ret v)) s') (((Looks.ld h2).andThen .now).andThen (Looks.of_pure sub_tuple_self)) h1 rfl h2 rfl ⟨_, rfl, h⟩
theorem tup_lt {h₀ : Heap} {L pa pb : Addr} {news : List (Addr × Obj)} {x1 y1 x2 y2 : Int} {t1 u1 t2 u2 : Tok} {Q : Value → Shared → Prop} (hu : A.units < cLine) (N : News h₀ L s.heap news) (ha : (pa, tupObj x1 t1 y1 u1) ∈ news) (hb : (pb, tupObj x2 t2 y2 u2) ∈ news) (h : Q (.bool (lxB (x1, y1) (x2, y2))) s) : wpAny (model prog w) A (compareOp .Lt (.ref pa) (.ref pb)) Q E s :=
  richCompare_meets_room (op := .Lt) ⟨_, (N _ ha).1, rfl⟩ ⟨_, (N _ hb).1, rfl⟩ F.slot_tuple_lt F.entry_tuple_lt (F.args_tuple_lt_2 _ _) (tup_lt_meets pa pb x1 y1 x2 y2 t1 u1 t2 u2)
    ⟨(N _ ha).1, (N _ hb).1, show Value.bool (lxB (x1, y1) (x2, y2)) ≠ Value.notImplemented ∧ Q (.bool (lxB (x1, y1) (x2, y2))) s from ⟨(fun x => nomatch x), h⟩⟩ hu
end
example : True := by
  w_top off
  k_with_none
  k_with "inst9" => first | ((with_reducible show InstAt _ (@OfNat.ofNat _ _ _) _ _ _); refine InstAt.of_K (by first | assumption | exact Frag.In.keeps (by k_asm) (Fr.keep (by k_asm))) (by k_is) (by k_is)) | (refine InstAt.of_news (by k_asm) (by k_mem) (by k_mem))
  k_with "e9" => (first | (refine code_def (by k_asm) (by k_asm) (by k_asm) (by k_asm) (by k_asm) rfl rfl (by first | exact rfl | assumption) (by k_is) (by k_is) (by ktr_room) (by first | exact BindsTo.of_eq rfl | refine kp_binds (by k_in) (by exact fun _ => rfl)) (by exact locs rfl) ?_ (by exact rfl) (by exact rfl) (by exact rfl) (by decide); k_whole; intro _ _ _ _ _ _ _ _ _; (try dsimp only); (try k_fold)) | (refine code_defC (by k_asm) (by k_asm) (by k_asm) (by k_asm) (by k_asm) rfl rfl (by first | exact rfl | assumption) (by k_is) (by k_is) (by ktr_room) (by first | exact BindsTo.of_eq rfl | refine kp_binds (by k_in) (by exact fun _ => rfl)) (by exact rfl) (by decide +kernel) ?_ (by exact rfl) (by exact rfl) (by exact rfl); k_whole; intro _ _ _ _ _ _ _ N' Y' _ _ _ l1; (try k_lt l1); (try dsimp only); (try k_fold); (first | k_cells Y' | (obtain ⟨_, _, _, _, _, hE', _, _, _, _, _⟩ := cells_five Y'; subst hE'; clear Y')); (try simp only [List.cons_append, List.nil_append] at N'); (try dsimp only); (try k_fold); (try (revert N'; intro _)); (try (revert l1; intro _))))
  k_with "ne9" => (refine neN ?_; (try dsimp only); with_reducible first | exact neU1 | exact neU2 | exact neU3 | exact neU4 | exact neD1 | exact neD2 | exact neD3 | exact neD4 | exact Nat.ne_of_gt ‹_› | exact Nat.ne_of_lt ‹_› | exact gtA1 ‹_› | exact Ne.symm (gtA1 ‹_›) | exact gtA2 ‹_› | exact Ne.symm (gtA2 ‹_›) | exact gtA3 ‹_› | exact Ne.symm (gtA3 ‹_›) | exact gtA4 ‹_› | exact Ne.symm (gtA4 ‹_›) | exact gtA5 ‹_› | exact Ne.symm (gtA5 ‹_›) | exact gtA6 ‹_› | exact Ne.symm (gtA6 ‹_›) | exact gtA7 ‹_› | exact Ne.symm (gtA7 ‹_›) | exact gtA8 ‹_› | exact Ne.symm (gtA8 ‹_›) | exact gtA9 ‹_› | exact Ne.symm (gtA9 ‹_›) | exact gtA10 ‹_› | exact Ne.symm (gtA10 ‹_›) | exact gtA11 ‹_› | exact Ne.symm (gtA11 ‹_›) | exact gtA12 ‹_› | exact Ne.symm (gtA12 ‹_›))
  k_with "room9" => (first | exact room2 ‹_› (by exact rfl) | exact room1 ‹_› (by exact rfl) | exact room0 ‹_›)
  k_with "units9" => (first | exact unit2 ‹_› (by exact rfl) | exact unit1 ‹_› (by exact rfl) | exact unit0 ‹_›)
  k_with "mem9" => (first | with_reducible assumption | with_reducible exact at0 | with_reducible exact at1 | with_reducible exact at2 | with_reducible exact at3 | with_reducible exact at4 | with_reducible exact at5 | with_reducible exact at6 | with_reducible exact at7 | with_reducible exact at8 | with_reducible exact at9 | with_reducible exact at10 | with_reducible exact at11 | with_reducible exact at12 | with_reducible exact at13 | with_reducible exact at14 | exact up1 (by with_reducible assumption) | exact up2 (by with_reducible assumption) | exact up3 (by with_reducible assumption) | exact up4 (by with_reducible assumption) | exact up5 (by with_reducible assumption) | exact up6 (by with_reducible assumption) | assumption)
  k_with "mul9" => (first | exact Bd.ok1 ‹_› ‹_› ‹_› ‹_› | exact Bd.ok2 ‹_› ‹_› ‹_› ‹_› ‹_› ‹_› ‹_› ‹_› ‹_› ‹_› ‹_› ‹_› ‹_› ‹_› ‹_› ‹_›)
  k_with "ne9" => (refine neN ?_; (try dsimp only); with_reducible first | exact neU1 | exact neU2 | exact neU3 | exact neU4 | exact neD1 | exact neD2 | exact neD3 | exact neD4 | exact Nat.ne_of_gt ‹_› | exact Nat.ne_of_lt ‹_› | exact gtA1 ‹_› | exact Ne.symm (gtA1 ‹_›) | exact gtA2 ‹_› | exact Ne.symm (gtA2 ‹_›) | exact gtA3 ‹_› | exact Ne.symm (gtA3 ‹_›) | exact gtA4 ‹_› | exact Ne.symm (gtA4 ‹_›) | exact gtA5 ‹_› | exact Ne.symm (gtA5 ‹_›) | exact gtA6 ‹_› | exact Ne.symm (gtA6 ‹_›) | exact gtA7 ‹_› | exact Ne.symm (gtA7 ‹_›) | exact gtA8 ‹_› | exact Ne.symm (gtA8 ‹_›) | exact gtA9 ‹_› | exact Ne.symm (gtA9 ‹_›) | exact gtA10 ‹_› | exact Ne.symm (gtA10 ‹_›) | exact gtA11 ‹_› | exact Ne.symm (gtA11 ‹_›) | exact gtA12 ‹_› | exact Ne.symm (gtA12 ‹_›) | exact neA1 ‹_› | exact Ne.symm (neA1 ‹_›) | exact neA2 ‹_› | exact Ne.symm (neA2 ‹_›) | exact neA3 ‹_› | exact Ne.symm (neA3 ‹_›) | exact neA4 ‹_› | exact Ne.symm (neA4 ‹_›) | exact neA5 ‹_› | exact Ne.symm (neA5 ‹_›) | exact neA6 ‹_› | exact Ne.symm (neA6 ‹_›) | exact neA7 ‹_› | exact Ne.symm (neA7 ‹_›) | exact neA8 ‹_› | exact Ne.symm (neA8 ‹_›) | exact neA9 ‹_› | exact Ne.symm (neA9 ‹_›) | (refine Nat.ne_of_gt (Nat.lt_trans ?_ ‹_›); first | exact ltA1 ‹_› | exact ltA2 ‹_› | exact ltA3 ‹_› | exact ltA4 ‹_› | exact ltA5 ‹_› | exact ltA6 ‹_› | exact ltA7 ‹_› | exact ltA8 ‹_› | exact ltA9 ‹_› | exact ltA10 ‹_› | exact ltA11 ‹_› | exact ltA12 ‹_›) | (refine Nat.ne_of_lt (Nat.lt_trans ?_ ‹_›); first | exact ltA1 ‹_› | exact ltA2 ‹_› | exact ltA3 ‹_› | exact ltA4 ‹_› | exact ltA5 ‹_› | exact ltA6 ‹_› | exact ltA7 ‹_› | exact ltA8 ‹_› | exact ltA9 ‹_› | exact ltA10 ‹_› | exact ltA11 ‹_› | exact ltA12 ‹_›))
  k_with "all9" => (first | assumption | refine neAbove ‹_› (by (try dsimp only); omega))
  k_with "execs cons" => w_strict (refine wpAny_execs_cons ?_; (try k_fold))
  k_with "eval BinOp" => w_strict (k_fold)
  k_with "eval Call" => w_strict (k_fold)
  k_with "eval Call Attribute" => w_strict (k_fold)
  k_with "eval Attribute Name" => w_strict (k_fold)
  k_with "eval Subscript" => w_strict (k_fold)
  k_with "eval Attribute Attribute" => w_strict (k_fold)
  k_with "getAttr ref" => w_strict (k_fold)
  k_with "eval Tuple" => w_strict (k_fold)
  k_with "assignInOrder" => w_strict (k_fold)
  k_with "exec Assign" => w_strict (k_fold)
  k_with "isTrue BoolOp" => w_strict (k_fold)
  k_with "isTrue Compare" => w_strict (k_fold)
  k_with "callWith ref" => w_strict (k_fold)
  trivial
theorem TupAt.nriF {l : List (Addr × Obj)} {a : Addr} {p : Int × Int} (h : TupAt l a p) : TupAt (Mine.nriF l) a p := let ⟨t, u, m1⟩ := h; ⟨t, u, mem_nriF.mpr ⟨m1, NRI.ty (T := "tuple") rfl (by decide)⟩⟩
theorem refs_append (A B : List PP) : (refs A).toArray.toList ++ (refs B).toArray.toList = refs (A ++ B) := by simp [refs]
section
variable {prog : Program} {w : World} {A : Around} {E : Value → Shared → Prop} {s : Shared}
theorem notin_hit {h₀ : Heap} {L l pa : Addr} {news : List (Addr × Obj)} {ps : List PP} {k : Nat} {x y : Int} {t u : Tok} {Q : Value → Shared → Prop}
    (hu : A.units + 1 < cLine) (N : News h₀ L s.heap news) (ml : (l, W.listOf (refs ps).toArray k) ∈ news) (hp : ∀ q ∈ ps, TupAt news q.1 q.2) (ha : (pa, tupObj x t y u) ∈ news) (hh : hitB ps (x, y) = true) (h : Q (.bool false) s) : wpAny (model prog w) A (compareOp .NotIn (.ref pa) (.ref l)) Q E s :=
  notin_tups (p := (x, y)) hu N ml hp ⟨_, _, ha⟩ (by rw [hh]; exact h)
end
example : True := by
  k_with "subscriptTail Name Constant ref int" => w_strict (k_here; (with_reducible show wpAny _ _ (subscriptTail _ _ (Value.ref _) (Value.int 0 _)) _ _ _); k_dflt (refine sub_tup0 (by k_asm) (by k_mem) ?_ (by with_unfolding_all rfl); k_whole))
  k_with "subscriptTail Name Constant ref int" => w_strict (k_here; (with_reducible show wpAny _ _ (subscriptTail _ _ (Value.ref _) (Value.int 1 _)) _ _ _); k_dflt (refine sub_tup1 (by k_asm) (by k_mem) ?_ (by with_unfolding_all rfl); k_whole))
  trivial
theorem g_ptx {cx : Addr} {pts : List Addr} {xy : Nat → Int × Int} {al : List (Addr × Addr)} {st : List ERec} {i : Nat} {pa : Addr} {expr : Bool} (B : Below A₀ base outer h₀) (F : Fr h₀ L s.heap m) (X : (hd.heap_1 w.params).In h₀) (N : News h₀ L s.heap news) (T : Top p loose mean mg mb h₀) (hk : cs.kind = .function) (R : Rep w.params news cx pts xy al st) (hi : pts[i]? = some pa) (hroom : dp + 4 < recursionLimit) (hu : un + 50 < cLine)
   (ret : ∀ h' tk' t, Fr h₀ L h' m → News h₀ L h' news → Q (.int (xy i).1 t) { s with heap := h', toks := tk' }) : wpAny (model prog w) (ktrTop dp un gd cn cs L a ccd cl outer) (getAttr (.ref pa) "x" expr) Q E s :=
  let ⟨_, _, m1⟩ := R.pin _ _ hi
  raw_x B F X N T hk hroom hu m1 fun h' tk' F' N' => ret h' tk' _ F' N'
theorem g_pty {cx : Addr} {pts : List Addr} {xy : Nat → Int × Int} {al : List (Addr × Addr)} {st : List ERec} {i : Nat} {pa : Addr} {expr : Bool} (B : Below A₀ base outer h₀) (F : Fr h₀ L s.heap m) (X : (hd.heap_1 w.params).In h₀) (N : News h₀ L s.heap news) (T : Top p loose mean mg mb h₀) (hk : cs.kind = .function) (R : Rep w.params news cx pts xy al st) (hi : pts[i]? = some pa) (hroom : dp + 4 < recursionLimit) (hu : un + 50 < cLine)
   (ret : ∀ h' tk' t, Fr h₀ L h' m → News h₀ L h' news → Q (.int (xy i).2 t) { s with heap := h', toks := tk' }) : wpAny (model prog w) (ktrTop dp un gd cn cs L a ccd cl outer) (getAttr (.ref pa) "y" expr) Q E s :=
  let ⟨_, _, m1⟩ := R.pin _ _ hi
  raw_y B F X N T hk hroom hu m1 fun h' tk' F' N' => ret h' tk' _ F' N'
theorem g_turn {a1 a2 a3 : Addr} {ax ay bx b_y cx cy : Int} {t1 t2 t3 t4 t5 t6 : Tok} (B : Below A₀ base outer h₀) (F : Fr h₀ L s.heap m) (X : (hd.heap_1 w.params).In h₀) (N : News h₀ L s.heap news) (T : Top p loose mean mg mb h₀) (hk : cs.kind = .function) (m1 : (a1, tupObj ax t1 ay t2) ∈ news) (m2 : (a2, tupObj bx t3 b_y t4) ∈ news) (m3 : (a3, tupObj cx t5 cy t6) ∈ news)
   (b1 : -2 ^ 60 < ax ∧ ax < 2 ^ 60) (b2 : -2 ^ 60 < ay ∧ ay < 2 ^ 60) (b3 : -2 ^ 60 < bx ∧ bx < 2 ^ 60) (b4 : -2 ^ 60 < b_y ∧ b_y < 2 ^ 60) (b5 : -2 ^ 60 < cx ∧ cx < 2 ^ 60) (b6 : -2 ^ 60 < cy ∧ cy < 2 ^ 60)
   (hroom : dp + 4 < recursionLimit) (hu : un + 50 < cLine)
   (ret : ∀ h' tk' t, Fr h₀ L h' m → News h₀ L h' news → Q (.int ((bx - ax) * (cy - ay) - (b_y - ay) * (cx - ax)) t) { s with heap := h', toks := tk' }) : wpAny (model prog w) (ktrTop dp un gd cn cs L a ccd cl outer) (call (.ref 549) [.ref a1, .ref a2, .ref a3]) Q E s := by
  obtain h9 : Tag9 (P := wpAny (model prog w) (ktrTop dp un gd cn cs L a ccd cl outer) (call (.ref 549) [.ref a1, .ref a2, .ref a3]) Q E s) (by
    refine wpAny_call ?_
    k_dflt k_enter
    k_steps
    all_goals exact ret _ _ _ (by k_asm) (by k_asm)) := trivial
  unfold id at h9; exact h9.get
example : True := by
  w_top off
  trivial
noncomputable def KP (h₀ : Heap) (L : Addr) (y1 y2 : Str) (v1 v2 : Value) (rest : List (Addr × Obj)) (s₁ : Shared) (f : Flow) (s₂ : Shared) : Prop :=
  match f with
  | .ret _ => False
  | .brk => False
  | _ => ∃ h' tk m' news', s₂ = { s₁ with heap := h', toks := tk } ∧ Fr h₀ L h' m' ∧ m' y1 = some v1 ∧ m' y2 = some v2 ∧ News h₀ L h' news' ∧ ∀ p ∈ rest, p ∈ news'
theorem KP.mk {h₀ h' : Heap} {L : Addr} {y1 y2 : Str} {v1 v2 : Value} {rest news' : List (Addr × Obj)} {s₁ : Shared} {m' : Str → Option Value} {tk : Nat} (F : Fr h₀ L h' m') (N : News h₀ L h' news') (h1 : m' y1 = some v1) (h2 : m' y2 = some v2) (hs : ∀ p ∈ rest, p ∈ news') : KP h₀ L y1 y2 v1 v2 rest s₁ .next { s₁ with heap := h', toks := tk } := ⟨h', tk, m', news', rfl, F, h1, h2, N, hs⟩
section
variable {prog : Program} {w : World} {A : Around} {E : Value → Shared → Prop} {s : Shared} {env : Env} {h₀ : Heap} {x : Str} {body : List Stmt} {Q : Flow → Shared → Prop} {y1 y2 : Str} {v1 v2 : Value} {m₀ : Str → Option Value} {news : List (Addr × Obj)}
theorem iter_listK {l : Addr} {vs : List Value} {nn : Nat} (hh : A.handled = none) (F : Fr h₀ env.locals s.heap m₀) (N : News h₀ env.locals s.heap ((l, W.listOf vs.toArray nn) :: news)) (h1 : m₀ y1 = some v1) (h2 : m₀ y2 = some v2) (hx1 : y1 ≠ x) (hx2 : y2 ≠ x)
    (turn : ∀ (i : Nat) (v : Value) (u : Str → Option Value) h tk rest, vs[i]? = some v → Fr h₀ env.locals h (fun z => if z = x then some v else if z = y1 then some v1 else if z = y2 then some v2 else u z) → News h₀ env.locals h rest → (∀ p ∈ news, p ∈ rest) →
      wpAny (model prog w) A (execs body env) (KP h₀ env.locals y1 y2 v1 v2 rest { s with heap := h, toks := tk }) E { s with heap := h, toks := tk })
    (done : ∀ h tk (u : Str → Option Value) rest, Fr h₀ env.locals h u → News h₀ env.locals h rest → Q .next { s with heap := h, toks := tk }) :
    wpAny (model prog w) A (pyIter (.ref l)) (fun it s₂ => LoopAtV prog w A h₀ env x body Q E it s₂) E s := by
  refine kdl_iter (vs := vs) (nn := nn) (x := x) (news := (l, W.listOf vs.toArray nn) :: news) (fun _ m nx => m y1 = some v1 ∧ m y2 = some v2 ∧ ∀ p ∈ news, p ∈ nx) hh (.head _) F N ⟨h1, h2, fun _ h => .tail _ h⟩ ?turn ?done
  case turn =>
    rintro i v m₁ nx h tk own hv hoff hl ⟨e1, e2, hn⟩ F₁ N₁
    have er : (fun z => if z = x then some v else if z = y1 then some v1 else if z = y2 then some v2 else m₁ z) = fun z => if z = x then some v else m₁ z := by
      funext z
      by_cases h0 : z = x
      · simp [h0]
      by_cases h1 : z = y1
      · subst h1; simp [h0, e1]
      by_cases h2 : z = y2
      · subst h2; simp [h0, h1, e2]
      simp [h0, h1, h2]
    refine wpAny_mono (turn i v m₁ h tk (nx ++ own) hv (by rw [er]; exact F₁) N₁ fun p hp => List.mem_append.mpr (.inl (hn p hp))) (fun f s₂ z => ?_) fun _ _ z => z
    have fin : (∃ h' tk' m' news', s₂ = { ({ s with heap := h, toks := tk } : Shared) with heap := h', toks := tk' } ∧ Fr h₀ env.locals h' m' ∧ m' y1 = some v1 ∧ m' y2 = some v2 ∧ News h₀ env.locals h' news' ∧ ∀ p ∈ nx ++ own, p ∈ news') →
        InvEndG h₀ env.locals (fun m' nx => (l, W.listOf vs.toArray nn) ∈ nx ∧ m' y1 = some v1 ∧ m' y2 = some v2 ∧ ∀ p ∈ news, p ∈ nx) own { s with heap := h, toks := tk } s₂ := by
      rintro ⟨h', tk', m', news', rfl, F', a1, a2, N', hs'⟩
      exact InvEndG.intro (nx := nx) F' N' ⟨hl, a1, a2, hn⟩ hoff (fun p hp => hs' p (List.mem_append.mpr (.inl hp))) (fun p hp => hs' p (List.mem_append.mpr (.inr hp)))
    cases f with
    | ret _ => exact z.elim
    | brk => exact z.elim
    | next => exact fin z
    | cont => exact fin z
  case done => exact fun m₁ nx h tk _ F₁ N₁ => done h tk m₁ nx F₁ N₁
end
theorem law_plain {aw : Int} {ps : List PP} {kk a b i : Nat} {qs qe q : PP} (S : Srt ps.length (xyOf aw ps)) (low : Low (kk + (ps.length - kk)) (xyOf aw ps) a (kk + b)) (hpos : kk + (ps.length - kk) = ps.length) (hqs : ps[kk + b]? = some qs) (hqe : ps[a]? = some qe) (hq : ps[i]? = some q) :
    (qe.2.1 - qs.2.1) * (q.2.2 - qs.2.2) - (qe.2.2 - qs.2.2) * (q.2.1 - qs.2.1) ≤ 0 ∧ ((qe.2.1 - qs.2.1) * (q.2.2 - qs.2.2) - (qe.2.2 - qs.2.2) * (q.2.1 - qs.2.1) = 0 → lxB qe.2 q.2 = true → lxB q.2 qs.2 = true → False) := by
  obtain h9 : Tag9 (P := (qe.2.1 - qs.2.1) * (q.2.2 - qs.2.2) - (qe.2.2 - qs.2.2) * (q.2.1 - qs.2.1) ≤ 0 ∧ ((qe.2.1 - qs.2.1) * (q.2.2 - qs.2.2) - (qe.2.2 - qs.2.2) * (q.2.1 - qs.2.1) = 0 → lxB qe.2 q.2 = true → lxB q.2 qs.2 = true → False)) (by
    have hi := (List.getElem?_eq_some_iff.mp hq).1
    have hs := (List.getElem?_eq_some_iff.mp hqs).1
    have he := (List.getElem?_eq_some_iff.mp hqe).1
    have xi : xyOf aw ps i = shiftP aw q.2 := by unfold xyOf; rw [hq]
    have xs : xyOf aw ps (kk + b) = shiftP aw qs.2 := by unfold xyOf; rw [hqs]
    have xe : xyOf aw ps a = shiftP aw qe.2 := by unfold xyOf; rw [hqe]
    have l1 := low i (by omega)
    have ec : cr (xyOf aw ps) (kk + b) a i = (qe.2.1 - qs.2.1) * (q.2.2 - qs.2.2) - (qe.2.2 - qs.2.2) * (q.2.1 - qs.2.1) := by
      unfold cr crs
      rw [xi, xs, xe]
      have e1 : qe.2.1 + aw - (qs.2.1 + aw) = qe.2.1 - qs.2.1 := Int.add_sub_add_right ..
      have e2 : qe.2.2 - aw - (qs.2.2 - aw) = qe.2.2 - qs.2.2 := by omega
      have e3 : q.2.1 + aw - (qs.2.1 + aw) = q.2.1 - qs.2.1 := Int.add_sub_add_right ..
      have e4 : q.2.2 - aw - (qs.2.2 - aw) = q.2.2 - qs.2.2 := by omega
      simp only [shiftP, e1, e2, e3, e4]
    rw [ec] at l1
    have lx : ∀ {i j : Nat} {p q : PP}, ps[i]? = some p → ps[j]? = some q → i < ps.length → lxB p.2 q.2 = true → i < j := by
      intro i j p q h1 h2 h3 h4
      have z4 := of_decide_eq_true h4
      rcases Nat.lt_trichotomy i j with h | h | h
      · exact h
      · subst h
        rw [h1] at h2
        rw [Option.some.inj h2] at z4
        exact (lex_asym z4 z4).elim
      · have z := S j i h h3
        have x1 : xyOf aw ps i = shiftP aw p.2 := by unfold xyOf; rw [h1]
        have x2 : xyOf aw ps j = shiftP aw q.2 := by unfold xyOf; rw [h2]
        rw [x1, x2] at z
        unfold Lx at z
        simp only [shiftP] at z
        exact (lex_asym (lex_shift z4) z).elim
    exact ⟨l1.1, fun h0 h1 h2 => l1.2 h0 ⟨lx hqe hq he h1, lx hq hqs hi h2⟩⟩) := trivial
  unfold id at h9; exact h9.get
example : True := by
  w_top off
  k_with_none
  k_with "inst9" => first | ((with_reducible show InstAt _ (@OfNat.ofNat _ _ _) _ _ _); refine InstAt.of_K (by first | assumption | exact Frag.In.keeps (by k_asm) (Fr.keep (by k_asm))) (by k_is) (by k_is)) | (refine InstAt.of_news (by k_asm) (by k_mem) (by k_mem))
  k_with "e9" => (first | (refine code_def (by k_asm) (by k_asm) (by k_asm) (by k_asm) (by k_asm) rfl rfl (by first | exact rfl | assumption) (by k_is) (by k_is) (by ktr_room) (by first | exact BindsTo.of_eq rfl | refine kp_binds (by k_in) (by exact fun _ => rfl)) (by exact locs rfl) ?_ (by exact rfl) (by exact rfl) (by exact rfl) (by decide); k_whole; intro _ _ _ _ _ _ _ _ _; (try dsimp only); (try k_fold)) | (refine code_defC (by k_asm) (by k_asm) (by k_asm) (by k_asm) (by k_asm) rfl rfl (by first | exact rfl | assumption) (by k_is) (by k_is) (by ktr_room) (by first | exact BindsTo.of_eq rfl | refine kp_binds (by k_in) (by exact fun _ => rfl)) (by exact rfl) (by decide +kernel) ?_ (by exact rfl) (by exact rfl) (by exact rfl); k_whole; intro _ _ _ _ _ _ _ N' Y' _ _ _ l1; (try k_lt l1); (try dsimp only); (try k_fold); (first | k_cells Y' | (obtain ⟨_, _, _, _, _, hE', _, _, _, _, _⟩ := cells_five Y'; subst hE'; clear Y')); (try simp only [List.cons_append, List.nil_append] at N'); (try dsimp only); (try k_fold); (try (revert N'; intro _)); (try (revert l1; intro _))))
  k_with "ne9" => (refine neN ?_; (try dsimp only); with_reducible first | exact neU1 | exact neU2 | exact neU3 | exact neU4 | exact neD1 | exact neD2 | exact neD3 | exact neD4 | exact Nat.ne_of_gt ‹_› | exact Nat.ne_of_lt ‹_› | exact gtA1 ‹_› | exact Ne.symm (gtA1 ‹_›) | exact gtA2 ‹_› | exact Ne.symm (gtA2 ‹_›) | exact gtA3 ‹_› | exact Ne.symm (gtA3 ‹_›) | exact gtA4 ‹_› | exact Ne.symm (gtA4 ‹_›) | exact gtA5 ‹_› | exact Ne.symm (gtA5 ‹_›) | exact gtA6 ‹_› | exact Ne.symm (gtA6 ‹_›) | exact gtA7 ‹_› | exact Ne.symm (gtA7 ‹_›) | exact gtA8 ‹_› | exact Ne.symm (gtA8 ‹_›) | exact gtA9 ‹_› | exact Ne.symm (gtA9 ‹_›) | exact gtA10 ‹_› | exact Ne.symm (gtA10 ‹_›) | exact gtA11 ‹_› | exact Ne.symm (gtA11 ‹_›) | exact gtA12 ‹_› | exact Ne.symm (gtA12 ‹_›))
  k_with "room9" => (first | exact room2 ‹_› (by exact rfl) | exact room1 ‹_› (by exact rfl) | exact room0 ‹_›)
  k_with "units9" => (first | exact unit2 ‹_› (by exact rfl) | exact unit1 ‹_› (by exact rfl) | exact unit0 ‹_›)
  k_with "mem9" => (first | with_reducible assumption | with_reducible exact at0 | with_reducible exact at1 | with_reducible exact at2 | with_reducible exact at3 | with_reducible exact at4 | with_reducible exact at5 | with_reducible exact at6 | with_reducible exact at7 | with_reducible exact at8 | with_reducible exact at9 | with_reducible exact at10 | with_reducible exact at11 | with_reducible exact at12 | with_reducible exact at13 | with_reducible exact at14 | exact up1 (by with_reducible assumption) | exact up2 (by with_reducible assumption) | exact up3 (by with_reducible assumption) | exact up4 (by with_reducible assumption) | exact up5 (by with_reducible assumption) | exact up6 (by with_reducible assumption) | assumption)
  k_with "mul9" => (first | exact Bd.ok1 ‹_› ‹_› ‹_› ‹_› | exact Bd.ok2 ‹_› ‹_› ‹_› ‹_› ‹_› ‹_› ‹_› ‹_› ‹_› ‹_› ‹_› ‹_› ‹_› ‹_› ‹_› ‹_›)
  k_with "ne9" => (refine neN ?_; (try dsimp only); with_reducible first | exact neU1 | exact neU2 | exact neU3 | exact neU4 | exact neD1 | exact neD2 | exact neD3 | exact neD4 | exact Nat.ne_of_gt ‹_› | exact Nat.ne_of_lt ‹_› | exact gtA1 ‹_› | exact Ne.symm (gtA1 ‹_›) | exact gtA2 ‹_› | exact Ne.symm (gtA2 ‹_›) | exact gtA3 ‹_› | exact Ne.symm (gtA3 ‹_›) | exact gtA4 ‹_› | exact Ne.symm (gtA4 ‹_›) | exact gtA5 ‹_› | exact Ne.symm (gtA5 ‹_›) | exact gtA6 ‹_› | exact Ne.symm (gtA6 ‹_›) | exact gtA7 ‹_› | exact Ne.symm (gtA7 ‹_›) | exact gtA8 ‹_› | exact Ne.symm (gtA8 ‹_›) | exact gtA9 ‹_› | exact Ne.symm (gtA9 ‹_›) | exact gtA10 ‹_› | exact Ne.symm (gtA10 ‹_›) | exact gtA11 ‹_› | exact Ne.symm (gtA11 ‹_›) | exact gtA12 ‹_› | exact Ne.symm (gtA12 ‹_›) | exact neA1 ‹_› | exact Ne.symm (neA1 ‹_›) | exact neA2 ‹_› | exact Ne.symm (neA2 ‹_›) | exact neA3 ‹_› | exact Ne.symm (neA3 ‹_›) | exact neA4 ‹_› | exact Ne.symm (neA4 ‹_›) | exact neA5 ‹_› | exact Ne.symm (neA5 ‹_›) | exact neA6 ‹_› | exact Ne.symm (neA6 ‹_›) | exact neA7 ‹_› | exact Ne.symm (neA7 ‹_›) | exact neA8 ‹_› | exact Ne.symm (neA8 ‹_›) | exact neA9 ‹_› | exact Ne.symm (neA9 ‹_›) | (refine Nat.ne_of_gt (Nat.lt_trans ?_ ‹_›); first | exact ltA1 ‹_› | exact ltA2 ‹_› | exact ltA3 ‹_› | exact ltA4 ‹_› | exact ltA5 ‹_› | exact ltA6 ‹_› | exact ltA7 ‹_› | exact ltA8 ‹_› | exact ltA9 ‹_› | exact ltA10 ‹_› | exact ltA11 ‹_› | exact ltA12 ‹_›) | (refine Nat.ne_of_lt (Nat.lt_trans ?_ ‹_›); first | exact ltA1 ‹_› | exact ltA2 ‹_› | exact ltA3 ‹_› | exact ltA4 ‹_› | exact ltA5 ‹_› | exact ltA6 ‹_› | exact ltA7 ‹_› | exact ltA8 ‹_› | exact ltA9 ‹_› | exact ltA10 ‹_› | exact ltA11 ‹_› | exact ltA12 ‹_›))
  k_with "all9" => (first | assumption | refine neAbove ‹_› (by (try dsimp only); omega))
  k_with "eval BinOp" => w_strict (k_fold)
  k_with "eval Attribute Name" => w_strict (k_fold)
  k_with "eval Subscript" => w_strict (k_fold)
  k_with "eval Attribute Attribute" => w_strict (k_fold)
  k_with "getAttr ref" => w_strict (k_fold)
  k_with "call ref" => w_strict (k_here; (with_reducible show wpAny _ _ (call (Value.ref 556) [Value.ref _] _) _ _ _); k_dflt (refine g_halves (by k_asm) (by k_asm) (by k_asm) (by k_asm) (by k_asm) (by first | exact rfl | assumption) ‹_› ‹_› (by omega) (by ktr_room) (by ktr_units) ?_; k_whole); intro _ _ _ _ _ _ _ _ _ _ _ _ _ _ _ _ _ _ _ _ _ _ _ _ _ _)
  trivial
theorem bare_nil {gs : Array GenState} (h : gs = #[]) : AllBare gs := fun y hy => by rw [h] at hy; simp at hy
theorem refs_split (ps : List PP) (k : Nat) : (refs (ps.take k)).toArray.toList ++ (refs (ps.drop k)).toArray.toList = refs ps := by rw [refs_append, List.take_append_drop]
example : True := by
  k_with "compareOp NotIn ref ref" => w_strict (k_here; k_dflt (refine notin_hit (by ktr_units) (by k_asm) (by exact mtl _ (mtl _ (mtl _ ‹_›))) (by intro z9 hz9; refine TupAt.mono ?_ (fun p9 hp9 => mcm _ (mcm _ (mcm _ hp9))); revert z9 hz9; assumption) (by first | exact mhd _ | exact mtl _ (mhd _) | exact mtl _ (mtl _ (mhd _))) ‹_› ?_; k_whole))
  k_with "binaryOp Add ref ref" => w_strict (k_here; (with_reducible show wpAny _ _ (binaryOp _ (Value.ref _) (Value.ref _)) _ _ _); k_dflt (refine kmk_add_lit (by k_asm) (by k_asm) (by exact listAt (by k_asm) (mtl _ (mtl _ (mtl _ ‹_›)))) (by exact listAt (by k_asm) (mtl _ (mtl _ (mtl _ ‹_›)))) (by exact refs_split _ _) ?_ (by simp only [List.size_toArray, refs_length, List.length_take, List.length_drop, sizeLine_eq]; omega)); intro _ _ _ _ l1; (try k_lt l1); (try k_sweep); (try (revert l1; intro _)))
  k_with "exec For Name BinOp cons nil" => w_strict (k_here; (rename Fr _ _ _ _ => lF'); (with_unfolding_all refine For_invVF lF' (by exact rfl) (by exact rfl) ?_; k_whole))
  k_with "pyIter ref" => w_strict (k_here; (with_reducible show wpAny _ _ (pyIter _) _ _ _); refine Halt.of ?_)
  k_with "call ref" => w_strict (k_here; first | ((with_reducible show wpAny _ _ (call (Value.ref 561) [Value.ref _, Value.int _ _, Value.ref _] _) _ _ _); refine Halt.of ?_) | ((with_reducible show wpAny _ _ (call (Value.ref 499) [Value.ref _, Value.ref _] _) _ _ _); refine Halt.of ?_))
  k_with "getAttr ref" => w_strict (k_here; (with_reducible show wpAny _ _ (getAttr (Value.ref _) (Str.ofString "start") _) _ _ _); k_dflt (refine g_start (by k_asm) (by k_asm) (by k_asm) (by k_asm) (by k_asm) (by first | exact rfl | assumption) (by (first | assumption | exact Rep.mono ‹_› (by intro p9 hp9; first | exact mtl _ hp9 | exact mtl _ (mtl _ hp9) | exact mtl _ (mtl _ (mtl _ hp9))))) (by (first | assumption | exact Step.up ‹_› ‹_›)) ‹_› (by ktr_room) ?_; k_whole); intro _ _ _ _ _ _; (try k_sweep))
  k_with "getAttr ref" => w_strict (k_here; (with_reducible show wpAny _ _ (getAttr (Value.ref _) (Str.ofString "end") _) _ _ _); k_dflt (refine g_end (by k_asm) (by k_asm) (by k_asm) (by k_asm) (by k_asm) (by first | exact rfl | assumption) (by (first | assumption | exact Rep.mono ‹_› (by intro p9 hp9; first | exact mtl _ hp9 | exact mtl _ (mtl _ hp9) | exact mtl _ (mtl _ (mtl _ hp9))))) (by (first | assumption | exact Step.up ‹_› ‹_›)) ‹_› (by ktr_room) ?_; k_whole); intro _ _ _ _ _ _; (try k_sweep))
  k_with "getAttr ref" => w_strict (k_here; (with_reducible show wpAny _ _ (getAttr (Value.ref _) (Str.ofString "x") _) _ _ _); k_dflt (refine g_ptx (by k_asm) (by k_asm) (by k_asm) (by k_asm) (by k_asm) (by first | exact rfl | assumption) (by (first | assumption | exact Rep.mono ‹_› (by intro p9 hp9; first | exact mtl _ hp9 | exact mtl _ (mtl _ hp9) | exact mtl _ (mtl _ (mtl _ hp9))))) ‹_› (by ktr_room) (by ktr_units) ?_; k_whole); intro _ _ _ _ _; (try k_sweep))
  k_with "getAttr ref" => w_strict (k_here; (with_reducible show wpAny _ _ (getAttr (Value.ref _) (Str.ofString "y") _) _ _ _); k_dflt (refine g_pty (by k_asm) (by k_asm) (by k_asm) (by k_asm) (by k_asm) (by first | exact rfl | assumption) (by (first | assumption | exact Rep.mono ‹_› (by intro p9 hp9; first | exact mtl _ hp9 | exact mtl _ (mtl _ hp9) | exact mtl _ (mtl _ (mtl _ hp9))))) ‹_› (by ktr_room) (by ktr_units) ?_; k_whole); intro _ _ _ _ _; (try k_sweep))
  trivial
noncomputable def Mark : Prop := True
theorem kkfacts {k n : Nat} (h2 : 2 ≤ k) (h3 : k + 2 ≤ n) (h7 : n ≤ 7) : k ≤ 5 ∧ 2 ≤ n - k ∧ n - k ≤ 5 ∧ k ≤ n ∧ k + (n - k) = n :=
  ⟨Nat.le_of_add_le_add_right (b := 2) (Nat.le_trans h3 h7), Nat.le_sub_of_add_le (by rw [Nat.add_comm]; exact h3), Nat.sub_le_of_le_add (Nat.le_trans h7 (Nat.add_le_add_left h2 5)), Nat.le_trans (Nat.le_add_right k 2) h3, Nat.add_sub_cancel' (Nat.le_trans (Nat.le_add_right k 2) h3)⟩
theorem Lx_irrefl {p : Int × Int} (h : Lx p p) : False := h.elim (Int.lt_irrefl _) fun z => Int.lt_irrefl _ z.2
theorem small_b {p : Int × Int} (h : Small p) : (-2 ^ 60 < p.1 ∧ p.1 < 2 ^ 60) ∧ (-2 ^ 60 < p.2 ∧ p.2 < 2 ^ 60) := ⟨⟨Int.lt_of_lt_of_le (by decide) h.1, Int.lt_trans h.2.1 (by decide)⟩, Int.lt_of_lt_of_le (by decide) h.2.2.1, Int.lt_trans h.2.2.2 (by decide)⟩
theorem g_turnT {a1 a2 a3 : Addr} {p1 p2 p3 : Int × Int} {t1 t2 t3 t4 t5 t6 : Tok} {T8 : Int} (B : Below A₀ base outer h₀) (F : Fr h₀ L s.heap m) (X : (hd.heap_1 w.params).In h₀) (N : News h₀ L s.heap news) (T : Top p loose mean mg mb h₀) (hk : cs.kind = .function)
   (m1 : (a1, tupObj p1.1 t1 p1.2 t2) ∈ news) (m2 : (a2, tupObj p2.1 t3 p2.2 t4) ∈ news) (m3 : (a3, tupObj p3.1 t5 p3.2 t6) ∈ news)
   (b1 : Small p1) (b2 : Small p2) (b3 : Small p3) (hT : (p2.1 - p1.1) * (p3.2 - p1.2) - (p2.2 - p1.2) * (p3.1 - p1.1) = T8)
   (hroom : dp + 4 < recursionLimit) (hu : un + 50 < cLine)
   (ret : ∀ h' tk' t, Fr h₀ L h' m → News h₀ L h' news → Q (.int T8 t) { s with heap := h', toks := tk' }) : wpAny (model prog w) (ktrTop dp un gd cn cs L a ccd cl outer) (call (.ref 549) [.ref a1, .ref a2, .ref a3]) Q E s := by
  subst hT
  exact g_turn B F X N T hk m1 m2 m3 (small_b b1).1 (small_b b1).2 (small_b b2).1 (small_b b2).2 (small_b b3).1 (small_b b3).2 hroom hu ret
example : True := by
  k_with "call ref" => w_strict (k_here; (with_reducible show wpAny _ _ (call (Value.ref 549) [Value.ref _, Value.ref _, Value.ref _] _) _ _ _); k_dflt (refine g_turnT (by k_asm) (by k_asm) (by k_asm) (by k_asm) (by k_asm) (by first | exact rfl | assumption) ‹_› ‹_› ‹_› ‹_› ‹_› ‹_› ‹_› (by ktr_room) (by ktr_units) ?_; k_whole); intro _ _ _ _ _; (try k_sweep))
  k_with "compareOp Lt ref ref" => w_strict (k_here; (with_reducible show wpAny _ _ (compareOp _ (Value.ref _) (Value.ref _)) _ _ _); k_dflt (refine tup_lt (by ktr_units) (by k_asm) ‹_› ‹_› ?_; k_whole))
  k_with "exec If" => w_strict (k_here; (fail_if_success (have : Mark := by assumption)); refine Halt.of ?_)
  trivial
theorem end_ok {c : ClaimW} {cl : Str → Option Addr} {mean : ExcName → Option Value} {args : List WData} {s₁ : Shared} {h : Heap} {L : Addr} {m : Str → Option Value} {g : Array GenState} {d : Drawn} {t : Nat} (F : Fr s₁.heap L h m) (hr : ∀ cls, c.raises args cls = false) (hp : c.post args (.bool true) args = true) (hb : AllBare g) :
    GoodWG c cl mean args s₁ (.ok (.ret (.bool true))) ⟨h, g, d, t, s₁.os⟩ :=
  ⟨.inl ⟨_, _, [], rfl, hr, ReadsW.bool true, hp, fun _ => ⟨List.nodup_nil, fun _ hm => (nomatch hm)⟩⟩, .of_keep F.keep, rfl, hb⟩
theorem law_walk : PySem.Challenge.rw_ja0046_01.Holds := by
  obtain h9 : Tag9 (P := PySem.Challenge.rw_ja0046_01.Holds) (
    hd (by
    k_fill
    intro w s₀ s₁ mg mb G Y fa o pm cd doc dV kV ho hdv hcd hD hmg hg args vals as hpre hlay hrd hwl hlo
    have KX := kIn_of Y
    have X := (Ground.X G).1
    have V := (Ground.X G).2
    have GL := glob_more (Ground.glob G (by decide +kernel) (by decide +kernel)) V
    refine Ground.open G ?_
    intro T B D TE TW
    try (refine guard_noD D (by decide +kernel) ?_; clear D)
    obtain ⟨_, _, M⟩ := bmod_of_top T
    have TA := at_of_top T
    obtain ⟨_, _, he, B0⟩ := based_of_top T rfl hmg ho hdv
    have he' : cd = _ := he
    subst he'
    clear he
    clear hmg
    wrow_args hpre hlay hrd hwl hlo
    refine enter_call ?_
    w_top on
    have K0 := below_caller (Top.heap T)
    w_call any ho hdv hcd hD T F
    clear hdv TA
    k_drop
    all_goals try k_fold
    k_steps
    unfold Halt
    rename (News _ _ _ (_ :: _)) => NA
    rename (Fr _ _ _ _) => FA
    rename_i h9 tk9 T9 la lb c1 c2 aw t9 ps kk nw9 mT mla mlb hsub htp hpw hsm hk2 hk3 hk7 haw0 haw4 g5 g4 g3 g2 cx dcx g1 lc1 lc2 g0
    k_with "eval Call" => k_fold
    k_with "eval Call Attribute" => k_fold
    k_with "eval Tuple" => k_fold
    k_with "assignInOrder" => k_fold
    k_with "exec Assign" => k_fold
    k_with "isTrue BoolOp" => k_fold
    k_with "isTrue Compare" => k_fold
    k_with "callWith ref" => k_fold
    k_with "exec Return some" => k_fold
    k_with "exec Expr" => k_fold
    k_with "exec If" => k_fold
    k_with "exec For" => k_fold
    k_with "exec While" => k_fold
    k_with "storeName" => k_fold
    k_with "testChain" => k_fold
    k_with "eval Compare" => k_fold
    k_with "eval BoolOp" => k_fold
    k_with "isTrue" => k_fold
    (try k_fold)
    have NB : News _ _ _ ((cx, instObj 261 dcx) :: (dcx, dictOf [] 0) :: nriF nw9) := fun p hp => by
      rcases List.mem_cons.mp hp with rfl | hp
      · exact NA _ (.head _)
      rcases List.mem_cons.mp hp with rfl | hp
      · exact NA _ (.tail _ (.head _))
      · exact NA _ (.tail _ (.tail _ (mem_nriF.mp hp).1))
    have up : ∀ p ∈ nriF nw9, p ∈ (cx, instObj 261 dcx) :: (dcx, dictOf [] 0) :: nriF nw9 := fun p hp => .tail _ (.tail _ hp)
    have hnri : ∀ p ∈ (cx, instObj 261 dcx) :: (dcx, dictOf [] 0) :: nriF nw9, NRI p.2 := List.forall_mem_cons.mpr ⟨NRI.rf rfl, List.forall_mem_cons.mpr ⟨NRI.ty (T := "dict") rfl (by decide), fun p hp => (mem_nriF.mp hp).2⟩⟩
    have mla' := up _ (mem_nriF.mpr ⟨mla, NRI.ty (T := "list") rfl (by decide)⟩)
    have mlb' := up _ (mem_nriF.mpr ⟨mlb, NRI.ty (T := "list") rfl (by decide)⟩)
    have htp' : ∀ q ∈ ps, TupAt ((cx, instObj 261 dcx) :: (dcx, dictOf [] 0) :: nriF nw9) q.1 q.2 := fun q hq => ((htp q hq).nriF).mono up
    have hcx0 : (cx, instObj 261 dcx) ∈ (cx, instObj 261 dcx) :: (dcx, dictOf [] 0) :: nriF nw9 := .head _
    have hcx1 : (dcx, dictOf [] 0) ∈ (cx, instObj 261 dcx) :: (dcx, dictOf [] 0) :: nriF nw9 := .tail _ (.head _)
    generalize hLED : (cx, instObj 261 dcx) :: (dcx, dictOf [] 0) :: nriF nw9 = LED at NB up hnri mla' mlb' htp' hcx0 hcx1
    have S := xy_srt (aw := aw) hpw
    obtain ⟨k5, n2, n5, kn, hpos⟩ := kkfacts hk2 hk3 hk7
    have e1 : (ps.take kk).length = kk := by rw [List.length_take]; exact Nat.min_eq_left kn
    have e2 : (ps.drop kk).length = ps.length - kk := List.length_drop ..
    obtain ⟨f1, hr1, G1⟩ := hullN (xy := xyOf aw ps) (n := kk) hk2 k5 (S.le kn)
    obtain ⟨f2, hr2, G2⟩ := hullN (xy := fun j => xyOf aw ps (kk + j)) (n := ps.length - kk) n2 n5 (fun i j h1 h2 => S (kk + i) (kk + j) (Nat.add_lt_add_left h1 kk) (hpos ▸ Nat.add_lt_add_left h2 kk))
    clear NA mT mla mlb htp hsub
    k_dflt (refine' g_made (ps := ps.take kk) (xy := xyOf aw ps) (fin := f1) ?B_1 ?F_1 ?X_1 ?N_1 ?T_1 ?hk_1 ?hnri_1 ?ml_1 ?hp_1 ?hpw_1 ?hxy_1 ?hbnd_1 ?h2_1 ?h5_1 ?hcx_1 ?hrun_1 ?room_1 ?hu_1 ?_)
    case B_1 => k_asm
    case F_1 => k_asm
    case X_1 => k_asm
    case T_1 => k_asm
    case hk_1 => rfl
    case room_1 => ktr_room
    case hu_1 => ktr_units
    case N_1 => exact NB
    case hnri_1 => exact hnri
    case ml_1 => exact mla'
    case hp_1 => exact fun q hq => htp' q (List.mem_of_mem_take hq)
    case hpw_1 => exact hpw.sublist (List.take_sublist ..)
    case hxy_1 =>
      intro i q h
      rw [List.getElem?_take] at h
      split at h
      · unfold xyOf; rw [h]
      · cases h
    case hbnd_1 => exact xyOf_bnd haw0 haw4 hsm
    case h2_1 => rw [e1]; exact hk2
    case h5_1 => rw [e1]; exact k5
    case hcx_1 => exact ⟨_, hcx0, hcx1⟩
    case hrun_1 => rw [e1]; exact hr1
    intro h1 tk1 nw1 al1 gs1 pts1 x1 d1 lx1 ld1 rx1 rd1 F1 N1 R1 hl1 keep1 T1 m11 m12 fr1 nri1 bare1
    rw [e1] at hl1
    k_steps
    unfold Halt
    (try k_fold)
    k_dflt (refine' g_made (ps := ps.drop kk) (xy := (fun j => xyOf aw ps (kk + j))) (fin := f2) ?B_2 ?F_2 ?X_2 ?N_2 ?T_2 ?hk_2 ?hnri_2 ?ml_2 ?hp_2 ?hpw_2 ?hxy_2 ?hbnd_2 ?h2_2 ?h5_2 ?hcx_2 ?hrun_2 ?room_2 ?hu_2 ?_)
    case B_2 => k_asm
    case F_2 => k_asm
    case X_2 => k_asm
    case T_2 => k_asm
    case hk_2 => rfl
    case room_2 => ktr_room
    case hu_2 => ktr_units
    case N_2 => exact N1
    case hnri_2 => exact nri1
    case ml_2 => exact (keep1 _ mlb').1
    case hp_2 => exact fun q hq => (htp' q (List.mem_of_mem_drop hq)).mono fun p hp => (keep1 p hp).1
    case hpw_2 => exact hpw.sublist (List.drop_sublist ..)
    case hxy_2 =>
      intro i q h
      rw [List.getElem?_drop] at h
      unfold xyOf; rw [h]
    case hbnd_2 => exact fun k => xyOf_bnd haw0 haw4 hsm (kk + k)
    case h2_2 => rw [e2]; exact n2
    case h5_2 => rw [e2]; exact n5
    case hcx_2 => exact ⟨_, (keep1 _ hcx0).1, (keep1 _ hcx1).1⟩
    case hrun_2 => rw [e2]; exact hr2
    intro h2 tk2 nw2 al2 gs2 pts2 x2 d2 lx2 ld2 rx2 rd2 F2 N2 R2 hl2 keep2 T2 m21 m22 fr2 nri2 bare2
    rw [e2] at hl2
    k_steps
    unfold Halt
    (try k_fold)
    have RJ := R1.append (by rw [hl1]; exact R2) keep2
    rw [hl1] at RJ
    obtain ⟨fin, a, b, hrf, ho1, ho2, hak, hbn, low⟩ := fin_pure (k := kk) (n := ps.length - kk) (xy := xyOf aw ps) (l1 := f1.2.1) (r1 := f1.2.2) (l2 := f2.2.1) (r2 := f2.2.2) (by rw [hpos]; exact S) hk2 n2 R1.wfs R2.wfs G1 G2
    obtain ⟨od1, hod1⟩ := T1.td_mem
    have hd12 : @LT.lt Nat _ d1 d2 := fr2 _ hod1
    have hlen : (pts1 ++ pts2).length = ps.length := by rw [List.length_append, hl1, hl2]; exact hpos
    have hinj := inj_of (pts := pts1 ++ pts2) (xy := xyOf aw ps) hlen (fun i j h1 h2 e => Lx_irrefl (p := xyOf aw ps j) (by have z := S i j h1 h2; rw [e] at z; exact z))
    have q1 : (al1 ++ al2)[f1.2.1]? = some (lx1, ld1) := by rw [List.getElem?_append_left (List.getElem?_eq_some_iff.mp m11).1]; exact m11
    have q2 : (al1 ++ al2)[f1.2.2]? = some (rx1, rd1) := by rw [List.getElem?_append_left (List.getElem?_eq_some_iff.mp m12).1]; exact m12
    have q3 : (al1 ++ al2)[f1.1.length + f2.2.1]? = some (lx2, ld2) := by rw [← R1.len, List.getElem?_append_right (Nat.le_add_right _ _), Nat.add_sub_cancel_left]; exact m21
    have q4 : (al1 ++ al2)[f1.1.length + f2.2.2]? = some (rx2, rd2) := by rw [← R1.len, List.getElem?_append_right (Nat.le_add_right _ _), Nat.add_sub_cancel_left]; exact m22
    k_dflt (refine' g_find (f := kk + (ps.length - kk)) ?B_3 ?F_3 ?X_3 ?N_3 ?T_3 ?hk_3 RJ ⟨T1.mono fun p hp => (keep2 p hp).1, T2, Nat.ne_of_lt hd12⟩ q1 q2 q3 q4 hinj hrf ?room_3 ?hu_3 ?_)
    case B_3 => k_asm
    case F_3 => k_asm
    case X_3 => k_asm
    case N_3 => exact N2
    case T_3 => k_asm
    case hk_3 => rfl
    case room_3 => ktr_room
    case hu_3 => ktr_units
    intro h3 tk3 nw3 al3 b9 bd9 y1 z1 y2 z2 y3 z3 y4 z4 F3 N3 R3 S3 hb3 T3 n1 n2 n3 n4
    have keep3 : ∀ p ∈ LED, p ∈ nw3 := fun p hp => (S3.2 p (keep2 p (keep1 p hp).1).1 (by
      rw [List.map_append, List.mem_append]
      exact fun z => z.elim (keep1 p hp).2 (keep2 p (keep1 p hp).1).2) (by
      intro z
      simp only [List.mem_cons, List.not_mem_nil, or_false] at z
      rcases z with e | e
      · exact absurd e (Nat.ne_of_lt (fr1 p hp))
      · exact absurd e (Nat.ne_of_lt (fr2 p (keep1 p hp).1)))).1
    have mla3 := keep3 _ mla'
    have mlb3 := keep3 _ mlb'
    have htp3 : ∀ q ∈ ps, TupAt nw3 q.1 q.2 := fun q hq => (htp' q hq).mono keep3
    have bareZ : AllBare gs2 := bare2 (bare1 (bare_nil (by assumption)))
    clear R1 R2 RJ T1 T2 T3 keep1 keep2 keep3 N1 N2 NB m11 m12 m21 m22 q1 q2 q3 q4 n1 n2 n3 n4 S3 fr1 fr2 nri1 nri2 hnri hod1 up mla' mlb' htp' hcx0 hcx1 F1 F2 hrf hr1 hr2 G1 G2
    have ho2' : org fin.1 (rot fin.1 (rot fin.1 fin.2.1)) = some a := ho2
    k_steps
    unfold Halt
    (try k_fold)
    rename (News _ _ _ (_ :: _ :: _ :: nw3)) => NS
    rename (Fr _ _ _ _) => FS
    have hb8 : kk + b < ps.length := hpos ▸ Nat.add_lt_add_left hbn kk
    have ha8 : a < ps.length := Nat.lt_of_lt_of_le hak kn
    obtain ⟨qs, hqs⟩ : ∃ q, ps[kk + b]? = some q := ⟨_, List.getElem?_eq_getElem hb8⟩
    obtain ⟨qe, hqe⟩ : ∃ q, ps[a]? = some q := ⟨_, List.getElem?_eq_getElem ha8⟩
    have vs1 : (xyOf aw ps (kk + b)).1 - aw = qs.2.1 := by unfold xyOf; rw [hqs]; dsimp only [shiftP]; first | exact Int.add_sub_cancel .. | exact Int.sub_add_cancel .. | omega
    have vs2 : (xyOf aw ps (kk + b)).2 + aw = qs.2.2 := by unfold xyOf; rw [hqs]; dsimp only [shiftP]; first | exact Int.add_sub_cancel .. | exact Int.sub_add_cancel .. | omega
    have ve1 : (xyOf aw ps a).1 - aw = qe.2.1 := by unfold xyOf; rw [hqe]; dsimp only [shiftP]; first | exact Int.add_sub_cancel .. | exact Int.sub_add_cancel .. | omega
    have ve2 : (xyOf aw ps a).2 + aw = qe.2.2 := by unfold xyOf; rw [hqe]; dsimp only [shiftP]; first | exact Int.add_sub_cancel .. | exact Int.sub_add_cancel .. | omega
    rw [vs1, vs2, ve1, ve2] at NS
    have hit1 : hitB (ps.drop kk) (qs.2.1, qs.2.2) = true := List.any_eq_true.mpr ⟨qs, List.mem_of_getElem? (i := b) (by rw [List.getElem?_drop]; exact hqs), decide_eq_true rfl⟩
    have hit2 : hitB (ps.take kk) (qe.2.1, qe.2.2) = true := List.any_eq_true.mpr ⟨qe, List.mem_of_getElem? (i := a) (by rw [List.getElem?_take, if_pos hak]; exact hqe), decide_eq_true rfl⟩
    have hpd : ∀ q ∈ ps.drop kk, TupAt nw3 q.1 q.2 := fun q hq => htp3 q (List.mem_of_mem_drop hq)
    have hpt : ∀ q ∈ ps.take kk, TupAt nw3 q.1 q.2 := fun q hq => htp3 q (List.mem_of_mem_take hq)
    have hmark : Mark := trivial
    k_steps
    unfold Halt
    (try k_fold)
    clear R3 mla3 mlb3 hpd hpt hinj hb3 ho2' hit1 hit2
    rename (News _ _ _ (_ :: _)) => NZ
    rename (Fr _ _ _ _) => FZ
    refine iter_listK (vs := refs ps) (nn := 0) (x := "place") (y1 := "start") (y2 := "end") rfl FZ NZ rfl rfl (by decide) (by decide) ?turn ?done
    case turn =>
      intro i v u h8 tk8 rest hv F8 N8 hsub8
      obtain ⟨q, hq, rfl⟩ : ∃ q, ps[i]? = some q ∧ v = Value.ref q.1 := by
        unfold refs at hv
        rw [List.getElem?_map] at hv
        match hc : ps[i]?, hv with
        | some q, hv => exact ⟨q, rfl, (Option.some.inj hv).symm⟩
      have mem8 := List.mem_of_getElem? hq
      have ms8 := List.mem_of_getElem? hqs
      have me8 := List.mem_of_getElem? hqe
      obtain ⟨tq, uq, m3⟩ := (htp3 q mem8).mono fun p hp => hsub8 p (.tail _ (.tail _ (.tail _ hp)))
      have m1 := hsub8 _ (.tail _ (.tail _ (.head _)))
      have m2 := hsub8 _ (.tail _ (.head _))
      have law8 := law_plain S low hpos hqs hqe hq
      obtain ⟨T8, hT8⟩ : ∃ T, (qe.2.1 - qs.2.1) * (q.2.2 - qs.2.2) - (qe.2.2 - qs.2.2) * (q.2.1 - qs.2.1) = T := ⟨_, rfl⟩
      rw [hT8] at law8
      have sq8 := hsm q mem8
      have ss8 := hsm qs ms8
      have se8 := hsm qe me8
      clear FZ NZ hsub8 htp3 low S hv hsm
      k_steps
      all_goals first
        | exact absurd (by assumption) (Int.not_lt.mpr law8.1)
        | exact (law8.2 (by assumption) (decide_eq_true (by assumption)) (decide_eq_true (by assumption))).elim
        | exact KP.mk (by k_asm) (by k_asm) rfl rfl (fun _ h => h)
    case done =>
      intro h8 tk8 u8 rest8 F8 N8
      clear FZ NZ
      k_steps
      show GoodWG _ _ _ _ _ (Except.ok (Flow.ret (Value.bool true))) _
      refine end_ok F8 (fun _ => rfl) ?_ bareZ
      first | kc_post | wrow_post)) := trivial
  unfold id at h9; exact h9.get
end
end Mine
theorem PySem.Challenge.cw_ja0046_01_holds : PySem.Challenge.rw_ja0046_01.Holds :=
  Mine.law_walk
